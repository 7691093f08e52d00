import JvmDerived
import JvmDerived.Pilot.@@N@@Statement
import JvmDerived.Pilot.@@N@@Code
set_option linter.unusedVariables false
set_option linter.unusedSimpArgs false
/- laws to paste: Road.backV, Road.lenW, Road.chN, Road.codOf (cut by pick.py; bodies as the Statement names them) -/
namespace Jvm.Pilot.@@N@@
namespace StrChars
open Jvm Sem ClassFile Op Lib Jvm.Stand Jvm.Free.XT Jvm.Free.ALB Jvm.Free.JM Jvm.Free
open Jvm.Lib.Cold (StaticIs)
/-- a char array whose places are chars -/
def Ch (a : Addr) (A : Cell) (U : State) : Prop := Arr .char a A U ∧ Typed .char A
theorem Ch.mv {a : Addr} {A : Cell} {U U' : State} (h : Ch a A U) (hal : U.vm.Alike U'.vm) (hh : U'.heap = U.heap) : Ch a A U' := ⟨h.1.mv hal hh, h.2⟩
theorem Ch.keep {a : Addr} {A : Cell} {U U' : State} (h : Ch a A U) (hal : U.vm.Alike U'.vm) (hk : U'.heap[a]? = some A) : Ch a A U' := ⟨h.1.keep hal hk, h.2⟩
/-- what place i of a char[]'s cell holds -/
def cv (A : Cell) (i : Nat) : Int32 := match A.slots[i]? with | some (.int x) => x | _ => 0
theorem Ch.get {a : Addr} {A : Cell} {U : State} (h : Ch a A U) {i : Nat} (hi : i < A.slots.size) : A.slots[i]? = some (.int (cv A i)) := by
  have e := Array.getElem?_eq_getElem hi
  have f := h.2 i _ e
  unfold cv; rw [e]
  generalize A.slots[i] = v at f
  cases v <;> simp [fits] at f ⊢
/-- the byte that i2b leaves of a char -/
def lo8 (x : Int32) : Int32 := x.toInt8.toInt32
theorem fits_lo8 (y : Int32) : fits .byte (.int (lo8 y)) = true := by
  have h1 := y.toInt8.le_toInt
  have h2 := y.toInt8.toInt_lt
  simp only [lo8, fits, Bool.and_eq_true, decide_eq_true_eq, Int32.le_iff_toInt_le, Int8.toInt_toInt32, show (-128 : Int32).toInt = -128 from by decide, show (127 : Int32).toInt = 127 from by decide]
  omega
/-- A' is A but that each place j of lo .. hi - 1 holds f j -/
def Laid (A A' : Cell) (lo hi : Nat) (f : Nat → Value) : Prop := A'.cls = A.cls ∧ A'.vm = A.vm ∧ A'.slots.size = A.slots.size ∧ ∀ i, A'.slots[i]? = if lo ≤ i ∧ i < hi then some (f i) else A.slots[i]?
theorem Laid.zero (A : Cell) (lo : Nat) (f : Nat → Value) : Laid A A lo (lo + 0) f := ⟨rfl, rfl, rfl, fun i => by rw [if_neg (by omega)]⟩
theorem Laid.step {A Ak : Cell} {lo k : Nat} {f : Nat → Value} {v : Value} (h : Laid A Ak lo k f) (hlo : lo ≤ k) (hk : k < Ak.slots.size) (hv : v = f k) : Laid A (Ak.setSlot k v) lo (k + 1) f := by
  refine ⟨h.1, h.2.1, by simpa [Cell.setSlot] using h.2.2.1, fun i => ?_⟩
  by_cases e : k = i
  · subst e; rw [Cell.slots_setSlot_self v hk, if_pos (by omega), hv]
  · rw [Cell.slots_setSlot_ne v e, h.2.2.2 i]
    by_cases q : lo ≤ i ∧ i < k
    · rw [if_pos q, if_pos (by omega)]
    · rw [if_neg q, if_neg (by omega)]
def U16 : String := "java/lang/StringUTF16"
namespace Cmp5
def yN : MethodName := ⟨"java/lang/StringUTF16", "compress", "([CI[BII)I"⟩
abbrev yB : ByteArray := jdk_52_method_21_code
theorem d0 : decode yB 0 = .ok (.iconst 0, 1) := by decide +kernel
theorem d1 : decode yB 1 = .ok (.istore 5, 2) := by decide +kernel
theorem d3 : decode yB 3 = .ok (.iload 5, 2) := by decide +kernel
theorem d5 : decode yB 5 = .ok (.iload 4, 2) := by decide +kernel
theorem d7 : decode yB 7 = .ok (.if_icmp (.ge) 37, 3) := by decide +kernel
theorem d10 : decode yB 10 = .ok (.aload_n 0, 1) := by decide +kernel
theorem d11 : decode yB 11 = .ok (.iload_n 1, 1) := by decide +kernel
theorem d12 : decode yB 12 = .ok (.caload, 1) := by decide +kernel
theorem d13 : decode yB 13 = .ok (.istore 6, 2) := by decide +kernel
theorem d15 : decode yB 15 = .ok (.iload 6, 2) := by decide +kernel
theorem d17 : decode yB 17 = .ok (.sipush 255, 3) := by decide +kernel
theorem d20 : decode yB 20 = .ok (.if_icmp (.le) 6, 3) := by decide +kernel
theorem d26 : decode yB 26 = .ok (.aload_n 2, 1) := by decide +kernel
theorem d27 : decode yB 27 = .ok (.iload_n 3, 1) := by decide +kernel
theorem d28 : decode yB 28 = .ok (.iload 6, 2) := by decide +kernel
theorem d30 : decode yB 30 = .ok (.i2b, 1) := by decide +kernel
theorem d31 : decode yB 31 = .ok (.bastore, 1) := by decide +kernel
theorem d32 : decode yB 32 = .ok (.iinc 1 1, 3) := by decide +kernel
theorem d35 : decode yB 35 = .ok (.iinc 3 1, 3) := by decide +kernel
theorem d38 : decode yB 38 = .ok (.iinc 5 1, 3) := by decide +kernel
theorem d41 : decode yB 41 = .ok (.goto (-38), 3) := by decide +kernel
theorem d44 : decode yB 44 = .ok (.iload 4, 2) := by decide +kernel
theorem d46 : decode yB 46 = .ok (.ireturn, 1) := by decide +kernel
def site : List Cond := []
def tab : Cond := tabOf yN yB 7 (some .int) site
def P (b : Addr) (A : Cell) (d : Addr) (B : Cell) (o q len : Nat) (args : Array Value) (s : State) : Prop := args = #[.ref b, .int (Int32.ofNat o), .ref d, .int (Int32.ofNat q), .int (Int32.ofNat len)] ∧ Ch b A s ∧ Arr .byte d B s ∧ b ≠ d ∧ o + len ≤ A.slots.size ∧ q + len ≤ B.slots.size ∧ ∀ i, i < len → ¬ 255 < cv A (o + i)
def E (b : Addr) (A : Cell) (d : Addr) (B : Cell) (o q len : Nat) (r : Option Value) (s u : State) : Prop := r = some (.int (Int32.ofNat len)) ∧ ∃ B', Put d B' s u ∧ Laid B B' q (q + len) (fun j => Value.int (lo8 (cv A (o + (j - q)))))
/-- no char of the range above 255: len; the places written hold each char's low byte -/
theorem law (l : Launch) (b : Addr) (A : Cell) (d : Addr) (B : Cell) (o q len : Nat) : Law l yN 5 5 0 0 yB 7 (some .int) site (P b A d B o q len) (E b A d B o q len) (copyLocs d q len) 0 0 := by
  refine Law.of_walk (plainFor_of_name (by decide +kernel)) (by decide +kernel) (by decide +kernel) (by decide) (fun _ _ h => by rw [h.1]; rfl) (fun _ U U' hal hh h => ⟨h.1, h.2.1.mv hal hh, h.2.2.1.mv hal hh, h.2.2.2⟩) (fun r U U' V V' h1 hal h2 h => ⟨h.1, h.2.elim fun B' q => ⟨B', q.1.mv h1 h2, q.2⟩⟩) ?_
  intro p e s m args below meth c s₁ X0 hexec hbytes hml hret hlk hnm hown hh0 W hP
  obtain ⟨rfl, hA, hB, hne, l1, l2, hp⟩ := hP
  have c1 : Steps p.tables e below (s₁.setTop (entryFrame m #[.ref b, .int (Int32.ofNat o), .ref d, .int (Int32.ofNat q), .int (Int32.ofNat len)] 7)) (s₁.setTop (mkF m 0 #[.val (.ref b), .val (.int (Int32.ofNat o)), .val (.ref d), .val (.int (Int32.ofNat q)), .val (.int (Int32.ofNat len)), .unset, .unset] [])) := entry rfl
  have hA0 := hA.1.mv X0.warmed.alike hh0
  have hB0 := hB.mv X0.warmed.alike hh0
  have a31 := hA.1.2.2.2
  have c2 : Steps p.tables e below (s₁.setTop (entryFrame m #[.ref b, .int (Int32.ofNat o), .ref d, .int (Int32.ofNat q), .int (Int32.ofNat len)] 7)) (s₁.setTop (mkF m 3 #[.val (.ref b), .val (.int (Int32.ofNat o)), .val (.ref d), .val (.int (Int32.ofNat q)), .val (.int (Int32.ofNat len)), .val (.int 0), .unset] [])) := c1.trans (by
    refine iconstV X0.here hexec rfl 0 (hb hbytes d0) (by decide) ?_
    refine XS.istore X0.here hexec rfl (hb hbytes d1) rfl rfl ?_
    exact Steps.refl _)
  have loop : ∀ (r i : Nat), i + r = len → ∀ (z : Slot), (z = .unset ∨ ∃ w, z = .val w ∧ w.category = 1) → ∀ (Tl : State) (Bk : Cell), Stand p l e { frames := 0, locals := 0, cells := 0, slots := 0 } s m #[.ref b, .int (Int32.ofNat o), .ref d, .int (Int32.ofNat q), .int (Int32.ofNat len)] below meth c Tl ([] ++ copyLocs d q i) 0 0 → Put d Bk s₁ Tl → Laid B Bk q (q + i) (fun j => Value.int (lo8 (cv A (o + (j - q))))) →
      Steps p.tables e below (s₁.setTop (entryFrame m #[.ref b, .int (Int32.ofNat o), .ref d, .int (Int32.ofNat q), .int (Int32.ofNat len)] 7)) (Tl.setTop (mkF m 3 #[.val (.ref b), .val (.int (Int32.ofNat (o + i))), .val (.ref d), .val (.int (Int32.ofNat (q + i))), .val (.int (Int32.ofNat len)), .val (.int (Int32.ofNat i)), z] [])) → ∃ (T' : State) (B' : Cell) (z' : Slot), Stand p l e { frames := 0, locals := 0, cells := 0, slots := 0 } s m #[.ref b, .int (Int32.ofNat o), .ref d, .int (Int32.ofNat q), .int (Int32.ofNat len)] below meth c T' ([] ++ copyLocs d q len) 0 0 ∧ Put d B' s₁ T' ∧ Laid B B' q (q + len) (fun j => Value.int (lo8 (cv A (o + (j - q))))) ∧
      Steps p.tables e below (s₁.setTop (entryFrame m #[.ref b, .int (Int32.ofNat o), .ref d, .int (Int32.ofNat q), .int (Int32.ofNat len)] 7)) (T'.setTop (mkF m 3 #[.val (.ref b), .val (.int (Int32.ofNat (o + len))), .val (.ref d), .val (.int (Int32.ofNat (q + len))), .val (.int (Int32.ofNat len)), .val (.int (Int32.ofNat len)), z'] [])) := by
    intro r
    induction r with
    | zero =>
      intro i hi z hz Tl Bk Xl pl fl cl
      have hil : i = len := by omega
      rw [hil] at Xl fl cl
      exact ⟨Tl, Bk, z, Xl, pl, fl, cl⟩
    | succ r ih =>
      intro i hi z hz Tl Bk Xl pl fl cl
      have all := X0.warmed.alike.symm.trans Xl.warmed.alike
      have hAl := hA0.keep all (pl.other hne hA0.1)
      have hBk := hB0.like all pl.1 fl.1 fl.2.1 fl.2.2.1
      have hlt : q + i < Bk.slots.size := by rw [fl.2.2.1]; omega
      have c3 : Steps p.tables e below (s₁.setTop (entryFrame m #[.ref b, .int (Int32.ofNat o), .ref d, .int (Int32.ofNat q), .int (Int32.ofNat len)] 7)) (Tl.setTop (mkF m 12 #[.val (.ref b), .val (.int (Int32.ofNat (o + i))), .val (.ref d), .val (.int (Int32.ofNat (q + i))), .val (.int (Int32.ofNat len)), .val (.int (Int32.ofNat i)), z] [.int (Int32.ofNat (o + i)), .ref b])) := cl.trans (by
        refine XS.iload Xl.here hexec rfl (hb hbytes d3) rfl ?_
        refine XS.iload Xl.here hexec rfl (hb hbytes d5) rfl ?_
        refine XS.icmpNo Xl.here hexec rfl (hb hbytes d7) rfl (ii_ge_f (lt32 (by omega) (by omega))) ?_
        refine XS.aloadN Xl.here hexec rfl (hb hbytes d10) rfl rfl ?_
        refine XS.iloadN Xl.here hexec rfl (hb hbytes d11) rfl ?_
        exact Steps.refl _)
      have c4 : Steps p.tables e below (s₁.setTop (entryFrame m #[.ref b, .int (Int32.ofNat o), .ref d, .int (Int32.ofNat q), .int (Int32.ofNat len)] 7)) (Tl.setTop (mkF m 13 #[.val (.ref b), .val (.int (Int32.ofNat (o + i))), .val (.ref d), .val (.int (Int32.ofNat (q + i))), .val (.int (Int32.ofNat len)), .val (.int (Int32.ofNat i)), z] [.int (cv A (o + i))])) := c3.trans (by
        refine Xl.aget hexec hAl rfl (hA.get (i := o + i) (by omega)) rfl rfl (hb hbytes d12) ?_
        exact Steps.refl _)
      have c5 : Steps p.tables e below (s₁.setTop (entryFrame m #[.ref b, .int (Int32.ofNat o), .ref d, .int (Int32.ofNat q), .int (Int32.ofNat len)] 7)) (Tl.setTop (mkF m 15 #[.val (.ref b), .val (.int (Int32.ofNat (o + i))), .val (.ref d), .val (.int (Int32.ofNat (q + i))), .val (.int (Int32.ofNat len)), .val (.int (Int32.ofNat i)), .val (.int (cv A (o + i)))] [])) := c4.trans (by
        refine XS.istoreS Xl.here hexec rfl (hb hbytes d13) rfl rfl hz ?_
        exact Steps.refl _)
      have c6 : Steps p.tables e below (s₁.setTop (entryFrame m #[.ref b, .int (Int32.ofNat o), .ref d, .int (Int32.ofNat q), .int (Int32.ofNat len)] 7)) (Tl.setTop (mkF m 31 #[.val (.ref b), .val (.int (Int32.ofNat (o + i))), .val (.ref d), .val (.int (Int32.ofNat (q + i))), .val (.int (Int32.ofNat len)), .val (.int (Int32.ofNat i)), .val (.int (cv A (o + i)))] [.int (lo8 (cv A (o + i))), .int (Int32.ofNat (q + i)), .ref d])) := c5.trans (by
        refine XS.iload Xl.here hexec rfl (hb hbytes d15) rfl ?_
        refine sipushV Xl.here hexec rfl 255 (hb hbytes d17) (by decide) ?_
        refine XS.icmpYes Xl.here hexec rfl (pc0 := 20) rfl (hb hbytes d20) rfl (ii_le_t (hp i (by omega))) (by decide) rfl ?_
        refine XS.aloadN Xl.here hexec rfl (hb hbytes d26) rfl rfl ?_
        refine XS.iloadN Xl.here hexec rfl (hb hbytes d27) rfl ?_
        refine XS.iload Xl.here hexec rfl (hb hbytes d28) rfl ?_
        refine i2b Xl.here hexec rfl (hb hbytes d30) rfl ?_
        exact Steps.refl _)
      obtain ⟨T7, X7, p7, st7⟩ := Xl.aput hexec hBk rfl hlt rfl (fits_lo8 (cv A (o + i))) (g := (mkF m 31 #[.val (.ref b), .val (.int (Int32.ofNat (o + i))), .val (.ref d), .val (.int (Int32.ofNat (q + i))), .val (.int (Int32.ofNat len)), .val (.int (Int32.ofNat i)), .val (.int (cv A (o + i)))] [.int (lo8 (cv A (o + i))), .int (Int32.ofNat (q + i)), .ref d])) rfl (rest := []) rfl (hb hbytes d31)
      have c8 : Steps p.tables e below (s₁.setTop (entryFrame m #[.ref b, .int (Int32.ofNat o), .ref d, .int (Int32.ofNat q), .int (Int32.ofNat len)] 7)) (T7.setTop (mkF m 32 #[.val (.ref b), .val (.int (Int32.ofNat (o + i))), .val (.ref d), .val (.int (Int32.ofNat (q + i))), .val (.int (Int32.ofNat len)), .val (.int (Int32.ofNat i)), .val (.int (cv A (o + i)))] [])) := c6.trans (st7 _ (Steps.refl _))
      have c9 : Steps p.tables e below (s₁.setTop (entryFrame m #[.ref b, .int (Int32.ofNat o), .ref d, .int (Int32.ofNat q), .int (Int32.ofNat len)] 7)) (T7.setTop (mkF m 3 #[.val (.ref b), .val (.int (Int32.ofNat (o + i) + 1)), .val (.ref d), .val (.int (Int32.ofNat (q + i) + 1)), .val (.int (Int32.ofNat len)), .val (.int (Int32.ofNat i + 1)), .val (.int (cv A (o + i)))] [])) := c8.trans (by
        refine iincV X7.here hexec rfl 1 (hb hbytes d32) (by decide) rfl rfl ?_
        refine iincV X7.here hexec rfl 1 (hb hbytes d35) (by decide) rfl rfl ?_
        refine iincV X7.here hexec rfl 1 (hb hbytes d38) (by decide) rfl rfl ?_
        refine XS.goto X7.here hexec rfl (pc0 := 41) rfl (hb hbytes d41) (by decide) rfl ?_
        exact Steps.refl _)
      have c10 : Steps p.tables e below (s₁.setTop (entryFrame m #[.ref b, .int (Int32.ofNat o), .ref d, .int (Int32.ofNat q), .int (Int32.ofNat len)] 7)) (T7.setTop (mkF m 3 #[.val (.ref b), .val (.int (Int32.ofNat (o + (i + 1)))), .val (.ref d), .val (.int (Int32.ofNat (q + (i + 1)))), .val (.int (Int32.ofNat len)), .val (.int (Int32.ofNat (i + 1))), .val (.int (cv A (o + i)))] [])) := by
        have := c9
        rw [succ32, succ32, succ32] at this
        exact this
      exact ih (i + 1) (by omega) _ (Or.inr ⟨_, rfl, rfl⟩) T7 _ (by rw [copyLocs_step, ← List.append_assoc]; exact X7) (pl.trans p7) (fl.step (by omega) hlt (by simp)) c10
  obtain ⟨T9, B9, z9, X9, p9, f9, g9⟩ := loop len 0 (by omega) .unset (Or.inl rfl) s₁ B (by simpa [copyLocs] using X0) ⟨hB0.1, fun _ _ => rfl, rfl⟩ (Laid.zero _ _ _) c2
  have c11 : Steps p.tables e below (s₁.setTop (entryFrame m #[.ref b, .int (Int32.ofNat o), .ref d, .int (Int32.ofNat q), .int (Int32.ofNat len)] 7)) (T9.setTop (mkF m 46 #[.val (.ref b), .val (.int (Int32.ofNat (o + len))), .val (.ref d), .val (.int (Int32.ofNat (q + len))), .val (.int (Int32.ofNat len)), .val (.int (Int32.ofNat len)), z9] [.int (Int32.ofNat len)])) := g9.trans (by
    refine XS.iload X9.here hexec rfl (hb hbytes d3) rfl ?_
    refine XS.iload X9.here hexec rfl (hb hbytes d5) rfl ?_
    refine XS.icmpYes X9.here hexec rfl (pc0 := 7) rfl (hb hbytes d7) rfl (ii_ge_t (nlt32 (by omega) (Nat.le_refl _))) (by decide) rfl ?_
    refine XS.iload X9.here hexec rfl (hb hbytes d44) rfl ?_
    exact Steps.refl _)
  exact ⟨T9, some (.int (Int32.ofNat len)), _, _, _, X9, by simp, rfl, rfl, (fun h => by cases h), ⟨rfl, B9, p9.from hh0, f9⟩, fun fs hl => c11.trans (X9.ireturnOut hexec hret rfl (Or.inl rfl) (hb hbytes d46) hl)⟩
end Cmp5
namespace Cmp3
def yN : MethodName := ⟨"java/lang/StringUTF16", "compress", "([CII)[B"⟩
abbrev yB : ByteArray := jdk_52_method_16_code
theorem d0 : decode yB 0 = .ok (.iload_n 2, 1) := by decide +kernel
theorem d1 : decode yB 1 = .ok (.newarray .byte, 2) := by decide +kernel
theorem d3 : decode yB 3 = .ok (.astore_n 3, 1) := by decide +kernel
theorem d4 : decode yB 4 = .ok (.aload_n 0, 1) := by decide +kernel
theorem d5 : decode yB 5 = .ok (.iload_n 1, 1) := by decide +kernel
theorem d6 : decode yB 6 = .ok (.aload_n 3, 1) := by decide +kernel
theorem d7 : decode yB 7 = .ok (.iconst 0, 1) := by decide +kernel
theorem d8 : decode yB 8 = .ok (.iload_n 2, 1) := by decide +kernel
theorem d9 : decode yB 9 = .ok (.invokestatic 115, 3) := by decide +kernel
theorem d12 : decode yB 12 = .ok (.istore 4, 2) := by decide +kernel
theorem d14 : decode yB 14 = .ok (.iload 4, 2) := by decide +kernel
theorem d16 : decode yB 16 = .ok (.iload_n 2, 1) := by decide +kernel
theorem d17 : decode yB 17 = .ok (.if_icmp (.eq) 40, 3) := by decide +kernel
theorem d57 : decode yB 57 = .ok (.aload_n 3, 1) := by decide +kernel
theorem d58 : decode yB 58 = .ok (.areturn, 1) := by decide +kernel
def site : List Cond := [.arrayClass .byte, Cmp5.tab] ++ staticW U16 115 Cmp5.yN
def tab : Cond := tabOf yN yB 6 (some (.array .byte)) site
def P (b : Addr) (A : Cell) (o len : Nat) (args : Array Value) (s : State) : Prop := args = #[.ref b, .int (Int32.ofNat o), .int (Int32.ofNat len)] ∧ Ch b A s ∧ o + len ≤ A.slots.size ∧ len ≤ 536870912 ∧ ∀ i, i < len → ¬ 255 < cv A (o + i)
def E (b : Addr) (A : Cell) (o len : Nat) (r : Option Value) (s u : State) : Prop := NewArr .byte "[B" len (fun j => .int (lo8 (cv A (o + j)))) r s u ∧ u.heap.size = s.heap.size + 1
/-- no char of the range above 255: a new byte[] of their low bytes -/
theorem law (l : Launch) (b : Addr) (A : Cell) (o len : Nat) : Law l yN 3 3 1 18 yB 6 (some (.array .byte)) site (P b A o len) (E b A o len) [] 1 len := by
  refine Law.of_walk (plainFor_of_name (by decide +kernel)) (by decide +kernel) (by decide +kernel) (by decide) (fun _ _ h => by rw [h.1]; rfl) (fun _ U U' hal hh h => ⟨h.1, h.2.1.mv hal hh, h.2.2⟩) (fun r U U' V V' h1 hal h2 h => ⟨NewArr.mv r U U' V V' h1 hal h2 h.1, by rw [h1, h2]; exact h.2⟩) ?_
  intro p e s m args below meth c s₁ X0 hexec hbytes hml hret hlk hnm hown hh0 W hP
  obtain ⟨rfl, hA, l1, l2, hp⟩ := hP
  have a31 := hA.1.2.2.2
  have c1 : Steps p.tables e below (s₁.setTop (entryFrame m #[.ref b, .int (Int32.ofNat o), .int (Int32.ofNat len)] 6)) (s₁.setTop (mkF m 0 #[.val (.ref b), .val (.int (Int32.ofNat o)), .val (.int (Int32.ofNat len)), .unset, .unset, .unset] [])) := entry rfl
  have c2 : Steps p.tables e below (s₁.setTop (entryFrame m #[.ref b, .int (Int32.ofNat o), .int (Int32.ofNat len)] 6)) (s₁.setTop (mkF m 1 #[.val (.ref b), .val (.int (Int32.ofNat o)), .val (.int (Int32.ofNat len)), .unset, .unset, .unset] [.int (Int32.ofNat len)])) := c1.trans (by
    refine XS.iloadN X0.here hexec rfl (hb hbytes d0) rfl ?_
    exact Steps.refl _)
  obtain ⟨T3, B3, X3, ba3, bs3, bv3, bh3, bf3, st3⟩ := X0.anew hexec (atype := .byte) (wk W (.arrayClass .byte)) rfl (by show len * 1 ≤ _; omega) (by omega) (g := (mkF m 1 #[.val (.ref b), .val (.int (Int32.ofNat o)), .val (.int (Int32.ofNat len)), .unset, .unset, .unset] [.int (Int32.ofNat len)])) rfl (hb hbytes d1) (rest := []) rfl (Nat.le_refl _) (by show 0 + len ≤ len; omega)
  rw [hh0] at ba3 st3
  have kp3 : XT.Kept s T3 := (XT.Kept.of_eq hh0).push bh3
  have hA3 := hA.keep X3.warmed.alike (kp3 _ _ hA.1.1)
  have hne : b ≠ s.heap.size := hA.1.ne
  have c4 : Steps p.tables e below (s₁.setTop (entryFrame m #[.ref b, .int (Int32.ofNat o), .int (Int32.ofNat len)] 6)) (T3.setTop (mkF m 3 #[.val (.ref b), .val (.int (Int32.ofNat o)), .val (.int (Int32.ofNat len)), .unset, .unset, .unset] [.ref s.heap.size])) := c2.trans (st3 _ (Steps.refl _))
  have c5 : Steps p.tables e below (s₁.setTop (entryFrame m #[.ref b, .int (Int32.ofNat o), .int (Int32.ofNat len)] 6)) (T3.setTop (mkF m 9 #[.val (.ref b), .val (.int (Int32.ofNat o)), .val (.int (Int32.ofNat len)), .val (.ref s.heap.size), .unset, .unset] [.int (Int32.ofNat len), .int 0, .ref s.heap.size, .int (Int32.ofNat o), .ref b])) := c4.trans (by
    refine XS.astoreN X3.here hexec rfl (hb hbytes d3) rfl rfl rfl ?_
    refine XS.aloadN X3.here hexec rfl (hb hbytes d4) rfl rfl ?_
    refine XS.iloadN X3.here hexec rfl (hb hbytes d5) rfl ?_
    refine XS.aloadN X3.here hexec rfl (hb hbytes d6) rfl rfl ?_
    refine iconstV X3.here hexec rfl 0 (hb hbytes d7) (by decide) ?_
    refine XS.iloadN X3.here hexec rfl (hb hbytes d8) rfl ?_
    exact Steps.refl _)
  obtain ⟨v6, T6, X6, E6, g6⟩ := X3.callS hexec (Cmp5.law l b A s.heap.size B3 o 0 len) hown (wks W (staticW U16 115 Cmp5.yN)) (wk W Cmp5.tab) (W := 0) (Nat.le_of_ble_eq_true rfl) (Nat.le_of_ble_eq_true rfl) (Nat.le_refl _) (by show 0 + len + 0 ≤ len; omega) (g := (mkF m 9 #[.val (.ref b), .val (.int (Int32.ofNat o)), .val (.int (Int32.ofNat len)), .val (.ref s.heap.size), .unset, .unset] [.int (Int32.ofNat len), .int (Int32.ofNat 0), .ref s.heap.size, .int (Int32.ofNat o), .ref b])) rfl (by rw [hml]; rfl) c5 (argsL := [.ref b, .int (Int32.ofNat o), .ref s.heap.size, .int (Int32.ofNat 0), .int (Int32.ofNat len)]) (rest := []) rfl rfl (by show 2 * 0 + 0 ≤ _; decide) (hb hbytes d9) (⟨rfl, hA3, ba3, hne, l1, by rw [bs3]; simp, hp⟩)
  obtain ⟨rfl, B6, p6, f6⟩ := E6
  have c7 : Steps p.tables e below (s₁.setTop (entryFrame m #[.ref b, .int (Int32.ofNat o), .int (Int32.ofNat len)] 6)) (T6.setTop (mkF m 12 #[.val (.ref b), .val (.int (Int32.ofNat o)), .val (.int (Int32.ofNat len)), .val (.ref s.heap.size), .unset, .unset] [.int (Int32.ofNat len)])) := g6
  have c8 : Steps p.tables e below (s₁.setTop (entryFrame m #[.ref b, .int (Int32.ofNat o), .int (Int32.ofNat len)] 6)) (T6.setTop (mkF m 58 #[.val (.ref b), .val (.int (Int32.ofNat o)), .val (.int (Int32.ofNat len)), .val (.ref s.heap.size), .val (.int (Int32.ofNat len)), .unset] [.ref s.heap.size])) := c7.trans (by
    refine XS.istore X6.here hexec rfl (hb hbytes d12) rfl rfl ?_
    refine XS.iload X6.here hexec rfl (hb hbytes d14) rfl ?_
    refine XS.iloadN X6.here hexec rfl (hb hbytes d16) rfl ?_
    refine XS.icmpYes X6.here hexec rfl (pc0 := 17) rfl (hb hbytes d17) rfl (ii_eq_t rfl) (by decide) rfl ?_
    refine XS.aloadN X6.here hexec rfl (hb hbytes d57) rfl rfl ?_
    exact Steps.refl _)
  have X8 := X6.wide (L' := []) (cells' := 1) (slots' := len) (fun x hx hlt => by
    simp only [List.nil_append, copyLocs, List.mem_map, List.mem_range] at hx
    obtain ⟨i, -, rfl⟩ := hx
    exact absurd hlt (Nat.lt_irrefl _)) (Nat.le_refl _) (by omega)
  exact ⟨T6, some (.ref s.heap.size), _, _, _, X8, rfl, rfl, rfl, (fun h => by cases h), ⟨⟨rfl, B6, ba3.like (X3.warmed.alike.symm.trans X6.warmed.alike) p6.1 f6.1 f6.2.1 f6.2.2.1, f6.2.1.trans bv3, by rw [X6.warmed.alike.findClass, f6.1]; exact bf3, by rw [f6.2.2.1, bs3]; simp, fun j hj => by rw [f6.2.2.2 j, if_pos (by omega)]; rfl, kp3.put p6 (Nat.le_refl _)⟩, by rw [p6.2.2, bh3, hh0]; simp⟩, fun fs hl => c8.trans (X8.areturnOut hexec rfl hret rfl (hb hbytes d58) hl)⟩
end Cmp3
namespace CodL
def yN : MethodName := ⟨"java/lang/StringUTF16", "coderFromArrayLen", "([BI)B"⟩
abbrev yB : ByteArray := jdk_52_method_15_code
theorem d0 : decode yB 0 = .ok (.iload_n 1, 1) := by decide +kernel
theorem d1 : decode yB 1 = .ok (.aload_n 0, 1) := by decide +kernel
theorem d2 : decode yB 2 = .ok (.arraylength, 1) := by decide +kernel
theorem d3 : decode yB 3 = .ok (.isub, 1) := by decide +kernel
theorem d4 : decode yB 4 = .ok (.bipush 31, 2) := by decide +kernel
theorem d6 : decode yB 6 = .ok (.iushr, 1) := by decide +kernel
theorem d7 : decode yB 7 = .ok (.i2b, 1) := by decide +kernel
theorem d8 : decode yB 8 = .ok (.ireturn, 1) := by decide +kernel
def site : List Cond := []
def tab : Cond := tabOf yN yB 2 (some .byte) site
def P (d : Addr) (B : Cell) (args : Array Value) (s : State) : Prop := args = #[.ref d, .int (Int32.ofNat B.slots.size)] ∧ Arr .byte d B s
def E (r : Option Value) (s u : State) : Prop := XT.PureE (some (.int 0)) r s u
/-- an array as long as the number of chars: LATIN1 -/
theorem law (l : Launch) (d : Addr) (B : Cell) : Law l yN 2 2 0 0 yB 2 (some .byte) site (P d B) E [] 0 0 := by
  refine Law.of_walk (plainFor_of_name (by decide +kernel)) (by decide +kernel) (by decide +kernel) (by decide) (fun _ _ h => by rw [h.1]; rfl) (fun _ U U' hal hh h => ⟨h.1, h.2.mv hal hh⟩) (fun r U U' V V' h1 hal h2 h => XT.PureE.mv r U U' V V' h1 hal h2 h) ?_
  intro p e s m args below meth c s₁ X0 hexec hbytes hml hret hlk hnm hown hh0 W hP
  obtain ⟨rfl, hB⟩ := hP
  have hB0 := hB.mv X0.warmed.alike hh0
  have c1 : Steps p.tables e below (s₁.setTop (entryFrame m #[.ref d, .int (Int32.ofNat B.slots.size)] 2)) (s₁.setTop (mkF m 0 #[.val (.ref d), .val (.int (Int32.ofNat B.slots.size))] [])) := entry rfl
  have c2 : Steps p.tables e below (s₁.setTop (entryFrame m #[.ref d, .int (Int32.ofNat B.slots.size)] 2)) (s₁.setTop (mkF m 2 #[.val (.ref d), .val (.int (Int32.ofNat B.slots.size))] [.ref d, .int (Int32.ofNat B.slots.size)])) := c1.trans (by
    refine XS.iloadN X0.here hexec rfl (hb hbytes d0) rfl ?_
    refine XS.aloadN X0.here hexec rfl (hb hbytes d1) rfl rfl ?_
    exact Steps.refl _)
  have c3 : Steps p.tables e below (s₁.setTop (entryFrame m #[.ref d, .int (Int32.ofNat B.slots.size)] 2)) (s₁.setTop (mkF m 8 #[.val (.ref d), .val (.int (Int32.ofNat B.slots.size))] [.int (lo8 (ushr (Int32.ofNat B.slots.size - Int32.ofNat B.slots.size) 31))])) := c2.trans (by
    refine X0.alen hexec hB0 rfl rfl (hb hbytes d2) ?_
    refine XS.isub X0.here hexec rfl (hb hbytes d3) rfl ?_
    refine bipushV X0.here hexec rfl 31 (hb hbytes d4) (by decide) ?_
    refine iushr X0.here hexec rfl (hb hbytes d6) rfl ?_
    refine i2b X0.here hexec rfl (hb hbytes d7) rfl ?_
    exact Steps.refl _)
  have e0 : lo8 (ushr (Int32.ofNat B.slots.size - Int32.ofNat B.slots.size) 31) = 0 := by rw [Int32.sub_self]; decide
  rw [e0] at c3
  exact ⟨s₁, some (.int 0), _, _, _, X0, rfl, rfl, rfl, (fun h => by cases h), ⟨rfl, hh0⟩, fun fs hl => c3.trans (X0.ireturnOut hexec hret rfl (Or.inr (Or.inr (Or.inl rfl))) (hb hbytes d8) hl)⟩
end CodL
/-- the String at a is Latin-1 over a new byte[] (the heap's one new cell): the low bytes of the len chars of A from o on; every cell but a is kept -/
def Got (a : Addr) (D : Cell) (fV fC : Field) (A : Cell) (o len : Nat) (r : Option Value) (s u : State) : Prop := r = none ∧ ∃ D' V : Cell, Blank "java/lang/String" a D' u ∧ Same D D' [fV.slot, fC.slot] ∧ D'.slots[fV.slot]? = some (.ref s.heap.size) ∧ D'.slots[fC.slot]? = some (.int 0) ∧ Arr .byte s.heap.size V u ∧ V.vm = .none ∧ u.vm.findClass "[B" = some V.cls ∧ V.slots.size = len ∧ (∀ j, j < len → V.slots[j]? = some (.int (lo8 (cv A (o + j))))) ∧ (∀ (y : Addr) (c : Cell), y ≠ a → s.heap[y]? = some c → u.heap[y]? = some c) ∧ u.heap.size = s.heap.size + 1
theorem Got.mv {a : Addr} {D A : Cell} {fV fC : Field} {o len : Nat} : ∀ r (U U' V V' : State), U'.heap = U.heap → V.vm.Alike V'.vm → V'.heap = V.heap → Got a D fV fC A o len r U V → Got a D fV fC A o len r U' V' :=
  fun r U U' V V' h1 hal h2 ⟨e0, D', X, a1, a2, a3, a4, a5, a6, a7, a8, a9, a10, a11⟩ => ⟨e0, D', X, a1.mv hal h2, a2, by rw [h1]; exact a3, a4, by rw [h1]; exact a5.mv hal h2, a6, by rw [hal.findClass]; exact a7, a8, a9, by rw [h1, h2]; exact a10, by rw [h1, h2]; exact a11⟩
namespace New4
def yN : MethodName := ⟨"java/lang/String", "<init>", "([CIILjava/lang/Void;)V"⟩
abbrev yB : ByteArray := jdk_42_method_149_code
theorem d0 : decode yB 0 = .ok (.aload_n 0, 1) := by decide +kernel
theorem d1 : decode yB 1 = .ok (.invokespecial 1, 3) := by decide +kernel
theorem d4 : decode yB 4 = .ok (.iload_n 3, 1) := by decide +kernel
theorem d5 : decode yB 5 = .ok (.ifCond (.ne) 22, 3) := by decide +kernel
theorem d27 : decode yB 27 = .ok (.getstatic 38, 3) := by decide +kernel
theorem d30 : decode yB 30 = .ok (.ifCond (.eq) 28, 3) := by decide +kernel
theorem d33 : decode yB 33 = .ok (.aload_n 1, 1) := by decide +kernel
theorem d34 : decode yB 34 = .ok (.iload_n 2, 1) := by decide +kernel
theorem d35 : decode yB 35 = .ok (.iload_n 3, 1) := by decide +kernel
theorem d36 : decode yB 36 = .ok (.invokestatic 177, 3) := by decide +kernel
theorem d39 : decode yB 39 = .ok (.astore 5, 2) := by decide +kernel
theorem d41 : decode yB 41 = .ok (.aload_n 0, 1) := by decide +kernel
theorem d42 : decode yB 42 = .ok (.aload 5, 2) := by decide +kernel
theorem d44 : decode yB 44 = .ok (.iload_n 3, 1) := by decide +kernel
theorem d45 : decode yB 45 = .ok (.invokestatic 47, 3) := by decide +kernel
theorem d48 : decode yB 48 = .ok (.putfield 15, 3) := by decide +kernel
theorem d51 : decode yB 51 = .ok (.aload_n 0, 1) := by decide +kernel
theorem d52 : decode yB 52 = .ok (.aload 5, 2) := by decide +kernel
theorem d54 : decode yB 54 = .ok (.putfield 9, 3) := by decide +kernel
theorem d57 : decode yB 57 = .ok (.return_, 1) := by decide +kernel
def site : List Cond := [.fieldLink "java/lang/String" 38 "java/lang/String" "COMPACT_STRINGS" "Z", Cmp3.tab, CodL.tab, .laysFinal "java/lang/String" "java/lang/String" "value" "[B", .fieldLink "java/lang/String" 9 "java/lang/String" "value" "[B", .laysFinal "java/lang/String" "java/lang/String" "coder" "B", .fieldLink "java/lang/String" 15 "java/lang/String" "coder" "B"] ++ objW "java/lang/String" 1 ++ staticW "java/lang/String" 177 Cmp3.yN ++ staticW "java/lang/String" 47 CodL.yN
def tab : Cond := tabOf yN yB 6 none site
def P (a : Addr) (D : Cell) (fV fC : Field) (b : Addr) (A : Cell) (z : Int32) (o len : Nat) (args : Array Value) (s : State) : Prop := args = #[.ref a, .ref b, .int (Int32.ofNat o), .int (Int32.ofNat len), .null] ∧ Blank "java/lang/String" a D s ∧ Found "java/lang/String" "value" "[B" fV s ∧ Found "java/lang/String" "coder" "B" fC s ∧ Ch b A s ∧ StaticIs s "java/lang/String" "COMPACT_STRINGS" "Z" (.int z) ∧ ¬ z = 0 ∧ 0 < len ∧ o + len ≤ A.slots.size ∧ len ≤ 536870912 ∧ ∀ i, i < len → ¬ 255 < cv A (o + i)
def E (a : Addr) (D : Cell) (fV fC : Field) (A : Cell) (o len : Nat) (r : Option Value) (s u : State) : Prop := Got a D fV fC A o len r s u
/-- len > 0, no char of the range above 255: a Latin-1 String of their low bytes -/
theorem law (l : Launch) (a : Addr) (D : Cell) (fV fC : Field) (b : Addr) (A : Cell) (z : Int32) (o len : Nat) : Law l yN 5 4 2 35 yB 6 none site (P a D fV fC b A z o len) (E a D fV fC A o len) [⟨a, fC.slot⟩, ⟨a, fV.slot⟩] 1 len := by
  refine Law.of_walk (plainFor_of_name (by decide +kernel)) (by decide +kernel) (by decide +kernel) (by decide) (fun _ _ h => by rw [h.1]; rfl) (fun _ U U' hal hh h => ⟨h.1, h.2.1.mv hal hh, h.2.2.1.al hal, h.2.2.2.1.al hal, h.2.2.2.2.1.mv hal hh, h.2.2.2.2.2.1.there hal hh, h.2.2.2.2.2.2⟩) (fun r U U' V V' h1 hal h2 h => Got.mv r U U' V V' h1 hal h2 h) ?_
  intro p e s m args below meth c s₁ X0 hexec hbytes hml hret hlk hnm hown hh0 W hP
  obtain ⟨rfl, hB, f1, f2, hA, s1, hz, l0, l1, l2, hp⟩ := hP
  have a31 := hA.1.2.2.2
  have c1 : Steps p.tables e below (s₁.setTop (entryFrame m #[.ref a, .ref b, .int (Int32.ofNat o), .int (Int32.ofNat len), .null] 6)) (s₁.setTop (mkF m 0 #[.val (.ref a), .val (.ref b), .val (.int (Int32.ofNat o)), .val (.int (Int32.ofNat len)), .val .null, .unset] [])) := entry rfl
  have c2 : Steps p.tables e below (s₁.setTop (entryFrame m #[.ref a, .ref b, .int (Int32.ofNat o), .int (Int32.ofNat len), .null] 6)) (s₁.setTop (mkF m 1 #[.val (.ref a), .val (.ref b), .val (.int (Int32.ofNat o)), .val (.int (Int32.ofNat len)), .val .null, .unset] [.ref a])) := c1.trans (by
    refine XS.aloadN X0.here hexec rfl (hb hbytes d0) rfl rfl ?_
    exact Steps.refl _)
  obtain ⟨T3, X3, q3, st3⟩ := X0.oinit hexec hown (wks W (objW "java/lang/String" 1)) (g := (mkF m 1 #[.val (.ref a), .val (.ref b), .val (.int (Int32.ofNat o)), .val (.int (Int32.ofNat len)), .val .null, .unset] [.ref a])) rfl (by rw [hml]; rfl) (rest := []) rfl (hb hbytes d1) (W := 0) (by show 2 * 0 + 0 ≤ _; decide) (Nat.le_of_ble_eq_true rfl) (Nat.le_of_ble_eq_true rfl)
  have hh3 := q3.trans hh0
  have c4 : Steps p.tables e below (s₁.setTop (entryFrame m #[.ref a, .ref b, .int (Int32.ofNat o), .int (Int32.ofNat len), .null] 6)) (T3.setTop (mkF m 27 #[.val (.ref a), .val (.ref b), .val (.int (Int32.ofNat o)), .val (.int (Int32.ofNat len)), .val .null, .unset] [])) := (c2.trans (st3 _ (Steps.refl _))).trans (by
    refine XS.iloadN X3.here hexec rfl (hb hbytes d4) rfl ?_
    refine XS.ifYes X3.here hexec rfl (pc0 := 5) rfl (hb hbytes d5) rfl (i0_ne_t (nz32 (by omega) l0)) (by decide) rfl ?_
    exact Steps.refl _)
  obtain ⟨T5, X5, q5, st5⟩ := X3.sget hexec hown (wk W (.fieldLink "java/lang/String" 38 "java/lang/String" "COMPACT_STRINGS" "Z")) s1 (fun _ _ h => by rw [hh3]; exact h) (g := (mkF m 27 #[.val (.ref a), .val (.ref b), .val (.int (Int32.ofNat o)), .val (.int (Int32.ofNat len)), .val .null, .unset] [])) rfl (hb hbytes d27)
  have hh5 := q5.trans hh3
  have c6 : Steps p.tables e below (s₁.setTop (entryFrame m #[.ref a, .ref b, .int (Int32.ofNat o), .int (Int32.ofNat len), .null] 6)) (T5.setTop (mkF m 30 #[.val (.ref a), .val (.ref b), .val (.int (Int32.ofNat o)), .val (.int (Int32.ofNat len)), .val .null, .unset] [.int z])) := c4.trans (st5 _ (Steps.refl _))
  have c7 : Steps p.tables e below (s₁.setTop (entryFrame m #[.ref a, .ref b, .int (Int32.ofNat o), .int (Int32.ofNat len), .null] 6)) (T5.setTop (mkF m 36 #[.val (.ref a), .val (.ref b), .val (.int (Int32.ofNat o)), .val (.int (Int32.ofNat len)), .val .null, .unset] [.int (Int32.ofNat len), .int (Int32.ofNat o), .ref b])) := c6.trans (by
    refine XS.ifNo X5.here hexec rfl (hb hbytes d30) rfl (i0_eq_f hz) ?_
    refine XS.aloadN X5.here hexec rfl (hb hbytes d33) rfl rfl ?_
    refine XS.iloadN X5.here hexec rfl (hb hbytes d34) rfl ?_
    refine XS.iloadN X5.here hexec rfl (hb hbytes d35) rfl ?_
    exact Steps.refl _)
  obtain ⟨v8, T8, X8, E8, g8⟩ := X5.callS hexec (Cmp3.law l b A o len) hown (wks W (staticW "java/lang/String" 177 Cmp3.yN)) (wk W Cmp3.tab) (W := 0) (Nat.le_of_ble_eq_true rfl) (Nat.le_of_ble_eq_true rfl) (Nat.le_refl _) (by show 0 + len ≤ len; omega) (g := (mkF m 36 #[.val (.ref a), .val (.ref b), .val (.int (Int32.ofNat o)), .val (.int (Int32.ofNat len)), .val .null, .unset] [.int (Int32.ofNat len), .int (Int32.ofNat o), .ref b])) rfl (by rw [hml]; rfl) c7 (argsL := [.ref b, .int (Int32.ofNat o), .int (Int32.ofNat len)]) (rest := []) rfl rfl (by show 2 * 0 + 0 ≤ _; decide) (hb hbytes d36) (⟨rfl, hA.mv X5.warmed.alike hh5, l1, l2, hp⟩)
  obtain ⟨e8, z8⟩ := E8
  obtain ⟨rfl, N, n1, n2, n3, n4, n5, n6⟩ := NewArr.mv _ T5 s _ _ hh5.symm (Vm.Alike.refl _) rfl e8
  rw [hh5] at z8
  have hB1 := hB.keep X8.warmed.alike (n6 _ _ hB.1)
  have hne : s.heap.size ≠ a := (Nat.ne_of_lt (Array.getElem?_eq_some_iff.mp hB.1).1).symm
  have c9 : Steps p.tables e below (s₁.setTop (entryFrame m #[.ref a, .ref b, .int (Int32.ofNat o), .int (Int32.ofNat len), .null] 6)) (T8.setTop (mkF m 39 #[.val (.ref a), .val (.ref b), .val (.int (Int32.ofNat o)), .val (.int (Int32.ofNat len)), .val .null, .unset] [.ref s.heap.size])) := g8
  have c10 : Steps p.tables e below (s₁.setTop (entryFrame m #[.ref a, .ref b, .int (Int32.ofNat o), .int (Int32.ofNat len), .null] 6)) (T8.setTop (mkF m 45 #[.val (.ref a), .val (.ref b), .val (.int (Int32.ofNat o)), .val (.int (Int32.ofNat len)), .val .null, .val (.ref s.heap.size)] [.int (Int32.ofNat N.slots.size), .ref s.heap.size, .ref a])) := by
    have hc : Steps p.tables e below (s₁.setTop (entryFrame m #[.ref a, .ref b, .int (Int32.ofNat o), .int (Int32.ofNat len), .null] 6)) (T8.setTop (mkF m 45 #[.val (.ref a), .val (.ref b), .val (.int (Int32.ofNat o)), .val (.int (Int32.ofNat len)), .val .null, .val (.ref s.heap.size)] [.int (Int32.ofNat len), .ref s.heap.size, .ref a])) := c9.trans (by
      refine XS.astore X8.here hexec rfl (hb hbytes d39) rfl rfl rfl ?_
      refine XS.aloadN X8.here hexec rfl (hb hbytes d41) rfl rfl ?_
      refine XS.aload X8.here hexec rfl (hb hbytes d42) rfl rfl ?_
      refine XS.iloadN X8.here hexec rfl (hb hbytes d44) rfl ?_
      exact Steps.refl _)
    rw [n4]; exact hc
  obtain ⟨v11, T11, X11, E11, g11⟩ := X8.callS hexec (CodL.law l s.heap.size N) hown (wks W (staticW "java/lang/String" 47 CodL.yN)) (wk W CodL.tab) (W := 1) (Nat.le_of_ble_eq_true rfl) (Nat.le_of_ble_eq_true rfl) (Nat.le_refl _) (by show 0 + len + 0 ≤ len; omega) (g := (mkF m 45 #[.val (.ref a), .val (.ref b), .val (.int (Int32.ofNat o)), .val (.int (Int32.ofNat len)), .val .null, .val (.ref s.heap.size)] [.int (Int32.ofNat N.slots.size), .ref s.heap.size, .ref a])) rfl (by rw [hml]; rfl) c10 (argsL := [.ref s.heap.size, .int (Int32.ofNat N.slots.size)]) (rest := [.ref a]) rfl rfl (by show 2 * 0 + (1 + 0) ≤ _; decide) (hb hbytes d45) (⟨rfl, n1⟩)
  obtain ⟨rfl, q11⟩ := E11
  have hB11 := hB1.mv (X8.warmed.alike.symm.trans X11.warmed.alike) q11
  have c12 : Steps p.tables e below (s₁.setTop (entryFrame m #[.ref a, .ref b, .int (Int32.ofNat o), .int (Int32.ofNat len), .null] 6)) (T11.setTop (mkF m 48 #[.val (.ref a), .val (.ref b), .val (.int (Int32.ofNat o)), .val (.int (Int32.ofNat len)), .val .null, .val (.ref s.heap.size)] [.int 0, .ref a])) := g11
  obtain ⟨T13, X13, p13, bl13, sl13, st13⟩ := X11.finit hexec hown (wk W (.fieldLink "java/lang/String" 15 "java/lang/String" "coder" "B")) (Or.inr ⟨_, (wk W (.laysFinal "java/lang/String" "java/lang/String" "coder" "B"))⟩) (Or.inl ⟨rfl, hnm⟩) f2 (Or.inl rfl) hB11 (t := .byte) (by decide +kernel) rfl (g := (mkF m 48 #[.val (.ref a), .val (.ref b), .val (.int (Int32.ofNat o)), .val (.int (Int32.ofNat len)), .val .null, .val (.ref s.heap.size)] [.int 0, .ref a])) rfl (rest := []) rfl (hb hbytes d48)
  have c14 : Steps p.tables e below (s₁.setTop (entryFrame m #[.ref a, .ref b, .int (Int32.ofNat o), .int (Int32.ofNat len), .null] 6)) (T13.setTop (mkF m 54 #[.val (.ref a), .val (.ref b), .val (.int (Int32.ofNat o)), .val (.int (Int32.ofNat len)), .val .null, .val (.ref s.heap.size)] [.ref s.heap.size, .ref a])) := (c12.trans (st13 _ (Steps.refl _))).trans (by
    refine XS.aloadN X13.here hexec rfl (hb hbytes d51) rfl rfl ?_
    refine XS.aload X13.here hexec rfl (hb hbytes d52) rfl rfl ?_
    exact Steps.refl _)
  obtain ⟨T15, X15, p15, bl15, sl15, st15⟩ := X13.finit hexec hown (wk W (.fieldLink "java/lang/String" 9 "java/lang/String" "value" "[B")) (Or.inr ⟨_, (wk W (.laysFinal "java/lang/String" "java/lang/String" "value" "[B"))⟩) (Or.inl ⟨rfl, hnm⟩) f1 (Or.inl rfl) bl13 (t := (.array .byte)) (by decide +kernel) rfl (g := (mkF m 54 #[.val (.ref a), .val (.ref b), .val (.int (Int32.ofNat o)), .val (.int (Int32.ofNat len)), .val .null, .val (.ref s.heap.size)] [.ref s.heap.size, .ref a])) rfl (rest := []) rfl (hb hbytes d54)
  have c16 : Steps p.tables e below (s₁.setTop (entryFrame m #[.ref a, .ref b, .int (Int32.ofNat o), .int (Int32.ofNat len), .null] 6)) (T15.setTop (mkF m 57 #[.val (.ref a), .val (.ref b), .val (.int (Int32.ofNat o)), .val (.int (Int32.ofNat len)), .val .null, .val (.ref s.heap.size)] [])) := c14.trans (st15 _ (Steps.refl _))
  have ap := apart (Or.inr ⟨_, (wk W (.laysFinal "java/lang/String" "java/lang/String" "value" "[B"))⟩) (Or.inr ⟨_, (wk W (.laysFinal "java/lang/String" "java/lang/String" "coder" "B"))⟩) f1 f2 (t₁ := .array .byte) (t₂ := .byte) (by decide +kernel) (by decide +kernel) (by decide)
  have al := X8.warmed.alike.symm.trans X15.warmed.alike
  have n7 : T11.heap[s.heap.size]? = some N := by rw [q11]; exact n1.1
  exact ⟨T15, none, _, _, _, X15, by simp, rfl, by omega, (fun _ => rfl), ⟨rfl, _, N, bl15, ((Same.refl D _).set _ (by simp)).set _ (by simp), sl15, (Cell.slots_setSlot_ne _ ap).trans sl13, n1.keep al (p15.other hne (p13.other hne n7)), n2, by rw [al.findClass]; exact n3, n4, n5, fun y c h1 h2 => p15.other h1 (p13.other h1 (by rw [q11]; exact n6 y c h2)), by rw [p15.2.2, p13.2.2, q11]; exact z8⟩, fun fs hl => c16.trans (X15.returnOut hexec hret (hb hbytes d57) hl)⟩
end New4
namespace New1
def yN : MethodName := ⟨"java/lang/String", "<init>", "([C)V"⟩
abbrev yB : ByteArray := jdk_42_method_3_code
theorem d0 : decode yB 0 = .ok (.aload_n 0, 1) := by decide +kernel
theorem d1 : decode yB 1 = .ok (.aload_n 1, 1) := by decide +kernel
theorem d2 : decode yB 2 = .ok (.iconst 0, 1) := by decide +kernel
theorem d3 : decode yB 3 = .ok (.aload_n 1, 1) := by decide +kernel
theorem d4 : decode yB 4 = .ok (.arraylength, 1) := by decide +kernel
theorem d5 : decode yB 5 = .ok (.aconst_null, 1) := by decide +kernel
theorem d6 : decode yB 6 = .ok (.invokespecial 27, 3) := by decide +kernel
theorem d9 : decode yB 9 = .ok (.return_, 1) := by decide +kernel
def site : List Cond := [New4.tab] ++ initW "java/lang/String" 27 New4.yN
def tab : Cond := tabOf yN yB 2 none site
def P (a : Addr) (D : Cell) (fV fC : Field) (b : Addr) (A : Cell) (z : Int32) (args : Array Value) (s : State) : Prop := args = #[.ref a, .ref b] ∧ Blank "java/lang/String" a D s ∧ Found "java/lang/String" "value" "[B" fV s ∧ Found "java/lang/String" "coder" "B" fC s ∧ Ch b A s ∧ StaticIs s "java/lang/String" "COMPACT_STRINGS" "Z" (.int z) ∧ ¬ z = 0 ∧ 0 < A.slots.size ∧ A.slots.size ≤ 536870912 ∧ ∀ i, i < A.slots.size → ¬ 255 < cv A i
def E (a : Addr) (D : Cell) (fV fC : Field) (A : Cell) (r : Option Value) (s u : State) : Prop := Got a D fV fC A 0 A.slots.size r s u
/-- new String(chars), not empty, no char above 255: a Latin-1 String of their low bytes -/
theorem law (l : Launch) (a : Addr) (D : Cell) (fV fC : Field) (b : Addr) (A : Cell) (z : Int32) : Law l yN 2 1 3 52 yB 2 none site (P a D fV fC b A z) (E a D fV fC A) [⟨a, fC.slot⟩, ⟨a, fV.slot⟩] 1 A.slots.size := by
  refine Law.of_walk (plainFor_of_name (by decide +kernel)) (by decide +kernel) (by decide +kernel) (by decide) (fun _ _ h => by rw [h.1]; rfl) (fun _ U U' hal hh h => ⟨h.1, h.2.1.mv hal hh, h.2.2.1.al hal, h.2.2.2.1.al hal, h.2.2.2.2.1.mv hal hh, h.2.2.2.2.2.1.there hal hh, h.2.2.2.2.2.2⟩) (fun r U U' V V' h1 hal h2 h => Got.mv r U U' V V' h1 hal h2 h) ?_
  intro p e s m args below meth c s₁ X0 hexec hbytes hml hret hlk hnm hown hh0 W hP
  obtain ⟨rfl, hB, f1, f2, hA, s1, hz, l0, l2, hp⟩ := hP
  have c1 : Steps p.tables e below (s₁.setTop (entryFrame m #[.ref a, .ref b] 2)) (s₁.setTop (mkF m 0 #[.val (.ref a), .val (.ref b)] [])) := entry rfl
  have c2 : Steps p.tables e below (s₁.setTop (entryFrame m #[.ref a, .ref b] 2)) (s₁.setTop (mkF m 6 #[.val (.ref a), .val (.ref b)] [.null, .int (Int32.ofNat A.slots.size), .int 0, .ref b, .ref a])) := c1.trans (by
    refine XS.aloadN X0.here hexec rfl (hb hbytes d0) rfl rfl ?_
    refine XS.aloadN X0.here hexec rfl (hb hbytes d1) rfl rfl ?_
    refine iconstV X0.here hexec rfl 0 (hb hbytes d2) (by decide) ?_
    refine XS.aloadN X0.here hexec rfl (hb hbytes d3) rfl rfl ?_
    refine X0.alen hexec (hA.1.mv X0.warmed.alike hh0) rfl rfl (hb hbytes d4) ?_
    refine XS.aconstNull X0.here hexec rfl (hb hbytes d5) ?_
    exact Steps.refl _)
  obtain ⟨v3, T3, X3, E3, g3⟩ := X0.callN hexec (New4.law l a D fV fC b A z 0 A.slots.size) rfl hown (wks W (initW "java/lang/String" 27 New4.yN)) (W New4.tab (by simp only [site, List.mem_cons, List.mem_append, true_or, or_true])) (W := 0) (Nat.le_of_ble_eq_true rfl) (Nat.le_of_ble_eq_true rfl) (Nat.le_refl _) (by show 0 + A.slots.size ≤ A.slots.size; omega) (g := (mkF m 6 #[.val (.ref a), .val (.ref b)] [.null, .int (Int32.ofNat A.slots.size), .int (Int32.ofNat 0), .ref b, .ref a])) rfl (by rw [hml]; rfl) c2 (argsL := [.ref b, .int (Int32.ofNat 0), .int (Int32.ofNat A.slots.size), .null]) (rest := []) rfl rfl (by show 2 * 0 + 0 ≤ _; decide) (hb hbytes d6) (⟨rfl, hB.mv X0.warmed.alike hh0, f1.al X0.warmed.alike, f2.al X0.warmed.alike, hA.mv X0.warmed.alike hh0, s1.there X0.warmed.alike hh0, hz, l0, by omega, l2, fun i hi => by rw [Nat.zero_add]; exact hp i hi⟩)
  have e0 := Got.mv _ s₁ s _ _ hh0.symm (Vm.Alike.refl _) rfl E3
  obtain rfl := e0.1
  have c4 : Steps p.tables e below (s₁.setTop (entryFrame m #[.ref a, .ref b] 2)) (T3.setTop (mkF m 9 #[.val (.ref a), .val (.ref b)] [])) := g3
  exact ⟨T3, none, _, _, _, X3, by simp, rfl, by omega, (fun _ => rfl), e0, fun fs hl => c4.trans (X3.returnOut hexec hret (hb hbytes d9) hl)⟩
theorem pays {l : Launch} {R : Room} {p : Program} {e : Env} {below : List Frame} {s : State} {sargs : Array Value} {len W : Nat} (a : Addr) (D : Cell) (fV fC : Field) (b : Addr) (A : Cell) (z : Int32) (htab : tab.before sargs s = true) (hfr : 4 ≤ R.frames) (hlo : W + 65 ≤ R.locals) :
    Back l R p e below s sargs yN len W (fun A₁ a₁ => A₁.cells + 1 ≤ R.cells ∧ A₁.slots + A.slots.size ≤ R.slots ∧ P a D fV fC b A z a₁ A₁.U) (fun A₁ _ v₁ B₁ => E a D fV fC A v₁ A₁.U B₁.U ∧ B₁.locs = A₁.locs ++ [⟨a, fC.slot⟩, ⟨a, fV.slot⟩] ∧ B₁.cells = A₁.cells + 1 ∧ B₁.slots = A₁.slots + A.slots.size) :=
  (law l a D fV fC b A z).pays htab hfr (by omega)
end New1
/-- the byte, read back as charAt reads it, is the char -/
theorem lo8_mask {x : Int32} (h0 : ¬ x < 0) (h1 : ¬ 255 < x) : lo8 x &&& 255 = x := by
  have t : ∀ k : Fin 256, lo8 (Int32.ofNat k.val) &&& 255 = Int32.ofNat k.val := by decide +kernel
  rw [Int32.lt_iff_toInt_lt] at h0 h1
  have e0 : (0 : Int32).toInt = 0 := rfl
  have e1 : (255 : Int32).toInt = 255 := rfl
  obtain ⟨k, hk⟩ : ∃ k : Nat, x.toInt = k := ⟨x.toInt.toNat, by omega⟩
  have hx : x = Int32.ofNat k := Int32.toInt_inj.mp (by rw [hk, Int32.toInt_ofNat_small (by omega)])
  rw [hx]
  exact t ⟨k, by omega⟩
end StrChars
namespace StrChars.Road
open Jvm Sem ClassFile Op Lib Jvm.Stand Jvm.Free Jvm.Free.XT
open Jvm.Lib.Cold (StaticIs)
abbrev ST : String := "java/lang/String"
/-- every table word that New1's law asks, flat -/
abbrev words : List Jvm.Cond := [.code New1.yN New1.yB 2 none, .initialized ST, .methodLink ST 27 New4.yN, .instanceMethod New4.yN,
  .code New4.yN New4.yB 6 none, .fieldLink ST 38 ST "COMPACT_STRINGS" "Z", .laysFinal ST ST "value" "[B", .fieldLink ST 9 ST "value" "[B", .laysFinal ST ST "coder" "B", .fieldLink ST 15 ST "coder" "B",
  .methodLink ST 1 Lib.objectInit, .instanceMethod Lib.objectInit, .code Lib.objectInit ⟨#[0xb1]⟩ 1 none, .methodLink ST 177 Cmp3.yN, .static Cmp3.yN, .methodLink ST 47 CodL.yN, .static CodL.yN,
  .code Cmp3.yN Cmp3.yB 6 (some (.array .byte)), .initialized U16, .arrayClass .byte, .methodLink U16 115 Cmp5.yN, .static Cmp5.yN, .code Cmp5.yN Cmp5.yB 7 (some .int), .code CodL.yN CodL.yB 2 (some .byte)]
theorem tab_of {a : Array Value} {s : State} (h : ∀ w ∈ words, w.before a s = true) : New1.tab.before a s = true := by
  have h5 : Cmp5.tab.before a s = true := unparts (wk h (.code Cmp5.yN Cmp5.yB 7 (some .int))) (wks h (.initialized Cmp5.yN.cls :: Cmp5.site))
  have hc : CodL.tab.before a s = true := unparts (wk h (.code CodL.yN CodL.yB 2 (some .byte))) (wks h (.initialized CodL.yN.cls :: CodL.site))
  have q5 : ∀ w ∈ Cmp5.tab :: words, w.before a s = true := fun w hw => (List.mem_cons.mp hw).elim (fun e => e ▸ h5) (h w)
  have h3 : Cmp3.tab.before a s = true := unparts (wk q5 (.code Cmp3.yN Cmp3.yB 6 (some (.array .byte)))) (wks q5 (.initialized Cmp3.yN.cls :: Cmp3.site))
  have q3 : ∀ w ∈ Cmp3.tab :: CodL.tab :: words, w.before a s = true := fun w hw => (List.mem_cons.mp hw).elim (fun e => e ▸ h3) fun hw => (List.mem_cons.mp hw).elim (fun e => e ▸ hc) (h w)
  have h4 : New4.tab.before a s = true := unparts (wk q3 (.code New4.yN New4.yB 6 none)) (wks q3 (.initialized New4.yN.cls :: New4.site))
  have q4 : ∀ w ∈ New4.tab :: words, w.before a s = true := fun w hw => (List.mem_cons.mp hw).elim (fun e => e ▸ h4) (h w)
  exact unparts (wk q4 (.code New1.yN New1.yB 2 none)) (wks q4 (.initialized New1.yN.cls :: New1.site))
/-- the words ride from the start Z to the walk's own state -/
theorem moved {Z s : State} {a0 args : Array Value} (hZ : Z.Warmed39 s.vm) (hw : ∀ d ∈ words, d.before a0 Z = true) : ∀ d ∈ words, d.before args s = true := fun d hd => by
  have q := hw d hd
  have t : ∀ d ∈ words, d = .arrayClass .byte ∨ (d.onTables && d.keepsFace) = true := by decide +kernel
  rcases t d hd with rfl | t
  · exact RoadKit.mvA hZ q
  · exact RoadKit.mv hZ q t
/-- WHAT COMES BACK, over the tables of the start Z: h the heap at the call, h' behind it -/
def Q (Z : State) (x : Addr) (A : Cell) (h : Heap) (v : Option Value) (h' : Heap) (L : List Loc) : Prop := v = none ∧ (∀ y ∈ L, y.base = x) ∧ RoadKit.Keep h h' [x] ∧ h'.size = h.size + 1 ∧ RoadKit.Exa Z h' x ST ∧ RoadKit.Fld Z h' x ST "value" "[B" (.ref h.size) ∧ RoadKit.Fld Z h' x ST "coder" "B" (.int 0) ∧
  (∃ V : Cell, RoadKit.Arr Z h' h.size V .byte ∧ V.vm = .none ∧ Z.vm.findClass "[B" = some V.cls ∧ V.slots.size = A.slots.size ∧ ∀ j, j < A.slots.size → V.slots[j]? = some (.int (lo8 (cv A j)))) ∧
  ∀ (O n d : String) (w : Value), RoadKit.Fld Z h x O n d w → RoadKit.slotOf Z O n d ≠ RoadKit.slotOf Z ST "value" "[B" → RoadKit.slotOf Z O n d ≠ RoadKit.slotOf Z ST "coder" "B" → RoadKit.Fld Z h' x O n d w
/-- **new String(chars) AT A CALL, IN THE ROAD'S FORM**: for specialBack behind newO: x the fresh String, b the char[] with the cell A -/
theorem back {p : Program} {l : Launch} {e : Env} {R : Room} {s : State} {args : Array Value} {below : List Frame} {len W : Nat} {Z : State} {a0 : Array Value} {h : Heap} (hZ : Z.Warmed39 s.vm) (hw : ∀ d ∈ words, d.before a0 Z = true) {kI : Nat} (wi : (Jvm.Cond.instantiable ST kI).before a0 Z = true)
    {x b : Addr} {A : Cell} {z : Int32} {v0 c0 : Value} (E : RoadKit.Exa Z h x ST) (V : RoadKit.Fld Z h x ST "value" "[B" v0) (C : RoadKit.Fld Z h x ST "coder" "B" c0) (K : RoadKit.Arr Z h b A .char) (hty : Typed .char A) (S : RoadKit.Sta Z h ST "COMPACT_STRINGS" "Z" (.int z)) (hz : ¬ z = 0)
    (l0 : 0 < A.slots.size) (l2 : A.slots.size ≤ 536870912) (hp : ∀ i, i < A.slots.size → ¬ 255 < cv A i) (hfr : 4 ≤ R.frames) (hlo : W + 65 ≤ R.locals) :
    Back l R p e below s args New1.yN len W (fun P a => a = #[.ref x, .ref b] ∧ P.U.heap = h ∧ P.cells + 1 ≤ R.cells ∧ P.slots + A.slots.size ≤ R.slots)
      (fun P _ v B => ∃ L, Q Z x A h v B.U.heap L ∧ B.locs = P.locs ++ L ∧ B.cells = P.cells + 1 ∧ B.slots = P.slots + A.slots.size) := by
  intro m meth c P g ig mk a X hg hsize hdg hW hn hp'
  obtain ⟨rfl, rfl, r1, r2⟩ := hp'
  have al : Z.vm.Alike P.U.vm := hZ.alike.trans X.warmed.alike
  obtain ⟨D, cfV, kV, iV, fV, hD, gV, stV, knV, obV, asV, slV⟩ := id V
  obtain ⟨D', cfC, kC, iC, fC, hD', gC, stC, -, -, asC, slC⟩ := id C
  cases hD.symm.trans hD'
  obtain ⟨D2, kD, e1, e2, e3, e4, e5⟩ := id E
  cases hD.symm.trans e1
  obtain ⟨c2, k2, i1, i2, i3, -⟩ := Cond.instantiable_spec wi
  cases e2.symm.trans i1
  cases e3.symm.trans i2
  obtain ⟨kU, u1, u2⟩ := al.2.2 _ _ e3
  have hB : Blank ST x D P.U := ⟨hD, ⟨knV, fun q hq => by rw [hq] at obV; cases obV⟩, by rw [al.findClass]; exact e2, kU, u1, by rw [u2]; exact i3, by rw [u2]; exact e5 i3⟩
  have F1 : Found ST "value" "[B" fV P.U := ⟨SBG.found_only al ⟨cfV, kV, iV, gV⟩, stV⟩
  have F2 : Found ST "coder" "B" fC P.U := ⟨SBG.found_only al ⟨cfC, kC, iC, gC⟩, stC⟩
  have hA : Ch b A P.U := ⟨⟨K.1, State.isArrayOf_alike al K.2.1, K.2.2, by omega⟩, hty⟩
  have hS : StaticIs P.U ST "COMPACT_STRINGS" "Z" (.int z) := by
    obtain ⟨cfS, iS, kS, fS, st, cS, t1, t2, t3, t4, t5, t6, t7⟩ := S
    exact StaticIs.there (s := { Z with heap := P.U.heap }) ⟨cfS, iS, kS, fS, st, cS, t1, t2, t3, t4, t5, (fun q => by rw [q] at t6; cases t6), t7⟩ al rfl
  obtain ⟨v, B, X', ⟨⟨hv, E', V', q1, q2, q3, q4, q5, q6, q7, q8, q9, q10, q11⟩, hl, hc, hs⟩, st⟩ := New1.pays x D fV fC b A z (tab_of (moved hZ hw)) hfr hlo m meth c P g ig mk _ X hg hsize hdg hW hn ⟨r1, r2, rfl, hB, F1, F2, hA, hS, hz, l0, l2, hp⟩
  have al' : Z.vm.Alike B.U.vm := hZ.alike.trans X'.warmed.alike
  have hsz : E'.slots.size = D.slots.size := by
    obtain ⟨-, -, -, kB, w1, w2, w3⟩ := q1
    obtain ⟨kB', y1, y2⟩ := al'.2.2 _ _ e3
    rw [q2.2.1] at w1
    cases w1.symm.trans y1
    rw [w3, e5 i3, y2]
  refine ⟨v, B, X', ⟨_, ⟨hv, ?_, ⟨by omega, fun y cy hy hn' => q10 y cy (by simpa using hn') hy, fun y cy hy => ?_⟩, q11, ⟨E', _, q1.1, by rw [q2.2.1]; exact e2, by rw [q2.2.1]; exact e3, by rw [q2.1]; exact obV, fun _ => by rw [hsz]; exact e5 i3⟩,
    ⟨E', cfV, kV, iV, fV, q1.1, gV, stV, by rw [q2.1]; exact knV, by rw [q2.1]; exact obV, by rw [q2.2.1]; exact asV, q3⟩, ⟨E', cfC, kC, iC, fC, q1.1, gC, stC, by rw [q2.1]; exact knV, by rw [q2.1]; exact obV, by rw [q2.2.1]; exact asC, q4⟩,
    ⟨V', ⟨q5.1, State.isArrayOf_alike al'.symm q5.2.1, q5.2.2.1⟩, q6, by rw [← al'.findClass]; exact q7, q8, fun j hj => by have := q9 j hj; rwa [Nat.zero_add] at this⟩, fun O n d w F n1 n2 => ?_⟩, hl, hc, hs⟩, st⟩
  · intro y hy
    simp only [List.mem_cons, List.not_mem_nil, or_false] at hy
    rcases hy with rfl | rfl <;> rfl
  · by_cases q : y = x
    · subst q
      cases hD.symm.trans hy
      exact ⟨E', q1.1, q2.2.1, q2.1, hsz⟩
    · exact ⟨cy, q10 y cy q hy, rfl, rfl, rfl⟩
  · obtain ⟨D3, cf, k, i, f, g1, g2, g3, g4, g5, g6, g7⟩ := F
    cases hD.symm.trans g1
    simp only [RoadKit.slotOf, g2, gV, gC, Option.map_some, Option.getD_some] at n1 n2
    exact ⟨E', cf, k, i, f, q1.1, g2, g3, by rw [q2.1]; exact g4, by rw [q2.1]; exact g5, by rw [q2.2.1]; exact g6, by rw [q2.2.2 f.slot (by simp [n1, n2])]; exact g7⟩
end StrChars.Road
namespace StrChars.Road
open Jvm Sem ClassFile Op Lib Jvm.Stand Jvm.Free Jvm.Free.XT
/-- WHAT COMES BACK, the byte[] as a list of values -/
def QA (Z : State) (x : Addr) (zn : Int32) (cs : List Int32) (h : Heap) (v : Option Value) (h' : Heap) (L : List Loc) : Prop := v = none ∧ (∀ y ∈ L, y.base = x) ∧ RoadKit.Keep h h' [x] ∧ h'.size = h.size + 1 ∧ RoadKit.Exa Z h' x ST ∧ RoadKit.Fld Z h' x ST "value" "[B" (.ref h.size) ∧ RoadKit.Fld Z h' x ST "coder" "B" (.int 0) ∧
  (∃ kb, Z.vm.findClass "[B" = some kb ∧ RoadKit.Arv Z h' h.size kb .byte zn (cs.map fun c => .int (lo8 c)) (.int 0)) ∧
  ∀ (O n d : String) (w : Value), RoadKit.Fld Z h x O n d w → RoadKit.slotOf Z O n d ≠ RoadKit.slotOf Z ST "value" "[B" → RoadKit.slotOf Z O n d ≠ RoadKit.slotOf Z ST "coder" "B" → RoadKit.Fld Z h' x O n d w
/-- **new String(chars) AT A CALL, THE ARRAYS AS LISTS**: the char[] at b holds cs, not empty, no char above 255 -/
theorem backArv {p : Program} {l : Launch} {e : Env} {R : Room} {s : State} {args : Array Value} {below : List Frame} {len W : Nat} {Z : State} {a0 : Array Value} {h : Heap} (hZ : Z.Warmed39 s.vm) (hw : ∀ d ∈ words, d.before a0 Z = true) {kI : Nat} (wi : (Jvm.Cond.instantiable ST kI).before a0 Z = true)
    {x b : Addr} {k : ClassId} {zn z : Int32} {cs : List Int32} {dv v0 c0 : Value} (E : RoadKit.Exa Z h x ST) (V : RoadKit.Fld Z h x ST "value" "[B" v0) (C : RoadKit.Fld Z h x ST "coder" "B" c0) (K : RoadKit.Arv Z h b k .char zn (cs.map Value.int) dv) (S : RoadKit.Sta Z h ST "COMPACT_STRINGS" "Z" (.int z)) (hz : ¬ z = 0)
    (hlen : zn.toNatClampNeg = cs.length) (h0 : 0 < cs.length) (hbig : cs.length ≤ 536870912) (hall : ∀ c ∈ cs, ¬ 255 < c) (hfr : 4 ≤ R.frames) (hlo : W + 65 ≤ R.locals) :
    Back l R p e below s args New1.yN len W (fun P a => a = #[.ref x, .ref b] ∧ P.U.heap = h ∧ P.cells + 1 ≤ R.cells ∧ P.slots + cs.length ≤ R.slots)
      (fun P _ v B => ∃ L, QA Z x zn cs h v B.U.heap L ∧ B.locs = P.locs ++ L ∧ B.cells = P.cells + 1 ∧ B.slots = P.slots + cs.length) := by
  obtain ⟨A, K1, K2, K3, K4, K5, K6⟩ := K
  have e : A.slots.size = cs.length := K3.trans hlen
  have hat : ∀ (i : Nat) (hi : i < cs.length), A.slots[i]? = some (.int cs[i]) := fun i hi => by rw [K5 i (by omega)]; simp [List.getD_eq_getElem?_getD, hi]
  have hcv : ∀ (i : Nat) (hi : i < cs.length), cv A i = cs[i] := fun i hi => by unfold cv; rw [hat i hi]
  have hty : Typed .char A := fun i v hv => by
    have hi : i < A.slots.size := (Array.getElem?_eq_some_iff.mp hv).1
    have q := K5 i hi
    rw [hv] at q
    rw [Option.some.inj q]
    exact K6 i hi
  refine Back.mono (back hZ hw wi E V C K1 hty S hz (by omega) (by omega) (fun i hi => by rw [hcv i (by omega)]; exact hall _ (List.getElem_mem _)) hfr hlo) (fun P a hp => ⟨hp.1, hp.2.1, hp.2.2.1, by rw [e]; exact hp.2.2.2⟩) (fun P a v B hp hq => ?_)
  obtain ⟨L, ⟨q1, q2, q3, q4, q5, q6, q7, ⟨V', v1, v2, v3, v4, v5⟩, q9⟩, hl, hc, hs⟩ := hq
  refine ⟨L, ⟨q1, q2, q3, q4, q5, q6, q7, ⟨V'.cls, v3, V', v1, rfl, by rw [v4, e, hlen], K4, fun i hi => ?_, fun i hi => ?_⟩, q9⟩, hl, hc, by rw [hs, e]⟩
  · have hi' : i < cs.length := by omega
    rw [v5 i (by omega), hcv i hi']; simp [List.getD_eq_getElem?_getD, hi']
  · have hi' : i < cs.length := by omega
    simp only [List.getD_eq_getElem?_getD, List.getElem?_map, List.getElem?_eq_getElem hi', Option.map_some, Option.getD_some]
    exact fits_lo8 _
end StrChars.Road
namespace StrChars.Road
open Jvm Sem ClassFile Op Lib Jvm.Stand Jvm.Free Jvm.Free.XT
/-- WHAT COMES BACK, in the writer's own shape -/
def QV (Z : State) (x : Addr) (N : Int32) (bs : List Int32) (h : Heap) (n0 : Nat) (v : Option Value) (h' : Heap) (L : List Loc) : Prop := v = none ∧ RoadKit.Fr n0 L ∧ RoadKit.Keep h h' [x] ∧ RoadKit.Exa Z h' x ST ∧ RoadKit.Fld Z h' x ST "coder" "B" (.int 0) ∧
  ∃ (t : Addr) (kb : ClassId), n0 ≤ t ∧ h.size ≤ t ∧ ¬ t = x ∧ RoadKit.Fld Z h' x ST "value" "[B" (.ref t) ∧ RoadKit.Arv Z h' t kb .byte N (bs.map Value.int) (.int 0)
/-- **new String(chars) AT A CALL, FOR THE WRITER**: a char[] of n known ints, each 0 to 255 -/
theorem backV {p : Program} {l : Launch} {e : Env} {R : Room} {s : State} {args : Array Value} {below : List Frame} {len W : Nat} {Z : State} {a0 : Array Value} {h : Heap} (hZ : Z.Warmed39 s.vm) (hw : ∀ d ∈ words, d.before a0 Z = true) {kI : Nat} (wi : (Jvm.Cond.instantiable ST kI).before a0 Z = true)
    {x b : Addr} {kC : ClassId} {cs bs : List Int32} {d v0 c0 : Value} {z N : Int32} {n n0 : Nat} (hx0 : n0 ≤ x) (hh0 : n0 ≤ h.size) (E : RoadKit.Exa Z h x ST) (V : RoadKit.Fld Z h x ST "value" "[B" v0) (C : RoadKit.Fld Z h x ST "coder" "B" c0) (K : RoadKit.Arv Z h b kC .char N (cs.map Value.int) d) (S : RoadKit.Sta Z h ST "COMPACT_STRINGS" "Z" (.int z)) (hz : ¬ z = 0)
    (hn : cs.length = n) (hN : N = Int32.ofNat n) (l0 : 0 < n) (l2 : n ≤ 4000) (hp : ∀ c ∈ cs, ¬ c < 0 ∧ ¬ (255 : Int32) < c) (hb : bs = cs.map (fun c => c.toInt8.toInt32)) (hfr : 4 ≤ R.frames) (hlo : W + 65 ≤ R.locals) :
    Back l R p e below s args (⟨"java/lang/String", "<init>", "([C)V"⟩ : MethodName) len W (fun P a => a = #[.ref x, .ref b] ∧ P.U.heap = h ∧ P.cells + 1 ≤ R.cells ∧ P.slots + n ≤ R.slots)
      (fun P _ v B => ∃ L, QV Z x N bs h n0 v B.U.heap L ∧ B.locs = P.locs ++ L ∧ B.cells = P.cells + 1 ∧ B.slots = P.slots + n) := by
  subst hn hN hb
  refine Back.mono (backArv hZ hw wi E V C K S hz (n32 (by omega)) l0 (by omega) (fun c hc => (hp c hc).2) hfr hlo) (fun P a hp => hp) (fun P a v B hp hq => ?_)
  obtain ⟨L, ⟨q1, q2, q3, q4, q5, q6, q7, ⟨kb, v1, v2⟩, q9⟩, hl, hc, hs⟩ := hq
  exact ⟨L, ⟨q1, fun y hy => by rw [q2 y hy]; exact hx0, q3, q5, q7, h.size, kb, hh0, Nat.le_refl _, Nat.ne_of_gt E.lt, q6, by rw [List.map_map]; exact v2⟩, hl, hc, hs⟩
end StrChars.Road
namespace StrChars
open Jvm Sem ClassFile Op Lib Jvm.Stand Jvm.Free.XT Jvm.Free.ALB Jvm.Free.JM Jvm.Free
open Jvm.Lib.Cold (StaticIs)
def hi8 (x : Int32) : Int32 := lo8 (x >>> ((8 : Int32) &&& 31))
/-- what StringUTF16.getChar makes of two bytes -/
def pairCh (u v : Int32) : Int32 := (((u &&& 255) <<< ((0 : Int32) &&& 31)) ||| ((v &&& 255) <<< ((8 : Int32) &&& 31))).toUInt32.toUInt16.toUInt32.toInt32
theorem shr0 (c : Int32) : c >>> ((0 : Int32) &&& 31) = c := by
  have e : ((0 : Int32) &&& 31) = 0 := by decide
  rw [e]
  apply Int32.toBitVec_inj.mp
  rw [Int32.toBitVec_shiftRight]
  have e1 : ((0 : Int32).toBitVec.smod 32) = 0#32 := by decide
  rw [e1, BitVec.sshiftRight_eq']
  exact BitVec.sshiftRight_zero
theorem lo8_and (x : Int32) : (lo8 x &&& 255).toBitVec.toNat = x.toBitVec.toNat % 256 := by
  have h : (lo8 x).toBitVec = (x.toBitVec.signExtend 8).signExtend 32 := by rw [lo8, Int8.toBitVec_toInt32, Int32.toBitVec_toInt8]
  rw [Int32.toBitVec_and, BitVec.toNat_and, h]
  have e : ((x.toBitVec.signExtend 8).signExtend 32).toNat % 256 = x.toBitVec.toNat % 256 := by
    rw [BitVec.toNat_signExtend]
    have hlt := x.toBitVec.isLt
    simp only [BitVec.toNat_setWidth, BitVec.toNat_signExtend]
    split <;> split <;> omega
  rw [← e]
  exact Nat.and_two_pow_sub_one_eq_mod _ 8
theorem pair_says {c : Int32} (h0 : ¬ c < 0) (h1 : ¬ 65535 < c) : pairCh (lo8 c) (hi8 c) = c := by
  rw [Int32.lt_iff_toInt_lt] at h0 h1
  have e0 : (0 : Int32).toInt = 0 := rfl
  have e1 : (65535 : Int32).toInt = 65535 := rfl
  have hc : c.toInt = c.toBitVec.toNat := by
    have := c.toBitVec.isLt
    have e : c.toInt = c.toBitVec.toInt := rfl
    rw [e] at h0 h1
    rw [e]
    rw [BitVec.toInt_eq_toNat_cond] at h0 h1 ⊢
    split at h0 <;> split <;> omega
  have hn : c.toBitVec.toNat < 65536 := by omega
  have a1 := lo8_and c
  have a2 : (hi8 c &&& 255).toBitVec.toNat = c.toBitVec.toNat / 256 := by
    rw [hi8, lo8_and]
    have e : ((8 : Int32) &&& 31) = 8 := by decide
    rw [e, Int32.toBitVec_shiftRight]
    have e2 : ((8 : Int32).toBitVec.smod 32) = 8#32 := by decide
    rw [e2, BitVec.sshiftRight_eq', BitVec.toNat_sshiftRight_of_msb_false (by rw [BitVec.msb_eq_false_iff_two_mul_lt]; omega)]
    show c.toBitVec.toNat >>> 8 % 256 = _
    rw [Nat.shiftRight_eq_div_pow]
    omega
  unfold pairCh
  apply Int32.toBitVec_inj.mp
  apply BitVec.eq_of_toNat_eq
  have f0 : ((0 : Int32) &&& 31) = 0 := by decide
  have f8 : ((8 : Int32) &&& 31) = 8 := by decide
  rw [f0, f8]
  have g : (((lo8 c &&& 255) <<< (0 : Int32)) ||| ((hi8 c &&& 255) <<< (8 : Int32))).toBitVec.toNat = c.toBitVec.toNat := by
    rw [Int32.toBitVec_or, Int32.toBitVec_shiftLeft, Int32.toBitVec_shiftLeft]
    have s0 : ((0 : Int32).toBitVec.smod 32) = 0#32 := by decide
    have s8 : ((8 : Int32).toBitVec.smod 32) = 8#32 := by decide
    rw [s0, s8, BitVec.toNat_or]
    simp only [BitVec.shiftLeft_eq', BitVec.toNat_shiftLeft, a1, a2]
    show (c.toBitVec.toNat % 256) <<< 0 % 2 ^ 32 ||| (c.toBitVec.toNat / 256) <<< 8 % 2 ^ 32 = _
    rw [Nat.shiftLeft_zero, Nat.mod_eq_of_lt (show c.toBitVec.toNat % 256 < 2 ^ 32 by omega), Nat.mod_eq_of_lt (show (c.toBitVec.toNat / 256) <<< 8 < 2 ^ 32 by rw [Nat.shiftLeft_eq]; omega), Nat.or_comm, ← Nat.shiftLeft_add_eq_or_of_lt (by omega), Nat.shiftLeft_eq]
    omega
  show BitVec.toNat (((((lo8 c &&& 255) <<< (0 : Int32)) ||| ((hi8 c &&& 255) <<< (8 : Int32))).toBitVec.setWidth 16).setWidth 32) = _
  rw [BitVec.toNat_setWidth, BitVec.toNat_setWidth, g]
  omega
end StrChars
namespace StrChars
open Jvm Sem ClassFile Op Lib Jvm.Stand Jvm.Free.XT Jvm.Free.ALB Jvm.Free.JM Jvm.Free
open Jvm.Lib.Cold (StaticIs)
theorem shr1 {n : Nat} (h : 2 * n < 2 ^ 31) : Int32.ofNat (2 * n) >>> ((1 : Int32) &&& 31) = Int32.ofNat n := by
  have e : ((1 : Int32) &&& 31) = 1 := by decide
  rw [e]
  apply Int32.toBitVec_inj.mp
  rw [Int32.toBitVec_shiftRight]
  have e1 : ((1 : Int32).toBitVec.smod 32) = 1#32 := by decide
  have hm : (BitVec.ofNat 32 (2 * n)).toNat = 2 * n := by rw [BitVec.toNat_ofNat, Nat.mod_eq_of_lt (by omega)]
  rw [e1, BitVec.sshiftRight_eq']
  apply BitVec.eq_of_toNat_eq
  show ((BitVec.ofNat 32 (2 * n)).sshiftRight 1).toNat = (BitVec.ofNat 32 n).toNat
  rw [BitVec.toNat_sshiftRight_of_msb_false (by rw [BitVec.msb_eq_false_iff_two_mul_lt, hm]; omega), hm, BitVec.toNat_ofNat, Nat.shiftRight_eq_div_pow]
  omega
/-- charAt's cast of a byte read back -/
def chr8 (u : Int32) : Int32 := (u &&& 255).toUInt32.toUInt16.toUInt32.toInt32
theorem chr8_lo8 {c : Int32} (h0 : ¬ c < 0) (h1 : ¬ 255 < c) : chr8 (lo8 c) = c := by
  have t : ∀ k : Fin 256, (Int32.ofNat k.val).toUInt32.toUInt16.toUInt32.toInt32 = Int32.ofNat k.val := by decide +kernel
  unfold chr8
  rw [lo8_mask h0 h1]
  rw [Int32.lt_iff_toInt_lt] at h0 h1
  have e0 : (0 : Int32).toInt = 0 := rfl
  have e1 : (255 : Int32).toInt = 255 := rfl
  obtain ⟨k, hk⟩ : ∃ k : Nat, c.toInt = k := ⟨c.toInt.toNat, by omega⟩
  have hx : c = Int32.ofNat k := Int32.toInt_inj.mp (by rw [hk, Int32.toInt_ofNat_small (by omega)])
  rw [hx]
  exact t ⟨k, by omega⟩
theorem narrow_ch {c : Int32} (h0 : ¬ c < 0) (h1 : ¬ 65535 < c) : narrow .char (.int c) = .int c := by
  have q : narrow .char (.int (pairCh (lo8 c) (hi8 c))) = .int (pairCh (lo8 c) (hi8 c)) := narrow_c _
  rwa [pair_says h0 h1] at q
/-- the array's cell V codes the n chars f 0 .. f (n - 1) by the coder cd, as the JDK does: coder 1 just where some char is above 255 -/
def Cod (cd : Int32) (n : Nat) (f : Nat → Int32) (V : Cell) : Prop := (cd = 0 ∧ V.slots.size = n ∧ ∀ j, j < n → V.slots[j]? = some (.int (lo8 (f j))) ∧ ¬ 255 < f j) ∨ (cd = 1 ∧ V.slots.size = 2 * n ∧ (∀ j, j < n → V.slots[2 * j]? = some (.int (lo8 (f j))) ∧ V.slots[2 * j + 1]? = some (.int (hi8 (f j)))) ∧ ∃ j, j < n ∧ 255 < f j)
theorem Cod.cd {cd : Int32} {n : Nat} {f : Nat → Int32} {V : Cell} (h : Cod cd n f V) : cd = 0 ∨ cd = 1 := h.imp (fun q => q.1) fun q => q.1
theorem Cod.len {cd : Int32} {n : Nat} {f : Nat → Int32} {V : Cell} (h : Cod cd n f V) (hs : V.slots.size < 2 ^ 31) : Int32.ofNat V.slots.size >>> (cd &&& 31) = Int32.ofNat n := by
  rcases h with ⟨rfl, h, -⟩ | ⟨rfl, h, -⟩
  · rw [shr0, h]
  · rw [h, shr1 (by omega)]
/-- **x is a String of the n chars f 0 .. f (n - 1)**, Latin-1 or UTF-16; its array at t has the cell V -/
def Txt (x t : Addr) (V : Cell) (cd : Int32) (n : Nat) (f : Nat → Int32) (U : State) : Prop := Exact "java/lang/String" x U ∧ Has x "java/lang/String" "value" "[B" (.ref t) U ∧ Has x "java/lang/String" "coder" "B" (.int cd) U ∧ XT.Arr .byte t V U ∧ Cod cd n f V ∧ ∀ j, j < n → ¬ f j < 0 ∧ ¬ 65535 < f j
theorem Txt.mv {x t : Addr} {V : Cell} {cd : Int32} {n : Nat} {f : Nat → Int32} {U U' : State} (h : Txt x t V cd n f U) (hal : U.vm.Alike U'.vm) (hh : U'.heap = U.heap) : Txt x t V cd n f U' := ⟨h.1.mv hal hh, h.2.1.mv hal hh, h.2.2.1.mv hal hh, h.2.2.2.1.mv hal hh, h.2.2.2.2⟩
namespace Cdr
def yN : MethodName := ⟨"java/lang/String", "coder", "()B"⟩
abbrev yB : ByteArray := jdk_42_method_152_code
theorem d0 : decode yB 0 = .ok (.getstatic 38, 3) := by decide +kernel
theorem d3 : decode yB 3 = .ok (.ifCond (.eq) 10, 3) := by decide +kernel
theorem d6 : decode yB 6 = .ok (.aload_n 0, 1) := by decide +kernel
theorem d7 : decode yB 7 = .ok (.getfield 15, 3) := by decide +kernel
theorem d10 : decode yB 10 = .ok (.goto 4, 3) := by decide +kernel
theorem d14 : decode yB 14 = .ok (.ireturn, 1) := by decide +kernel
def site : List Cond := [.fieldLink "java/lang/String" 38 "java/lang/String" "COMPACT_STRINGS" "Z", .fieldLink "java/lang/String" 15 "java/lang/String" "coder" "B"]
def tab : Cond := tabOf yN yB 1 (some .byte) site
def P (x : Addr) (cd z : Int32) (args : Array Value) (s : State) : Prop := args = #[.ref x] ∧ Has x "java/lang/String" "coder" "B" (.int cd) s ∧ (cd = 0 ∨ cd = 1) ∧ StaticIs s "java/lang/String" "COMPACT_STRINGS" "Z" (.int z) ∧ ¬ z = 0
def E (cd : Int32) (r : Option Value) (s u : State) : Prop := XT.PureE (some (.int cd)) r s u
theorem law (l : Launch) (x : Addr) (cd z : Int32) : Law l yN 1 0 0 0 yB 1 (some .byte) site (P x cd z) (E cd) [] 0 0 := by
  refine Law.of_walk (plainFor_of_name (by decide +kernel)) (by decide +kernel) (by decide +kernel) (by decide) (fun _ _ h => by rw [h.1]; rfl) (fun _ U U' hal hh h => ⟨h.1, h.2.1.mv hal hh, h.2.2.1, h.2.2.2.1.there hal hh, h.2.2.2.2⟩) (fun r U U' V V' h1 hal h2 h => XT.PureE.mv r U U' V V' h1 hal h2 h) ?_
  intro p e s m args below meth c s₁ X0 hexec hbytes hml hret hlk hnm hown hh0 W hP
  obtain ⟨rfl, hx, hc, s1, hz⟩ := hP
  have c1 : Steps p.tables e below (s₁.setTop (entryFrame m #[.ref x] 1)) (s₁.setTop (mkF m 0 #[.val (.ref x)] [])) := entry rfl
  obtain ⟨T2, X2, q2, st2⟩ := X0.sget hexec hown (wk W (.fieldLink "java/lang/String" 38 "java/lang/String" "COMPACT_STRINGS" "Z")) s1 (fun _ _ h => by rw [hh0]; exact h) (g := (mkF m 0 #[.val (.ref x)] [])) rfl (hb hbytes d0)
  have hh2 := q2.trans hh0
  have c3 : Steps p.tables e below (s₁.setTop (entryFrame m #[.ref x] 1)) (T2.setTop (mkF m 7 #[.val (.ref x)] [.ref x])) := (c1.trans (st2 _ (Steps.refl _))).trans (by
    refine XS.ifNo X2.here hexec rfl (hb hbytes d3) rfl (i0_eq_f hz) ?_
    refine XS.aloadN X2.here hexec rfl (hb hbytes d6) rfl rfl ?_
    exact Steps.refl _)
  obtain ⟨T4, X4, q4, st4⟩ := X2.hget hexec hown (wk W (.fieldLink "java/lang/String" 15 "java/lang/String" "coder" "B")) (hx.mv X2.warmed.alike hh2) (g := (mkF m 7 #[.val (.ref x)] [.ref x])) rfl (rest := []) rfl (hb hbytes d7)
  have c5 : Steps p.tables e below (s₁.setTop (entryFrame m #[.ref x] 1)) (T4.setTop (mkF m 14 #[.val (.ref x)] [.int cd])) := (c3.trans (st4 _ (Steps.refl _))).trans (by
    refine XS.goto X4.here hexec rfl (pc0 := 10) rfl (hb hbytes d10) (by decide) rfl ?_
    exact Steps.refl _)
  exact ⟨T4, some (.int cd), _, _, _, X4, rfl, rfl, rfl, (fun h => by cases h), ⟨rfl, q4.trans hh2⟩, fun fs hl => c5.trans (X4.ireturnOut hexec hret (by rcases hc with rfl | rfl <;> rfl) (Or.inr (Or.inr (Or.inl rfl))) (hb hbytes d14) hl)⟩
end Cdr
namespace Len
def yN : MethodName := ⟨"java/lang/String", "length", "()I"⟩
abbrev yB : ByteArray := jdk_42_method_54_code
theorem d0 : decode yB 0 = .ok (.aload_n 0, 1) := by decide +kernel
theorem d1 : decode yB 1 = .ok (.getfield 9, 3) := by decide +kernel
theorem d4 : decode yB 4 = .ok (.arraylength, 1) := by decide +kernel
theorem d5 : decode yB 5 = .ok (.aload_n 0, 1) := by decide +kernel
theorem d6 : decode yB 6 = .ok (.invokevirtual 335, 3) := by decide +kernel
theorem d9 : decode yB 9 = .ok (.ishr, 1) := by decide +kernel
theorem d10 : decode yB 10 = .ok (.ireturn, 1) := by decide +kernel
def site : List Cond := [.fieldLink "java/lang/String" 9 "java/lang/String" "value" "[B", Cdr.tab] ++ virtW "java/lang/String" 335 "java/lang/String" Cdr.yN Cdr.yN
def tab : Cond := tabOf yN yB 1 (some .int) site
def P (x t : Addr) (V : Cell) (cd : Int32) (n : Nat) (f : Nat → Int32) (z : Int32) (args : Array Value) (s : State) : Prop := args = #[.ref x] ∧ Txt x t V cd n f s ∧ StaticIs s "java/lang/String" "COMPACT_STRINGS" "Z" (.int z) ∧ ¬ z = 0
def E (n : Nat) (r : Option Value) (s u : State) : Prop := XT.PureE (some (.int (Int32.ofNat n))) r s u
/-- length() of a String of n chars, in either coding -/
theorem law (l : Launch) (x t : Addr) (V : Cell) (cd : Int32) (n : Nat) (f : Nat → Int32) (z : Int32) : Law l yN 1 0 1 13 yB 1 (some .int) site (P x t V cd n f z) (E n) [] 0 0 := by
  refine Law.of_walk (plainFor_of_name (by decide +kernel)) (by decide +kernel) (by decide +kernel) (by decide) (fun _ _ h => by rw [h.1]; rfl) (fun _ U U' hal hh h => ⟨h.1, h.2.1.mv hal hh, h.2.2.1.there hal hh, h.2.2.2⟩) (fun r U U' V V' h1 hal h2 h => XT.PureE.mv r U U' V V' h1 hal h2 h) ?_
  intro p e s m args below meth c s₁ X0 hexec hbytes hml hret hlk hnm hown hh0 W hP
  obtain ⟨rfl, hx, s1, hz⟩ := hP
  have v31 := hx.2.2.2.1.2.2.2
  have c1 : Steps p.tables e below (s₁.setTop (entryFrame m #[.ref x] 1)) (s₁.setTop (mkF m 1 #[.val (.ref x)] [.ref x])) := Steps.trans (entry rfl) (by
    show Steps p.tables e below (s₁.setTop (mkF m 0 #[.val (.ref x)] [])) _
    refine XS.aloadN X0.here hexec rfl (hb hbytes d0) rfl rfl ?_
    exact Steps.refl _)
  obtain ⟨T2, X2, q2, st2⟩ := X0.hget hexec hown (wk W (.fieldLink "java/lang/String" 9 "java/lang/String" "value" "[B")) (hx.mv X0.warmed.alike hh0).2.1 (g := (mkF m 1 #[.val (.ref x)] [.ref x])) rfl (rest := []) rfl (hb hbytes d1)
  have hh2 := q2.trans hh0
  have hx2 := hx.mv X2.warmed.alike hh2
  have c3 : Steps p.tables e below (s₁.setTop (entryFrame m #[.ref x] 1)) (T2.setTop (mkF m 6 #[.val (.ref x)] [.ref x, .int (Int32.ofNat V.slots.size)])) := (c1.trans (st2 _ (Steps.refl _))).trans (by
    refine X2.alen hexec hx2.2.2.2.1 rfl rfl (hb hbytes d4) ?_
    refine XS.aloadN X2.here hexec rfl (hb hbytes d5) rfl rfl ?_
    exact Steps.refl _)
  obtain ⟨v4, T4, X4, E4, g4⟩ := X2.callV hexec (Cdr.law l x cd z) hown (wks W (virtW "java/lang/String" 335 "java/lang/String" Cdr.yN Cdr.yN)) rfl (by decide) (wk W Cdr.tab) (W := 1) (Nat.le_of_ble_eq_true rfl) (Nat.le_of_ble_eq_true rfl) (Nat.le_refl _) (Nat.le_refl _) (hx2.1.fc X2.warmed.alike) hx2.1.is (g := (mkF m 6 #[.val (.ref x)] [.ref x, .int (Int32.ofNat V.slots.size)])) rfl (by rw [hml]; rfl) c3 (argsL := []) (rest := [.int (Int32.ofNat V.slots.size)]) rfl rfl (by show 2 * 0 + (1 + 0) ≤ _; decide) (hb hbytes d6) (⟨rfl, hx2.2.2.1, hx.2.2.2.2.1.cd, s1.there X2.warmed.alike hh2, hz⟩)
  obtain ⟨rfl, q4⟩ := E4
  have c5 : Steps p.tables e below (s₁.setTop (entryFrame m #[.ref x] 1)) (T4.setTop (mkF m 10 #[.val (.ref x)] [.int (Int32.ofNat V.slots.size >>> (cd &&& 31))])) := Steps.trans g4 (by
    refine ishr X4.here hexec rfl (hb hbytes d9) rfl ?_
    exact Steps.refl _)
  rw [hx.2.2.2.2.1.len v31] at c5
  exact ⟨T4, some (.int (Int32.ofNat n)), _, _, _, X4, rfl, rfl, rfl, (fun h => by cases h), ⟨rfl, q4.trans hh2⟩, fun fs hl => c5.trans (X4.ireturnOut hexec hret rfl (Or.inl rfl) (hb hbytes d10) hl)⟩
theorem pays {l : Launch} {R : Room} {p : Program} {e : Env} {below : List Frame} {s : State} {sargs : Array Value} {len W : Nat} (x t : Addr) (V : Cell) (cd : Int32) (n : Nat) (f : Nat → Int32) (z : Int32) (htab : tab.before sargs s = true) (hfr : 2 ≤ R.frames) (hlo : W + 25 ≤ R.locals) :
    Back l R p e below s sargs yN len W (fun A₁ a₁ => A₁.cells + 0 ≤ R.cells ∧ A₁.slots + 0 ≤ R.slots ∧ P x t V cd n f z a₁ A₁.U) (fun A₁ _ v₁ B₁ => E n v₁ A₁.U B₁.U ∧ B₁.locs = A₁.locs ++ [] ∧ B₁.cells = A₁.cells + 0 ∧ B₁.slots = A₁.slots + 0) :=
  (law l x t V cd n f z).pays htab hfr (by omega)
end Len
namespace IsL
def yN : MethodName := ⟨"java/lang/String", "isLatin1", "()Z"⟩
abbrev yB : ByteArray := jdk_42_method_154_code
theorem d0 : decode yB 0 = .ok (.getstatic 38, 3) := by decide +kernel
theorem d3 : decode yB 3 = .ok (.ifCond (.eq) 14, 3) := by decide +kernel
theorem d6 : decode yB 6 = .ok (.aload_n 0, 1) := by decide +kernel
theorem d7 : decode yB 7 = .ok (.getfield 15, 3) := by decide +kernel
theorem d10 : decode yB 10 = .ok (.ifCond (.ne) 7, 3) := by decide +kernel
theorem d13 : decode yB 13 = .ok (.iconst 1, 1) := by decide +kernel
theorem d14 : decode yB 14 = .ok (.goto 4, 3) := by decide +kernel
theorem d17 : decode yB 17 = .ok (.iconst 0, 1) := by decide +kernel
theorem d18 : decode yB 18 = .ok (.ireturn, 1) := by decide +kernel
def site : List Cond := [.fieldLink "java/lang/String" 38 "java/lang/String" "COMPACT_STRINGS" "Z", .fieldLink "java/lang/String" 15 "java/lang/String" "coder" "B"]
def tab : Cond := tabOf yN yB 1 (some .boolean) site
def P (x : Addr) (cd z : Int32) (args : Array Value) (s : State) : Prop := args = #[.ref x] ∧ Has x "java/lang/String" "coder" "B" (.int cd) s ∧ (cd = 0 ∨ cd = 1) ∧ StaticIs s "java/lang/String" "COMPACT_STRINGS" "Z" (.int z) ∧ ¬ z = 0
def E (cd : Int32) (r : Option Value) (s u : State) : Prop := XT.PureE (some (.int (1 - cd))) r s u
theorem law (l : Launch) (x : Addr) (cd z : Int32) : Law l yN 1 0 0 0 yB 1 (some .boolean) site (P x cd z) (E cd) [] 0 0 := by
  refine Law.of_walk (plainFor_of_name (by decide +kernel)) (by decide +kernel) (by decide +kernel) (by decide) (fun _ _ h => by rw [h.1]; rfl) (fun _ U U' hal hh h => ⟨h.1, h.2.1.mv hal hh, h.2.2.1, h.2.2.2.1.there hal hh, h.2.2.2.2⟩) (fun r U U' V V' h1 hal h2 h => XT.PureE.mv r U U' V V' h1 hal h2 h) ?_
  intro p e s m args below meth c s₁ X0 hexec hbytes hml hret hlk hnm hown hh0 W hP
  obtain ⟨rfl, hx, hc, s1, hz⟩ := hP
  have c1 : Steps p.tables e below (s₁.setTop (entryFrame m #[.ref x] 1)) (s₁.setTop (mkF m 0 #[.val (.ref x)] [])) := entry rfl
  obtain ⟨T2, X2, q2, st2⟩ := X0.sget hexec hown (wk W (.fieldLink "java/lang/String" 38 "java/lang/String" "COMPACT_STRINGS" "Z")) s1 (fun _ _ h => by rw [hh0]; exact h) (g := (mkF m 0 #[.val (.ref x)] [])) rfl (hb hbytes d0)
  have hh2 := q2.trans hh0
  have c3 : Steps p.tables e below (s₁.setTop (entryFrame m #[.ref x] 1)) (T2.setTop (mkF m 7 #[.val (.ref x)] [.ref x])) := (c1.trans (st2 _ (Steps.refl _))).trans (by
    refine XS.ifNo X2.here hexec rfl (hb hbytes d3) rfl (i0_eq_f hz) ?_
    refine XS.aloadN X2.here hexec rfl (hb hbytes d6) rfl rfl ?_
    exact Steps.refl _)
  obtain ⟨T4, X4, q4, st4⟩ := X2.hget hexec hown (wk W (.fieldLink "java/lang/String" 15 "java/lang/String" "coder" "B")) (hx.mv X2.warmed.alike hh2) (g := (mkF m 7 #[.val (.ref x)] [.ref x])) rfl (rest := []) rfl (hb hbytes d7)
  have c5 : Steps p.tables e below (s₁.setTop (entryFrame m #[.ref x] 1)) (T4.setTop (mkF m 10 #[.val (.ref x)] [.int cd])) := c3.trans (st4 _ (Steps.refl _))
  have c6 : Steps p.tables e below (s₁.setTop (entryFrame m #[.ref x] 1)) (T4.setTop (mkF m 18 #[.val (.ref x)] [.int (1 - cd)])) := by
    rcases hc with rfl | rfl
    · exact c5.trans (by
        refine XS.ifNo X4.here hexec rfl (hb hbytes d10) rfl (i0_ne_f rfl) ?_
        refine iconstV X4.here hexec rfl 1 (hb hbytes d13) (by decide) ?_
        refine XS.goto X4.here hexec rfl (pc0 := 14) rfl (hb hbytes d14) (by decide) rfl ?_
        exact Steps.refl _)
    · exact c5.trans (by
        refine XS.ifYes X4.here hexec rfl (pc0 := 10) rfl (hb hbytes d10) rfl (i0_ne_t (by decide)) (by decide) rfl ?_
        refine iconstV X4.here hexec rfl 0 (hb hbytes d17) (by decide) ?_
        exact Steps.refl _)
  exact ⟨T4, some (.int (1 - cd)), _, _, _, X4, rfl, rfl, rfl, (fun h => by cases h), ⟨rfl, q4.trans hh2⟩, fun fs hl => c6.trans (X4.ireturnOut hexec hret (by rcases hc with rfl | rfl <;> rfl) (Or.inr (Or.inl rfl)) (hb hbytes d18) hl)⟩
end IsL
namespace LChA
def yN : MethodName := ⟨"java/lang/StringLatin1", "charAt", "([BI)C"⟩
abbrev yB : ByteArray := jdk_43_method_2_code
theorem d0 : decode yB 0 = .ok (.iload_n 1, 1) := by decide +kernel
theorem d1 : decode yB 1 = .ok (.aload_n 0, 1) := by decide +kernel
theorem d2 : decode yB 2 = .ok (.arraylength, 1) := by decide +kernel
theorem d3 : decode yB 3 = .ok (.invokestatic 9, 3) := by decide +kernel
theorem d6 : decode yB 6 = .ok (.aload_n 0, 1) := by decide +kernel
theorem d7 : decode yB 7 = .ok (.iload_n 1, 1) := by decide +kernel
theorem d8 : decode yB 8 = .ok (.baload, 1) := by decide +kernel
theorem d9 : decode yB 9 = .ok (.sipush 255, 3) := by decide +kernel
theorem d12 : decode yB 12 = .ok (.iand, 1) := by decide +kernel
theorem d13 : decode yB 13 = .ok (.i2c, 1) := by decide +kernel
theorem d14 : decode yB 14 = .ok (.ireturn, 1) := by decide +kernel
def site : List Cond := [JO.Str_checkIndex.tab] ++ staticW "java/lang/StringLatin1" 9 JO.Str_checkIndex.yN
def tab : Cond := tabOf yN yB 2 (some .char) site
def P (t : Addr) (V : Cell) (i : Nat) (u : Int32) (fm : Value) (args : Array Value) (s : State) : Prop := args = #[.ref t, .int (Int32.ofNat i)] ∧ XT.Arr .byte t V s ∧ V.slots[i]? = some (.int u) ∧ (StaticIs s "jdk/internal/util/Preconditions" "SIOOBE_FORMATTER" "Ljava/util/function/BiFunction;" fm ∧ fm.isRef = true)
def E (u : Int32) (r : Option Value) (s w : State) : Prop := XT.PureE (some (.int (chr8 u))) r s w
theorem law (l : Launch) (t : Addr) (V : Cell) (i : Nat) (u : Int32) (fm : Value) : Law l yN 2 2 2 27 yB 2 (some .char) site (P t V i u fm) (E u) [] 0 0 := by
  refine Law.of_walk (plainFor_of_name (by decide +kernel)) (by decide +kernel) (by decide +kernel) (by decide) (fun _ _ h => by rw [h.1]; rfl) (fun _ U U' hal hh h => ⟨h.1, h.2.1.mv hal hh, h.2.2.1, h.2.2.2.1.there hal hh, h.2.2.2.2⟩) (fun r U U' V V' h1 hal h2 h => XT.PureE.mv r U U' V V' h1 hal h2 h) ?_
  intro p e s m args below meth c s₁ X0 hexec hbytes hml hret hlk hnm hown hh0 W hP
  obtain ⟨rfl, hV, hu, s1, rf⟩ := hP
  have v31 := hV.2.2.2
  have hi : i < V.slots.size := (Array.getElem?_eq_some_iff.mp hu).1
  have c1 : Steps p.tables e below (s₁.setTop (entryFrame m #[.ref t, .int (Int32.ofNat i)] 2)) (s₁.setTop (mkF m 0 #[.val (.ref t), .val (.int (Int32.ofNat i))] [])) := entry rfl
  have c2 : Steps p.tables e below (s₁.setTop (entryFrame m #[.ref t, .int (Int32.ofNat i)] 2)) (s₁.setTop (mkF m 3 #[.val (.ref t), .val (.int (Int32.ofNat i))] [.int (Int32.ofNat V.slots.size), .int (Int32.ofNat i)])) := c1.trans (by
    refine XS.iloadN X0.here hexec rfl (hb hbytes d0) rfl ?_
    refine XS.aloadN X0.here hexec rfl (hb hbytes d1) rfl rfl ?_
    refine X0.alen hexec (hV.mv X0.warmed.alike hh0) rfl rfl (hb hbytes d2) ?_
    exact Steps.refl _)
  obtain ⟨v3, T3, X3, E3, g3⟩ := X0.callS hexec (JO.Str_checkIndex.law l (Int32.ofNat i) (Int32.ofNat V.slots.size) fm) hown (wks W (staticW "java/lang/StringLatin1" 9 JO.Str_checkIndex.yN)) (wk W JO.Str_checkIndex.tab) (W := 0) (Nat.le_of_ble_eq_true rfl) (Nat.le_of_ble_eq_true rfl) (Nat.le_refl _) (Nat.le_refl _) (g := (mkF m 3 #[.val (.ref t), .val (.int (Int32.ofNat i))] [.int (Int32.ofNat V.slots.size), .int (Int32.ofNat i)])) rfl (by rw [hml]; rfl) c2 (argsL := [.int (Int32.ofNat i), .int (Int32.ofNat V.slots.size)]) (rest := []) rfl rfl (by show 2 * 0 + 0 ≤ _; decide) (hb hbytes d3) (⟨rfl, rf, s1.there X0.warmed.alike hh0, Int32.ofNat_not_neg (by omega), lt32 v31 hi⟩)
  obtain ⟨rfl, q3⟩ := E3
  have hh3 := q3.trans hh0
  have c4 : Steps p.tables e below (s₁.setTop (entryFrame m #[.ref t, .int (Int32.ofNat i)] 2)) (T3.setTop (mkF m 14 #[.val (.ref t), .val (.int (Int32.ofNat i))] [.int (chr8 u)])) := Steps.trans g3 (by
    refine XS.aloadN X3.here hexec rfl (hb hbytes d6) rfl rfl ?_
    refine XS.iloadN X3.here hexec rfl (hb hbytes d7) rfl ?_
    refine X3.aget hexec (hV.mv X3.warmed.alike hh3) rfl hu rfl rfl (hb hbytes d8) ?_
    refine sipushV X3.here hexec rfl 255 (hb hbytes d9) (by decide) ?_
    refine XS.iand X3.here hexec rfl (hb hbytes d12) rfl ?_
    refine i2c X3.here hexec rfl (hb hbytes d13) rfl ?_
    exact Steps.refl _)
  exact ⟨T3, some (.int (chr8 u)), _, _, _, X3, rfl, rfl, rfl, (fun h => by cases h), ⟨rfl, hh3⟩, fun fs hl => c4.trans (X3.ireturnOut hexec hret (narrow_c _) (Or.inr (Or.inr (Or.inr (Or.inl rfl)))) (hb hbytes d14) hl)⟩
end LChA
end StrChars
namespace StrChars.Road
open Jvm Sem ClassFile Op Lib Jvm.Stand Jvm.Free Jvm.Free.XT
open Jvm.Lib.Cold (StaticIs)
theorem consq {a : Array Value} {s : State} {c : Jvm.Cond} {L : List Jvm.Cond} (h0 : c.before a s = true) (h : ∀ w ∈ L, w.before a s = true) : ∀ w ∈ c :: L, w.before a s = true := fun w hw => (List.mem_cons.mp hw).elim (fun e => e ▸ h0) (h w)
/-- the words of String.length(), either coding -/
abbrev wordsLen : List Jvm.Cond := [.code Len.yN Len.yB 1 (some .int), .initialized ST, .fieldLink ST 9 ST "value" "[B", .fieldLink ST 38 ST "COMPACT_STRINGS" "Z", .fieldLink ST 15 ST "coder" "B", .code Cdr.yN Cdr.yB 1 (some .byte), .methodLink ST 335 Cdr.yN, .declares Cdr.yN, .selects ST Cdr.yN Cdr.yN, .instanceMethod Cdr.yN]
theorem tabLen_of {a : Array Value} {s : State} (h : ∀ w ∈ wordsLen, w.before a s = true) : Len.tab.before a s = true := by
  have hc : Cdr.tab.before a s = true := unparts (wk h (.code Cdr.yN Cdr.yB 1 (some .byte))) (wks h (.initialized Cdr.yN.cls :: Cdr.site))
  have q := consq hc h
  exact unparts (wk q (.code Len.yN Len.yB 1 (some .int))) (wks q (.initialized Len.yN.cls :: Len.site))
theorem movedLen {Z s : State} {a0 args : Array Value} (hZ : Z.Warmed39 s.vm) (hw : ∀ d ∈ wordsLen, d.before a0 Z = true) : ∀ d ∈ wordsLen, d.before args s = true := fun d hd => by
  have q := hw d hd
  have t : ∀ d ∈ wordsLen, d = .arrayClass .byte ∨ (d.onTables && d.keepsFace) = true := by decide +kernel
  rcases t d hd with rfl | t
  · exact RoadKit.mvA hZ q
  · exact RoadKit.mv hZ q t
/-- the bytes of the chars cs, low before high -/
def wideBytes : List Int32 → List Value
  | [] => []
  | c :: cs => .int (lo8 c) :: .int (hi8 c) :: wideBytes cs
theorem wide_lo (d : Value) : ∀ (cs : List Int32) (j : Nat), j < cs.length → (wideBytes cs).getD (2 * j) d = .int (lo8 (cs.getD j 0))
  | [], j, h => absurd h (Nat.not_lt_zero j)
  | c :: cs, 0, _ => rfl
  | c :: cs, j + 1, h => by
    have q := wide_lo d cs j (by simpa using h)
    rw [show 2 * (j + 1) = 2 * j + 1 + 1 from by omega]
    simpa [wideBytes] using q
theorem wide_hi (d : Value) : ∀ (cs : List Int32) (j : Nat), j < cs.length → (wideBytes cs).getD (2 * j + 1) d = .int (hi8 (cs.getD j 0))
  | [], j, h => absurd h (Nat.not_lt_zero j)
  | c :: cs, 0, _ => rfl
  | c :: cs, j + 1, h => by
    have q := wide_hi d cs j (by simpa using h)
    rw [show 2 * (j + 1) + 1 = 2 * j + 1 + 1 + 1 from by omega]
    simpa [wideBytes] using q
theorem low_at (d : Value) (cs : List Int32) (j : Nat) (h : j < cs.length) : (cs.map fun c => Value.int (lo8 c)).getD j d = .int (lo8 (cs.getD j 0)) := by
  simp [List.getD_eq_getElem?_getD, h]
/-- an array of N2 bytes vs codes the chars cs by the coder cd -/
def CodA (cs : List Int32) (cd N2 : Int32) (vs : List Value) : Prop := (cd = 0 ∧ N2 = Int32.ofNat cs.length ∧ vs = (cs.map fun c => Value.int (lo8 c)) ∧ ∀ c ∈ cs, ¬ 255 < c) ∨ (cd = 1 ∧ N2 = Int32.ofNat (2 * cs.length) ∧ vs = wideBytes cs ∧ ∃ c ∈ cs, 255 < c)
theorem CodA.cod {cs : List Int32} {cd N2 : Int32} {vs : List Value} {V : Cell} (h : CodA cs cd N2 vs) (hn : 2 * cs.length < 2 ^ 31) (hs : V.slots.size = N2.toNatClampNeg) (hv : RoadKit.Has V vs (.int 0)) : Cod cd cs.length (fun j => cs.getD j 0) V := by
  rcases h with ⟨rfl, rfl, rfl, h⟩ | ⟨rfl, rfl, rfl, c, hc, hw⟩
  · rw [n32 (by omega)] at hs
    exact Or.inl ⟨rfl, hs, fun j hj => ⟨by rw [hv j (by omega), low_at _ _ _ hj], by
      have e : cs.getD j 0 = cs[j] := by simp [List.getD_eq_getElem?_getD, hj]
      show ¬ 255 < cs.getD j 0
      rw [e]; exact h _ (List.getElem_mem _)⟩⟩
  · rw [n32 (by omega)] at hs
    obtain ⟨j, hj, rfl⟩ := List.getElem_of_mem hc
    exact Or.inr ⟨rfl, hs, fun j hj => ⟨by rw [hv _ (by omega), wide_lo _ _ _ hj], by rw [hv _ (by omega), wide_hi _ _ _ hj]⟩, j, hj, by
      have e : cs.getD j 0 = cs[j] := by simp [List.getD_eq_getElem?_getD, hj]
      show 255 < cs.getD j 0
      rw [e]; exact hw⟩
/-- an object of exactly java/lang/String, its two fields found: as the laws ask it -/
theorem strObj {Z U : State} {a0 : Array Value} {kI : Nat} (wi : (Jvm.Cond.instantiable ST kI).before a0 Z = true) (al : Z.vm.Alike U.vm) {x : Addr} {v0 c0 : Value} (E : RoadKit.Exa Z U.heap x ST) (V : RoadKit.Fld Z U.heap x ST "value" "[B" v0) (C : RoadKit.Fld Z U.heap x ST "coder" "B" c0) :
    ∃ (D : Cell) (fV fC : Field), Blank ST x D U ∧ Found ST "value" "[B" fV U ∧ Found ST "coder" "B" fC U ∧ D.slots[fV.slot]? = some v0 ∧ D.slots[fC.slot]? = some c0 ∧ RoadKit.slotOf Z ST "value" "[B" = fV.slot ∧ RoadKit.slotOf Z ST "coder" "B" = fC.slot := by
  obtain ⟨D, cfV, kV, iV, fV, hD, gV, stV, knV, obV, asV, slV⟩ := V
  obtain ⟨D', cfC, kC, iC, fC, hD', gC, stC, -, -, asC, slC⟩ := C
  cases hD.symm.trans hD'
  obtain ⟨D2, kD, e1, e2, e3, e4, e5⟩ := E
  cases hD.symm.trans e1
  obtain ⟨c2, k2, i1, i2, i3, -⟩ := Cond.instantiable_spec wi
  cases e2.symm.trans i1
  cases e3.symm.trans i2
  obtain ⟨kU, u1, u2⟩ := al.2.2 _ _ e3
  exact ⟨D, fV, fC, ⟨hD, ⟨knV, fun q hq => by rw [hq] at obV; cases obV⟩, by rw [al.findClass]; exact e2, kU, u1, by rw [u2]; exact i3, by rw [u2]; exact e5 i3⟩, ⟨SBG.found_only al ⟨cfV, kV, iV, gV⟩, stV⟩, ⟨SBG.found_only al ⟨cfC, kC, iC, gC⟩, stC⟩, slV, slC, by simp [RoadKit.slotOf, gV], by simp [RoadKit.slotOf, gC]⟩
theorem sta_is {Z U : State} (al : Z.vm.Alike U.vm) {C n d : String} {v : Value} (S : RoadKit.Sta Z U.heap C n d v) : StaticIs U C n d v := by
  obtain ⟨cfS, iS, kS, fS, st, cS, t1, t2, t3, t4, t5, t6, t7⟩ := S
  exact StaticIs.there (s := { Z with heap := U.heap }) ⟨cfS, iS, kS, fS, st, cS, t1, t2, t3, t4, t5, (fun q => by rw [q] at t6; cases t6), t7⟩ al rfl
/-- **length() OF SUCH A STRING** -/
theorem lenW {p : Program} {l : Launch} {e : Env} {R : Room} {s : State} {args : Array Value} {below : List Frame} {len W : Nat} {Z : State} {a0 : Array Value} {h : Heap} (hZ : Z.Warmed39 s.vm) (hw : ∀ d ∈ wordsLen, d.before a0 Z = true) {kI : Nat} (wi : (Jvm.Cond.instantiable ST kI).before a0 Z = true)
    {x t : Addr} {kb : ClassId} {cs : List Int32} {cd N2 z : Int32} {vs : List Value} (E : RoadKit.Exa Z h x ST) (V : RoadKit.Fld Z h x ST "value" "[B" (.ref t)) (C : RoadKit.Fld Z h x ST "coder" "B" (.int cd)) (K : RoadKit.Arv Z h t kb .byte N2 vs (.int 0)) (hc : CodA cs cd N2 vs) (hb : ∀ c ∈ cs, ¬ c < 0 ∧ ¬ (65535 : Int32) < c)
    (S : RoadKit.Sta Z h ST "COMPACT_STRINGS" "Z" (.int z)) (hz : ¬ z = 0) (l2 : cs.length ≤ 4000) (hfr : 2 ≤ R.frames) (hlo : W + 25 ≤ R.locals) :
    Back l R p e below s args (⟨"java/lang/String", "length", "()I"⟩ : MethodName) len W (fun P a => a = #[.ref x] ∧ P.U.heap = h ∧ P.cells + 0 ≤ R.cells ∧ P.slots + 0 ≤ R.slots)
      (fun P _ v B => ∃ L, (v = some (.int (Int32.ofNat cs.length)) ∧ L = [] ∧ B.U.heap = h) ∧ B.locs = P.locs ++ L ∧ B.cells = P.cells + 0 ∧ B.slots = P.slots + 0) := by
  obtain ⟨A, K1, K2, K3, K4, K5, K6⟩ := K
  have hcod := hc.cod (by omega) K3 K5
  intro m meth c P g ig mk a X hg hsize hdg hW hn hp'
  obtain ⟨rfl, rfl, r1, r2⟩ := hp'
  have al : Z.vm.Alike P.U.vm := hZ.alike.trans X.warmed.alike
  obtain ⟨D, fV, fC, hB, F1, F2, g1, g2, -, -⟩ := strObj wi al E V C
  have hx : Txt x t A cd cs.length (fun j => cs.getD j 0) P.U := ⟨⟨_, hB.2.2.1, D, hB.1, rfl, by cases q : D.vm <;> first | rfl | exact absurd q (hB.2.1.2 _)⟩, Has.of hB F1 g1, Has.of hB F2 g2, ⟨K1.1, State.isArrayOf_alike al K1.2.1, K1.2.2, by rcases hcod with ⟨-, q, -⟩ | ⟨-, q, -⟩ <;> omega⟩, hcod, fun j hj => by
    have e : cs.getD j 0 = cs[j] := by simp [List.getD_eq_getElem?_getD, hj]
    show ¬ cs.getD j 0 < 0 ∧ ¬ 65535 < cs.getD j 0
    rw [e]; exact hb _ (List.getElem_mem _)⟩
  obtain ⟨v, B, X', ⟨⟨hv, hh⟩, hl, hk, hs⟩, st⟩ := Len.pays x t A cd cs.length (fun j => cs.getD j 0) z (tabLen_of (movedLen hZ hw)) hfr hlo m meth c P g ig mk _ X hg hsize hdg hW hn ⟨r1, r2, rfl, hx, sta_is al S, hz⟩
  exact ⟨v, B, X', ⟨[], ⟨hv, rfl, hh⟩, hl, hk, hs⟩, st⟩
end StrChars.Road
namespace StrChars.Road
open Jvm Sem ClassFile Op Lib Jvm.Stand Jvm.Free Jvm.Free.XT
open Jvm.Lib.Cold (StaticIs)
/-- the road's facts of a String, as the laws ask it -/
theorem txt_of {Z U : State} {a0 : Array Value} {kI : Nat} (wi : (Jvm.Cond.instantiable ST kI).before a0 Z = true) (al : Z.vm.Alike U.vm) {x t : Addr} {kb : ClassId} {cs : List Int32} {cd N2 : Int32} {vs : List Value} (E : RoadKit.Exa Z U.heap x ST) (V : RoadKit.Fld Z U.heap x ST "value" "[B" (.ref t)) (C : RoadKit.Fld Z U.heap x ST "coder" "B" (.int cd)) (K : RoadKit.Arv Z U.heap t kb .byte N2 vs (.int 0)) (hc : CodA cs cd N2 vs) (hb : ∀ c ∈ cs, ¬ c < 0 ∧ ¬ (65535 : Int32) < c) (l2 : cs.length ≤ 4000) :
    ∃ A, Txt x t A cd cs.length (fun j => cs.getD j 0) U := by
  obtain ⟨A, K1, K2, K3, K4, K5, K6⟩ := K
  have hcod := hc.cod (by omega) K3 K5
  obtain ⟨D, fV, fC, hB, F1, F2, g1, g2, -, -⟩ := strObj wi al E V C
  exact ⟨A, ⟨_, hB.2.2.1, D, hB.1, rfl, by cases q : D.vm <;> first | rfl | exact absurd q (hB.2.1.2 _)⟩, Has.of hB F1 g1, Has.of hB F2 g2, ⟨K1.1, State.isArrayOf_alike al K1.2.1, K1.2.2, by rcases hcod with ⟨-, q, -⟩ | ⟨-, q, -⟩ <;> omega⟩, hcod, fun j hj => by
    have e : cs.getD j 0 = cs[j] := by simp [List.getD_eq_getElem?_getD, hj]
    show ¬ cs.getD j 0 < 0 ∧ ¬ 65535 < cs.getD j 0
    rw [e]; exact hb _ (List.getElem_mem _)⟩
end StrChars.Road
namespace StrChars
open Jvm Sem ClassFile Op Lib Jvm.Stand Jvm.Free.XT Jvm.Free.ALB Jvm.Free.JM Jvm.Free
open Jvm.Lib.Cold (StaticIs)
namespace ChN
def yN : MethodName := ⟨"java/lang/String", "charAt", "(I)C"⟩
abbrev yB : ByteArray := jdk_42_method_56_code
theorem d0 : decode yB 0 = .ok (.aload_n 0, 1) := by decide +kernel
theorem d1 : decode yB 1 = .ok (.invokevirtual 492, 3) := by decide +kernel
theorem d4 : decode yB 4 = .ok (.ifCond (.eq) 12, 3) := by decide +kernel
theorem d7 : decode yB 7 = .ok (.aload_n 0, 1) := by decide +kernel
theorem d8 : decode yB 8 = .ok (.getfield 9, 3) := by decide +kernel
theorem d11 : decode yB 11 = .ok (.iload_n 1, 1) := by decide +kernel
theorem d12 : decode yB 12 = .ok (.invokestatic 495, 3) := by decide +kernel
theorem d15 : decode yB 15 = .ok (.ireturn, 1) := by decide +kernel
def site : List Cond := [.fieldLink "java/lang/String" 9 "java/lang/String" "value" "[B", IsL.tab, LChA.tab] ++ virtW "java/lang/String" 492 "java/lang/String" IsL.yN IsL.yN ++ staticW "java/lang/String" 495 LChA.yN
def tab : Cond := tabOf yN yB 2 (some .char) site
def P (x t : Addr) (V : Cell) (n : Nat) (f : Nat → Int32) (z : Int32) (fm : Value) (i : Nat) (args : Array Value) (s : State) : Prop := args = #[.ref x, .int (Int32.ofNat i)] ∧ Txt x t V 0 n f s ∧ i < n ∧ StaticIs s "java/lang/String" "COMPACT_STRINGS" "Z" (.int z) ∧ ¬ z = 0 ∧ StaticIs s "jdk/internal/util/Preconditions" "SIOOBE_FORMATTER" "Ljava/util/function/BiFunction;" fm ∧ fm.isRef = true
def E (f : Nat → Int32) (i : Nat) (r : Option Value) (s u : State) : Prop := XT.PureE (some (.int (f i))) r s u
/-- charAt(i) of a Latin-1 String of n chars, i < n: f i -/
theorem law (l : Launch) (x t : Addr) (V : Cell) (n : Nat) (f : Nat → Int32) (z : Int32) (fm : Value) (i : Nat) : Law l yN 2 1 3 40 yB 2 (some .char) site (P x t V n f z fm i) (E f i) [] 0 0 := by
  refine Law.of_walk (plainFor_of_name (by decide +kernel)) (by decide +kernel) (by decide +kernel) (by decide) (fun _ _ h => by rw [h.1]; rfl) (fun _ U U' hal hh h => ⟨h.1, h.2.1.mv hal hh, h.2.2.1, h.2.2.2.1.there hal hh, h.2.2.2.2.1, h.2.2.2.2.2.1.there hal hh, h.2.2.2.2.2.2⟩) (fun r U U' V V' h1 hal h2 h => XT.PureE.mv r U U' V V' h1 hal h2 h) ?_
  intro p e s m args below meth c s₁ X0 hexec hbytes hml hret hlk hnm hown hh0 W hP
  obtain ⟨rfl, hx, hi, s1, hz, s3, rf⟩ := hP
  have v31 := hx.2.2.2.1.2.2.2
  have hr := hx.2.2.2.2.2 i hi
  have hx0 := hx.mv X0.warmed.alike hh0
  have c1 : Steps p.tables e below (s₁.setTop (entryFrame m #[.ref x, .int (Int32.ofNat i)] 2)) (s₁.setTop (mkF m 1 #[.val (.ref x), .val (.int (Int32.ofNat i))] [.ref x])) := Steps.trans (entry rfl) (by
    show Steps p.tables e below (s₁.setTop (mkF m 0 #[.val (.ref x), .val (.int (Int32.ofNat i))] [])) _
    refine XS.aloadN X0.here hexec rfl (hb hbytes d0) rfl rfl ?_
    exact Steps.refl _)
  obtain ⟨v2, T2, X2, E2, g2⟩ := X0.callV hexec (IsL.law l x 0 z) hown (wks W (virtW "java/lang/String" 492 "java/lang/String" IsL.yN IsL.yN)) rfl (by decide) (wk W IsL.tab) (W := 0) (Nat.le_of_ble_eq_true rfl) (Nat.le_of_ble_eq_true rfl) (Nat.le_refl _) (Nat.le_refl _) (hx0.1.fc X0.warmed.alike) hx0.1.is (g := (mkF m 1 #[.val (.ref x), .val (.int (Int32.ofNat i))] [.ref x])) rfl (by rw [hml]; rfl) c1 (argsL := []) (rest := []) rfl rfl (by show 2 * 0 + 0 ≤ _; decide) (hb hbytes d1) (⟨rfl, hx0.2.2.1, hx.2.2.2.2.1.cd, s1.there X0.warmed.alike hh0, hz⟩)
  obtain ⟨rfl, q2⟩ := E2
  have hh2 := q2.trans hh0
  have hx2 := hx.mv X2.warmed.alike hh2
  obtain ⟨-, k1, k2⟩ | ⟨k0, -⟩ := hx.2.2.2.2.1
  · have c3 : Steps p.tables e below (s₁.setTop (entryFrame m #[.ref x, .int (Int32.ofNat i)] 2)) (T2.setTop (mkF m 8 #[.val (.ref x), .val (.int (Int32.ofNat i))] [.ref x])) := Steps.trans g2 (by
      refine XS.ifNo X2.here hexec rfl (hb hbytes d4) rfl (i0_eq_f (by decide)) ?_
      refine XS.aloadN X2.here hexec rfl (hb hbytes d7) rfl rfl ?_
      exact Steps.refl _)
    obtain ⟨T4, X4, q4, st4⟩ := X2.hget hexec hown (wk W (.fieldLink "java/lang/String" 9 "java/lang/String" "value" "[B")) hx2.2.1 (g := (mkF m 8 #[.val (.ref x), .val (.int (Int32.ofNat i))] [.ref x])) rfl (rest := []) rfl (hb hbytes d8)
    have hh4 := q4.trans hh2
    have c5 : Steps p.tables e below (s₁.setTop (entryFrame m #[.ref x, .int (Int32.ofNat i)] 2)) (T4.setTop (mkF m 12 #[.val (.ref x), .val (.int (Int32.ofNat i))] [.int (Int32.ofNat i), .ref t])) := (c3.trans (st4 _ (Steps.refl _))).trans (by
      refine XS.iloadN X4.here hexec rfl (hb hbytes d11) rfl ?_
      exact Steps.refl _)
    obtain ⟨v6, T6, X6, E6, g6⟩ := X4.callS hexec (LChA.law l t V i (lo8 (f i)) fm) hown (wks W (staticW "java/lang/String" 495 LChA.yN)) (wk W LChA.tab) (W := 0) (Nat.le_of_ble_eq_true rfl) (Nat.le_of_ble_eq_true rfl) (Nat.le_refl _) (Nat.le_refl _) (g := (mkF m 12 #[.val (.ref x), .val (.int (Int32.ofNat i))] [.int (Int32.ofNat i), .ref t])) rfl (by rw [hml]; rfl) c5 (argsL := [.ref t, .int (Int32.ofNat i)]) (rest := []) rfl rfl (by show 2 * 0 + 0 ≤ _; decide) (hb hbytes d12) (⟨rfl, hx.2.2.2.1.mv X4.warmed.alike hh4, (k2 i hi).1, s3.there X4.warmed.alike hh4, rf⟩)
    obtain ⟨rfl, q6⟩ := E6
    rw [chr8_lo8 hr.1 (k2 i hi).2] at g6
    exact ⟨T6, some (.int (f i)), _, _, _, X6, rfl, rfl, rfl, (fun h => by cases h), ⟨rfl, q6.trans hh4⟩, fun fs hl => Steps.trans g6 (X6.ireturnOut hexec hret (narrow_ch hr.1 hr.2) (Or.inr (Or.inr (Or.inr (Or.inl rfl)))) (hb hbytes d15) hl)⟩
  · exact absurd k0 (by decide)
theorem pays {l : Launch} {R : Room} {p : Program} {e : Env} {below : List Frame} {s : State} {sargs : Array Value} {len W : Nat} (x t : Addr) (V : Cell) (n : Nat) (f : Nat → Int32) (z : Int32) (fm : Value) (i : Nat) (htab : tab.before sargs s = true) (hfr : 4 ≤ R.frames) (hlo : W + 53 ≤ R.locals) :
    Back l R p e below s sargs yN len W (fun A₁ a₁ => A₁.cells + 0 ≤ R.cells ∧ A₁.slots + 0 ≤ R.slots ∧ P x t V n f z fm i a₁ A₁.U) (fun A₁ _ v₁ B₁ => E f i v₁ A₁.U B₁.U ∧ B₁.locs = A₁.locs ++ [] ∧ B₁.cells = A₁.cells + 0 ∧ B₁.slots = A₁.slots + 0) :=
  (law l x t V n f z fm i).pays htab hfr (by omega)
end ChN
end StrChars
namespace StrChars.Road
open Jvm Sem ClassFile Op Lib Jvm.Stand Jvm.Free Jvm.Free.XT
open Jvm.Lib.Cold (StaticIs)
/-- the words of String.charAt(int), the Latin-1 road alone -/
abbrev wordsChN : List Jvm.Cond := [.code ChN.yN ChN.yB 2 (some .char), .initialized ST, .fieldLink ST 9 ST "value" "[B", .fieldLink ST 38 ST "COMPACT_STRINGS" "Z", .fieldLink ST 15 ST "coder" "B", .code IsL.yN IsL.yB 1 (some .boolean), .methodLink ST 492 IsL.yN, .declares IsL.yN, .selects ST IsL.yN IsL.yN, .instanceMethod IsL.yN,
  .methodLink ST 495 LChA.yN, .static LChA.yN, .code LChA.yN LChA.yB 2 (some .char), .initialized "java/lang/StringLatin1", .methodLink "java/lang/StringLatin1" 9 JO.Str_checkIndex.yN, .static JO.Str_checkIndex.yN, .code JO.Str_checkIndex.yN JO.Str_checkIndex.yB 2 none,
  .fieldLink ST 1053 "jdk/internal/util/Preconditions" "SIOOBE_FORMATTER" "Ljava/util/function/BiFunction;", .methodLink ST 1059 JC.PreCheck.yN, .static JC.PreCheck.yN, .code JC.PreCheck.yN JC.PreCheck.yB 3 (some .int), .initialized "jdk/internal/util/Preconditions"]
theorem tabChN_of {a : Array Value} {s : State} (h : ∀ w ∈ wordsChN, w.before a s = true) : ChN.tab.before a s = true := by
  have hp : JC.PreCheck.tab.before a s = true := unparts (wk h (.code JC.PreCheck.yN JC.PreCheck.yB 3 (some .int))) (wks h (.initialized JC.PreCheck.yN.cls :: JC.PreCheck.site))
  have qk := consq hp h
  have hk : JO.Str_checkIndex.tab.before a s = true := unparts (wk qk (.code JO.Str_checkIndex.yN JO.Str_checkIndex.yB 2 none)) (wks qk (.initialized JO.Str_checkIndex.yN.cls :: JO.Str_checkIndex.site))
  have ql := consq hk h
  have hl : LChA.tab.before a s = true := unparts (wk ql (.code LChA.yN LChA.yB 2 (some .char))) (wks ql (.initialized LChA.yN.cls :: LChA.site))
  have hi : IsL.tab.before a s = true := unparts (wk h (.code IsL.yN IsL.yB 1 (some .boolean))) (wks h (.initialized IsL.yN.cls :: IsL.site))
  have q := consq hi (consq hl h)
  exact unparts (wk q (.code ChN.yN ChN.yB 2 (some .char))) (wks q (.initialized ChN.yN.cls :: ChN.site))
theorem movedChN {Z s : State} {a0 args : Array Value} (hZ : Z.Warmed39 s.vm) (hw : ∀ d ∈ wordsChN, d.before a0 Z = true) : ∀ d ∈ wordsChN, d.before args s = true := fun d hd => by
  have t : ∀ d ∈ wordsChN, (d.onTables && d.keepsFace) = true := by decide +kernel
  exact RoadKit.mv hZ (hw d hd) (t d hd)
/-- **charAt(i) OF A LATIN-1 STRING**, i < n: the char -/
theorem chN {p : Program} {l : Launch} {e : Env} {R : Room} {s : State} {args : Array Value} {below : List Frame} {len W : Nat} {Z : State} {a0 : Array Value} {h : Heap} (hZ : Z.Warmed39 s.vm) (hw : ∀ d ∈ wordsChN, d.before a0 Z = true) {kI : Nat} (wi : (Jvm.Cond.instantiable ST kI).before a0 Z = true)
    {x t : Addr} {kb : ClassId} {cs : List Int32} {N2 z : Int32} {vs : List Value} {fm : Value} {i : Nat} {j : Int32} (E : RoadKit.Exa Z h x ST) (V : RoadKit.Fld Z h x ST "value" "[B" (.ref t)) (C : RoadKit.Fld Z h x ST "coder" "B" (.int 0)) (K : RoadKit.Arv Z h t kb .byte N2 vs (.int 0)) (hc : CodA cs 0 N2 vs) (hb : ∀ c ∈ cs, ¬ c < 0 ∧ ¬ (65535 : Int32) < c)
    (S : RoadKit.Sta Z h ST "COMPACT_STRINGS" "Z" (.int z)) (hz : ¬ z = 0) (F : RoadKit.Sta Z h "jdk/internal/util/Preconditions" "SIOOBE_FORMATTER" "Ljava/util/function/BiFunction;" fm) (rf : fm.isRef = true) (l2 : cs.length ≤ 4000) (hi : i < cs.length) (hj : j = Int32.ofNat i) (hfr : 4 ≤ R.frames) (hlo : W + 53 ≤ R.locals) :
    Back l R p e below s args (⟨"java/lang/String", "charAt", "(I)C"⟩ : MethodName) len W (fun P a => a = #[.ref x, .int j] ∧ P.U.heap = h ∧ P.cells + 0 ≤ R.cells ∧ P.slots + 0 ≤ R.slots)
      (fun P _ v B => ∃ L, (v = some (.int (cs.getD i 0)) ∧ L = [] ∧ B.U.heap = h) ∧ B.locs = P.locs ++ L ∧ B.cells = P.cells + 0 ∧ B.slots = P.slots + 0) := by
  subst hj
  intro m meth c P g ig mk a X hg hsize hdg hW hn hp'
  obtain ⟨rfl, rfl, r1, r2⟩ := hp'
  have al : Z.vm.Alike P.U.vm := hZ.alike.trans X.warmed.alike
  obtain ⟨A, hx⟩ := txt_of wi al E V C K hc hb l2
  obtain ⟨v, B, X', ⟨⟨hv, hh⟩, hl, hk, hs⟩, st⟩ := ChN.pays x t A cs.length (fun j => cs.getD j 0) z fm i (tabChN_of (movedChN hZ hw)) hfr hlo m meth c P g ig mk _ X hg hsize hdg hW hn ⟨r1, r2, rfl, hx, hi, sta_is al S, hz, sta_is al F, rf⟩
  exact ⟨v, B, X', ⟨[], ⟨hv, rfl, hh⟩, hl, hk, hs⟩, st⟩
/-- what backV says of its String, as the contracts of this text ask it: cs's low bytes, coder 0 -/
theorem codOf {cs : List Int32} {n : Nat} (hn : cs.length = n) (hb : ∀ c ∈ cs, ¬ 255 < c) : CodA cs 0 (Int32.ofNat n) ((cs.map lo8).map Value.int) := Or.inl ⟨rfl, by rw [hn], by simp [List.map_map, Function.comp_def], hb⟩
end StrChars.Road
end Jvm.Pilot.@@N@@
namespace Jvm.Own
open Sem ClassFile Op Lib Jvm.Stand Jvm.Free Jvm.LawKit Jvm.RoadKit
/-- the walk goes on from here and ends in P -/
def Go (p : Program) (e : Env) (below : List Frame) (P : Outcome → State → Prop) (T : State) (g : JFrame) : Prop :=
  ∃ U o, Steps p.tables e below (T.setTop g) U ∧ U.status = .running ∧ Ended U below o ∧ P o U
abbrev PP (s : State) (Q : Option Value → Heap → List Loc → Prop) (K J : Nat) (o : Outcome) (U : State) : Prop := ∃ v L, o = .returned v ∧ Q v U.heap L ∧ FrameEnd s o U L K J
abbrev PS (Z : State) (EL : List (String × Nat)) (s : State) (Q : Option Value → Heap → List Loc → Prop) (K J : Nat) (o : Outcome) (U : State) : Prop := ∃ v L, o = .returned v ∧ Q v U.heap L ∧ CHr Z EL s.vm s.heap U.vm U.heap ∧ ReturnedEndW s o U L K J
abbrev CtP (l : Launch) (y : MethodName) (bytes : ByteArray) (mx : Nat) (ret : Option FieldType) (ws : List Jvm.Cond) (rm : Room) (Z : State) (as' : Array Value) (h0 : Heap) (Q : Option Value → Heap → List Loc → Prop) : Prop :=
  MetFree l y (head1 (Jvm.Cond.code y bytes mx ret :: ws) rm) (fun a U => a = as' ∧ Z.Warmed39 U.vm ∧ U.heap = h0) (fun _ _ _ _ _ => True) (fun _ U o U' => PP U Q rm.cells rm.slots o U')
abbrev CtS (l : Launch) (y : MethodName) (bytes : ByteArray) (mx : Nat) (ret : Option FieldType) (ws : List Jvm.Cond) (rm : Room) (Z : State) (EL : List (String × Nat)) (SL : List Addr) (as' : Array Value) (h0 : Heap) (Q : Option Value → Heap → List Loc → Prop) : Prop :=
  MetFree l y (head1 (Jvm.Cond.code y bytes mx ret :: ws) rm) (fun a U => a = as' ∧ Z.Warmed39 U.vm ∧ U.heap = h0 ∧ CHv Z EL U.vm h0 ∧ ∀ x ∈ SL, Safe Z EL U.vm h0 x) (fun _ _ _ _ _ => True) (fun _ U o U' => PS Z EL U Q rm.cells rm.slots o U')
abbrev PL (s : State) (Q : Option Value → Heap → List Loc → Prop) (K J : Nat) (o : Outcome) (U : State) : Prop := ∃ v L, o = .returned v ∧ Q v U.heap L ∧ ReturnedEndW s o U L K J
abbrev CtL (l : Launch) (y : MethodName) (bytes : ByteArray) (mx : Nat) (ret : Option FieldType) (ws : List Jvm.Cond) (rm : Room) (Z : State) (EL : List (String × Nat)) (as' : Array Value) (h0 : Heap) (Q : Option Value → Heap → List Loc → Prop) : Prop :=
  MetFree l y (head1 (Jvm.Cond.code y bytes mx ret :: ws) rm) (fun a U => a = as' ∧ Z.Warmed39 U.vm ∧ U.heap = h0 ∧ CHv Z EL U.vm h0) (fun _ _ _ _ _ => True) (fun _ U o U' => PL U Q rm.cells rm.slots o U')
abbrev Pays (l : Launch) (R : Room) (p : Program) (e : Env) (below : List Frame) (s : State) (args : Array Value) (y : MethodName) (len W : Nat) (as' : Array Value) (h : Heap) (k j : Nat) (Q : Option Value → Heap → List Loc → Prop) : Prop :=
  Back l R p e below s args y len W (fun A a => a = as' ∧ A.U.heap = h ∧ A.cells + k ≤ R.cells ∧ A.slots + j ≤ R.slots) (fun A _ v B => ∃ L, Q v B.U.heap L ∧ B.locs = A.locs ++ L ∧ B.cells = A.cells + k ∧ B.slots = A.slots + j)
abbrev PaysS (l : Launch) (R : Room) (p : Program) (e : Env) (below : List Frame) (s : State) (vm0 : Vm) (args : Array Value) (y : MethodName) (len W : Nat) (as' : Array Value) (h : Heap) (k j : Nat) (Z : State) (EL : List (String × Nat)) (Q : Option Value → Heap → List Loc → Prop) : Prop :=
  BackS l R p e below (s.setVm vm0) args y len W (fun A a => a = as' ∧ A.U.heap = h ∧ A.cells + k ≤ R.cells ∧ A.slots + j ≤ R.slots) (fun A _ v B => ∃ L, Q v B.U.heap L ∧ B.locs = A.locs ++ L ∧ B.cells = A.cells + k ∧ B.slots = A.slots + j ∧ CHr Z EL vm0 h B.U.vm B.U.heap)
section Own
variable {p : Program} {l : Launch} {e : Env} {R : Room} {s : State} {m : MethodId} {args : Array Value} {below : List Frame} {meth : Method} {c : Code} {T : State} {locs : List Loc} {cells slots : Nat} {P : Outcome → State → Prop} {pc : Nat} {Ls : Array Slot} {st : List Value} {Z : State} {a0 : Array Value} {h : Heap} {EL : List (String × Nat)} {vm0 : Vm} {k0 : Nat} {SL : List Addr} {Q : Option Value → Heap → List Loc → Prop}
theorem Go.of {T' : State} {g g' : JFrame} (h : ∀ t, Steps p.tables e below (T'.setTop g') t → Steps p.tables e below (T.setTop g) t) (k : Go p e below P T' g') : Go p e below P T g := by
  obtain ⟨U, o, h1, h2⟩ := k
  exact ⟨U, o, h _ h1, h2⟩
theorem Go.tr {T' : State} {g g' : JFrame} (h : Steps p.tables e below (T.setTop g) (T'.setTop g')) (k : Go p e below P T' g') : Go p e below P T g := Go.of (fun _ q => h.trans q) k
theorem CtP.walk {y : MethodName} {bytes : ByteArray} {mx : Nat} {ret : Option FieldType} {ws : List Jvm.Cond} {rm : Room} {as' : Array Value} {h0 : Heap} (hpn : plainFor y = true) (hef : ∀ m, entryFrame m as' mx = mkF m 0 Ls [])
    (k : ∀ (p : Program) (e : Env) (s : State) (m : MethodId) (below : List Frame) (meth : Method) (c : Code) (T : State), p.tables.exec = Jvm.exec → c.code = bytes → c.maxLocals = mx → s.vm.findClass y.cls = some m.cls → meth.name = y.name → meth.sig.returnType = ret → meth.locks = false → Z.Warmed39 s.vm →
      Stand p l e rm s m as' below meth c T [] 0 0 → T.heap = h0 → Go p e below (PP s Q rm.cells rm.slots) T (mkF m 0 Ls [])) : CtP l y bytes mx ret ws rm Z as' h0 Q := by
  refine MetFree.of_bodySF hpn hisR ?_
  intro p e s m args below meth c s₁ Bd hml hP hK
  obtain ⟨rfl, hZ, hh⟩ := hP
  obtain ⟨U, o, h1, h2, h3, h4⟩ := k p e s m below meth c s₁ Bd.exec Bd.bytes hml (findClass_of_methodNamed Bd.named) (name_of_methodNamed Bd.named Bd.method).1 Bd.returns Bd.notSynchronized hZ (Stand.of_body Bd) (by rw [← hh, Bd.state]; rfl)
  exact ⟨U, o, castTop (hef m) h1, h2, h3, h4⟩
theorem CtS.walk {y : MethodName} {bytes : ByteArray} {mx : Nat} {ret : Option FieldType} {ws : List Jvm.Cond} {rm : Room} {as' : Array Value} {h0 : Heap} (hpn : plainFor y = true) (hef : ∀ m, entryFrame m as' mx = mkF m 0 Ls [])
    (k : ∀ (p : Program) (e : Env) (s : State) (m : MethodId) (below : List Frame) (meth : Method) (c : Code) (T : State) (vm : Vm) (k0 : Nat), p.tables.exec = Jvm.exec → c.code = bytes → c.maxLocals = mx → vm.findClass y.cls = some m.cls → meth.name = y.name → meth.sig.returnType = ret → meth.locks = false → Z.Warmed39 vm →
      Stand p l e rm (s.setVm vm) m as' below meth c T [] 0 0 → T.heap = h0 → s.Since vm k0 → k0 ≤ h0.size → CHr Z EL s.vm s.heap vm h0 → (∀ x ∈ SL, Safe Z EL vm h0 x) → Go p e below (PS Z EL s Q rm.cells rm.slots) T (mkF m 0 Ls [])) : CtS l y bytes mx ret ws rm Z EL SL as' h0 Q := by
  refine MetFree.of_bodySF hpn hisR ?_
  intro p e s m args below meth c s₁ Bd hml hP hK
  obtain ⟨rfl, hZ, hh, hC, hSL⟩ := hP
  obtain ⟨U, o, h1, h2, h3, h4⟩ := k p e s m below meth c s₁ s.vm h0.size Bd.exec Bd.bytes hml (findClass_of_methodNamed Bd.named) (name_of_methodNamed Bd.named Bd.method).1 Bd.returns Bd.notSynchronized hZ (Stand.of_body Bd) (by rw [← hh, Bd.state]; rfl) ((State.WarmedH.refl s).since _) (Nat.le_refl _) (by rw [hh]; exact CHr.refl hC) hSL
  exact ⟨U, o, castTop (hef m) h1, h2, h3, h4⟩
theorem CtL.walk {y : MethodName} {bytes : ByteArray} {mx : Nat} {ret : Option FieldType} {ws : List Jvm.Cond} {rm : Room} {as' : Array Value} {h0 : Heap} (hpn : plainFor y = true) (hef : ∀ m, entryFrame m as' mx = mkF m 0 Ls [])
    (k : ∀ (p : Program) (e : Env) (s : State) (m : MethodId) (below : List Frame) (meth : Method) (c : Code) (T : State) (vm : Vm) (k0 : Nat), p.tables.exec = Jvm.exec → c.code = bytes → c.maxLocals = mx → vm.findClass y.cls = some m.cls → meth.name = y.name → meth.sig.returnType = ret → meth.locks = false → Z.Warmed39 vm →
      Stand p l e rm (s.setVm vm) m as' below meth c T [] 0 0 → T.heap = h0 → s.Since vm k0 → k0 ≤ h0.size → CHr Z EL s.vm s.heap vm h0 → Go p e below (PL s Q rm.cells rm.slots) T (mkF m 0 Ls [])) : CtL l y bytes mx ret ws rm Z EL as' h0 Q := by
  refine MetFree.of_bodySF hpn hisR ?_
  intro p e s m args below meth c s₁ Bd hml hP hK
  obtain ⟨rfl, hZ, hh, hC⟩ := hP
  obtain ⟨U, o, h1, h2, h3, h4⟩ := k p e s m below meth c s₁ s.vm h0.size Bd.exec Bd.bytes hml (findClass_of_methodNamed Bd.named) (name_of_methodNamed Bd.named Bd.method).1 Bd.returns Bd.notSynchronized hZ (Stand.of_body Bd) (by rw [← hh, Bd.state]; rfl) ((State.WarmedH.refl s).since _) (Nat.le_refl _) (by rw [hh]; exact CHr.refl hC)
  exact ⟨U, o, castTop (hef m) h1, h2, h3, h4⟩
theorem payP {y : MethodName} {bytes : ByteArray} {mx : Nat} {ret : Option FieldType} {rm : Room} {as' : Array Value} {len W : Nat} (hM : CtP l y bytes mx ret [] rm Z as' h Q) (hZ : Z.Warmed39 s.vm) (wc : (Jvm.Cond.code y bytes mx ret).before a0 Z = true) (wz : (Jvm.Cond.initialized y.cls).before a0 Z = true) (hf : rm.frames + 1 ≤ R.frames) (hl : W + (mx + 11) + rm.locals ≤ R.locals) :
    Pays l R p e below s args y len W as' h rm.cells rm.slots Q := backOf hM hZ wc wz hf hl
theorem payS {y : MethodName} {bytes : ByteArray} {mx : Nat} {ret : Option FieldType} {rm : Room} {as' : Array Value} {len W : Nat} (hM : CtS l y bytes mx ret [] rm Z EL SL as' h Q) (hZ : Z.Warmed39 vm0) (wc : (Jvm.Cond.code y bytes mx ret).before a0 Z = true) (wz : (Jvm.Cond.initialized y.cls).before a0 Z = true) (hf : rm.frames + 1 ≤ R.frames) (hl : W + (mx + 11) + rm.locals ≤ R.locals) (hEL : EW Z a0 EL) (H : CHv Z EL vm0 h) (hSL : ∀ x ∈ SL, x < h.size ∧ Safe Z EL vm0 h x) :
    PaysS l R p e below s vm0 args y len W as' h rm.cells rm.slots Z EL Q :=
  BackS.of_freeW (bytes := bytes) (maxL := mx) (ret := ret) (E := fun _ first o t L k n => k = rm.cells ∧ n = rm.slots ∧ (∃ v, o = .returned v ∧ Q v t.heap L) ∧ CHr Z EL first.vm first.heap t.vm t.heap) hM hf hl
    (fun m meth c A a Y hp => have hU : Z.Warmed39 A.U.vm := wtrans (s := s.setVm vm0) hZ Y.warmed
      ⟨by show (Jvm.Cond.and _ .tt).before a A.U = true; rw [Jvm.Cond.before_and, mv hU wc]; rfl, mv hU wc, mv hU wz, hp.2.2.1, hp.2.2.2⟩)
    (fun m meth c A a g mk Y hp => ⟨hp.1, wtrans (s := s.setVm vm0) hZ Y.warmed, hp.2.1, (CHv.at Y hZ hEL H).1, fun x hx => (CHv.at Y hZ hEL H).safe (hSL x hx).1 (hSL x hx).2⟩) (fun _ _ _ _ _ _ _ _ _ => trivial)
    (fun _ _ _ _ ⟨v, L, h1, h2, h3, h4⟩ => ⟨L, _, _, h4, rfl, rfl, ⟨v, h1, h2⟩, h3⟩)
    (fun m meth c A a g mk v t L k n Y hp _ _ ⟨e1, e2, ⟨v', e3, e4⟩, e5⟩ => by
      cases e3; subst e1 e2
      refine ⟨L, e4, rfl, rfl, rfl, (CHv.at Y hZ hEL H).trans ?_⟩
      rw [← hp.2.1]; exact e5)
/-! the ends -/
theorem gRetP {w : Value} {t : FieldType} {i : Instr} {K J : Nat} (X : Stand p l e R s m args below meth c T locs cells slots) (hx : p.tables.exec = Jvm.exec) (hlk : meth.locks = false) (hret : meth.sig.returnType = some t) (hn : narrow t w = w)
    (hi : (i = .ireturn ∧ (t = .int ∨ t = .boolean ∨ t = .byte ∨ t = .char ∨ t = .short) ∧ ∃ z, w = .int z) ∨ (i = .lreturn ∧ t = .long ∧ ∃ z, w = .long z) ∨ (i = .dreturn ∧ t = .double ∧ ∃ z, w = .double z) ∨ (i = .freturn ∧ t = .float ∧ ∃ z, w = .float z) ∨ (i = .areturn ∧ t.isReference = true ∧ w.isRef = true))
    (hd : decode c.code pc = .ok (i, 1)) (eT : T.heap = h) (hK : cells ≤ K) (hJ : slots ≤ J) (hQ : Q (some w) h locs) : Go p e below (PP s Q K J) T (mkF m pc Ls (w :: st)) := by
  obtain ⟨fs, hr, hrun, hended, hW, hsame⟩ := X.leave (v := some w) (fun h => by rw [hret] at h; cases h)
  exact ⟨_, _, retOut X hx hret hn hi hd hr, hrun, hended, _, _, rfl, by show Q (some w) T.heap locs; rw [eT]; exact hQ, ⟨_, rfl⟩, hW, hsame.mono hK hJ⟩
theorem gRetP0 {K J : Nat} (X : Stand p l e R s m args below meth c T locs cells slots) (hx : p.tables.exec = Jvm.exec) (hlk : meth.locks = false) (hret : meth.sig.returnType = none)
    (hd : decode c.code pc = .ok (.return_, 1)) (eT : T.heap = h) (hK : cells ≤ K) (hJ : slots ≤ J) (hQ : Q none h locs) : Go p e below (PP s Q K J) T (mkF m pc Ls []) := by
  obtain ⟨fs, hr, hrun, hended, hW, hsame⟩ := X.leave (v := none) (fun _ => rfl)
  exact ⟨_, _, X.returnOut hx hret hd hr, hrun, hended, _, _, rfl, by show Q none T.heap locs; rw [eT]; exact hQ, ⟨_, rfl⟩, hW, hsame.mono hK hJ⟩
theorem monoW {s t : State} {o : Outcome} {L : List Loc} {k n K J : Nat} (q : ReturnedEndW s o t L k n) (hK : k ≤ K) (hJ : n ≤ J) : ReturnedEndW s o t L K J := ⟨q.1, q.2.1, q.2.2.1, q.2.2.2.mono hK hJ⟩
theorem gRetS {w : Value} {t : FieldType} {i : Instr} {K J : Nat} (X : Stand p l e R (s.setVm vm0) m args below meth c T locs cells slots) (hx : p.tables.exec = Jvm.exec) (hlk : meth.locks = false) (hret : meth.sig.returnType = some t) (hn : narrow t w = w)
    (hi : (i = .ireturn ∧ (t = .int ∨ t = .boolean ∨ t = .byte ∨ t = .char ∨ t = .short) ∧ ∃ z, w = .int z) ∨ (i = .lreturn ∧ t = .long ∧ ∃ z, w = .long z) ∨ (i = .dreturn ∧ t = .double ∧ ∃ z, w = .double z) ∨ (i = .freturn ∧ t = .float ∧ ∃ z, w = .float z) ∨ (i = .areturn ∧ t.isReference = true ∧ w.isRef = true))
    (hd : decode c.code pc = .ok (i, 1)) (eT : T.heap = h) (hS : s.Since vm0 k0) (hk : k0 ≤ h.size) (hZ : Z.Warmed39 vm0) (hEL : EW Z a0 EL) (C : CHr Z EL s.vm s.heap vm0 h) (hK : cells ≤ K) (hJ : slots ≤ J) (hQ : Q (some w) h locs) : Go p e below (PS Z EL s Q K J) T (mkF m pc Ls (w :: st)) := by
  subst eT
  obtain ⟨fs, hr, hrun, hended, hW⟩ := X.leaveW hS hk (v := some w) (fun h => by rw [hret] at h; cases h) hlk
  exact ⟨_, _, retOut X hx hret hn hi hd hr, hrun, hended, _, _, rfl, hQ, C.trans (show CHr Z EL vm0 T.heap T.vm T.heap from CHv.at X hZ hEL C.1), monoW hW hK hJ⟩
theorem gRetS0 {K J : Nat} (X : Stand p l e R (s.setVm vm0) m args below meth c T locs cells slots) (hx : p.tables.exec = Jvm.exec) (hlk : meth.locks = false) (hret : meth.sig.returnType = none)
    (hd : decode c.code pc = .ok (.return_, 1)) (eT : T.heap = h) (hS : s.Since vm0 k0) (hk : k0 ≤ h.size) (hZ : Z.Warmed39 vm0) (hEL : EW Z a0 EL) (C : CHr Z EL s.vm s.heap vm0 h) (hK : cells ≤ K) (hJ : slots ≤ J) (hQ : Q none h locs) : Go p e below (PS Z EL s Q K J) T (mkF m pc Ls []) := by
  subst eT
  obtain ⟨fs, hr, hrun, hended, hW⟩ := X.leaveW hS hk (v := none) (fun _ => rfl) hlk
  exact ⟨_, _, X.returnOut hx hret hd hr, hrun, hended, _, _, rfl, hQ, C.trans (show CHr Z EL vm0 T.heap T.vm T.heap from CHv.at X hZ hEL C.1), monoW hW hK hJ⟩
theorem gRetL {w : Value} {t : FieldType} {i : Instr} {K J : Nat} (X : Stand p l e R (s.setVm vm0) m args below meth c T locs cells slots) (hx : p.tables.exec = Jvm.exec) (hlk : meth.locks = false) (hret : meth.sig.returnType = some t) (hn : narrow t w = w)
    (hi : (i = .ireturn ∧ (t = .int ∨ t = .boolean ∨ t = .byte ∨ t = .char ∨ t = .short) ∧ ∃ z, w = .int z) ∨ (i = .lreturn ∧ t = .long ∧ ∃ z, w = .long z) ∨ (i = .dreturn ∧ t = .double ∧ ∃ z, w = .double z) ∨ (i = .freturn ∧ t = .float ∧ ∃ z, w = .float z) ∨ (i = .areturn ∧ t.isReference = true ∧ w.isRef = true))
    (hd : decode c.code pc = .ok (i, 1)) (eT : T.heap = h) (hS : s.Since vm0 k0) (hk : k0 ≤ h.size) (hK : cells ≤ K) (hJ : slots ≤ J) (hQ : Q (some w) h locs) : Go p e below (PL s Q K J) T (mkF m pc Ls (w :: st)) := by
  subst eT
  obtain ⟨fs, hr, hrun, hended, hW⟩ := X.leaveW hS hk (v := some w) (fun h => by rw [hret] at h; cases h) hlk
  exact ⟨_, _, retOut X hx hret hn hi hd hr, hrun, hended, _, _, rfl, hQ, monoW hW hK hJ⟩
theorem fitsRef {v : Value} (hv : v.isRef = true) (C : String) : fits (.object C) v = true := by rcases ref_cases hv with rfl | ⟨a, rfl⟩ <;> rfl
theorem catRef {v : Value} (hv : v.isRef = true) : v.category = 1 := by rcases ref_cases hv with rfl | ⟨a, rfl⟩ <;> rfl
theorem storeRef {v : Value} {ls : Array Slot} {k : Nat} {o : Slot} {l' : Array Slot} (hv : v.isRef = true) (h1 : ls[k]? = some o) (h2 : One o) (h3 : ls.setIfInBounds k (.val v) = l') : storeLocals ls k v = some l' := h3 ▸ XS.store1 h1 h2 (catRef hv)
/-! single steps -/
theorem gaload (X : Stand p l e R s m args below meth c T locs cells slots) (hx : p.tables.exec = Jvm.exec) {k : Nat} {v : Value} (pc' : Nat) (hd : decode c.code pc = .ok (.aload k, 2)) (hp : pc + 2 = pc') (hl : Ls[k]? = some (.val v)) (hv : v.isRef = true) (r : Go p e below P T (mkF m pc' Ls (v :: st))) : Go p e below P T (mkF m pc Ls (st)) := by
  subst hp; exact Go.of (fun _ q => XS.aload X.here hx rfl hd hl hv q) r
theorem galoadN (X : Stand p l e R s m args below meth c T locs cells slots) (hx : p.tables.exec = Jvm.exec) {k : Fin 4} {v : Value} (pc' : Nat) (hd : decode c.code pc = .ok (.aload_n k, 1)) (hp : pc + 1 = pc') (hl : Ls[k.val]? = some (.val v)) (hv : v.isRef = true) (r : Go p e below P T (mkF m pc' Ls (v :: st))) : Go p e below P T (mkF m pc Ls (st)) := by
  subst hp; exact Go.of (fun _ q => XS.aloadN X.here hx rfl hd hl hv q) r
theorem giload (X : Stand p l e R s m args below meth c T locs cells slots) (hx : p.tables.exec = Jvm.exec) {k : Nat} {v : Int32} (pc' : Nat) (hd : decode c.code pc = .ok (.iload k, 2)) (hp : pc + 2 = pc') (hl : Ls[k]? = some (.val (.int v))) (r : Go p e below P T (mkF m pc' Ls (.int v :: st))) : Go p e below P T (mkF m pc Ls (st)) := by
  subst hp; exact Go.of (fun _ q => XS.iload X.here hx rfl hd hl q) r
theorem giloadN (X : Stand p l e R s m args below meth c T locs cells slots) (hx : p.tables.exec = Jvm.exec) {k : Fin 4} {v : Int32} (pc' : Nat) (hd : decode c.code pc = .ok (.iload_n k, 1)) (hp : pc + 1 = pc') (hl : Ls[k.val]? = some (.val (.int v))) (r : Go p e below P T (mkF m pc' Ls (.int v :: st))) : Go p e below P T (mkF m pc Ls (st)) := by
  subst hp; exact Go.of (fun _ q => XS.iloadN X.here hx rfl hd hl q) r
theorem glload (X : Stand p l e R s m args below meth c T locs cells slots) (hx : p.tables.exec = Jvm.exec) {k : Nat} {v : Int64} (pc' : Nat) (hd : decode c.code pc = .ok (.lload k, 2)) (hp : pc + 2 = pc') (hl : Ls[k]? = some (.val (.long v))) (r : Go p e below P T (mkF m pc' Ls (.long v :: st))) : Go p e below P T (mkF m pc Ls (st)) := by
  subst hp; exact Go.of (fun _ q => XS.lload X.here hx rfl hd hl q) r
theorem glloadN (X : Stand p l e R s m args below meth c T locs cells slots) (hx : p.tables.exec = Jvm.exec) {k : Fin 4} {v : Int64} (pc' : Nat) (hd : decode c.code pc = .ok (.lload_n k, 1)) (hp : pc + 1 = pc') (hl : Ls[k.val]? = some (.val (.long v))) (r : Go p e below P T (mkF m pc' Ls (.long v :: st))) : Go p e below P T (mkF m pc Ls (st)) := by
  subst hp; exact Go.of (fun _ q => XS.lloadN X.here hx rfl hd hl q) r
theorem gistore (X : Stand p l e R s m args below meth c T locs cells slots) (hx : p.tables.exec = Jvm.exec) {k : Nat} {x : Int32} (l' : Array Slot) (pc' : Nat) (hd : decode c.code pc = .ok (.istore k, 2)) (hp : pc + 2 = pc') (hl : storeLocals Ls k (.int x) = some l') (r : Go p e below P T (mkF m pc' l' (st))) : Go p e below P T (mkF m pc Ls (.int x :: st)) := by
  subst hp; exact Go.of (fun _ q => XS.istore X.here hx rfl hd rfl hl q) r
theorem gistoreN (X : Stand p l e R s m args below meth c T locs cells slots) (hx : p.tables.exec = Jvm.exec) {k : Fin 4} {x : Int32} (l' : Array Slot) (pc' : Nat) (hd : decode c.code pc = .ok (.istore_n k, 1)) (hp : pc + 1 = pc') (hl : storeLocals Ls k.val (.int x) = some l') (r : Go p e below P T (mkF m pc' l' (st))) : Go p e below P T (mkF m pc Ls (.int x :: st)) := by
  subst hp; exact Go.of (fun _ q => XS.istoreN X.here hx rfl hd rfl hl q) r
theorem glstore (X : Stand p l e R s m args below meth c T locs cells slots) (hx : p.tables.exec = Jvm.exec) {k : Nat} {x : Int64} (l' : Array Slot) (pc' : Nat) (hd : decode c.code pc = .ok (.lstore k, 2)) (hp : pc + 2 = pc') (hl : storeLocals Ls k (.long x) = some l') (r : Go p e below P T (mkF m pc' l' (st))) : Go p e below P T (mkF m pc Ls (.long x :: st)) := by
  subst hp; exact Go.of (fun _ q => XS.lstore X.here hx rfl hd rfl hl q) r
theorem glstoreN (X : Stand p l e R s m args below meth c T locs cells slots) (hx : p.tables.exec = Jvm.exec) {k : Fin 4} {x : Int64} (l' : Array Slot) (pc' : Nat) (hd : decode c.code pc = .ok (.lstore_n k, 1)) (hp : pc + 1 = pc') (hl : storeLocals Ls k.val (.long x) = some l') (r : Go p e below P T (mkF m pc' l' (st))) : Go p e below P T (mkF m pc Ls (.long x :: st)) := by
  subst hp; exact Go.of (fun _ q => XS.lstoreN X.here hx rfl hd rfl hl q) r
theorem gastore (X : Stand p l e R s m args below meth c T locs cells slots) (hx : p.tables.exec = Jvm.exec) {k : Nat} {x : Value} (l' : Array Slot) (pc' : Nat) (hd : decode c.code pc = .ok (.astore k, 2)) (hp : pc + 2 = pc') (hv : x.isRef = true) (hl : storeLocals Ls k x = some l') (r : Go p e below P T (mkF m pc' l' (st))) : Go p e below P T (mkF m pc Ls (x :: st)) := by
  subst hp; exact Go.of (fun _ q => XS.astore X.here hx rfl hd rfl hv hl q) r
theorem gastoreN (X : Stand p l e R s m args below meth c T locs cells slots) (hx : p.tables.exec = Jvm.exec) {k : Fin 4} {x : Value} (l' : Array Slot) (pc' : Nat) (hd : decode c.code pc = .ok (.astore_n k, 1)) (hp : pc + 1 = pc') (hv : x.isRef = true) (hl : storeLocals Ls k.val x = some l') (r : Go p e below P T (mkF m pc' l' (st))) : Go p e below P T (mkF m pc Ls (x :: st)) := by
  subst hp; exact Go.of (fun _ q => XS.astoreN X.here hx rfl hd rfl hv hl q) r
theorem giconst (X : Stand p l e R s m args below meth c T locs cells slots) (hx : p.tables.exec = Jvm.exec) {i : Int} (v : Int32) (pc' : Nat) (hd : decode c.code pc = .ok (.iconst i, 1)) (hp : pc + 1 = pc') (hv : Int32.ofInt i = v) (r : Go p e below P T (mkF m pc' Ls (.int v :: st))) : Go p e below P T (mkF m pc Ls (st)) := by
  subst hp; exact Go.of (fun _ q => XS.iconst X.here hx rfl hd (by rw [hv]; exact q)) r
theorem gbipush (X : Stand p l e R s m args below meth c T locs cells slots) (hx : p.tables.exec = Jvm.exec) {i : Int} (v : Int32) (pc' : Nat) (hd : decode c.code pc = .ok (.bipush i, 2)) (hp : pc + 2 = pc') (hv : (Int8.ofInt i).toInt32 = v) (r : Go p e below P T (mkF m pc' Ls (.int v :: st))) : Go p e below P T (mkF m pc Ls (st)) := by
  subst hp; exact Go.of (fun _ q => XS.bipush X.here hx rfl hd (by rw [hv]; exact q)) r
theorem gsipush (X : Stand p l e R s m args below meth c T locs cells slots) (hx : p.tables.exec = Jvm.exec) {i : Int} (v : Int32) (pc' : Nat) (hd : decode c.code pc = .ok (.sipush i, 3)) (hp : pc + 3 = pc') (hv : (Int16.ofInt i).toInt32 = v) (r : Go p e below P T (mkF m pc' Ls (.int v :: st))) : Go p e below P T (mkF m pc Ls (st)) := by
  subst hp; exact Go.of (fun _ q => XS.sipush X.here hx rfl hd (by rw [hv]; exact q)) r
theorem glconst (X : Stand p l e R s m args below meth c T locs cells slots) (hx : p.tables.exec = Jvm.exec) {k : Fin 2} (v : Int64) (pc' : Nat) (hd : decode c.code pc = .ok (.lconst k, 1)) (hp : pc + 1 = pc') (hv : Int64.ofNat k = v) (r : Go p e below P T (mkF m pc' Ls (.long v :: st))) : Go p e below P T (mkF m pc Ls (st)) := by
  subst hp; exact Go.of (fun _ q => XS.lconst X.here hx rfl hd (by rw [hv]; exact q)) r
theorem gaconstNull (X : Stand p l e R s m args below meth c T locs cells slots) (hx : p.tables.exec = Jvm.exec) (pc' : Nat) (hd : decode c.code pc = .ok (.aconst_null, 1)) (hp : pc + 1 = pc') (r : Go p e below P T (mkF m pc' Ls (.null :: st))) : Go p e below P T (mkF m pc Ls (st)) := by
  subst hp; exact Go.of (fun _ q => XS.aconstNull X.here hx rfl hd q) r
theorem giadd (X : Stand p l e R s m args below meth c T locs cells slots) (hx : p.tables.exec = Jvm.exec) {x y : Int32} (pc' : Nat) (hd : decode c.code pc = .ok (.iadd, 1)) (hp : pc + 1 = pc') (r : Go p e below P T (mkF m pc' Ls (.int (x + y) :: st))) : Go p e below P T (mkF m pc Ls (.int y :: .int x :: st)) := by
  subst hp; exact Go.of (fun _ q => XS.iadd X.here hx rfl hd rfl q) r
theorem gisub (X : Stand p l e R s m args below meth c T locs cells slots) (hx : p.tables.exec = Jvm.exec) {x y : Int32} (pc' : Nat) (hd : decode c.code pc = .ok (.isub, 1)) (hp : pc + 1 = pc') (r : Go p e below P T (mkF m pc' Ls (.int (x - y) :: st))) : Go p e below P T (mkF m pc Ls (.int y :: .int x :: st)) := by
  subst hp; exact Go.of (fun _ q => XS.isub X.here hx rfl hd rfl q) r
theorem gimul (X : Stand p l e R s m args below meth c T locs cells slots) (hx : p.tables.exec = Jvm.exec) {x y : Int32} (pc' : Nat) (hd : decode c.code pc = .ok (.imul, 1)) (hp : pc + 1 = pc') (r : Go p e below P T (mkF m pc' Ls (.int (x * y) :: st))) : Go p e below P T (mkF m pc Ls (.int y :: .int x :: st)) := by
  subst hp; exact Go.of (fun _ q => XS.imul X.here hx rfl hd rfl q) r
theorem giand (X : Stand p l e R s m args below meth c T locs cells slots) (hx : p.tables.exec = Jvm.exec) {x y : Int32} (pc' : Nat) (hd : decode c.code pc = .ok (.iand, 1)) (hp : pc + 1 = pc') (r : Go p e below P T (mkF m pc' Ls (.int (x &&& y) :: st))) : Go p e below P T (mkF m pc Ls (.int y :: .int x :: st)) := by
  subst hp; exact Go.of (fun _ q => XS.iand X.here hx rfl hd rfl q) r
theorem gior (X : Stand p l e R s m args below meth c T locs cells slots) (hx : p.tables.exec = Jvm.exec) {x y : Int32} (pc' : Nat) (hd : decode c.code pc = .ok (.ior, 1)) (hp : pc + 1 = pc') (r : Go p e below P T (mkF m pc' Ls (.int (x ||| y) :: st))) : Go p e below P T (mkF m pc Ls (.int y :: .int x :: st)) := by
  subst hp; exact Go.of (fun _ q => XS.ior X.here hx rfl hd rfl q) r
theorem gixor (X : Stand p l e R s m args below meth c T locs cells slots) (hx : p.tables.exec = Jvm.exec) {x y : Int32} (pc' : Nat) (hd : decode c.code pc = .ok (.ixor, 1)) (hp : pc + 1 = pc') (r : Go p e below P T (mkF m pc' Ls (.int (x ^^^ y) :: st))) : Go p e below P T (mkF m pc Ls (.int y :: .int x :: st)) := by
  subst hp; exact Go.of (fun _ q => XS.ixor X.here hx rfl hd rfl q) r
theorem gishl (X : Stand p l e R s m args below meth c T locs cells slots) (hx : p.tables.exec = Jvm.exec) {x y : Int32} (pc' : Nat) (hd : decode c.code pc = .ok (.ishl, 1)) (hp : pc + 1 = pc') (r : Go p e below P T (mkF m pc' Ls (.int (x <<< (y &&& 31)) :: st))) : Go p e below P T (mkF m pc Ls (.int y :: .int x :: st)) := by
  subst hp; exact Go.of (fun _ q => XS.ishl X.here hx rfl hd rfl q) r
theorem gishr (X : Stand p l e R s m args below meth c T locs cells slots) (hx : p.tables.exec = Jvm.exec) {x y : Int32} (pc' : Nat) (hd : decode c.code pc = .ok (.ishr, 1)) (hp : pc + 1 = pc') (r : Go p e below P T (mkF m pc' Ls (.int (x >>> (y &&& 31)) :: st))) : Go p e below P T (mkF m pc Ls (.int y :: .int x :: st)) := by
  subst hp; exact Go.of (fun _ q => XS.ishr X.here hx rfl hd rfl q) r
theorem giushr (X : Stand p l e R s m args below meth c T locs cells slots) (hx : p.tables.exec = Jvm.exec) {x y : Int32} (pc' : Nat) (hd : decode c.code pc = .ok (.iushr, 1)) (hp : pc + 1 = pc') (r : Go p e below P T (mkF m pc' Ls (.int ((x.toUInt32 >>> (y &&& 31).toUInt32).toInt32) :: st))) : Go p e below P T (mkF m pc Ls (.int y :: .int x :: st)) := by
  subst hp; exact Go.of (fun _ q => XS.iushr X.here hx rfl hd rfl q) r
theorem gladd (X : Stand p l e R s m args below meth c T locs cells slots) (hx : p.tables.exec = Jvm.exec) {x y : Int64} (pc' : Nat) (hd : decode c.code pc = .ok (.ladd, 1)) (hp : pc + 1 = pc') (r : Go p e below P T (mkF m pc' Ls (.long (x + y) :: st))) : Go p e below P T (mkF m pc Ls (.long y :: .long x :: st)) := by
  subst hp; exact Go.of (fun _ q => XS.ladd X.here hx rfl hd rfl q) r
theorem glsub (X : Stand p l e R s m args below meth c T locs cells slots) (hx : p.tables.exec = Jvm.exec) {x y : Int64} (pc' : Nat) (hd : decode c.code pc = .ok (.lsub, 1)) (hp : pc + 1 = pc') (r : Go p e below P T (mkF m pc' Ls (.long (x - y) :: st))) : Go p e below P T (mkF m pc Ls (.long y :: .long x :: st)) := by
  subst hp; exact Go.of (fun _ q => XS.lsub X.here hx rfl hd rfl q) r
theorem glmul (X : Stand p l e R s m args below meth c T locs cells slots) (hx : p.tables.exec = Jvm.exec) {x y : Int64} (pc' : Nat) (hd : decode c.code pc = .ok (.lmul, 1)) (hp : pc + 1 = pc') (r : Go p e below P T (mkF m pc' Ls (.long (x * y) :: st))) : Go p e below P T (mkF m pc Ls (.long y :: .long x :: st)) := by
  subst hp; exact Go.of (fun _ q => XS.lmul X.here hx rfl hd rfl q) r
theorem gland (X : Stand p l e R s m args below meth c T locs cells slots) (hx : p.tables.exec = Jvm.exec) {x y : Int64} (pc' : Nat) (hd : decode c.code pc = .ok (.land, 1)) (hp : pc + 1 = pc') (r : Go p e below P T (mkF m pc' Ls (.long (x &&& y) :: st))) : Go p e below P T (mkF m pc Ls (.long y :: .long x :: st)) := by
  subst hp; exact Go.of (fun _ q => XS.land X.here hx rfl hd rfl q) r
theorem glor (X : Stand p l e R s m args below meth c T locs cells slots) (hx : p.tables.exec = Jvm.exec) {x y : Int64} (pc' : Nat) (hd : decode c.code pc = .ok (.lor, 1)) (hp : pc + 1 = pc') (r : Go p e below P T (mkF m pc' Ls (.long (x ||| y) :: st))) : Go p e below P T (mkF m pc Ls (.long y :: .long x :: st)) := by
  subst hp; exact Go.of (fun _ q => XS.lor X.here hx rfl hd rfl q) r
theorem glxor (X : Stand p l e R s m args below meth c T locs cells slots) (hx : p.tables.exec = Jvm.exec) {x y : Int64} (pc' : Nat) (hd : decode c.code pc = .ok (.lxor, 1)) (hp : pc + 1 = pc') (r : Go p e below P T (mkF m pc' Ls (.long (x ^^^ y) :: st))) : Go p e below P T (mkF m pc Ls (.long y :: .long x :: st)) := by
  subst hp; exact Go.of (fun _ q => XS.lxor X.here hx rfl hd rfl q) r
theorem gidiv (X : Stand p l e R s m args below meth c T locs cells slots) (hx : p.tables.exec = Jvm.exec) {x y : Int32} (pc' : Nat) (hd : decode c.code pc = .ok (.idiv, 1)) (hp : pc + 1 = pc') (hy : y ≠ 0) (r : Go p e below P T (mkF m pc' Ls (.int (x / y) :: st))) : Go p e below P T (mkF m pc Ls (.int y :: .int x :: st)) := by
  subst hp; exact Go.of (fun _ q => XS.idiv X.here hx rfl hd rfl hy q) r
theorem girem (X : Stand p l e R s m args below meth c T locs cells slots) (hx : p.tables.exec = Jvm.exec) {x y : Int32} (pc' : Nat) (hd : decode c.code pc = .ok (.irem, 1)) (hp : pc + 1 = pc') (hy : y ≠ 0) (r : Go p e below P T (mkF m pc' Ls (.int (x % y) :: st))) : Go p e below P T (mkF m pc Ls (.int y :: .int x :: st)) := by
  subst hp; exact Go.of (fun _ q => iremM X hx rfl hd rfl hy q) r
theorem gineg (X : Stand p l e R s m args below meth c T locs cells slots) (hx : p.tables.exec = Jvm.exec) {x : Int32} (pc' : Nat) (hd : decode c.code pc = .ok (.ineg, 1)) (hp : pc + 1 = pc') (r : Go p e below P T (mkF m pc' Ls (.int (-x) :: st))) : Go p e below P T (mkF m pc Ls (.int x :: st)) := by
  subst hp; exact Go.of (fun _ q => XS.ineg X.here hx rfl hd rfl q) r
theorem gi2b (X : Stand p l e R s m args below meth c T locs cells slots) (hx : p.tables.exec = Jvm.exec) {x : Int32} (pc' : Nat) (hd : decode c.code pc = .ok (.i2b, 1)) (hp : pc + 1 = pc') (r : Go p e below P T (mkF m pc' Ls (.int (x.toInt8.toInt32) :: st))) : Go p e below P T (mkF m pc Ls (.int x :: st)) := by
  subst hp; exact Go.of (fun _ q => XS.i2b X.here hx rfl hd rfl q) r
theorem gi2s (X : Stand p l e R s m args below meth c T locs cells slots) (hx : p.tables.exec = Jvm.exec) {x : Int32} (pc' : Nat) (hd : decode c.code pc = .ok (.i2s, 1)) (hp : pc + 1 = pc') (r : Go p e below P T (mkF m pc' Ls (.int (x.toInt16.toInt32) :: st))) : Go p e below P T (mkF m pc Ls (.int x :: st)) := by
  subst hp; exact Go.of (fun _ q => XS.i2s X.here hx rfl hd rfl q) r
theorem gi2c (X : Stand p l e R s m args below meth c T locs cells slots) (hx : p.tables.exec = Jvm.exec) {x : Int32} (pc' : Nat) (hd : decode c.code pc = .ok (.i2c, 1)) (hp : pc + 1 = pc') (r : Go p e below P T (mkF m pc' Ls (.int (x.toUInt32.toUInt16.toUInt32.toInt32) :: st))) : Go p e below P T (mkF m pc Ls (.int x :: st)) := by
  subst hp; exact Go.of (fun _ q => XS.i2c X.here hx rfl hd rfl q) r
theorem gi2l (X : Stand p l e R s m args below meth c T locs cells slots) (hx : p.tables.exec = Jvm.exec) {x : Int32} (pc' : Nat) (hd : decode c.code pc = .ok (.i2l, 1)) (hp : pc + 1 = pc') (r : Go p e below P T (mkF m pc' Ls (.long x.toInt64 :: st))) : Go p e below P T (mkF m pc Ls (.int x :: st)) := by
  subst hp; exact Go.of (fun _ q => XS.i2l X.here hx rfl hd rfl q) r
theorem gl2i (X : Stand p l e R s m args below meth c T locs cells slots) (hx : p.tables.exec = Jvm.exec) {x : Int64} (pc' : Nat) (hd : decode c.code pc = .ok (.l2i, 1)) (hp : pc + 1 = pc') (r : Go p e below P T (mkF m pc' Ls (.int x.toInt32 :: st))) : Go p e below P T (mkF m pc Ls (.long x :: st)) := by
  subst hp; exact Go.of (fun _ q => XS.l2i X.here hx rfl hd rfl q) r
theorem glneg (X : Stand p l e R s m args below meth c T locs cells slots) (hx : p.tables.exec = Jvm.exec) {x : Int64} (pc' : Nat) (hd : decode c.code pc = .ok (.lneg, 1)) (hp : pc + 1 = pc') (r : Go p e below P T (mkF m pc' Ls (.long (-x) :: st))) : Go p e below P T (mkF m pc Ls (.long x :: st)) := by
  subst hp; exact Go.of (fun _ q => XS.lneg X.here hx rfl hd rfl q) r
theorem glcmp (X : Stand p l e R s m args below meth c T locs cells slots) (hx : p.tables.exec = Jvm.exec) {x y : Int64} (pc' : Nat) (hd : decode c.code pc = .ok (.lcmp, 1)) (hp : pc + 1 = pc') (r : Go p e below P T (mkF m pc' Ls (.int (if x > y then 1 else if x = y then 0 else -1) :: st))) : Go p e below P T (mkF m pc Ls (.long y :: .long x :: st)) := by
  subst hp; exact Go.of (fun _ q => XS.lcmp X.here hx rfl hd rfl q) r
theorem gpop (X : Stand p l e R s m args below meth c T locs cells slots) (hx : p.tables.exec = Jvm.exec) {x : Value} (pc' : Nat) (hd : decode c.code pc = .ok (.pop, 1)) (hp : pc + 1 = pc') (hc : x.category = 1) (r : Go p e below P T (mkF m pc' Ls (st))) : Go p e below P T (mkF m pc Ls (x :: st)) := by
  subst hp; exact Go.of (fun _ q => XS.pop X.here hx rfl hd rfl hc q) r
theorem gdup (X : Stand p l e R s m args below meth c T locs cells slots) (hx : p.tables.exec = Jvm.exec) {x : Value} (pc' : Nat) (hd : decode c.code pc = .ok (.dup, 1)) (hp : pc + 1 = pc') (hc : x.category = 1) (r : Go p e below P T (mkF m pc' Ls (x :: x :: st))) : Go p e below P T (mkF m pc Ls (x :: st)) := by
  subst hp; exact Go.of (fun _ q => XS.dup X.here hx rfl hd rfl hc q) r
theorem gdupX1 (X : Stand p l e R s m args below meth c T locs cells slots) (hx : p.tables.exec = Jvm.exec) {x y : Value} (pc' : Nat) (hd : decode c.code pc = .ok (.dup_x1, 1)) (hp : pc + 1 = pc') (hc : x.category = 1) (hc2 : y.category = 1) (r : Go p e below P T (mkF m pc' Ls (x :: y :: x :: st))) : Go p e below P T (mkF m pc Ls (x :: y :: st)) := by
  subst hp; exact Go.of (fun _ q => XS.dupX1 X.here hx rfl hd rfl hc hc2 q) r
theorem gdup2 (X : Stand p l e R s m args below meth c T locs cells slots) (hx : p.tables.exec = Jvm.exec) {x y : Value} (pc' : Nat) (hd : decode c.code pc = .ok (.dup2, 1)) (hp : pc + 1 = pc') (hc : x.category = 1) (hc2 : y.category = 1) (r : Go p e below P T (mkF m pc' Ls (x :: y :: x :: y :: st))) : Go p e below P T (mkF m pc Ls (x :: y :: st)) := by
  subst hp; exact Go.of (fun _ q => Jvm.Free.XT.dup2 X.here hx rfl hd rfl hc hc2 q) r
theorem gswap (X : Stand p l e R s m args below meth c T locs cells slots) (hx : p.tables.exec = Jvm.exec) {x y : Value} (pc' : Nat) (hd : decode c.code pc = .ok (.swap, 1)) (hp : pc + 1 = pc') (hc : x.category = 1) (hc2 : y.category = 1) (r : Go p e below P T (mkF m pc' Ls (y :: x :: st))) : Go p e below P T (mkF m pc Ls (x :: y :: st)) := by
  subst hp; exact Go.of (fun _ q => XS.swap X.here hx rfl hd rfl hc hc2 q) r
theorem giinc (X : Stand p l e R s m args below meth c T locs cells slots) (hx : p.tables.exec = Jvm.exec) {k : Nat} {cst : Int} {x : Int32} (l' : Array Slot) (pc' : Nat) (hd : decode c.code pc = .ok (.iinc k cst, 3)) (hp : pc + 3 = pc') (hl : Ls[k]? = some (.val (.int x))) (hl' : storeLocals Ls k (.int (x + Int32.ofInt cst)) = some l') (r : Go p e below P T (mkF m pc' l' (st))) : Go p e below P T (mkF m pc Ls (st)) := by
  subst hp; exact Go.of (fun _ q => XS.iinc X.here hx rfl hd hl hl' q) r
theorem ggoto (X : Stand p l e R s m args below meth c T locs cells slots) (hx : p.tables.exec = Jvm.exec) {o : Int} (pc' : Nat) (hd : decode c.code pc = .ok (.goto o, 3)) (ho : 0 ≤ (pc : Int) + o) (hp : ((pc : Int) + o).toNat = pc') (r : Go p e below P T (mkF m pc' Ls (st))) : Go p e below P T (mkF m pc Ls (st)) :=
  Go.of (fun _ q => XS.goto X.here hx rfl rfl hd ho hp q) r
theorem gifYes (X : Stand p l e R s m args below meth c T locs cells slots) (hx : p.tables.exec = Jvm.exec) {o : Int} {cd : ClassFile.Cond} {x : Int32} (pc' : Nat) (hd : decode c.code pc = .ok (.ifCond cd o, 3)) (hc : ifCond.holds cd x = true) (ho : 0 ≤ (pc : Int) + o) (hp : ((pc : Int) + o).toNat = pc') (r : Go p e below P T (mkF m pc' Ls (st))) : Go p e below P T (mkF m pc Ls (.int x :: st)) :=
  Go.of (fun _ q => XS.ifYes X.here hx rfl rfl hd rfl hc ho hp q) r
theorem gifNo (X : Stand p l e R s m args below meth c T locs cells slots) (hx : p.tables.exec = Jvm.exec) {o : Int} {cd : ClassFile.Cond} {x : Int32} (pc' : Nat) (hd : decode c.code pc = .ok (.ifCond cd o, 3)) (hp : pc + 3 = pc') (hc : ifCond.holds cd x = false) (r : Go p e below P T (mkF m pc' Ls (st))) : Go p e below P T (mkF m pc Ls (.int x :: st)) := by
  subst hp; exact Go.of (fun _ q => XS.ifNo X.here hx rfl hd rfl hc q) r
theorem gicmpYes (X : Stand p l e R s m args below meth c T locs cells slots) (hx : p.tables.exec = Jvm.exec) {o : Int} {cd : ClassFile.Cond} {x y : Int32} (pc' : Nat) (hd : decode c.code pc = .ok (.if_icmp cd o, 3)) (hc : if_icmp.holds cd x y = true) (ho : 0 ≤ (pc : Int) + o) (hp : ((pc : Int) + o).toNat = pc') (r : Go p e below P T (mkF m pc' Ls (st))) : Go p e below P T (mkF m pc Ls (.int y :: .int x :: st)) :=
  Go.of (fun _ q => XS.icmpYes X.here hx rfl rfl hd rfl hc ho hp q) r
theorem gicmpNo (X : Stand p l e R s m args below meth c T locs cells slots) (hx : p.tables.exec = Jvm.exec) {o : Int} {cd : ClassFile.Cond} {x y : Int32} (pc' : Nat) (hd : decode c.code pc = .ok (.if_icmp cd o, 3)) (hp : pc + 3 = pc') (hc : if_icmp.holds cd x y = false) (r : Go p e below P T (mkF m pc' Ls (st))) : Go p e below P T (mkF m pc Ls (.int y :: .int x :: st)) := by
  subst hp; exact Go.of (fun _ q => XS.icmpNo X.here hx rfl hd rfl hc q) r
theorem gifnullYes (X : Stand p l e R s m args below meth c T locs cells slots) (hx : p.tables.exec = Jvm.exec) {o : Int} (pc' : Nat) (hd : decode c.code pc = .ok (.ifnull o, 3)) (ho : 0 ≤ (pc : Int) + o) (hp : ((pc : Int) + o).toNat = pc') (r : Go p e below P T (mkF m pc' Ls (st))) : Go p e below P T (mkF m pc Ls (.null :: st)) :=
  Go.of (fun _ q => XS.ifnullYes X.here hx rfl rfl hd rfl ho hp q) r
theorem gifnullNo (X : Stand p l e R s m args below meth c T locs cells slots) (hx : p.tables.exec = Jvm.exec) {o : Int} {b : Addr} (pc' : Nat) (hd : decode c.code pc = .ok (.ifnull o, 3)) (hp : pc + 3 = pc') (r : Go p e below P T (mkF m pc' Ls (st))) : Go p e below P T (mkF m pc Ls (.ref b :: st)) := by
  subst hp; exact Go.of (fun _ q => XS.ifnullNo X.here hx rfl hd rfl q) r
theorem gifnonnullYes (X : Stand p l e R s m args below meth c T locs cells slots) (hx : p.tables.exec = Jvm.exec) {o : Int} {b : Addr} (pc' : Nat) (hd : decode c.code pc = .ok (.ifnonnull o, 3)) (ho : 0 ≤ (pc : Int) + o) (hp : ((pc : Int) + o).toNat = pc') (r : Go p e below P T (mkF m pc' Ls (st))) : Go p e below P T (mkF m pc Ls (.ref b :: st)) :=
  Go.of (fun _ q => XS.ifnonnullYes X.here hx rfl rfl hd rfl ho hp q) r
theorem gifnonnullNo (X : Stand p l e R s m args below meth c T locs cells slots) (hx : p.tables.exec = Jvm.exec) {o : Int} (pc' : Nat) (hd : decode c.code pc = .ok (.ifnonnull o, 3)) (hp : pc + 3 = pc') (r : Go p e below P T (mkF m pc' Ls (st))) : Go p e below P T (mkF m pc Ls (.null :: st)) := by
  subst hp; exact Go.of (fun _ q => XS.ifnonnullNo X.here hx rfl hd rfl q) r
theorem gacmp (X : Stand p l e R s m args below meth c T locs cells slots) (hx : p.tables.exec = Jvm.exec) {o : Int} {cd : ACond} {x y : Value} (same : Bool) (pc' : Nat) (hd : decode c.code pc = .ok (.if_acmp cd o, 3)) (h1 : x.isRef = true) (h2 : y.isRef = true) (hq : decide (x = y) = same) (ho : 0 ≤ (pc : Int) + o) (hp : pc' = if acV cd same = true then ((pc : Int) + o).toNat else pc + 3) (r : Go p e below P T (mkF m pc' Ls st)) : Go p e below P T (mkF m pc Ls (y :: x :: st)) :=
  Go.of (fun _ q => acmp X hx rfl h1 h2 rfl hd rfl hq ho hp q) r
theorem gcheckcastNull (X : Stand p l e R s m args below meth c T locs cells slots) (hx : p.tables.exec = Jvm.exec) {index : Nat} (pc' : Nat) (hd : decode c.code pc = .ok (.checkcast index, 3)) (hp : pc + 3 = pc') (r : Go p e below P T (mkF m pc' Ls (.null :: st))) : Go p e below P T (mkF m pc Ls (.null :: st)) := by
  subst hp; exact Go.of (fun _ q => X.checkcastNull hx (g := mkF m pc Ls (.null :: st)) rfl rfl hd _ q) r
theorem ginstanceofNull (X : Stand p l e R s m args below meth c T locs cells slots) (hx : p.tables.exec = Jvm.exec) {index : Nat} (pc' : Nat) (hd : decode c.code pc = .ok (.instanceof index, 3)) (hp : pc + 3 = pc') (r : Go p e below P T (mkF m pc' Ls (.int 0 :: st))) : Go p e below P T (mkF m pc Ls (.null :: st)) := by
  subst hp; exact Go.of (fun _ q => X.instanceofNull hx (g := mkF m pc Ls (.null :: st)) rfl rfl hd _ q) r
theorem gldcI (X : Stand p l e R s m args below meth c T locs cells slots) (hx : p.tables.exec = Jvm.exec) (hZ : Z.Warmed39 s.vm) {own : String} {index : Nat} {v : Int32} (hown : s.vm.findClass own = some m.cls) (w : (Jvm.Cond.constant own index v).before a0 Z = true) (pc' : Nat) (hd : decode c.code pc = .ok (.ldc index, 2)) (hp : pc + 2 = pc') (r : Go p e below P T (mkF m pc' Ls (.int v :: st))) : Go p e below P T (mkF m pc Ls (st)) := by
  subst hp; exact Go.of (fun _ q => X.ldcInt hx hown (mvT hZ w) (g := mkF m pc Ls st) rfl hd _ q) r
theorem gldcWI (X : Stand p l e R s m args below meth c T locs cells slots) (hx : p.tables.exec = Jvm.exec) (hZ : Z.Warmed39 s.vm) {own : String} {index : Nat} {v : Int32} (hown : s.vm.findClass own = some m.cls) (w : (Jvm.Cond.constant own index v).before a0 Z = true) (pc' : Nat) (hd : decode c.code pc = .ok (.ldc_w index, 3)) (hp : pc + 3 = pc') (r : Go p e below P T (mkF m pc' Ls (.int v :: st))) : Go p e below P T (mkF m pc Ls (st)) := by
  subst hp; exact Go.of (fun _ q => X.ldcwInt hx hown (mvT hZ w) (g := mkF m pc Ls st) rfl hd _ q) r
theorem gldc2J (X : Stand p l e R s m args below meth c T locs cells slots) (hx : p.tables.exec = Jvm.exec) (hZ : Z.Warmed39 s.vm) {own : String} {index : Nat} {v : Int64} (hown : s.vm.findClass own = some m.cls) (w : (Jvm.Cond.constantLong own index v).before a0 Z = true) (pc' : Nat) (hd : decode c.code pc = .ok (.ldc2_w index, 3)) (hp : pc + 3 = pc') (r : Go p e below P T (mkF m pc' Ls (.long v :: st))) : Go p e below P T (mkF m pc Ls (st)) := by
  subst hp; exact Go.of (fun _ q => X.ldc2Long hx hown (mvT hZ w) (g := mkF m pc Ls st) rfl hd _ q) r
theorem garrlen (X : Stand p l e R s m args below meth c T locs cells slots) (hx : p.tables.exec = Jvm.exec) (hZ : Z.Warmed39 s.vm) (eT : T.heap = h) {a : Addr} {k : ClassId} {ty : FieldType} {z : Int32} {vs : List Value} {dv : Value} (A : Arv Z h a k ty z vs dv) (pc' : Nat) (hd : decode c.code pc = .ok (.arraylength, 1)) (hp : pc + 1 = pc') (r : Go p e below P T (mkF m pc' Ls (.int z :: st))) : Go p e below P T (mkF m pc Ls (.ref a :: st)) := by
  subst hp
  obtain ⟨cl, A1, -, S1, N1, -, -⟩ := A
  refine Go.of (fun _ q => X.arraylength hx (by rw [eT]; exact A1.1) (State.isArrayOf_alike hZ.alike A1.2.1) (g := mkF m pc Ls (.ref a :: st)) rfl rfl hd _ (by rw [len_of S1 N1]; exact q)) r
theorem giaload (X : Stand p l e R s m args below meth c T locs cells slots) (hx : p.tables.exec = Jvm.exec) (hZ : Z.Warmed39 s.vm) (eT : T.heap = h) {a : Addr} {k : ClassId} {z j : Int32} {vs : List Value} {dv : Value} (A : Arv Z h a k .int z vs dv) (v : Value) (hj : ¬ j < 0) (hj2 : j < z) (hv : vs.getD j.toNatClampNeg dv = v) (pc' : Nat) (hd : decode c.code pc = .ok (.iaload, 1)) (hp : pc + 1 = pc') (r : Go p e below P T (mkF m pc' Ls (v :: st))) : Go p e below P T (mkF m pc Ls (.int j :: .ref a :: st)) := by
  subst hp
  obtain ⟨cl, A1, -, S1, N1, H1, -⟩ := A
  have hin := inb_of S1 ⟨hj, hj2⟩
  exact Go.of (fun _ q => X.iaload hx (by rw [eT]; exact A1.1) (State.isArrayOf_alike hZ.alike A1.2.1) A1.2.2 hin (H1.at hin hv) (g := mkF m pc Ls (.int j :: .ref a :: st)) rfl rfl hd _ q) r
theorem gcaload (X : Stand p l e R s m args below meth c T locs cells slots) (hx : p.tables.exec = Jvm.exec) (hZ : Z.Warmed39 s.vm) (eT : T.heap = h) {a : Addr} {k : ClassId} {z j : Int32} {vs : List Value} {dv : Value} (A : Arv Z h a k .char z vs dv) (v : Value) (hj : ¬ j < 0) (hj2 : j < z) (hv : vs.getD j.toNatClampNeg dv = v) (pc' : Nat) (hd : decode c.code pc = .ok (.caload, 1)) (hp : pc + 1 = pc') (r : Go p e below P T (mkF m pc' Ls (v :: st))) : Go p e below P T (mkF m pc Ls (.int j :: .ref a :: st)) := by
  subst hp
  obtain ⟨cl, A1, -, S1, N1, H1, -⟩ := A
  have hin := inb_of S1 ⟨hj, hj2⟩
  exact Go.of (fun _ q => X.caload hx (by rw [eT]; exact A1.1) (State.isArrayOf_alike hZ.alike A1.2.1) A1.2.2 hin (H1.at hin hv) (g := mkF m pc Ls (.int j :: .ref a :: st)) rfl rfl hd _ q) r
theorem gbaload (X : Stand p l e R s m args below meth c T locs cells slots) (hx : p.tables.exec = Jvm.exec) (hZ : Z.Warmed39 s.vm) (eT : T.heap = h) {a : Addr} {k : ClassId} {z j : Int32} {vs : List Value} {dv : Value} (A : Arv Z h a k .byte z vs dv) (v : Value) (hj : ¬ j < 0) (hj2 : j < z) (hv : vs.getD j.toNatClampNeg dv = v) (pc' : Nat) (hd : decode c.code pc = .ok (.baload, 1)) (hp : pc + 1 = pc') (r : Go p e below P T (mkF m pc' Ls (v :: st))) : Go p e below P T (mkF m pc Ls (.int j :: .ref a :: st)) := by
  subst hp
  obtain ⟨cl, A1, -, S1, N1, H1, -⟩ := A
  have hin := inb_of S1 ⟨hj, hj2⟩
  exact Go.of (fun _ q => X.baloadBytes hx (by rw [eT]; exact A1.1) (State.isArrayOf_alike hZ.alike A1.2.1) A1.2.2 hin (H1.at hin hv) (g := mkF m pc Ls (.int j :: .ref a :: st)) rfl rfl hd _ q) r
theorem glaload (X : Stand p l e R s m args below meth c T locs cells slots) (hx : p.tables.exec = Jvm.exec) (hZ : Z.Warmed39 s.vm) (eT : T.heap = h) {a : Addr} {k : ClassId} {z j : Int32} {vs : List Value} {dv : Value} (A : Arv Z h a k .long z vs dv) (v : Value) (hj : ¬ j < 0) (hj2 : j < z) (hv : vs.getD j.toNatClampNeg dv = v) (pc' : Nat) (hd : decode c.code pc = .ok (.laload, 1)) (hp : pc + 1 = pc') (r : Go p e below P T (mkF m pc' Ls (v :: st))) : Go p e below P T (mkF m pc Ls (.int j :: .ref a :: st)) := by
  subst hp
  obtain ⟨cl, A1, -, S1, N1, H1, -⟩ := A
  have hin := inb_of S1 ⟨hj, hj2⟩
  exact Go.of (fun _ q => X.laload hx (by rw [eT]; exact A1.1) (State.isArrayOf_alike hZ.alike A1.2.1) A1.2.2 hin (H1.at hin hv) (g := mkF m pc Ls (.int j :: .ref a :: st)) rfl rfl hd _ q) r
theorem gaaload (X : Stand p l e R s m args below meth c T locs cells slots) (hx : p.tables.exec = Jvm.exec) (hZ : Z.Warmed39 s.vm) (eT : T.heap = h) {a : Addr} {k : ClassId} {ty : FieldType} {z j : Int32} {vs : List Value} {dv : Value} (A : Arv Z h a k ty z vs dv) (v : Value) (hj : ¬ j < 0) (hj2 : j < z) (hv : vs.getD j.toNatClampNeg dv = v) (hty : ty.isReference = true) (pc' : Nat) (hd : decode c.code pc = .ok (.aaload, 1)) (hp : pc + 1 = pc') (r : Go p e below P T (mkF m pc' Ls (v :: st))) : Go p e below P T (mkF m pc Ls (.int j :: .ref a :: st)) := by
  subst hp
  obtain ⟨cl, A1, -, S1, N1, H1, -⟩ := A
  have hin := inb_of S1 ⟨hj, hj2⟩
  exact Go.of (fun _ q => X.aaload hx (by rw [eT]; exact A1.1) (State.isArrayOf_alike hZ.alike A1.2.1) hty A1.2.2 hin (H1.at hin hv) (g := mkF m pc Ls (.int j :: .ref a :: st)) rfl rfl hd _ q) r
theorem ggetF (X : Stand p l e R s m args below meth c T locs cells slots) (hx : p.tables.exec = Jvm.exec) (hZ : Z.Warmed39 s.vm) {own R0 O n d host : String} {index : Nat} (hown : s.vm.findClass own = some m.cls) (w : (Jvm.Cond.fieldLink own index R0 n d).before a0 Z = true ∨ (Jvm.Cond.fieldLinkNest own index R0 n d host).before a0 Z = true) (via : Via Z R0 O n d) (eT : T.heap = h) {a : Addr} {v : Value} (F : Fld Z h a O n d v) (pc' : Nat) (hd : decode c.code pc = .ok (.getfield index, 3)) (hp : pc + 3 = pc') (r : ∀ T', Stand p l e R s m args below meth c T' locs cells slots → T'.heap = h → Go p e below P T' (mkF m pc' Ls (v :: st))) : Go p e below P T (mkF m pc Ls (.ref a :: st)) := by
  subst hp
  obtain ⟨T', X', e', stp⟩ := getF X hx hZ hown w via eT F (g := mkF m pc Ls (.ref a :: st)) rfl rfl hd
  exact Go.of stp (r T' X' e')
theorem ggetS (X : Stand p l e R s m args below meth c T locs cells slots) (hx : p.tables.exec = Jvm.exec) (hZ : Z.Warmed39 s.vm) {own R0 O n d host : String} {index : Nat} (hown : s.vm.findClass own = some m.cls) (w : (Jvm.Cond.fieldLink own index R0 n d).before a0 Z = true ∨ (Jvm.Cond.fieldLinkNest own index R0 n d host).before a0 Z = true) (via : Via Z R0 O n d) (eT : T.heap = h) {v : Value} (F : Sta Z h O n d v) (pc' : Nat) (hd : decode c.code pc = .ok (.getstatic index, 3)) (hp : pc + 3 = pc') (r : ∀ T', Stand p l e R s m args below meth c T' locs cells slots → T'.heap = h → Go p e below P T' (mkF m pc' Ls (v :: st))) : Go p e below P T (mkF m pc Ls st) := by
  subst hp
  obtain ⟨T', X', e', stp⟩ := getS2 X hx hZ hown w via eT F (g := mkF m pc Ls st) rfl hd
  exact Go.of stp (r T' X' e')
theorem gputF (X : Stand p l e R s m args below meth c T locs cells slots) (hx : p.tables.exec = Jvm.exec) (hZ : Z.Warmed39 s.vm) {own R0 O n d host : String} {index : Nat} (hown : s.vm.findClass own = some m.cls) (w : (Jvm.Cond.fieldLink own index R0 n d).before a0 Z = true ∨ (Jvm.Cond.fieldLinkNest own index R0 n d host).before a0 Z = true) (via : Via Z R0 O n d) (eT : T.heap = h) {C : String} {kk : Nat} {ty : FieldType} {a : Addr} {v old : Value} (F : Fld Z h a O n d old) (E : Exa Z h a C) (L : (Jvm.Cond.lays C O n d).before a0 Z = true ∨ ((Jvm.Cond.laysFinal C O n d).before a0 Z = true ∧ own = O ∧ meth.name = "<init>")) (wi : (Jvm.Cond.instantiable C kk).before a0 Z = true) (hty : parseFieldDescriptor d = some ty) (hn : narrow ty v = v) (hf : fits ty v = true) {n0 : Nat} (N : Fr n0 locs) (ge : n0 ≤ a) (pc' : Nat) (hd : decode c.code pc = .ok (.putfield index, 3)) (hp : pc + 3 = pc') (r : ∀ T' h' L', Stand p l e R s m args below meth c T' L' cells slots → T'.heap = h' → Fr n0 L' → Wr h h' a (Jvm.RoadKit.slotOf Z O n d) v → Go p e below P T' (mkF m pc' Ls st)) : Go p e below P T (mkF m pc Ls (v :: .ref a :: st)) := by
  subst hp
  obtain ⟨T', h', X', e', W', stp⟩ := putF X hx hZ hown w via eT F E L wi hty hn hf (g := mkF m pc Ls (v :: .ref a :: st)) rfl rfl hd
  exact Go.of stp (r T' h' _ X' e' (Fr.snoc X' N ge) W')
theorem gnewO (X : Stand p l e R s m args below meth c T locs cells slots) (hx : p.tables.exec = Jvm.exec) (hZ : Z.Warmed39 s.vm) {own C : String} {index n : Nat} (hown : s.vm.findClass own = some m.cls) (w : (Jvm.Cond.classLink own index C).before a0 Z = true) (wi : (Jvm.Cond.instantiable C n).before a0 Z = true) (wz : (Jvm.Cond.initialized C).before a0 Z = true) (eT : T.heap = h) (cells' slots' : Nat) (hcl : cells + 1 = cells') (hsl : slots + n = slots') (hc : cells' ≤ R.cells) (hl : slots' ≤ R.slots) (pc' : Nat) (hd : decode c.code pc = .ok (.new index, 3)) (hp : pc + 3 = pc') (r : ∀ T' h' a, Stand p l e R s m args below meth c T' locs cells' slots' → T'.heap = h' → a = h.size → Ext h h' → Exa Z h' a C → (∀ {O nm d : String} {ty : FieldType}, Laid Z a0 C O nm d → parseFieldDescriptor d = some ty → Fld Z h' a O nm d (defaultValue ty)) → Go p e below P T' (mkF m pc' Ls (.ref a :: st))) : Go p e below P T (mkF m pc Ls st) := by
  subst hp hcl hsl
  obtain ⟨T', h', X', e', E', A', D', -, stp⟩ := newO X hx hZ hown w wi wz eT (g := mkF m pc Ls st) rfl hd hc hl
  exact Go.of stp (r T' h' _ X' e' rfl E' A' D')
theorem gnewP (X : Stand p l e R s m args below meth c T locs cells slots) (hx : p.tables.exec = Jvm.exec) (hZ : Z.Warmed39 s.vm) {aty : ArrayType} (w : (Jvm.Cond.arrayClass (newarray.typeOf aty)).before a0 Z = true) (eT : T.heap = h) {n : Int32} (hn : ¬ n < 0) (cap : Nat) (hcap : n.toNatClampNeg ≤ cap) (hb : cap * 8 ≤ 536870912) (cells' slots' : Nat) (hcl : cells + 1 = cells') (hsl : slots + cap = slots') (hc : cells' ≤ R.cells) (hl : slots' ≤ R.slots) (pc' : Nat) (hd : decode c.code pc = .ok (.newarray aty, 2)) (hp : pc + 2 = pc') (r : ∀ T' h' a k, Stand p l e R s m args below meth c T' locs cells' slots' → T'.heap = h' → a = h.size → Ext h h' → Arv Z h' a k (newarray.typeOf aty) n [] (defaultValue (newarray.typeOf aty)) → Go p e below P T' (mkF m pc' Ls (.ref a :: st))) : Go p e below P T (mkF m pc Ls (.int n :: st)) := by
  subst hp hcl hsl
  obtain ⟨T', h', k, X', e', E', A', stp⟩ := newP X hx hZ w eT (g := mkF m pc Ls (.int n :: st)) rfl hd rfl hn hcap hb hc hl
  exact Go.of stp (r T' h' _ k X' e' rfl E' (Arv.new A' hn))
theorem gcastore (X : Stand p l e R s m args below meth c T locs cells slots) (hx : p.tables.exec = Jvm.exec) (hZ : Z.Warmed39 s.vm) (eT : T.heap = h) {a : Addr} {k : ClassId} {z j x : Int32} {vs : List Value} {dv : Value} (A : Arv Z h a k .char z vs dv) (hj : ¬ j < 0) (hj2 : j < z) (i : Nat) (hji : j.toNatClampNeg = i) (hi : i < vs.length) {n0 : Nat} (N : Fr n0 locs) (ge : n0 ≤ a) (pc' : Nat) (hd : decode c.code pc = .ok (.castore, 1)) (hp : pc + 1 = pc') (r : ∀ T' h' L', Stand p l e R s m args below meth c T' L' cells slots → T'.heap = h' → Fr n0 L' → Wr h h' a j.toNatClampNeg (.int (nar .char x)) → Arv Z h' a k .char z (vs.set i (.int (nar .char x))) dv → Go p e below P T' (mkF m pc' Ls st)) : Go p e below P T (mkF m pc Ls (.int x :: .int j :: .ref a :: st)) := by
  subst hp
  obtain ⟨cl, A1, q1, S1, N1, H1, G1⟩ := A
  have hin := inb_of S1 ⟨hj, hj2⟩
  obtain ⟨T', h', X', e', W', stp⟩ := stC X hx hZ eT A1 hin (g := mkF m pc Ls (.int x :: .int j :: .ref a :: st)) rfl rfl hd
  exact Go.of stp (r T' h' _ X' e' (Fr.snoc X' N ge) W' (Arv.set A1 q1 S1 N1 H1 G1 (fits_nar_char x) W' i hji hi))
theorem gbastore (X : Stand p l e R s m args below meth c T locs cells slots) (hx : p.tables.exec = Jvm.exec) (hZ : Z.Warmed39 s.vm) (eT : T.heap = h) {a : Addr} {k : ClassId} {z j x : Int32} {vs : List Value} {dv : Value} (A : Arv Z h a k .byte z vs dv) (hj : ¬ j < 0) (hj2 : j < z) (i : Nat) (hji : j.toNatClampNeg = i) (hi : i < vs.length) {n0 : Nat} (N : Fr n0 locs) (ge : n0 ≤ a) (pc' : Nat) (hd : decode c.code pc = .ok (.bastore, 1)) (hp : pc + 1 = pc') (r : ∀ T' h' L', Stand p l e R s m args below meth c T' L' cells slots → T'.heap = h' → Fr n0 L' → Wr h h' a j.toNatClampNeg (.int (nar .byte x)) → Arv Z h' a k .byte z (vs.set i (.int (nar .byte x))) dv → Go p e below P T' (mkF m pc' Ls st)) : Go p e below P T (mkF m pc Ls (.int x :: .int j :: .ref a :: st)) := by
  subst hp
  obtain ⟨cl, A1, q1, S1, N1, H1, G1⟩ := A
  have hin := inb_of S1 ⟨hj, hj2⟩
  obtain ⟨T', h', X', e', W', stp⟩ := stB X hx hZ eT A1 hin (g := mkF m pc Ls (.int x :: .int j :: .ref a :: st)) rfl rfl hd
  exact Go.of stp (r T' h' _ X' e' (Fr.snoc X' N ge) W' (Arv.set A1 q1 S1 N1 H1 G1 (fits_nar_byte x) W' i hji hi))
theorem giastore (X : Stand p l e R s m args below meth c T locs cells slots) (hx : p.tables.exec = Jvm.exec) (hZ : Z.Warmed39 s.vm) (eT : T.heap = h) {a : Addr} {k : ClassId} {z j x : Int32} {vs : List Value} {dv : Value} (A : Arv Z h a k .int z vs dv) (hj : ¬ j < 0) (hj2 : j < z) (i : Nat) (hji : j.toNatClampNeg = i) (hi : i < vs.length) {n0 : Nat} (N : Fr n0 locs) (ge : n0 ≤ a) (pc' : Nat) (hd : decode c.code pc = .ok (.iastore, 1)) (hp : pc + 1 = pc') (r : ∀ T' h' L', Stand p l e R s m args below meth c T' L' cells slots → T'.heap = h' → Fr n0 L' → Wr h h' a j.toNatClampNeg (.int (x)) → Arv Z h' a k .int z (vs.set i (.int (x))) dv → Go p e below P T' (mkF m pc' Ls st)) : Go p e below P T (mkF m pc Ls (.int x :: .int j :: .ref a :: st)) := by
  subst hp
  obtain ⟨cl, A1, q1, S1, N1, H1, G1⟩ := A
  have hin := inb_of S1 ⟨hj, hj2⟩
  obtain ⟨T', h', X', e', W', stp⟩ := stI X hx hZ eT A1 hin (g := mkF m pc Ls (.int x :: .int j :: .ref a :: st)) rfl rfl hd
  exact Go.of stp (r T' h' _ X' e' (Fr.snoc X' N ge) W' (Arv.set A1 q1 S1 N1 H1 G1 (rfl) W' i hji hi))
theorem ginitO (X : Stand p l e R s m args below meth c T locs cells slots) (hx : p.tables.exec = Jvm.exec) (hZ : Z.Warmed39 s.vm) {own : String} {idx : Nat} (hown : s.vm.findClass own = some m.cls) (w1 : (Jvm.Cond.methodLink own idx Lib.objectInit).before a0 Z = true) (w2 : (Jvm.Cond.instanceMethod Lib.objectInit).before a0 Z = true) (w3 : (Jvm.Cond.code Lib.objectInit ⟨#[0xb1]⟩ 1 none).before a0 Z = true) (eT : T.heap = h) (hsz : Ls.size = c.maxLocals) {a : Addr} (hf : 1 ≤ R.frames) (W : Nat) (hW : (st.map fun v => v.category).sum ≤ W) (hl : W + 12 ≤ R.locals) (pc' : Nat) (hd : decode c.code pc = .ok (.invokespecial idx, 3)) (hp : pc + 3 = pc') (r : ∀ T', Stand p l e R s m args below meth c T' locs cells slots → T'.heap = h → Go p e below P T' (mkF m pc' Ls st)) : Go p e below P T (mkF m pc Ls (.ref a :: st)) := by
  subst hp
  obtain ⟨T', X', e', stp⟩ := initO X hx hZ hown w1 w2 w3 eT (g := mkF m pc Ls (.ref a :: st)) rfl hsz rfl hd hf (W := W) (by show 2 * 0 + _ ≤ _; omega) hl
  exact Go.of stp (r T' X' e')
theorem gcast (X : Stand p l e R s m args below meth c T locs cells slots) (hx : p.tables.exec = Jvm.exec) (hZ : Z.Warmed39 s.vm) {own K : String} {index : Nat} (hown : s.vm.findClass own = some m.cls) (w : (Jvm.Cond.classLink own index K).before a0 Z = true) (eT : T.heap = h) {a : Addr} (F : Ins Z h a K true) (pc' : Nat) (hd : decode c.code pc = .ok (.checkcast index, 3)) (hp : pc + 3 = pc') (r : ∀ T', Stand p l e R s m args below meth c T' locs cells slots → T'.heap = h → Go p e below P T' (mkF m pc' Ls (.ref a :: st))) : Go p e below P T (mkF m pc Ls (.ref a :: st)) := by
  subst hp
  obtain ⟨T', X', e', stp⟩ := castY X hx hZ hown w eT F (g := mkF m pc Ls (.ref a :: st)) rfl rfl hd
  exact Go.of stp (r T' X' e')
theorem ginstY (X : Stand p l e R s m args below meth c T locs cells slots) (hx : p.tables.exec = Jvm.exec) (hZ : Z.Warmed39 s.vm) {own K : String} {index : Nat} (hown : s.vm.findClass own = some m.cls) (w : (Jvm.Cond.classLink own index K).before a0 Z = true) (eT : T.heap = h) {a : Addr} (F : Ins Z h a K true) (pc' : Nat) (hd : decode c.code pc = .ok (.instanceof index, 3)) (hp : pc + 3 = pc') (r : ∀ T', Stand p l e R s m args below meth c T' locs cells slots → T'.heap = h → Go p e below P T' (mkF m pc' Ls (.int 1 :: st))) : Go p e below P T (mkF m pc Ls (.ref a :: st)) := by
  subst hp
  obtain ⟨T', X', e', stp⟩ := instY X hx hZ hown w eT F (g := mkF m pc Ls (.ref a :: st)) rfl rfl hd
  exact Go.of stp (r T' X' e')
theorem gspecial (X : Stand p l e R s m args below meth c T locs cells slots) (hx : p.tables.exec = Jvm.exec) (hZ : Z.Warmed39 s.vm) {own : String} {index : Nat} (hown : s.vm.findClass own = some m.cls) {y : MethodName} (hy1 : y.name = "<init>") (w1 : (Jvm.Cond.methodLink own index y).before a0 Z = true) (w2 : (Jvm.Cond.instanceMethod y).before a0 Z = true) {bytes : ByteArray} {maxL : Nat} (w3 : (Jvm.Cond.code y bytes maxL none).before a0 Z = true) (hy : y.cls ≠ "java/lang/invoke/MethodHandle" ∧ y.cls ≠ "java/lang/invoke/VarHandle") {W k j : Nat} {argsL : List Value} {a : Addr} (hK : Pays l R p e below s args y 3 W (.ref a :: argsL).toArray h k j Q) (eT : T.heap = h) (hsz : Ls.size = c.maxLocals) (hlen : ∀ sig, parseMethodDescriptor y.desc = some sig → argsL.length = sig.parameters.length) {stk : List Value} (hs : stk = argsL.reverse ++ .ref a :: st) (hW : (st.map fun v => v.category).sum ≤ W) (cells' slots' : Nat) (hcl : cells + k = cells') (hsl : slots + j = slots') (hc : cells' ≤ R.cells) (hl : slots' ≤ R.slots) (pc' : Nat) (hd : decode c.code pc = .ok (.invokespecial index, 3)) (hp : pc + 3 = pc') (r : ∀ v T' h' L' Lc, Stand p l e R s m args below meth c T' L' cells' slots' → T'.heap = h' → L' = locs ++ Lc → Q v h' Lc → Go p e below P T' (mkF m pc' Ls (v.toList ++ st))) : Go p e below P T (mkF m pc Ls stk) := by
  subst hp hcl hsl
  obtain ⟨v, vm₁, ⟨T', L', k', n'⟩, -, X', ⟨Lc, hQ, h1, h2, h3⟩, hst⟩ := X.specialBack hx hy1 hown (mvT hZ w1) (mvT hZ w2) (mvT hZ w3) hy hK (g := mkF m pc Ls stk) rfl hsz (Steps.refl _) hlen hs (by show 2 * 0 + _ ≤ _; omega) hd (fun _ _ => ⟨rfl, eT, hc, hl⟩)
  dsimp only at X' hQ h1 h2 h3 hst
  subst h1 h2 h3
  exact Go.tr hst (r v T' _ _ Lc X' rfl rfl hQ)
theorem gvirtual (X : Stand p l e R s m args below meth c T locs cells slots) (hx : p.tables.exec = Jvm.exec) (hZ : Z.Warmed39 s.vm) {own : String} {index : Nat} (hown : s.vm.findClass own = some m.cls) {C : String} {y z : MethodName} (w1 : (Jvm.Cond.methodLink own index y).before a0 Z = true) (w2 : (Jvm.Cond.declares y).before a0 Z = true) (nf : NotFace s y) (w3 : (Jvm.Cond.selects C y z).before a0 Z = true) (w4 : (Jvm.Cond.instanceMethod z).before a0 Z = true) (hy : y.cls ≠ "java/lang/invoke/MethodHandle" ∧ y.cls ≠ "java/lang/invoke/VarHandle") {a : Addr} (E : Exa Z h a C) {W k j : Nat} {argsL : List Value} (hK : Pays l R p e below s args z 3 W (.ref a :: argsL).toArray h k j Q) (eT : T.heap = h) (hsz : Ls.size = c.maxLocals) (hlen : ∀ sig, parseMethodDescriptor y.desc = some sig → argsL.length = sig.parameters.length) {stk : List Value} (hs : stk = argsL.reverse ++ .ref a :: st) (hW : (st.map fun v => v.category).sum ≤ W) (cells' slots' : Nat) (hcl : cells + k = cells') (hsl : slots + j = slots') (hc : cells' ≤ R.cells) (hl : slots' ≤ R.slots) (pc' : Nat) (hd : decode c.code pc = .ok (.invokevirtual index, 3)) (hp : pc + 3 = pc') (r : ∀ v T' h' L' Lc, Stand p l e R s m args below meth c T' L' cells' slots' → T'.heap = h' → L' = locs ++ Lc → Q v h' Lc → Go p e below P T' (mkF m pc' Ls (v.toList ++ st))) : Go p e below P T (mkF m pc Ls stk) := by
  subst hp hcl hsl
  obtain ⟨v, vm₁, ⟨T', L', k', n'⟩, -, X', ⟨Lc, hQ, h1, h2, h3⟩, hst⟩ := X.virtualBack hx hown (mvT hZ w1) (mvT hZ w2) nf (mvT hZ w3) (mvT hZ w4) hy hK (isOf hZ eT E).choose_spec.choose_spec.1 (isOf hZ eT E).choose_spec.choose_spec.2.2 (g := mkF m pc Ls stk) rfl hsz (Steps.refl _) hlen hs (by show 2 * 0 + _ ≤ _; omega) hd (fun _ _ => ⟨rfl, eT, hc, hl⟩)
  dsimp only at X' hQ h1 h2 h3 hst
  subst h1 h2 h3
  exact Go.tr hst (r v T' _ _ Lc X' rfl rfl hQ)
theorem gstatic (X : Stand p l e R s m args below meth c T locs cells slots) (hx : p.tables.exec = Jvm.exec) (hZ : Z.Warmed39 s.vm) {own : String} {index : Nat} (hown : s.vm.findClass own = some m.cls) {y : MethodName} {bytes : ByteArray} {maxL : Nat} {ret : Option FieldType} (w1 : (Jvm.Cond.methodLink own index y).before a0 Z = true) (w2 : (Jvm.Cond.static y).before a0 Z = true) (w3 : (Jvm.Cond.initialized y.cls).before a0 Z = true) (w4 : (Jvm.Cond.code y bytes maxL ret).before a0 Z = true) (hy : y.cls ≠ "java/lang/invoke/MethodHandle" ∧ y.cls ≠ "java/lang/invoke/VarHandle") {W k j : Nat} {argsL : List Value} (hK : Pays l R p e below s args y 3 W argsL.toArray h k j Q) (eT : T.heap = h) (hsz : Ls.size = c.maxLocals) (hlen : ∀ sig, parseMethodDescriptor y.desc = some sig → argsL.length = sig.parameters.length) {stk : List Value} (hs : stk = argsL.reverse ++ st) (hW : (st.map fun v => v.category).sum ≤ W) (cells' slots' : Nat) (hcl : cells + k = cells') (hsl : slots + j = slots') (hc : cells' ≤ R.cells) (hl : slots' ≤ R.slots) (pc' : Nat) (hd : decode c.code pc = .ok (.invokestatic index, 3)) (hp : pc + 3 = pc') (r : ∀ v T' h' L' Lc, Stand p l e R s m args below meth c T' L' cells' slots' → T'.heap = h' → L' = locs ++ Lc → Q v h' Lc → Go p e below P T' (mkF m pc' Ls (v.toList ++ st))) : Go p e below P T (mkF m pc Ls stk) := by
  subst hp hcl hsl
  obtain ⟨v, vm₁, ⟨T', L', k', n'⟩, -, X', ⟨Lc, hQ, h1, h2, h3⟩, hst⟩ := Jvm.LawKit.callS X hx hown (mvT hZ w1) (mvT hZ w2) (mvT hZ w3) (mvT hZ w4) hy hK (g := mkF m pc Ls stk) rfl hsz hlen hs (by show 2 * 0 + _ ≤ _; omega) hd (fun _ _ => ⟨rfl, eT, hc, hl⟩)
  dsimp only at X' hQ h1 h2 h3 hst
  subst h1 h2 h3
  exact Go.of hst (r v T' _ _ Lc X' rfl rfl hQ)
theorem gspecialS (X : Stand p l e R (s.setVm vm0) m args below meth c T locs cells slots) (hx : p.tables.exec = Jvm.exec) (hZ : Z.Warmed39 vm0) {own : String} {index : Nat} (hown : vm0.findClass own = some m.cls) {y : MethodName} (hy1 : y.name = "<init>") (w1 : (Jvm.Cond.methodLink own index y).before a0 Z = true) (w2 : (Jvm.Cond.instanceMethod y).before a0 Z = true) {bytes : ByteArray} {maxL : Nat} (w3 : (Jvm.Cond.code y bytes maxL none).before a0 Z = true) (hy : y.cls ≠ "java/lang/invoke/MethodHandle" ∧ y.cls ≠ "java/lang/invoke/VarHandle") {W k j : Nat} {argsL : List Value} {a : Addr} (hS : s.Since vm0 k0) (hk : k0 ≤ h.size) (hK : PaysS l R p e below s vm0 args y 3 W (.ref a :: argsL).toArray h k j Z EL Q) (eT : T.heap = h) (hsz : Ls.size = c.maxLocals) (hlen : ∀ sig, parseMethodDescriptor y.desc = some sig → argsL.length = sig.parameters.length) {stk : List Value} (hs : stk = argsL.reverse ++ .ref a :: st) (hW : (st.map fun v => v.category).sum ≤ W) (cells' slots' : Nat) (hcl : cells + k = cells') (hsl : slots + j = slots') (hc : cells' ≤ R.cells) (hl : slots' ≤ R.slots) (pc' : Nat) (hd : decode c.code pc = .ok (.invokespecial index, 3)) (hp : pc + 3 = pc') (r : ∀ v T' h' L' Lc vm1 k1, Stand p l e R (s.setVm vm1) m args below meth c T' L' cells' slots' → T'.heap = h' → L' = locs ++ Lc → s.Since vm1 k1 → k1 ≤ h'.size → Z.Warmed39 vm1 → vm1.findClass own = some m.cls → CHr Z EL vm0 h vm1 h' → Q v h' Lc → Go p e below P T' (mkF m pc' Ls (v.toList ++ st))) : Go p e below P T (mkF m pc Ls stk) := by
  subst hp hcl hsl
  subst eT
  obtain ⟨v, vm₁, ⟨T', L', k', n'⟩, -, X', hS', hgr, ⟨Lc, hQ, h1, h2, h3, hC⟩, hst⟩ := X.specialBackS hx hy1 hown (mvT hZ w1) (mvT hZ w2) (mvT hZ w3) hy hK (g := mkF m pc Ls stk) rfl hsz (Steps.refl _) hlen hs (by show 2 * 0 + _ ≤ _; omega) hd (fun _ _ => ⟨rfl, rfl, hc, hl⟩)
  dsimp only at X' hS' hgr hQ h1 h2 h3 hC hst
  subst h1 h2 h3
  obtain ⟨X2, hS2, hZ2, ho2⟩ := rebS (Z := Z) (own := own) hS hk X' hS' hgr hZ hown
  exact Go.tr hst (r v T' _ _ Lc _ _ X2 rfl rfl hS2 (Nat.le_refl _) hZ2 ho2 hC hQ)
theorem gvirtualS (X : Stand p l e R (s.setVm vm0) m args below meth c T locs cells slots) (hx : p.tables.exec = Jvm.exec) (hZ : Z.Warmed39 vm0) {own : String} {index : Nat} (hown : vm0.findClass own = some m.cls) {C : String} {y z : MethodName} (w1 : (Jvm.Cond.methodLink own index y).before a0 Z = true) (w2 : (Jvm.Cond.declares y).before a0 Z = true) (nf : NotFace (s.setVm vm0) y) (w3 : (Jvm.Cond.selects C y z).before a0 Z = true) (w4 : (Jvm.Cond.instanceMethod z).before a0 Z = true) (hy : y.cls ≠ "java/lang/invoke/MethodHandle" ∧ y.cls ≠ "java/lang/invoke/VarHandle") {a : Addr} (E : Exa Z h a C) {W k j : Nat} {argsL : List Value} (hS : s.Since vm0 k0) (hk : k0 ≤ h.size) (hK : PaysS l R p e below s vm0 args z 3 W (.ref a :: argsL).toArray h k j Z EL Q) (eT : T.heap = h) (hsz : Ls.size = c.maxLocals) (hlen : ∀ sig, parseMethodDescriptor y.desc = some sig → argsL.length = sig.parameters.length) {stk : List Value} (hs : stk = argsL.reverse ++ .ref a :: st) (hW : (st.map fun v => v.category).sum ≤ W) (cells' slots' : Nat) (hcl : cells + k = cells') (hsl : slots + j = slots') (hc : cells' ≤ R.cells) (hl : slots' ≤ R.slots) (pc' : Nat) (hd : decode c.code pc = .ok (.invokevirtual index, 3)) (hp : pc + 3 = pc') (r : ∀ v T' h' L' Lc vm1 k1, Stand p l e R (s.setVm vm1) m args below meth c T' L' cells' slots' → T'.heap = h' → L' = locs ++ Lc → s.Since vm1 k1 → k1 ≤ h'.size → Z.Warmed39 vm1 → vm1.findClass own = some m.cls → CHr Z EL vm0 h vm1 h' → Q v h' Lc → Go p e below P T' (mkF m pc' Ls (v.toList ++ st))) : Go p e below P T (mkF m pc Ls stk) := by
  subst hp hcl hsl
  subst eT
  obtain ⟨v, vm₁, ⟨T', L', k', n'⟩, -, X', hS', hgr, ⟨Lc, hQ, h1, h2, h3, hC⟩, hst⟩ := X.virtualBackS hx hown (mvT hZ w1) (mvT hZ w2) nf (mvT hZ w3) (mvT hZ w4) hy hK (isOf hZ rfl E).choose_spec.choose_spec.1 (isOf hZ rfl E).choose_spec.choose_spec.2.2 (g := mkF m pc Ls stk) rfl hsz (Steps.refl _) hlen hs (by show 2 * 0 + _ ≤ _; omega) hd (fun _ _ => ⟨rfl, rfl, hc, hl⟩)
  dsimp only at X' hS' hgr hQ h1 h2 h3 hC hst
  subst h1 h2 h3
  obtain ⟨X2, hS2, hZ2, ho2⟩ := rebS (Z := Z) (own := own) hS hk X' hS' hgr hZ hown
  exact Go.tr hst (r v T' _ _ Lc _ _ X2 rfl rfl hS2 (Nat.le_refl _) hZ2 ho2 hC hQ)
theorem gstaticS (X : Stand p l e R (s.setVm vm0) m args below meth c T locs cells slots) (hx : p.tables.exec = Jvm.exec) (hZ : Z.Warmed39 vm0) {own : String} {index : Nat} (hown : vm0.findClass own = some m.cls) {y : MethodName} {bytes : ByteArray} {maxL : Nat} {ret : Option FieldType} (w1 : (Jvm.Cond.methodLink own index y).before a0 Z = true) (w2 : (Jvm.Cond.static y).before a0 Z = true) (w3 : (Jvm.Cond.initialized y.cls).before a0 Z = true) (w4 : (Jvm.Cond.code y bytes maxL ret).before a0 Z = true) (hy : y.cls ≠ "java/lang/invoke/MethodHandle" ∧ y.cls ≠ "java/lang/invoke/VarHandle") {W k j : Nat} {argsL : List Value} (hS : s.Since vm0 k0) (hk : k0 ≤ h.size) (hK : PaysS l R p e below s vm0 args y 3 W argsL.toArray h k j Z EL Q) (eT : T.heap = h) (hsz : Ls.size = c.maxLocals) (hlen : ∀ sig, parseMethodDescriptor y.desc = some sig → argsL.length = sig.parameters.length) {stk : List Value} (hs : stk = argsL.reverse ++ st) (hW : (st.map fun v => v.category).sum ≤ W) (cells' slots' : Nat) (hcl : cells + k = cells') (hsl : slots + j = slots') (hc : cells' ≤ R.cells) (hl : slots' ≤ R.slots) (pc' : Nat) (hd : decode c.code pc = .ok (.invokestatic index, 3)) (hp : pc + 3 = pc') (r : ∀ v T' h' L' Lc vm1 k1, Stand p l e R (s.setVm vm1) m args below meth c T' L' cells' slots' → T'.heap = h' → L' = locs ++ Lc → s.Since vm1 k1 → k1 ≤ h'.size → Z.Warmed39 vm1 → vm1.findClass own = some m.cls → CHr Z EL vm0 h vm1 h' → Q v h' Lc → Go p e below P T' (mkF m pc' Ls (v.toList ++ st))) : Go p e below P T (mkF m pc Ls stk) := by
  subst hp hcl hsl
  subst eT
  obtain ⟨v, vm₁, ⟨T', L', k', n'⟩, -, X', hS', hgr, ⟨Lc, hQ, h1, h2, h3, hC⟩, hst⟩ := callSS X hx hown (mvT hZ w1) (mvT hZ w2) (mvT hZ w3) (mvT hZ w4) hy hK (g := mkF m pc Ls stk) rfl hsz hlen hs (by show 2 * 0 + _ ≤ _; omega) hd (fun _ _ => ⟨rfl, rfl, hc, hl⟩)
  dsimp only at X' hS' hgr hQ h1 h2 h3 hC hst
  subst h1 h2 h3
  obtain ⟨X2, hS2, hZ2, ho2⟩ := rebS (Z := Z) (own := own) hS hk X' hS' hgr hZ hown
  exact Go.tr hst (r v T' _ _ Lc _ _ X2 rfl rfl hS2 (Nat.le_refl _) hZ2 ho2 hC hQ)
theorem giface (X : Stand p l e R s m args below meth c T locs cells slots) (hx : p.tables.exec = Jvm.exec) (hZ : Z.Warmed39 s.vm) {own : String} {index : Nat} (hown : s.vm.findClass own = some m.cls) {count : Nat} {C : String} {y z : MethodName} (w1 : (Jvm.Cond.methodLink own index y).before a0 Z = true) (w2 : (Jvm.Cond.declares y).before a0 Z = true) (w3 : (Jvm.Cond.interfaceMethod y.cls y.cls y.name y.desc).before args s = true) (w4 : (Jvm.Cond.selects C y z).before a0 Z = true) (w5 : (Jvm.Cond.instanceMethod z).before a0 Z = true) (w6 : (Jvm.Cond.publicMethod z).before a0 Z = true) (w7 : (Jvm.Cond.unhidden C y.name y.desc).before a0 Z = true) (w8 : (Jvm.Cond.castable C y.cls).before a0 Z = true) (hy : y.cls ≠ "java/lang/invoke/MethodHandle" ∧ y.cls ≠ "java/lang/invoke/VarHandle") {a : Addr} (E : Exa Z h a C) {W k j : Nat} {argsL : List Value} (hK : Pays l R p e below s args z 5 W (.ref a :: argsL).toArray h k j Q) (eT : T.heap = h) (hsz : Ls.size = c.maxLocals) (hlen : ∀ sig, parseMethodDescriptor y.desc = some sig → argsL.length = sig.parameters.length) {stk : List Value} (hs : stk = argsL.reverse ++ .ref a :: st) (hW : (st.map fun v => v.category).sum ≤ W) (cells' slots' : Nat) (hcl : cells + k = cells') (hsl : slots + j = slots') (hc : cells' ≤ R.cells) (hl : slots' ≤ R.slots) (pc' : Nat) (hd : decode c.code pc = .ok (.invokeinterface index count, 5)) (hp : pc + 5 = pc') (r : ∀ v T' h' L' Lc, Stand p l e R s m args below meth c T' L' cells' slots' → T'.heap = h' → L' = locs ++ Lc → Q v h' Lc → Go p e below P T' (mkF m pc' Ls (v.toList ++ st))) : Go p e below P T (mkF m pc Ls stk) := by
  subst hp hcl hsl
  obtain ⟨v, vm₁, ⟨T', L', k', n'⟩, -, X', ⟨Lc, hQ, h1, h2, h3⟩, hst⟩ := X.interfaceBack hx hown (mvT hZ w1) (mvT hZ w2) w3 (mvT hZ w4) (mvT hZ w5) (mvT hZ w6) (mvT hZ w7) (mvT hZ w8) hy hK (isOf hZ eT E).choose_spec.choose_spec.1 (isOf hZ eT E).choose_spec.choose_spec.2.1 (isOf hZ eT E).choose_spec.choose_spec.2.2 (g := mkF m pc Ls stk) rfl hsz (Steps.refl _) hlen hs (by show 2 * 0 + _ ≤ _; omega) hd (fun _ _ => ⟨rfl, eT, hc, hl⟩)
  dsimp only at X' hQ h1 h2 h3 hst
  subst h1 h2 h3
  exact Go.tr hst (r v T' _ _ Lc X' rfl rfl hQ)
theorem gpriv (X : Stand p l e R s m args below meth c T locs cells slots) (hx : p.tables.exec = Jvm.exec) (hZ : Z.Warmed39 s.vm) {own : String} {index : Nat} (hown : s.vm.findClass own = some m.cls) {y : MethodName} {bytes : ByteArray} {maxL : Nat} {ret : Option FieldType} (w1 : (Jvm.Cond.methodLink own index y).before a0 Z = true) (w2 : (Jvm.Cond.instanceMethod y).before a0 Z = true) (w3 : (Jvm.Cond.selects y.cls y y).before a0 Z = true) (w4 : (Jvm.Cond.privateMethod y).before a0 Z = true) (w5 : (Jvm.Cond.code y bytes maxL ret).before a0 Z = true) (hy : y.cls ≠ "java/lang/invoke/MethodHandle" ∧ y.cls ≠ "java/lang/invoke/VarHandle") {a : Addr} {C : String} (E : Exa Z h a C) {W k j : Nat} {argsL : List Value} (hK : Pays l R p e below s args y 3 W (.ref a :: argsL).toArray h k j Q) (eT : T.heap = h) (hsz : Ls.size = c.maxLocals) (hlen : ∀ sig, parseMethodDescriptor y.desc = some sig → argsL.length = sig.parameters.length) {stk : List Value} (hs : stk = argsL.reverse ++ .ref a :: st) (hW : (st.map fun v => v.category).sum ≤ W) (cells' slots' : Nat) (hcl : cells + k = cells') (hsl : slots + j = slots') (hc : cells' ≤ R.cells) (hl : slots' ≤ R.slots) (pc' : Nat) (hd : decode c.code pc = .ok (.invokevirtual index, 3)) (hp : pc + 3 = pc') (r : ∀ v T' h' L' Lc, Stand p l e R s m args below meth c T' L' cells' slots' → T'.heap = h' → L' = locs ++ Lc → Q v h' Lc → Go p e below P T' (mkF m pc' Ls (v.toList ++ st))) : Go p e below P T (mkF m pc Ls stk) := by
  subst hp hcl hsl
  obtain ⟨v, vm₁, ⟨T', L', k', n'⟩, -, X', ⟨Lc, hQ, h1, h2, h3⟩, hst⟩ := X.privateBack hx hown (mvT hZ w1) (mvT hZ w2) (mvT hZ w3) (Cond.privateMethod_at (mvP hZ w4 (args := #[]))) (mvT hZ w5) hy hK (g := mkF m pc Ls stk) rfl hsz (Steps.refl _) (by rw [eT]; exact E.cell.choose_spec.1) E.cell.choose_spec.2 hlen hs (by show 2 * 0 + _ ≤ _; omega) hd (fun _ _ => ⟨rfl, eT, hc, hl⟩)
  dsimp only at X' hQ h1 h2 h3 hst
  subst h1 h2 h3
  exact Go.tr hst (r v T' _ _ Lc X' rfl rfl hQ)
theorem gsuper (X : Stand p l e R s m args below meth c T locs cells slots) (hx : p.tables.exec = Jvm.exec) (hZ : Z.Warmed39 s.vm) {own : String} {index : Nat} (hown : s.vm.findClass own = some m.cls) {y : MethodName} {bytes : ByteArray} {maxL : Nat} {ret : Option FieldType} {K : String} (w1 : (Jvm.Cond.methodLink own index y).before a0 Z = true) (w2 : (Jvm.Cond.sameMethod y.cls y.cls y.name y.desc).before a0 Z = true) (w3 : (Jvm.Cond.instanceMethod y).before a0 Z = true) (w4 : (Jvm.Cond.superclass own y.cls).before a0 Z = true) (hy1 : y.name ≠ "<init>") (wc : (Jvm.Cond.code y bytes maxL ret).before a0 Z = true) {a : Addr} (F : Ins Z h a K true) {W k j : Nat} {argsL : List Value} (hK : Pays l R p e below s args y 3 W (.ref a :: argsL).toArray h k j Q) (eT : T.heap = h) (hsz : Ls.size = c.maxLocals) (hlen : ∀ sig, parseMethodDescriptor y.desc = some sig → argsL.length = sig.parameters.length) {stk : List Value} (hs : stk = argsL.reverse ++ .ref a :: st) (hW : (st.map fun v => v.category).sum ≤ W) (cells' slots' : Nat) (hcl : cells + k = cells') (hsl : slots + j = slots') (hc : cells' ≤ R.cells) (hl : slots' ≤ R.slots) (pc' : Nat) (hd : decode c.code pc = .ok (.invokespecial index, 3)) (hp : pc + 3 = pc') (r : ∀ v T' h' L' Lc, Stand p l e R s m args below meth c T' L' cells' slots' → T'.heap = h' → L' = locs ++ Lc → Q v h' Lc → Go p e below P T' (mkF m pc' Ls (v.toList ++ st))) : Go p e below P T (mkF m pc Ls stk) := by
  subst hp hcl hsl
  obtain ⟨v, vm₁, ⟨T', L', k', n'⟩, -, X', ⟨Lc, hQ, h1, h2, h3⟩, hst⟩ := superBack X hx hZ hown w1 w2 w3 w4 hy1 hK eT F (g := mkF m pc Ls stk) rfl hsz wc hlen hs (by show 2 * 0 + _ ≤ _; omega) hd (fun _ _ => ⟨rfl, eT, hc, hl⟩)
  dsimp only at X' hQ h1 h2 h3 hst
  subst h1 h2 h3
  exact Go.tr hst (r v T' _ _ Lc X' rfl rfl hQ)
theorem gldcO (X : Stand p l e R (s.setVm vm0) m args below meth c T locs cells slots) (hx : p.tables.exec = Jvm.exec) (hZ : Z.Warmed39 vm0) {own text : String} {index : Nat} (hown : vm0.findClass own = some m.cls) (w : (Jvm.Cond.stringLink own index text).before a0 Z = true) (wS : ∀ a ∈ Bundle.stringAtoms, a.before a0 Z = true) (eT : T.heap = h) (hS : s.Since vm0 k0) (hk : k0 ≤ h.size) (hEL : EW Z a0 EL) (H : CHv Z EL vm0 h) (n : Nat) (hn : 4 * text.toList.length ≤ n) (hbig : n ≤ 536870912) (cells' slots' : Nat) (hcl : cells + 2 = cells') (hsl : slots + (n + 4) = slots') (hc : cells' ≤ R.cells) (hl : slots' ≤ R.slots) (pc' : Nat) (hd : decode c.code pc = .ok (.ldc index, 2)) (hp : pc + 2 = pc') (r : ∀ a T' h' vm1 k1, Stand p l e R (s.setVm vm1) m args below meth c T' locs cells' slots' → T'.heap = h' → Ext h h' → s.Since vm1 k1 → k1 ≤ h'.size → Z.Warmed39 vm1 → vm1.findClass own = some m.cls → CHr Z EL vm0 h vm1 h' → Lit (s.setVm vm1) own index a → Go p e below P T' (mkF m pc' Ls (.ref a :: st))) : Go p e below P T (mkF m pc Ls st) := by
  subst hp hcl hsl
  obtain ⟨a, T', h', k1, X', e', E', hS', hk', hZ', ho', hC', hL', stp⟩ := ldcOH X hx hZ hown w wS eT hS hk hEL H (g := mkF m pc Ls st) rfl hd hn hbig hc hl
  exact Go.of stp (r a T' h' _ k1 X' e' E' hS' hk' hZ' ho' hC' hL')
theorem gldcV (X : Stand p l e R (s.setVm vm0) m args below meth c T locs cells slots) (hx : p.tables.exec = Jvm.exec) (hZ : Z.Warmed39 vm0) {own text : String} {index : Nat} (hown : vm0.findClass own = some m.cls) (w : (Jvm.Cond.stringLink own index text).before a0 Z = true) (wS : ∀ a ∈ Bundle.stringAtoms, a.before a0 Z = true) (eT : T.heap = h) (hS : s.Since vm0 k0) (hk : k0 ≤ h.size) (hEL : EW Z a0 EL) (hmem : (own, index) ∈ EL) (H : CHv Z EL vm0 h) (vs : List Value) (z : Int32) (ht : (∀ c ∈ text.toList, c.toNat < 256) ∧ text.toList.map (fun c => Value.int (Jvm.Lit.byteI c.toNat.toUInt16)) = vs) (hz : ¬ z < 0) (hzl : z.toNatClampNeg = vs.length) (n : Nat) (hn : 4 * text.toList.length ≤ n) (hbig : n ≤ 536870912) (cells' slots' : Nat) (hcl : cells + 2 = cells') (hsl : slots + (n + 4) = slots') (hc : cells' ≤ R.cells) (hl : slots' ≤ R.slots) (pc' : Nat) (hd : decode c.code pc = .ok (.ldc index, 2)) (hp : pc + 2 = pc') (r : ∀ a T' h' vm1 k1 b kb, Stand p l e R (s.setVm vm1) m args below meth c T' locs cells' slots' → T'.heap = h' → Ext h h' → s.Since vm1 k1 → k1 ≤ h'.size → Z.Warmed39 vm1 → vm1.findClass own = some m.cls → CHr Z EL vm0 h vm1 h' → Lit (s.setVm vm1) own index a → Exa Z h' a "java/lang/String" → Fld Z h' a "java/lang/String" "coder" "B" (.int 0) → Fld Z h' a "java/lang/String" "value" "[B" (.ref b) → Arv Z h' b kb .byte z vs (.int 0) → (∀ x, Safe Z EL vm1 h' x → x ≠ a ∧ x ≠ b) → Go p e below P T' (mkF m pc' Ls (.ref a :: st))) : Go p e below P T (mkF m pc Ls st) := by
  subst hp hcl hsl
  obtain ⟨a, T', h', k1, b, kb, X', e', E', hS', hk', hZ', ho', q1, q2, q3, q4, -, -, hC', hL', hne, stp⟩ := ldcCH X hx hZ hown w wS eT hS hk hEL hmem H ht hz hzl (g := mkF m pc Ls st) rfl hd hn hbig hc hl
  exact Go.of stp (r a T' h' _ k1 b kb X' e' E' hS' hk' hZ' ho' hC' hL' q1 q2 q3 q4 hne)
end Own
end Jvm.Own
namespace Jvm.Pilot.@@N@@
open Jvm Jvm.ClassFile Sem Op Lib Jvm.Free Jvm.Stand Jvm.LawKit Jvm.RoadKit Bundle Jvm.Own Jvm.Pilot.@@N@@.Jvm.D
theorem own_c0 {P : Int32 → Prop} : ∀ c ∈ ([] : List Int32), P c := fun _ z => nomatch z
theorem own_cS {P : Int32 → Prop} {y : Int32} {L : List Int32} (h : P y) (r : ∀ c ∈ L, P c) : ∀ c ∈ y :: L, P c := fun c z => (List.mem_cons.mp z).elim (fun u => u ▸ h) (r c)
theorem own_lo (x : Int32) : ∃ k : Fin 256, x &&& (255 : Int32) = Int32.ofNat k.val := by
  have h : (x &&& 255).toBitVec.toNat < 256 := by
    simp only [Int32.toBitVec_and, BitVec.toNat_and]
    exact Nat.lt_succ_of_le Nat.and_le_right
  refine ⟨⟨_, h⟩, ?_⟩
  apply Int32.toBitVec_inj.mp
  show _ = BitVec.ofNat 32 _
  rw [BitVec.ofNat_toNat]; simp
theorem own_rng (x : Int32) : ¬ (x &&& (255 : Int32)) < 0 ∧ ¬ (255 : Int32) < (x &&& (255 : Int32)) := by
  obtain ⟨k, e⟩ := own_lo x
  rw [e]; clear e; revert k; decide +kernel
theorem own_i2c8 (x : Int32) : (x &&& (255 : Int32)).toUInt32.toUInt16.toUInt32.toInt32 = (x &&& (255 : Int32)) := by
  obtain ⟨k, e⟩ := own_lo x
  rw [e]; clear e; revert k; decide +kernel
theorem own_nar8 (x : Int32) : nar .char (x &&& (255 : Int32)) = (x &&& (255 : Int32)) := own_i2c8 x
theorem own_nar16 (x : Int32) : nar .char (x &&& (255 : Int32)).toUInt32.toUInt16.toUInt32.toInt32 = (x &&& (255 : Int32)) := by rw [own_i2c8]; exact own_i2c8 x
theorem own_narb (x : Int32) : nar .byte x.toInt8.toInt32 = x.toInt8.toInt32 := by show x.toInt8.toInt32.toInt8.toInt32 = _; rw [Int8.toInt8_toInt32]
theorem own_up (cs : List Int32) (h : ∀ c ∈ cs, ¬ c < 0 ∧ ¬ (255 : Int32) < c) : ∀ c ∈ cs, ¬ c < 0 ∧ ¬ (65535 : Int32) < c := fun c hc => ⟨(h c hc).1, fun q => (h c hc).2 (by rw [Int32.lt_iff_toInt_lt] at q ⊢; have e1 : (65535 : Int32).toInt = 65535 := rfl; have e2 : (255 : Int32).toInt = 255 := rfl; omega)⟩
theorem own_wS {a0 : Array Value} {Z : State} (hw : ∀ d ∈ tables_1, d.before a0 Z = true) : ∀ a ∈ Bundle.stringAtoms, a.before a0 Z = true := fun d hd => hw d ((by decide +kernel : ∀ d ∈ Bundle.stringAtoms, d ∈ tables_1) d hd)
theorem own_hws {a0 : Array Value} {Z : State} (hw : ∀ d ∈ tables_1, d.before a0 Z = true) : ∀ d ∈ StrChars.Road.words, d.before a0 Z = true := fun d hd => hw d ((by decide +kernel : ∀ d ∈ StrChars.Road.words, d ∈ tables_1) d hd)
theorem own_hln {a0 : Array Value} {Z : State} (hw : ∀ d ∈ tables_1, d.before a0 Z = true) : ∀ d ∈ StrChars.Road.wordsLen, d.before a0 Z = true := fun d hd => hw d ((by decide +kernel : ∀ d ∈ StrChars.Road.wordsLen, d ∈ tables_1) d hd)
theorem own_hch {a0 : Array Value} {Z : State} (hw : ∀ d ∈ tables_1, d.before a0 Z = true) : ∀ d ∈ StrChars.Road.wordsChN, d.before a0 Z = true := fun d hd => hw d ((by decide +kernel : ∀ d ∈ StrChars.Road.wordsChN, d ∈ tables_1) d hd)
theorem own_w0 {a0 : Array Value} {Z : State} (hw : ∀ d ∈ tables_1, d.before a0 Z = true) : (Jvm.Cond.methodLink "com/example/tagwire/tagwire/dtd/NamesIsWhitespacePinLaw" (9 : Nat) ({ cls := "com/example/tagwire/tagwire/dtd/NamesIsWhitespacePinLaw", name := "pick", desc := "(I)C" } : Jvm.MethodName)).before a0 Z = true := hw _ (List.mem_of_getElem? (i := 0) rfl)
theorem own_w1 {a0 : Array Value} {Z : State} (hw : ∀ d ∈ tables_1, d.before a0 Z = true) : (Jvm.Cond.static ({ cls := "com/example/tagwire/tagwire/dtd/NamesIsWhitespacePinLaw", name := "pick", desc := "(I)C" } : Jvm.MethodName)).before a0 Z = true := hw _ (List.mem_of_getElem? (i := 1) rfl)
theorem own_w2 {a0 : Array Value} {Z : State} (hw : ∀ d ∈ tables_1, d.before a0 Z = true) : (Jvm.Cond.initialized "com/example/tagwire/tagwire/dtd/NamesIsWhitespacePinLaw").before a0 Z = true := hw _ (List.mem_of_getElem? (i := 2) rfl)
theorem own_w3 {a0 : Array Value} {Z : State} (hw : ∀ d ∈ tables_1, d.before a0 Z = true) : (Jvm.Cond.code ({ cls := "com/example/tagwire/tagwire/dtd/NamesIsWhitespacePinLaw", name := "pick", desc := "(I)C" } : Jvm.MethodName) method_2_code (2 : Nat) (Option.some Jvm.ClassFile.FieldType.char)).before a0 Z = true := hw _ (List.mem_of_getElem? (i := 3) rfl)
theorem own_w4 {a0 : Array Value} {Z : State} (hw : ∀ d ∈ tables_1, d.before a0 Z = true) : (Jvm.Cond.constant "com/example/tagwire/tagwire/dtd/NamesIsWhitespacePinLaw" (7 : Nat) (65536 : Int32)).before a0 Z = true := hw _ (List.mem_of_getElem? (i := 4) rfl)
theorem own_w5 {a0 : Array Value} {Z : State} (hw : ∀ d ∈ tables_1, d.before a0 Z = true) : (Jvm.Cond.constant "com/example/tagwire/tagwire/dtd/NamesIsWhitespacePinLaw" (8 : Nat) (65535 : Int32)).before a0 Z = true := hw _ (List.mem_of_getElem? (i := 5) rfl)
theorem own_w6 {a0 : Array Value} {Z : State} (hw : ∀ d ∈ tables_1, d.before a0 Z = true) : (Jvm.Cond.arrayClass Jvm.ClassFile.FieldType.char).before a0 Z = true := hw _ (List.mem_of_getElem? (i := 6) rfl)
theorem own_w7 {a0 : Array Value} {Z : State} (hw : ∀ d ∈ tables_1, d.before a0 Z = true) : (Jvm.Cond.classLink "com/example/tagwire/tagwire/dtd/NamesIsWhitespacePinLaw" (15 : Nat) "java/lang/String").before a0 Z = true := hw _ (List.mem_of_getElem? (i := 7) rfl)
theorem own_w8 {a0 : Array Value} {Z : State} (hw : ∀ d ∈ tables_1, d.before a0 Z = true) : (Jvm.Cond.instantiable "java/lang/String" (4 : Nat)).before a0 Z = true := hw _ (List.mem_of_getElem? (i := 8) rfl)
theorem own_w9 {a0 : Array Value} {Z : State} (hw : ∀ d ∈ tables_1, d.before a0 Z = true) : (Jvm.Cond.initialized "java/lang/String").before a0 Z = true := hw _ (List.mem_of_getElem? (i := 9) rfl)
theorem own_w10 {a0 : Array Value} {Z : State} (hw : ∀ d ∈ tables_1, d.before a0 Z = true) : (Jvm.Cond.methodLink "com/example/tagwire/tagwire/dtd/NamesIsWhitespacePinLaw" (17 : Nat) ({ cls := "java/lang/String", name := "<init>", desc := "([C)V" } : Jvm.MethodName)).before a0 Z = true := hw _ (List.mem_of_getElem? (i := 10) rfl)
theorem own_w11 {a0 : Array Value} {Z : State} (hw : ∀ d ∈ tables_1, d.before a0 Z = true) : (Jvm.Cond.instanceMethod ({ cls := "java/lang/String", name := "<init>", desc := "([C)V" } : Jvm.MethodName)).before a0 Z = true := hw _ (List.mem_of_getElem? (i := 11) rfl)
theorem own_w12 {a0 : Array Value} {Z : State} (hw : ∀ d ∈ tables_1, d.before a0 Z = true) : (Jvm.Cond.code ({ cls := "java/lang/String", name := "<init>", desc := "([C)V" } : Jvm.MethodName) jdk_42_method_3_code (2 : Nat) (Option.none : Option Jvm.ClassFile.FieldType)).before a0 Z = true := hw _ (List.mem_of_getElem? (i := 12) rfl)
theorem own_w13 {a0 : Array Value} {Z : State} (hw : ∀ d ∈ tables_1, d.before a0 Z = true) : (Jvm.Cond.methodLink "java/lang/String" (27 : Nat) ({ cls := "java/lang/String", name := "<init>", desc := "([CIILjava/lang/Void;)V" } : Jvm.MethodName)).before a0 Z = true := hw _ (List.mem_of_getElem? (i := 13) rfl)
theorem own_w14 {a0 : Array Value} {Z : State} (hw : ∀ d ∈ tables_1, d.before a0 Z = true) : (Jvm.Cond.instanceMethod ({ cls := "java/lang/String", name := "<init>", desc := "([CIILjava/lang/Void;)V" } : Jvm.MethodName)).before a0 Z = true := hw _ (List.mem_of_getElem? (i := 14) rfl)
theorem own_w16 {a0 : Array Value} {Z : State} (hw : ∀ d ∈ tables_1, d.before a0 Z = true) : (Jvm.Cond.code ({ cls := "java/lang/String", name := "<init>", desc := "([CIILjava/lang/Void;)V" } : Jvm.MethodName) jdk_42_method_149_code (6 : Nat) (Option.none : Option Jvm.ClassFile.FieldType)).before a0 Z = true := hw _ (List.mem_of_getElem? (i := 16) rfl)
theorem own_w17 {a0 : Array Value} {Z : State} (hw : ∀ d ∈ tables_1, d.before a0 Z = true) : (Jvm.Cond.methodLink "java/lang/String" (1 : Nat) ({ cls := "java/lang/Object", name := "<init>", desc := "()V" } : Jvm.MethodName)).before a0 Z = true := hw _ (List.mem_of_getElem? (i := 17) rfl)
theorem own_w18 {a0 : Array Value} {Z : State} (hw : ∀ d ∈ tables_1, d.before a0 Z = true) : (Jvm.Cond.instanceMethod ({ cls := "java/lang/Object", name := "<init>", desc := "()V" } : Jvm.MethodName)).before a0 Z = true := hw _ (List.mem_of_getElem? (i := 18) rfl)
theorem own_w19 {a0 : Array Value} {Z : State} (hw : ∀ d ∈ tables_1, d.before a0 Z = true) : (Jvm.Cond.code ({ cls := "java/lang/Object", name := "<init>", desc := "()V" } : Jvm.MethodName) object_method_1_code (1 : Nat) (Option.none : Option Jvm.ClassFile.FieldType)).before a0 Z = true := hw _ (List.mem_of_getElem? (i := 19) rfl)
theorem own_w20 {a0 : Array Value} {Z : State} (hw : ∀ d ∈ tables_1, d.before a0 Z = true) : (Jvm.Cond.fieldLink "java/lang/String" (38 : Nat) "java/lang/String" "COMPACT_STRINGS" "Z").before a0 Z = true := hw _ (List.mem_of_getElem? (i := 20) rfl)
theorem own_w21 {a0 : Array Value} {Z : State} (hw : ∀ d ∈ tables_1, d.before a0 Z = true) : (Jvm.Cond.methodLink "java/lang/String" (177 : Nat) ({ cls := "java/lang/StringUTF16", name := "compress", desc := "([CII)[B" } : Jvm.MethodName)).before a0 Z = true := hw _ (List.mem_of_getElem? (i := 21) rfl)
theorem own_w22 {a0 : Array Value} {Z : State} (hw : ∀ d ∈ tables_1, d.before a0 Z = true) : (Jvm.Cond.static ({ cls := "java/lang/StringUTF16", name := "compress", desc := "([CII)[B" } : Jvm.MethodName)).before a0 Z = true := hw _ (List.mem_of_getElem? (i := 22) rfl)
theorem own_w23 {a0 : Array Value} {Z : State} (hw : ∀ d ∈ tables_1, d.before a0 Z = true) : (Jvm.Cond.initialized "java/lang/StringUTF16").before a0 Z = true := hw _ (List.mem_of_getElem? (i := 23) rfl)
theorem own_w24 {a0 : Array Value} {Z : State} (hw : ∀ d ∈ tables_1, d.before a0 Z = true) : (Jvm.Cond.code ({ cls := "java/lang/StringUTF16", name := "compress", desc := "([CII)[B" } : Jvm.MethodName) jdk_52_method_16_code (6 : Nat) (Option.some (Jvm.ClassFile.FieldType.array Jvm.ClassFile.FieldType.byte))).before a0 Z = true := hw _ (List.mem_of_getElem? (i := 24) rfl)
theorem own_w25 {a0 : Array Value} {Z : State} (hw : ∀ d ∈ tables_1, d.before a0 Z = true) : (Jvm.Cond.arrayClass Jvm.ClassFile.FieldType.byte).before a0 Z = true := hw _ (List.mem_of_getElem? (i := 25) rfl)
theorem own_w26 {a0 : Array Value} {Z : State} (hw : ∀ d ∈ tables_1, d.before a0 Z = true) : (Jvm.Cond.methodLink "java/lang/StringUTF16" (115 : Nat) ({ cls := "java/lang/StringUTF16", name := "compress", desc := "([CI[BII)I" } : Jvm.MethodName)).before a0 Z = true := hw _ (List.mem_of_getElem? (i := 26) rfl)
theorem own_w27 {a0 : Array Value} {Z : State} (hw : ∀ d ∈ tables_1, d.before a0 Z = true) : (Jvm.Cond.static ({ cls := "java/lang/StringUTF16", name := "compress", desc := "([CI[BII)I" } : Jvm.MethodName)).before a0 Z = true := hw _ (List.mem_of_getElem? (i := 27) rfl)
theorem own_w28 {a0 : Array Value} {Z : State} (hw : ∀ d ∈ tables_1, d.before a0 Z = true) : (Jvm.Cond.code ({ cls := "java/lang/StringUTF16", name := "compress", desc := "([CI[BII)I" } : Jvm.MethodName) jdk_52_method_21_code (7 : Nat) (Option.some Jvm.ClassFile.FieldType.int)).before a0 Z = true := hw _ (List.mem_of_getElem? (i := 28) rfl)
theorem own_w29 {a0 : Array Value} {Z : State} (hw : ∀ d ∈ tables_1, d.before a0 Z = true) : (Jvm.Cond.methodLink "java/lang/String" (47 : Nat) ({ cls := "java/lang/StringUTF16", name := "coderFromArrayLen", desc := "([BI)B" } : Jvm.MethodName)).before a0 Z = true := hw _ (List.mem_of_getElem? (i := 29) rfl)
theorem own_w30 {a0 : Array Value} {Z : State} (hw : ∀ d ∈ tables_1, d.before a0 Z = true) : (Jvm.Cond.static ({ cls := "java/lang/StringUTF16", name := "coderFromArrayLen", desc := "([BI)B" } : Jvm.MethodName)).before a0 Z = true := hw _ (List.mem_of_getElem? (i := 30) rfl)
theorem own_w31 {a0 : Array Value} {Z : State} (hw : ∀ d ∈ tables_1, d.before a0 Z = true) : (Jvm.Cond.code ({ cls := "java/lang/StringUTF16", name := "coderFromArrayLen", desc := "([BI)B" } : Jvm.MethodName) jdk_52_method_15_code (2 : Nat) (Option.some Jvm.ClassFile.FieldType.byte)).before a0 Z = true := hw _ (List.mem_of_getElem? (i := 31) rfl)
theorem own_w32 {a0 : Array Value} {Z : State} (hw : ∀ d ∈ tables_1, d.before a0 Z = true) : (Jvm.Cond.fieldLink "java/lang/String" (15 : Nat) "java/lang/String" "coder" "B").before a0 Z = true := hw _ (List.mem_of_getElem? (i := 32) rfl)
theorem own_w33 {a0 : Array Value} {Z : State} (hw : ∀ d ∈ tables_1, d.before a0 Z = true) : (Jvm.Cond.laysFinal "java/lang/String" "java/lang/String" "coder" "B").before a0 Z = true := hw _ (List.mem_of_getElem? (i := 33) rfl)
theorem own_w34 {a0 : Array Value} {Z : State} (hw : ∀ d ∈ tables_1, d.before a0 Z = true) : (Jvm.Cond.fieldLink "java/lang/String" (9 : Nat) "java/lang/String" "value" "[B").before a0 Z = true := hw _ (List.mem_of_getElem? (i := 34) rfl)
theorem own_w35 {a0 : Array Value} {Z : State} (hw : ∀ d ∈ tables_1, d.before a0 Z = true) : (Jvm.Cond.laysFinal "java/lang/String" "java/lang/String" "value" "[B").before a0 Z = true := hw _ (List.mem_of_getElem? (i := 35) rfl)
theorem own_w36 {a0 : Array Value} {Z : State} (hw : ∀ d ∈ tables_1, d.before a0 Z = true) : (Jvm.Cond.methodLink "com/example/tagwire/tagwire/dtd/NamesIsWhitespacePinLaw" (20 : Nat) ({ cls := "com/example/tagwire/tagwire/dtd/NamesIsWhitespacePinLaw", name := "ws", desc := "(C)Z" } : Jvm.MethodName)).before a0 Z = true := hw _ (List.mem_of_getElem? (i := 36) rfl)
theorem own_w37 {a0 : Array Value} {Z : State} (hw : ∀ d ∈ tables_1, d.before a0 Z = true) : (Jvm.Cond.static ({ cls := "com/example/tagwire/tagwire/dtd/NamesIsWhitespacePinLaw", name := "ws", desc := "(C)Z" } : Jvm.MethodName)).before a0 Z = true := hw _ (List.mem_of_getElem? (i := 37) rfl)
theorem own_w38 {a0 : Array Value} {Z : State} (hw : ∀ d ∈ tables_1, d.before a0 Z = true) : (Jvm.Cond.code ({ cls := "com/example/tagwire/tagwire/dtd/NamesIsWhitespacePinLaw", name := "ws", desc := "(C)Z" } : Jvm.MethodName) method_3_code (2 : Nat) (Option.some Jvm.ClassFile.FieldType.boolean)).before a0 Z = true := hw _ (List.mem_of_getElem? (i := 38) rfl)
theorem own_w39 {a0 : Array Value} {Z : State} (hw : ∀ d ∈ tables_1, d.before a0 Z = true) : (Jvm.Cond.methodLink "com/example/tagwire/tagwire/dtd/NamesIsWhitespacePinLaw" (24 : Nat) ({ cls := "com/example/tagwire/tagwire/dtd/Names", name := "isWhitespace", desc := "(Ljava/lang/CharSequence;)Z" } : Jvm.MethodName)).before a0 Z = true := hw _ (List.mem_of_getElem? (i := 39) rfl)
theorem own_w40 {a0 : Array Value} {Z : State} (hw : ∀ d ∈ tables_1, d.before a0 Z = true) : (Jvm.Cond.static ({ cls := "com/example/tagwire/tagwire/dtd/Names", name := "isWhitespace", desc := "(Ljava/lang/CharSequence;)Z" } : Jvm.MethodName)).before a0 Z = true := hw _ (List.mem_of_getElem? (i := 40) rfl)
theorem own_w41 {a0 : Array Value} {Z : State} (hw : ∀ d ∈ tables_1, d.before a0 Z = true) : (Jvm.Cond.initialized "com/example/tagwire/tagwire/dtd/Names").before a0 Z = true := hw _ (List.mem_of_getElem? (i := 41) rfl)
theorem own_w42 {a0 : Array Value} {Z : State} (hw : ∀ d ∈ tables_1, d.before a0 Z = true) : (Jvm.Cond.code ({ cls := "com/example/tagwire/tagwire/dtd/Names", name := "isWhitespace", desc := "(Ljava/lang/CharSequence;)Z" } : Jvm.MethodName) prog_38_method_5_code (2 : Nat) (Option.some Jvm.ClassFile.FieldType.boolean)).before a0 Z = true := hw _ (List.mem_of_getElem? (i := 42) rfl)
theorem own_w43 {a0 : Array Value} {Z : State} (hw : ∀ d ∈ tables_1, d.before a0 Z = true) : (Jvm.Cond.methodLink "com/example/tagwire/tagwire/dtd/Names" (47 : Nat) ({ cls := "java/lang/CharSequence", name := "length", desc := "()I" } : Jvm.MethodName)).before a0 Z = true := hw _ (List.mem_of_getElem? (i := 43) rfl)
theorem own_w44 {a0 : Array Value} {Z : State} (hw : ∀ d ∈ tables_1, d.before a0 Z = true) : (Jvm.Cond.declares ({ cls := "java/lang/CharSequence", name := "length", desc := "()I" } : Jvm.MethodName)).before a0 Z = true := hw _ (List.mem_of_getElem? (i := 44) rfl)
theorem own_w45 {a0 : Array Value} {Z : State} (hw : ∀ d ∈ tables_1, d.before a0 Z = true) : (Jvm.Cond.interfaceMethod "java/lang/CharSequence" "java/lang/CharSequence" "length" "()I").before a0 Z = true := hw _ (List.mem_of_getElem? (i := 45) rfl)
theorem own_w46 {a0 : Array Value} {Z : State} (hw : ∀ d ∈ tables_1, d.before a0 Z = true) : (Jvm.Cond.selects "java/lang/String" ({ cls := "java/lang/CharSequence", name := "length", desc := "()I" } : Jvm.MethodName) ({ cls := "java/lang/String", name := "length", desc := "()I" } : Jvm.MethodName)).before a0 Z = true := hw _ (List.mem_of_getElem? (i := 46) rfl)
theorem own_w47 {a0 : Array Value} {Z : State} (hw : ∀ d ∈ tables_1, d.before a0 Z = true) : (Jvm.Cond.instanceMethod ({ cls := "java/lang/String", name := "length", desc := "()I" } : Jvm.MethodName)).before a0 Z = true := hw _ (List.mem_of_getElem? (i := 47) rfl)
theorem own_w48 {a0 : Array Value} {Z : State} (hw : ∀ d ∈ tables_1, d.before a0 Z = true) : (Jvm.Cond.publicMethod ({ cls := "java/lang/String", name := "length", desc := "()I" } : Jvm.MethodName)).before a0 Z = true := hw _ (List.mem_of_getElem? (i := 48) rfl)
theorem own_w49 {a0 : Array Value} {Z : State} (hw : ∀ d ∈ tables_1, d.before a0 Z = true) : (Jvm.Cond.unhidden "java/lang/String" "length" "()I").before a0 Z = true := hw _ (List.mem_of_getElem? (i := 49) rfl)
theorem own_w50 {a0 : Array Value} {Z : State} (hw : ∀ d ∈ tables_1, d.before a0 Z = true) : (Jvm.Cond.castable "java/lang/String" "java/lang/CharSequence").before a0 Z = true := hw _ (List.mem_of_getElem? (i := 50) rfl)
theorem own_w57 {a0 : Array Value} {Z : State} (hw : ∀ d ∈ tables_1, d.before a0 Z = true) : (Jvm.Cond.methodLink "com/example/tagwire/tagwire/dtd/Names" (50 : Nat) ({ cls := "java/lang/CharSequence", name := "charAt", desc := "(I)C" } : Jvm.MethodName)).before a0 Z = true := hw _ (List.mem_of_getElem? (i := 57) rfl)
theorem own_w58 {a0 : Array Value} {Z : State} (hw : ∀ d ∈ tables_1, d.before a0 Z = true) : (Jvm.Cond.declares ({ cls := "java/lang/CharSequence", name := "charAt", desc := "(I)C" } : Jvm.MethodName)).before a0 Z = true := hw _ (List.mem_of_getElem? (i := 58) rfl)
theorem own_w59 {a0 : Array Value} {Z : State} (hw : ∀ d ∈ tables_1, d.before a0 Z = true) : (Jvm.Cond.interfaceMethod "java/lang/CharSequence" "java/lang/CharSequence" "charAt" "(I)C").before a0 Z = true := hw _ (List.mem_of_getElem? (i := 59) rfl)
theorem own_w60 {a0 : Array Value} {Z : State} (hw : ∀ d ∈ tables_1, d.before a0 Z = true) : (Jvm.Cond.selects "java/lang/String" ({ cls := "java/lang/CharSequence", name := "charAt", desc := "(I)C" } : Jvm.MethodName) ({ cls := "java/lang/String", name := "charAt", desc := "(I)C" } : Jvm.MethodName)).before a0 Z = true := hw _ (List.mem_of_getElem? (i := 60) rfl)
theorem own_w61 {a0 : Array Value} {Z : State} (hw : ∀ d ∈ tables_1, d.before a0 Z = true) : (Jvm.Cond.instanceMethod ({ cls := "java/lang/String", name := "charAt", desc := "(I)C" } : Jvm.MethodName)).before a0 Z = true := hw _ (List.mem_of_getElem? (i := 61) rfl)
theorem own_w62 {a0 : Array Value} {Z : State} (hw : ∀ d ∈ tables_1, d.before a0 Z = true) : (Jvm.Cond.publicMethod ({ cls := "java/lang/String", name := "charAt", desc := "(I)C" } : Jvm.MethodName)).before a0 Z = true := hw _ (List.mem_of_getElem? (i := 62) rfl)
theorem own_w63 {a0 : Array Value} {Z : State} (hw : ∀ d ∈ tables_1, d.before a0 Z = true) : (Jvm.Cond.unhidden "java/lang/String" "charAt" "(I)C").before a0 Z = true := hw _ (List.mem_of_getElem? (i := 63) rfl)
theorem own_w64 {a0 : Array Value} {Z : State} (hw : ∀ d ∈ tables_1, d.before a0 Z = true) : (Jvm.Cond.code ({ cls := "java/lang/String", name := "charAt", desc := "(I)C" } : Jvm.MethodName) jdk_42_method_56_code (2 : Nat) (Option.some Jvm.ClassFile.FieldType.char)).before a0 Z = true := hw _ (List.mem_of_getElem? (i := 64) rfl)
theorem own_w65 {a0 : Array Value} {Z : State} (hw : ∀ d ∈ tables_1, d.before a0 Z = true) : (Jvm.Cond.methodLink "java/lang/String" (492 : Nat) ({ cls := "java/lang/String", name := "isLatin1", desc := "()Z" } : Jvm.MethodName)).before a0 Z = true := hw _ (List.mem_of_getElem? (i := 65) rfl)
theorem own_w66 {a0 : Array Value} {Z : State} (hw : ∀ d ∈ tables_1, d.before a0 Z = true) : (Jvm.Cond.declares ({ cls := "java/lang/String", name := "isLatin1", desc := "()Z" } : Jvm.MethodName)).before a0 Z = true := hw _ (List.mem_of_getElem? (i := 66) rfl)
theorem own_w67 {a0 : Array Value} {Z : State} (hw : ∀ d ∈ tables_1, d.before a0 Z = true) : (Jvm.Cond.instanceMethod ({ cls := "java/lang/String", name := "isLatin1", desc := "()Z" } : Jvm.MethodName)).before a0 Z = true := hw _ (List.mem_of_getElem? (i := 67) rfl)
theorem own_w68 {a0 : Array Value} {Z : State} (hw : ∀ d ∈ tables_1, d.before a0 Z = true) : (Jvm.Cond.selects "java/lang/String" ({ cls := "java/lang/String", name := "isLatin1", desc := "()Z" } : Jvm.MethodName) ({ cls := "java/lang/String", name := "isLatin1", desc := "()Z" } : Jvm.MethodName)).before a0 Z = true := hw _ (List.mem_of_getElem? (i := 68) rfl)
theorem own_w69 {a0 : Array Value} {Z : State} (hw : ∀ d ∈ tables_1, d.before a0 Z = true) : (Jvm.Cond.code ({ cls := "java/lang/String", name := "isLatin1", desc := "()Z" } : Jvm.MethodName) jdk_42_method_154_code (1 : Nat) (Option.some Jvm.ClassFile.FieldType.boolean)).before a0 Z = true := hw _ (List.mem_of_getElem? (i := 69) rfl)
theorem own_w75 {a0 : Array Value} {Z : State} (hw : ∀ d ∈ tables_1, d.before a0 Z = true) : (Jvm.Cond.static ({ cls := "java/lang/String", name := "checkIndex", desc := "(II)V" } : Jvm.MethodName)).before a0 Z = true := hw _ (List.mem_of_getElem? (i := 75) rfl)
theorem own_w76 {a0 : Array Value} {Z : State} (hw : ∀ d ∈ tables_1, d.before a0 Z = true) : (Jvm.Cond.code ({ cls := "java/lang/String", name := "checkIndex", desc := "(II)V" } : Jvm.MethodName) jdk_42_method_155_code (2 : Nat) (Option.none : Option Jvm.ClassFile.FieldType)).before a0 Z = true := hw _ (List.mem_of_getElem? (i := 76) rfl)
theorem own_w77 {a0 : Array Value} {Z : State} (hw : ∀ d ∈ tables_1, d.before a0 Z = true) : (Jvm.Cond.fieldLink "java/lang/String" (1053 : Nat) "jdk/internal/util/Preconditions" "SIOOBE_FORMATTER" "Ljava/util/function/BiFunction;").before a0 Z = true := hw _ (List.mem_of_getElem? (i := 77) rfl)
theorem own_w78 {a0 : Array Value} {Z : State} (hw : ∀ d ∈ tables_1, d.before a0 Z = true) : (Jvm.Cond.initialized "jdk/internal/util/Preconditions").before a0 Z = true := hw _ (List.mem_of_getElem? (i := 78) rfl)
theorem own_w79 {a0 : Array Value} {Z : State} (hw : ∀ d ∈ tables_1, d.before a0 Z = true) : (Jvm.Cond.methodLink "java/lang/String" (1059 : Nat) ({ cls := "jdk/internal/util/Preconditions", name := "checkIndex", desc := "(IILjava/util/function/BiFunction;)I" } : Jvm.MethodName)).before a0 Z = true := hw _ (List.mem_of_getElem? (i := 79) rfl)
theorem own_w80 {a0 : Array Value} {Z : State} (hw : ∀ d ∈ tables_1, d.before a0 Z = true) : (Jvm.Cond.static ({ cls := "jdk/internal/util/Preconditions", name := "checkIndex", desc := "(IILjava/util/function/BiFunction;)I" } : Jvm.MethodName)).before a0 Z = true := hw _ (List.mem_of_getElem? (i := 80) rfl)
theorem own_w81 {a0 : Array Value} {Z : State} (hw : ∀ d ∈ tables_1, d.before a0 Z = true) : (Jvm.Cond.code ({ cls := "jdk/internal/util/Preconditions", name := "checkIndex", desc := "(IILjava/util/function/BiFunction;)I" } : Jvm.MethodName) jdk_41_method_11_code (3 : Nat) (Option.some Jvm.ClassFile.FieldType.int)).before a0 Z = true := hw _ (List.mem_of_getElem? (i := 81) rfl)
theorem own_w82 {a0 : Array Value} {Z : State} (hw : ∀ d ∈ tables_1, d.before a0 Z = true) : (Jvm.Cond.methodLink "com/example/tagwire/tagwire/dtd/Names" (54 : Nat) ({ cls := "com/example/tagwire/tagwire/dtd/Names", name := "isWhitespace", desc := "(C)Z" } : Jvm.MethodName)).before a0 Z = true := hw _ (List.mem_of_getElem? (i := 82) rfl)
theorem own_w83 {a0 : Array Value} {Z : State} (hw : ∀ d ∈ tables_1, d.before a0 Z = true) : (Jvm.Cond.static ({ cls := "com/example/tagwire/tagwire/dtd/Names", name := "isWhitespace", desc := "(C)Z" } : Jvm.MethodName)).before a0 Z = true := hw _ (List.mem_of_getElem? (i := 83) rfl)
theorem own_w84 {a0 : Array Value} {Z : State} (hw : ∀ d ∈ tables_1, d.before a0 Z = true) : (Jvm.Cond.code ({ cls := "com/example/tagwire/tagwire/dtd/Names", name := "isWhitespace", desc := "(C)Z" } : Jvm.MethodName) prog_38_method_6_code (1 : Nat) (Option.some Jvm.ClassFile.FieldType.boolean)).before a0 Z = true := hw _ (List.mem_of_getElem? (i := 84) rfl)
theorem own_w85 {a0 : Array Value} {Z : State} (hw : ∀ d ∈ tables_1, d.before a0 Z = true) : (Jvm.Cond.stringLink "java/lang/String" (7 : Nat) "").before a0 Z = true := hw _ (List.mem_of_getElem? (i := 85) rfl)
theorem own_w88 {a0 : Array Value} {Z : State} (hw : ∀ d ∈ tables_1, d.before a0 Z = true) : (Jvm.Cond.methodLink "java/lang/StringUTF16" (119 : Nat) ({ cls := "java/lang/StringUTF16", name := "toBytes", desc := "([CII)[B" } : Jvm.MethodName)).before a0 Z = true := hw _ (List.mem_of_getElem? (i := 88) rfl)
theorem own_w89 {a0 : Array Value} {Z : State} (hw : ∀ d ∈ tables_1, d.before a0 Z = true) : (Jvm.Cond.static ({ cls := "java/lang/StringUTF16", name := "toBytes", desc := "([CII)[B" } : Jvm.MethodName)).before a0 Z = true := hw _ (List.mem_of_getElem? (i := 89) rfl)
theorem own_w90 {a0 : Array Value} {Z : State} (hw : ∀ d ∈ tables_1, d.before a0 Z = true) : (Jvm.Cond.code ({ cls := "java/lang/StringUTF16", name := "toBytes", desc := "([CII)[B" } : Jvm.MethodName) jdk_52_method_14_code (5 : Nat) (Option.some (Jvm.ClassFile.FieldType.array Jvm.ClassFile.FieldType.byte))).before a0 Z = true := hw _ (List.mem_of_getElem? (i := 90) rfl)
theorem own_w91 {a0 : Array Value} {Z : State} (hw : ∀ d ∈ tables_1, d.before a0 Z = true) : (Jvm.Cond.methodLink "java/lang/StringUTF16" (107 : Nat) ({ cls := "java/lang/StringUTF16", name := "newBytesFor", desc := "(I)[B" } : Jvm.MethodName)).before a0 Z = true := hw _ (List.mem_of_getElem? (i := 91) rfl)
theorem own_w92 {a0 : Array Value} {Z : State} (hw : ∀ d ∈ tables_1, d.before a0 Z = true) : (Jvm.Cond.static ({ cls := "java/lang/StringUTF16", name := "newBytesFor", desc := "(I)[B" } : Jvm.MethodName)).before a0 Z = true := hw _ (List.mem_of_getElem? (i := 92) rfl)
theorem own_w93 {a0 : Array Value} {Z : State} (hw : ∀ d ∈ tables_1, d.before a0 Z = true) : (Jvm.Cond.code ({ cls := "java/lang/StringUTF16", name := "newBytesFor", desc := "(I)[B" } : Jvm.MethodName) jdk_52_method_2_code (1 : Nat) (Option.some (Jvm.ClassFile.FieldType.array Jvm.ClassFile.FieldType.byte))).before a0 Z = true := hw _ (List.mem_of_getElem? (i := 93) rfl)
theorem own_w94 {a0 : Array Value} {Z : State} (hw : ∀ d ∈ tables_1, d.before a0 Z = true) : (Jvm.Cond.methodLink "java/lang/StringUTF16" (11 : Nat) ({ cls := "java/lang/StringUTF16", name := "newBytesLength", desc := "(I)I" } : Jvm.MethodName)).before a0 Z = true := hw _ (List.mem_of_getElem? (i := 94) rfl)
theorem own_w95 {a0 : Array Value} {Z : State} (hw : ∀ d ∈ tables_1, d.before a0 Z = true) : (Jvm.Cond.static ({ cls := "java/lang/StringUTF16", name := "newBytesLength", desc := "(I)I" } : Jvm.MethodName)).before a0 Z = true := hw _ (List.mem_of_getElem? (i := 95) rfl)
theorem own_w96 {a0 : Array Value} {Z : State} (hw : ∀ d ∈ tables_1, d.before a0 Z = true) : (Jvm.Cond.code ({ cls := "java/lang/StringUTF16", name := "newBytesLength", desc := "(I)I" } : Jvm.MethodName) jdk_52_method_3_code (1 : Nat) (Option.some Jvm.ClassFile.FieldType.int)).before a0 Z = true := hw _ (List.mem_of_getElem? (i := 96) rfl)
theorem own_w97 {a0 : Array Value} {Z : State} (hw : ∀ d ∈ tables_1, d.before a0 Z = true) : (Jvm.Cond.constant "java/lang/StringUTF16" (20 : Nat) (1073741823 : Int32)).before a0 Z = true := hw _ (List.mem_of_getElem? (i := 97) rfl)
theorem own_w98 {a0 : Array Value} {Z : State} (hw : ∀ d ∈ tables_1, d.before a0 Z = true) : (Jvm.Cond.methodLink "java/lang/StringUTF16" (111 : Nat) ({ cls := "java/lang/StringUTF16", name := "putChar", desc := "([BII)V" } : Jvm.MethodName)).before a0 Z = true := hw _ (List.mem_of_getElem? (i := 98) rfl)
theorem own_w99 {a0 : Array Value} {Z : State} (hw : ∀ d ∈ tables_1, d.before a0 Z = true) : (Jvm.Cond.static ({ cls := "java/lang/StringUTF16", name := "putChar", desc := "([BII)V" } : Jvm.MethodName)).before a0 Z = true := hw _ (List.mem_of_getElem? (i := 99) rfl)
theorem own_w100 {a0 : Array Value} {Z : State} (hw : ∀ d ∈ tables_1, d.before a0 Z = true) : (Jvm.Cond.code ({ cls := "java/lang/StringUTF16", name := "putChar", desc := "([BII)V" } : Jvm.MethodName) jdk_52_method_4_code (3 : Nat) (Option.none : Option Jvm.ClassFile.FieldType)).before a0 Z = true := hw _ (List.mem_of_getElem? (i := 100) rfl)
theorem own_w101 {a0 : Array Value} {Z : State} (hw : ∀ d ∈ tables_1, d.before a0 Z = true) : (Jvm.Cond.fieldLink "java/lang/StringUTF16" (44 : Nat) "java/lang/StringUTF16" "$assertionsDisabled" "Z").before a0 Z = true := hw _ (List.mem_of_getElem? (i := 101) rfl)
theorem own_w102 {a0 : Array Value} {Z : State} (hw : ∀ d ∈ tables_1, d.before a0 Z = true) : (Jvm.Cond.fieldLink "java/lang/StringUTF16" (59 : Nat) "java/lang/StringUTF16" "HI_BYTE_SHIFT" "I").before a0 Z = true := hw _ (List.mem_of_getElem? (i := 102) rfl)
theorem own_w103 {a0 : Array Value} {Z : State} (hw : ∀ d ∈ tables_1, d.before a0 Z = true) : (Jvm.Cond.fieldLink "java/lang/StringUTF16" (63 : Nat) "java/lang/StringUTF16" "LO_BYTE_SHIFT" "I").before a0 Z = true := hw _ (List.mem_of_getElem? (i := 103) rfl)
theorem own_w104 {a0 : Array Value} {Z : State} (hw : ∀ d ∈ tables_1, d.before a0 Z = true) : (Jvm.Cond.methodLink "java/lang/StringUTF16" (71 : Nat) ({ cls := "java/lang/StringUTF16", name := "getChar", desc := "([BI)C" } : Jvm.MethodName)).before a0 Z = true := hw _ (List.mem_of_getElem? (i := 104) rfl)
theorem own_w105 {a0 : Array Value} {Z : State} (hw : ∀ d ∈ tables_1, d.before a0 Z = true) : (Jvm.Cond.static ({ cls := "java/lang/StringUTF16", name := "getChar", desc := "([BI)C" } : Jvm.MethodName)).before a0 Z = true := hw _ (List.mem_of_getElem? (i := 105) rfl)
theorem own_w106 {a0 : Array Value} {Z : State} (hw : ∀ d ∈ tables_1, d.before a0 Z = true) : (Jvm.Cond.code ({ cls := "java/lang/StringUTF16", name := "getChar", desc := "([BI)C" } : Jvm.MethodName) jdk_52_method_5_code (2 : Nat) (Option.some Jvm.ClassFile.FieldType.char)).before a0 Z = true := hw _ (List.mem_of_getElem? (i := 106) rfl)
theorem own_w107 {a0 : Array Value} {Z : State} (hw : ∀ d ∈ tables_1, d.before a0 Z = true) : (Jvm.Cond.methodLink "java/lang/String" (498 : Nat) ({ cls := "java/lang/StringUTF16", name := "charAt", desc := "([BI)C" } : Jvm.MethodName)).before a0 Z = true := hw _ (List.mem_of_getElem? (i := 107) rfl)
theorem own_w108 {a0 : Array Value} {Z : State} (hw : ∀ d ∈ tables_1, d.before a0 Z = true) : (Jvm.Cond.static ({ cls := "java/lang/StringUTF16", name := "charAt", desc := "([BI)C" } : Jvm.MethodName)).before a0 Z = true := hw _ (List.mem_of_getElem? (i := 108) rfl)
theorem own_w109 {a0 : Array Value} {Z : State} (hw : ∀ d ∈ tables_1, d.before a0 Z = true) : (Jvm.Cond.code ({ cls := "java/lang/StringUTF16", name := "charAt", desc := "([BI)C" } : Jvm.MethodName) jdk_52_method_83_code (2 : Nat) (Option.some Jvm.ClassFile.FieldType.char)).before a0 Z = true := hw _ (List.mem_of_getElem? (i := 109) rfl)
theorem own_w110 {a0 : Array Value} {Z : State} (hw : ∀ d ∈ tables_1, d.before a0 Z = true) : (Jvm.Cond.methodLink "java/lang/StringUTF16" (67 : Nat) ({ cls := "java/lang/StringUTF16", name := "checkIndex", desc := "(I[B)V" } : Jvm.MethodName)).before a0 Z = true := hw _ (List.mem_of_getElem? (i := 110) rfl)
theorem own_w111 {a0 : Array Value} {Z : State} (hw : ∀ d ∈ tables_1, d.before a0 Z = true) : (Jvm.Cond.static ({ cls := "java/lang/StringUTF16", name := "checkIndex", desc := "(I[B)V" } : Jvm.MethodName)).before a0 Z = true := hw _ (List.mem_of_getElem? (i := 111) rfl)
theorem own_w112 {a0 : Array Value} {Z : State} (hw : ∀ d ∈ tables_1, d.before a0 Z = true) : (Jvm.Cond.code ({ cls := "java/lang/StringUTF16", name := "checkIndex", desc := "(I[B)V" } : Jvm.MethodName) jdk_52_method_91_code (2 : Nat) (Option.none : Option Jvm.ClassFile.FieldType)).before a0 Z = true := hw _ (List.mem_of_getElem? (i := 112) rfl)
theorem own_w113 {a0 : Array Value} {Z : State} (hw : ∀ d ∈ tables_1, d.before a0 Z = true) : (Jvm.Cond.methodLink "java/lang/StringUTF16" (48 : Nat) ({ cls := "java/lang/StringUTF16", name := "length", desc := "([B)I" } : Jvm.MethodName)).before a0 Z = true := hw _ (List.mem_of_getElem? (i := 113) rfl)
theorem own_w114 {a0 : Array Value} {Z : State} (hw : ∀ d ∈ tables_1, d.before a0 Z = true) : (Jvm.Cond.static ({ cls := "java/lang/StringUTF16", name := "length", desc := "([B)I" } : Jvm.MethodName)).before a0 Z = true := hw _ (List.mem_of_getElem? (i := 114) rfl)
theorem own_w115 {a0 : Array Value} {Z : State} (hw : ∀ d ∈ tables_1, d.before a0 Z = true) : (Jvm.Cond.code ({ cls := "java/lang/StringUTF16", name := "length", desc := "([B)I" } : Jvm.MethodName) jdk_52_method_6_code (1 : Nat) (Option.some Jvm.ClassFile.FieldType.int)).before a0 Z = true := hw _ (List.mem_of_getElem? (i := 115) rfl)
theorem own_w116 {a0 : Array Value} {Z : State} (hw : ∀ d ∈ tables_1, d.before a0 Z = true) : (Jvm.Cond.methodLink "java/lang/StringUTF16" (414 : Nat) ({ cls := "java/lang/String", name := "checkIndex", desc := "(II)V" } : Jvm.MethodName)).before a0 Z = true := hw _ (List.mem_of_getElem? (i := 116) rfl)
theorem own_pd0 : parseMethodDescriptor "(I)I" = some ⟨[.int], some .int⟩ := by decide +kernel
theorem own_pd1 : parseMethodDescriptor "(I)[B" = some ⟨[.int], some (.array .byte)⟩ := by decide +kernel
theorem own_pd2 : parseMethodDescriptor "([BII)V" = some ⟨[(.array .byte), .int, .int], none⟩ := by decide +kernel
theorem own_pd3 : parseMethodDescriptor "([CI[BII)I" = some ⟨[(.array .char), .int, (.array .byte), .int, .int], some .int⟩ := by decide +kernel
theorem own_pd4 : parseMethodDescriptor "([CII)[B" = some ⟨[(.array .char), .int, .int], some (.array .byte)⟩ := by decide +kernel
theorem own_pd5 : parseMethodDescriptor "([BI)C" = some ⟨[(.array .byte), .int], some .char⟩ := by decide +kernel
theorem own_pd6 : parseMethodDescriptor "([BI)B" = some ⟨[(.array .byte), .int], some .byte⟩ := by decide +kernel
theorem own_pd7 : parseMethodDescriptor "([CIILjava/lang/Void;)V" = some ⟨[(.array .char), .int, .int, (.object "java/lang/Void")], none⟩ := by decide +kernel
theorem own_pd8 : parseMethodDescriptor "(IILjava/util/function/BiFunction;)I" = some ⟨[.int, .int, (.object "java/util/function/BiFunction")], some .int⟩ := by decide +kernel
theorem own_pd9 : parseMethodDescriptor "([B)I" = some ⟨[(.array .byte)], some .int⟩ := by decide +kernel
theorem own_pd10 : parseMethodDescriptor "(II)V" = some ⟨[.int, .int], none⟩ := by decide +kernel
theorem own_pd11 : parseMethodDescriptor "(I[B)V" = some ⟨[.int, (.array .byte)], none⟩ := by decide +kernel
theorem own_pd12 : parseMethodDescriptor "()Z" = some ⟨[], some .boolean⟩ := by decide +kernel
theorem own_pd13 : parseMethodDescriptor "()I" = some ⟨[], some .int⟩ := by decide +kernel
theorem own_pd14 : parseMethodDescriptor "(I)C" = some ⟨[.int], some .char⟩ := by decide +kernel
theorem own_pd15 : parseMethodDescriptor "(C)Z" = some ⟨[.char], some .boolean⟩ := by decide +kernel
theorem own_pd16 : parseMethodDescriptor "([C)V" = some ⟨[(.array .char)], none⟩ := by decide +kernel
theorem own_pd17 : parseMethodDescriptor "(Ljava/lang/CharSequence;)Z" = some ⟨[(.object "java/lang/CharSequence")], some .boolean⟩ := by decide +kernel
theorem own_pf0 : parseFieldDescriptor "B" = some .byte := by decide +kernel
theorem own_pf1 : parseFieldDescriptor "[B" = some (.array .byte) := by decide +kernel
theorem own_pn0 : plainName "java/lang/StringUTF16" = true := by first | (simp [plainName, overriddenIn]; done) | decide +kernel
theorem own_pn1 : plainFor (⟨"java/lang/String", "<init>", "([CIILjava/lang/Void;)V"⟩ : MethodName) = true := by decide +kernel
theorem own_pn2 : plainFor (⟨"java/lang/String", "<init>", "([C)V"⟩ : MethodName) = true := by decide +kernel
theorem own_pn3 : plainName "jdk/internal/util/Preconditions" = true := by first | (simp [plainName, overriddenIn]; done) | decide +kernel
theorem own_pn4 : plainFor (⟨"java/lang/String", "checkIndex", "(II)V"⟩ : MethodName) = true := by decide +kernel
theorem own_pn5 : plainFor (⟨"java/lang/String", "isLatin1", "()Z"⟩ : MethodName) = true := by decide +kernel
theorem own_pn6 : plainFor (⟨"java/lang/String", "charAt", "(I)C"⟩ : MethodName) = true := by decide +kernel
theorem own_pn7 : plainName "com/example/tagwire/tagwire/dtd/Names" = true := by first | (simp [plainName, overriddenIn]; done) | decide +kernel
theorem own_pn8 : plainName "com/example/tagwire/tagwire/dtd/NamesIsWhitespacePinLaw" = true := by first | (simp [plainName, overriddenIn]; done) | decide +kernel
theorem own_d1_0 : decode method_2_code 0 = .ok (.iload_n 0, 1) := by decide +kernel
theorem own_d1_1 : decode method_2_code 1 = .ok (.ldc 7, 2) := by decide +kernel
theorem own_d1_3 : decode method_2_code 3 = .ok (.iand, 1) := by decide +kernel
theorem own_d1_4 : decode method_2_code 4 = .ok (.ifCond .eq 33, 3) := by decide +kernel
theorem own_d1_7 : decode method_2_code 7 = .ok (.iload_n 0, 1) := by decide +kernel
theorem own_d1_8 : decode method_2_code 8 = .ok (.iconst 3, 1) := by decide +kernel
theorem own_d1_9 : decode method_2_code 9 = .ok (.iand, 1) := by decide +kernel
theorem own_d1_10 : decode method_2_code 10 = .ok (.istore_n 1, 1) := by decide +kernel
theorem own_d1_11 : decode method_2_code 11 = .ok (.iload_n 1, 1) := by decide +kernel
theorem own_d1_12 : decode method_2_code 12 = .ok (.ifCond .ne 6, 3) := by decide +kernel
theorem own_d1_15 : decode method_2_code 15 = .ok (.bipush 32, 2) := by decide +kernel
theorem own_d1_17 : decode method_2_code 17 = .ok (.ireturn, 1) := by decide +kernel
theorem own_d1_18 : decode method_2_code 18 = .ok (.iload_n 1, 1) := by decide +kernel
theorem own_d1_19 : decode method_2_code 19 = .ok (.iconst 1, 1) := by decide +kernel
theorem own_d1_20 : decode method_2_code 20 = .ok (.if_icmp .ne 6, 3) := by decide +kernel
theorem own_d1_23 : decode method_2_code 23 = .ok (.bipush 9, 2) := by decide +kernel
theorem own_d1_25 : decode method_2_code 25 = .ok (.ireturn, 1) := by decide +kernel
theorem own_d1_26 : decode method_2_code 26 = .ok (.iload_n 1, 1) := by decide +kernel
theorem own_d1_27 : decode method_2_code 27 = .ok (.iconst 2, 1) := by decide +kernel
theorem own_d1_28 : decode method_2_code 28 = .ok (.if_icmp .ne 6, 3) := by decide +kernel
theorem own_d1_31 : decode method_2_code 31 = .ok (.bipush 13, 2) := by decide +kernel
theorem own_d1_33 : decode method_2_code 33 = .ok (.ireturn, 1) := by decide +kernel
theorem own_d1_34 : decode method_2_code 34 = .ok (.bipush 10, 2) := by decide +kernel
theorem own_d1_36 : decode method_2_code 36 = .ok (.ireturn, 1) := by decide +kernel
theorem own_d1_37 : decode method_2_code 37 = .ok (.iload_n 0, 1) := by decide +kernel
theorem own_d1_38 : decode method_2_code 38 = .ok (.ldc 8, 2) := by decide +kernel
theorem own_d1_40 : decode method_2_code 40 = .ok (.iand, 1) := by decide +kernel
theorem own_d1_41 : decode method_2_code 41 = .ok (.i2c, 1) := by decide +kernel
theorem own_d1_42 : decode method_2_code 42 = .ok (.ireturn, 1) := by decide +kernel
theorem own_d2_0 : decode jdk_42_method_3_code 0 = .ok (.aload_n 0, 1) := by decide +kernel
theorem own_d2_1 : decode jdk_42_method_3_code 1 = .ok (.aload_n 1, 1) := by decide +kernel
theorem own_d2_2 : decode jdk_42_method_3_code 2 = .ok (.iconst 0, 1) := by decide +kernel
theorem own_d2_3 : decode jdk_42_method_3_code 3 = .ok (.aload_n 1, 1) := by decide +kernel
theorem own_d2_4 : decode jdk_42_method_3_code 4 = .ok (.arraylength, 1) := by decide +kernel
theorem own_d2_5 : decode jdk_42_method_3_code 5 = .ok (.aconst_null, 1) := by decide +kernel
theorem own_d2_6 : decode jdk_42_method_3_code 6 = .ok (.invokespecial 27, 3) := by decide +kernel
theorem own_d2_9 : decode jdk_42_method_3_code 9 = .ok (.return_, 1) := by decide +kernel
theorem own_d3_0 : decode jdk_42_method_149_code 0 = .ok (.aload_n 0, 1) := by decide +kernel
theorem own_d3_1 : decode jdk_42_method_149_code 1 = .ok (.invokespecial 1, 3) := by decide +kernel
theorem own_d3_4 : decode jdk_42_method_149_code 4 = .ok (.iload_n 3, 1) := by decide +kernel
theorem own_d3_5 : decode jdk_42_method_149_code 5 = .ok (.ifCond .ne 22, 3) := by decide +kernel
theorem own_d3_8 : decode jdk_42_method_149_code 8 = .ok (.aload_n 0, 1) := by decide +kernel
theorem own_d3_9 : decode jdk_42_method_149_code 9 = .ok (.ldc 7, 2) := by decide +kernel
theorem own_d3_11 : decode jdk_42_method_149_code 11 = .ok (.getfield 9, 3) := by decide +kernel
theorem own_d3_14 : decode jdk_42_method_149_code 14 = .ok (.putfield 9, 3) := by decide +kernel
theorem own_d3_17 : decode jdk_42_method_149_code 17 = .ok (.aload_n 0, 1) := by decide +kernel
theorem own_d3_18 : decode jdk_42_method_149_code 18 = .ok (.ldc 7, 2) := by decide +kernel
theorem own_d3_20 : decode jdk_42_method_149_code 20 = .ok (.getfield 15, 3) := by decide +kernel
theorem own_d3_23 : decode jdk_42_method_149_code 23 = .ok (.putfield 15, 3) := by decide +kernel
theorem own_d3_26 : decode jdk_42_method_149_code 26 = .ok (.return_, 1) := by decide +kernel
theorem own_d3_27 : decode jdk_42_method_149_code 27 = .ok (.getstatic 38, 3) := by decide +kernel
theorem own_d3_30 : decode jdk_42_method_149_code 30 = .ok (.ifCond .eq 28, 3) := by decide +kernel
theorem own_d3_33 : decode jdk_42_method_149_code 33 = .ok (.aload_n 1, 1) := by decide +kernel
theorem own_d3_34 : decode jdk_42_method_149_code 34 = .ok (.iload_n 2, 1) := by decide +kernel
theorem own_d3_35 : decode jdk_42_method_149_code 35 = .ok (.iload_n 3, 1) := by decide +kernel
theorem own_d3_36 : decode jdk_42_method_149_code 36 = .ok (.invokestatic 177, 3) := by decide +kernel
theorem own_d3_39 : decode jdk_42_method_149_code 39 = .ok (.astore 5, 2) := by decide +kernel
theorem own_d3_41 : decode jdk_42_method_149_code 41 = .ok (.aload_n 0, 1) := by decide +kernel
theorem own_d3_42 : decode jdk_42_method_149_code 42 = .ok (.aload 5, 2) := by decide +kernel
theorem own_d3_44 : decode jdk_42_method_149_code 44 = .ok (.iload_n 3, 1) := by decide +kernel
theorem own_d3_45 : decode jdk_42_method_149_code 45 = .ok (.invokestatic 47, 3) := by decide +kernel
theorem own_d3_48 : decode jdk_42_method_149_code 48 = .ok (.putfield 15, 3) := by decide +kernel
theorem own_d3_51 : decode jdk_42_method_149_code 51 = .ok (.aload_n 0, 1) := by decide +kernel
theorem own_d3_52 : decode jdk_42_method_149_code 52 = .ok (.aload 5, 2) := by decide +kernel
theorem own_d3_54 : decode jdk_42_method_149_code 54 = .ok (.putfield 9, 3) := by decide +kernel
theorem own_d3_57 : decode jdk_42_method_149_code 57 = .ok (.return_, 1) := by decide +kernel
theorem own_d5_0 : decode jdk_52_method_16_code 0 = .ok (.iload_n 2, 1) := by decide +kernel
theorem own_d5_1 : decode jdk_52_method_16_code 1 = .ok (.newarray .byte, 2) := by decide +kernel
theorem own_d5_3 : decode jdk_52_method_16_code 3 = .ok (.astore_n 3, 1) := by decide +kernel
theorem own_d5_4 : decode jdk_52_method_16_code 4 = .ok (.aload_n 0, 1) := by decide +kernel
theorem own_d5_5 : decode jdk_52_method_16_code 5 = .ok (.iload_n 1, 1) := by decide +kernel
theorem own_d5_6 : decode jdk_52_method_16_code 6 = .ok (.aload_n 3, 1) := by decide +kernel
theorem own_d5_7 : decode jdk_52_method_16_code 7 = .ok (.iconst 0, 1) := by decide +kernel
theorem own_d5_8 : decode jdk_52_method_16_code 8 = .ok (.iload_n 2, 1) := by decide +kernel
theorem own_d5_9 : decode jdk_52_method_16_code 9 = .ok (.invokestatic 115, 3) := by decide +kernel
theorem own_d5_12 : decode jdk_52_method_16_code 12 = .ok (.istore 4, 2) := by decide +kernel
theorem own_d5_14 : decode jdk_52_method_16_code 14 = .ok (.iload 4, 2) := by decide +kernel
theorem own_d5_16 : decode jdk_52_method_16_code 16 = .ok (.iload_n 2, 1) := by decide +kernel
theorem own_d5_17 : decode jdk_52_method_16_code 17 = .ok (.if_icmp .eq 40, 3) := by decide +kernel
theorem own_d5_20 : decode jdk_52_method_16_code 20 = .ok (.aload_n 0, 1) := by decide +kernel
theorem own_d5_21 : decode jdk_52_method_16_code 21 = .ok (.iload_n 1, 1) := by decide +kernel
theorem own_d5_22 : decode jdk_52_method_16_code 22 = .ok (.iload_n 2, 1) := by decide +kernel
theorem own_d5_23 : decode jdk_52_method_16_code 23 = .ok (.invokestatic 119, 3) := by decide +kernel
theorem own_d5_26 : decode jdk_52_method_16_code 26 = .ok (.astore 5, 2) := by decide +kernel
theorem own_d5_28 : decode jdk_52_method_16_code 28 = .ok (.aload 5, 2) := by decide +kernel
theorem own_d5_30 : decode jdk_52_method_16_code 30 = .ok (.iload 4, 2) := by decide +kernel
theorem own_d5_32 : decode jdk_52_method_16_code 32 = .ok (.invokestatic 71, 3) := by decide +kernel
theorem own_d5_35 : decode jdk_52_method_16_code 35 = .ok (.sipush 255, 3) := by decide +kernel
theorem own_d5_38 : decode jdk_52_method_16_code 38 = .ok (.if_icmp .gt 16, 3) := by decide +kernel
theorem own_d5_54 : decode jdk_52_method_16_code 54 = .ok (.aload 5, 2) := by decide +kernel
theorem own_d5_56 : decode jdk_52_method_16_code 56 = .ok (.areturn, 1) := by decide +kernel
theorem own_d6_0 : decode jdk_52_method_21_code 0 = .ok (.iconst 0, 1) := by decide +kernel
theorem own_d6_1 : decode jdk_52_method_21_code 1 = .ok (.istore 5, 2) := by decide +kernel
theorem own_d6_3 : decode jdk_52_method_21_code 3 = .ok (.iload 5, 2) := by decide +kernel
theorem own_d6_5 : decode jdk_52_method_21_code 5 = .ok (.iload 4, 2) := by decide +kernel
theorem own_d6_7 : decode jdk_52_method_21_code 7 = .ok (.if_icmp .ge 37, 3) := by decide +kernel
theorem own_d6_10 : decode jdk_52_method_21_code 10 = .ok (.aload_n 0, 1) := by decide +kernel
theorem own_d6_11 : decode jdk_52_method_21_code 11 = .ok (.iload_n 1, 1) := by decide +kernel
theorem own_d6_12 : decode jdk_52_method_21_code 12 = .ok (.caload, 1) := by decide +kernel
theorem own_d6_13 : decode jdk_52_method_21_code 13 = .ok (.istore 6, 2) := by decide +kernel
theorem own_d6_15 : decode jdk_52_method_21_code 15 = .ok (.iload 6, 2) := by decide +kernel
theorem own_d6_17 : decode jdk_52_method_21_code 17 = .ok (.sipush 255, 3) := by decide +kernel
theorem own_d6_20 : decode jdk_52_method_21_code 20 = .ok (.if_icmp .le 6, 3) := by decide +kernel
theorem own_d6_23 : decode jdk_52_method_21_code 23 = .ok (.iload 5, 2) := by decide +kernel
theorem own_d6_25 : decode jdk_52_method_21_code 25 = .ok (.ireturn, 1) := by decide +kernel
theorem own_d6_26 : decode jdk_52_method_21_code 26 = .ok (.aload_n 2, 1) := by decide +kernel
theorem own_d6_27 : decode jdk_52_method_21_code 27 = .ok (.iload_n 3, 1) := by decide +kernel
theorem own_d6_28 : decode jdk_52_method_21_code 28 = .ok (.iload 6, 2) := by decide +kernel
theorem own_d6_30 : decode jdk_52_method_21_code 30 = .ok (.i2b, 1) := by decide +kernel
theorem own_d6_31 : decode jdk_52_method_21_code 31 = .ok (.bastore, 1) := by decide +kernel
theorem own_d6_32 : decode jdk_52_method_21_code 32 = .ok (.iinc 1 1, 3) := by decide +kernel
theorem own_d6_35 : decode jdk_52_method_21_code 35 = .ok (.iinc 3 1, 3) := by decide +kernel
theorem own_d6_38 : decode jdk_52_method_21_code 38 = .ok (.iinc 5 1, 3) := by decide +kernel
theorem own_d6_41 : decode jdk_52_method_21_code 41 = .ok (.goto (-38), 3) := by decide +kernel
theorem own_d7_0 : decode jdk_52_method_15_code 0 = .ok (.iload_n 1, 1) := by decide +kernel
theorem own_d7_1 : decode jdk_52_method_15_code 1 = .ok (.aload_n 0, 1) := by decide +kernel
theorem own_d7_2 : decode jdk_52_method_15_code 2 = .ok (.arraylength, 1) := by decide +kernel
theorem own_d7_3 : decode jdk_52_method_15_code 3 = .ok (.isub, 1) := by decide +kernel
theorem own_d7_4 : decode jdk_52_method_15_code 4 = .ok (.bipush 31, 2) := by decide +kernel
theorem own_d7_6 : decode jdk_52_method_15_code 6 = .ok (.iushr, 1) := by decide +kernel
theorem own_d7_7 : decode jdk_52_method_15_code 7 = .ok (.i2b, 1) := by decide +kernel
theorem own_d7_8 : decode jdk_52_method_15_code 8 = .ok (.ireturn, 1) := by decide +kernel
theorem own_d8_0 : decode method_3_code 0 = .ok (.iload_n 0, 1) := by decide +kernel
theorem own_d8_1 : decode method_3_code 1 = .ok (.istore_n 1, 1) := by decide +kernel
theorem own_d8_2 : decode method_3_code 2 = .ok (.iload_n 1, 1) := by decide +kernel
theorem own_d8_3 : decode method_3_code 3 = .ok (.bipush 32, 2) := by decide +kernel
theorem own_d8_5 : decode method_3_code 5 = .ok (.if_icmp .eq 21, 3) := by decide +kernel
theorem own_d8_8 : decode method_3_code 8 = .ok (.iload_n 1, 1) := by decide +kernel
theorem own_d8_9 : decode method_3_code 9 = .ok (.bipush 9, 2) := by decide +kernel
theorem own_d8_11 : decode method_3_code 11 = .ok (.if_icmp .eq 15, 3) := by decide +kernel
theorem own_d8_14 : decode method_3_code 14 = .ok (.iload_n 1, 1) := by decide +kernel
theorem own_d8_15 : decode method_3_code 15 = .ok (.bipush 13, 2) := by decide +kernel
theorem own_d8_17 : decode method_3_code 17 = .ok (.if_icmp .eq 9, 3) := by decide +kernel
theorem own_d8_20 : decode method_3_code 20 = .ok (.iload_n 1, 1) := by decide +kernel
theorem own_d8_21 : decode method_3_code 21 = .ok (.bipush 10, 2) := by decide +kernel
theorem own_d8_23 : decode method_3_code 23 = .ok (.if_icmp .ne 7, 3) := by decide +kernel
theorem own_d8_26 : decode method_3_code 26 = .ok (.iconst 1, 1) := by decide +kernel
theorem own_d8_27 : decode method_3_code 27 = .ok (.goto 4, 3) := by decide +kernel
theorem own_d8_30 : decode method_3_code 30 = .ok (.iconst 0, 1) := by decide +kernel
theorem own_d8_31 : decode method_3_code 31 = .ok (.ireturn, 1) := by decide +kernel
theorem own_d9_0 : decode prog_38_method_5_code 0 = .ok (.iconst 0, 1) := by decide +kernel
theorem own_d9_1 : decode prog_38_method_5_code 1 = .ok (.istore_n 1, 1) := by decide +kernel
theorem own_d9_2 : decode prog_38_method_5_code 2 = .ok (.iload_n 1, 1) := by decide +kernel
theorem own_d9_3 : decode prog_38_method_5_code 3 = .ok (.aload_n 0, 1) := by decide +kernel
theorem own_d9_4 : decode prog_38_method_5_code 4 = .ok (.invokeinterface 47 1, 5) := by decide +kernel
theorem own_d9_9 : decode prog_38_method_5_code 9 = .ok (.if_icmp .ge 24, 3) := by decide +kernel
theorem own_d9_12 : decode prog_38_method_5_code 12 = .ok (.aload_n 0, 1) := by decide +kernel
theorem own_d9_13 : decode prog_38_method_5_code 13 = .ok (.iload_n 1, 1) := by decide +kernel
theorem own_d9_14 : decode prog_38_method_5_code 14 = .ok (.invokeinterface 50 2, 5) := by decide +kernel
theorem own_d9_19 : decode prog_38_method_5_code 19 = .ok (.invokestatic 54, 3) := by decide +kernel
theorem own_d9_22 : decode prog_38_method_5_code 22 = .ok (.ifCond .ne 5, 3) := by decide +kernel
theorem own_d9_25 : decode prog_38_method_5_code 25 = .ok (.iconst 0, 1) := by decide +kernel
theorem own_d9_26 : decode prog_38_method_5_code 26 = .ok (.ireturn, 1) := by decide +kernel
theorem own_d9_27 : decode prog_38_method_5_code 27 = .ok (.iinc 1 1, 3) := by decide +kernel
theorem own_d9_30 : decode prog_38_method_5_code 30 = .ok (.goto (-28), 3) := by decide +kernel
theorem own_d9_33 : decode prog_38_method_5_code 33 = .ok (.iconst 1, 1) := by decide +kernel
theorem own_d9_34 : decode prog_38_method_5_code 34 = .ok (.ireturn, 1) := by decide +kernel
theorem own_d12_0 : decode jdk_42_method_56_code 0 = .ok (.aload_n 0, 1) := by decide +kernel
theorem own_d12_1 : decode jdk_42_method_56_code 1 = .ok (.invokevirtual 492, 3) := by decide +kernel
theorem own_d12_4 : decode jdk_42_method_56_code 4 = .ok (.ifCond .eq 12, 3) := by decide +kernel
theorem own_d12_16 : decode jdk_42_method_56_code 16 = .ok (.aload_n 0, 1) := by decide +kernel
theorem own_d12_17 : decode jdk_42_method_56_code 17 = .ok (.getfield 9, 3) := by decide +kernel
theorem own_d12_20 : decode jdk_42_method_56_code 20 = .ok (.iload_n 1, 1) := by decide +kernel
theorem own_d12_21 : decode jdk_42_method_56_code 21 = .ok (.invokestatic 498, 3) := by decide +kernel
theorem own_d12_24 : decode jdk_42_method_56_code 24 = .ok (.ireturn, 1) := by decide +kernel
theorem own_d13_0 : decode jdk_42_method_154_code 0 = .ok (.getstatic 38, 3) := by decide +kernel
theorem own_d13_3 : decode jdk_42_method_154_code 3 = .ok (.ifCond .eq 14, 3) := by decide +kernel
theorem own_d13_6 : decode jdk_42_method_154_code 6 = .ok (.aload_n 0, 1) := by decide +kernel
theorem own_d13_7 : decode jdk_42_method_154_code 7 = .ok (.getfield 15, 3) := by decide +kernel
theorem own_d13_10 : decode jdk_42_method_154_code 10 = .ok (.ifCond .ne 7, 3) := by decide +kernel
theorem own_d13_17 : decode jdk_42_method_154_code 17 = .ok (.iconst 0, 1) := by decide +kernel
theorem own_d13_18 : decode jdk_42_method_154_code 18 = .ok (.ireturn, 1) := by decide +kernel
theorem own_d15_0 : decode jdk_42_method_155_code 0 = .ok (.iload_n 0, 1) := by decide +kernel
theorem own_d15_1 : decode jdk_42_method_155_code 1 = .ok (.iload_n 1, 1) := by decide +kernel
theorem own_d15_2 : decode jdk_42_method_155_code 2 = .ok (.getstatic 1053, 3) := by decide +kernel
theorem own_d15_5 : decode jdk_42_method_155_code 5 = .ok (.invokestatic 1059, 3) := by decide +kernel
theorem own_d15_8 : decode jdk_42_method_155_code 8 = .ok (.pop, 1) := by decide +kernel
theorem own_d15_9 : decode jdk_42_method_155_code 9 = .ok (.return_, 1) := by decide +kernel
theorem own_d16_0 : decode jdk_41_method_11_code 0 = .ok (.iload_n 0, 1) := by decide +kernel
theorem own_d16_1 : decode jdk_41_method_11_code 1 = .ok (.ifCond .lt 8, 3) := by decide +kernel
theorem own_d16_4 : decode jdk_41_method_11_code 4 = .ok (.iload_n 0, 1) := by decide +kernel
theorem own_d16_5 : decode jdk_41_method_11_code 5 = .ok (.iload_n 1, 1) := by decide +kernel
theorem own_d16_6 : decode jdk_41_method_11_code 6 = .ok (.if_icmp .lt 10, 3) := by decide +kernel
theorem own_d16_16 : decode jdk_41_method_11_code 16 = .ok (.iload_n 0, 1) := by decide +kernel
theorem own_d16_17 : decode jdk_41_method_11_code 17 = .ok (.ireturn, 1) := by decide +kernel
theorem own_d17_0 : decode prog_38_method_6_code 0 = .ok (.iload_n 0, 1) := by decide +kernel
theorem own_d17_1 : decode prog_38_method_6_code 1 = .ok (.bipush 32, 2) := by decide +kernel
theorem own_d17_3 : decode prog_38_method_6_code 3 = .ok (.if_icmp .eq 21, 3) := by decide +kernel
theorem own_d17_6 : decode prog_38_method_6_code 6 = .ok (.iload_n 0, 1) := by decide +kernel
theorem own_d17_7 : decode prog_38_method_6_code 7 = .ok (.bipush 9, 2) := by decide +kernel
theorem own_d17_9 : decode prog_38_method_6_code 9 = .ok (.if_icmp .eq 15, 3) := by decide +kernel
theorem own_d17_12 : decode prog_38_method_6_code 12 = .ok (.iload_n 0, 1) := by decide +kernel
theorem own_d17_13 : decode prog_38_method_6_code 13 = .ok (.bipush 13, 2) := by decide +kernel
theorem own_d17_15 : decode prog_38_method_6_code 15 = .ok (.if_icmp .eq 9, 3) := by decide +kernel
theorem own_d17_18 : decode prog_38_method_6_code 18 = .ok (.iload_n 0, 1) := by decide +kernel
theorem own_d17_19 : decode prog_38_method_6_code 19 = .ok (.bipush 10, 2) := by decide +kernel
theorem own_d17_21 : decode prog_38_method_6_code 21 = .ok (.if_icmp .ne 7, 3) := by decide +kernel
theorem own_d17_24 : decode prog_38_method_6_code 24 = .ok (.iconst 1, 1) := by decide +kernel
theorem own_d17_25 : decode prog_38_method_6_code 25 = .ok (.goto 4, 3) := by decide +kernel
theorem own_d17_28 : decode prog_38_method_6_code 28 = .ok (.iconst 0, 1) := by decide +kernel
theorem own_d17_29 : decode prog_38_method_6_code 29 = .ok (.ireturn, 1) := by decide +kernel
theorem own_d18_0 : decode jdk_52_method_14_code 0 = .ok (.iload_n 2, 1) := by decide +kernel
theorem own_d18_1 : decode jdk_52_method_14_code 1 = .ok (.invokestatic 107, 3) := by decide +kernel
theorem own_d18_4 : decode jdk_52_method_14_code 4 = .ok (.astore_n 3, 1) := by decide +kernel
theorem own_d18_5 : decode jdk_52_method_14_code 5 = .ok (.iconst 0, 1) := by decide +kernel
theorem own_d18_6 : decode jdk_52_method_14_code 6 = .ok (.istore 4, 2) := by decide +kernel
theorem own_d18_8 : decode jdk_52_method_14_code 8 = .ok (.iload 4, 2) := by decide +kernel
theorem own_d18_10 : decode jdk_52_method_14_code 10 = .ok (.iload_n 2, 1) := by decide +kernel
theorem own_d18_11 : decode jdk_52_method_14_code 11 = .ok (.if_icmp .ge 21, 3) := by decide +kernel
theorem own_d18_14 : decode jdk_52_method_14_code 14 = .ok (.aload_n 3, 1) := by decide +kernel
theorem own_d18_15 : decode jdk_52_method_14_code 15 = .ok (.iload 4, 2) := by decide +kernel
theorem own_d18_17 : decode jdk_52_method_14_code 17 = .ok (.aload_n 0, 1) := by decide +kernel
theorem own_d18_18 : decode jdk_52_method_14_code 18 = .ok (.iload_n 1, 1) := by decide +kernel
theorem own_d18_19 : decode jdk_52_method_14_code 19 = .ok (.caload, 1) := by decide +kernel
theorem own_d18_20 : decode jdk_52_method_14_code 20 = .ok (.invokestatic 111, 3) := by decide +kernel
theorem own_d18_23 : decode jdk_52_method_14_code 23 = .ok (.iinc 1 1, 3) := by decide +kernel
theorem own_d18_26 : decode jdk_52_method_14_code 26 = .ok (.iinc 4 1, 3) := by decide +kernel
theorem own_d18_29 : decode jdk_52_method_14_code 29 = .ok (.goto (-21), 3) := by decide +kernel
theorem own_d18_32 : decode jdk_52_method_14_code 32 = .ok (.aload_n 3, 1) := by decide +kernel
theorem own_d18_33 : decode jdk_52_method_14_code 33 = .ok (.areturn, 1) := by decide +kernel
theorem own_d19_0 : decode jdk_52_method_2_code 0 = .ok (.iload_n 0, 1) := by decide +kernel
theorem own_d19_1 : decode jdk_52_method_2_code 1 = .ok (.invokestatic 11, 3) := by decide +kernel
theorem own_d19_4 : decode jdk_52_method_2_code 4 = .ok (.newarray .byte, 2) := by decide +kernel
theorem own_d19_6 : decode jdk_52_method_2_code 6 = .ok (.areturn, 1) := by decide +kernel
theorem own_d20_0 : decode jdk_52_method_3_code 0 = .ok (.iload_n 0, 1) := by decide +kernel
theorem own_d20_1 : decode jdk_52_method_3_code 1 = .ok (.ifCond .ge 11, 3) := by decide +kernel
theorem own_d20_12 : decode jdk_52_method_3_code 12 = .ok (.iload_n 0, 1) := by decide +kernel
theorem own_d20_13 : decode jdk_52_method_3_code 13 = .ok (.ldc 20, 2) := by decide +kernel
theorem own_d20_15 : decode jdk_52_method_3_code 15 = .ok (.if_icmp .lt 40, 3) := by decide +kernel
theorem own_d20_55 : decode jdk_52_method_3_code 55 = .ok (.iload_n 0, 1) := by decide +kernel
theorem own_d20_56 : decode jdk_52_method_3_code 56 = .ok (.iconst 1, 1) := by decide +kernel
theorem own_d20_57 : decode jdk_52_method_3_code 57 = .ok (.ishl, 1) := by decide +kernel
theorem own_d20_58 : decode jdk_52_method_3_code 58 = .ok (.ireturn, 1) := by decide +kernel
theorem own_d21_0 : decode jdk_52_method_4_code 0 = .ok (.getstatic 44, 3) := by decide +kernel
theorem own_d21_3 : decode jdk_52_method_4_code 3 = .ok (.ifCond .ne 25, 3) := by decide +kernel
theorem own_d21_28 : decode jdk_52_method_4_code 28 = .ok (.iload_n 1, 1) := by decide +kernel
theorem own_d21_29 : decode jdk_52_method_4_code 29 = .ok (.iconst 1, 1) := by decide +kernel
theorem own_d21_30 : decode jdk_52_method_4_code 30 = .ok (.ishl, 1) := by decide +kernel
theorem own_d21_31 : decode jdk_52_method_4_code 31 = .ok (.istore_n 1, 1) := by decide +kernel
theorem own_d21_32 : decode jdk_52_method_4_code 32 = .ok (.aload_n 0, 1) := by decide +kernel
theorem own_d21_33 : decode jdk_52_method_4_code 33 = .ok (.iload_n 1, 1) := by decide +kernel
theorem own_d21_34 : decode jdk_52_method_4_code 34 = .ok (.iinc 1 1, 3) := by decide +kernel
theorem own_d21_37 : decode jdk_52_method_4_code 37 = .ok (.iload_n 2, 1) := by decide +kernel
theorem own_d21_38 : decode jdk_52_method_4_code 38 = .ok (.getstatic 59, 3) := by decide +kernel
theorem own_d21_41 : decode jdk_52_method_4_code 41 = .ok (.ishr, 1) := by decide +kernel
theorem own_d21_42 : decode jdk_52_method_4_code 42 = .ok (.i2b, 1) := by decide +kernel
theorem own_d21_43 : decode jdk_52_method_4_code 43 = .ok (.bastore, 1) := by decide +kernel
theorem own_d21_44 : decode jdk_52_method_4_code 44 = .ok (.aload_n 0, 1) := by decide +kernel
theorem own_d21_45 : decode jdk_52_method_4_code 45 = .ok (.iload_n 1, 1) := by decide +kernel
theorem own_d21_46 : decode jdk_52_method_4_code 46 = .ok (.iload_n 2, 1) := by decide +kernel
theorem own_d21_47 : decode jdk_52_method_4_code 47 = .ok (.getstatic 63, 3) := by decide +kernel
theorem own_d21_50 : decode jdk_52_method_4_code 50 = .ok (.ishr, 1) := by decide +kernel
theorem own_d21_51 : decode jdk_52_method_4_code 51 = .ok (.i2b, 1) := by decide +kernel
theorem own_d21_52 : decode jdk_52_method_4_code 52 = .ok (.bastore, 1) := by decide +kernel
theorem own_d21_53 : decode jdk_52_method_4_code 53 = .ok (.return_, 1) := by decide +kernel
theorem own_d22_0 : decode jdk_52_method_5_code 0 = .ok (.getstatic 44, 3) := by decide +kernel
theorem own_d22_3 : decode jdk_52_method_5_code 3 = .ok (.ifCond .ne 25, 3) := by decide +kernel
theorem own_d22_28 : decode jdk_52_method_5_code 28 = .ok (.iload_n 1, 1) := by decide +kernel
theorem own_d22_29 : decode jdk_52_method_5_code 29 = .ok (.iconst 1, 1) := by decide +kernel
theorem own_d22_30 : decode jdk_52_method_5_code 30 = .ok (.ishl, 1) := by decide +kernel
theorem own_d22_31 : decode jdk_52_method_5_code 31 = .ok (.istore_n 1, 1) := by decide +kernel
theorem own_d22_32 : decode jdk_52_method_5_code 32 = .ok (.aload_n 0, 1) := by decide +kernel
theorem own_d22_33 : decode jdk_52_method_5_code 33 = .ok (.iload_n 1, 1) := by decide +kernel
theorem own_d22_34 : decode jdk_52_method_5_code 34 = .ok (.iinc 1 1, 3) := by decide +kernel
theorem own_d22_37 : decode jdk_52_method_5_code 37 = .ok (.baload, 1) := by decide +kernel
theorem own_d22_38 : decode jdk_52_method_5_code 38 = .ok (.sipush 255, 3) := by decide +kernel
theorem own_d22_41 : decode jdk_52_method_5_code 41 = .ok (.iand, 1) := by decide +kernel
theorem own_d22_42 : decode jdk_52_method_5_code 42 = .ok (.getstatic 59, 3) := by decide +kernel
theorem own_d22_45 : decode jdk_52_method_5_code 45 = .ok (.ishl, 1) := by decide +kernel
theorem own_d22_46 : decode jdk_52_method_5_code 46 = .ok (.aload_n 0, 1) := by decide +kernel
theorem own_d22_47 : decode jdk_52_method_5_code 47 = .ok (.iload_n 1, 1) := by decide +kernel
theorem own_d22_48 : decode jdk_52_method_5_code 48 = .ok (.baload, 1) := by decide +kernel
theorem own_d22_49 : decode jdk_52_method_5_code 49 = .ok (.sipush 255, 3) := by decide +kernel
theorem own_d22_52 : decode jdk_52_method_5_code 52 = .ok (.iand, 1) := by decide +kernel
theorem own_d22_53 : decode jdk_52_method_5_code 53 = .ok (.getstatic 63, 3) := by decide +kernel
theorem own_d22_56 : decode jdk_52_method_5_code 56 = .ok (.ishl, 1) := by decide +kernel
theorem own_d22_57 : decode jdk_52_method_5_code 57 = .ok (.ior, 1) := by decide +kernel
theorem own_d22_58 : decode jdk_52_method_5_code 58 = .ok (.i2c, 1) := by decide +kernel
theorem own_d22_59 : decode jdk_52_method_5_code 59 = .ok (.ireturn, 1) := by decide +kernel
theorem own_d23_0 : decode jdk_52_method_83_code 0 = .ok (.iload_n 1, 1) := by decide +kernel
theorem own_d23_1 : decode jdk_52_method_83_code 1 = .ok (.aload_n 0, 1) := by decide +kernel
theorem own_d23_2 : decode jdk_52_method_83_code 2 = .ok (.invokestatic 67, 3) := by decide +kernel
theorem own_d23_5 : decode jdk_52_method_83_code 5 = .ok (.aload_n 0, 1) := by decide +kernel
theorem own_d23_6 : decode jdk_52_method_83_code 6 = .ok (.iload_n 1, 1) := by decide +kernel
theorem own_d23_7 : decode jdk_52_method_83_code 7 = .ok (.invokestatic 71, 3) := by decide +kernel
theorem own_d23_10 : decode jdk_52_method_83_code 10 = .ok (.ireturn, 1) := by decide +kernel
theorem own_d24_0 : decode jdk_52_method_91_code 0 = .ok (.iload_n 0, 1) := by decide +kernel
theorem own_d24_1 : decode jdk_52_method_91_code 1 = .ok (.aload_n 1, 1) := by decide +kernel
theorem own_d24_2 : decode jdk_52_method_91_code 2 = .ok (.invokestatic 48, 3) := by decide +kernel
theorem own_d24_5 : decode jdk_52_method_91_code 5 = .ok (.invokestatic 414, 3) := by decide +kernel
theorem own_d24_8 : decode jdk_52_method_91_code 8 = .ok (.return_, 1) := by decide +kernel
theorem own_d25_0 : decode jdk_52_method_6_code 0 = .ok (.aload_n 0, 1) := by decide +kernel
theorem own_d25_1 : decode jdk_52_method_6_code 1 = .ok (.arraylength, 1) := by decide +kernel
theorem own_d25_2 : decode jdk_52_method_6_code 2 = .ok (.iconst 1, 1) := by decide +kernel
theorem own_d25_3 : decode jdk_52_method_6_code 3 = .ok (.ishr, 1) := by decide +kernel
theorem own_d25_4 : decode jdk_52_method_6_code 4 = .ok (.ireturn, 1) := by decide +kernel
abbrev own_EL : List (String × Nat) := [("java/lang/String", 7)]
theorem own_EW {a0 : Array Value} {Z : State} (hw : ∀ d ∈ tables_1, d.before a0 Z = true) : EW Z a0 own_EL := (EW.cons (own_w85 hw) (by decide +kernel) EW.nil)
theorem own_mem85 : (("java/lang/String", 7) : String × Nat) ∈ own_EL := List.mem_of_getElem? (i := 0) rfl
section OwnStr
variable {p : Program} {l : Launch} {e : Env} {R : Room} {s : State} {args : Array Value} {below : List Frame} {len W : Nat} {Z : State} {a0 : Array Value} {h h' : Heap} {x t a : Addr} {cs : List Int32} {ws : List Addr} {sl : Nat} {v : Value}
/-- the String at x, of the byte[] at t, spells cs (signs 0 to 255) -/
def Str (Z : State) (h : Heap) (x t : Addr) (cs : List Int32) : Prop := ∃ (kb : ClassId) (n : Int32), Exa Z h x "java/lang/String" ∧ Fld Z h x "java/lang/String" "coder" "B" (.int 0) ∧ Fld Z h x "java/lang/String" "value" "[B" (.ref t) ∧ Arv Z h t kb .byte n ((cs.map fun c => c.toInt8.toInt32).map Value.int) (.int 0) ∧ n = Int32.ofNat cs.length ∧ (∀ c ∈ cs, ¬ c < 0 ∧ ¬ (255 : Int32) < c) ∧ cs.length ≤ 4000
theorem Str.ext (F : Str Z h x t cs) (E : Ext h h') : Str Z h' x t cs := by
  obtain ⟨kb, n, q1, q2, q3, q4, r⟩ := F; exact ⟨kb, n, q1.ext E, q2.ext E, q3.ext E, q4.ext E, r⟩
theorem Str.keep (F : Str Z h x t cs) (K : Keep h h' ws) (n1 : x ∉ ws) (n2 : t ∉ ws) : Str Z h' x t cs := by
  obtain ⟨kb, n, q1, q2, q3, q4, r⟩ := F; exact ⟨kb, n, q1.keep K, q2.keep K n1, q3.keep K n1, q4.keep K n2, r⟩
theorem Str.wr (F : Str Z h x t cs) (W : Wr h h' a sl v) (n1 : x ≠ a) (n2 : t ≠ a) : Str Z h' x t cs := by
  obtain ⟨kb, n, q1, q2, q3, q4, r⟩ := F; exact ⟨kb, n, q1.wr W, q2.other W (Or.inl n1), q3.other W (Or.inl n1), q4.other W n2, r⟩
theorem Str.exa (F : Str Z h x t cs) : Exa Z h x "java/lang/String" := by obtain ⟨kb, n, q1, r⟩ := F; exact q1
theorem Str.lt (F : Str Z h x t cs) : x < h.size := F.exa.lt
theorem Str.lt2 (F : Str Z h x t cs) : t < h.size := by obtain ⟨kb, n, q1, q2, q3, q4, r⟩ := F; exact q4.lt
theorem Str.ne2 {C : String} {k : Nat} (F : Str Z h x t cs) (E : Exa Z h a C) (w : (Jvm.Cond.instantiable C k).before a0 Z = true) : t ≠ a := by obtain ⟨kb, n, q1, q2, q3, q4, r⟩ := F; exact Ne.symm (Exa.neArv E q4 w)
theorem Str.of {kb : ClassId} {n : Int32} {vs : List Value} (q1 : Exa Z h x "java/lang/String") (q2 : Fld Z h x "java/lang/String" "coder" "B" (.int 0)) (q3 : Fld Z h x "java/lang/String" "value" "[B" (.ref t)) (q4 : Arv Z h t kb .byte n vs (.int 0)) (hv : vs = (cs.map fun c => c.toInt8.toInt32).map Value.int) (hn : n = Int32.ofNat cs.length) (hp : ∀ c ∈ cs, ¬ c < 0 ∧ ¬ (255 : Int32) < c) (hl : cs.length ≤ 4000) : Str Z h x t cs := by
  subst hv; exact ⟨kb, n, q1, q2, q3, q4, hn, hp, hl⟩
theorem payNew {b : Addr} {kc : ClassId} {N z : Int32} {d v0 c0 : Value} {n0 n : Nat} {vs : List Value} (hZ : Z.Warmed39 s.vm) (hw : ∀ d ∈ tables_1, d.before a0 Z = true) (hx0 : n0 ≤ x) (hh0 : n0 ≤ h.size) (E : Exa Z h x "java/lang/String") (V : Fld Z h x "java/lang/String" "value" "[B" v0) (C : Fld Z h x "java/lang/String" "coder" "B" c0) (K : Arv Z h b kc .char N vs d) (hv : vs = cs.map Value.int) (S : Sta Z h "java/lang/String" "COMPACT_STRINGS" "Z" (.int z)) (hz : ¬ z = 0)
    (hn : cs.length = n) (hN : N = Int32.ofNat n) (l0 : 0 < n) (l2 : n ≤ 4000) (hp : ∀ c ∈ cs, ¬ c < 0 ∧ ¬ (255 : Int32) < c) (hfr : 4 ≤ R.frames) (hlo : W + 65 ≤ R.locals) :
    Pays l R p e below s args (⟨"java/lang/String", "<init>", "([C)V"⟩ : MethodName) len W #[.ref x, .ref b] h 1 n (fun v h' L => v = none ∧ Fr n0 L ∧ Keep h h' [x] ∧ ∃ t, h.size ≤ t ∧ Str Z h' x t cs) := by
  subst hv hn
  intro m meth c A g ig mk a q1 q2 q3 q4 q5 q6 q7
  obtain ⟨v, B, X, ⟨L, ⟨g1, g2, g3, g4, g5, t, kb, g6, g7, g8, g9, g10⟩, r⟩, st⟩ := StrChars.Road.backV (W := W) (R := R) (l := l) (p := p) (e := e) (s := s) (len := len) (args := args) (below := below) hZ (own_hws hw) (kI := 4) ((own_w8 hw)) (cs := cs) (bs := cs.map (fun c => c.toInt8.toInt32)) hx0 hh0 E V C K S hz rfl hN l0 l2 hp rfl hfr hlo m meth c A g ig mk a q1 q2 q3 q4 q5 q6 q7
  exact ⟨v, B, X, ⟨L, ⟨g1, g2, g3, t, g7, kb, _, g4, g5, g9, g10, hN, hp, l2⟩, r⟩, st⟩
theorem payLen {z : Int32} (hZ : Z.Warmed39 s.vm) (hw : ∀ d ∈ tables_1, d.before a0 Z = true) (F : Str Z h x t cs) (S : Sta Z h "java/lang/String" "COMPACT_STRINGS" "Z" (.int z)) (hz : ¬ z = 0) (hfr : 2 ≤ R.frames) (hlo : W + 25 ≤ R.locals) :
    Pays l R p e below s args (⟨"java/lang/String", "length", "()I"⟩ : MethodName) len W #[.ref x] h 0 0 (fun v h' L => v = some (.int (Int32.ofNat cs.length)) ∧ L = [] ∧ h' = h) := by
  obtain ⟨kb, n, q1, q2, q3, q4, hn, hp, hl⟩ := F
  subst hn
  exact StrChars.Road.lenW (W := W) hZ (own_hln hw) (kI := 4) ((own_w8 hw)) q1 q3 q2 q4 (StrChars.Road.codOf rfl fun c hc => (hp c hc).2) (own_up _ hp) S hz hl hfr hlo
theorem payChr {z j : Int32} {fm : Value} {i : Nat} (hZ : Z.Warmed39 s.vm) (hw : ∀ d ∈ tables_1, d.before a0 Z = true) (F : Str Z h x t cs) (S : Sta Z h "java/lang/String" "COMPACT_STRINGS" "Z" (.int z)) (hz : ¬ z = 0) (S2 : Sta Z h "jdk/internal/util/Preconditions" "SIOOBE_FORMATTER" "Ljava/util/function/BiFunction;" fm) (rf : fm.isRef = true) (hi : i < cs.length) (hj : j = Int32.ofNat i) (hfr : 4 ≤ R.frames) (hlo : W + 53 ≤ R.locals) :
    Pays l R p e below s args (⟨"java/lang/String", "charAt", "(I)C"⟩ : MethodName) len W #[.ref x, .int j] h 0 0 (fun v h' L => v = some (.int (cs.getD i 0)) ∧ L = [] ∧ h' = h) := by
  obtain ⟨kb, n, q1, q2, q3, q4, hn, hp, hl⟩ := F
  subst hn
  exact StrChars.Road.chN (W := W) hZ (own_hch hw) (kI := 4) ((own_w8 hw)) q1 q3 q2 q4 (StrChars.Road.codOf rfl fun c hc => (hp c hc).2) (own_up _ hp) S hz S2 rf hl hi hj hfr hlo
end OwnStr
def own_ws (c : Int32) : Int32 := if c = 32 ∨ c = 9 ∨ c = 13 ∨ c = 10 then 1 else 0
theorem own_ws1 {c : Int32} (h : c = 32 ∨ c = 9 ∨ c = 13 ∨ c = 10) : own_ws c = 1 := if_pos h
theorem own_ws0 {c : Int32} (h0 : ¬ c = 32) (h1 : ¬ c = 9) (h2 : ¬ c = 13) (h3 : ¬ c = 10) : own_ws c = 0 := if_neg (by simp [h0, h1, h2, h3])
def own_aw : List Int32 → Int32
  | [] => 1
  | c :: cs => if own_ws c = 0 then 0 else own_aw cs
theorem own_narlo {c : Int32} : nar .byte (StrChars.lo8 c) = StrChars.lo8 c := own_narb c
theorem own_narhi {c : Int32} : nar .byte (StrChars.hi8 c) = StrChars.hi8 c := own_narb _
theorem own_lo0 {c : Int32} : (c >>> ((0 : Int32) &&& 31)).toInt8.toInt32 = StrChars.lo8 c := by rw [StrChars.shr0]; rfl
theorem own_hi8 {c : Int32} : (c >>> ((8 : Int32) &&& 31)).toInt8.toInt32 = StrChars.hi8 c := rfl
theorem own_pair {c : Int32} (r : ¬ c < 0 ∧ ¬ (65535 : Int32) < c) : (((StrChars.lo8 c &&& (255 : Int32)) <<< ((0 : Int32) &&& 31)) ||| ((StrChars.hi8 c &&& (255 : Int32)) <<< ((8 : Int32) &&& 31))).toUInt32.toUInt16.toUInt32.toInt32 = c := StrChars.pair_says r.1 r.2
theorem own_narw {c : Int32} (hc : ¬ c < 0 ∧ ¬ (65535 : Int32) < c) : nar .char c = c := by
  obtain ⟨h0, h1⟩ := hc
  show c.toUInt32.toUInt16.toUInt32.toInt32 = c
  have q := c_i2c c
  have e0 : (0 : Int32).toInt = 0 := rfl
  have e1 : (65535 : Int32).toInt = 65535 := rfl
  rw [Int32.lt_iff_toInt_lt] at h0 h1
  apply Int32.toInt_inj.mp; omega
theorem own_narrow {c : Int32} (hc : ¬ c < 0 ∧ ¬ (65535 : Int32) < c) : narrow .char (.int c) = .int c := congrArg Value.int (own_narw hc)
theorem own_16 (x : Int32) : ¬ (x &&& (65535 : Int32)).toUInt32.toUInt16.toUInt32.toInt32 < 0 ∧ ¬ (65535 : Int32) < (x &&& (65535 : Int32)).toUInt32.toUInt16.toUInt32.toInt32 := by
  have q := c_i2c (x &&& (65535 : Int32))
  have e0 : (0 : Int32).toInt = 0 := rfl
  have e1 : (65535 : Int32).toInt = 65535 := rfl
  rw [Int32.lt_iff_toInt_lt, Int32.lt_iff_toInt_lt]; omega
theorem own_n3 {x : Int32} (h0 : ¬ (x &&& (3 : Int32)) = 0) (h1 : ¬ (x &&& (3 : Int32)) = 1) (h2 : ¬ (x &&& (3 : Int32)) = 2) : (x &&& (3 : Int32)) = 3 := by
  have h := c_and x 3 (by decide)
  have k0 : (0 : Int32).toInt = 0 := rfl
  have k1 : (1 : Int32).toInt = 1 := rfl
  have k2 : (2 : Int32).toInt = 2 := rfl
  have k3 : (3 : Int32).toInt = 3 := rfl
  rw [← Int32.toInt_inj] at h0 h1 h2 ⊢
  omega
theorem payLenU {p : Program} {l : Launch} {e : Env} {R : Room} {s : State} {args : Array Value} {below : List Frame} {len W : Nat} {Z : State} {a0 : Array Value} {h : Heap} {x t : Addr} {kb : ClassId} {cs : List Int32} {z N : Int32} {vs : List Value} (hZ : Z.Warmed39 s.vm) (hw : ∀ d ∈ tables_1, d.before a0 Z = true) (E : Exa Z h x "java/lang/String") (V : Fld Z h x "java/lang/String" "value" "[B" (.ref t)) (C : Fld Z h x "java/lang/String" "coder" "B" (.int 1)) (K : Arv Z h t kb .byte N vs (.int 0)) (hv : vs = StrChars.Road.wideBytes cs) (hN : N = Int32.ofNat (2 * cs.length)) (hex : ∃ c ∈ cs, 255 < c) (hp : ∀ c ∈ cs, ¬ c < 0 ∧ ¬ (65535 : Int32) < c) (S : Sta Z h "java/lang/String" "COMPACT_STRINGS" "Z" (.int z)) (hz : ¬ z = 0) (hl : cs.length ≤ 4000) (hfr : 2 ≤ R.frames) (hlo : W + 25 ≤ R.locals) :
    Pays l R p e below s args (⟨"java/lang/String", "length", "()I"⟩ : MethodName) len W #[.ref x] h 0 0 (fun v h' L => v = some (.int (Int32.ofNat cs.length)) ∧ L = [] ∧ h' = h) :=
  StrChars.Road.lenW (W := W) hZ (own_hln hw) (kI := 4) (own_w8 hw) E V C K (Or.inr ⟨rfl, hN, hv, hex⟩) hp S hz hl hfr hlo
set_option maxRecDepth 65536 in
set_option maxHeartbeats 40000000 in
theorem rmNBL1 (l : Launch) (Z : State) (a0 : Array Value) (hw : ∀ d ∈ tables_1, d.before a0 Z = true) (h0 : Heap) (n0 : Nat) (Z0 : n0 ≤ h0.size) :
    CtP l (⟨"java/lang/StringUTF16", "newBytesLength", "(I)I"⟩ : MethodName) jdk_52_method_3_code 1 (some .int) [] ({ frames := 0, cells := 0, slots := 0, locals := 0 } : Room) Z #[(.int (1 : Int32))] h0 (fun v h L => v = some (.int (2 : Int32)) ∧ Fr n0 L ∧ h = h0) := by
  refine CtP.walk (Ls := #[.val (.int (1 : Int32))]) (plainFor_of_name own_pn0) (fun m => by first | (simp [entryFrame, mkF, argsToLocals, Value.category]; done) | rfl) ?_
  intro p e s m below meth cc_ T hx hby hml hown hnm hret hlk hZ X eT
  have N := Fr.nil n0
  have sz_h : h0.size ≤ h0.size := Nat.le_refl _
  refine giloadN (v := (1 : Int32)) X hx 1 (hb hby own_d20_0) rfl rfl ?_
  refine gifYes X hx 12 (hb hby own_d20_1) (by decide) (by decide) (by decide) ?_
  refine giloadN (v := (1 : Int32)) X hx 13 (hb hby own_d20_12) rfl rfl ?_
  refine gldcI X hx hZ hown (own_w97 hw) 15 (hb hby own_d20_13) rfl ?_
  refine gicmpYes X hx 55 (hb hby own_d20_15) (by decide) (by decide) (by decide) ?_
  refine giloadN (v := (1 : Int32)) X hx 56 (hb hby own_d20_55) rfl rfl ?_
  refine giconst X hx (1 : Int32) 57 (hb hby own_d20_56) rfl rfl ?_
  refine gishl X hx 58 (hb hby own_d20_57) rfl ?_
  rw [show ((1 : Int32) <<< ((1 : Int32) &&& 31)) = (2 : Int32) from by decide]
  exact gRetP X hx hlk hret rfl (Or.inl ⟨rfl, by simp, _, rfl⟩) (hb hby own_d20_58) eT (by decide) (by decide) ⟨rfl, N, rfl⟩
set_option maxRecDepth 65536 in
set_option maxHeartbeats 40000000 in
theorem rmNBF1 (l : Launch) (Z : State) (a0 : Array Value) (hw : ∀ d ∈ tables_1, d.before a0 Z = true) (h0 : Heap) (n0 : Nat) (Z0 : n0 ≤ h0.size) :
    CtP l (⟨"java/lang/StringUTF16", "newBytesFor", "(I)[B"⟩ : MethodName) jdk_52_method_2_code 1 (some (.array .byte)) [] ({ frames := 1, cells := 1, slots := 2, locals := 12 } : Room) Z #[(.int (1 : Int32))] h0 (fun v h L => ∃ (t : Addr), ∃ (kb : ClassId), v = some (.ref t) ∧ Fr n0 L ∧ Keep h0 h [] ∧ h0.size ≤ t ∧ Arv Z h t kb .byte (2 : Int32) [(.int (0 : Int32)), (.int (0 : Int32))] (.int 0)) := by
  refine CtP.walk (Ls := #[.val (.int (1 : Int32))]) (plainFor_of_name own_pn0) (fun m => by first | (simp [entryFrame, mkF, argsToLocals, Value.category]; done) | rfl) ?_
  intro p e s m below meth cc_ T hx hby hml hown hnm hret hlk hZ X eT
  have N := Fr.nil n0
  have K0 := Keep.refl h0 []
  have sz_h : h0.size ≤ h0.size := Nat.le_refl _
  refine giloadN (v := (1 : Int32)) X hx 1 (hb hby own_d19_0) rfl rfl ?_
  refine gstatic (y := (⟨"java/lang/StringUTF16", "newBytesLength", "(I)I"⟩ : MethodName)) (argsL := [(.int (1 : Int32))]) (st := []) X hx hZ hown (own_w94 hw) (own_w95 hw) (own_w23 hw) (own_w96 hw) (by decide) (payP (W := 0) (rmNBL1 l Z a0 hw h0 n0 (Nat.le_trans Z0 sz_h)) hZ (own_w96 hw) (own_w23 hw) (by decide) (by decide)) eT (by rw [hml]; rfl) (lenOf own_pd0 rfl) rfl (Nat.le_of_eq rfl) 0 0 rfl rfl (by decide) (by decide) 4 (hb hby own_d19_1) rfl ?_
  clear X eT; clear T; intro v T h1 L2 Lc X eT hL hQ2
  obtain ⟨rfl, Nq, hh⟩ := hQ2
  replace N : Fr n0 L2 := by rw [hL]; exact Fr.app N Nq
  clear Nq hL
  replace hh := hh.symm; subst hh
  show Go p e below _ T (mkF m 4 #[.val (.int (1 : Int32))] [(.int (2 : Int32))])
  refine gnewP (aty := .byte) X hx hZ (own_w25 hw) eT (n := (2 : Int32)) (by decide) 2 (by decide) (by decide) 1 2 rfl rfl (by decide) (by decide) 6 (hb hby own_d19_4) rfl ?_
  clear X eT; clear T; intro T h5 b6 kc9 X eT ga E7 V8
  have le_a := Nat.le_of_eq ga.symm
  have sz_b6 : h0.size ≤ b6 := Nat.le_trans sz_h le_a
  have ge_b6 : n0 ≤ b6 := Nat.le_trans Z0 sz_b6
  clear le_a ga
  replace K0 := K0.ext E7
  replace sz_h : h0.size ≤ h5.size := Nat.le_trans sz_h E7.1
  replace V8 : Arv Z h5 b6 kc9 .byte (2 : Int32) [(.int (0 : Int32)), (.int (0 : Int32))] (.int 0) := V8.pad (pad_rep [] _ 2)
  exact gRetP X hx hlk hret rfl (Or.inr (Or.inr (Or.inr (Or.inr ⟨rfl, rfl, rfl⟩)))) (hb hby own_d19_6) eT (by decide) (by decide) ⟨b6, kc9, rfl, N, K0, sz_b6, V8⟩
set_option maxRecDepth 65536 in
set_option maxHeartbeats 40000000 in
theorem rmPut1_0 (l : Launch) (Z : State) (a0 : Array Value) (hw : ∀ d ∈ tables_1, d.before a0 Z = true) (t : Addr) (c : Int32) (kb : ClassId) (u0 : Value) (u1 : Value) (h0 : Heap) (n0 : Nat) (Z0 : n0 ≤ h0.size) (ge_t : n0 ≤ t) (P0_Old : Old Z n0 h0) (P1_Arv : Arv Z h0 t kb .byte (2 : Int32) [u0, u1] (.int 0)) (SA : Sta Z Z.heap "java/lang/StringUTF16" "$assertionsDisabled" "Z" (.int 1)) (SH : Sta Z Z.heap "java/lang/StringUTF16" "HI_BYTE_SHIFT" "I" (.int 0)) (SLo : Sta Z Z.heap "java/lang/StringUTF16" "LO_BYTE_SHIFT" "I" (.int 8)) :
    CtP l (⟨"java/lang/StringUTF16", "putChar", "([BII)V"⟩ : MethodName) jdk_52_method_4_code 3 none [] ({ frames := 0, cells := 0, slots := 0, locals := 0 } : Room) Z #[(.ref t), (.int (0 : Int32)), (.int c)] h0 (fun v h L => v = none ∧ Fr n0 L ∧ Keep h0 h [t] ∧ Arv Z h t kb .byte (2 : Int32) [(.int (StrChars.lo8 c)), (.int (StrChars.hi8 c))] (.int 0)) := by
  refine CtP.walk (Ls := #[.val (.ref t), .val (.int (0 : Int32)), .val (.int c)]) (plainFor_of_name own_pn0) (fun m => by first | (simp [entryFrame, mkF, argsToLocals, Value.category]; done) | rfl) ?_
  intro p e s m below meth cc_ T hx hby hml hown hnm hret hlk hZ X eT
  have N := Fr.nil n0
  have K0 := Keep.refl h0 [t]
  have sz_h : h0.size ≤ h0.size := Nat.le_refl _
  refine ggetS X hx hZ (host := "") hown (Or.inl (own_w101 hw)) Via.refl eT (SA.ext P0_Old.2) 3 (hb hby own_d21_0) rfl ?_
  clear X eT; clear T; intro T X eT
  refine gifYes X hx 28 (hb hby own_d21_3) (by decide) (by decide) (by decide) ?_
  refine giloadN (v := (0 : Int32)) X hx 29 (hb hby own_d21_28) rfl rfl ?_
  refine giconst X hx (1 : Int32) 30 (hb hby own_d21_29) rfl rfl ?_
  refine gishl X hx 31 (hb hby own_d21_30) rfl ?_
  rw [show ((0 : Int32) <<< ((1 : Int32) &&& 31)) = (0 : Int32) from by decide]
  refine gistoreN X hx #[.val (.ref t), .val (.int (0 : Int32)), .val (.int c)] 32 (hb hby own_d21_31) rfl rfl ?_
  refine galoadN (v := (.ref t)) X hx 33 (hb hby own_d21_32) rfl rfl rfl ?_
  refine giloadN (v := (0 : Int32)) X hx 34 (hb hby own_d21_33) rfl rfl ?_
  refine giinc X hx #[.val (.ref t), .val (.int (1 : Int32)), .val (.int c)] 37 (hb hby own_d21_34) rfl rfl rfl ?_
  refine giloadN (v := c) X hx 38 (hb hby own_d21_37) rfl rfl ?_
  refine ggetS X hx hZ (host := "") hown (Or.inl (own_w102 hw)) Via.refl eT (SH.ext P0_Old.2) 41 (hb hby own_d21_38) rfl ?_
  clear X eT; clear T; intro T X eT
  refine gishr X hx 42 (hb hby own_d21_41) rfl ?_
  refine gi2b X hx 43 (hb hby own_d21_42) rfl ?_
  rw [own_lo0]
  show Go p e below _ T (mkF m 43 #[.val (.ref t), .val (.int (1 : Int32)), .val (.int c)] [(.int (StrChars.lo8 c)), (.int (0 : Int32)), (.ref t)])
  refine gbastore X hx hZ eT P1_Arv (by decide) (by decide) 0 rfl (Nat.le_of_ble_eq_true rfl) N ge_t 44 (hb hby own_d21_43) rfl ?_
  clear X eT N; clear T; intro T h2 L X eT N W1 V3
  replace P0_Old := P0_Old.wr W1 ge_t
  replace K0 := K0.wr W1 (Or.inl (List.mem_of_getElem? (i := 0) rfl))
  replace sz_h : h0.size ≤ h2.size := by rw [Wr.size W1]; exact sz_h
  replace V3 : Arv Z h2 t kb .byte (2 : Int32) [(.int (StrChars.lo8 c)), u1] (.int 0) := by have z := V3; rw [own_narlo] at z; exact z
  refine galoadN (v := (.ref t)) X hx 45 (hb hby own_d21_44) rfl rfl rfl ?_
  refine giloadN (v := (1 : Int32)) X hx 46 (hb hby own_d21_45) rfl rfl ?_
  refine giloadN (v := c) X hx 47 (hb hby own_d21_46) rfl rfl ?_
  refine ggetS X hx hZ (host := "") hown (Or.inl (own_w103 hw)) Via.refl eT (SLo.ext P0_Old.2) 50 (hb hby own_d21_47) rfl ?_
  clear X eT; clear T; intro T X eT
  refine gishr X hx 51 (hb hby own_d21_50) rfl ?_
  refine gi2b X hx 52 (hb hby own_d21_51) rfl ?_
  rw [own_hi8]
  show Go p e below _ T (mkF m 52 #[.val (.ref t), .val (.int (1 : Int32)), .val (.int c)] [(.int (StrChars.hi8 c)), (.int (1 : Int32)), (.ref t)])
  refine gbastore X hx hZ eT V3 (by decide) (by decide) 1 rfl (Nat.le_of_ble_eq_true rfl) N ge_t 53 (hb hby own_d21_52) rfl ?_
  clear X eT N; clear T; intro T h5 L X eT N W4 V6
  replace P0_Old := P0_Old.wr W4 ge_t
  replace K0 := K0.wr W4 (Or.inl (List.mem_of_getElem? (i := 0) rfl))
  replace sz_h : h0.size ≤ h5.size := by rw [Wr.size W4]; exact sz_h
  replace V6 : Arv Z h5 t kb .byte (2 : Int32) [(.int (StrChars.lo8 c)), (.int (StrChars.hi8 c))] (.int 0) := by have z := V6; rw [own_narhi] at z; exact z
  exact gRetP0 X hx hlk hret (hb hby own_d21_53) eT (by decide) (by decide) ⟨rfl, N, K0, V6⟩
set_option maxRecDepth 65536 in
set_option maxHeartbeats 40000000 in
theorem rmGet1_0 (l : Launch) (Z : State) (a0 : Array Value) (hw : ∀ d ∈ tables_1, d.before a0 Z = true) (t : Addr) (kb : ClassId) (c0 : Int32) (h0 : Heap) (n0 : Nat) (Z0 : n0 ≤ h0.size) (P0_Old : Old Z n0 h0) (P1_Arv : Arv Z h0 t kb .byte (2 : Int32) [(.int (StrChars.lo8 c0)), (.int (StrChars.hi8 c0))] (.int 0)) (SA : Sta Z Z.heap "java/lang/StringUTF16" "$assertionsDisabled" "Z" (.int 1)) (SH : Sta Z Z.heap "java/lang/StringUTF16" "HI_BYTE_SHIFT" "I" (.int 0)) (SLo : Sta Z Z.heap "java/lang/StringUTF16" "LO_BYTE_SHIFT" "I" (.int 8)) (r0 : ¬ c0 < 0 ∧ ¬ (65535 : Int32) < c0) :
    CtP l (⟨"java/lang/StringUTF16", "getChar", "([BI)C"⟩ : MethodName) jdk_52_method_5_code 2 (some .char) [] ({ frames := 0, cells := 0, slots := 0, locals := 0 } : Room) Z #[(.ref t), (.int (0 : Int32))] h0 (fun v h L => v = some (.int c0) ∧ Fr n0 L ∧ h = h0) := by
  refine CtP.walk (Ls := #[.val (.ref t), .val (.int (0 : Int32))]) (plainFor_of_name own_pn0) (fun m => by first | (simp [entryFrame, mkF, argsToLocals, Value.category]; done) | rfl) ?_
  intro p e s m below meth cc_ T hx hby hml hown hnm hret hlk hZ X eT
  have N := Fr.nil n0
  have sz_h : h0.size ≤ h0.size := Nat.le_refl _
  refine ggetS X hx hZ (host := "") hown (Or.inl (own_w101 hw)) Via.refl eT (SA.ext P0_Old.2) 3 (hb hby own_d22_0) rfl ?_
  clear X eT; clear T; intro T X eT
  refine gifYes X hx 28 (hb hby own_d22_3) (by decide) (by decide) (by decide) ?_
  refine giloadN (v := (0 : Int32)) X hx 29 (hb hby own_d22_28) rfl rfl ?_
  refine giconst X hx (1 : Int32) 30 (hb hby own_d22_29) rfl rfl ?_
  refine gishl X hx 31 (hb hby own_d22_30) rfl ?_
  rw [show ((0 : Int32) <<< ((1 : Int32) &&& 31)) = (0 : Int32) from by decide]
  refine gistoreN X hx #[.val (.ref t), .val (.int (0 : Int32))] 32 (hb hby own_d22_31) rfl rfl ?_
  refine galoadN (v := (.ref t)) X hx 33 (hb hby own_d22_32) rfl rfl rfl ?_
  refine giloadN (v := (0 : Int32)) X hx 34 (hb hby own_d22_33) rfl rfl ?_
  refine giinc X hx #[.val (.ref t), .val (.int (1 : Int32))] 37 (hb hby own_d22_34) rfl rfl rfl ?_
  refine gbaload X hx hZ eT P1_Arv (.int (StrChars.lo8 c0)) (by decide) (by decide) rfl 38 (hb hby own_d22_37) rfl ?_
  refine gsipush X hx (255 : Int32) 41 (hb hby own_d22_38) rfl rfl ?_
  refine giand X hx 42 (hb hby own_d22_41) rfl ?_
  refine ggetS X hx hZ (host := "") hown (Or.inl (own_w102 hw)) Via.refl eT (SH.ext P0_Old.2) 45 (hb hby own_d22_42) rfl ?_
  clear X eT; clear T; intro T X eT
  refine gishl X hx 46 (hb hby own_d22_45) rfl ?_
  refine galoadN (v := (.ref t)) X hx 47 (hb hby own_d22_46) rfl rfl rfl ?_
  refine giloadN (v := (1 : Int32)) X hx 48 (hb hby own_d22_47) rfl rfl ?_
  refine gbaload X hx hZ eT P1_Arv (.int (StrChars.hi8 c0)) (by decide) (by decide) rfl 49 (hb hby own_d22_48) rfl ?_
  refine gsipush X hx (255 : Int32) 52 (hb hby own_d22_49) rfl rfl ?_
  refine giand X hx 53 (hb hby own_d22_52) rfl ?_
  refine ggetS X hx hZ (host := "") hown (Or.inl (own_w103 hw)) Via.refl eT (SLo.ext P0_Old.2) 56 (hb hby own_d22_53) rfl ?_
  clear X eT; clear T; intro T X eT
  refine gishl X hx 57 (hb hby own_d22_56) rfl ?_
  refine gior X hx 58 (hb hby own_d22_57) rfl ?_
  refine gi2c X hx 59 (hb hby own_d22_58) rfl ?_
  rw [own_pair r0]
  show Go p e below _ T (mkF m 59 #[.val (.ref t), .val (.int (1 : Int32))] [(.int c0)])
  exact gRetP X hx hlk hret (own_narrow r0) (Or.inl ⟨rfl, by simp, _, rfl⟩) (hb hby own_d22_59) eT (by decide) (by decide) ⟨rfl, N, rfl⟩
set_option maxRecDepth 65536 in
set_option maxHeartbeats 40000000 in
theorem rmTB1 (l : Launch) (Z : State) (a0 : Array Value) (hw : ∀ d ∈ tables_1, d.before a0 Z = true) (b : Addr) (kc : ClassId) (c0 : Int32) (h0 : Heap) (n0 : Nat) (Z0 : n0 ≤ h0.size) (P0_Old : Old Z n0 h0) (P1_Arv : Arv Z h0 b kc .char (1 : Int32) [(.int c0)] (.int 0)) (SA : Sta Z Z.heap "java/lang/StringUTF16" "$assertionsDisabled" "Z" (.int 1)) (SH : Sta Z Z.heap "java/lang/StringUTF16" "HI_BYTE_SHIFT" "I" (.int 0)) (SLo : Sta Z Z.heap "java/lang/StringUTF16" "LO_BYTE_SHIFT" "I" (.int 8)) :
    CtP l (⟨"java/lang/StringUTF16", "toBytes", "([CII)[B"⟩ : MethodName) jdk_52_method_14_code 5 (some (.array .byte)) [] ({ frames := 2, cells := 1, slots := 2, locals := 24 } : Room) Z #[(.ref b), (.int (0 : Int32)), (.int (1 : Int32))] h0 (fun v h L => ∃ (t : Addr), ∃ (kb : ClassId), v = some (.ref t) ∧ Fr n0 L ∧ Keep h0 h [] ∧ h0.size ≤ t ∧ Arv Z h t kb .byte (2 : Int32) [(.int (StrChars.lo8 c0)), (.int (StrChars.hi8 c0))] (.int 0)) := by
  refine CtP.walk (Ls := #[.val (.ref b), .val (.int (0 : Int32)), .val (.int (1 : Int32)), .unset, .unset]) (plainFor_of_name own_pn0) (fun m => by first | (simp [entryFrame, mkF, argsToLocals, Value.category]; done) | rfl) ?_
  intro p e s m below meth cc_ T hx hby hml hown hnm hret hlk hZ X eT
  have N := Fr.nil n0
  have K0 := Keep.refl h0 []
  have sz_h : h0.size ≤ h0.size := Nat.le_refl _
  refine giloadN (v := (1 : Int32)) X hx 1 (hb hby own_d18_0) rfl rfl ?_
  refine gstatic (y := (⟨"java/lang/StringUTF16", "newBytesFor", "(I)[B"⟩ : MethodName)) (argsL := [(.int (1 : Int32))]) (st := []) X hx hZ hown (own_w91 hw) (own_w92 hw) (own_w23 hw) (own_w93 hw) (by decide) (payP (W := 0) (rmNBF1 l Z a0 hw h0 n0 (Nat.le_trans Z0 sz_h)) hZ (own_w93 hw) (own_w23 hw) (by decide) (by decide)) eT (by rw [hml]; rfl) (lenOf own_pd1 rfl) rfl (Nat.le_of_eq rfl) 1 2 rfl rfl (by decide) (by decide) 4 (hb hby own_d18_1) rfl ?_
  clear X eT; clear T; intro v T h1 L2 Lc X eT hL hQ2
  obtain ⟨t_3, kb_4, rfl, Nq, K5, zz_t_3, G7⟩ := hQ2
  replace N : Fr n0 L2 := by rw [hL]; exact Fr.app N Nq
  clear Nq hL
  have ne_b_t_3 : b ≠ t_3 := Nat.ne_of_lt (Nat.lt_of_lt_of_le P1_Arv.lt zz_t_3)
  have ne_t_3_b : t_3 ≠ b := Ne.symm ne_b_t_3
  have sz_t_3 : h0.size ≤ t_3 := Nat.le_trans sz_h zz_t_3
  have ge_t_3 : n0 ≤ t_3 := Nat.le_trans Z0 sz_t_3
  replace P0_Old := P0_Old.keep K5 all0
  replace P1_Arv := P1_Arv.keep K5 nin0
  replace K0 := K0.trans K5 all0
  replace sz_h : h0.size ≤ h1.size := Nat.le_trans sz_h K5.1
  show Go p e below _ T (mkF m 4 #[.val (.ref b), .val (.int (0 : Int32)), .val (.int (1 : Int32)), .unset, .unset] [(.ref t_3)])
  refine gastoreN X hx #[.val (.ref b), .val (.int (0 : Int32)), .val (.int (1 : Int32)), .val (.ref t_3), .unset] 5 (hb hby own_d18_4) rfl rfl rfl ?_
  refine giconst X hx (0 : Int32) 6 (hb hby own_d18_5) rfl rfl ?_
  refine gistore X hx #[.val (.ref b), .val (.int (0 : Int32)), .val (.int (1 : Int32)), .val (.ref t_3), .val (.int (0 : Int32))] 8 (hb hby own_d18_6) rfl rfl ?_
  refine giload (v := (0 : Int32)) X hx 10 (hb hby own_d18_8) rfl rfl ?_
  refine giloadN (v := (1 : Int32)) X hx 11 (hb hby own_d18_10) rfl rfl ?_
  refine gicmpNo X hx 14 (hb hby own_d18_11) rfl (by decide) ?_
  refine galoadN (v := (.ref t_3)) X hx 15 (hb hby own_d18_14) rfl rfl rfl ?_
  refine giload (v := (0 : Int32)) X hx 17 (hb hby own_d18_15) rfl rfl ?_
  refine galoadN (v := (.ref b)) X hx 18 (hb hby own_d18_17) rfl rfl rfl ?_
  refine giloadN (v := (0 : Int32)) X hx 19 (hb hby own_d18_18) rfl rfl ?_
  refine gcaload X hx hZ eT P1_Arv (.int c0) (by decide) (by decide) rfl 20 (hb hby own_d18_19) rfl ?_
  refine gstatic (y := (⟨"java/lang/StringUTF16", "putChar", "([BII)V"⟩ : MethodName)) (argsL := [(.ref t_3), (.int (0 : Int32)), (.int c0)]) (st := []) X hx hZ hown (own_w98 hw) (own_w99 hw) (own_w23 hw) (own_w100 hw) (by decide) (payP (W := 0) (rmPut1_0 l Z a0 hw (t_3) (c0) (kb_4) ((.int (0 : Int32))) ((.int (0 : Int32))) h1 n0 (Nat.le_trans Z0 sz_h) ge_t_3 P0_Old G7 (SA) (SH) (SLo)) hZ (own_w100 hw) (own_w23 hw) (by decide) (by decide)) eT (by rw [hml]; rfl) (lenOf own_pd2 rfl) rfl (Nat.le_of_eq rfl) 1 2 rfl rfl (by decide) (by decide) 23 (hb hby own_d18_20) rfl ?_
  clear X eT; clear T; intro v T h8 L2 Lc X eT hL hQ9
  obtain ⟨rfl, Nq, K10, G12⟩ := hQ9
  replace N : Fr n0 L2 := by rw [hL]; exact Fr.app N Nq
  clear Nq hL
  replace P0_Old := P0_Old.keep K10 (allS ge_t_3 all0)
  replace P1_Arv := P1_Arv.keep K10 (ninS ne_b_t_3 nin0)
  replace K0 := K0.trans K10 (allS (Or.inr sz_t_3) all0)
  replace sz_h : h0.size ≤ h8.size := Nat.le_trans sz_h K10.1
  show Go p e below _ T (mkF m 23 #[.val (.ref b), .val (.int (0 : Int32)), .val (.int (1 : Int32)), .val (.ref t_3), .val (.int (0 : Int32))] [])
  refine giinc X hx #[.val (.ref b), .val (.int (1 : Int32)), .val (.int (1 : Int32)), .val (.ref t_3), .val (.int (0 : Int32))] 26 (hb hby own_d18_23) rfl rfl rfl ?_
  refine giinc X hx #[.val (.ref b), .val (.int (1 : Int32)), .val (.int (1 : Int32)), .val (.ref t_3), .val (.int (1 : Int32))] 29 (hb hby own_d18_26) rfl rfl rfl ?_
  refine ggoto X hx 8 (hb hby own_d18_29) (by decide) (by decide) ?_
  refine giload (v := (1 : Int32)) X hx 10 (hb hby own_d18_8) rfl rfl ?_
  refine giloadN (v := (1 : Int32)) X hx 11 (hb hby own_d18_10) rfl rfl ?_
  refine gicmpYes X hx 32 (hb hby own_d18_11) (by decide) (by decide) (by decide) ?_
  refine galoadN (v := (.ref t_3)) X hx 33 (hb hby own_d18_32) rfl rfl rfl ?_
  exact gRetP X hx hlk hret rfl (Or.inr (Or.inr (Or.inr (Or.inr ⟨rfl, rfl, rfl⟩)))) (hb hby own_d18_33) eT (by decide) (by decide) ⟨t_3, kb_4, rfl, N, K0, sz_t_3, G12⟩
set_option maxRecDepth 65536 in
set_option maxHeartbeats 40000000 in
theorem rmC5_1_0 (l : Launch) (Z : State) (a0 : Array Value) (hw : ∀ d ∈ tables_1, d.before a0 Z = true) (b : Addr) (t : Addr) (kc : ClassId) (kb : ClassId) (c0 : Int32) (h0 : Heap) (n0 : Nat) (Z0 : n0 ≤ h0.size) (ge_t : n0 ≤ t) (P0_Arv : Arv Z h0 b kc .char (1 : Int32) [(.int c0)] (.int 0)) (P1_Arv : Arv Z h0 t kb .byte (1 : Int32) [(.int (0 : Int32))] (.int 0)) (s0 : (255 : Int32) < c0) (hne : b ≠ t) :
    CtP l (⟨"java/lang/StringUTF16", "compress", "([CI[BII)I"⟩ : MethodName) jdk_52_method_21_code 7 (some .int) [] ({ frames := 0, cells := 0, slots := 0, locals := 0 } : Room) Z #[(.ref b), (.int (0 : Int32)), (.ref t), (.int (0 : Int32)), (.int (1 : Int32))] h0 (fun v h L => v = some (.int (0 : Int32)) ∧ Fr n0 L ∧ Keep h0 h [t]) := by
  refine CtP.walk (Ls := #[.val (.ref b), .val (.int (0 : Int32)), .val (.ref t), .val (.int (0 : Int32)), .val (.int (1 : Int32)), .unset, .unset]) (plainFor_of_name own_pn0) (fun m => by first | (simp [entryFrame, mkF, argsToLocals, Value.category]; done) | rfl) ?_
  intro p e s m below meth cc_ T hx hby hml hown hnm hret hlk hZ X eT
  have N := Fr.nil n0
  have K0 := Keep.refl h0 [t]
  have sz_h : h0.size ≤ h0.size := Nat.le_refl _
  refine giconst X hx (0 : Int32) 1 (hb hby own_d6_0) rfl rfl ?_
  refine gistore X hx #[.val (.ref b), .val (.int (0 : Int32)), .val (.ref t), .val (.int (0 : Int32)), .val (.int (1 : Int32)), .val (.int (0 : Int32)), .unset] 3 (hb hby own_d6_1) rfl rfl ?_
  refine giload (v := (0 : Int32)) X hx 5 (hb hby own_d6_3) rfl rfl ?_
  refine giload (v := (1 : Int32)) X hx 7 (hb hby own_d6_5) rfl rfl ?_
  refine gicmpNo X hx 10 (hb hby own_d6_7) rfl (by decide) ?_
  refine galoadN (v := (.ref b)) X hx 11 (hb hby own_d6_10) rfl rfl rfl ?_
  refine giloadN (v := (0 : Int32)) X hx 12 (hb hby own_d6_11) rfl rfl ?_
  refine gcaload X hx hZ eT P0_Arv (.int c0) (by decide) (by decide) rfl 13 (hb hby own_d6_12) rfl ?_
  refine gistore X hx #[.val (.ref b), .val (.int (0 : Int32)), .val (.ref t), .val (.int (0 : Int32)), .val (.int (1 : Int32)), .val (.int (0 : Int32)), .val (.int c0)] 15 (hb hby own_d6_13) rfl rfl ?_
  refine giload (v := c0) X hx 17 (hb hby own_d6_15) rfl rfl ?_
  refine gsipush X hx (255 : Int32) 20 (hb hby own_d6_17) rfl rfl ?_
  refine gicmpNo X hx 23 (hb hby own_d6_20) rfl (tlt s0).2.2.2 ?_
  refine giload (v := (0 : Int32)) X hx 25 (hb hby own_d6_23) rfl rfl ?_
  exact gRetP X hx hlk hret rfl (Or.inl ⟨rfl, by simp, _, rfl⟩) (hb hby own_d6_25) eT (by decide) (by decide) ⟨rfl, N, K0⟩
set_option maxRecDepth 65536 in
set_option maxHeartbeats 40000000 in
theorem rmC3_1_0 (l : Launch) (Z : State) (a0 : Array Value) (hw : ∀ d ∈ tables_1, d.before a0 Z = true) (b : Addr) (kc : ClassId) (c0 : Int32) (h0 : Heap) (n0 : Nat) (Z0 : n0 ≤ h0.size) (P0_Old : Old Z n0 h0) (P1_Arv : Arv Z h0 b kc .char (1 : Int32) [(.int c0)] (.int 0)) (SA : Sta Z Z.heap "java/lang/StringUTF16" "$assertionsDisabled" "Z" (.int 1)) (SH : Sta Z Z.heap "java/lang/StringUTF16" "HI_BYTE_SHIFT" "I" (.int 0)) (SLo : Sta Z Z.heap "java/lang/StringUTF16" "LO_BYTE_SHIFT" "I" (.int 8)) (r0 : ¬ c0 < 0 ∧ ¬ (65535 : Int32) < c0) (s0 : (255 : Int32) < c0) :
    CtP l (⟨"java/lang/StringUTF16", "compress", "([CII)[B"⟩ : MethodName) jdk_52_method_16_code 6 (some (.array .byte)) [] ({ frames := 3, cells := 2, slots := 3, locals := 40 } : Room) Z #[(.ref b), (.int (0 : Int32)), (.int (1 : Int32))] h0 (fun v h L => ∃ (t : Addr), ∃ (kb : ClassId), v = some (.ref t) ∧ Fr n0 L ∧ Keep h0 h [] ∧ h0.size ≤ t ∧ Arv Z h t kb .byte (2 : Int32) [(.int (StrChars.lo8 c0)), (.int (StrChars.hi8 c0))] (.int 0)) := by
  refine CtP.walk (Ls := #[.val (.ref b), .val (.int (0 : Int32)), .val (.int (1 : Int32)), .unset, .unset, .unset]) (plainFor_of_name own_pn0) (fun m => by first | (simp [entryFrame, mkF, argsToLocals, Value.category]; done) | rfl) ?_
  intro p e s m below meth cc_ T hx hby hml hown hnm hret hlk hZ X eT
  have N := Fr.nil n0
  have K0 := Keep.refl h0 []
  have sz_h : h0.size ≤ h0.size := Nat.le_refl _
  refine giloadN (v := (1 : Int32)) X hx 1 (hb hby own_d5_0) rfl rfl ?_
  refine gnewP (aty := .byte) X hx hZ (own_w25 hw) eT (n := (1 : Int32)) (by decide) 1 (by decide) (by decide) 1 1 rfl rfl (by decide) (by decide) 3 (hb hby own_d5_1) rfl ?_
  clear X eT; clear T; intro T h1 b2 kc5 X eT ga E3 V4
  have le_a := Nat.le_of_eq ga.symm
  have ne_b_b2 : b ≠ b2 := Nat.ne_of_lt (Nat.lt_of_lt_of_le P1_Arv.lt le_a)
  have ne_b2_b : b2 ≠ b := Ne.symm ne_b_b2
  have sz_b2 : h0.size ≤ b2 := Nat.le_trans sz_h le_a
  have ge_b2 : n0 ≤ b2 := Nat.le_trans Z0 sz_b2
  clear le_a ga
  replace P0_Old := P0_Old.ext E3
  replace P1_Arv := P1_Arv.ext E3
  replace K0 := K0.ext E3
  replace sz_h : h0.size ≤ h1.size := Nat.le_trans sz_h E3.1
  replace V4 : Arv Z h1 b2 kc5 .byte (1 : Int32) [(.int (0 : Int32))] (.int 0) := V4.pad (pad_rep [] _ 1)
  refine gastoreN X hx #[.val (.ref b), .val (.int (0 : Int32)), .val (.int (1 : Int32)), .val (.ref b2), .unset, .unset] 4 (hb hby own_d5_3) rfl rfl rfl ?_
  refine galoadN (v := (.ref b)) X hx 5 (hb hby own_d5_4) rfl rfl rfl ?_
  refine giloadN (v := (0 : Int32)) X hx 6 (hb hby own_d5_5) rfl rfl ?_
  refine galoadN (v := (.ref b2)) X hx 7 (hb hby own_d5_6) rfl rfl rfl ?_
  refine giconst X hx (0 : Int32) 8 (hb hby own_d5_7) rfl rfl ?_
  refine giloadN (v := (1 : Int32)) X hx 9 (hb hby own_d5_8) rfl rfl ?_
  refine gstatic (y := (⟨"java/lang/StringUTF16", "compress", "([CI[BII)I"⟩ : MethodName)) (argsL := [(.ref b), (.int (0 : Int32)), (.ref b2), (.int (0 : Int32)), (.int (1 : Int32))]) (st := []) X hx hZ hown (own_w26 hw) (own_w27 hw) (own_w23 hw) (own_w28 hw) (by decide) (payP (W := 0) (rmC5_1_0 l Z a0 hw (b) (b2) (kc) (kc5) (c0) h1 n0 (Nat.le_trans Z0 sz_h) ge_b2 P1_Arv V4 (s0) (ne_b_b2)) hZ (own_w28 hw) (own_w23 hw) (by decide) (by decide)) eT (by rw [hml]; rfl) (lenOf own_pd3 rfl) rfl (Nat.le_of_eq rfl) 1 1 rfl rfl (by decide) (by decide) 12 (hb hby own_d5_9) rfl ?_
  clear X eT; clear T; intro v T h6 L2 Lc X eT hL hQ7
  obtain ⟨rfl, Nq, K8⟩ := hQ7
  replace N : Fr n0 L2 := by rw [hL]; exact Fr.app N Nq
  clear Nq hL
  replace P0_Old := P0_Old.keep K8 (allS ge_b2 all0)
  replace P1_Arv := P1_Arv.keep K8 (ninS ne_b_b2 nin0)
  replace K0 := K0.trans K8 (allS (Or.inr sz_b2) all0)
  replace sz_h : h0.size ≤ h6.size := Nat.le_trans sz_h K8.1
  show Go p e below _ T (mkF m 12 #[.val (.ref b), .val (.int (0 : Int32)), .val (.int (1 : Int32)), .val (.ref b2), .unset, .unset] [(.int (0 : Int32))])
  refine gistore X hx #[.val (.ref b), .val (.int (0 : Int32)), .val (.int (1 : Int32)), .val (.ref b2), .val (.int (0 : Int32)), .unset] 14 (hb hby own_d5_12) rfl rfl ?_
  refine giload (v := (0 : Int32)) X hx 16 (hb hby own_d5_14) rfl rfl ?_
  refine giloadN (v := (1 : Int32)) X hx 17 (hb hby own_d5_16) rfl rfl ?_
  refine gicmpNo X hx 20 (hb hby own_d5_17) rfl (by decide) ?_
  refine galoadN (v := (.ref b)) X hx 21 (hb hby own_d5_20) rfl rfl rfl ?_
  refine giloadN (v := (0 : Int32)) X hx 22 (hb hby own_d5_21) rfl rfl ?_
  refine giloadN (v := (1 : Int32)) X hx 23 (hb hby own_d5_22) rfl rfl ?_
  refine gstatic (y := (⟨"java/lang/StringUTF16", "toBytes", "([CII)[B"⟩ : MethodName)) (argsL := [(.ref b), (.int (0 : Int32)), (.int (1 : Int32))]) (st := []) X hx hZ hown (own_w88 hw) (own_w89 hw) (own_w23 hw) (own_w90 hw) (by decide) (payP (W := 0) (rmTB1 l Z a0 hw (b) (kc) (c0) h6 n0 (Nat.le_trans Z0 sz_h) P0_Old P1_Arv (SA) (SH) (SLo)) hZ (own_w90 hw) (own_w23 hw) (by decide) (by decide)) eT (by rw [hml]; rfl) (lenOf own_pd4 rfl) rfl (Nat.le_of_eq rfl) 2 3 rfl rfl (by decide) (by decide) 26 (hb hby own_d5_23) rfl ?_
  clear X eT; clear T; intro v T h10 L2 Lc X eT hL hQ11
  obtain ⟨t_12, kb_13, rfl, Nq, K14, zz_t_12, G16⟩ := hQ11
  replace N : Fr n0 L2 := by rw [hL]; exact Fr.app N Nq
  clear Nq hL
  have ne_b_t_12 : b ≠ t_12 := Nat.ne_of_lt (Nat.lt_of_lt_of_le P1_Arv.lt zz_t_12)
  have ne_t_12_b : t_12 ≠ b := Ne.symm ne_b_t_12
  have sz_t_12 : h0.size ≤ t_12 := Nat.le_trans sz_h zz_t_12
  have ge_t_12 : n0 ≤ t_12 := Nat.le_trans Z0 sz_t_12
  replace P0_Old := P0_Old.keep K14 all0
  replace P1_Arv := P1_Arv.keep K14 nin0
  replace K0 := K0.trans K14 all0
  replace sz_h : h0.size ≤ h10.size := Nat.le_trans sz_h K14.1
  show Go p e below _ T (mkF m 26 #[.val (.ref b), .val (.int (0 : Int32)), .val (.int (1 : Int32)), .val (.ref b2), .val (.int (0 : Int32)), .unset] [(.ref t_12)])
  refine gastore X hx #[.val (.ref b), .val (.int (0 : Int32)), .val (.int (1 : Int32)), .val (.ref b2), .val (.int (0 : Int32)), .val (.ref t_12)] 28 (hb hby own_d5_26) rfl rfl rfl ?_
  refine gaload (v := (.ref t_12)) X hx 30 (hb hby own_d5_28) rfl rfl rfl ?_
  refine giload (v := (0 : Int32)) X hx 32 (hb hby own_d5_30) rfl rfl ?_
  refine gstatic (y := (⟨"java/lang/StringUTF16", "getChar", "([BI)C"⟩ : MethodName)) (argsL := [(.ref t_12), (.int (0 : Int32))]) (st := []) X hx hZ hown (own_w104 hw) (own_w105 hw) (own_w23 hw) (own_w106 hw) (by decide) (payP (W := 0) (rmGet1_0 l Z a0 hw (t_12) (kb_13) _ h10 n0 (Nat.le_trans Z0 sz_h) P0_Old G16 (SA) (SH) (SLo) (r0)) hZ (own_w106 hw) (own_w23 hw) (by decide) (by decide)) eT (by rw [hml]; rfl) (lenOf own_pd5 rfl) rfl (Nat.le_of_eq rfl) 2 3 rfl rfl (by decide) (by decide) 35 (hb hby own_d5_32) rfl ?_
  clear X eT; clear T; intro v T h17 L2 Lc X eT hL hQ18
  obtain ⟨rfl, Nq, hh⟩ := hQ18
  replace N : Fr n0 L2 := by rw [hL]; exact Fr.app N Nq
  clear Nq hL
  replace hh := hh.symm; subst hh
  show Go p e below _ T (mkF m 35 #[.val (.ref b), .val (.int (0 : Int32)), .val (.int (1 : Int32)), .val (.ref b2), .val (.int (0 : Int32)), .val (.ref t_12)] [(.int c0)])
  refine gsipush X hx (255 : Int32) 38 (hb hby own_d5_35) rfl rfl ?_
  refine gicmpYes X hx 54 (hb hby own_d5_38) (tlt s0).2.2.1 (by decide) (by decide) ?_
  refine gaload (v := (.ref t_12)) X hx 56 (hb hby own_d5_54) rfl rfl rfl ?_
  exact gRetP X hx hlk hret rfl (Or.inr (Or.inr (Or.inr (Or.inr ⟨rfl, rfl, rfl⟩)))) (hb hby own_d5_56) eT (by decide) (by decide) ⟨t_12, kb_13, rfl, N, K0, sz_t_12, G16⟩
set_option maxRecDepth 65536 in
set_option maxHeartbeats 40000000 in
theorem rmCL1 (l : Launch) (Z : State) (a0 : Array Value) (hw : ∀ d ∈ tables_1, d.before a0 Z = true) (t : Addr) (kb : ClassId) (vs0 : List Value) (h0 : Heap) (n0 : Nat) (Z0 : n0 ≤ h0.size) (P0_Arv : Arv Z h0 t kb .byte (2 : Int32) vs0 (.int 0)) :
    CtP l (⟨"java/lang/StringUTF16", "coderFromArrayLen", "([BI)B"⟩ : MethodName) jdk_52_method_15_code 2 (some .byte) [] ({ frames := 0, cells := 0, slots := 0, locals := 0 } : Room) Z #[(.ref t), (.int (1 : Int32))] h0 (fun v h L => v = some (.int (1 : Int32)) ∧ Fr n0 L ∧ h = h0) := by
  refine CtP.walk (Ls := #[.val (.ref t), .val (.int (1 : Int32))]) (plainFor_of_name own_pn0) (fun m => by first | (simp [entryFrame, mkF, argsToLocals, Value.category]; done) | rfl) ?_
  intro p e s m below meth cc_ T hx hby hml hown hnm hret hlk hZ X eT
  have N := Fr.nil n0
  have sz_h : h0.size ≤ h0.size := Nat.le_refl _
  refine giloadN (v := (1 : Int32)) X hx 1 (hb hby own_d7_0) rfl rfl ?_
  refine galoadN (v := (.ref t)) X hx 2 (hb hby own_d7_1) rfl rfl rfl ?_
  refine garrlen X hx hZ eT P0_Arv 3 (hb hby own_d7_2) rfl ?_
  refine gisub X hx 4 (hb hby own_d7_3) rfl ?_
  rw [show ((1 : Int32) - (2 : Int32)) = (-1 : Int32) from by decide]
  refine gbipush X hx (31 : Int32) 6 (hb hby own_d7_4) rfl rfl ?_
  refine giushr X hx 7 (hb hby own_d7_6) rfl ?_
  rw [show (((-1 : Int32).toUInt32 >>> ((31 : Int32) &&& 31).toUInt32).toInt32) = (1 : Int32) from by decide]
  refine gi2b X hx 8 (hb hby own_d7_7) rfl ?_
  rw [show ((1 : Int32).toInt8.toInt32) = (1 : Int32) from by decide]
  exact gRetP X hx hlk hret rfl (Or.inl ⟨rfl, by simp, _, rfl⟩) (hb hby own_d7_8) eT (by decide) (by decide) ⟨rfl, N, rfl⟩
set_option maxRecDepth 65536 in
set_option maxHeartbeats 40000000 in
theorem rmI4_1_0 (l : Launch) (Z : State) (a0 : Array Value) (hw : ∀ d ∈ tables_1, d.before a0 Z = true) (x : Addr) (b : Addr) (kc : ClassId) (y0 : Value) (y1 : Value) (G1 : Int32) (c0 : Int32) (h0 : Heap) (n0 : Nat) (Z0 : n0 ≤ h0.size) (ge_x : n0 ≤ x) (P0_Old : Old Z n0 h0) (P1_Exa : Exa Z h0 x "java/lang/String") (P2_Fld : Fld Z h0 x "java/lang/String" "value" "[B" y0) (P3_Fld : Fld Z h0 x "java/lang/String" "coder" "B" y1) (P4_Arv : Arv Z h0 b kc .char (1 : Int32) [(.int c0)] (.int 0)) (O2 : Sta Z Z.heap "java/lang/String" "COMPACT_STRINGS" "Z" (.int G1)) (P5 : ¬ G1 = (0 : Int32)) (SA : Sta Z Z.heap "java/lang/StringUTF16" "$assertionsDisabled" "Z" (.int 1)) (SH : Sta Z Z.heap "java/lang/StringUTF16" "HI_BYTE_SHIFT" "I" (.int 0)) (SLo : Sta Z Z.heap "java/lang/StringUTF16" "LO_BYTE_SHIFT" "I" (.int 8)) (r0 : ¬ c0 < 0 ∧ ¬ (65535 : Int32) < c0) (s0 : (255 : Int32) < c0) :
    CtP l (⟨"java/lang/String", "<init>", "([CIILjava/lang/Void;)V"⟩ : MethodName) jdk_42_method_149_code 6 none [] ({ frames := 4, cells := 2, slots := 3, locals := 57 } : Room) Z #[(.ref x), (.ref b), (.int (0 : Int32)), (.int (1 : Int32)), .null] h0 (fun v h L => ∃ (t : Addr), ∃ (kb : ClassId), v = none ∧ Fr n0 L ∧ Keep h0 h [x] ∧ h0.size ≤ t ∧ Fld Z h x "java/lang/String" "coder" "B" (.int (1 : Int32)) ∧ Fld Z h x "java/lang/String" "value" "[B" (.ref t) ∧ Arv Z h t kb .byte (2 : Int32) [(.int (StrChars.lo8 c0)), (.int (StrChars.hi8 c0))] (.int 0)) := by
  refine CtP.walk (Ls := #[.val (.ref x), .val (.ref b), .val (.int (0 : Int32)), .val (.int (1 : Int32)), .val .null, .unset]) own_pn1 (fun m => by first | (simp [entryFrame, mkF, argsToLocals, Value.category]; done) | rfl) ?_
  intro p e s m below meth cc_ T hx hby hml hown hnm hret hlk hZ X eT
  have N := Fr.nil n0
  have K0 := Keep.refl h0 [x]
  have sz_h : h0.size ≤ h0.size := Nat.le_refl _
  refine galoadN (v := (.ref x)) X hx 1 (hb hby own_d3_0) rfl rfl rfl ?_
  refine ginitO X hx hZ hown (own_w17 hw) (own_w18 hw) (own_w19 hw) eT (by rw [hml]; rfl) (by decide) 0 (Nat.le_of_eq rfl) (by decide) 4 (hb hby own_d3_1) rfl ?_
  clear X eT; clear T; intro T X eT
  refine giloadN (v := (1 : Int32)) X hx 5 (hb hby own_d3_4) rfl rfl ?_
  refine gifYes X hx 27 (hb hby own_d3_5) (by decide) (by decide) (by decide) ?_
  refine ggetS X hx hZ (host := "") hown (Or.inl (own_w20 hw)) Via.refl eT (O2.ext P0_Old.2) 30 (hb hby own_d3_27) rfl ?_
  clear X eT; clear T; intro T X eT
  refine gifNo X hx 33 (hb hby own_d3_30) rfl ((if0 _ _).trans (feq P5).1) ?_
  refine galoadN (v := (.ref b)) X hx 34 (hb hby own_d3_33) rfl rfl rfl ?_
  refine giloadN (v := (0 : Int32)) X hx 35 (hb hby own_d3_34) rfl rfl ?_
  refine giloadN (v := (1 : Int32)) X hx 36 (hb hby own_d3_35) rfl rfl ?_
  refine gstatic (y := (⟨"java/lang/StringUTF16", "compress", "([CII)[B"⟩ : MethodName)) (argsL := [(.ref b), (.int (0 : Int32)), (.int (1 : Int32))]) (st := []) X hx hZ hown (own_w21 hw) (own_w22 hw) (own_w23 hw) (own_w24 hw) (by decide) (payP (W := 0) (rmC3_1_0 l Z a0 hw (b) (kc) (c0) h0 n0 (Nat.le_trans Z0 sz_h) P0_Old P4_Arv (SA) (SH) (SLo) (r0) (s0)) hZ (own_w24 hw) (own_w23 hw) (by decide) (by decide)) eT (by rw [hml]; rfl) (lenOf own_pd4 rfl) rfl (Nat.le_of_eq rfl) 2 3 rfl rfl (by decide) (by decide) 39 (hb hby own_d3_36) rfl ?_
  clear X eT; clear T; intro v T h1 L2 Lc X eT hL hQ2
  obtain ⟨t_3, kb_4, rfl, Nq, K5, zz_t_3, G7⟩ := hQ2
  replace N : Fr n0 L2 := by rw [hL]; exact Fr.app N Nq
  clear Nq hL
  have ne_x_t_3 : x ≠ t_3 := Nat.ne_of_lt (Nat.lt_of_lt_of_le P1_Exa.lt zz_t_3)
  have ne_t_3_x : t_3 ≠ x := Ne.symm ne_x_t_3
  have ne_b_t_3 : b ≠ t_3 := Nat.ne_of_lt (Nat.lt_of_lt_of_le P4_Arv.lt zz_t_3)
  have ne_t_3_b : t_3 ≠ b := Ne.symm ne_b_t_3
  have sz_t_3 : h0.size ≤ t_3 := Nat.le_trans sz_h zz_t_3
  have ge_t_3 : n0 ≤ t_3 := Nat.le_trans Z0 sz_t_3
  replace P0_Old := P0_Old.keep K5 all0
  replace P1_Exa := P1_Exa.keep K5
  replace P2_Fld := P2_Fld.keep K5 nin0
  replace P3_Fld := P3_Fld.keep K5 nin0
  replace P4_Arv := P4_Arv.keep K5 nin0
  replace K0 := K0.trans K5 all0
  replace sz_h : h0.size ≤ h1.size := Nat.le_trans sz_h K5.1
  show Go p e below _ T (mkF m 39 #[.val (.ref x), .val (.ref b), .val (.int (0 : Int32)), .val (.int (1 : Int32)), .val .null, .unset] [(.ref t_3)])
  refine gastore X hx #[.val (.ref x), .val (.ref b), .val (.int (0 : Int32)), .val (.int (1 : Int32)), .val .null, .val (.ref t_3)] 41 (hb hby own_d3_39) rfl rfl rfl ?_
  refine galoadN (v := (.ref x)) X hx 42 (hb hby own_d3_41) rfl rfl rfl ?_
  refine gaload (v := (.ref t_3)) X hx 44 (hb hby own_d3_42) rfl rfl rfl ?_
  refine giloadN (v := (1 : Int32)) X hx 45 (hb hby own_d3_44) rfl rfl ?_
  refine gstatic (y := (⟨"java/lang/StringUTF16", "coderFromArrayLen", "([BI)B"⟩ : MethodName)) (argsL := [(.ref t_3), (.int (1 : Int32))]) (st := [(.ref x)]) X hx hZ hown (own_w29 hw) (own_w30 hw) (own_w23 hw) (own_w31 hw) (by decide) (payP (W := 1) (rmCL1 l Z a0 hw (t_3) (kb_4) ([(.int (StrChars.lo8 c0)), (.int (StrChars.hi8 c0))]) h1 n0 (Nat.le_trans Z0 sz_h) G7) hZ (own_w31 hw) (own_w23 hw) (by decide) (by decide)) eT (by rw [hml]; rfl) (lenOf own_pd6 rfl) rfl (Nat.le_of_eq rfl) 2 3 rfl rfl (by decide) (by decide) 48 (hb hby own_d3_45) rfl ?_
  clear X eT; clear T; intro v T h8 L2 Lc X eT hL hQ9
  obtain ⟨rfl, Nq, hh⟩ := hQ9
  replace N : Fr n0 L2 := by rw [hL]; exact Fr.app N Nq
  clear Nq hL
  replace hh := hh.symm; subst hh
  show Go p e below _ T (mkF m 48 #[.val (.ref x), .val (.ref b), .val (.int (0 : Int32)), .val (.int (1 : Int32)), .val .null, .val (.ref t_3)] [(.int (1 : Int32)), (.ref x)])
  refine gputF X hx hZ (host := "") hown (Or.inl (own_w32 hw)) Via.refl eT P3_Fld P1_Exa (Or.inr ⟨(own_w33 hw), rfl, hnm⟩) (own_w8 hw) (ty := .byte) own_pf0 rfl rfl N ge_x 51 (hb hby own_d3_48) rfl ?_
  clear X eT N; clear T; intro T h12 L X eT N W13
  have ne_b_x : b ≠ x := Ne.symm (Exa.neArv P1_Exa P4_Arv (own_w8 hw))
  replace P0_Old := P0_Old.wr W13 ge_x
  replace P1_Exa := P1_Exa.wr W13
  replace P2_Fld := P2_Fld.other W13 (Or.inr (slot_ne (Or.inr (own_w35 hw)) (Or.inr (own_w33 hw)) (by decide) own_pf1 own_pf0))
  replace P3_Fld := P3_Fld.same W13
  replace P4_Arv := P4_Arv.other W13 ne_b_x
  replace G7 := G7.other W13 ne_t_3_x
  replace K0 := K0.wr W13 (Or.inl (List.mem_of_getElem? (i := 0) rfl))
  replace sz_h : h0.size ≤ h12.size := by rw [Wr.size W13]; exact sz_h
  refine galoadN (v := (.ref x)) X hx 52 (hb hby own_d3_51) rfl rfl rfl ?_
  refine gaload (v := (.ref t_3)) X hx 54 (hb hby own_d3_52) rfl rfl rfl ?_
  refine gputF X hx hZ (host := "") hown (Or.inl (own_w34 hw)) Via.refl eT P2_Fld P1_Exa (Or.inr ⟨(own_w35 hw), rfl, hnm⟩) (own_w8 hw) (ty := (.array .byte)) own_pf1 rfl rfl N ge_x 57 (hb hby own_d3_54) rfl ?_
  clear X eT N; clear T; intro T h14 L X eT N W15
  replace P0_Old := P0_Old.wr W15 ge_x
  replace P1_Exa := P1_Exa.wr W15
  replace P2_Fld := P2_Fld.same W15
  replace P3_Fld := P3_Fld.other W15 (Or.inr (slot_ne (Or.inr (own_w33 hw)) (Or.inr (own_w35 hw)) (by decide) own_pf0 own_pf1))
  replace P4_Arv := P4_Arv.other W15 ne_b_x
  replace G7 := G7.other W15 ne_t_3_x
  replace K0 := K0.wr W15 (Or.inl (List.mem_of_getElem? (i := 0) rfl))
  replace sz_h : h0.size ≤ h14.size := by rw [Wr.size W15]; exact sz_h
  exact gRetP0 X hx hlk hret (hb hby own_d3_57) eT (by decide) (by decide) ⟨t_3, kb_4, rfl, N, K0, sz_t_3, P3_Fld, P2_Fld, G7⟩
set_option maxRecDepth 65536 in
set_option maxHeartbeats 40000000 in
theorem rmI1_1_0 (l : Launch) (Z : State) (a0 : Array Value) (hw : ∀ d ∈ tables_1, d.before a0 Z = true) (x : Addr) (b : Addr) (kc : ClassId) (y0 : Value) (y1 : Value) (G1 : Int32) (c0 : Int32) (h0 : Heap) (n0 : Nat) (Z0 : n0 ≤ h0.size) (ge_x : n0 ≤ x) (P0_Old : Old Z n0 h0) (P1_Exa : Exa Z h0 x "java/lang/String") (P2_Fld : Fld Z h0 x "java/lang/String" "value" "[B" y0) (P3_Fld : Fld Z h0 x "java/lang/String" "coder" "B" y1) (P4_Arv : Arv Z h0 b kc .char (1 : Int32) [(.int c0)] (.int 0)) (O2 : Sta Z Z.heap "java/lang/String" "COMPACT_STRINGS" "Z" (.int G1)) (P5 : ¬ G1 = (0 : Int32)) (SA : Sta Z Z.heap "java/lang/StringUTF16" "$assertionsDisabled" "Z" (.int 1)) (SH : Sta Z Z.heap "java/lang/StringUTF16" "HI_BYTE_SHIFT" "I" (.int 0)) (SLo : Sta Z Z.heap "java/lang/StringUTF16" "LO_BYTE_SHIFT" "I" (.int 8)) (r0 : ¬ c0 < 0 ∧ ¬ (65535 : Int32) < c0) (s0 : (255 : Int32) < c0) :
    CtP l (⟨"java/lang/String", "<init>", "([C)V"⟩ : MethodName) jdk_42_method_3_code 2 none [] ({ frames := 5, cells := 2, slots := 3, locals := 74 } : Room) Z #[(.ref x), (.ref b)] h0 (fun v h L => ∃ (t : Addr), ∃ (kb : ClassId), v = none ∧ Fr n0 L ∧ Keep h0 h [x] ∧ h0.size ≤ t ∧ Fld Z h x "java/lang/String" "coder" "B" (.int (1 : Int32)) ∧ Fld Z h x "java/lang/String" "value" "[B" (.ref t) ∧ Arv Z h t kb .byte (2 : Int32) [(.int (StrChars.lo8 c0)), (.int (StrChars.hi8 c0))] (.int 0)) := by
  refine CtP.walk (Ls := #[.val (.ref x), .val (.ref b)]) own_pn2 (fun m => by first | (simp [entryFrame, mkF, argsToLocals, Value.category]; done) | rfl) ?_
  intro p e s m below meth cc_ T hx hby hml hown hnm hret hlk hZ X eT
  have N := Fr.nil n0
  have K0 := Keep.refl h0 [x]
  have sz_h : h0.size ≤ h0.size := Nat.le_refl _
  refine galoadN (v := (.ref x)) X hx 1 (hb hby own_d2_0) rfl rfl rfl ?_
  refine galoadN (v := (.ref b)) X hx 2 (hb hby own_d2_1) rfl rfl rfl ?_
  refine giconst X hx (0 : Int32) 3 (hb hby own_d2_2) rfl rfl ?_
  refine galoadN (v := (.ref b)) X hx 4 (hb hby own_d2_3) rfl rfl rfl ?_
  refine garrlen X hx hZ eT P4_Arv 5 (hb hby own_d2_4) rfl ?_
  refine gaconstNull X hx 6 (hb hby own_d2_5) rfl ?_
  refine gspecial (y := (⟨"java/lang/String", "<init>", "([CIILjava/lang/Void;)V"⟩ : MethodName)) (a := x) (argsL := [(.ref b), (.int (0 : Int32)), (.int (1 : Int32)), .null]) (st := []) X hx hZ hown rfl (own_w13 hw) (own_w14 hw) (own_w16 hw) (by decide) (payP (W := 0) (rmI4_1_0 l Z a0 hw (x) (b) (kc) (y0) (y1) _ (c0) h0 n0 (Nat.le_trans Z0 sz_h) ge_x P0_Old P1_Exa P2_Fld P3_Fld P4_Arv (O2) (P5) (SA) (SH) (SLo) (r0) (s0)) hZ (own_w16 hw) (own_w9 hw) (by decide) (by decide)) eT (by rw [hml]; rfl) (lenOf own_pd7 rfl) rfl (Nat.le_of_eq rfl) 2 3 rfl rfl (by decide) (by decide) 9 (hb hby own_d2_6) rfl ?_
  clear X eT; clear T; intro v T h1 L2 Lc X eT hL hQ2
  obtain ⟨t_3, kb_4, rfl, Nq, K5, zz_t_3, G7, G8, G9⟩ := hQ2
  replace N : Fr n0 L2 := by rw [hL]; exact Fr.app N Nq
  clear Nq hL
  have ne_x_t_3 : x ≠ t_3 := Nat.ne_of_lt (Nat.lt_of_lt_of_le P1_Exa.lt zz_t_3)
  have ne_t_3_x : t_3 ≠ x := Ne.symm ne_x_t_3
  have ne_b_t_3 : b ≠ t_3 := Nat.ne_of_lt (Nat.lt_of_lt_of_le P4_Arv.lt zz_t_3)
  have ne_t_3_b : t_3 ≠ b := Ne.symm ne_b_t_3
  have sz_t_3 : h0.size ≤ t_3 := Nat.le_trans sz_h zz_t_3
  have ge_t_3 : n0 ≤ t_3 := Nat.le_trans Z0 sz_t_3
  have ne_b_x : b ≠ x := Ne.symm (Exa.neArv P1_Exa P4_Arv (own_w8 hw))
  replace P0_Old := P0_Old.keep K5 (allS ge_x all0)
  replace P1_Exa := P1_Exa.keep K5
  replace P4_Arv := P4_Arv.keep K5 (ninS ne_b_x nin0)
  replace K0 := K0.trans K5 (allS (Or.inl (List.mem_of_getElem? (i := 0) rfl)) all0)
  replace sz_h : h0.size ≤ h1.size := Nat.le_trans sz_h K5.1
  show Go p e below _ T (mkF m 9 #[.val (.ref x), .val (.ref b)] [])
  exact gRetP0 X hx hlk hret (hb hby own_d2_9) eT (by decide) (by decide) ⟨t_3, kb_4, rfl, N, K0, sz_t_3, G7, G8, G9⟩
set_option maxRecDepth 65536 in
set_option maxHeartbeats 40000000 in
theorem rmNBL2 (l : Launch) (Z : State) (a0 : Array Value) (hw : ∀ d ∈ tables_1, d.before a0 Z = true) (h0 : Heap) (n0 : Nat) (Z0 : n0 ≤ h0.size) :
    CtP l (⟨"java/lang/StringUTF16", "newBytesLength", "(I)I"⟩ : MethodName) jdk_52_method_3_code 1 (some .int) [] ({ frames := 0, cells := 0, slots := 0, locals := 0 } : Room) Z #[(.int (2 : Int32))] h0 (fun v h L => v = some (.int (4 : Int32)) ∧ Fr n0 L ∧ h = h0) := by
  refine CtP.walk (Ls := #[.val (.int (2 : Int32))]) (plainFor_of_name own_pn0) (fun m => by first | (simp [entryFrame, mkF, argsToLocals, Value.category]; done) | rfl) ?_
  intro p e s m below meth cc_ T hx hby hml hown hnm hret hlk hZ X eT
  have N := Fr.nil n0
  have sz_h : h0.size ≤ h0.size := Nat.le_refl _
  refine giloadN (v := (2 : Int32)) X hx 1 (hb hby own_d20_0) rfl rfl ?_
  refine gifYes X hx 12 (hb hby own_d20_1) (by decide) (by decide) (by decide) ?_
  refine giloadN (v := (2 : Int32)) X hx 13 (hb hby own_d20_12) rfl rfl ?_
  refine gldcI X hx hZ hown (own_w97 hw) 15 (hb hby own_d20_13) rfl ?_
  refine gicmpYes X hx 55 (hb hby own_d20_15) (by decide) (by decide) (by decide) ?_
  refine giloadN (v := (2 : Int32)) X hx 56 (hb hby own_d20_55) rfl rfl ?_
  refine giconst X hx (1 : Int32) 57 (hb hby own_d20_56) rfl rfl ?_
  refine gishl X hx 58 (hb hby own_d20_57) rfl ?_
  rw [show ((2 : Int32) <<< ((1 : Int32) &&& 31)) = (4 : Int32) from by decide]
  exact gRetP X hx hlk hret rfl (Or.inl ⟨rfl, by simp, _, rfl⟩) (hb hby own_d20_58) eT (by decide) (by decide) ⟨rfl, N, rfl⟩
set_option maxRecDepth 65536 in
set_option maxHeartbeats 40000000 in
theorem rmNBF2 (l : Launch) (Z : State) (a0 : Array Value) (hw : ∀ d ∈ tables_1, d.before a0 Z = true) (h0 : Heap) (n0 : Nat) (Z0 : n0 ≤ h0.size) :
    CtP l (⟨"java/lang/StringUTF16", "newBytesFor", "(I)[B"⟩ : MethodName) jdk_52_method_2_code 1 (some (.array .byte)) [] ({ frames := 1, cells := 1, slots := 4, locals := 12 } : Room) Z #[(.int (2 : Int32))] h0 (fun v h L => ∃ (t : Addr), ∃ (kb : ClassId), v = some (.ref t) ∧ Fr n0 L ∧ Keep h0 h [] ∧ h0.size ≤ t ∧ Arv Z h t kb .byte (4 : Int32) [(.int (0 : Int32)), (.int (0 : Int32)), (.int (0 : Int32)), (.int (0 : Int32))] (.int 0)) := by
  refine CtP.walk (Ls := #[.val (.int (2 : Int32))]) (plainFor_of_name own_pn0) (fun m => by first | (simp [entryFrame, mkF, argsToLocals, Value.category]; done) | rfl) ?_
  intro p e s m below meth cc_ T hx hby hml hown hnm hret hlk hZ X eT
  have N := Fr.nil n0
  have K0 := Keep.refl h0 []
  have sz_h : h0.size ≤ h0.size := Nat.le_refl _
  refine giloadN (v := (2 : Int32)) X hx 1 (hb hby own_d19_0) rfl rfl ?_
  refine gstatic (y := (⟨"java/lang/StringUTF16", "newBytesLength", "(I)I"⟩ : MethodName)) (argsL := [(.int (2 : Int32))]) (st := []) X hx hZ hown (own_w94 hw) (own_w95 hw) (own_w23 hw) (own_w96 hw) (by decide) (payP (W := 0) (rmNBL2 l Z a0 hw h0 n0 (Nat.le_trans Z0 sz_h)) hZ (own_w96 hw) (own_w23 hw) (by decide) (by decide)) eT (by rw [hml]; rfl) (lenOf own_pd0 rfl) rfl (Nat.le_of_eq rfl) 0 0 rfl rfl (by decide) (by decide) 4 (hb hby own_d19_1) rfl ?_
  clear X eT; clear T; intro v T h1 L2 Lc X eT hL hQ2
  obtain ⟨rfl, Nq, hh⟩ := hQ2
  replace N : Fr n0 L2 := by rw [hL]; exact Fr.app N Nq
  clear Nq hL
  replace hh := hh.symm; subst hh
  show Go p e below _ T (mkF m 4 #[.val (.int (2 : Int32))] [(.int (4 : Int32))])
  refine gnewP (aty := .byte) X hx hZ (own_w25 hw) eT (n := (4 : Int32)) (by decide) 4 (by decide) (by decide) 1 4 rfl rfl (by decide) (by decide) 6 (hb hby own_d19_4) rfl ?_
  clear X eT; clear T; intro T h5 b6 kc9 X eT ga E7 V8
  have le_a := Nat.le_of_eq ga.symm
  have sz_b6 : h0.size ≤ b6 := Nat.le_trans sz_h le_a
  have ge_b6 : n0 ≤ b6 := Nat.le_trans Z0 sz_b6
  clear le_a ga
  replace K0 := K0.ext E7
  replace sz_h : h0.size ≤ h5.size := Nat.le_trans sz_h E7.1
  replace V8 : Arv Z h5 b6 kc9 .byte (4 : Int32) [(.int (0 : Int32)), (.int (0 : Int32)), (.int (0 : Int32)), (.int (0 : Int32))] (.int 0) := V8.pad (pad_rep [] _ 4)
  exact gRetP X hx hlk hret rfl (Or.inr (Or.inr (Or.inr (Or.inr ⟨rfl, rfl, rfl⟩)))) (hb hby own_d19_6) eT (by decide) (by decide) ⟨b6, kc9, rfl, N, K0, sz_b6, V8⟩
set_option maxRecDepth 65536 in
set_option maxHeartbeats 40000000 in
theorem rmPut2_0 (l : Launch) (Z : State) (a0 : Array Value) (hw : ∀ d ∈ tables_1, d.before a0 Z = true) (t : Addr) (c : Int32) (kb : ClassId) (u0 : Value) (u1 : Value) (u2 : Value) (u3 : Value) (h0 : Heap) (n0 : Nat) (Z0 : n0 ≤ h0.size) (ge_t : n0 ≤ t) (P0_Old : Old Z n0 h0) (P1_Arv : Arv Z h0 t kb .byte (4 : Int32) [u0, u1, u2, u3] (.int 0)) (SA : Sta Z Z.heap "java/lang/StringUTF16" "$assertionsDisabled" "Z" (.int 1)) (SH : Sta Z Z.heap "java/lang/StringUTF16" "HI_BYTE_SHIFT" "I" (.int 0)) (SLo : Sta Z Z.heap "java/lang/StringUTF16" "LO_BYTE_SHIFT" "I" (.int 8)) :
    CtP l (⟨"java/lang/StringUTF16", "putChar", "([BII)V"⟩ : MethodName) jdk_52_method_4_code 3 none [] ({ frames := 0, cells := 0, slots := 0, locals := 0 } : Room) Z #[(.ref t), (.int (0 : Int32)), (.int c)] h0 (fun v h L => v = none ∧ Fr n0 L ∧ Keep h0 h [t] ∧ Arv Z h t kb .byte (4 : Int32) [(.int (StrChars.lo8 c)), (.int (StrChars.hi8 c)), u2, u3] (.int 0)) := by
  refine CtP.walk (Ls := #[.val (.ref t), .val (.int (0 : Int32)), .val (.int c)]) (plainFor_of_name own_pn0) (fun m => by first | (simp [entryFrame, mkF, argsToLocals, Value.category]; done) | rfl) ?_
  intro p e s m below meth cc_ T hx hby hml hown hnm hret hlk hZ X eT
  have N := Fr.nil n0
  have K0 := Keep.refl h0 [t]
  have sz_h : h0.size ≤ h0.size := Nat.le_refl _
  refine ggetS X hx hZ (host := "") hown (Or.inl (own_w101 hw)) Via.refl eT (SA.ext P0_Old.2) 3 (hb hby own_d21_0) rfl ?_
  clear X eT; clear T; intro T X eT
  refine gifYes X hx 28 (hb hby own_d21_3) (by decide) (by decide) (by decide) ?_
  refine giloadN (v := (0 : Int32)) X hx 29 (hb hby own_d21_28) rfl rfl ?_
  refine giconst X hx (1 : Int32) 30 (hb hby own_d21_29) rfl rfl ?_
  refine gishl X hx 31 (hb hby own_d21_30) rfl ?_
  rw [show ((0 : Int32) <<< ((1 : Int32) &&& 31)) = (0 : Int32) from by decide]
  refine gistoreN X hx #[.val (.ref t), .val (.int (0 : Int32)), .val (.int c)] 32 (hb hby own_d21_31) rfl rfl ?_
  refine galoadN (v := (.ref t)) X hx 33 (hb hby own_d21_32) rfl rfl rfl ?_
  refine giloadN (v := (0 : Int32)) X hx 34 (hb hby own_d21_33) rfl rfl ?_
  refine giinc X hx #[.val (.ref t), .val (.int (1 : Int32)), .val (.int c)] 37 (hb hby own_d21_34) rfl rfl rfl ?_
  refine giloadN (v := c) X hx 38 (hb hby own_d21_37) rfl rfl ?_
  refine ggetS X hx hZ (host := "") hown (Or.inl (own_w102 hw)) Via.refl eT (SH.ext P0_Old.2) 41 (hb hby own_d21_38) rfl ?_
  clear X eT; clear T; intro T X eT
  refine gishr X hx 42 (hb hby own_d21_41) rfl ?_
  refine gi2b X hx 43 (hb hby own_d21_42) rfl ?_
  rw [own_lo0]
  show Go p e below _ T (mkF m 43 #[.val (.ref t), .val (.int (1 : Int32)), .val (.int c)] [(.int (StrChars.lo8 c)), (.int (0 : Int32)), (.ref t)])
  refine gbastore X hx hZ eT P1_Arv (by decide) (by decide) 0 rfl (Nat.le_of_ble_eq_true rfl) N ge_t 44 (hb hby own_d21_43) rfl ?_
  clear X eT N; clear T; intro T h2 L X eT N W1 V3
  replace P0_Old := P0_Old.wr W1 ge_t
  replace K0 := K0.wr W1 (Or.inl (List.mem_of_getElem? (i := 0) rfl))
  replace sz_h : h0.size ≤ h2.size := by rw [Wr.size W1]; exact sz_h
  replace V3 : Arv Z h2 t kb .byte (4 : Int32) [(.int (StrChars.lo8 c)), u1, u2, u3] (.int 0) := by have z := V3; rw [own_narlo] at z; exact z
  refine galoadN (v := (.ref t)) X hx 45 (hb hby own_d21_44) rfl rfl rfl ?_
  refine giloadN (v := (1 : Int32)) X hx 46 (hb hby own_d21_45) rfl rfl ?_
  refine giloadN (v := c) X hx 47 (hb hby own_d21_46) rfl rfl ?_
  refine ggetS X hx hZ (host := "") hown (Or.inl (own_w103 hw)) Via.refl eT (SLo.ext P0_Old.2) 50 (hb hby own_d21_47) rfl ?_
  clear X eT; clear T; intro T X eT
  refine gishr X hx 51 (hb hby own_d21_50) rfl ?_
  refine gi2b X hx 52 (hb hby own_d21_51) rfl ?_
  rw [own_hi8]
  show Go p e below _ T (mkF m 52 #[.val (.ref t), .val (.int (1 : Int32)), .val (.int c)] [(.int (StrChars.hi8 c)), (.int (1 : Int32)), (.ref t)])
  refine gbastore X hx hZ eT V3 (by decide) (by decide) 1 rfl (Nat.le_of_ble_eq_true rfl) N ge_t 53 (hb hby own_d21_52) rfl ?_
  clear X eT N; clear T; intro T h5 L X eT N W4 V6
  replace P0_Old := P0_Old.wr W4 ge_t
  replace K0 := K0.wr W4 (Or.inl (List.mem_of_getElem? (i := 0) rfl))
  replace sz_h : h0.size ≤ h5.size := by rw [Wr.size W4]; exact sz_h
  replace V6 : Arv Z h5 t kb .byte (4 : Int32) [(.int (StrChars.lo8 c)), (.int (StrChars.hi8 c)), u2, u3] (.int 0) := by have z := V6; rw [own_narhi] at z; exact z
  exact gRetP0 X hx hlk hret (hb hby own_d21_53) eT (by decide) (by decide) ⟨rfl, N, K0, V6⟩
set_option maxRecDepth 65536 in
set_option maxHeartbeats 40000000 in
theorem rmPut2_1 (l : Launch) (Z : State) (a0 : Array Value) (hw : ∀ d ∈ tables_1, d.before a0 Z = true) (t : Addr) (c : Int32) (kb : ClassId) (u0 : Value) (u1 : Value) (u2 : Value) (u3 : Value) (h0 : Heap) (n0 : Nat) (Z0 : n0 ≤ h0.size) (ge_t : n0 ≤ t) (P0_Old : Old Z n0 h0) (P1_Arv : Arv Z h0 t kb .byte (4 : Int32) [u0, u1, u2, u3] (.int 0)) (SA : Sta Z Z.heap "java/lang/StringUTF16" "$assertionsDisabled" "Z" (.int 1)) (SH : Sta Z Z.heap "java/lang/StringUTF16" "HI_BYTE_SHIFT" "I" (.int 0)) (SLo : Sta Z Z.heap "java/lang/StringUTF16" "LO_BYTE_SHIFT" "I" (.int 8)) :
    CtP l (⟨"java/lang/StringUTF16", "putChar", "([BII)V"⟩ : MethodName) jdk_52_method_4_code 3 none [] ({ frames := 0, cells := 0, slots := 0, locals := 0 } : Room) Z #[(.ref t), (.int (1 : Int32)), (.int c)] h0 (fun v h L => v = none ∧ Fr n0 L ∧ Keep h0 h [t] ∧ Arv Z h t kb .byte (4 : Int32) [u0, u1, (.int (StrChars.lo8 c)), (.int (StrChars.hi8 c))] (.int 0)) := by
  refine CtP.walk (Ls := #[.val (.ref t), .val (.int (1 : Int32)), .val (.int c)]) (plainFor_of_name own_pn0) (fun m => by first | (simp [entryFrame, mkF, argsToLocals, Value.category]; done) | rfl) ?_
  intro p e s m below meth cc_ T hx hby hml hown hnm hret hlk hZ X eT
  have N := Fr.nil n0
  have K0 := Keep.refl h0 [t]
  have sz_h : h0.size ≤ h0.size := Nat.le_refl _
  refine ggetS X hx hZ (host := "") hown (Or.inl (own_w101 hw)) Via.refl eT (SA.ext P0_Old.2) 3 (hb hby own_d21_0) rfl ?_
  clear X eT; clear T; intro T X eT
  refine gifYes X hx 28 (hb hby own_d21_3) (by decide) (by decide) (by decide) ?_
  refine giloadN (v := (1 : Int32)) X hx 29 (hb hby own_d21_28) rfl rfl ?_
  refine giconst X hx (1 : Int32) 30 (hb hby own_d21_29) rfl rfl ?_
  refine gishl X hx 31 (hb hby own_d21_30) rfl ?_
  rw [show ((1 : Int32) <<< ((1 : Int32) &&& 31)) = (2 : Int32) from by decide]
  refine gistoreN X hx #[.val (.ref t), .val (.int (2 : Int32)), .val (.int c)] 32 (hb hby own_d21_31) rfl rfl ?_
  refine galoadN (v := (.ref t)) X hx 33 (hb hby own_d21_32) rfl rfl rfl ?_
  refine giloadN (v := (2 : Int32)) X hx 34 (hb hby own_d21_33) rfl rfl ?_
  refine giinc X hx #[.val (.ref t), .val (.int (3 : Int32)), .val (.int c)] 37 (hb hby own_d21_34) rfl rfl rfl ?_
  refine giloadN (v := c) X hx 38 (hb hby own_d21_37) rfl rfl ?_
  refine ggetS X hx hZ (host := "") hown (Or.inl (own_w102 hw)) Via.refl eT (SH.ext P0_Old.2) 41 (hb hby own_d21_38) rfl ?_
  clear X eT; clear T; intro T X eT
  refine gishr X hx 42 (hb hby own_d21_41) rfl ?_
  refine gi2b X hx 43 (hb hby own_d21_42) rfl ?_
  rw [own_lo0]
  show Go p e below _ T (mkF m 43 #[.val (.ref t), .val (.int (3 : Int32)), .val (.int c)] [(.int (StrChars.lo8 c)), (.int (2 : Int32)), (.ref t)])
  refine gbastore X hx hZ eT P1_Arv (by decide) (by decide) 2 rfl (Nat.le_of_ble_eq_true rfl) N ge_t 44 (hb hby own_d21_43) rfl ?_
  clear X eT N; clear T; intro T h2 L X eT N W1 V3
  replace P0_Old := P0_Old.wr W1 ge_t
  replace K0 := K0.wr W1 (Or.inl (List.mem_of_getElem? (i := 0) rfl))
  replace sz_h : h0.size ≤ h2.size := by rw [Wr.size W1]; exact sz_h
  replace V3 : Arv Z h2 t kb .byte (4 : Int32) [u0, u1, (.int (StrChars.lo8 c)), u3] (.int 0) := by have z := V3; rw [own_narlo] at z; exact z
  refine galoadN (v := (.ref t)) X hx 45 (hb hby own_d21_44) rfl rfl rfl ?_
  refine giloadN (v := (3 : Int32)) X hx 46 (hb hby own_d21_45) rfl rfl ?_
  refine giloadN (v := c) X hx 47 (hb hby own_d21_46) rfl rfl ?_
  refine ggetS X hx hZ (host := "") hown (Or.inl (own_w103 hw)) Via.refl eT (SLo.ext P0_Old.2) 50 (hb hby own_d21_47) rfl ?_
  clear X eT; clear T; intro T X eT
  refine gishr X hx 51 (hb hby own_d21_50) rfl ?_
  refine gi2b X hx 52 (hb hby own_d21_51) rfl ?_
  rw [own_hi8]
  show Go p e below _ T (mkF m 52 #[.val (.ref t), .val (.int (3 : Int32)), .val (.int c)] [(.int (StrChars.hi8 c)), (.int (3 : Int32)), (.ref t)])
  refine gbastore X hx hZ eT V3 (by decide) (by decide) 3 rfl (Nat.le_of_ble_eq_true rfl) N ge_t 53 (hb hby own_d21_52) rfl ?_
  clear X eT N; clear T; intro T h5 L X eT N W4 V6
  replace P0_Old := P0_Old.wr W4 ge_t
  replace K0 := K0.wr W4 (Or.inl (List.mem_of_getElem? (i := 0) rfl))
  replace sz_h : h0.size ≤ h5.size := by rw [Wr.size W4]; exact sz_h
  replace V6 : Arv Z h5 t kb .byte (4 : Int32) [u0, u1, (.int (StrChars.lo8 c)), (.int (StrChars.hi8 c))] (.int 0) := by have z := V6; rw [own_narhi] at z; exact z
  exact gRetP0 X hx hlk hret (hb hby own_d21_53) eT (by decide) (by decide) ⟨rfl, N, K0, V6⟩
set_option maxRecDepth 65536 in
set_option maxHeartbeats 40000000 in
theorem rmGet2_0 (l : Launch) (Z : State) (a0 : Array Value) (hw : ∀ d ∈ tables_1, d.before a0 Z = true) (t : Addr) (kb : ClassId) (c0 : Int32) (c1 : Int32) (h0 : Heap) (n0 : Nat) (Z0 : n0 ≤ h0.size) (P0_Old : Old Z n0 h0) (P1_Arv : Arv Z h0 t kb .byte (4 : Int32) [(.int (StrChars.lo8 c0)), (.int (StrChars.hi8 c0)), (.int (StrChars.lo8 c1)), (.int (StrChars.hi8 c1))] (.int 0)) (SA : Sta Z Z.heap "java/lang/StringUTF16" "$assertionsDisabled" "Z" (.int 1)) (SH : Sta Z Z.heap "java/lang/StringUTF16" "HI_BYTE_SHIFT" "I" (.int 0)) (SLo : Sta Z Z.heap "java/lang/StringUTF16" "LO_BYTE_SHIFT" "I" (.int 8)) (r0 : ¬ c0 < 0 ∧ ¬ (65535 : Int32) < c0) (r1 : ¬ c1 < 0 ∧ ¬ (65535 : Int32) < c1) :
    CtP l (⟨"java/lang/StringUTF16", "getChar", "([BI)C"⟩ : MethodName) jdk_52_method_5_code 2 (some .char) [] ({ frames := 0, cells := 0, slots := 0, locals := 0 } : Room) Z #[(.ref t), (.int (0 : Int32))] h0 (fun v h L => v = some (.int c0) ∧ Fr n0 L ∧ h = h0) := by
  refine CtP.walk (Ls := #[.val (.ref t), .val (.int (0 : Int32))]) (plainFor_of_name own_pn0) (fun m => by first | (simp [entryFrame, mkF, argsToLocals, Value.category]; done) | rfl) ?_
  intro p e s m below meth cc_ T hx hby hml hown hnm hret hlk hZ X eT
  have N := Fr.nil n0
  have sz_h : h0.size ≤ h0.size := Nat.le_refl _
  refine ggetS X hx hZ (host := "") hown (Or.inl (own_w101 hw)) Via.refl eT (SA.ext P0_Old.2) 3 (hb hby own_d22_0) rfl ?_
  clear X eT; clear T; intro T X eT
  refine gifYes X hx 28 (hb hby own_d22_3) (by decide) (by decide) (by decide) ?_
  refine giloadN (v := (0 : Int32)) X hx 29 (hb hby own_d22_28) rfl rfl ?_
  refine giconst X hx (1 : Int32) 30 (hb hby own_d22_29) rfl rfl ?_
  refine gishl X hx 31 (hb hby own_d22_30) rfl ?_
  rw [show ((0 : Int32) <<< ((1 : Int32) &&& 31)) = (0 : Int32) from by decide]
  refine gistoreN X hx #[.val (.ref t), .val (.int (0 : Int32))] 32 (hb hby own_d22_31) rfl rfl ?_
  refine galoadN (v := (.ref t)) X hx 33 (hb hby own_d22_32) rfl rfl rfl ?_
  refine giloadN (v := (0 : Int32)) X hx 34 (hb hby own_d22_33) rfl rfl ?_
  refine giinc X hx #[.val (.ref t), .val (.int (1 : Int32))] 37 (hb hby own_d22_34) rfl rfl rfl ?_
  refine gbaload X hx hZ eT P1_Arv (.int (StrChars.lo8 c0)) (by decide) (by decide) rfl 38 (hb hby own_d22_37) rfl ?_
  refine gsipush X hx (255 : Int32) 41 (hb hby own_d22_38) rfl rfl ?_
  refine giand X hx 42 (hb hby own_d22_41) rfl ?_
  refine ggetS X hx hZ (host := "") hown (Or.inl (own_w102 hw)) Via.refl eT (SH.ext P0_Old.2) 45 (hb hby own_d22_42) rfl ?_
  clear X eT; clear T; intro T X eT
  refine gishl X hx 46 (hb hby own_d22_45) rfl ?_
  refine galoadN (v := (.ref t)) X hx 47 (hb hby own_d22_46) rfl rfl rfl ?_
  refine giloadN (v := (1 : Int32)) X hx 48 (hb hby own_d22_47) rfl rfl ?_
  refine gbaload X hx hZ eT P1_Arv (.int (StrChars.hi8 c0)) (by decide) (by decide) rfl 49 (hb hby own_d22_48) rfl ?_
  refine gsipush X hx (255 : Int32) 52 (hb hby own_d22_49) rfl rfl ?_
  refine giand X hx 53 (hb hby own_d22_52) rfl ?_
  refine ggetS X hx hZ (host := "") hown (Or.inl (own_w103 hw)) Via.refl eT (SLo.ext P0_Old.2) 56 (hb hby own_d22_53) rfl ?_
  clear X eT; clear T; intro T X eT
  refine gishl X hx 57 (hb hby own_d22_56) rfl ?_
  refine gior X hx 58 (hb hby own_d22_57) rfl ?_
  refine gi2c X hx 59 (hb hby own_d22_58) rfl ?_
  rw [own_pair r0]
  show Go p e below _ T (mkF m 59 #[.val (.ref t), .val (.int (1 : Int32))] [(.int c0)])
  exact gRetP X hx hlk hret (own_narrow r0) (Or.inl ⟨rfl, by simp, _, rfl⟩) (hb hby own_d22_59) eT (by decide) (by decide) ⟨rfl, N, rfl⟩
set_option maxRecDepth 65536 in
set_option maxHeartbeats 40000000 in
theorem rmGet2_1 (l : Launch) (Z : State) (a0 : Array Value) (hw : ∀ d ∈ tables_1, d.before a0 Z = true) (t : Addr) (kb : ClassId) (c0 : Int32) (c1 : Int32) (h0 : Heap) (n0 : Nat) (Z0 : n0 ≤ h0.size) (P0_Old : Old Z n0 h0) (P1_Arv : Arv Z h0 t kb .byte (4 : Int32) [(.int (StrChars.lo8 c0)), (.int (StrChars.hi8 c0)), (.int (StrChars.lo8 c1)), (.int (StrChars.hi8 c1))] (.int 0)) (SA : Sta Z Z.heap "java/lang/StringUTF16" "$assertionsDisabled" "Z" (.int 1)) (SH : Sta Z Z.heap "java/lang/StringUTF16" "HI_BYTE_SHIFT" "I" (.int 0)) (SLo : Sta Z Z.heap "java/lang/StringUTF16" "LO_BYTE_SHIFT" "I" (.int 8)) (r0 : ¬ c0 < 0 ∧ ¬ (65535 : Int32) < c0) (r1 : ¬ c1 < 0 ∧ ¬ (65535 : Int32) < c1) :
    CtP l (⟨"java/lang/StringUTF16", "getChar", "([BI)C"⟩ : MethodName) jdk_52_method_5_code 2 (some .char) [] ({ frames := 0, cells := 0, slots := 0, locals := 0 } : Room) Z #[(.ref t), (.int (1 : Int32))] h0 (fun v h L => v = some (.int c1) ∧ Fr n0 L ∧ h = h0) := by
  refine CtP.walk (Ls := #[.val (.ref t), .val (.int (1 : Int32))]) (plainFor_of_name own_pn0) (fun m => by first | (simp [entryFrame, mkF, argsToLocals, Value.category]; done) | rfl) ?_
  intro p e s m below meth cc_ T hx hby hml hown hnm hret hlk hZ X eT
  have N := Fr.nil n0
  have sz_h : h0.size ≤ h0.size := Nat.le_refl _
  refine ggetS X hx hZ (host := "") hown (Or.inl (own_w101 hw)) Via.refl eT (SA.ext P0_Old.2) 3 (hb hby own_d22_0) rfl ?_
  clear X eT; clear T; intro T X eT
  refine gifYes X hx 28 (hb hby own_d22_3) (by decide) (by decide) (by decide) ?_
  refine giloadN (v := (1 : Int32)) X hx 29 (hb hby own_d22_28) rfl rfl ?_
  refine giconst X hx (1 : Int32) 30 (hb hby own_d22_29) rfl rfl ?_
  refine gishl X hx 31 (hb hby own_d22_30) rfl ?_
  rw [show ((1 : Int32) <<< ((1 : Int32) &&& 31)) = (2 : Int32) from by decide]
  refine gistoreN X hx #[.val (.ref t), .val (.int (2 : Int32))] 32 (hb hby own_d22_31) rfl rfl ?_
  refine galoadN (v := (.ref t)) X hx 33 (hb hby own_d22_32) rfl rfl rfl ?_
  refine giloadN (v := (2 : Int32)) X hx 34 (hb hby own_d22_33) rfl rfl ?_
  refine giinc X hx #[.val (.ref t), .val (.int (3 : Int32))] 37 (hb hby own_d22_34) rfl rfl rfl ?_
  refine gbaload X hx hZ eT P1_Arv (.int (StrChars.lo8 c1)) (by decide) (by decide) rfl 38 (hb hby own_d22_37) rfl ?_
  refine gsipush X hx (255 : Int32) 41 (hb hby own_d22_38) rfl rfl ?_
  refine giand X hx 42 (hb hby own_d22_41) rfl ?_
  refine ggetS X hx hZ (host := "") hown (Or.inl (own_w102 hw)) Via.refl eT (SH.ext P0_Old.2) 45 (hb hby own_d22_42) rfl ?_
  clear X eT; clear T; intro T X eT
  refine gishl X hx 46 (hb hby own_d22_45) rfl ?_
  refine galoadN (v := (.ref t)) X hx 47 (hb hby own_d22_46) rfl rfl rfl ?_
  refine giloadN (v := (3 : Int32)) X hx 48 (hb hby own_d22_47) rfl rfl ?_
  refine gbaload X hx hZ eT P1_Arv (.int (StrChars.hi8 c1)) (by decide) (by decide) rfl 49 (hb hby own_d22_48) rfl ?_
  refine gsipush X hx (255 : Int32) 52 (hb hby own_d22_49) rfl rfl ?_
  refine giand X hx 53 (hb hby own_d22_52) rfl ?_
  refine ggetS X hx hZ (host := "") hown (Or.inl (own_w103 hw)) Via.refl eT (SLo.ext P0_Old.2) 56 (hb hby own_d22_53) rfl ?_
  clear X eT; clear T; intro T X eT
  refine gishl X hx 57 (hb hby own_d22_56) rfl ?_
  refine gior X hx 58 (hb hby own_d22_57) rfl ?_
  refine gi2c X hx 59 (hb hby own_d22_58) rfl ?_
  rw [own_pair r1]
  show Go p e below _ T (mkF m 59 #[.val (.ref t), .val (.int (3 : Int32))] [(.int c1)])
  exact gRetP X hx hlk hret (own_narrow r1) (Or.inl ⟨rfl, by simp, _, rfl⟩) (hb hby own_d22_59) eT (by decide) (by decide) ⟨rfl, N, rfl⟩
set_option maxRecDepth 65536 in
set_option maxHeartbeats 40000000 in
theorem rmTB2 (l : Launch) (Z : State) (a0 : Array Value) (hw : ∀ d ∈ tables_1, d.before a0 Z = true) (b : Addr) (kc : ClassId) (c0 : Int32) (c1 : Int32) (h0 : Heap) (n0 : Nat) (Z0 : n0 ≤ h0.size) (P0_Old : Old Z n0 h0) (P1_Arv : Arv Z h0 b kc .char (2 : Int32) [(.int c0), (.int c1)] (.int 0)) (SA : Sta Z Z.heap "java/lang/StringUTF16" "$assertionsDisabled" "Z" (.int 1)) (SH : Sta Z Z.heap "java/lang/StringUTF16" "HI_BYTE_SHIFT" "I" (.int 0)) (SLo : Sta Z Z.heap "java/lang/StringUTF16" "LO_BYTE_SHIFT" "I" (.int 8)) :
    CtP l (⟨"java/lang/StringUTF16", "toBytes", "([CII)[B"⟩ : MethodName) jdk_52_method_14_code 5 (some (.array .byte)) [] ({ frames := 2, cells := 1, slots := 4, locals := 24 } : Room) Z #[(.ref b), (.int (0 : Int32)), (.int (2 : Int32))] h0 (fun v h L => ∃ (t : Addr), ∃ (kb : ClassId), v = some (.ref t) ∧ Fr n0 L ∧ Keep h0 h [] ∧ h0.size ≤ t ∧ Arv Z h t kb .byte (4 : Int32) [(.int (StrChars.lo8 c0)), (.int (StrChars.hi8 c0)), (.int (StrChars.lo8 c1)), (.int (StrChars.hi8 c1))] (.int 0)) := by
  refine CtP.walk (Ls := #[.val (.ref b), .val (.int (0 : Int32)), .val (.int (2 : Int32)), .unset, .unset]) (plainFor_of_name own_pn0) (fun m => by first | (simp [entryFrame, mkF, argsToLocals, Value.category]; done) | rfl) ?_
  intro p e s m below meth cc_ T hx hby hml hown hnm hret hlk hZ X eT
  have N := Fr.nil n0
  have K0 := Keep.refl h0 []
  have sz_h : h0.size ≤ h0.size := Nat.le_refl _
  refine giloadN (v := (2 : Int32)) X hx 1 (hb hby own_d18_0) rfl rfl ?_
  refine gstatic (y := (⟨"java/lang/StringUTF16", "newBytesFor", "(I)[B"⟩ : MethodName)) (argsL := [(.int (2 : Int32))]) (st := []) X hx hZ hown (own_w91 hw) (own_w92 hw) (own_w23 hw) (own_w93 hw) (by decide) (payP (W := 0) (rmNBF2 l Z a0 hw h0 n0 (Nat.le_trans Z0 sz_h)) hZ (own_w93 hw) (own_w23 hw) (by decide) (by decide)) eT (by rw [hml]; rfl) (lenOf own_pd1 rfl) rfl (Nat.le_of_eq rfl) 1 4 rfl rfl (by decide) (by decide) 4 (hb hby own_d18_1) rfl ?_
  clear X eT; clear T; intro v T h1 L2 Lc X eT hL hQ2
  obtain ⟨t_3, kb_4, rfl, Nq, K5, zz_t_3, G7⟩ := hQ2
  replace N : Fr n0 L2 := by rw [hL]; exact Fr.app N Nq
  clear Nq hL
  have ne_b_t_3 : b ≠ t_3 := Nat.ne_of_lt (Nat.lt_of_lt_of_le P1_Arv.lt zz_t_3)
  have ne_t_3_b : t_3 ≠ b := Ne.symm ne_b_t_3
  have sz_t_3 : h0.size ≤ t_3 := Nat.le_trans sz_h zz_t_3
  have ge_t_3 : n0 ≤ t_3 := Nat.le_trans Z0 sz_t_3
  replace P0_Old := P0_Old.keep K5 all0
  replace P1_Arv := P1_Arv.keep K5 nin0
  replace K0 := K0.trans K5 all0
  replace sz_h : h0.size ≤ h1.size := Nat.le_trans sz_h K5.1
  show Go p e below _ T (mkF m 4 #[.val (.ref b), .val (.int (0 : Int32)), .val (.int (2 : Int32)), .unset, .unset] [(.ref t_3)])
  refine gastoreN X hx #[.val (.ref b), .val (.int (0 : Int32)), .val (.int (2 : Int32)), .val (.ref t_3), .unset] 5 (hb hby own_d18_4) rfl rfl rfl ?_
  refine giconst X hx (0 : Int32) 6 (hb hby own_d18_5) rfl rfl ?_
  refine gistore X hx #[.val (.ref b), .val (.int (0 : Int32)), .val (.int (2 : Int32)), .val (.ref t_3), .val (.int (0 : Int32))] 8 (hb hby own_d18_6) rfl rfl ?_
  refine giload (v := (0 : Int32)) X hx 10 (hb hby own_d18_8) rfl rfl ?_
  refine giloadN (v := (2 : Int32)) X hx 11 (hb hby own_d18_10) rfl rfl ?_
  refine gicmpNo X hx 14 (hb hby own_d18_11) rfl (by decide) ?_
  refine galoadN (v := (.ref t_3)) X hx 15 (hb hby own_d18_14) rfl rfl rfl ?_
  refine giload (v := (0 : Int32)) X hx 17 (hb hby own_d18_15) rfl rfl ?_
  refine galoadN (v := (.ref b)) X hx 18 (hb hby own_d18_17) rfl rfl rfl ?_
  refine giloadN (v := (0 : Int32)) X hx 19 (hb hby own_d18_18) rfl rfl ?_
  refine gcaload X hx hZ eT P1_Arv (.int c0) (by decide) (by decide) rfl 20 (hb hby own_d18_19) rfl ?_
  refine gstatic (y := (⟨"java/lang/StringUTF16", "putChar", "([BII)V"⟩ : MethodName)) (argsL := [(.ref t_3), (.int (0 : Int32)), (.int c0)]) (st := []) X hx hZ hown (own_w98 hw) (own_w99 hw) (own_w23 hw) (own_w100 hw) (by decide) (payP (W := 0) (rmPut2_0 l Z a0 hw (t_3) (c0) (kb_4) ((.int (0 : Int32))) ((.int (0 : Int32))) ((.int (0 : Int32))) ((.int (0 : Int32))) h1 n0 (Nat.le_trans Z0 sz_h) ge_t_3 P0_Old G7 (SA) (SH) (SLo)) hZ (own_w100 hw) (own_w23 hw) (by decide) (by decide)) eT (by rw [hml]; rfl) (lenOf own_pd2 rfl) rfl (Nat.le_of_eq rfl) 1 4 rfl rfl (by decide) (by decide) 23 (hb hby own_d18_20) rfl ?_
  clear X eT; clear T; intro v T h8 L2 Lc X eT hL hQ9
  obtain ⟨rfl, Nq, K10, G12⟩ := hQ9
  replace N : Fr n0 L2 := by rw [hL]; exact Fr.app N Nq
  clear Nq hL
  replace P0_Old := P0_Old.keep K10 (allS ge_t_3 all0)
  replace P1_Arv := P1_Arv.keep K10 (ninS ne_b_t_3 nin0)
  replace K0 := K0.trans K10 (allS (Or.inr sz_t_3) all0)
  replace sz_h : h0.size ≤ h8.size := Nat.le_trans sz_h K10.1
  show Go p e below _ T (mkF m 23 #[.val (.ref b), .val (.int (0 : Int32)), .val (.int (2 : Int32)), .val (.ref t_3), .val (.int (0 : Int32))] [])
  refine giinc X hx #[.val (.ref b), .val (.int (1 : Int32)), .val (.int (2 : Int32)), .val (.ref t_3), .val (.int (0 : Int32))] 26 (hb hby own_d18_23) rfl rfl rfl ?_
  refine giinc X hx #[.val (.ref b), .val (.int (1 : Int32)), .val (.int (2 : Int32)), .val (.ref t_3), .val (.int (1 : Int32))] 29 (hb hby own_d18_26) rfl rfl rfl ?_
  refine ggoto X hx 8 (hb hby own_d18_29) (by decide) (by decide) ?_
  refine giload (v := (1 : Int32)) X hx 10 (hb hby own_d18_8) rfl rfl ?_
  refine giloadN (v := (2 : Int32)) X hx 11 (hb hby own_d18_10) rfl rfl ?_
  refine gicmpNo X hx 14 (hb hby own_d18_11) rfl (by decide) ?_
  refine galoadN (v := (.ref t_3)) X hx 15 (hb hby own_d18_14) rfl rfl rfl ?_
  refine giload (v := (1 : Int32)) X hx 17 (hb hby own_d18_15) rfl rfl ?_
  refine galoadN (v := (.ref b)) X hx 18 (hb hby own_d18_17) rfl rfl rfl ?_
  refine giloadN (v := (1 : Int32)) X hx 19 (hb hby own_d18_18) rfl rfl ?_
  refine gcaload X hx hZ eT P1_Arv (.int c1) (by decide) (by decide) rfl 20 (hb hby own_d18_19) rfl ?_
  refine gstatic (y := (⟨"java/lang/StringUTF16", "putChar", "([BII)V"⟩ : MethodName)) (argsL := [(.ref t_3), (.int (1 : Int32)), (.int c1)]) (st := []) X hx hZ hown (own_w98 hw) (own_w99 hw) (own_w23 hw) (own_w100 hw) (by decide) (payP (W := 0) (rmPut2_1 l Z a0 hw (t_3) (c1) (kb_4) ((.int (StrChars.lo8 c0))) ((.int (StrChars.hi8 c0))) ((.int (0 : Int32))) ((.int (0 : Int32))) h8 n0 (Nat.le_trans Z0 sz_h) ge_t_3 P0_Old G12 (SA) (SH) (SLo)) hZ (own_w100 hw) (own_w23 hw) (by decide) (by decide)) eT (by rw [hml]; rfl) (lenOf own_pd2 rfl) rfl (Nat.le_of_eq rfl) 1 4 rfl rfl (by decide) (by decide) 23 (hb hby own_d18_20) rfl ?_
  clear X eT; clear T; intro v T h13 L2 Lc X eT hL hQ14
  obtain ⟨rfl, Nq, K15, G17⟩ := hQ14
  replace N : Fr n0 L2 := by rw [hL]; exact Fr.app N Nq
  clear Nq hL
  replace P0_Old := P0_Old.keep K15 (allS ge_t_3 all0)
  replace P1_Arv := P1_Arv.keep K15 (ninS ne_b_t_3 nin0)
  replace K0 := K0.trans K15 (allS (Or.inr sz_t_3) all0)
  replace sz_h : h0.size ≤ h13.size := Nat.le_trans sz_h K15.1
  show Go p e below _ T (mkF m 23 #[.val (.ref b), .val (.int (1 : Int32)), .val (.int (2 : Int32)), .val (.ref t_3), .val (.int (1 : Int32))] [])
  refine giinc X hx #[.val (.ref b), .val (.int (2 : Int32)), .val (.int (2 : Int32)), .val (.ref t_3), .val (.int (1 : Int32))] 26 (hb hby own_d18_23) rfl rfl rfl ?_
  refine giinc X hx #[.val (.ref b), .val (.int (2 : Int32)), .val (.int (2 : Int32)), .val (.ref t_3), .val (.int (2 : Int32))] 29 (hb hby own_d18_26) rfl rfl rfl ?_
  refine ggoto X hx 8 (hb hby own_d18_29) (by decide) (by decide) ?_
  refine giload (v := (2 : Int32)) X hx 10 (hb hby own_d18_8) rfl rfl ?_
  refine giloadN (v := (2 : Int32)) X hx 11 (hb hby own_d18_10) rfl rfl ?_
  refine gicmpYes X hx 32 (hb hby own_d18_11) (by decide) (by decide) (by decide) ?_
  refine galoadN (v := (.ref t_3)) X hx 33 (hb hby own_d18_32) rfl rfl rfl ?_
  exact gRetP X hx hlk hret rfl (Or.inr (Or.inr (Or.inr (Or.inr ⟨rfl, rfl, rfl⟩)))) (hb hby own_d18_33) eT (by decide) (by decide) ⟨t_3, kb_4, rfl, N, K0, sz_t_3, G17⟩
set_option maxRecDepth 65536 in
set_option maxHeartbeats 40000000 in
theorem rmC5_2_0 (l : Launch) (Z : State) (a0 : Array Value) (hw : ∀ d ∈ tables_1, d.before a0 Z = true) (b : Addr) (t : Addr) (kc : ClassId) (kb : ClassId) (c0 : Int32) (c1 : Int32) (h0 : Heap) (n0 : Nat) (Z0 : n0 ≤ h0.size) (ge_t : n0 ≤ t) (P0_Arv : Arv Z h0 b kc .char (2 : Int32) [(.int c0), (.int c1)] (.int 0)) (P1_Arv : Arv Z h0 t kb .byte (2 : Int32) [(.int (0 : Int32)), (.int (0 : Int32))] (.int 0)) (s0 : (255 : Int32) < c0) (hne : b ≠ t) :
    CtP l (⟨"java/lang/StringUTF16", "compress", "([CI[BII)I"⟩ : MethodName) jdk_52_method_21_code 7 (some .int) [] ({ frames := 0, cells := 0, slots := 0, locals := 0 } : Room) Z #[(.ref b), (.int (0 : Int32)), (.ref t), (.int (0 : Int32)), (.int (2 : Int32))] h0 (fun v h L => v = some (.int (0 : Int32)) ∧ Fr n0 L ∧ Keep h0 h [t]) := by
  refine CtP.walk (Ls := #[.val (.ref b), .val (.int (0 : Int32)), .val (.ref t), .val (.int (0 : Int32)), .val (.int (2 : Int32)), .unset, .unset]) (plainFor_of_name own_pn0) (fun m => by first | (simp [entryFrame, mkF, argsToLocals, Value.category]; done) | rfl) ?_
  intro p e s m below meth cc_ T hx hby hml hown hnm hret hlk hZ X eT
  have N := Fr.nil n0
  have K0 := Keep.refl h0 [t]
  have sz_h : h0.size ≤ h0.size := Nat.le_refl _
  refine giconst X hx (0 : Int32) 1 (hb hby own_d6_0) rfl rfl ?_
  refine gistore X hx #[.val (.ref b), .val (.int (0 : Int32)), .val (.ref t), .val (.int (0 : Int32)), .val (.int (2 : Int32)), .val (.int (0 : Int32)), .unset] 3 (hb hby own_d6_1) rfl rfl ?_
  refine giload (v := (0 : Int32)) X hx 5 (hb hby own_d6_3) rfl rfl ?_
  refine giload (v := (2 : Int32)) X hx 7 (hb hby own_d6_5) rfl rfl ?_
  refine gicmpNo X hx 10 (hb hby own_d6_7) rfl (by decide) ?_
  refine galoadN (v := (.ref b)) X hx 11 (hb hby own_d6_10) rfl rfl rfl ?_
  refine giloadN (v := (0 : Int32)) X hx 12 (hb hby own_d6_11) rfl rfl ?_
  refine gcaload X hx hZ eT P0_Arv (.int c0) (by decide) (by decide) rfl 13 (hb hby own_d6_12) rfl ?_
  refine gistore X hx #[.val (.ref b), .val (.int (0 : Int32)), .val (.ref t), .val (.int (0 : Int32)), .val (.int (2 : Int32)), .val (.int (0 : Int32)), .val (.int c0)] 15 (hb hby own_d6_13) rfl rfl ?_
  refine giload (v := c0) X hx 17 (hb hby own_d6_15) rfl rfl ?_
  refine gsipush X hx (255 : Int32) 20 (hb hby own_d6_17) rfl rfl ?_
  refine gicmpNo X hx 23 (hb hby own_d6_20) rfl (tlt s0).2.2.2 ?_
  refine giload (v := (0 : Int32)) X hx 25 (hb hby own_d6_23) rfl rfl ?_
  exact gRetP X hx hlk hret rfl (Or.inl ⟨rfl, by simp, _, rfl⟩) (hb hby own_d6_25) eT (by decide) (by decide) ⟨rfl, N, K0⟩
set_option maxRecDepth 65536 in
set_option maxHeartbeats 40000000 in
theorem rmC3_2_0 (l : Launch) (Z : State) (a0 : Array Value) (hw : ∀ d ∈ tables_1, d.before a0 Z = true) (b : Addr) (kc : ClassId) (c0 : Int32) (c1 : Int32) (h0 : Heap) (n0 : Nat) (Z0 : n0 ≤ h0.size) (P0_Old : Old Z n0 h0) (P1_Arv : Arv Z h0 b kc .char (2 : Int32) [(.int c0), (.int c1)] (.int 0)) (SA : Sta Z Z.heap "java/lang/StringUTF16" "$assertionsDisabled" "Z" (.int 1)) (SH : Sta Z Z.heap "java/lang/StringUTF16" "HI_BYTE_SHIFT" "I" (.int 0)) (SLo : Sta Z Z.heap "java/lang/StringUTF16" "LO_BYTE_SHIFT" "I" (.int 8)) (r0 : ¬ c0 < 0 ∧ ¬ (65535 : Int32) < c0) (r1 : ¬ c1 < 0 ∧ ¬ (65535 : Int32) < c1) (s0 : (255 : Int32) < c0) :
    CtP l (⟨"java/lang/StringUTF16", "compress", "([CII)[B"⟩ : MethodName) jdk_52_method_16_code 6 (some (.array .byte)) [] ({ frames := 3, cells := 2, slots := 6, locals := 40 } : Room) Z #[(.ref b), (.int (0 : Int32)), (.int (2 : Int32))] h0 (fun v h L => ∃ (t : Addr), ∃ (kb : ClassId), v = some (.ref t) ∧ Fr n0 L ∧ Keep h0 h [] ∧ h0.size ≤ t ∧ Arv Z h t kb .byte (4 : Int32) [(.int (StrChars.lo8 c0)), (.int (StrChars.hi8 c0)), (.int (StrChars.lo8 c1)), (.int (StrChars.hi8 c1))] (.int 0)) := by
  refine CtP.walk (Ls := #[.val (.ref b), .val (.int (0 : Int32)), .val (.int (2 : Int32)), .unset, .unset, .unset]) (plainFor_of_name own_pn0) (fun m => by first | (simp [entryFrame, mkF, argsToLocals, Value.category]; done) | rfl) ?_
  intro p e s m below meth cc_ T hx hby hml hown hnm hret hlk hZ X eT
  have N := Fr.nil n0
  have K0 := Keep.refl h0 []
  have sz_h : h0.size ≤ h0.size := Nat.le_refl _
  refine giloadN (v := (2 : Int32)) X hx 1 (hb hby own_d5_0) rfl rfl ?_
  refine gnewP (aty := .byte) X hx hZ (own_w25 hw) eT (n := (2 : Int32)) (by decide) 2 (by decide) (by decide) 1 2 rfl rfl (by decide) (by decide) 3 (hb hby own_d5_1) rfl ?_
  clear X eT; clear T; intro T h1 b2 kc5 X eT ga E3 V4
  have le_a := Nat.le_of_eq ga.symm
  have ne_b_b2 : b ≠ b2 := Nat.ne_of_lt (Nat.lt_of_lt_of_le P1_Arv.lt le_a)
  have ne_b2_b : b2 ≠ b := Ne.symm ne_b_b2
  have sz_b2 : h0.size ≤ b2 := Nat.le_trans sz_h le_a
  have ge_b2 : n0 ≤ b2 := Nat.le_trans Z0 sz_b2
  clear le_a ga
  replace P0_Old := P0_Old.ext E3
  replace P1_Arv := P1_Arv.ext E3
  replace K0 := K0.ext E3
  replace sz_h : h0.size ≤ h1.size := Nat.le_trans sz_h E3.1
  replace V4 : Arv Z h1 b2 kc5 .byte (2 : Int32) [(.int (0 : Int32)), (.int (0 : Int32))] (.int 0) := V4.pad (pad_rep [] _ 2)
  refine gastoreN X hx #[.val (.ref b), .val (.int (0 : Int32)), .val (.int (2 : Int32)), .val (.ref b2), .unset, .unset] 4 (hb hby own_d5_3) rfl rfl rfl ?_
  refine galoadN (v := (.ref b)) X hx 5 (hb hby own_d5_4) rfl rfl rfl ?_
  refine giloadN (v := (0 : Int32)) X hx 6 (hb hby own_d5_5) rfl rfl ?_
  refine galoadN (v := (.ref b2)) X hx 7 (hb hby own_d5_6) rfl rfl rfl ?_
  refine giconst X hx (0 : Int32) 8 (hb hby own_d5_7) rfl rfl ?_
  refine giloadN (v := (2 : Int32)) X hx 9 (hb hby own_d5_8) rfl rfl ?_
  refine gstatic (y := (⟨"java/lang/StringUTF16", "compress", "([CI[BII)I"⟩ : MethodName)) (argsL := [(.ref b), (.int (0 : Int32)), (.ref b2), (.int (0 : Int32)), (.int (2 : Int32))]) (st := []) X hx hZ hown (own_w26 hw) (own_w27 hw) (own_w23 hw) (own_w28 hw) (by decide) (payP (W := 0) (rmC5_2_0 l Z a0 hw (b) (b2) (kc) (kc5) (c0) (c1) h1 n0 (Nat.le_trans Z0 sz_h) ge_b2 P1_Arv V4 (s0) (ne_b_b2)) hZ (own_w28 hw) (own_w23 hw) (by decide) (by decide)) eT (by rw [hml]; rfl) (lenOf own_pd3 rfl) rfl (Nat.le_of_eq rfl) 1 2 rfl rfl (by decide) (by decide) 12 (hb hby own_d5_9) rfl ?_
  clear X eT; clear T; intro v T h6 L2 Lc X eT hL hQ7
  obtain ⟨rfl, Nq, K8⟩ := hQ7
  replace N : Fr n0 L2 := by rw [hL]; exact Fr.app N Nq
  clear Nq hL
  replace P0_Old := P0_Old.keep K8 (allS ge_b2 all0)
  replace P1_Arv := P1_Arv.keep K8 (ninS ne_b_b2 nin0)
  replace K0 := K0.trans K8 (allS (Or.inr sz_b2) all0)
  replace sz_h : h0.size ≤ h6.size := Nat.le_trans sz_h K8.1
  show Go p e below _ T (mkF m 12 #[.val (.ref b), .val (.int (0 : Int32)), .val (.int (2 : Int32)), .val (.ref b2), .unset, .unset] [(.int (0 : Int32))])
  refine gistore X hx #[.val (.ref b), .val (.int (0 : Int32)), .val (.int (2 : Int32)), .val (.ref b2), .val (.int (0 : Int32)), .unset] 14 (hb hby own_d5_12) rfl rfl ?_
  refine giload (v := (0 : Int32)) X hx 16 (hb hby own_d5_14) rfl rfl ?_
  refine giloadN (v := (2 : Int32)) X hx 17 (hb hby own_d5_16) rfl rfl ?_
  refine gicmpNo X hx 20 (hb hby own_d5_17) rfl (by decide) ?_
  refine galoadN (v := (.ref b)) X hx 21 (hb hby own_d5_20) rfl rfl rfl ?_
  refine giloadN (v := (0 : Int32)) X hx 22 (hb hby own_d5_21) rfl rfl ?_
  refine giloadN (v := (2 : Int32)) X hx 23 (hb hby own_d5_22) rfl rfl ?_
  refine gstatic (y := (⟨"java/lang/StringUTF16", "toBytes", "([CII)[B"⟩ : MethodName)) (argsL := [(.ref b), (.int (0 : Int32)), (.int (2 : Int32))]) (st := []) X hx hZ hown (own_w88 hw) (own_w89 hw) (own_w23 hw) (own_w90 hw) (by decide) (payP (W := 0) (rmTB2 l Z a0 hw (b) (kc) (c0) (c1) h6 n0 (Nat.le_trans Z0 sz_h) P0_Old P1_Arv (SA) (SH) (SLo)) hZ (own_w90 hw) (own_w23 hw) (by decide) (by decide)) eT (by rw [hml]; rfl) (lenOf own_pd4 rfl) rfl (Nat.le_of_eq rfl) 2 6 rfl rfl (by decide) (by decide) 26 (hb hby own_d5_23) rfl ?_
  clear X eT; clear T; intro v T h10 L2 Lc X eT hL hQ11
  obtain ⟨t_12, kb_13, rfl, Nq, K14, zz_t_12, G16⟩ := hQ11
  replace N : Fr n0 L2 := by rw [hL]; exact Fr.app N Nq
  clear Nq hL
  have ne_b_t_12 : b ≠ t_12 := Nat.ne_of_lt (Nat.lt_of_lt_of_le P1_Arv.lt zz_t_12)
  have ne_t_12_b : t_12 ≠ b := Ne.symm ne_b_t_12
  have sz_t_12 : h0.size ≤ t_12 := Nat.le_trans sz_h zz_t_12
  have ge_t_12 : n0 ≤ t_12 := Nat.le_trans Z0 sz_t_12
  replace P0_Old := P0_Old.keep K14 all0
  replace P1_Arv := P1_Arv.keep K14 nin0
  replace K0 := K0.trans K14 all0
  replace sz_h : h0.size ≤ h10.size := Nat.le_trans sz_h K14.1
  show Go p e below _ T (mkF m 26 #[.val (.ref b), .val (.int (0 : Int32)), .val (.int (2 : Int32)), .val (.ref b2), .val (.int (0 : Int32)), .unset] [(.ref t_12)])
  refine gastore X hx #[.val (.ref b), .val (.int (0 : Int32)), .val (.int (2 : Int32)), .val (.ref b2), .val (.int (0 : Int32)), .val (.ref t_12)] 28 (hb hby own_d5_26) rfl rfl rfl ?_
  refine gaload (v := (.ref t_12)) X hx 30 (hb hby own_d5_28) rfl rfl rfl ?_
  refine giload (v := (0 : Int32)) X hx 32 (hb hby own_d5_30) rfl rfl ?_
  refine gstatic (y := (⟨"java/lang/StringUTF16", "getChar", "([BI)C"⟩ : MethodName)) (argsL := [(.ref t_12), (.int (0 : Int32))]) (st := []) X hx hZ hown (own_w104 hw) (own_w105 hw) (own_w23 hw) (own_w106 hw) (by decide) (payP (W := 0) (rmGet2_0 l Z a0 hw (t_12) (kb_13) _ _ h10 n0 (Nat.le_trans Z0 sz_h) P0_Old G16 (SA) (SH) (SLo) (r0) (r1)) hZ (own_w106 hw) (own_w23 hw) (by decide) (by decide)) eT (by rw [hml]; rfl) (lenOf own_pd5 rfl) rfl (Nat.le_of_eq rfl) 2 6 rfl rfl (by decide) (by decide) 35 (hb hby own_d5_32) rfl ?_
  clear X eT; clear T; intro v T h17 L2 Lc X eT hL hQ18
  obtain ⟨rfl, Nq, hh⟩ := hQ18
  replace N : Fr n0 L2 := by rw [hL]; exact Fr.app N Nq
  clear Nq hL
  replace hh := hh.symm; subst hh
  show Go p e below _ T (mkF m 35 #[.val (.ref b), .val (.int (0 : Int32)), .val (.int (2 : Int32)), .val (.ref b2), .val (.int (0 : Int32)), .val (.ref t_12)] [(.int c0)])
  refine gsipush X hx (255 : Int32) 38 (hb hby own_d5_35) rfl rfl ?_
  refine gicmpYes X hx 54 (hb hby own_d5_38) (tlt s0).2.2.1 (by decide) (by decide) ?_
  refine gaload (v := (.ref t_12)) X hx 56 (hb hby own_d5_54) rfl rfl rfl ?_
  exact gRetP X hx hlk hret rfl (Or.inr (Or.inr (Or.inr (Or.inr ⟨rfl, rfl, rfl⟩)))) (hb hby own_d5_56) eT (by decide) (by decide) ⟨t_12, kb_13, rfl, N, K0, sz_t_12, G16⟩
set_option maxRecDepth 65536 in
set_option maxHeartbeats 40000000 in
theorem rmCL2 (l : Launch) (Z : State) (a0 : Array Value) (hw : ∀ d ∈ tables_1, d.before a0 Z = true) (t : Addr) (kb : ClassId) (vs0 : List Value) (h0 : Heap) (n0 : Nat) (Z0 : n0 ≤ h0.size) (P0_Arv : Arv Z h0 t kb .byte (4 : Int32) vs0 (.int 0)) :
    CtP l (⟨"java/lang/StringUTF16", "coderFromArrayLen", "([BI)B"⟩ : MethodName) jdk_52_method_15_code 2 (some .byte) [] ({ frames := 0, cells := 0, slots := 0, locals := 0 } : Room) Z #[(.ref t), (.int (2 : Int32))] h0 (fun v h L => v = some (.int (1 : Int32)) ∧ Fr n0 L ∧ h = h0) := by
  refine CtP.walk (Ls := #[.val (.ref t), .val (.int (2 : Int32))]) (plainFor_of_name own_pn0) (fun m => by first | (simp [entryFrame, mkF, argsToLocals, Value.category]; done) | rfl) ?_
  intro p e s m below meth cc_ T hx hby hml hown hnm hret hlk hZ X eT
  have N := Fr.nil n0
  have sz_h : h0.size ≤ h0.size := Nat.le_refl _
  refine giloadN (v := (2 : Int32)) X hx 1 (hb hby own_d7_0) rfl rfl ?_
  refine galoadN (v := (.ref t)) X hx 2 (hb hby own_d7_1) rfl rfl rfl ?_
  refine garrlen X hx hZ eT P0_Arv 3 (hb hby own_d7_2) rfl ?_
  refine gisub X hx 4 (hb hby own_d7_3) rfl ?_
  rw [show ((2 : Int32) - (4 : Int32)) = (-2 : Int32) from by decide]
  refine gbipush X hx (31 : Int32) 6 (hb hby own_d7_4) rfl rfl ?_
  refine giushr X hx 7 (hb hby own_d7_6) rfl ?_
  rw [show (((-2 : Int32).toUInt32 >>> ((31 : Int32) &&& 31).toUInt32).toInt32) = (1 : Int32) from by decide]
  refine gi2b X hx 8 (hb hby own_d7_7) rfl ?_
  rw [show ((1 : Int32).toInt8.toInt32) = (1 : Int32) from by decide]
  exact gRetP X hx hlk hret rfl (Or.inl ⟨rfl, by simp, _, rfl⟩) (hb hby own_d7_8) eT (by decide) (by decide) ⟨rfl, N, rfl⟩
set_option maxRecDepth 65536 in
set_option maxHeartbeats 40000000 in
theorem rmI4_2_0 (l : Launch) (Z : State) (a0 : Array Value) (hw : ∀ d ∈ tables_1, d.before a0 Z = true) (x : Addr) (b : Addr) (kc : ClassId) (y0 : Value) (y1 : Value) (G1 : Int32) (c0 : Int32) (c1 : Int32) (h0 : Heap) (n0 : Nat) (Z0 : n0 ≤ h0.size) (ge_x : n0 ≤ x) (P0_Old : Old Z n0 h0) (P1_Exa : Exa Z h0 x "java/lang/String") (P2_Fld : Fld Z h0 x "java/lang/String" "value" "[B" y0) (P3_Fld : Fld Z h0 x "java/lang/String" "coder" "B" y1) (P4_Arv : Arv Z h0 b kc .char (2 : Int32) [(.int c0), (.int c1)] (.int 0)) (O2 : Sta Z Z.heap "java/lang/String" "COMPACT_STRINGS" "Z" (.int G1)) (P5 : ¬ G1 = (0 : Int32)) (SA : Sta Z Z.heap "java/lang/StringUTF16" "$assertionsDisabled" "Z" (.int 1)) (SH : Sta Z Z.heap "java/lang/StringUTF16" "HI_BYTE_SHIFT" "I" (.int 0)) (SLo : Sta Z Z.heap "java/lang/StringUTF16" "LO_BYTE_SHIFT" "I" (.int 8)) (r0 : ¬ c0 < 0 ∧ ¬ (65535 : Int32) < c0) (r1 : ¬ c1 < 0 ∧ ¬ (65535 : Int32) < c1) (s0 : (255 : Int32) < c0) :
    CtP l (⟨"java/lang/String", "<init>", "([CIILjava/lang/Void;)V"⟩ : MethodName) jdk_42_method_149_code 6 none [] ({ frames := 4, cells := 2, slots := 6, locals := 57 } : Room) Z #[(.ref x), (.ref b), (.int (0 : Int32)), (.int (2 : Int32)), .null] h0 (fun v h L => ∃ (t : Addr), ∃ (kb : ClassId), v = none ∧ Fr n0 L ∧ Keep h0 h [x] ∧ h0.size ≤ t ∧ Fld Z h x "java/lang/String" "coder" "B" (.int (1 : Int32)) ∧ Fld Z h x "java/lang/String" "value" "[B" (.ref t) ∧ Arv Z h t kb .byte (4 : Int32) [(.int (StrChars.lo8 c0)), (.int (StrChars.hi8 c0)), (.int (StrChars.lo8 c1)), (.int (StrChars.hi8 c1))] (.int 0)) := by
  refine CtP.walk (Ls := #[.val (.ref x), .val (.ref b), .val (.int (0 : Int32)), .val (.int (2 : Int32)), .val .null, .unset]) own_pn1 (fun m => by first | (simp [entryFrame, mkF, argsToLocals, Value.category]; done) | rfl) ?_
  intro p e s m below meth cc_ T hx hby hml hown hnm hret hlk hZ X eT
  have N := Fr.nil n0
  have K0 := Keep.refl h0 [x]
  have sz_h : h0.size ≤ h0.size := Nat.le_refl _
  refine galoadN (v := (.ref x)) X hx 1 (hb hby own_d3_0) rfl rfl rfl ?_
  refine ginitO X hx hZ hown (own_w17 hw) (own_w18 hw) (own_w19 hw) eT (by rw [hml]; rfl) (by decide) 0 (Nat.le_of_eq rfl) (by decide) 4 (hb hby own_d3_1) rfl ?_
  clear X eT; clear T; intro T X eT
  refine giloadN (v := (2 : Int32)) X hx 5 (hb hby own_d3_4) rfl rfl ?_
  refine gifYes X hx 27 (hb hby own_d3_5) (by decide) (by decide) (by decide) ?_
  refine ggetS X hx hZ (host := "") hown (Or.inl (own_w20 hw)) Via.refl eT (O2.ext P0_Old.2) 30 (hb hby own_d3_27) rfl ?_
  clear X eT; clear T; intro T X eT
  refine gifNo X hx 33 (hb hby own_d3_30) rfl ((if0 _ _).trans (feq P5).1) ?_
  refine galoadN (v := (.ref b)) X hx 34 (hb hby own_d3_33) rfl rfl rfl ?_
  refine giloadN (v := (0 : Int32)) X hx 35 (hb hby own_d3_34) rfl rfl ?_
  refine giloadN (v := (2 : Int32)) X hx 36 (hb hby own_d3_35) rfl rfl ?_
  refine gstatic (y := (⟨"java/lang/StringUTF16", "compress", "([CII)[B"⟩ : MethodName)) (argsL := [(.ref b), (.int (0 : Int32)), (.int (2 : Int32))]) (st := []) X hx hZ hown (own_w21 hw) (own_w22 hw) (own_w23 hw) (own_w24 hw) (by decide) (payP (W := 0) (rmC3_2_0 l Z a0 hw (b) (kc) (c0) (c1) h0 n0 (Nat.le_trans Z0 sz_h) P0_Old P4_Arv (SA) (SH) (SLo) (r0) (r1) (s0)) hZ (own_w24 hw) (own_w23 hw) (by decide) (by decide)) eT (by rw [hml]; rfl) (lenOf own_pd4 rfl) rfl (Nat.le_of_eq rfl) 2 6 rfl rfl (by decide) (by decide) 39 (hb hby own_d3_36) rfl ?_
  clear X eT; clear T; intro v T h1 L2 Lc X eT hL hQ2
  obtain ⟨t_3, kb_4, rfl, Nq, K5, zz_t_3, G7⟩ := hQ2
  replace N : Fr n0 L2 := by rw [hL]; exact Fr.app N Nq
  clear Nq hL
  have ne_x_t_3 : x ≠ t_3 := Nat.ne_of_lt (Nat.lt_of_lt_of_le P1_Exa.lt zz_t_3)
  have ne_t_3_x : t_3 ≠ x := Ne.symm ne_x_t_3
  have ne_b_t_3 : b ≠ t_3 := Nat.ne_of_lt (Nat.lt_of_lt_of_le P4_Arv.lt zz_t_3)
  have ne_t_3_b : t_3 ≠ b := Ne.symm ne_b_t_3
  have sz_t_3 : h0.size ≤ t_3 := Nat.le_trans sz_h zz_t_3
  have ge_t_3 : n0 ≤ t_3 := Nat.le_trans Z0 sz_t_3
  replace P0_Old := P0_Old.keep K5 all0
  replace P1_Exa := P1_Exa.keep K5
  replace P2_Fld := P2_Fld.keep K5 nin0
  replace P3_Fld := P3_Fld.keep K5 nin0
  replace P4_Arv := P4_Arv.keep K5 nin0
  replace K0 := K0.trans K5 all0
  replace sz_h : h0.size ≤ h1.size := Nat.le_trans sz_h K5.1
  show Go p e below _ T (mkF m 39 #[.val (.ref x), .val (.ref b), .val (.int (0 : Int32)), .val (.int (2 : Int32)), .val .null, .unset] [(.ref t_3)])
  refine gastore X hx #[.val (.ref x), .val (.ref b), .val (.int (0 : Int32)), .val (.int (2 : Int32)), .val .null, .val (.ref t_3)] 41 (hb hby own_d3_39) rfl rfl rfl ?_
  refine galoadN (v := (.ref x)) X hx 42 (hb hby own_d3_41) rfl rfl rfl ?_
  refine gaload (v := (.ref t_3)) X hx 44 (hb hby own_d3_42) rfl rfl rfl ?_
  refine giloadN (v := (2 : Int32)) X hx 45 (hb hby own_d3_44) rfl rfl ?_
  refine gstatic (y := (⟨"java/lang/StringUTF16", "coderFromArrayLen", "([BI)B"⟩ : MethodName)) (argsL := [(.ref t_3), (.int (2 : Int32))]) (st := [(.ref x)]) X hx hZ hown (own_w29 hw) (own_w30 hw) (own_w23 hw) (own_w31 hw) (by decide) (payP (W := 1) (rmCL2 l Z a0 hw (t_3) (kb_4) ([(.int (StrChars.lo8 c0)), (.int (StrChars.hi8 c0)), (.int (StrChars.lo8 c1)), (.int (StrChars.hi8 c1))]) h1 n0 (Nat.le_trans Z0 sz_h) G7) hZ (own_w31 hw) (own_w23 hw) (by decide) (by decide)) eT (by rw [hml]; rfl) (lenOf own_pd6 rfl) rfl (Nat.le_of_eq rfl) 2 6 rfl rfl (by decide) (by decide) 48 (hb hby own_d3_45) rfl ?_
  clear X eT; clear T; intro v T h8 L2 Lc X eT hL hQ9
  obtain ⟨rfl, Nq, hh⟩ := hQ9
  replace N : Fr n0 L2 := by rw [hL]; exact Fr.app N Nq
  clear Nq hL
  replace hh := hh.symm; subst hh
  show Go p e below _ T (mkF m 48 #[.val (.ref x), .val (.ref b), .val (.int (0 : Int32)), .val (.int (2 : Int32)), .val .null, .val (.ref t_3)] [(.int (1 : Int32)), (.ref x)])
  refine gputF X hx hZ (host := "") hown (Or.inl (own_w32 hw)) Via.refl eT P3_Fld P1_Exa (Or.inr ⟨(own_w33 hw), rfl, hnm⟩) (own_w8 hw) (ty := .byte) own_pf0 rfl rfl N ge_x 51 (hb hby own_d3_48) rfl ?_
  clear X eT N; clear T; intro T h12 L X eT N W13
  have ne_b_x : b ≠ x := Ne.symm (Exa.neArv P1_Exa P4_Arv (own_w8 hw))
  replace P0_Old := P0_Old.wr W13 ge_x
  replace P1_Exa := P1_Exa.wr W13
  replace P2_Fld := P2_Fld.other W13 (Or.inr (slot_ne (Or.inr (own_w35 hw)) (Or.inr (own_w33 hw)) (by decide) own_pf1 own_pf0))
  replace P3_Fld := P3_Fld.same W13
  replace P4_Arv := P4_Arv.other W13 ne_b_x
  replace G7 := G7.other W13 ne_t_3_x
  replace K0 := K0.wr W13 (Or.inl (List.mem_of_getElem? (i := 0) rfl))
  replace sz_h : h0.size ≤ h12.size := by rw [Wr.size W13]; exact sz_h
  refine galoadN (v := (.ref x)) X hx 52 (hb hby own_d3_51) rfl rfl rfl ?_
  refine gaload (v := (.ref t_3)) X hx 54 (hb hby own_d3_52) rfl rfl rfl ?_
  refine gputF X hx hZ (host := "") hown (Or.inl (own_w34 hw)) Via.refl eT P2_Fld P1_Exa (Or.inr ⟨(own_w35 hw), rfl, hnm⟩) (own_w8 hw) (ty := (.array .byte)) own_pf1 rfl rfl N ge_x 57 (hb hby own_d3_54) rfl ?_
  clear X eT N; clear T; intro T h14 L X eT N W15
  replace P0_Old := P0_Old.wr W15 ge_x
  replace P1_Exa := P1_Exa.wr W15
  replace P2_Fld := P2_Fld.same W15
  replace P3_Fld := P3_Fld.other W15 (Or.inr (slot_ne (Or.inr (own_w33 hw)) (Or.inr (own_w35 hw)) (by decide) own_pf0 own_pf1))
  replace P4_Arv := P4_Arv.other W15 ne_b_x
  replace G7 := G7.other W15 ne_t_3_x
  replace K0 := K0.wr W15 (Or.inl (List.mem_of_getElem? (i := 0) rfl))
  replace sz_h : h0.size ≤ h14.size := by rw [Wr.size W15]; exact sz_h
  exact gRetP0 X hx hlk hret (hb hby own_d3_57) eT (by decide) (by decide) ⟨t_3, kb_4, rfl, N, K0, sz_t_3, P3_Fld, P2_Fld, G7⟩
set_option maxRecDepth 65536 in
set_option maxHeartbeats 40000000 in
theorem rmI1_2_0 (l : Launch) (Z : State) (a0 : Array Value) (hw : ∀ d ∈ tables_1, d.before a0 Z = true) (x : Addr) (b : Addr) (kc : ClassId) (y0 : Value) (y1 : Value) (G1 : Int32) (c0 : Int32) (c1 : Int32) (h0 : Heap) (n0 : Nat) (Z0 : n0 ≤ h0.size) (ge_x : n0 ≤ x) (P0_Old : Old Z n0 h0) (P1_Exa : Exa Z h0 x "java/lang/String") (P2_Fld : Fld Z h0 x "java/lang/String" "value" "[B" y0) (P3_Fld : Fld Z h0 x "java/lang/String" "coder" "B" y1) (P4_Arv : Arv Z h0 b kc .char (2 : Int32) [(.int c0), (.int c1)] (.int 0)) (O2 : Sta Z Z.heap "java/lang/String" "COMPACT_STRINGS" "Z" (.int G1)) (P5 : ¬ G1 = (0 : Int32)) (SA : Sta Z Z.heap "java/lang/StringUTF16" "$assertionsDisabled" "Z" (.int 1)) (SH : Sta Z Z.heap "java/lang/StringUTF16" "HI_BYTE_SHIFT" "I" (.int 0)) (SLo : Sta Z Z.heap "java/lang/StringUTF16" "LO_BYTE_SHIFT" "I" (.int 8)) (r0 : ¬ c0 < 0 ∧ ¬ (65535 : Int32) < c0) (r1 : ¬ c1 < 0 ∧ ¬ (65535 : Int32) < c1) (s0 : (255 : Int32) < c0) :
    CtP l (⟨"java/lang/String", "<init>", "([C)V"⟩ : MethodName) jdk_42_method_3_code 2 none [] ({ frames := 5, cells := 2, slots := 6, locals := 74 } : Room) Z #[(.ref x), (.ref b)] h0 (fun v h L => ∃ (t : Addr), ∃ (kb : ClassId), v = none ∧ Fr n0 L ∧ Keep h0 h [x] ∧ h0.size ≤ t ∧ Fld Z h x "java/lang/String" "coder" "B" (.int (1 : Int32)) ∧ Fld Z h x "java/lang/String" "value" "[B" (.ref t) ∧ Arv Z h t kb .byte (4 : Int32) [(.int (StrChars.lo8 c0)), (.int (StrChars.hi8 c0)), (.int (StrChars.lo8 c1)), (.int (StrChars.hi8 c1))] (.int 0)) := by
  refine CtP.walk (Ls := #[.val (.ref x), .val (.ref b)]) own_pn2 (fun m => by first | (simp [entryFrame, mkF, argsToLocals, Value.category]; done) | rfl) ?_
  intro p e s m below meth cc_ T hx hby hml hown hnm hret hlk hZ X eT
  have N := Fr.nil n0
  have K0 := Keep.refl h0 [x]
  have sz_h : h0.size ≤ h0.size := Nat.le_refl _
  refine galoadN (v := (.ref x)) X hx 1 (hb hby own_d2_0) rfl rfl rfl ?_
  refine galoadN (v := (.ref b)) X hx 2 (hb hby own_d2_1) rfl rfl rfl ?_
  refine giconst X hx (0 : Int32) 3 (hb hby own_d2_2) rfl rfl ?_
  refine galoadN (v := (.ref b)) X hx 4 (hb hby own_d2_3) rfl rfl rfl ?_
  refine garrlen X hx hZ eT P4_Arv 5 (hb hby own_d2_4) rfl ?_
  refine gaconstNull X hx 6 (hb hby own_d2_5) rfl ?_
  refine gspecial (y := (⟨"java/lang/String", "<init>", "([CIILjava/lang/Void;)V"⟩ : MethodName)) (a := x) (argsL := [(.ref b), (.int (0 : Int32)), (.int (2 : Int32)), .null]) (st := []) X hx hZ hown rfl (own_w13 hw) (own_w14 hw) (own_w16 hw) (by decide) (payP (W := 0) (rmI4_2_0 l Z a0 hw (x) (b) (kc) (y0) (y1) _ (c0) (c1) h0 n0 (Nat.le_trans Z0 sz_h) ge_x P0_Old P1_Exa P2_Fld P3_Fld P4_Arv (O2) (P5) (SA) (SH) (SLo) (r0) (r1) (s0)) hZ (own_w16 hw) (own_w9 hw) (by decide) (by decide)) eT (by rw [hml]; rfl) (lenOf own_pd7 rfl) rfl (Nat.le_of_eq rfl) 2 6 rfl rfl (by decide) (by decide) 9 (hb hby own_d2_6) rfl ?_
  clear X eT; clear T; intro v T h1 L2 Lc X eT hL hQ2
  obtain ⟨t_3, kb_4, rfl, Nq, K5, zz_t_3, G7, G8, G9⟩ := hQ2
  replace N : Fr n0 L2 := by rw [hL]; exact Fr.app N Nq
  clear Nq hL
  have ne_x_t_3 : x ≠ t_3 := Nat.ne_of_lt (Nat.lt_of_lt_of_le P1_Exa.lt zz_t_3)
  have ne_t_3_x : t_3 ≠ x := Ne.symm ne_x_t_3
  have ne_b_t_3 : b ≠ t_3 := Nat.ne_of_lt (Nat.lt_of_lt_of_le P4_Arv.lt zz_t_3)
  have ne_t_3_b : t_3 ≠ b := Ne.symm ne_b_t_3
  have sz_t_3 : h0.size ≤ t_3 := Nat.le_trans sz_h zz_t_3
  have ge_t_3 : n0 ≤ t_3 := Nat.le_trans Z0 sz_t_3
  have ne_b_x : b ≠ x := Ne.symm (Exa.neArv P1_Exa P4_Arv (own_w8 hw))
  replace P0_Old := P0_Old.keep K5 (allS ge_x all0)
  replace P1_Exa := P1_Exa.keep K5
  replace P4_Arv := P4_Arv.keep K5 (ninS ne_b_x nin0)
  replace K0 := K0.trans K5 (allS (Or.inl (List.mem_of_getElem? (i := 0) rfl)) all0)
  replace sz_h : h0.size ≤ h1.size := Nat.le_trans sz_h K5.1
  show Go p e below _ T (mkF m 9 #[.val (.ref x), .val (.ref b)] [])
  exact gRetP0 X hx hlk hret (hb hby own_d2_9) eT (by decide) (by decide) ⟨t_3, kb_4, rfl, N, K0, sz_t_3, G7, G8, G9⟩
set_option maxRecDepth 65536 in
set_option maxHeartbeats 40000000 in
theorem rmC5_2_1 (l : Launch) (Z : State) (a0 : Array Value) (hw : ∀ d ∈ tables_1, d.before a0 Z = true) (b : Addr) (t : Addr) (kc : ClassId) (kb : ClassId) (c0 : Int32) (c1 : Int32) (h0 : Heap) (n0 : Nat) (Z0 : n0 ≤ h0.size) (ge_t : n0 ≤ t) (P0_Arv : Arv Z h0 b kc .char (2 : Int32) [(.int c0), (.int c1)] (.int 0)) (P1_Arv : Arv Z h0 t kb .byte (2 : Int32) [(.int (0 : Int32)), (.int (0 : Int32))] (.int 0)) (s0 : ¬ (255 : Int32) < c0) (s1 : (255 : Int32) < c1) (hne : b ≠ t) :
    CtP l (⟨"java/lang/StringUTF16", "compress", "([CI[BII)I"⟩ : MethodName) jdk_52_method_21_code 7 (some .int) [] ({ frames := 0, cells := 0, slots := 0, locals := 0 } : Room) Z #[(.ref b), (.int (0 : Int32)), (.ref t), (.int (0 : Int32)), (.int (2 : Int32))] h0 (fun v h L => v = some (.int (1 : Int32)) ∧ Fr n0 L ∧ Keep h0 h [t]) := by
  refine CtP.walk (Ls := #[.val (.ref b), .val (.int (0 : Int32)), .val (.ref t), .val (.int (0 : Int32)), .val (.int (2 : Int32)), .unset, .unset]) (plainFor_of_name own_pn0) (fun m => by first | (simp [entryFrame, mkF, argsToLocals, Value.category]; done) | rfl) ?_
  intro p e s m below meth cc_ T hx hby hml hown hnm hret hlk hZ X eT
  have N := Fr.nil n0
  have K0 := Keep.refl h0 [t]
  have sz_h : h0.size ≤ h0.size := Nat.le_refl _
  refine giconst X hx (0 : Int32) 1 (hb hby own_d6_0) rfl rfl ?_
  refine gistore X hx #[.val (.ref b), .val (.int (0 : Int32)), .val (.ref t), .val (.int (0 : Int32)), .val (.int (2 : Int32)), .val (.int (0 : Int32)), .unset] 3 (hb hby own_d6_1) rfl rfl ?_
  refine giload (v := (0 : Int32)) X hx 5 (hb hby own_d6_3) rfl rfl ?_
  refine giload (v := (2 : Int32)) X hx 7 (hb hby own_d6_5) rfl rfl ?_
  refine gicmpNo X hx 10 (hb hby own_d6_7) rfl (by decide) ?_
  refine galoadN (v := (.ref b)) X hx 11 (hb hby own_d6_10) rfl rfl rfl ?_
  refine giloadN (v := (0 : Int32)) X hx 12 (hb hby own_d6_11) rfl rfl ?_
  refine gcaload X hx hZ eT P0_Arv (.int c0) (by decide) (by decide) rfl 13 (hb hby own_d6_12) rfl ?_
  refine gistore X hx #[.val (.ref b), .val (.int (0 : Int32)), .val (.ref t), .val (.int (0 : Int32)), .val (.int (2 : Int32)), .val (.int (0 : Int32)), .val (.int c0)] 15 (hb hby own_d6_13) rfl rfl ?_
  refine giload (v := c0) X hx 17 (hb hby own_d6_15) rfl rfl ?_
  refine gsipush X hx (255 : Int32) 20 (hb hby own_d6_17) rfl rfl ?_
  refine gicmpYes X hx 26 (hb hby own_d6_20) (flt s0).2.2.2 (by decide) (by decide) ?_
  refine galoadN (v := (.ref t)) X hx 27 (hb hby own_d6_26) rfl rfl rfl ?_
  refine giloadN (v := (0 : Int32)) X hx 28 (hb hby own_d6_27) rfl rfl ?_
  refine giload (v := c0) X hx 30 (hb hby own_d6_28) rfl rfl ?_
  refine gi2b X hx 31 (hb hby own_d6_30) rfl ?_
  refine gbastore X hx hZ eT P1_Arv (by decide) (by decide) 0 rfl (Nat.le_of_ble_eq_true rfl) N ge_t 32 (hb hby own_d6_31) rfl ?_
  clear X eT N; clear T; intro T h2 L X eT N W1 V3
  replace P0_Arv := P0_Arv.other W1 hne
  replace K0 := K0.wr W1 (Or.inl (List.mem_of_getElem? (i := 0) rfl))
  replace sz_h : h0.size ≤ h2.size := by rw [Wr.size W1]; exact sz_h
  replace V3 : Arv Z h2 t kb .byte (2 : Int32) [(.int (c0.toInt8.toInt32)), (.int (0 : Int32))] (.int 0) := by have z := V3; rw [own_narb] at z; exact z
  refine giinc X hx #[.val (.ref b), .val (.int (1 : Int32)), .val (.ref t), .val (.int (0 : Int32)), .val (.int (2 : Int32)), .val (.int (0 : Int32)), .val (.int c0)] 35 (hb hby own_d6_32) rfl rfl rfl ?_
  refine giinc X hx #[.val (.ref b), .val (.int (1 : Int32)), .val (.ref t), .val (.int (1 : Int32)), .val (.int (2 : Int32)), .val (.int (0 : Int32)), .val (.int c0)] 38 (hb hby own_d6_35) rfl rfl rfl ?_
  refine giinc X hx #[.val (.ref b), .val (.int (1 : Int32)), .val (.ref t), .val (.int (1 : Int32)), .val (.int (2 : Int32)), .val (.int (1 : Int32)), .val (.int c0)] 41 (hb hby own_d6_38) rfl rfl rfl ?_
  refine ggoto X hx 3 (hb hby own_d6_41) (by decide) (by decide) ?_
  refine giload (v := (1 : Int32)) X hx 5 (hb hby own_d6_3) rfl rfl ?_
  refine giload (v := (2 : Int32)) X hx 7 (hb hby own_d6_5) rfl rfl ?_
  refine gicmpNo X hx 10 (hb hby own_d6_7) rfl (by decide) ?_
  refine galoadN (v := (.ref b)) X hx 11 (hb hby own_d6_10) rfl rfl rfl ?_
  refine giloadN (v := (1 : Int32)) X hx 12 (hb hby own_d6_11) rfl rfl ?_
  refine gcaload X hx hZ eT P0_Arv (.int c1) (by decide) (by decide) rfl 13 (hb hby own_d6_12) rfl ?_
  refine gistore X hx #[.val (.ref b), .val (.int (1 : Int32)), .val (.ref t), .val (.int (1 : Int32)), .val (.int (2 : Int32)), .val (.int (1 : Int32)), .val (.int c1)] 15 (hb hby own_d6_13) rfl rfl ?_
  refine giload (v := c1) X hx 17 (hb hby own_d6_15) rfl rfl ?_
  refine gsipush X hx (255 : Int32) 20 (hb hby own_d6_17) rfl rfl ?_
  refine gicmpNo X hx 23 (hb hby own_d6_20) rfl (tlt s1).2.2.2 ?_
  refine giload (v := (1 : Int32)) X hx 25 (hb hby own_d6_23) rfl rfl ?_
  exact gRetP X hx hlk hret rfl (Or.inl ⟨rfl, by simp, _, rfl⟩) (hb hby own_d6_25) eT (by decide) (by decide) ⟨rfl, N, K0⟩
set_option maxRecDepth 65536 in
set_option maxHeartbeats 40000000 in
theorem rmC3_2_1 (l : Launch) (Z : State) (a0 : Array Value) (hw : ∀ d ∈ tables_1, d.before a0 Z = true) (b : Addr) (kc : ClassId) (c0 : Int32) (c1 : Int32) (h0 : Heap) (n0 : Nat) (Z0 : n0 ≤ h0.size) (P0_Old : Old Z n0 h0) (P1_Arv : Arv Z h0 b kc .char (2 : Int32) [(.int c0), (.int c1)] (.int 0)) (SA : Sta Z Z.heap "java/lang/StringUTF16" "$assertionsDisabled" "Z" (.int 1)) (SH : Sta Z Z.heap "java/lang/StringUTF16" "HI_BYTE_SHIFT" "I" (.int 0)) (SLo : Sta Z Z.heap "java/lang/StringUTF16" "LO_BYTE_SHIFT" "I" (.int 8)) (r0 : ¬ c0 < 0 ∧ ¬ (65535 : Int32) < c0) (r1 : ¬ c1 < 0 ∧ ¬ (65535 : Int32) < c1) (s0 : ¬ (255 : Int32) < c0) (s1 : (255 : Int32) < c1) :
    CtP l (⟨"java/lang/StringUTF16", "compress", "([CII)[B"⟩ : MethodName) jdk_52_method_16_code 6 (some (.array .byte)) [] ({ frames := 3, cells := 2, slots := 6, locals := 40 } : Room) Z #[(.ref b), (.int (0 : Int32)), (.int (2 : Int32))] h0 (fun v h L => ∃ (t : Addr), ∃ (kb : ClassId), v = some (.ref t) ∧ Fr n0 L ∧ Keep h0 h [] ∧ h0.size ≤ t ∧ Arv Z h t kb .byte (4 : Int32) [(.int (StrChars.lo8 c0)), (.int (StrChars.hi8 c0)), (.int (StrChars.lo8 c1)), (.int (StrChars.hi8 c1))] (.int 0)) := by
  refine CtP.walk (Ls := #[.val (.ref b), .val (.int (0 : Int32)), .val (.int (2 : Int32)), .unset, .unset, .unset]) (plainFor_of_name own_pn0) (fun m => by first | (simp [entryFrame, mkF, argsToLocals, Value.category]; done) | rfl) ?_
  intro p e s m below meth cc_ T hx hby hml hown hnm hret hlk hZ X eT
  have N := Fr.nil n0
  have K0 := Keep.refl h0 []
  have sz_h : h0.size ≤ h0.size := Nat.le_refl _
  refine giloadN (v := (2 : Int32)) X hx 1 (hb hby own_d5_0) rfl rfl ?_
  refine gnewP (aty := .byte) X hx hZ (own_w25 hw) eT (n := (2 : Int32)) (by decide) 2 (by decide) (by decide) 1 2 rfl rfl (by decide) (by decide) 3 (hb hby own_d5_1) rfl ?_
  clear X eT; clear T; intro T h1 b2 kc5 X eT ga E3 V4
  have le_a := Nat.le_of_eq ga.symm
  have ne_b_b2 : b ≠ b2 := Nat.ne_of_lt (Nat.lt_of_lt_of_le P1_Arv.lt le_a)
  have ne_b2_b : b2 ≠ b := Ne.symm ne_b_b2
  have sz_b2 : h0.size ≤ b2 := Nat.le_trans sz_h le_a
  have ge_b2 : n0 ≤ b2 := Nat.le_trans Z0 sz_b2
  clear le_a ga
  replace P0_Old := P0_Old.ext E3
  replace P1_Arv := P1_Arv.ext E3
  replace K0 := K0.ext E3
  replace sz_h : h0.size ≤ h1.size := Nat.le_trans sz_h E3.1
  replace V4 : Arv Z h1 b2 kc5 .byte (2 : Int32) [(.int (0 : Int32)), (.int (0 : Int32))] (.int 0) := V4.pad (pad_rep [] _ 2)
  refine gastoreN X hx #[.val (.ref b), .val (.int (0 : Int32)), .val (.int (2 : Int32)), .val (.ref b2), .unset, .unset] 4 (hb hby own_d5_3) rfl rfl rfl ?_
  refine galoadN (v := (.ref b)) X hx 5 (hb hby own_d5_4) rfl rfl rfl ?_
  refine giloadN (v := (0 : Int32)) X hx 6 (hb hby own_d5_5) rfl rfl ?_
  refine galoadN (v := (.ref b2)) X hx 7 (hb hby own_d5_6) rfl rfl rfl ?_
  refine giconst X hx (0 : Int32) 8 (hb hby own_d5_7) rfl rfl ?_
  refine giloadN (v := (2 : Int32)) X hx 9 (hb hby own_d5_8) rfl rfl ?_
  refine gstatic (y := (⟨"java/lang/StringUTF16", "compress", "([CI[BII)I"⟩ : MethodName)) (argsL := [(.ref b), (.int (0 : Int32)), (.ref b2), (.int (0 : Int32)), (.int (2 : Int32))]) (st := []) X hx hZ hown (own_w26 hw) (own_w27 hw) (own_w23 hw) (own_w28 hw) (by decide) (payP (W := 0) (rmC5_2_1 l Z a0 hw (b) (b2) (kc) (kc5) (c0) (c1) h1 n0 (Nat.le_trans Z0 sz_h) ge_b2 P1_Arv V4 (s0) (s1) (ne_b_b2)) hZ (own_w28 hw) (own_w23 hw) (by decide) (by decide)) eT (by rw [hml]; rfl) (lenOf own_pd3 rfl) rfl (Nat.le_of_eq rfl) 1 2 rfl rfl (by decide) (by decide) 12 (hb hby own_d5_9) rfl ?_
  clear X eT; clear T; intro v T h6 L2 Lc X eT hL hQ7
  obtain ⟨rfl, Nq, K8⟩ := hQ7
  replace N : Fr n0 L2 := by rw [hL]; exact Fr.app N Nq
  clear Nq hL
  replace P0_Old := P0_Old.keep K8 (allS ge_b2 all0)
  replace P1_Arv := P1_Arv.keep K8 (ninS ne_b_b2 nin0)
  replace K0 := K0.trans K8 (allS (Or.inr sz_b2) all0)
  replace sz_h : h0.size ≤ h6.size := Nat.le_trans sz_h K8.1
  show Go p e below _ T (mkF m 12 #[.val (.ref b), .val (.int (0 : Int32)), .val (.int (2 : Int32)), .val (.ref b2), .unset, .unset] [(.int (1 : Int32))])
  refine gistore X hx #[.val (.ref b), .val (.int (0 : Int32)), .val (.int (2 : Int32)), .val (.ref b2), .val (.int (1 : Int32)), .unset] 14 (hb hby own_d5_12) rfl rfl ?_
  refine giload (v := (1 : Int32)) X hx 16 (hb hby own_d5_14) rfl rfl ?_
  refine giloadN (v := (2 : Int32)) X hx 17 (hb hby own_d5_16) rfl rfl ?_
  refine gicmpNo X hx 20 (hb hby own_d5_17) rfl (by decide) ?_
  refine galoadN (v := (.ref b)) X hx 21 (hb hby own_d5_20) rfl rfl rfl ?_
  refine giloadN (v := (0 : Int32)) X hx 22 (hb hby own_d5_21) rfl rfl ?_
  refine giloadN (v := (2 : Int32)) X hx 23 (hb hby own_d5_22) rfl rfl ?_
  refine gstatic (y := (⟨"java/lang/StringUTF16", "toBytes", "([CII)[B"⟩ : MethodName)) (argsL := [(.ref b), (.int (0 : Int32)), (.int (2 : Int32))]) (st := []) X hx hZ hown (own_w88 hw) (own_w89 hw) (own_w23 hw) (own_w90 hw) (by decide) (payP (W := 0) (rmTB2 l Z a0 hw (b) (kc) (c0) (c1) h6 n0 (Nat.le_trans Z0 sz_h) P0_Old P1_Arv (SA) (SH) (SLo)) hZ (own_w90 hw) (own_w23 hw) (by decide) (by decide)) eT (by rw [hml]; rfl) (lenOf own_pd4 rfl) rfl (Nat.le_of_eq rfl) 2 6 rfl rfl (by decide) (by decide) 26 (hb hby own_d5_23) rfl ?_
  clear X eT; clear T; intro v T h10 L2 Lc X eT hL hQ11
  obtain ⟨t_12, kb_13, rfl, Nq, K14, zz_t_12, G16⟩ := hQ11
  replace N : Fr n0 L2 := by rw [hL]; exact Fr.app N Nq
  clear Nq hL
  have ne_b_t_12 : b ≠ t_12 := Nat.ne_of_lt (Nat.lt_of_lt_of_le P1_Arv.lt zz_t_12)
  have ne_t_12_b : t_12 ≠ b := Ne.symm ne_b_t_12
  have sz_t_12 : h0.size ≤ t_12 := Nat.le_trans sz_h zz_t_12
  have ge_t_12 : n0 ≤ t_12 := Nat.le_trans Z0 sz_t_12
  replace P0_Old := P0_Old.keep K14 all0
  replace P1_Arv := P1_Arv.keep K14 nin0
  replace K0 := K0.trans K14 all0
  replace sz_h : h0.size ≤ h10.size := Nat.le_trans sz_h K14.1
  show Go p e below _ T (mkF m 26 #[.val (.ref b), .val (.int (0 : Int32)), .val (.int (2 : Int32)), .val (.ref b2), .val (.int (1 : Int32)), .unset] [(.ref t_12)])
  refine gastore X hx #[.val (.ref b), .val (.int (0 : Int32)), .val (.int (2 : Int32)), .val (.ref b2), .val (.int (1 : Int32)), .val (.ref t_12)] 28 (hb hby own_d5_26) rfl rfl rfl ?_
  refine gaload (v := (.ref t_12)) X hx 30 (hb hby own_d5_28) rfl rfl rfl ?_
  refine giload (v := (1 : Int32)) X hx 32 (hb hby own_d5_30) rfl rfl ?_
  refine gstatic (y := (⟨"java/lang/StringUTF16", "getChar", "([BI)C"⟩ : MethodName)) (argsL := [(.ref t_12), (.int (1 : Int32))]) (st := []) X hx hZ hown (own_w104 hw) (own_w105 hw) (own_w23 hw) (own_w106 hw) (by decide) (payP (W := 0) (rmGet2_1 l Z a0 hw (t_12) (kb_13) _ _ h10 n0 (Nat.le_trans Z0 sz_h) P0_Old G16 (SA) (SH) (SLo) (r0) (r1)) hZ (own_w106 hw) (own_w23 hw) (by decide) (by decide)) eT (by rw [hml]; rfl) (lenOf own_pd5 rfl) rfl (Nat.le_of_eq rfl) 2 6 rfl rfl (by decide) (by decide) 35 (hb hby own_d5_32) rfl ?_
  clear X eT; clear T; intro v T h17 L2 Lc X eT hL hQ18
  obtain ⟨rfl, Nq, hh⟩ := hQ18
  replace N : Fr n0 L2 := by rw [hL]; exact Fr.app N Nq
  clear Nq hL
  replace hh := hh.symm; subst hh
  show Go p e below _ T (mkF m 35 #[.val (.ref b), .val (.int (0 : Int32)), .val (.int (2 : Int32)), .val (.ref b2), .val (.int (1 : Int32)), .val (.ref t_12)] [(.int c1)])
  refine gsipush X hx (255 : Int32) 38 (hb hby own_d5_35) rfl rfl ?_
  refine gicmpYes X hx 54 (hb hby own_d5_38) (tlt s1).2.2.1 (by decide) (by decide) ?_
  refine gaload (v := (.ref t_12)) X hx 56 (hb hby own_d5_54) rfl rfl rfl ?_
  exact gRetP X hx hlk hret rfl (Or.inr (Or.inr (Or.inr (Or.inr ⟨rfl, rfl, rfl⟩)))) (hb hby own_d5_56) eT (by decide) (by decide) ⟨t_12, kb_13, rfl, N, K0, sz_t_12, G16⟩
set_option maxRecDepth 65536 in
set_option maxHeartbeats 40000000 in
theorem rmI4_2_1 (l : Launch) (Z : State) (a0 : Array Value) (hw : ∀ d ∈ tables_1, d.before a0 Z = true) (x : Addr) (b : Addr) (kc : ClassId) (y0 : Value) (y1 : Value) (G1 : Int32) (c0 : Int32) (c1 : Int32) (h0 : Heap) (n0 : Nat) (Z0 : n0 ≤ h0.size) (ge_x : n0 ≤ x) (P0_Old : Old Z n0 h0) (P1_Exa : Exa Z h0 x "java/lang/String") (P2_Fld : Fld Z h0 x "java/lang/String" "value" "[B" y0) (P3_Fld : Fld Z h0 x "java/lang/String" "coder" "B" y1) (P4_Arv : Arv Z h0 b kc .char (2 : Int32) [(.int c0), (.int c1)] (.int 0)) (O2 : Sta Z Z.heap "java/lang/String" "COMPACT_STRINGS" "Z" (.int G1)) (P5 : ¬ G1 = (0 : Int32)) (SA : Sta Z Z.heap "java/lang/StringUTF16" "$assertionsDisabled" "Z" (.int 1)) (SH : Sta Z Z.heap "java/lang/StringUTF16" "HI_BYTE_SHIFT" "I" (.int 0)) (SLo : Sta Z Z.heap "java/lang/StringUTF16" "LO_BYTE_SHIFT" "I" (.int 8)) (r0 : ¬ c0 < 0 ∧ ¬ (65535 : Int32) < c0) (r1 : ¬ c1 < 0 ∧ ¬ (65535 : Int32) < c1) (s0 : ¬ (255 : Int32) < c0) (s1 : (255 : Int32) < c1) :
    CtP l (⟨"java/lang/String", "<init>", "([CIILjava/lang/Void;)V"⟩ : MethodName) jdk_42_method_149_code 6 none [] ({ frames := 4, cells := 2, slots := 6, locals := 57 } : Room) Z #[(.ref x), (.ref b), (.int (0 : Int32)), (.int (2 : Int32)), .null] h0 (fun v h L => ∃ (t : Addr), ∃ (kb : ClassId), v = none ∧ Fr n0 L ∧ Keep h0 h [x] ∧ h0.size ≤ t ∧ Fld Z h x "java/lang/String" "coder" "B" (.int (1 : Int32)) ∧ Fld Z h x "java/lang/String" "value" "[B" (.ref t) ∧ Arv Z h t kb .byte (4 : Int32) [(.int (StrChars.lo8 c0)), (.int (StrChars.hi8 c0)), (.int (StrChars.lo8 c1)), (.int (StrChars.hi8 c1))] (.int 0)) := by
  refine CtP.walk (Ls := #[.val (.ref x), .val (.ref b), .val (.int (0 : Int32)), .val (.int (2 : Int32)), .val .null, .unset]) own_pn1 (fun m => by first | (simp [entryFrame, mkF, argsToLocals, Value.category]; done) | rfl) ?_
  intro p e s m below meth cc_ T hx hby hml hown hnm hret hlk hZ X eT
  have N := Fr.nil n0
  have K0 := Keep.refl h0 [x]
  have sz_h : h0.size ≤ h0.size := Nat.le_refl _
  refine galoadN (v := (.ref x)) X hx 1 (hb hby own_d3_0) rfl rfl rfl ?_
  refine ginitO X hx hZ hown (own_w17 hw) (own_w18 hw) (own_w19 hw) eT (by rw [hml]; rfl) (by decide) 0 (Nat.le_of_eq rfl) (by decide) 4 (hb hby own_d3_1) rfl ?_
  clear X eT; clear T; intro T X eT
  refine giloadN (v := (2 : Int32)) X hx 5 (hb hby own_d3_4) rfl rfl ?_
  refine gifYes X hx 27 (hb hby own_d3_5) (by decide) (by decide) (by decide) ?_
  refine ggetS X hx hZ (host := "") hown (Or.inl (own_w20 hw)) Via.refl eT (O2.ext P0_Old.2) 30 (hb hby own_d3_27) rfl ?_
  clear X eT; clear T; intro T X eT
  refine gifNo X hx 33 (hb hby own_d3_30) rfl ((if0 _ _).trans (feq P5).1) ?_
  refine galoadN (v := (.ref b)) X hx 34 (hb hby own_d3_33) rfl rfl rfl ?_
  refine giloadN (v := (0 : Int32)) X hx 35 (hb hby own_d3_34) rfl rfl ?_
  refine giloadN (v := (2 : Int32)) X hx 36 (hb hby own_d3_35) rfl rfl ?_
  refine gstatic (y := (⟨"java/lang/StringUTF16", "compress", "([CII)[B"⟩ : MethodName)) (argsL := [(.ref b), (.int (0 : Int32)), (.int (2 : Int32))]) (st := []) X hx hZ hown (own_w21 hw) (own_w22 hw) (own_w23 hw) (own_w24 hw) (by decide) (payP (W := 0) (rmC3_2_1 l Z a0 hw (b) (kc) (c0) (c1) h0 n0 (Nat.le_trans Z0 sz_h) P0_Old P4_Arv (SA) (SH) (SLo) (r0) (r1) (s0) (s1)) hZ (own_w24 hw) (own_w23 hw) (by decide) (by decide)) eT (by rw [hml]; rfl) (lenOf own_pd4 rfl) rfl (Nat.le_of_eq rfl) 2 6 rfl rfl (by decide) (by decide) 39 (hb hby own_d3_36) rfl ?_
  clear X eT; clear T; intro v T h1 L2 Lc X eT hL hQ2
  obtain ⟨t_3, kb_4, rfl, Nq, K5, zz_t_3, G7⟩ := hQ2
  replace N : Fr n0 L2 := by rw [hL]; exact Fr.app N Nq
  clear Nq hL
  have ne_x_t_3 : x ≠ t_3 := Nat.ne_of_lt (Nat.lt_of_lt_of_le P1_Exa.lt zz_t_3)
  have ne_t_3_x : t_3 ≠ x := Ne.symm ne_x_t_3
  have ne_b_t_3 : b ≠ t_3 := Nat.ne_of_lt (Nat.lt_of_lt_of_le P4_Arv.lt zz_t_3)
  have ne_t_3_b : t_3 ≠ b := Ne.symm ne_b_t_3
  have sz_t_3 : h0.size ≤ t_3 := Nat.le_trans sz_h zz_t_3
  have ge_t_3 : n0 ≤ t_3 := Nat.le_trans Z0 sz_t_3
  replace P0_Old := P0_Old.keep K5 all0
  replace P1_Exa := P1_Exa.keep K5
  replace P2_Fld := P2_Fld.keep K5 nin0
  replace P3_Fld := P3_Fld.keep K5 nin0
  replace P4_Arv := P4_Arv.keep K5 nin0
  replace K0 := K0.trans K5 all0
  replace sz_h : h0.size ≤ h1.size := Nat.le_trans sz_h K5.1
  show Go p e below _ T (mkF m 39 #[.val (.ref x), .val (.ref b), .val (.int (0 : Int32)), .val (.int (2 : Int32)), .val .null, .unset] [(.ref t_3)])
  refine gastore X hx #[.val (.ref x), .val (.ref b), .val (.int (0 : Int32)), .val (.int (2 : Int32)), .val .null, .val (.ref t_3)] 41 (hb hby own_d3_39) rfl rfl rfl ?_
  refine galoadN (v := (.ref x)) X hx 42 (hb hby own_d3_41) rfl rfl rfl ?_
  refine gaload (v := (.ref t_3)) X hx 44 (hb hby own_d3_42) rfl rfl rfl ?_
  refine giloadN (v := (2 : Int32)) X hx 45 (hb hby own_d3_44) rfl rfl ?_
  refine gstatic (y := (⟨"java/lang/StringUTF16", "coderFromArrayLen", "([BI)B"⟩ : MethodName)) (argsL := [(.ref t_3), (.int (2 : Int32))]) (st := [(.ref x)]) X hx hZ hown (own_w29 hw) (own_w30 hw) (own_w23 hw) (own_w31 hw) (by decide) (payP (W := 1) (rmCL2 l Z a0 hw (t_3) (kb_4) ([(.int (StrChars.lo8 c0)), (.int (StrChars.hi8 c0)), (.int (StrChars.lo8 c1)), (.int (StrChars.hi8 c1))]) h1 n0 (Nat.le_trans Z0 sz_h) G7) hZ (own_w31 hw) (own_w23 hw) (by decide) (by decide)) eT (by rw [hml]; rfl) (lenOf own_pd6 rfl) rfl (Nat.le_of_eq rfl) 2 6 rfl rfl (by decide) (by decide) 48 (hb hby own_d3_45) rfl ?_
  clear X eT; clear T; intro v T h8 L2 Lc X eT hL hQ9
  obtain ⟨rfl, Nq, hh⟩ := hQ9
  replace N : Fr n0 L2 := by rw [hL]; exact Fr.app N Nq
  clear Nq hL
  replace hh := hh.symm; subst hh
  show Go p e below _ T (mkF m 48 #[.val (.ref x), .val (.ref b), .val (.int (0 : Int32)), .val (.int (2 : Int32)), .val .null, .val (.ref t_3)] [(.int (1 : Int32)), (.ref x)])
  refine gputF X hx hZ (host := "") hown (Or.inl (own_w32 hw)) Via.refl eT P3_Fld P1_Exa (Or.inr ⟨(own_w33 hw), rfl, hnm⟩) (own_w8 hw) (ty := .byte) own_pf0 rfl rfl N ge_x 51 (hb hby own_d3_48) rfl ?_
  clear X eT N; clear T; intro T h12 L X eT N W13
  have ne_b_x : b ≠ x := Ne.symm (Exa.neArv P1_Exa P4_Arv (own_w8 hw))
  replace P0_Old := P0_Old.wr W13 ge_x
  replace P1_Exa := P1_Exa.wr W13
  replace P2_Fld := P2_Fld.other W13 (Or.inr (slot_ne (Or.inr (own_w35 hw)) (Or.inr (own_w33 hw)) (by decide) own_pf1 own_pf0))
  replace P3_Fld := P3_Fld.same W13
  replace P4_Arv := P4_Arv.other W13 ne_b_x
  replace G7 := G7.other W13 ne_t_3_x
  replace K0 := K0.wr W13 (Or.inl (List.mem_of_getElem? (i := 0) rfl))
  replace sz_h : h0.size ≤ h12.size := by rw [Wr.size W13]; exact sz_h
  refine galoadN (v := (.ref x)) X hx 52 (hb hby own_d3_51) rfl rfl rfl ?_
  refine gaload (v := (.ref t_3)) X hx 54 (hb hby own_d3_52) rfl rfl rfl ?_
  refine gputF X hx hZ (host := "") hown (Or.inl (own_w34 hw)) Via.refl eT P2_Fld P1_Exa (Or.inr ⟨(own_w35 hw), rfl, hnm⟩) (own_w8 hw) (ty := (.array .byte)) own_pf1 rfl rfl N ge_x 57 (hb hby own_d3_54) rfl ?_
  clear X eT N; clear T; intro T h14 L X eT N W15
  replace P0_Old := P0_Old.wr W15 ge_x
  replace P1_Exa := P1_Exa.wr W15
  replace P2_Fld := P2_Fld.same W15
  replace P3_Fld := P3_Fld.other W15 (Or.inr (slot_ne (Or.inr (own_w33 hw)) (Or.inr (own_w35 hw)) (by decide) own_pf0 own_pf1))
  replace P4_Arv := P4_Arv.other W15 ne_b_x
  replace G7 := G7.other W15 ne_t_3_x
  replace K0 := K0.wr W15 (Or.inl (List.mem_of_getElem? (i := 0) rfl))
  replace sz_h : h0.size ≤ h14.size := by rw [Wr.size W15]; exact sz_h
  exact gRetP0 X hx hlk hret (hb hby own_d3_57) eT (by decide) (by decide) ⟨t_3, kb_4, rfl, N, K0, sz_t_3, P3_Fld, P2_Fld, G7⟩
set_option maxRecDepth 65536 in
set_option maxHeartbeats 40000000 in
theorem rmI1_2_1 (l : Launch) (Z : State) (a0 : Array Value) (hw : ∀ d ∈ tables_1, d.before a0 Z = true) (x : Addr) (b : Addr) (kc : ClassId) (y0 : Value) (y1 : Value) (G1 : Int32) (c0 : Int32) (c1 : Int32) (h0 : Heap) (n0 : Nat) (Z0 : n0 ≤ h0.size) (ge_x : n0 ≤ x) (P0_Old : Old Z n0 h0) (P1_Exa : Exa Z h0 x "java/lang/String") (P2_Fld : Fld Z h0 x "java/lang/String" "value" "[B" y0) (P3_Fld : Fld Z h0 x "java/lang/String" "coder" "B" y1) (P4_Arv : Arv Z h0 b kc .char (2 : Int32) [(.int c0), (.int c1)] (.int 0)) (O2 : Sta Z Z.heap "java/lang/String" "COMPACT_STRINGS" "Z" (.int G1)) (P5 : ¬ G1 = (0 : Int32)) (SA : Sta Z Z.heap "java/lang/StringUTF16" "$assertionsDisabled" "Z" (.int 1)) (SH : Sta Z Z.heap "java/lang/StringUTF16" "HI_BYTE_SHIFT" "I" (.int 0)) (SLo : Sta Z Z.heap "java/lang/StringUTF16" "LO_BYTE_SHIFT" "I" (.int 8)) (r0 : ¬ c0 < 0 ∧ ¬ (65535 : Int32) < c0) (r1 : ¬ c1 < 0 ∧ ¬ (65535 : Int32) < c1) (s0 : ¬ (255 : Int32) < c0) (s1 : (255 : Int32) < c1) :
    CtP l (⟨"java/lang/String", "<init>", "([C)V"⟩ : MethodName) jdk_42_method_3_code 2 none [] ({ frames := 5, cells := 2, slots := 6, locals := 74 } : Room) Z #[(.ref x), (.ref b)] h0 (fun v h L => ∃ (t : Addr), ∃ (kb : ClassId), v = none ∧ Fr n0 L ∧ Keep h0 h [x] ∧ h0.size ≤ t ∧ Fld Z h x "java/lang/String" "coder" "B" (.int (1 : Int32)) ∧ Fld Z h x "java/lang/String" "value" "[B" (.ref t) ∧ Arv Z h t kb .byte (4 : Int32) [(.int (StrChars.lo8 c0)), (.int (StrChars.hi8 c0)), (.int (StrChars.lo8 c1)), (.int (StrChars.hi8 c1))] (.int 0)) := by
  refine CtP.walk (Ls := #[.val (.ref x), .val (.ref b)]) own_pn2 (fun m => by first | (simp [entryFrame, mkF, argsToLocals, Value.category]; done) | rfl) ?_
  intro p e s m below meth cc_ T hx hby hml hown hnm hret hlk hZ X eT
  have N := Fr.nil n0
  have K0 := Keep.refl h0 [x]
  have sz_h : h0.size ≤ h0.size := Nat.le_refl _
  refine galoadN (v := (.ref x)) X hx 1 (hb hby own_d2_0) rfl rfl rfl ?_
  refine galoadN (v := (.ref b)) X hx 2 (hb hby own_d2_1) rfl rfl rfl ?_
  refine giconst X hx (0 : Int32) 3 (hb hby own_d2_2) rfl rfl ?_
  refine galoadN (v := (.ref b)) X hx 4 (hb hby own_d2_3) rfl rfl rfl ?_
  refine garrlen X hx hZ eT P4_Arv 5 (hb hby own_d2_4) rfl ?_
  refine gaconstNull X hx 6 (hb hby own_d2_5) rfl ?_
  refine gspecial (y := (⟨"java/lang/String", "<init>", "([CIILjava/lang/Void;)V"⟩ : MethodName)) (a := x) (argsL := [(.ref b), (.int (0 : Int32)), (.int (2 : Int32)), .null]) (st := []) X hx hZ hown rfl (own_w13 hw) (own_w14 hw) (own_w16 hw) (by decide) (payP (W := 0) (rmI4_2_1 l Z a0 hw (x) (b) (kc) (y0) (y1) _ (c0) (c1) h0 n0 (Nat.le_trans Z0 sz_h) ge_x P0_Old P1_Exa P2_Fld P3_Fld P4_Arv (O2) (P5) (SA) (SH) (SLo) (r0) (r1) (s0) (s1)) hZ (own_w16 hw) (own_w9 hw) (by decide) (by decide)) eT (by rw [hml]; rfl) (lenOf own_pd7 rfl) rfl (Nat.le_of_eq rfl) 2 6 rfl rfl (by decide) (by decide) 9 (hb hby own_d2_6) rfl ?_
  clear X eT; clear T; intro v T h1 L2 Lc X eT hL hQ2
  obtain ⟨t_3, kb_4, rfl, Nq, K5, zz_t_3, G7, G8, G9⟩ := hQ2
  replace N : Fr n0 L2 := by rw [hL]; exact Fr.app N Nq
  clear Nq hL
  have ne_x_t_3 : x ≠ t_3 := Nat.ne_of_lt (Nat.lt_of_lt_of_le P1_Exa.lt zz_t_3)
  have ne_t_3_x : t_3 ≠ x := Ne.symm ne_x_t_3
  have ne_b_t_3 : b ≠ t_3 := Nat.ne_of_lt (Nat.lt_of_lt_of_le P4_Arv.lt zz_t_3)
  have ne_t_3_b : t_3 ≠ b := Ne.symm ne_b_t_3
  have sz_t_3 : h0.size ≤ t_3 := Nat.le_trans sz_h zz_t_3
  have ge_t_3 : n0 ≤ t_3 := Nat.le_trans Z0 sz_t_3
  have ne_b_x : b ≠ x := Ne.symm (Exa.neArv P1_Exa P4_Arv (own_w8 hw))
  replace P0_Old := P0_Old.keep K5 (allS ge_x all0)
  replace P1_Exa := P1_Exa.keep K5
  replace P4_Arv := P4_Arv.keep K5 (ninS ne_b_x nin0)
  replace K0 := K0.trans K5 (allS (Or.inl (List.mem_of_getElem? (i := 0) rfl)) all0)
  replace sz_h : h0.size ≤ h1.size := Nat.le_trans sz_h K5.1
  show Go p e below _ T (mkF m 9 #[.val (.ref x), .val (.ref b)] [])
  exact gRetP0 X hx hlk hret (hb hby own_d2_9) eT (by decide) (by decide) ⟨t_3, kb_4, rfl, N, K0, sz_t_3, G7, G8, G9⟩
set_option maxRecDepth 65536 in
set_option maxHeartbeats 40000000 in
theorem rmNBL3 (l : Launch) (Z : State) (a0 : Array Value) (hw : ∀ d ∈ tables_1, d.before a0 Z = true) (h0 : Heap) (n0 : Nat) (Z0 : n0 ≤ h0.size) :
    CtP l (⟨"java/lang/StringUTF16", "newBytesLength", "(I)I"⟩ : MethodName) jdk_52_method_3_code 1 (some .int) [] ({ frames := 0, cells := 0, slots := 0, locals := 0 } : Room) Z #[(.int (3 : Int32))] h0 (fun v h L => v = some (.int (6 : Int32)) ∧ Fr n0 L ∧ h = h0) := by
  refine CtP.walk (Ls := #[.val (.int (3 : Int32))]) (plainFor_of_name own_pn0) (fun m => by first | (simp [entryFrame, mkF, argsToLocals, Value.category]; done) | rfl) ?_
  intro p e s m below meth cc_ T hx hby hml hown hnm hret hlk hZ X eT
  have N := Fr.nil n0
  have sz_h : h0.size ≤ h0.size := Nat.le_refl _
  refine giloadN (v := (3 : Int32)) X hx 1 (hb hby own_d20_0) rfl rfl ?_
  refine gifYes X hx 12 (hb hby own_d20_1) (by decide) (by decide) (by decide) ?_
  refine giloadN (v := (3 : Int32)) X hx 13 (hb hby own_d20_12) rfl rfl ?_
  refine gldcI X hx hZ hown (own_w97 hw) 15 (hb hby own_d20_13) rfl ?_
  refine gicmpYes X hx 55 (hb hby own_d20_15) (by decide) (by decide) (by decide) ?_
  refine giloadN (v := (3 : Int32)) X hx 56 (hb hby own_d20_55) rfl rfl ?_
  refine giconst X hx (1 : Int32) 57 (hb hby own_d20_56) rfl rfl ?_
  refine gishl X hx 58 (hb hby own_d20_57) rfl ?_
  rw [show ((3 : Int32) <<< ((1 : Int32) &&& 31)) = (6 : Int32) from by decide]
  exact gRetP X hx hlk hret rfl (Or.inl ⟨rfl, by simp, _, rfl⟩) (hb hby own_d20_58) eT (by decide) (by decide) ⟨rfl, N, rfl⟩
set_option maxRecDepth 65536 in
set_option maxHeartbeats 40000000 in
theorem rmNBF3 (l : Launch) (Z : State) (a0 : Array Value) (hw : ∀ d ∈ tables_1, d.before a0 Z = true) (h0 : Heap) (n0 : Nat) (Z0 : n0 ≤ h0.size) :
    CtP l (⟨"java/lang/StringUTF16", "newBytesFor", "(I)[B"⟩ : MethodName) jdk_52_method_2_code 1 (some (.array .byte)) [] ({ frames := 1, cells := 1, slots := 6, locals := 12 } : Room) Z #[(.int (3 : Int32))] h0 (fun v h L => ∃ (t : Addr), ∃ (kb : ClassId), v = some (.ref t) ∧ Fr n0 L ∧ Keep h0 h [] ∧ h0.size ≤ t ∧ Arv Z h t kb .byte (6 : Int32) [(.int (0 : Int32)), (.int (0 : Int32)), (.int (0 : Int32)), (.int (0 : Int32)), (.int (0 : Int32)), (.int (0 : Int32))] (.int 0)) := by
  refine CtP.walk (Ls := #[.val (.int (3 : Int32))]) (plainFor_of_name own_pn0) (fun m => by first | (simp [entryFrame, mkF, argsToLocals, Value.category]; done) | rfl) ?_
  intro p e s m below meth cc_ T hx hby hml hown hnm hret hlk hZ X eT
  have N := Fr.nil n0
  have K0 := Keep.refl h0 []
  have sz_h : h0.size ≤ h0.size := Nat.le_refl _
  refine giloadN (v := (3 : Int32)) X hx 1 (hb hby own_d19_0) rfl rfl ?_
  refine gstatic (y := (⟨"java/lang/StringUTF16", "newBytesLength", "(I)I"⟩ : MethodName)) (argsL := [(.int (3 : Int32))]) (st := []) X hx hZ hown (own_w94 hw) (own_w95 hw) (own_w23 hw) (own_w96 hw) (by decide) (payP (W := 0) (rmNBL3 l Z a0 hw h0 n0 (Nat.le_trans Z0 sz_h)) hZ (own_w96 hw) (own_w23 hw) (by decide) (by decide)) eT (by rw [hml]; rfl) (lenOf own_pd0 rfl) rfl (Nat.le_of_eq rfl) 0 0 rfl rfl (by decide) (by decide) 4 (hb hby own_d19_1) rfl ?_
  clear X eT; clear T; intro v T h1 L2 Lc X eT hL hQ2
  obtain ⟨rfl, Nq, hh⟩ := hQ2
  replace N : Fr n0 L2 := by rw [hL]; exact Fr.app N Nq
  clear Nq hL
  replace hh := hh.symm; subst hh
  show Go p e below _ T (mkF m 4 #[.val (.int (3 : Int32))] [(.int (6 : Int32))])
  refine gnewP (aty := .byte) X hx hZ (own_w25 hw) eT (n := (6 : Int32)) (by decide) 6 (by decide) (by decide) 1 6 rfl rfl (by decide) (by decide) 6 (hb hby own_d19_4) rfl ?_
  clear X eT; clear T; intro T h5 b6 kc9 X eT ga E7 V8
  have le_a := Nat.le_of_eq ga.symm
  have sz_b6 : h0.size ≤ b6 := Nat.le_trans sz_h le_a
  have ge_b6 : n0 ≤ b6 := Nat.le_trans Z0 sz_b6
  clear le_a ga
  replace K0 := K0.ext E7
  replace sz_h : h0.size ≤ h5.size := Nat.le_trans sz_h E7.1
  replace V8 : Arv Z h5 b6 kc9 .byte (6 : Int32) [(.int (0 : Int32)), (.int (0 : Int32)), (.int (0 : Int32)), (.int (0 : Int32)), (.int (0 : Int32)), (.int (0 : Int32))] (.int 0) := V8.pad (pad_rep [] _ 6)
  exact gRetP X hx hlk hret rfl (Or.inr (Or.inr (Or.inr (Or.inr ⟨rfl, rfl, rfl⟩)))) (hb hby own_d19_6) eT (by decide) (by decide) ⟨b6, kc9, rfl, N, K0, sz_b6, V8⟩
set_option maxRecDepth 65536 in
set_option maxHeartbeats 40000000 in
theorem rmPut3_0 (l : Launch) (Z : State) (a0 : Array Value) (hw : ∀ d ∈ tables_1, d.before a0 Z = true) (t : Addr) (c : Int32) (kb : ClassId) (u0 : Value) (u1 : Value) (u2 : Value) (u3 : Value) (u4 : Value) (u5 : Value) (h0 : Heap) (n0 : Nat) (Z0 : n0 ≤ h0.size) (ge_t : n0 ≤ t) (P0_Old : Old Z n0 h0) (P1_Arv : Arv Z h0 t kb .byte (6 : Int32) [u0, u1, u2, u3, u4, u5] (.int 0)) (SA : Sta Z Z.heap "java/lang/StringUTF16" "$assertionsDisabled" "Z" (.int 1)) (SH : Sta Z Z.heap "java/lang/StringUTF16" "HI_BYTE_SHIFT" "I" (.int 0)) (SLo : Sta Z Z.heap "java/lang/StringUTF16" "LO_BYTE_SHIFT" "I" (.int 8)) :
    CtP l (⟨"java/lang/StringUTF16", "putChar", "([BII)V"⟩ : MethodName) jdk_52_method_4_code 3 none [] ({ frames := 0, cells := 0, slots := 0, locals := 0 } : Room) Z #[(.ref t), (.int (0 : Int32)), (.int c)] h0 (fun v h L => v = none ∧ Fr n0 L ∧ Keep h0 h [t] ∧ Arv Z h t kb .byte (6 : Int32) [(.int (StrChars.lo8 c)), (.int (StrChars.hi8 c)), u2, u3, u4, u5] (.int 0)) := by
  refine CtP.walk (Ls := #[.val (.ref t), .val (.int (0 : Int32)), .val (.int c)]) (plainFor_of_name own_pn0) (fun m => by first | (simp [entryFrame, mkF, argsToLocals, Value.category]; done) | rfl) ?_
  intro p e s m below meth cc_ T hx hby hml hown hnm hret hlk hZ X eT
  have N := Fr.nil n0
  have K0 := Keep.refl h0 [t]
  have sz_h : h0.size ≤ h0.size := Nat.le_refl _
  refine ggetS X hx hZ (host := "") hown (Or.inl (own_w101 hw)) Via.refl eT (SA.ext P0_Old.2) 3 (hb hby own_d21_0) rfl ?_
  clear X eT; clear T; intro T X eT
  refine gifYes X hx 28 (hb hby own_d21_3) (by decide) (by decide) (by decide) ?_
  refine giloadN (v := (0 : Int32)) X hx 29 (hb hby own_d21_28) rfl rfl ?_
  refine giconst X hx (1 : Int32) 30 (hb hby own_d21_29) rfl rfl ?_
  refine gishl X hx 31 (hb hby own_d21_30) rfl ?_
  rw [show ((0 : Int32) <<< ((1 : Int32) &&& 31)) = (0 : Int32) from by decide]
  refine gistoreN X hx #[.val (.ref t), .val (.int (0 : Int32)), .val (.int c)] 32 (hb hby own_d21_31) rfl rfl ?_
  refine galoadN (v := (.ref t)) X hx 33 (hb hby own_d21_32) rfl rfl rfl ?_
  refine giloadN (v := (0 : Int32)) X hx 34 (hb hby own_d21_33) rfl rfl ?_
  refine giinc X hx #[.val (.ref t), .val (.int (1 : Int32)), .val (.int c)] 37 (hb hby own_d21_34) rfl rfl rfl ?_
  refine giloadN (v := c) X hx 38 (hb hby own_d21_37) rfl rfl ?_
  refine ggetS X hx hZ (host := "") hown (Or.inl (own_w102 hw)) Via.refl eT (SH.ext P0_Old.2) 41 (hb hby own_d21_38) rfl ?_
  clear X eT; clear T; intro T X eT
  refine gishr X hx 42 (hb hby own_d21_41) rfl ?_
  refine gi2b X hx 43 (hb hby own_d21_42) rfl ?_
  rw [own_lo0]
  show Go p e below _ T (mkF m 43 #[.val (.ref t), .val (.int (1 : Int32)), .val (.int c)] [(.int (StrChars.lo8 c)), (.int (0 : Int32)), (.ref t)])
  refine gbastore X hx hZ eT P1_Arv (by decide) (by decide) 0 rfl (Nat.le_of_ble_eq_true rfl) N ge_t 44 (hb hby own_d21_43) rfl ?_
  clear X eT N; clear T; intro T h2 L X eT N W1 V3
  replace P0_Old := P0_Old.wr W1 ge_t
  replace K0 := K0.wr W1 (Or.inl (List.mem_of_getElem? (i := 0) rfl))
  replace sz_h : h0.size ≤ h2.size := by rw [Wr.size W1]; exact sz_h
  replace V3 : Arv Z h2 t kb .byte (6 : Int32) [(.int (StrChars.lo8 c)), u1, u2, u3, u4, u5] (.int 0) := by have z := V3; rw [own_narlo] at z; exact z
  refine galoadN (v := (.ref t)) X hx 45 (hb hby own_d21_44) rfl rfl rfl ?_
  refine giloadN (v := (1 : Int32)) X hx 46 (hb hby own_d21_45) rfl rfl ?_
  refine giloadN (v := c) X hx 47 (hb hby own_d21_46) rfl rfl ?_
  refine ggetS X hx hZ (host := "") hown (Or.inl (own_w103 hw)) Via.refl eT (SLo.ext P0_Old.2) 50 (hb hby own_d21_47) rfl ?_
  clear X eT; clear T; intro T X eT
  refine gishr X hx 51 (hb hby own_d21_50) rfl ?_
  refine gi2b X hx 52 (hb hby own_d21_51) rfl ?_
  rw [own_hi8]
  show Go p e below _ T (mkF m 52 #[.val (.ref t), .val (.int (1 : Int32)), .val (.int c)] [(.int (StrChars.hi8 c)), (.int (1 : Int32)), (.ref t)])
  refine gbastore X hx hZ eT V3 (by decide) (by decide) 1 rfl (Nat.le_of_ble_eq_true rfl) N ge_t 53 (hb hby own_d21_52) rfl ?_
  clear X eT N; clear T; intro T h5 L X eT N W4 V6
  replace P0_Old := P0_Old.wr W4 ge_t
  replace K0 := K0.wr W4 (Or.inl (List.mem_of_getElem? (i := 0) rfl))
  replace sz_h : h0.size ≤ h5.size := by rw [Wr.size W4]; exact sz_h
  replace V6 : Arv Z h5 t kb .byte (6 : Int32) [(.int (StrChars.lo8 c)), (.int (StrChars.hi8 c)), u2, u3, u4, u5] (.int 0) := by have z := V6; rw [own_narhi] at z; exact z
  exact gRetP0 X hx hlk hret (hb hby own_d21_53) eT (by decide) (by decide) ⟨rfl, N, K0, V6⟩
set_option maxRecDepth 65536 in
set_option maxHeartbeats 40000000 in
theorem rmPut3_1 (l : Launch) (Z : State) (a0 : Array Value) (hw : ∀ d ∈ tables_1, d.before a0 Z = true) (t : Addr) (c : Int32) (kb : ClassId) (u0 : Value) (u1 : Value) (u2 : Value) (u3 : Value) (u4 : Value) (u5 : Value) (h0 : Heap) (n0 : Nat) (Z0 : n0 ≤ h0.size) (ge_t : n0 ≤ t) (P0_Old : Old Z n0 h0) (P1_Arv : Arv Z h0 t kb .byte (6 : Int32) [u0, u1, u2, u3, u4, u5] (.int 0)) (SA : Sta Z Z.heap "java/lang/StringUTF16" "$assertionsDisabled" "Z" (.int 1)) (SH : Sta Z Z.heap "java/lang/StringUTF16" "HI_BYTE_SHIFT" "I" (.int 0)) (SLo : Sta Z Z.heap "java/lang/StringUTF16" "LO_BYTE_SHIFT" "I" (.int 8)) :
    CtP l (⟨"java/lang/StringUTF16", "putChar", "([BII)V"⟩ : MethodName) jdk_52_method_4_code 3 none [] ({ frames := 0, cells := 0, slots := 0, locals := 0 } : Room) Z #[(.ref t), (.int (1 : Int32)), (.int c)] h0 (fun v h L => v = none ∧ Fr n0 L ∧ Keep h0 h [t] ∧ Arv Z h t kb .byte (6 : Int32) [u0, u1, (.int (StrChars.lo8 c)), (.int (StrChars.hi8 c)), u4, u5] (.int 0)) := by
  refine CtP.walk (Ls := #[.val (.ref t), .val (.int (1 : Int32)), .val (.int c)]) (plainFor_of_name own_pn0) (fun m => by first | (simp [entryFrame, mkF, argsToLocals, Value.category]; done) | rfl) ?_
  intro p e s m below meth cc_ T hx hby hml hown hnm hret hlk hZ X eT
  have N := Fr.nil n0
  have K0 := Keep.refl h0 [t]
  have sz_h : h0.size ≤ h0.size := Nat.le_refl _
  refine ggetS X hx hZ (host := "") hown (Or.inl (own_w101 hw)) Via.refl eT (SA.ext P0_Old.2) 3 (hb hby own_d21_0) rfl ?_
  clear X eT; clear T; intro T X eT
  refine gifYes X hx 28 (hb hby own_d21_3) (by decide) (by decide) (by decide) ?_
  refine giloadN (v := (1 : Int32)) X hx 29 (hb hby own_d21_28) rfl rfl ?_
  refine giconst X hx (1 : Int32) 30 (hb hby own_d21_29) rfl rfl ?_
  refine gishl X hx 31 (hb hby own_d21_30) rfl ?_
  rw [show ((1 : Int32) <<< ((1 : Int32) &&& 31)) = (2 : Int32) from by decide]
  refine gistoreN X hx #[.val (.ref t), .val (.int (2 : Int32)), .val (.int c)] 32 (hb hby own_d21_31) rfl rfl ?_
  refine galoadN (v := (.ref t)) X hx 33 (hb hby own_d21_32) rfl rfl rfl ?_
  refine giloadN (v := (2 : Int32)) X hx 34 (hb hby own_d21_33) rfl rfl ?_
  refine giinc X hx #[.val (.ref t), .val (.int (3 : Int32)), .val (.int c)] 37 (hb hby own_d21_34) rfl rfl rfl ?_
  refine giloadN (v := c) X hx 38 (hb hby own_d21_37) rfl rfl ?_
  refine ggetS X hx hZ (host := "") hown (Or.inl (own_w102 hw)) Via.refl eT (SH.ext P0_Old.2) 41 (hb hby own_d21_38) rfl ?_
  clear X eT; clear T; intro T X eT
  refine gishr X hx 42 (hb hby own_d21_41) rfl ?_
  refine gi2b X hx 43 (hb hby own_d21_42) rfl ?_
  rw [own_lo0]
  show Go p e below _ T (mkF m 43 #[.val (.ref t), .val (.int (3 : Int32)), .val (.int c)] [(.int (StrChars.lo8 c)), (.int (2 : Int32)), (.ref t)])
  refine gbastore X hx hZ eT P1_Arv (by decide) (by decide) 2 rfl (Nat.le_of_ble_eq_true rfl) N ge_t 44 (hb hby own_d21_43) rfl ?_
  clear X eT N; clear T; intro T h2 L X eT N W1 V3
  replace P0_Old := P0_Old.wr W1 ge_t
  replace K0 := K0.wr W1 (Or.inl (List.mem_of_getElem? (i := 0) rfl))
  replace sz_h : h0.size ≤ h2.size := by rw [Wr.size W1]; exact sz_h
  replace V3 : Arv Z h2 t kb .byte (6 : Int32) [u0, u1, (.int (StrChars.lo8 c)), u3, u4, u5] (.int 0) := by have z := V3; rw [own_narlo] at z; exact z
  refine galoadN (v := (.ref t)) X hx 45 (hb hby own_d21_44) rfl rfl rfl ?_
  refine giloadN (v := (3 : Int32)) X hx 46 (hb hby own_d21_45) rfl rfl ?_
  refine giloadN (v := c) X hx 47 (hb hby own_d21_46) rfl rfl ?_
  refine ggetS X hx hZ (host := "") hown (Or.inl (own_w103 hw)) Via.refl eT (SLo.ext P0_Old.2) 50 (hb hby own_d21_47) rfl ?_
  clear X eT; clear T; intro T X eT
  refine gishr X hx 51 (hb hby own_d21_50) rfl ?_
  refine gi2b X hx 52 (hb hby own_d21_51) rfl ?_
  rw [own_hi8]
  show Go p e below _ T (mkF m 52 #[.val (.ref t), .val (.int (3 : Int32)), .val (.int c)] [(.int (StrChars.hi8 c)), (.int (3 : Int32)), (.ref t)])
  refine gbastore X hx hZ eT V3 (by decide) (by decide) 3 rfl (Nat.le_of_ble_eq_true rfl) N ge_t 53 (hb hby own_d21_52) rfl ?_
  clear X eT N; clear T; intro T h5 L X eT N W4 V6
  replace P0_Old := P0_Old.wr W4 ge_t
  replace K0 := K0.wr W4 (Or.inl (List.mem_of_getElem? (i := 0) rfl))
  replace sz_h : h0.size ≤ h5.size := by rw [Wr.size W4]; exact sz_h
  replace V6 : Arv Z h5 t kb .byte (6 : Int32) [u0, u1, (.int (StrChars.lo8 c)), (.int (StrChars.hi8 c)), u4, u5] (.int 0) := by have z := V6; rw [own_narhi] at z; exact z
  exact gRetP0 X hx hlk hret (hb hby own_d21_53) eT (by decide) (by decide) ⟨rfl, N, K0, V6⟩
set_option maxRecDepth 65536 in
set_option maxHeartbeats 40000000 in
theorem rmPut3_2 (l : Launch) (Z : State) (a0 : Array Value) (hw : ∀ d ∈ tables_1, d.before a0 Z = true) (t : Addr) (c : Int32) (kb : ClassId) (u0 : Value) (u1 : Value) (u2 : Value) (u3 : Value) (u4 : Value) (u5 : Value) (h0 : Heap) (n0 : Nat) (Z0 : n0 ≤ h0.size) (ge_t : n0 ≤ t) (P0_Old : Old Z n0 h0) (P1_Arv : Arv Z h0 t kb .byte (6 : Int32) [u0, u1, u2, u3, u4, u5] (.int 0)) (SA : Sta Z Z.heap "java/lang/StringUTF16" "$assertionsDisabled" "Z" (.int 1)) (SH : Sta Z Z.heap "java/lang/StringUTF16" "HI_BYTE_SHIFT" "I" (.int 0)) (SLo : Sta Z Z.heap "java/lang/StringUTF16" "LO_BYTE_SHIFT" "I" (.int 8)) :
    CtP l (⟨"java/lang/StringUTF16", "putChar", "([BII)V"⟩ : MethodName) jdk_52_method_4_code 3 none [] ({ frames := 0, cells := 0, slots := 0, locals := 0 } : Room) Z #[(.ref t), (.int (2 : Int32)), (.int c)] h0 (fun v h L => v = none ∧ Fr n0 L ∧ Keep h0 h [t] ∧ Arv Z h t kb .byte (6 : Int32) [u0, u1, u2, u3, (.int (StrChars.lo8 c)), (.int (StrChars.hi8 c))] (.int 0)) := by
  refine CtP.walk (Ls := #[.val (.ref t), .val (.int (2 : Int32)), .val (.int c)]) (plainFor_of_name own_pn0) (fun m => by first | (simp [entryFrame, mkF, argsToLocals, Value.category]; done) | rfl) ?_
  intro p e s m below meth cc_ T hx hby hml hown hnm hret hlk hZ X eT
  have N := Fr.nil n0
  have K0 := Keep.refl h0 [t]
  have sz_h : h0.size ≤ h0.size := Nat.le_refl _
  refine ggetS X hx hZ (host := "") hown (Or.inl (own_w101 hw)) Via.refl eT (SA.ext P0_Old.2) 3 (hb hby own_d21_0) rfl ?_
  clear X eT; clear T; intro T X eT
  refine gifYes X hx 28 (hb hby own_d21_3) (by decide) (by decide) (by decide) ?_
  refine giloadN (v := (2 : Int32)) X hx 29 (hb hby own_d21_28) rfl rfl ?_
  refine giconst X hx (1 : Int32) 30 (hb hby own_d21_29) rfl rfl ?_
  refine gishl X hx 31 (hb hby own_d21_30) rfl ?_
  rw [show ((2 : Int32) <<< ((1 : Int32) &&& 31)) = (4 : Int32) from by decide]
  refine gistoreN X hx #[.val (.ref t), .val (.int (4 : Int32)), .val (.int c)] 32 (hb hby own_d21_31) rfl rfl ?_
  refine galoadN (v := (.ref t)) X hx 33 (hb hby own_d21_32) rfl rfl rfl ?_
  refine giloadN (v := (4 : Int32)) X hx 34 (hb hby own_d21_33) rfl rfl ?_
  refine giinc X hx #[.val (.ref t), .val (.int (5 : Int32)), .val (.int c)] 37 (hb hby own_d21_34) rfl rfl rfl ?_
  refine giloadN (v := c) X hx 38 (hb hby own_d21_37) rfl rfl ?_
  refine ggetS X hx hZ (host := "") hown (Or.inl (own_w102 hw)) Via.refl eT (SH.ext P0_Old.2) 41 (hb hby own_d21_38) rfl ?_
  clear X eT; clear T; intro T X eT
  refine gishr X hx 42 (hb hby own_d21_41) rfl ?_
  refine gi2b X hx 43 (hb hby own_d21_42) rfl ?_
  rw [own_lo0]
  show Go p e below _ T (mkF m 43 #[.val (.ref t), .val (.int (5 : Int32)), .val (.int c)] [(.int (StrChars.lo8 c)), (.int (4 : Int32)), (.ref t)])
  refine gbastore X hx hZ eT P1_Arv (by decide) (by decide) 4 rfl (Nat.le_of_ble_eq_true rfl) N ge_t 44 (hb hby own_d21_43) rfl ?_
  clear X eT N; clear T; intro T h2 L X eT N W1 V3
  replace P0_Old := P0_Old.wr W1 ge_t
  replace K0 := K0.wr W1 (Or.inl (List.mem_of_getElem? (i := 0) rfl))
  replace sz_h : h0.size ≤ h2.size := by rw [Wr.size W1]; exact sz_h
  replace V3 : Arv Z h2 t kb .byte (6 : Int32) [u0, u1, u2, u3, (.int (StrChars.lo8 c)), u5] (.int 0) := by have z := V3; rw [own_narlo] at z; exact z
  refine galoadN (v := (.ref t)) X hx 45 (hb hby own_d21_44) rfl rfl rfl ?_
  refine giloadN (v := (5 : Int32)) X hx 46 (hb hby own_d21_45) rfl rfl ?_
  refine giloadN (v := c) X hx 47 (hb hby own_d21_46) rfl rfl ?_
  refine ggetS X hx hZ (host := "") hown (Or.inl (own_w103 hw)) Via.refl eT (SLo.ext P0_Old.2) 50 (hb hby own_d21_47) rfl ?_
  clear X eT; clear T; intro T X eT
  refine gishr X hx 51 (hb hby own_d21_50) rfl ?_
  refine gi2b X hx 52 (hb hby own_d21_51) rfl ?_
  rw [own_hi8]
  show Go p e below _ T (mkF m 52 #[.val (.ref t), .val (.int (5 : Int32)), .val (.int c)] [(.int (StrChars.hi8 c)), (.int (5 : Int32)), (.ref t)])
  refine gbastore X hx hZ eT V3 (by decide) (by decide) 5 rfl (Nat.le_of_ble_eq_true rfl) N ge_t 53 (hb hby own_d21_52) rfl ?_
  clear X eT N; clear T; intro T h5 L X eT N W4 V6
  replace P0_Old := P0_Old.wr W4 ge_t
  replace K0 := K0.wr W4 (Or.inl (List.mem_of_getElem? (i := 0) rfl))
  replace sz_h : h0.size ≤ h5.size := by rw [Wr.size W4]; exact sz_h
  replace V6 : Arv Z h5 t kb .byte (6 : Int32) [u0, u1, u2, u3, (.int (StrChars.lo8 c)), (.int (StrChars.hi8 c))] (.int 0) := by have z := V6; rw [own_narhi] at z; exact z
  exact gRetP0 X hx hlk hret (hb hby own_d21_53) eT (by decide) (by decide) ⟨rfl, N, K0, V6⟩
set_option maxRecDepth 65536 in
set_option maxHeartbeats 40000000 in
theorem rmGet3_0 (l : Launch) (Z : State) (a0 : Array Value) (hw : ∀ d ∈ tables_1, d.before a0 Z = true) (t : Addr) (kb : ClassId) (c0 : Int32) (c1 : Int32) (c2 : Int32) (h0 : Heap) (n0 : Nat) (Z0 : n0 ≤ h0.size) (P0_Old : Old Z n0 h0) (P1_Arv : Arv Z h0 t kb .byte (6 : Int32) [(.int (StrChars.lo8 c0)), (.int (StrChars.hi8 c0)), (.int (StrChars.lo8 c1)), (.int (StrChars.hi8 c1)), (.int (StrChars.lo8 c2)), (.int (StrChars.hi8 c2))] (.int 0)) (SA : Sta Z Z.heap "java/lang/StringUTF16" "$assertionsDisabled" "Z" (.int 1)) (SH : Sta Z Z.heap "java/lang/StringUTF16" "HI_BYTE_SHIFT" "I" (.int 0)) (SLo : Sta Z Z.heap "java/lang/StringUTF16" "LO_BYTE_SHIFT" "I" (.int 8)) (r0 : ¬ c0 < 0 ∧ ¬ (65535 : Int32) < c0) (r1 : ¬ c1 < 0 ∧ ¬ (65535 : Int32) < c1) (r2 : ¬ c2 < 0 ∧ ¬ (65535 : Int32) < c2) :
    CtP l (⟨"java/lang/StringUTF16", "getChar", "([BI)C"⟩ : MethodName) jdk_52_method_5_code 2 (some .char) [] ({ frames := 0, cells := 0, slots := 0, locals := 0 } : Room) Z #[(.ref t), (.int (0 : Int32))] h0 (fun v h L => v = some (.int c0) ∧ Fr n0 L ∧ h = h0) := by
  refine CtP.walk (Ls := #[.val (.ref t), .val (.int (0 : Int32))]) (plainFor_of_name own_pn0) (fun m => by first | (simp [entryFrame, mkF, argsToLocals, Value.category]; done) | rfl) ?_
  intro p e s m below meth cc_ T hx hby hml hown hnm hret hlk hZ X eT
  have N := Fr.nil n0
  have sz_h : h0.size ≤ h0.size := Nat.le_refl _
  refine ggetS X hx hZ (host := "") hown (Or.inl (own_w101 hw)) Via.refl eT (SA.ext P0_Old.2) 3 (hb hby own_d22_0) rfl ?_
  clear X eT; clear T; intro T X eT
  refine gifYes X hx 28 (hb hby own_d22_3) (by decide) (by decide) (by decide) ?_
  refine giloadN (v := (0 : Int32)) X hx 29 (hb hby own_d22_28) rfl rfl ?_
  refine giconst X hx (1 : Int32) 30 (hb hby own_d22_29) rfl rfl ?_
  refine gishl X hx 31 (hb hby own_d22_30) rfl ?_
  rw [show ((0 : Int32) <<< ((1 : Int32) &&& 31)) = (0 : Int32) from by decide]
  refine gistoreN X hx #[.val (.ref t), .val (.int (0 : Int32))] 32 (hb hby own_d22_31) rfl rfl ?_
  refine galoadN (v := (.ref t)) X hx 33 (hb hby own_d22_32) rfl rfl rfl ?_
  refine giloadN (v := (0 : Int32)) X hx 34 (hb hby own_d22_33) rfl rfl ?_
  refine giinc X hx #[.val (.ref t), .val (.int (1 : Int32))] 37 (hb hby own_d22_34) rfl rfl rfl ?_
  refine gbaload X hx hZ eT P1_Arv (.int (StrChars.lo8 c0)) (by decide) (by decide) rfl 38 (hb hby own_d22_37) rfl ?_
  refine gsipush X hx (255 : Int32) 41 (hb hby own_d22_38) rfl rfl ?_
  refine giand X hx 42 (hb hby own_d22_41) rfl ?_
  refine ggetS X hx hZ (host := "") hown (Or.inl (own_w102 hw)) Via.refl eT (SH.ext P0_Old.2) 45 (hb hby own_d22_42) rfl ?_
  clear X eT; clear T; intro T X eT
  refine gishl X hx 46 (hb hby own_d22_45) rfl ?_
  refine galoadN (v := (.ref t)) X hx 47 (hb hby own_d22_46) rfl rfl rfl ?_
  refine giloadN (v := (1 : Int32)) X hx 48 (hb hby own_d22_47) rfl rfl ?_
  refine gbaload X hx hZ eT P1_Arv (.int (StrChars.hi8 c0)) (by decide) (by decide) rfl 49 (hb hby own_d22_48) rfl ?_
  refine gsipush X hx (255 : Int32) 52 (hb hby own_d22_49) rfl rfl ?_
  refine giand X hx 53 (hb hby own_d22_52) rfl ?_
  refine ggetS X hx hZ (host := "") hown (Or.inl (own_w103 hw)) Via.refl eT (SLo.ext P0_Old.2) 56 (hb hby own_d22_53) rfl ?_
  clear X eT; clear T; intro T X eT
  refine gishl X hx 57 (hb hby own_d22_56) rfl ?_
  refine gior X hx 58 (hb hby own_d22_57) rfl ?_
  refine gi2c X hx 59 (hb hby own_d22_58) rfl ?_
  rw [own_pair r0]
  show Go p e below _ T (mkF m 59 #[.val (.ref t), .val (.int (1 : Int32))] [(.int c0)])
  exact gRetP X hx hlk hret (own_narrow r0) (Or.inl ⟨rfl, by simp, _, rfl⟩) (hb hby own_d22_59) eT (by decide) (by decide) ⟨rfl, N, rfl⟩
set_option maxRecDepth 65536 in
set_option maxHeartbeats 40000000 in
theorem rmGet3_1 (l : Launch) (Z : State) (a0 : Array Value) (hw : ∀ d ∈ tables_1, d.before a0 Z = true) (t : Addr) (kb : ClassId) (c0 : Int32) (c1 : Int32) (c2 : Int32) (h0 : Heap) (n0 : Nat) (Z0 : n0 ≤ h0.size) (P0_Old : Old Z n0 h0) (P1_Arv : Arv Z h0 t kb .byte (6 : Int32) [(.int (StrChars.lo8 c0)), (.int (StrChars.hi8 c0)), (.int (StrChars.lo8 c1)), (.int (StrChars.hi8 c1)), (.int (StrChars.lo8 c2)), (.int (StrChars.hi8 c2))] (.int 0)) (SA : Sta Z Z.heap "java/lang/StringUTF16" "$assertionsDisabled" "Z" (.int 1)) (SH : Sta Z Z.heap "java/lang/StringUTF16" "HI_BYTE_SHIFT" "I" (.int 0)) (SLo : Sta Z Z.heap "java/lang/StringUTF16" "LO_BYTE_SHIFT" "I" (.int 8)) (r0 : ¬ c0 < 0 ∧ ¬ (65535 : Int32) < c0) (r1 : ¬ c1 < 0 ∧ ¬ (65535 : Int32) < c1) (r2 : ¬ c2 < 0 ∧ ¬ (65535 : Int32) < c2) :
    CtP l (⟨"java/lang/StringUTF16", "getChar", "([BI)C"⟩ : MethodName) jdk_52_method_5_code 2 (some .char) [] ({ frames := 0, cells := 0, slots := 0, locals := 0 } : Room) Z #[(.ref t), (.int (1 : Int32))] h0 (fun v h L => v = some (.int c1) ∧ Fr n0 L ∧ h = h0) := by
  refine CtP.walk (Ls := #[.val (.ref t), .val (.int (1 : Int32))]) (plainFor_of_name own_pn0) (fun m => by first | (simp [entryFrame, mkF, argsToLocals, Value.category]; done) | rfl) ?_
  intro p e s m below meth cc_ T hx hby hml hown hnm hret hlk hZ X eT
  have N := Fr.nil n0
  have sz_h : h0.size ≤ h0.size := Nat.le_refl _
  refine ggetS X hx hZ (host := "") hown (Or.inl (own_w101 hw)) Via.refl eT (SA.ext P0_Old.2) 3 (hb hby own_d22_0) rfl ?_
  clear X eT; clear T; intro T X eT
  refine gifYes X hx 28 (hb hby own_d22_3) (by decide) (by decide) (by decide) ?_
  refine giloadN (v := (1 : Int32)) X hx 29 (hb hby own_d22_28) rfl rfl ?_
  refine giconst X hx (1 : Int32) 30 (hb hby own_d22_29) rfl rfl ?_
  refine gishl X hx 31 (hb hby own_d22_30) rfl ?_
  rw [show ((1 : Int32) <<< ((1 : Int32) &&& 31)) = (2 : Int32) from by decide]
  refine gistoreN X hx #[.val (.ref t), .val (.int (2 : Int32))] 32 (hb hby own_d22_31) rfl rfl ?_
  refine galoadN (v := (.ref t)) X hx 33 (hb hby own_d22_32) rfl rfl rfl ?_
  refine giloadN (v := (2 : Int32)) X hx 34 (hb hby own_d22_33) rfl rfl ?_
  refine giinc X hx #[.val (.ref t), .val (.int (3 : Int32))] 37 (hb hby own_d22_34) rfl rfl rfl ?_
  refine gbaload X hx hZ eT P1_Arv (.int (StrChars.lo8 c1)) (by decide) (by decide) rfl 38 (hb hby own_d22_37) rfl ?_
  refine gsipush X hx (255 : Int32) 41 (hb hby own_d22_38) rfl rfl ?_
  refine giand X hx 42 (hb hby own_d22_41) rfl ?_
  refine ggetS X hx hZ (host := "") hown (Or.inl (own_w102 hw)) Via.refl eT (SH.ext P0_Old.2) 45 (hb hby own_d22_42) rfl ?_
  clear X eT; clear T; intro T X eT
  refine gishl X hx 46 (hb hby own_d22_45) rfl ?_
  refine galoadN (v := (.ref t)) X hx 47 (hb hby own_d22_46) rfl rfl rfl ?_
  refine giloadN (v := (3 : Int32)) X hx 48 (hb hby own_d22_47) rfl rfl ?_
  refine gbaload X hx hZ eT P1_Arv (.int (StrChars.hi8 c1)) (by decide) (by decide) rfl 49 (hb hby own_d22_48) rfl ?_
  refine gsipush X hx (255 : Int32) 52 (hb hby own_d22_49) rfl rfl ?_
  refine giand X hx 53 (hb hby own_d22_52) rfl ?_
  refine ggetS X hx hZ (host := "") hown (Or.inl (own_w103 hw)) Via.refl eT (SLo.ext P0_Old.2) 56 (hb hby own_d22_53) rfl ?_
  clear X eT; clear T; intro T X eT
  refine gishl X hx 57 (hb hby own_d22_56) rfl ?_
  refine gior X hx 58 (hb hby own_d22_57) rfl ?_
  refine gi2c X hx 59 (hb hby own_d22_58) rfl ?_
  rw [own_pair r1]
  show Go p e below _ T (mkF m 59 #[.val (.ref t), .val (.int (3 : Int32))] [(.int c1)])
  exact gRetP X hx hlk hret (own_narrow r1) (Or.inl ⟨rfl, by simp, _, rfl⟩) (hb hby own_d22_59) eT (by decide) (by decide) ⟨rfl, N, rfl⟩
set_option maxRecDepth 65536 in
set_option maxHeartbeats 40000000 in
theorem rmGet3_2 (l : Launch) (Z : State) (a0 : Array Value) (hw : ∀ d ∈ tables_1, d.before a0 Z = true) (t : Addr) (kb : ClassId) (c0 : Int32) (c1 : Int32) (c2 : Int32) (h0 : Heap) (n0 : Nat) (Z0 : n0 ≤ h0.size) (P0_Old : Old Z n0 h0) (P1_Arv : Arv Z h0 t kb .byte (6 : Int32) [(.int (StrChars.lo8 c0)), (.int (StrChars.hi8 c0)), (.int (StrChars.lo8 c1)), (.int (StrChars.hi8 c1)), (.int (StrChars.lo8 c2)), (.int (StrChars.hi8 c2))] (.int 0)) (SA : Sta Z Z.heap "java/lang/StringUTF16" "$assertionsDisabled" "Z" (.int 1)) (SH : Sta Z Z.heap "java/lang/StringUTF16" "HI_BYTE_SHIFT" "I" (.int 0)) (SLo : Sta Z Z.heap "java/lang/StringUTF16" "LO_BYTE_SHIFT" "I" (.int 8)) (r0 : ¬ c0 < 0 ∧ ¬ (65535 : Int32) < c0) (r1 : ¬ c1 < 0 ∧ ¬ (65535 : Int32) < c1) (r2 : ¬ c2 < 0 ∧ ¬ (65535 : Int32) < c2) :
    CtP l (⟨"java/lang/StringUTF16", "getChar", "([BI)C"⟩ : MethodName) jdk_52_method_5_code 2 (some .char) [] ({ frames := 0, cells := 0, slots := 0, locals := 0 } : Room) Z #[(.ref t), (.int (2 : Int32))] h0 (fun v h L => v = some (.int c2) ∧ Fr n0 L ∧ h = h0) := by
  refine CtP.walk (Ls := #[.val (.ref t), .val (.int (2 : Int32))]) (plainFor_of_name own_pn0) (fun m => by first | (simp [entryFrame, mkF, argsToLocals, Value.category]; done) | rfl) ?_
  intro p e s m below meth cc_ T hx hby hml hown hnm hret hlk hZ X eT
  have N := Fr.nil n0
  have sz_h : h0.size ≤ h0.size := Nat.le_refl _
  refine ggetS X hx hZ (host := "") hown (Or.inl (own_w101 hw)) Via.refl eT (SA.ext P0_Old.2) 3 (hb hby own_d22_0) rfl ?_
  clear X eT; clear T; intro T X eT
  refine gifYes X hx 28 (hb hby own_d22_3) (by decide) (by decide) (by decide) ?_
  refine giloadN (v := (2 : Int32)) X hx 29 (hb hby own_d22_28) rfl rfl ?_
  refine giconst X hx (1 : Int32) 30 (hb hby own_d22_29) rfl rfl ?_
  refine gishl X hx 31 (hb hby own_d22_30) rfl ?_
  rw [show ((2 : Int32) <<< ((1 : Int32) &&& 31)) = (4 : Int32) from by decide]
  refine gistoreN X hx #[.val (.ref t), .val (.int (4 : Int32))] 32 (hb hby own_d22_31) rfl rfl ?_
  refine galoadN (v := (.ref t)) X hx 33 (hb hby own_d22_32) rfl rfl rfl ?_
  refine giloadN (v := (4 : Int32)) X hx 34 (hb hby own_d22_33) rfl rfl ?_
  refine giinc X hx #[.val (.ref t), .val (.int (5 : Int32))] 37 (hb hby own_d22_34) rfl rfl rfl ?_
  refine gbaload X hx hZ eT P1_Arv (.int (StrChars.lo8 c2)) (by decide) (by decide) rfl 38 (hb hby own_d22_37) rfl ?_
  refine gsipush X hx (255 : Int32) 41 (hb hby own_d22_38) rfl rfl ?_
  refine giand X hx 42 (hb hby own_d22_41) rfl ?_
  refine ggetS X hx hZ (host := "") hown (Or.inl (own_w102 hw)) Via.refl eT (SH.ext P0_Old.2) 45 (hb hby own_d22_42) rfl ?_
  clear X eT; clear T; intro T X eT
  refine gishl X hx 46 (hb hby own_d22_45) rfl ?_
  refine galoadN (v := (.ref t)) X hx 47 (hb hby own_d22_46) rfl rfl rfl ?_
  refine giloadN (v := (5 : Int32)) X hx 48 (hb hby own_d22_47) rfl rfl ?_
  refine gbaload X hx hZ eT P1_Arv (.int (StrChars.hi8 c2)) (by decide) (by decide) rfl 49 (hb hby own_d22_48) rfl ?_
  refine gsipush X hx (255 : Int32) 52 (hb hby own_d22_49) rfl rfl ?_
  refine giand X hx 53 (hb hby own_d22_52) rfl ?_
  refine ggetS X hx hZ (host := "") hown (Or.inl (own_w103 hw)) Via.refl eT (SLo.ext P0_Old.2) 56 (hb hby own_d22_53) rfl ?_
  clear X eT; clear T; intro T X eT
  refine gishl X hx 57 (hb hby own_d22_56) rfl ?_
  refine gior X hx 58 (hb hby own_d22_57) rfl ?_
  refine gi2c X hx 59 (hb hby own_d22_58) rfl ?_
  rw [own_pair r2]
  show Go p e below _ T (mkF m 59 #[.val (.ref t), .val (.int (5 : Int32))] [(.int c2)])
  exact gRetP X hx hlk hret (own_narrow r2) (Or.inl ⟨rfl, by simp, _, rfl⟩) (hb hby own_d22_59) eT (by decide) (by decide) ⟨rfl, N, rfl⟩
set_option maxRecDepth 65536 in
set_option maxHeartbeats 40000000 in
theorem rmTB3 (l : Launch) (Z : State) (a0 : Array Value) (hw : ∀ d ∈ tables_1, d.before a0 Z = true) (b : Addr) (kc : ClassId) (c0 : Int32) (c1 : Int32) (c2 : Int32) (h0 : Heap) (n0 : Nat) (Z0 : n0 ≤ h0.size) (P0_Old : Old Z n0 h0) (P1_Arv : Arv Z h0 b kc .char (3 : Int32) [(.int c0), (.int c1), (.int c2)] (.int 0)) (SA : Sta Z Z.heap "java/lang/StringUTF16" "$assertionsDisabled" "Z" (.int 1)) (SH : Sta Z Z.heap "java/lang/StringUTF16" "HI_BYTE_SHIFT" "I" (.int 0)) (SLo : Sta Z Z.heap "java/lang/StringUTF16" "LO_BYTE_SHIFT" "I" (.int 8)) :
    CtP l (⟨"java/lang/StringUTF16", "toBytes", "([CII)[B"⟩ : MethodName) jdk_52_method_14_code 5 (some (.array .byte)) [] ({ frames := 2, cells := 1, slots := 6, locals := 24 } : Room) Z #[(.ref b), (.int (0 : Int32)), (.int (3 : Int32))] h0 (fun v h L => ∃ (t : Addr), ∃ (kb : ClassId), v = some (.ref t) ∧ Fr n0 L ∧ Keep h0 h [] ∧ h0.size ≤ t ∧ Arv Z h t kb .byte (6 : Int32) [(.int (StrChars.lo8 c0)), (.int (StrChars.hi8 c0)), (.int (StrChars.lo8 c1)), (.int (StrChars.hi8 c1)), (.int (StrChars.lo8 c2)), (.int (StrChars.hi8 c2))] (.int 0)) := by
  refine CtP.walk (Ls := #[.val (.ref b), .val (.int (0 : Int32)), .val (.int (3 : Int32)), .unset, .unset]) (plainFor_of_name own_pn0) (fun m => by first | (simp [entryFrame, mkF, argsToLocals, Value.category]; done) | rfl) ?_
  intro p e s m below meth cc_ T hx hby hml hown hnm hret hlk hZ X eT
  have N := Fr.nil n0
  have K0 := Keep.refl h0 []
  have sz_h : h0.size ≤ h0.size := Nat.le_refl _
  refine giloadN (v := (3 : Int32)) X hx 1 (hb hby own_d18_0) rfl rfl ?_
  refine gstatic (y := (⟨"java/lang/StringUTF16", "newBytesFor", "(I)[B"⟩ : MethodName)) (argsL := [(.int (3 : Int32))]) (st := []) X hx hZ hown (own_w91 hw) (own_w92 hw) (own_w23 hw) (own_w93 hw) (by decide) (payP (W := 0) (rmNBF3 l Z a0 hw h0 n0 (Nat.le_trans Z0 sz_h)) hZ (own_w93 hw) (own_w23 hw) (by decide) (by decide)) eT (by rw [hml]; rfl) (lenOf own_pd1 rfl) rfl (Nat.le_of_eq rfl) 1 6 rfl rfl (by decide) (by decide) 4 (hb hby own_d18_1) rfl ?_
  clear X eT; clear T; intro v T h1 L2 Lc X eT hL hQ2
  obtain ⟨t_3, kb_4, rfl, Nq, K5, zz_t_3, G7⟩ := hQ2
  replace N : Fr n0 L2 := by rw [hL]; exact Fr.app N Nq
  clear Nq hL
  have ne_b_t_3 : b ≠ t_3 := Nat.ne_of_lt (Nat.lt_of_lt_of_le P1_Arv.lt zz_t_3)
  have ne_t_3_b : t_3 ≠ b := Ne.symm ne_b_t_3
  have sz_t_3 : h0.size ≤ t_3 := Nat.le_trans sz_h zz_t_3
  have ge_t_3 : n0 ≤ t_3 := Nat.le_trans Z0 sz_t_3
  replace P0_Old := P0_Old.keep K5 all0
  replace P1_Arv := P1_Arv.keep K5 nin0
  replace K0 := K0.trans K5 all0
  replace sz_h : h0.size ≤ h1.size := Nat.le_trans sz_h K5.1
  show Go p e below _ T (mkF m 4 #[.val (.ref b), .val (.int (0 : Int32)), .val (.int (3 : Int32)), .unset, .unset] [(.ref t_3)])
  refine gastoreN X hx #[.val (.ref b), .val (.int (0 : Int32)), .val (.int (3 : Int32)), .val (.ref t_3), .unset] 5 (hb hby own_d18_4) rfl rfl rfl ?_
  refine giconst X hx (0 : Int32) 6 (hb hby own_d18_5) rfl rfl ?_
  refine gistore X hx #[.val (.ref b), .val (.int (0 : Int32)), .val (.int (3 : Int32)), .val (.ref t_3), .val (.int (0 : Int32))] 8 (hb hby own_d18_6) rfl rfl ?_
  refine giload (v := (0 : Int32)) X hx 10 (hb hby own_d18_8) rfl rfl ?_
  refine giloadN (v := (3 : Int32)) X hx 11 (hb hby own_d18_10) rfl rfl ?_
  refine gicmpNo X hx 14 (hb hby own_d18_11) rfl (by decide) ?_
  refine galoadN (v := (.ref t_3)) X hx 15 (hb hby own_d18_14) rfl rfl rfl ?_
  refine giload (v := (0 : Int32)) X hx 17 (hb hby own_d18_15) rfl rfl ?_
  refine galoadN (v := (.ref b)) X hx 18 (hb hby own_d18_17) rfl rfl rfl ?_
  refine giloadN (v := (0 : Int32)) X hx 19 (hb hby own_d18_18) rfl rfl ?_
  refine gcaload X hx hZ eT P1_Arv (.int c0) (by decide) (by decide) rfl 20 (hb hby own_d18_19) rfl ?_
  refine gstatic (y := (⟨"java/lang/StringUTF16", "putChar", "([BII)V"⟩ : MethodName)) (argsL := [(.ref t_3), (.int (0 : Int32)), (.int c0)]) (st := []) X hx hZ hown (own_w98 hw) (own_w99 hw) (own_w23 hw) (own_w100 hw) (by decide) (payP (W := 0) (rmPut3_0 l Z a0 hw (t_3) (c0) (kb_4) ((.int (0 : Int32))) ((.int (0 : Int32))) ((.int (0 : Int32))) ((.int (0 : Int32))) ((.int (0 : Int32))) ((.int (0 : Int32))) h1 n0 (Nat.le_trans Z0 sz_h) ge_t_3 P0_Old G7 (SA) (SH) (SLo)) hZ (own_w100 hw) (own_w23 hw) (by decide) (by decide)) eT (by rw [hml]; rfl) (lenOf own_pd2 rfl) rfl (Nat.le_of_eq rfl) 1 6 rfl rfl (by decide) (by decide) 23 (hb hby own_d18_20) rfl ?_
  clear X eT; clear T; intro v T h8 L2 Lc X eT hL hQ9
  obtain ⟨rfl, Nq, K10, G12⟩ := hQ9
  replace N : Fr n0 L2 := by rw [hL]; exact Fr.app N Nq
  clear Nq hL
  replace P0_Old := P0_Old.keep K10 (allS ge_t_3 all0)
  replace P1_Arv := P1_Arv.keep K10 (ninS ne_b_t_3 nin0)
  replace K0 := K0.trans K10 (allS (Or.inr sz_t_3) all0)
  replace sz_h : h0.size ≤ h8.size := Nat.le_trans sz_h K10.1
  show Go p e below _ T (mkF m 23 #[.val (.ref b), .val (.int (0 : Int32)), .val (.int (3 : Int32)), .val (.ref t_3), .val (.int (0 : Int32))] [])
  refine giinc X hx #[.val (.ref b), .val (.int (1 : Int32)), .val (.int (3 : Int32)), .val (.ref t_3), .val (.int (0 : Int32))] 26 (hb hby own_d18_23) rfl rfl rfl ?_
  refine giinc X hx #[.val (.ref b), .val (.int (1 : Int32)), .val (.int (3 : Int32)), .val (.ref t_3), .val (.int (1 : Int32))] 29 (hb hby own_d18_26) rfl rfl rfl ?_
  refine ggoto X hx 8 (hb hby own_d18_29) (by decide) (by decide) ?_
  refine giload (v := (1 : Int32)) X hx 10 (hb hby own_d18_8) rfl rfl ?_
  refine giloadN (v := (3 : Int32)) X hx 11 (hb hby own_d18_10) rfl rfl ?_
  refine gicmpNo X hx 14 (hb hby own_d18_11) rfl (by decide) ?_
  refine galoadN (v := (.ref t_3)) X hx 15 (hb hby own_d18_14) rfl rfl rfl ?_
  refine giload (v := (1 : Int32)) X hx 17 (hb hby own_d18_15) rfl rfl ?_
  refine galoadN (v := (.ref b)) X hx 18 (hb hby own_d18_17) rfl rfl rfl ?_
  refine giloadN (v := (1 : Int32)) X hx 19 (hb hby own_d18_18) rfl rfl ?_
  refine gcaload X hx hZ eT P1_Arv (.int c1) (by decide) (by decide) rfl 20 (hb hby own_d18_19) rfl ?_
  refine gstatic (y := (⟨"java/lang/StringUTF16", "putChar", "([BII)V"⟩ : MethodName)) (argsL := [(.ref t_3), (.int (1 : Int32)), (.int c1)]) (st := []) X hx hZ hown (own_w98 hw) (own_w99 hw) (own_w23 hw) (own_w100 hw) (by decide) (payP (W := 0) (rmPut3_1 l Z a0 hw (t_3) (c1) (kb_4) ((.int (StrChars.lo8 c0))) ((.int (StrChars.hi8 c0))) ((.int (0 : Int32))) ((.int (0 : Int32))) ((.int (0 : Int32))) ((.int (0 : Int32))) h8 n0 (Nat.le_trans Z0 sz_h) ge_t_3 P0_Old G12 (SA) (SH) (SLo)) hZ (own_w100 hw) (own_w23 hw) (by decide) (by decide)) eT (by rw [hml]; rfl) (lenOf own_pd2 rfl) rfl (Nat.le_of_eq rfl) 1 6 rfl rfl (by decide) (by decide) 23 (hb hby own_d18_20) rfl ?_
  clear X eT; clear T; intro v T h13 L2 Lc X eT hL hQ14
  obtain ⟨rfl, Nq, K15, G17⟩ := hQ14
  replace N : Fr n0 L2 := by rw [hL]; exact Fr.app N Nq
  clear Nq hL
  replace P0_Old := P0_Old.keep K15 (allS ge_t_3 all0)
  replace P1_Arv := P1_Arv.keep K15 (ninS ne_b_t_3 nin0)
  replace K0 := K0.trans K15 (allS (Or.inr sz_t_3) all0)
  replace sz_h : h0.size ≤ h13.size := Nat.le_trans sz_h K15.1
  show Go p e below _ T (mkF m 23 #[.val (.ref b), .val (.int (1 : Int32)), .val (.int (3 : Int32)), .val (.ref t_3), .val (.int (1 : Int32))] [])
  refine giinc X hx #[.val (.ref b), .val (.int (2 : Int32)), .val (.int (3 : Int32)), .val (.ref t_3), .val (.int (1 : Int32))] 26 (hb hby own_d18_23) rfl rfl rfl ?_
  refine giinc X hx #[.val (.ref b), .val (.int (2 : Int32)), .val (.int (3 : Int32)), .val (.ref t_3), .val (.int (2 : Int32))] 29 (hb hby own_d18_26) rfl rfl rfl ?_
  refine ggoto X hx 8 (hb hby own_d18_29) (by decide) (by decide) ?_
  refine giload (v := (2 : Int32)) X hx 10 (hb hby own_d18_8) rfl rfl ?_
  refine giloadN (v := (3 : Int32)) X hx 11 (hb hby own_d18_10) rfl rfl ?_
  refine gicmpNo X hx 14 (hb hby own_d18_11) rfl (by decide) ?_
  refine galoadN (v := (.ref t_3)) X hx 15 (hb hby own_d18_14) rfl rfl rfl ?_
  refine giload (v := (2 : Int32)) X hx 17 (hb hby own_d18_15) rfl rfl ?_
  refine galoadN (v := (.ref b)) X hx 18 (hb hby own_d18_17) rfl rfl rfl ?_
  refine giloadN (v := (2 : Int32)) X hx 19 (hb hby own_d18_18) rfl rfl ?_
  refine gcaload X hx hZ eT P1_Arv (.int c2) (by decide) (by decide) rfl 20 (hb hby own_d18_19) rfl ?_
  refine gstatic (y := (⟨"java/lang/StringUTF16", "putChar", "([BII)V"⟩ : MethodName)) (argsL := [(.ref t_3), (.int (2 : Int32)), (.int c2)]) (st := []) X hx hZ hown (own_w98 hw) (own_w99 hw) (own_w23 hw) (own_w100 hw) (by decide) (payP (W := 0) (rmPut3_2 l Z a0 hw (t_3) (c2) (kb_4) ((.int (StrChars.lo8 c0))) ((.int (StrChars.hi8 c0))) ((.int (StrChars.lo8 c1))) ((.int (StrChars.hi8 c1))) ((.int (0 : Int32))) ((.int (0 : Int32))) h13 n0 (Nat.le_trans Z0 sz_h) ge_t_3 P0_Old G17 (SA) (SH) (SLo)) hZ (own_w100 hw) (own_w23 hw) (by decide) (by decide)) eT (by rw [hml]; rfl) (lenOf own_pd2 rfl) rfl (Nat.le_of_eq rfl) 1 6 rfl rfl (by decide) (by decide) 23 (hb hby own_d18_20) rfl ?_
  clear X eT; clear T; intro v T h18 L2 Lc X eT hL hQ19
  obtain ⟨rfl, Nq, K20, G22⟩ := hQ19
  replace N : Fr n0 L2 := by rw [hL]; exact Fr.app N Nq
  clear Nq hL
  replace P0_Old := P0_Old.keep K20 (allS ge_t_3 all0)
  replace P1_Arv := P1_Arv.keep K20 (ninS ne_b_t_3 nin0)
  replace K0 := K0.trans K20 (allS (Or.inr sz_t_3) all0)
  replace sz_h : h0.size ≤ h18.size := Nat.le_trans sz_h K20.1
  show Go p e below _ T (mkF m 23 #[.val (.ref b), .val (.int (2 : Int32)), .val (.int (3 : Int32)), .val (.ref t_3), .val (.int (2 : Int32))] [])
  refine giinc X hx #[.val (.ref b), .val (.int (3 : Int32)), .val (.int (3 : Int32)), .val (.ref t_3), .val (.int (2 : Int32))] 26 (hb hby own_d18_23) rfl rfl rfl ?_
  refine giinc X hx #[.val (.ref b), .val (.int (3 : Int32)), .val (.int (3 : Int32)), .val (.ref t_3), .val (.int (3 : Int32))] 29 (hb hby own_d18_26) rfl rfl rfl ?_
  refine ggoto X hx 8 (hb hby own_d18_29) (by decide) (by decide) ?_
  refine giload (v := (3 : Int32)) X hx 10 (hb hby own_d18_8) rfl rfl ?_
  refine giloadN (v := (3 : Int32)) X hx 11 (hb hby own_d18_10) rfl rfl ?_
  refine gicmpYes X hx 32 (hb hby own_d18_11) (by decide) (by decide) (by decide) ?_
  refine galoadN (v := (.ref t_3)) X hx 33 (hb hby own_d18_32) rfl rfl rfl ?_
  exact gRetP X hx hlk hret rfl (Or.inr (Or.inr (Or.inr (Or.inr ⟨rfl, rfl, rfl⟩)))) (hb hby own_d18_33) eT (by decide) (by decide) ⟨t_3, kb_4, rfl, N, K0, sz_t_3, G22⟩
set_option maxRecDepth 65536 in
set_option maxHeartbeats 40000000 in
theorem rmC5_3_0 (l : Launch) (Z : State) (a0 : Array Value) (hw : ∀ d ∈ tables_1, d.before a0 Z = true) (b : Addr) (t : Addr) (kc : ClassId) (kb : ClassId) (c0 : Int32) (c1 : Int32) (c2 : Int32) (h0 : Heap) (n0 : Nat) (Z0 : n0 ≤ h0.size) (ge_t : n0 ≤ t) (P0_Arv : Arv Z h0 b kc .char (3 : Int32) [(.int c0), (.int c1), (.int c2)] (.int 0)) (P1_Arv : Arv Z h0 t kb .byte (3 : Int32) [(.int (0 : Int32)), (.int (0 : Int32)), (.int (0 : Int32))] (.int 0)) (s0 : (255 : Int32) < c0) (hne : b ≠ t) :
    CtP l (⟨"java/lang/StringUTF16", "compress", "([CI[BII)I"⟩ : MethodName) jdk_52_method_21_code 7 (some .int) [] ({ frames := 0, cells := 0, slots := 0, locals := 0 } : Room) Z #[(.ref b), (.int (0 : Int32)), (.ref t), (.int (0 : Int32)), (.int (3 : Int32))] h0 (fun v h L => v = some (.int (0 : Int32)) ∧ Fr n0 L ∧ Keep h0 h [t]) := by
  refine CtP.walk (Ls := #[.val (.ref b), .val (.int (0 : Int32)), .val (.ref t), .val (.int (0 : Int32)), .val (.int (3 : Int32)), .unset, .unset]) (plainFor_of_name own_pn0) (fun m => by first | (simp [entryFrame, mkF, argsToLocals, Value.category]; done) | rfl) ?_
  intro p e s m below meth cc_ T hx hby hml hown hnm hret hlk hZ X eT
  have N := Fr.nil n0
  have K0 := Keep.refl h0 [t]
  have sz_h : h0.size ≤ h0.size := Nat.le_refl _
  refine giconst X hx (0 : Int32) 1 (hb hby own_d6_0) rfl rfl ?_
  refine gistore X hx #[.val (.ref b), .val (.int (0 : Int32)), .val (.ref t), .val (.int (0 : Int32)), .val (.int (3 : Int32)), .val (.int (0 : Int32)), .unset] 3 (hb hby own_d6_1) rfl rfl ?_
  refine giload (v := (0 : Int32)) X hx 5 (hb hby own_d6_3) rfl rfl ?_
  refine giload (v := (3 : Int32)) X hx 7 (hb hby own_d6_5) rfl rfl ?_
  refine gicmpNo X hx 10 (hb hby own_d6_7) rfl (by decide) ?_
  refine galoadN (v := (.ref b)) X hx 11 (hb hby own_d6_10) rfl rfl rfl ?_
  refine giloadN (v := (0 : Int32)) X hx 12 (hb hby own_d6_11) rfl rfl ?_
  refine gcaload X hx hZ eT P0_Arv (.int c0) (by decide) (by decide) rfl 13 (hb hby own_d6_12) rfl ?_
  refine gistore X hx #[.val (.ref b), .val (.int (0 : Int32)), .val (.ref t), .val (.int (0 : Int32)), .val (.int (3 : Int32)), .val (.int (0 : Int32)), .val (.int c0)] 15 (hb hby own_d6_13) rfl rfl ?_
  refine giload (v := c0) X hx 17 (hb hby own_d6_15) rfl rfl ?_
  refine gsipush X hx (255 : Int32) 20 (hb hby own_d6_17) rfl rfl ?_
  refine gicmpNo X hx 23 (hb hby own_d6_20) rfl (tlt s0).2.2.2 ?_
  refine giload (v := (0 : Int32)) X hx 25 (hb hby own_d6_23) rfl rfl ?_
  exact gRetP X hx hlk hret rfl (Or.inl ⟨rfl, by simp, _, rfl⟩) (hb hby own_d6_25) eT (by decide) (by decide) ⟨rfl, N, K0⟩
set_option maxRecDepth 65536 in
set_option maxHeartbeats 40000000 in
theorem rmC3_3_0 (l : Launch) (Z : State) (a0 : Array Value) (hw : ∀ d ∈ tables_1, d.before a0 Z = true) (b : Addr) (kc : ClassId) (c0 : Int32) (c1 : Int32) (c2 : Int32) (h0 : Heap) (n0 : Nat) (Z0 : n0 ≤ h0.size) (P0_Old : Old Z n0 h0) (P1_Arv : Arv Z h0 b kc .char (3 : Int32) [(.int c0), (.int c1), (.int c2)] (.int 0)) (SA : Sta Z Z.heap "java/lang/StringUTF16" "$assertionsDisabled" "Z" (.int 1)) (SH : Sta Z Z.heap "java/lang/StringUTF16" "HI_BYTE_SHIFT" "I" (.int 0)) (SLo : Sta Z Z.heap "java/lang/StringUTF16" "LO_BYTE_SHIFT" "I" (.int 8)) (r0 : ¬ c0 < 0 ∧ ¬ (65535 : Int32) < c0) (r1 : ¬ c1 < 0 ∧ ¬ (65535 : Int32) < c1) (r2 : ¬ c2 < 0 ∧ ¬ (65535 : Int32) < c2) (s0 : (255 : Int32) < c0) :
    CtP l (⟨"java/lang/StringUTF16", "compress", "([CII)[B"⟩ : MethodName) jdk_52_method_16_code 6 (some (.array .byte)) [] ({ frames := 3, cells := 2, slots := 9, locals := 40 } : Room) Z #[(.ref b), (.int (0 : Int32)), (.int (3 : Int32))] h0 (fun v h L => ∃ (t : Addr), ∃ (kb : ClassId), v = some (.ref t) ∧ Fr n0 L ∧ Keep h0 h [] ∧ h0.size ≤ t ∧ Arv Z h t kb .byte (6 : Int32) [(.int (StrChars.lo8 c0)), (.int (StrChars.hi8 c0)), (.int (StrChars.lo8 c1)), (.int (StrChars.hi8 c1)), (.int (StrChars.lo8 c2)), (.int (StrChars.hi8 c2))] (.int 0)) := by
  refine CtP.walk (Ls := #[.val (.ref b), .val (.int (0 : Int32)), .val (.int (3 : Int32)), .unset, .unset, .unset]) (plainFor_of_name own_pn0) (fun m => by first | (simp [entryFrame, mkF, argsToLocals, Value.category]; done) | rfl) ?_
  intro p e s m below meth cc_ T hx hby hml hown hnm hret hlk hZ X eT
  have N := Fr.nil n0
  have K0 := Keep.refl h0 []
  have sz_h : h0.size ≤ h0.size := Nat.le_refl _
  refine giloadN (v := (3 : Int32)) X hx 1 (hb hby own_d5_0) rfl rfl ?_
  refine gnewP (aty := .byte) X hx hZ (own_w25 hw) eT (n := (3 : Int32)) (by decide) 3 (by decide) (by decide) 1 3 rfl rfl (by decide) (by decide) 3 (hb hby own_d5_1) rfl ?_
  clear X eT; clear T; intro T h1 b2 kc5 X eT ga E3 V4
  have le_a := Nat.le_of_eq ga.symm
  have ne_b_b2 : b ≠ b2 := Nat.ne_of_lt (Nat.lt_of_lt_of_le P1_Arv.lt le_a)
  have ne_b2_b : b2 ≠ b := Ne.symm ne_b_b2
  have sz_b2 : h0.size ≤ b2 := Nat.le_trans sz_h le_a
  have ge_b2 : n0 ≤ b2 := Nat.le_trans Z0 sz_b2
  clear le_a ga
  replace P0_Old := P0_Old.ext E3
  replace P1_Arv := P1_Arv.ext E3
  replace K0 := K0.ext E3
  replace sz_h : h0.size ≤ h1.size := Nat.le_trans sz_h E3.1
  replace V4 : Arv Z h1 b2 kc5 .byte (3 : Int32) [(.int (0 : Int32)), (.int (0 : Int32)), (.int (0 : Int32))] (.int 0) := V4.pad (pad_rep [] _ 3)
  refine gastoreN X hx #[.val (.ref b), .val (.int (0 : Int32)), .val (.int (3 : Int32)), .val (.ref b2), .unset, .unset] 4 (hb hby own_d5_3) rfl rfl rfl ?_
  refine galoadN (v := (.ref b)) X hx 5 (hb hby own_d5_4) rfl rfl rfl ?_
  refine giloadN (v := (0 : Int32)) X hx 6 (hb hby own_d5_5) rfl rfl ?_
  refine galoadN (v := (.ref b2)) X hx 7 (hb hby own_d5_6) rfl rfl rfl ?_
  refine giconst X hx (0 : Int32) 8 (hb hby own_d5_7) rfl rfl ?_
  refine giloadN (v := (3 : Int32)) X hx 9 (hb hby own_d5_8) rfl rfl ?_
  refine gstatic (y := (⟨"java/lang/StringUTF16", "compress", "([CI[BII)I"⟩ : MethodName)) (argsL := [(.ref b), (.int (0 : Int32)), (.ref b2), (.int (0 : Int32)), (.int (3 : Int32))]) (st := []) X hx hZ hown (own_w26 hw) (own_w27 hw) (own_w23 hw) (own_w28 hw) (by decide) (payP (W := 0) (rmC5_3_0 l Z a0 hw (b) (b2) (kc) (kc5) (c0) (c1) (c2) h1 n0 (Nat.le_trans Z0 sz_h) ge_b2 P1_Arv V4 (s0) (ne_b_b2)) hZ (own_w28 hw) (own_w23 hw) (by decide) (by decide)) eT (by rw [hml]; rfl) (lenOf own_pd3 rfl) rfl (Nat.le_of_eq rfl) 1 3 rfl rfl (by decide) (by decide) 12 (hb hby own_d5_9) rfl ?_
  clear X eT; clear T; intro v T h6 L2 Lc X eT hL hQ7
  obtain ⟨rfl, Nq, K8⟩ := hQ7
  replace N : Fr n0 L2 := by rw [hL]; exact Fr.app N Nq
  clear Nq hL
  replace P0_Old := P0_Old.keep K8 (allS ge_b2 all0)
  replace P1_Arv := P1_Arv.keep K8 (ninS ne_b_b2 nin0)
  replace K0 := K0.trans K8 (allS (Or.inr sz_b2) all0)
  replace sz_h : h0.size ≤ h6.size := Nat.le_trans sz_h K8.1
  show Go p e below _ T (mkF m 12 #[.val (.ref b), .val (.int (0 : Int32)), .val (.int (3 : Int32)), .val (.ref b2), .unset, .unset] [(.int (0 : Int32))])
  refine gistore X hx #[.val (.ref b), .val (.int (0 : Int32)), .val (.int (3 : Int32)), .val (.ref b2), .val (.int (0 : Int32)), .unset] 14 (hb hby own_d5_12) rfl rfl ?_
  refine giload (v := (0 : Int32)) X hx 16 (hb hby own_d5_14) rfl rfl ?_
  refine giloadN (v := (3 : Int32)) X hx 17 (hb hby own_d5_16) rfl rfl ?_
  refine gicmpNo X hx 20 (hb hby own_d5_17) rfl (by decide) ?_
  refine galoadN (v := (.ref b)) X hx 21 (hb hby own_d5_20) rfl rfl rfl ?_
  refine giloadN (v := (0 : Int32)) X hx 22 (hb hby own_d5_21) rfl rfl ?_
  refine giloadN (v := (3 : Int32)) X hx 23 (hb hby own_d5_22) rfl rfl ?_
  refine gstatic (y := (⟨"java/lang/StringUTF16", "toBytes", "([CII)[B"⟩ : MethodName)) (argsL := [(.ref b), (.int (0 : Int32)), (.int (3 : Int32))]) (st := []) X hx hZ hown (own_w88 hw) (own_w89 hw) (own_w23 hw) (own_w90 hw) (by decide) (payP (W := 0) (rmTB3 l Z a0 hw (b) (kc) (c0) (c1) (c2) h6 n0 (Nat.le_trans Z0 sz_h) P0_Old P1_Arv (SA) (SH) (SLo)) hZ (own_w90 hw) (own_w23 hw) (by decide) (by decide)) eT (by rw [hml]; rfl) (lenOf own_pd4 rfl) rfl (Nat.le_of_eq rfl) 2 9 rfl rfl (by decide) (by decide) 26 (hb hby own_d5_23) rfl ?_
  clear X eT; clear T; intro v T h10 L2 Lc X eT hL hQ11
  obtain ⟨t_12, kb_13, rfl, Nq, K14, zz_t_12, G16⟩ := hQ11
  replace N : Fr n0 L2 := by rw [hL]; exact Fr.app N Nq
  clear Nq hL
  have ne_b_t_12 : b ≠ t_12 := Nat.ne_of_lt (Nat.lt_of_lt_of_le P1_Arv.lt zz_t_12)
  have ne_t_12_b : t_12 ≠ b := Ne.symm ne_b_t_12
  have sz_t_12 : h0.size ≤ t_12 := Nat.le_trans sz_h zz_t_12
  have ge_t_12 : n0 ≤ t_12 := Nat.le_trans Z0 sz_t_12
  replace P0_Old := P0_Old.keep K14 all0
  replace P1_Arv := P1_Arv.keep K14 nin0
  replace K0 := K0.trans K14 all0
  replace sz_h : h0.size ≤ h10.size := Nat.le_trans sz_h K14.1
  show Go p e below _ T (mkF m 26 #[.val (.ref b), .val (.int (0 : Int32)), .val (.int (3 : Int32)), .val (.ref b2), .val (.int (0 : Int32)), .unset] [(.ref t_12)])
  refine gastore X hx #[.val (.ref b), .val (.int (0 : Int32)), .val (.int (3 : Int32)), .val (.ref b2), .val (.int (0 : Int32)), .val (.ref t_12)] 28 (hb hby own_d5_26) rfl rfl rfl ?_
  refine gaload (v := (.ref t_12)) X hx 30 (hb hby own_d5_28) rfl rfl rfl ?_
  refine giload (v := (0 : Int32)) X hx 32 (hb hby own_d5_30) rfl rfl ?_
  refine gstatic (y := (⟨"java/lang/StringUTF16", "getChar", "([BI)C"⟩ : MethodName)) (argsL := [(.ref t_12), (.int (0 : Int32))]) (st := []) X hx hZ hown (own_w104 hw) (own_w105 hw) (own_w23 hw) (own_w106 hw) (by decide) (payP (W := 0) (rmGet3_0 l Z a0 hw (t_12) (kb_13) _ _ _ h10 n0 (Nat.le_trans Z0 sz_h) P0_Old G16 (SA) (SH) (SLo) (r0) (r1) (r2)) hZ (own_w106 hw) (own_w23 hw) (by decide) (by decide)) eT (by rw [hml]; rfl) (lenOf own_pd5 rfl) rfl (Nat.le_of_eq rfl) 2 9 rfl rfl (by decide) (by decide) 35 (hb hby own_d5_32) rfl ?_
  clear X eT; clear T; intro v T h17 L2 Lc X eT hL hQ18
  obtain ⟨rfl, Nq, hh⟩ := hQ18
  replace N : Fr n0 L2 := by rw [hL]; exact Fr.app N Nq
  clear Nq hL
  replace hh := hh.symm; subst hh
  show Go p e below _ T (mkF m 35 #[.val (.ref b), .val (.int (0 : Int32)), .val (.int (3 : Int32)), .val (.ref b2), .val (.int (0 : Int32)), .val (.ref t_12)] [(.int c0)])
  refine gsipush X hx (255 : Int32) 38 (hb hby own_d5_35) rfl rfl ?_
  refine gicmpYes X hx 54 (hb hby own_d5_38) (tlt s0).2.2.1 (by decide) (by decide) ?_
  refine gaload (v := (.ref t_12)) X hx 56 (hb hby own_d5_54) rfl rfl rfl ?_
  exact gRetP X hx hlk hret rfl (Or.inr (Or.inr (Or.inr (Or.inr ⟨rfl, rfl, rfl⟩)))) (hb hby own_d5_56) eT (by decide) (by decide) ⟨t_12, kb_13, rfl, N, K0, sz_t_12, G16⟩
set_option maxRecDepth 65536 in
set_option maxHeartbeats 40000000 in
theorem rmCL3 (l : Launch) (Z : State) (a0 : Array Value) (hw : ∀ d ∈ tables_1, d.before a0 Z = true) (t : Addr) (kb : ClassId) (vs0 : List Value) (h0 : Heap) (n0 : Nat) (Z0 : n0 ≤ h0.size) (P0_Arv : Arv Z h0 t kb .byte (6 : Int32) vs0 (.int 0)) :
    CtP l (⟨"java/lang/StringUTF16", "coderFromArrayLen", "([BI)B"⟩ : MethodName) jdk_52_method_15_code 2 (some .byte) [] ({ frames := 0, cells := 0, slots := 0, locals := 0 } : Room) Z #[(.ref t), (.int (3 : Int32))] h0 (fun v h L => v = some (.int (1 : Int32)) ∧ Fr n0 L ∧ h = h0) := by
  refine CtP.walk (Ls := #[.val (.ref t), .val (.int (3 : Int32))]) (plainFor_of_name own_pn0) (fun m => by first | (simp [entryFrame, mkF, argsToLocals, Value.category]; done) | rfl) ?_
  intro p e s m below meth cc_ T hx hby hml hown hnm hret hlk hZ X eT
  have N := Fr.nil n0
  have sz_h : h0.size ≤ h0.size := Nat.le_refl _
  refine giloadN (v := (3 : Int32)) X hx 1 (hb hby own_d7_0) rfl rfl ?_
  refine galoadN (v := (.ref t)) X hx 2 (hb hby own_d7_1) rfl rfl rfl ?_
  refine garrlen X hx hZ eT P0_Arv 3 (hb hby own_d7_2) rfl ?_
  refine gisub X hx 4 (hb hby own_d7_3) rfl ?_
  rw [show ((3 : Int32) - (6 : Int32)) = (-3 : Int32) from by decide]
  refine gbipush X hx (31 : Int32) 6 (hb hby own_d7_4) rfl rfl ?_
  refine giushr X hx 7 (hb hby own_d7_6) rfl ?_
  rw [show (((-3 : Int32).toUInt32 >>> ((31 : Int32) &&& 31).toUInt32).toInt32) = (1 : Int32) from by decide]
  refine gi2b X hx 8 (hb hby own_d7_7) rfl ?_
  rw [show ((1 : Int32).toInt8.toInt32) = (1 : Int32) from by decide]
  exact gRetP X hx hlk hret rfl (Or.inl ⟨rfl, by simp, _, rfl⟩) (hb hby own_d7_8) eT (by decide) (by decide) ⟨rfl, N, rfl⟩
set_option maxRecDepth 65536 in
set_option maxHeartbeats 40000000 in
theorem rmI4_3_0 (l : Launch) (Z : State) (a0 : Array Value) (hw : ∀ d ∈ tables_1, d.before a0 Z = true) (x : Addr) (b : Addr) (kc : ClassId) (y0 : Value) (y1 : Value) (G1 : Int32) (c0 : Int32) (c1 : Int32) (c2 : Int32) (h0 : Heap) (n0 : Nat) (Z0 : n0 ≤ h0.size) (ge_x : n0 ≤ x) (P0_Old : Old Z n0 h0) (P1_Exa : Exa Z h0 x "java/lang/String") (P2_Fld : Fld Z h0 x "java/lang/String" "value" "[B" y0) (P3_Fld : Fld Z h0 x "java/lang/String" "coder" "B" y1) (P4_Arv : Arv Z h0 b kc .char (3 : Int32) [(.int c0), (.int c1), (.int c2)] (.int 0)) (O2 : Sta Z Z.heap "java/lang/String" "COMPACT_STRINGS" "Z" (.int G1)) (P5 : ¬ G1 = (0 : Int32)) (SA : Sta Z Z.heap "java/lang/StringUTF16" "$assertionsDisabled" "Z" (.int 1)) (SH : Sta Z Z.heap "java/lang/StringUTF16" "HI_BYTE_SHIFT" "I" (.int 0)) (SLo : Sta Z Z.heap "java/lang/StringUTF16" "LO_BYTE_SHIFT" "I" (.int 8)) (r0 : ¬ c0 < 0 ∧ ¬ (65535 : Int32) < c0) (r1 : ¬ c1 < 0 ∧ ¬ (65535 : Int32) < c1) (r2 : ¬ c2 < 0 ∧ ¬ (65535 : Int32) < c2) (s0 : (255 : Int32) < c0) :
    CtP l (⟨"java/lang/String", "<init>", "([CIILjava/lang/Void;)V"⟩ : MethodName) jdk_42_method_149_code 6 none [] ({ frames := 4, cells := 2, slots := 9, locals := 57 } : Room) Z #[(.ref x), (.ref b), (.int (0 : Int32)), (.int (3 : Int32)), .null] h0 (fun v h L => ∃ (t : Addr), ∃ (kb : ClassId), v = none ∧ Fr n0 L ∧ Keep h0 h [x] ∧ h0.size ≤ t ∧ Fld Z h x "java/lang/String" "coder" "B" (.int (1 : Int32)) ∧ Fld Z h x "java/lang/String" "value" "[B" (.ref t) ∧ Arv Z h t kb .byte (6 : Int32) [(.int (StrChars.lo8 c0)), (.int (StrChars.hi8 c0)), (.int (StrChars.lo8 c1)), (.int (StrChars.hi8 c1)), (.int (StrChars.lo8 c2)), (.int (StrChars.hi8 c2))] (.int 0)) := by
  refine CtP.walk (Ls := #[.val (.ref x), .val (.ref b), .val (.int (0 : Int32)), .val (.int (3 : Int32)), .val .null, .unset]) own_pn1 (fun m => by first | (simp [entryFrame, mkF, argsToLocals, Value.category]; done) | rfl) ?_
  intro p e s m below meth cc_ T hx hby hml hown hnm hret hlk hZ X eT
  have N := Fr.nil n0
  have K0 := Keep.refl h0 [x]
  have sz_h : h0.size ≤ h0.size := Nat.le_refl _
  refine galoadN (v := (.ref x)) X hx 1 (hb hby own_d3_0) rfl rfl rfl ?_
  refine ginitO X hx hZ hown (own_w17 hw) (own_w18 hw) (own_w19 hw) eT (by rw [hml]; rfl) (by decide) 0 (Nat.le_of_eq rfl) (by decide) 4 (hb hby own_d3_1) rfl ?_
  clear X eT; clear T; intro T X eT
  refine giloadN (v := (3 : Int32)) X hx 5 (hb hby own_d3_4) rfl rfl ?_
  refine gifYes X hx 27 (hb hby own_d3_5) (by decide) (by decide) (by decide) ?_
  refine ggetS X hx hZ (host := "") hown (Or.inl (own_w20 hw)) Via.refl eT (O2.ext P0_Old.2) 30 (hb hby own_d3_27) rfl ?_
  clear X eT; clear T; intro T X eT
  refine gifNo X hx 33 (hb hby own_d3_30) rfl ((if0 _ _).trans (feq P5).1) ?_
  refine galoadN (v := (.ref b)) X hx 34 (hb hby own_d3_33) rfl rfl rfl ?_
  refine giloadN (v := (0 : Int32)) X hx 35 (hb hby own_d3_34) rfl rfl ?_
  refine giloadN (v := (3 : Int32)) X hx 36 (hb hby own_d3_35) rfl rfl ?_
  refine gstatic (y := (⟨"java/lang/StringUTF16", "compress", "([CII)[B"⟩ : MethodName)) (argsL := [(.ref b), (.int (0 : Int32)), (.int (3 : Int32))]) (st := []) X hx hZ hown (own_w21 hw) (own_w22 hw) (own_w23 hw) (own_w24 hw) (by decide) (payP (W := 0) (rmC3_3_0 l Z a0 hw (b) (kc) (c0) (c1) (c2) h0 n0 (Nat.le_trans Z0 sz_h) P0_Old P4_Arv (SA) (SH) (SLo) (r0) (r1) (r2) (s0)) hZ (own_w24 hw) (own_w23 hw) (by decide) (by decide)) eT (by rw [hml]; rfl) (lenOf own_pd4 rfl) rfl (Nat.le_of_eq rfl) 2 9 rfl rfl (by decide) (by decide) 39 (hb hby own_d3_36) rfl ?_
  clear X eT; clear T; intro v T h1 L2 Lc X eT hL hQ2
  obtain ⟨t_3, kb_4, rfl, Nq, K5, zz_t_3, G7⟩ := hQ2
  replace N : Fr n0 L2 := by rw [hL]; exact Fr.app N Nq
  clear Nq hL
  have ne_x_t_3 : x ≠ t_3 := Nat.ne_of_lt (Nat.lt_of_lt_of_le P1_Exa.lt zz_t_3)
  have ne_t_3_x : t_3 ≠ x := Ne.symm ne_x_t_3
  have ne_b_t_3 : b ≠ t_3 := Nat.ne_of_lt (Nat.lt_of_lt_of_le P4_Arv.lt zz_t_3)
  have ne_t_3_b : t_3 ≠ b := Ne.symm ne_b_t_3
  have sz_t_3 : h0.size ≤ t_3 := Nat.le_trans sz_h zz_t_3
  have ge_t_3 : n0 ≤ t_3 := Nat.le_trans Z0 sz_t_3
  replace P0_Old := P0_Old.keep K5 all0
  replace P1_Exa := P1_Exa.keep K5
  replace P2_Fld := P2_Fld.keep K5 nin0
  replace P3_Fld := P3_Fld.keep K5 nin0
  replace P4_Arv := P4_Arv.keep K5 nin0
  replace K0 := K0.trans K5 all0
  replace sz_h : h0.size ≤ h1.size := Nat.le_trans sz_h K5.1
  show Go p e below _ T (mkF m 39 #[.val (.ref x), .val (.ref b), .val (.int (0 : Int32)), .val (.int (3 : Int32)), .val .null, .unset] [(.ref t_3)])
  refine gastore X hx #[.val (.ref x), .val (.ref b), .val (.int (0 : Int32)), .val (.int (3 : Int32)), .val .null, .val (.ref t_3)] 41 (hb hby own_d3_39) rfl rfl rfl ?_
  refine galoadN (v := (.ref x)) X hx 42 (hb hby own_d3_41) rfl rfl rfl ?_
  refine gaload (v := (.ref t_3)) X hx 44 (hb hby own_d3_42) rfl rfl rfl ?_
  refine giloadN (v := (3 : Int32)) X hx 45 (hb hby own_d3_44) rfl rfl ?_
  refine gstatic (y := (⟨"java/lang/StringUTF16", "coderFromArrayLen", "([BI)B"⟩ : MethodName)) (argsL := [(.ref t_3), (.int (3 : Int32))]) (st := [(.ref x)]) X hx hZ hown (own_w29 hw) (own_w30 hw) (own_w23 hw) (own_w31 hw) (by decide) (payP (W := 1) (rmCL3 l Z a0 hw (t_3) (kb_4) ([(.int (StrChars.lo8 c0)), (.int (StrChars.hi8 c0)), (.int (StrChars.lo8 c1)), (.int (StrChars.hi8 c1)), (.int (StrChars.lo8 c2)), (.int (StrChars.hi8 c2))]) h1 n0 (Nat.le_trans Z0 sz_h) G7) hZ (own_w31 hw) (own_w23 hw) (by decide) (by decide)) eT (by rw [hml]; rfl) (lenOf own_pd6 rfl) rfl (Nat.le_of_eq rfl) 2 9 rfl rfl (by decide) (by decide) 48 (hb hby own_d3_45) rfl ?_
  clear X eT; clear T; intro v T h8 L2 Lc X eT hL hQ9
  obtain ⟨rfl, Nq, hh⟩ := hQ9
  replace N : Fr n0 L2 := by rw [hL]; exact Fr.app N Nq
  clear Nq hL
  replace hh := hh.symm; subst hh
  show Go p e below _ T (mkF m 48 #[.val (.ref x), .val (.ref b), .val (.int (0 : Int32)), .val (.int (3 : Int32)), .val .null, .val (.ref t_3)] [(.int (1 : Int32)), (.ref x)])
  refine gputF X hx hZ (host := "") hown (Or.inl (own_w32 hw)) Via.refl eT P3_Fld P1_Exa (Or.inr ⟨(own_w33 hw), rfl, hnm⟩) (own_w8 hw) (ty := .byte) own_pf0 rfl rfl N ge_x 51 (hb hby own_d3_48) rfl ?_
  clear X eT N; clear T; intro T h12 L X eT N W13
  have ne_b_x : b ≠ x := Ne.symm (Exa.neArv P1_Exa P4_Arv (own_w8 hw))
  replace P0_Old := P0_Old.wr W13 ge_x
  replace P1_Exa := P1_Exa.wr W13
  replace P2_Fld := P2_Fld.other W13 (Or.inr (slot_ne (Or.inr (own_w35 hw)) (Or.inr (own_w33 hw)) (by decide) own_pf1 own_pf0))
  replace P3_Fld := P3_Fld.same W13
  replace P4_Arv := P4_Arv.other W13 ne_b_x
  replace G7 := G7.other W13 ne_t_3_x
  replace K0 := K0.wr W13 (Or.inl (List.mem_of_getElem? (i := 0) rfl))
  replace sz_h : h0.size ≤ h12.size := by rw [Wr.size W13]; exact sz_h
  refine galoadN (v := (.ref x)) X hx 52 (hb hby own_d3_51) rfl rfl rfl ?_
  refine gaload (v := (.ref t_3)) X hx 54 (hb hby own_d3_52) rfl rfl rfl ?_
  refine gputF X hx hZ (host := "") hown (Or.inl (own_w34 hw)) Via.refl eT P2_Fld P1_Exa (Or.inr ⟨(own_w35 hw), rfl, hnm⟩) (own_w8 hw) (ty := (.array .byte)) own_pf1 rfl rfl N ge_x 57 (hb hby own_d3_54) rfl ?_
  clear X eT N; clear T; intro T h14 L X eT N W15
  replace P0_Old := P0_Old.wr W15 ge_x
  replace P1_Exa := P1_Exa.wr W15
  replace P2_Fld := P2_Fld.same W15
  replace P3_Fld := P3_Fld.other W15 (Or.inr (slot_ne (Or.inr (own_w33 hw)) (Or.inr (own_w35 hw)) (by decide) own_pf0 own_pf1))
  replace P4_Arv := P4_Arv.other W15 ne_b_x
  replace G7 := G7.other W15 ne_t_3_x
  replace K0 := K0.wr W15 (Or.inl (List.mem_of_getElem? (i := 0) rfl))
  replace sz_h : h0.size ≤ h14.size := by rw [Wr.size W15]; exact sz_h
  exact gRetP0 X hx hlk hret (hb hby own_d3_57) eT (by decide) (by decide) ⟨t_3, kb_4, rfl, N, K0, sz_t_3, P3_Fld, P2_Fld, G7⟩
set_option maxRecDepth 65536 in
set_option maxHeartbeats 40000000 in
theorem rmI1_3_0 (l : Launch) (Z : State) (a0 : Array Value) (hw : ∀ d ∈ tables_1, d.before a0 Z = true) (x : Addr) (b : Addr) (kc : ClassId) (y0 : Value) (y1 : Value) (G1 : Int32) (c0 : Int32) (c1 : Int32) (c2 : Int32) (h0 : Heap) (n0 : Nat) (Z0 : n0 ≤ h0.size) (ge_x : n0 ≤ x) (P0_Old : Old Z n0 h0) (P1_Exa : Exa Z h0 x "java/lang/String") (P2_Fld : Fld Z h0 x "java/lang/String" "value" "[B" y0) (P3_Fld : Fld Z h0 x "java/lang/String" "coder" "B" y1) (P4_Arv : Arv Z h0 b kc .char (3 : Int32) [(.int c0), (.int c1), (.int c2)] (.int 0)) (O2 : Sta Z Z.heap "java/lang/String" "COMPACT_STRINGS" "Z" (.int G1)) (P5 : ¬ G1 = (0 : Int32)) (SA : Sta Z Z.heap "java/lang/StringUTF16" "$assertionsDisabled" "Z" (.int 1)) (SH : Sta Z Z.heap "java/lang/StringUTF16" "HI_BYTE_SHIFT" "I" (.int 0)) (SLo : Sta Z Z.heap "java/lang/StringUTF16" "LO_BYTE_SHIFT" "I" (.int 8)) (r0 : ¬ c0 < 0 ∧ ¬ (65535 : Int32) < c0) (r1 : ¬ c1 < 0 ∧ ¬ (65535 : Int32) < c1) (r2 : ¬ c2 < 0 ∧ ¬ (65535 : Int32) < c2) (s0 : (255 : Int32) < c0) :
    CtP l (⟨"java/lang/String", "<init>", "([C)V"⟩ : MethodName) jdk_42_method_3_code 2 none [] ({ frames := 5, cells := 2, slots := 9, locals := 74 } : Room) Z #[(.ref x), (.ref b)] h0 (fun v h L => ∃ (t : Addr), ∃ (kb : ClassId), v = none ∧ Fr n0 L ∧ Keep h0 h [x] ∧ h0.size ≤ t ∧ Fld Z h x "java/lang/String" "coder" "B" (.int (1 : Int32)) ∧ Fld Z h x "java/lang/String" "value" "[B" (.ref t) ∧ Arv Z h t kb .byte (6 : Int32) [(.int (StrChars.lo8 c0)), (.int (StrChars.hi8 c0)), (.int (StrChars.lo8 c1)), (.int (StrChars.hi8 c1)), (.int (StrChars.lo8 c2)), (.int (StrChars.hi8 c2))] (.int 0)) := by
  refine CtP.walk (Ls := #[.val (.ref x), .val (.ref b)]) own_pn2 (fun m => by first | (simp [entryFrame, mkF, argsToLocals, Value.category]; done) | rfl) ?_
  intro p e s m below meth cc_ T hx hby hml hown hnm hret hlk hZ X eT
  have N := Fr.nil n0
  have K0 := Keep.refl h0 [x]
  have sz_h : h0.size ≤ h0.size := Nat.le_refl _
  refine galoadN (v := (.ref x)) X hx 1 (hb hby own_d2_0) rfl rfl rfl ?_
  refine galoadN (v := (.ref b)) X hx 2 (hb hby own_d2_1) rfl rfl rfl ?_
  refine giconst X hx (0 : Int32) 3 (hb hby own_d2_2) rfl rfl ?_
  refine galoadN (v := (.ref b)) X hx 4 (hb hby own_d2_3) rfl rfl rfl ?_
  refine garrlen X hx hZ eT P4_Arv 5 (hb hby own_d2_4) rfl ?_
  refine gaconstNull X hx 6 (hb hby own_d2_5) rfl ?_
  refine gspecial (y := (⟨"java/lang/String", "<init>", "([CIILjava/lang/Void;)V"⟩ : MethodName)) (a := x) (argsL := [(.ref b), (.int (0 : Int32)), (.int (3 : Int32)), .null]) (st := []) X hx hZ hown rfl (own_w13 hw) (own_w14 hw) (own_w16 hw) (by decide) (payP (W := 0) (rmI4_3_0 l Z a0 hw (x) (b) (kc) (y0) (y1) _ (c0) (c1) (c2) h0 n0 (Nat.le_trans Z0 sz_h) ge_x P0_Old P1_Exa P2_Fld P3_Fld P4_Arv (O2) (P5) (SA) (SH) (SLo) (r0) (r1) (r2) (s0)) hZ (own_w16 hw) (own_w9 hw) (by decide) (by decide)) eT (by rw [hml]; rfl) (lenOf own_pd7 rfl) rfl (Nat.le_of_eq rfl) 2 9 rfl rfl (by decide) (by decide) 9 (hb hby own_d2_6) rfl ?_
  clear X eT; clear T; intro v T h1 L2 Lc X eT hL hQ2
  obtain ⟨t_3, kb_4, rfl, Nq, K5, zz_t_3, G7, G8, G9⟩ := hQ2
  replace N : Fr n0 L2 := by rw [hL]; exact Fr.app N Nq
  clear Nq hL
  have ne_x_t_3 : x ≠ t_3 := Nat.ne_of_lt (Nat.lt_of_lt_of_le P1_Exa.lt zz_t_3)
  have ne_t_3_x : t_3 ≠ x := Ne.symm ne_x_t_3
  have ne_b_t_3 : b ≠ t_3 := Nat.ne_of_lt (Nat.lt_of_lt_of_le P4_Arv.lt zz_t_3)
  have ne_t_3_b : t_3 ≠ b := Ne.symm ne_b_t_3
  have sz_t_3 : h0.size ≤ t_3 := Nat.le_trans sz_h zz_t_3
  have ge_t_3 : n0 ≤ t_3 := Nat.le_trans Z0 sz_t_3
  have ne_b_x : b ≠ x := Ne.symm (Exa.neArv P1_Exa P4_Arv (own_w8 hw))
  replace P0_Old := P0_Old.keep K5 (allS ge_x all0)
  replace P1_Exa := P1_Exa.keep K5
  replace P4_Arv := P4_Arv.keep K5 (ninS ne_b_x nin0)
  replace K0 := K0.trans K5 (allS (Or.inl (List.mem_of_getElem? (i := 0) rfl)) all0)
  replace sz_h : h0.size ≤ h1.size := Nat.le_trans sz_h K5.1
  show Go p e below _ T (mkF m 9 #[.val (.ref x), .val (.ref b)] [])
  exact gRetP0 X hx hlk hret (hb hby own_d2_9) eT (by decide) (by decide) ⟨t_3, kb_4, rfl, N, K0, sz_t_3, G7, G8, G9⟩
set_option maxRecDepth 65536 in
set_option maxHeartbeats 40000000 in
theorem rmC5_3_1 (l : Launch) (Z : State) (a0 : Array Value) (hw : ∀ d ∈ tables_1, d.before a0 Z = true) (b : Addr) (t : Addr) (kc : ClassId) (kb : ClassId) (c0 : Int32) (c1 : Int32) (c2 : Int32) (h0 : Heap) (n0 : Nat) (Z0 : n0 ≤ h0.size) (ge_t : n0 ≤ t) (P0_Arv : Arv Z h0 b kc .char (3 : Int32) [(.int c0), (.int c1), (.int c2)] (.int 0)) (P1_Arv : Arv Z h0 t kb .byte (3 : Int32) [(.int (0 : Int32)), (.int (0 : Int32)), (.int (0 : Int32))] (.int 0)) (s0 : ¬ (255 : Int32) < c0) (s1 : (255 : Int32) < c1) (hne : b ≠ t) :
    CtP l (⟨"java/lang/StringUTF16", "compress", "([CI[BII)I"⟩ : MethodName) jdk_52_method_21_code 7 (some .int) [] ({ frames := 0, cells := 0, slots := 0, locals := 0 } : Room) Z #[(.ref b), (.int (0 : Int32)), (.ref t), (.int (0 : Int32)), (.int (3 : Int32))] h0 (fun v h L => v = some (.int (1 : Int32)) ∧ Fr n0 L ∧ Keep h0 h [t]) := by
  refine CtP.walk (Ls := #[.val (.ref b), .val (.int (0 : Int32)), .val (.ref t), .val (.int (0 : Int32)), .val (.int (3 : Int32)), .unset, .unset]) (plainFor_of_name own_pn0) (fun m => by first | (simp [entryFrame, mkF, argsToLocals, Value.category]; done) | rfl) ?_
  intro p e s m below meth cc_ T hx hby hml hown hnm hret hlk hZ X eT
  have N := Fr.nil n0
  have K0 := Keep.refl h0 [t]
  have sz_h : h0.size ≤ h0.size := Nat.le_refl _
  refine giconst X hx (0 : Int32) 1 (hb hby own_d6_0) rfl rfl ?_
  refine gistore X hx #[.val (.ref b), .val (.int (0 : Int32)), .val (.ref t), .val (.int (0 : Int32)), .val (.int (3 : Int32)), .val (.int (0 : Int32)), .unset] 3 (hb hby own_d6_1) rfl rfl ?_
  refine giload (v := (0 : Int32)) X hx 5 (hb hby own_d6_3) rfl rfl ?_
  refine giload (v := (3 : Int32)) X hx 7 (hb hby own_d6_5) rfl rfl ?_
  refine gicmpNo X hx 10 (hb hby own_d6_7) rfl (by decide) ?_
  refine galoadN (v := (.ref b)) X hx 11 (hb hby own_d6_10) rfl rfl rfl ?_
  refine giloadN (v := (0 : Int32)) X hx 12 (hb hby own_d6_11) rfl rfl ?_
  refine gcaload X hx hZ eT P0_Arv (.int c0) (by decide) (by decide) rfl 13 (hb hby own_d6_12) rfl ?_
  refine gistore X hx #[.val (.ref b), .val (.int (0 : Int32)), .val (.ref t), .val (.int (0 : Int32)), .val (.int (3 : Int32)), .val (.int (0 : Int32)), .val (.int c0)] 15 (hb hby own_d6_13) rfl rfl ?_
  refine giload (v := c0) X hx 17 (hb hby own_d6_15) rfl rfl ?_
  refine gsipush X hx (255 : Int32) 20 (hb hby own_d6_17) rfl rfl ?_
  refine gicmpYes X hx 26 (hb hby own_d6_20) (flt s0).2.2.2 (by decide) (by decide) ?_
  refine galoadN (v := (.ref t)) X hx 27 (hb hby own_d6_26) rfl rfl rfl ?_
  refine giloadN (v := (0 : Int32)) X hx 28 (hb hby own_d6_27) rfl rfl ?_
  refine giload (v := c0) X hx 30 (hb hby own_d6_28) rfl rfl ?_
  refine gi2b X hx 31 (hb hby own_d6_30) rfl ?_
  refine gbastore X hx hZ eT P1_Arv (by decide) (by decide) 0 rfl (Nat.le_of_ble_eq_true rfl) N ge_t 32 (hb hby own_d6_31) rfl ?_
  clear X eT N; clear T; intro T h2 L X eT N W1 V3
  replace P0_Arv := P0_Arv.other W1 hne
  replace K0 := K0.wr W1 (Or.inl (List.mem_of_getElem? (i := 0) rfl))
  replace sz_h : h0.size ≤ h2.size := by rw [Wr.size W1]; exact sz_h
  replace V3 : Arv Z h2 t kb .byte (3 : Int32) [(.int (c0.toInt8.toInt32)), (.int (0 : Int32)), (.int (0 : Int32))] (.int 0) := by have z := V3; rw [own_narb] at z; exact z
  refine giinc X hx #[.val (.ref b), .val (.int (1 : Int32)), .val (.ref t), .val (.int (0 : Int32)), .val (.int (3 : Int32)), .val (.int (0 : Int32)), .val (.int c0)] 35 (hb hby own_d6_32) rfl rfl rfl ?_
  refine giinc X hx #[.val (.ref b), .val (.int (1 : Int32)), .val (.ref t), .val (.int (1 : Int32)), .val (.int (3 : Int32)), .val (.int (0 : Int32)), .val (.int c0)] 38 (hb hby own_d6_35) rfl rfl rfl ?_
  refine giinc X hx #[.val (.ref b), .val (.int (1 : Int32)), .val (.ref t), .val (.int (1 : Int32)), .val (.int (3 : Int32)), .val (.int (1 : Int32)), .val (.int c0)] 41 (hb hby own_d6_38) rfl rfl rfl ?_
  refine ggoto X hx 3 (hb hby own_d6_41) (by decide) (by decide) ?_
  refine giload (v := (1 : Int32)) X hx 5 (hb hby own_d6_3) rfl rfl ?_
  refine giload (v := (3 : Int32)) X hx 7 (hb hby own_d6_5) rfl rfl ?_
  refine gicmpNo X hx 10 (hb hby own_d6_7) rfl (by decide) ?_
  refine galoadN (v := (.ref b)) X hx 11 (hb hby own_d6_10) rfl rfl rfl ?_
  refine giloadN (v := (1 : Int32)) X hx 12 (hb hby own_d6_11) rfl rfl ?_
  refine gcaload X hx hZ eT P0_Arv (.int c1) (by decide) (by decide) rfl 13 (hb hby own_d6_12) rfl ?_
  refine gistore X hx #[.val (.ref b), .val (.int (1 : Int32)), .val (.ref t), .val (.int (1 : Int32)), .val (.int (3 : Int32)), .val (.int (1 : Int32)), .val (.int c1)] 15 (hb hby own_d6_13) rfl rfl ?_
  refine giload (v := c1) X hx 17 (hb hby own_d6_15) rfl rfl ?_
  refine gsipush X hx (255 : Int32) 20 (hb hby own_d6_17) rfl rfl ?_
  refine gicmpNo X hx 23 (hb hby own_d6_20) rfl (tlt s1).2.2.2 ?_
  refine giload (v := (1 : Int32)) X hx 25 (hb hby own_d6_23) rfl rfl ?_
  exact gRetP X hx hlk hret rfl (Or.inl ⟨rfl, by simp, _, rfl⟩) (hb hby own_d6_25) eT (by decide) (by decide) ⟨rfl, N, K0⟩
set_option maxRecDepth 65536 in
set_option maxHeartbeats 40000000 in
theorem rmC3_3_1 (l : Launch) (Z : State) (a0 : Array Value) (hw : ∀ d ∈ tables_1, d.before a0 Z = true) (b : Addr) (kc : ClassId) (c0 : Int32) (c1 : Int32) (c2 : Int32) (h0 : Heap) (n0 : Nat) (Z0 : n0 ≤ h0.size) (P0_Old : Old Z n0 h0) (P1_Arv : Arv Z h0 b kc .char (3 : Int32) [(.int c0), (.int c1), (.int c2)] (.int 0)) (SA : Sta Z Z.heap "java/lang/StringUTF16" "$assertionsDisabled" "Z" (.int 1)) (SH : Sta Z Z.heap "java/lang/StringUTF16" "HI_BYTE_SHIFT" "I" (.int 0)) (SLo : Sta Z Z.heap "java/lang/StringUTF16" "LO_BYTE_SHIFT" "I" (.int 8)) (r0 : ¬ c0 < 0 ∧ ¬ (65535 : Int32) < c0) (r1 : ¬ c1 < 0 ∧ ¬ (65535 : Int32) < c1) (r2 : ¬ c2 < 0 ∧ ¬ (65535 : Int32) < c2) (s0 : ¬ (255 : Int32) < c0) (s1 : (255 : Int32) < c1) :
    CtP l (⟨"java/lang/StringUTF16", "compress", "([CII)[B"⟩ : MethodName) jdk_52_method_16_code 6 (some (.array .byte)) [] ({ frames := 3, cells := 2, slots := 9, locals := 40 } : Room) Z #[(.ref b), (.int (0 : Int32)), (.int (3 : Int32))] h0 (fun v h L => ∃ (t : Addr), ∃ (kb : ClassId), v = some (.ref t) ∧ Fr n0 L ∧ Keep h0 h [] ∧ h0.size ≤ t ∧ Arv Z h t kb .byte (6 : Int32) [(.int (StrChars.lo8 c0)), (.int (StrChars.hi8 c0)), (.int (StrChars.lo8 c1)), (.int (StrChars.hi8 c1)), (.int (StrChars.lo8 c2)), (.int (StrChars.hi8 c2))] (.int 0)) := by
  refine CtP.walk (Ls := #[.val (.ref b), .val (.int (0 : Int32)), .val (.int (3 : Int32)), .unset, .unset, .unset]) (plainFor_of_name own_pn0) (fun m => by first | (simp [entryFrame, mkF, argsToLocals, Value.category]; done) | rfl) ?_
  intro p e s m below meth cc_ T hx hby hml hown hnm hret hlk hZ X eT
  have N := Fr.nil n0
  have K0 := Keep.refl h0 []
  have sz_h : h0.size ≤ h0.size := Nat.le_refl _
  refine giloadN (v := (3 : Int32)) X hx 1 (hb hby own_d5_0) rfl rfl ?_
  refine gnewP (aty := .byte) X hx hZ (own_w25 hw) eT (n := (3 : Int32)) (by decide) 3 (by decide) (by decide) 1 3 rfl rfl (by decide) (by decide) 3 (hb hby own_d5_1) rfl ?_
  clear X eT; clear T; intro T h1 b2 kc5 X eT ga E3 V4
  have le_a := Nat.le_of_eq ga.symm
  have ne_b_b2 : b ≠ b2 := Nat.ne_of_lt (Nat.lt_of_lt_of_le P1_Arv.lt le_a)
  have ne_b2_b : b2 ≠ b := Ne.symm ne_b_b2
  have sz_b2 : h0.size ≤ b2 := Nat.le_trans sz_h le_a
  have ge_b2 : n0 ≤ b2 := Nat.le_trans Z0 sz_b2
  clear le_a ga
  replace P0_Old := P0_Old.ext E3
  replace P1_Arv := P1_Arv.ext E3
  replace K0 := K0.ext E3
  replace sz_h : h0.size ≤ h1.size := Nat.le_trans sz_h E3.1
  replace V4 : Arv Z h1 b2 kc5 .byte (3 : Int32) [(.int (0 : Int32)), (.int (0 : Int32)), (.int (0 : Int32))] (.int 0) := V4.pad (pad_rep [] _ 3)
  refine gastoreN X hx #[.val (.ref b), .val (.int (0 : Int32)), .val (.int (3 : Int32)), .val (.ref b2), .unset, .unset] 4 (hb hby own_d5_3) rfl rfl rfl ?_
  refine galoadN (v := (.ref b)) X hx 5 (hb hby own_d5_4) rfl rfl rfl ?_
  refine giloadN (v := (0 : Int32)) X hx 6 (hb hby own_d5_5) rfl rfl ?_
  refine galoadN (v := (.ref b2)) X hx 7 (hb hby own_d5_6) rfl rfl rfl ?_
  refine giconst X hx (0 : Int32) 8 (hb hby own_d5_7) rfl rfl ?_
  refine giloadN (v := (3 : Int32)) X hx 9 (hb hby own_d5_8) rfl rfl ?_
  refine gstatic (y := (⟨"java/lang/StringUTF16", "compress", "([CI[BII)I"⟩ : MethodName)) (argsL := [(.ref b), (.int (0 : Int32)), (.ref b2), (.int (0 : Int32)), (.int (3 : Int32))]) (st := []) X hx hZ hown (own_w26 hw) (own_w27 hw) (own_w23 hw) (own_w28 hw) (by decide) (payP (W := 0) (rmC5_3_1 l Z a0 hw (b) (b2) (kc) (kc5) (c0) (c1) (c2) h1 n0 (Nat.le_trans Z0 sz_h) ge_b2 P1_Arv V4 (s0) (s1) (ne_b_b2)) hZ (own_w28 hw) (own_w23 hw) (by decide) (by decide)) eT (by rw [hml]; rfl) (lenOf own_pd3 rfl) rfl (Nat.le_of_eq rfl) 1 3 rfl rfl (by decide) (by decide) 12 (hb hby own_d5_9) rfl ?_
  clear X eT; clear T; intro v T h6 L2 Lc X eT hL hQ7
  obtain ⟨rfl, Nq, K8⟩ := hQ7
  replace N : Fr n0 L2 := by rw [hL]; exact Fr.app N Nq
  clear Nq hL
  replace P0_Old := P0_Old.keep K8 (allS ge_b2 all0)
  replace P1_Arv := P1_Arv.keep K8 (ninS ne_b_b2 nin0)
  replace K0 := K0.trans K8 (allS (Or.inr sz_b2) all0)
  replace sz_h : h0.size ≤ h6.size := Nat.le_trans sz_h K8.1
  show Go p e below _ T (mkF m 12 #[.val (.ref b), .val (.int (0 : Int32)), .val (.int (3 : Int32)), .val (.ref b2), .unset, .unset] [(.int (1 : Int32))])
  refine gistore X hx #[.val (.ref b), .val (.int (0 : Int32)), .val (.int (3 : Int32)), .val (.ref b2), .val (.int (1 : Int32)), .unset] 14 (hb hby own_d5_12) rfl rfl ?_
  refine giload (v := (1 : Int32)) X hx 16 (hb hby own_d5_14) rfl rfl ?_
  refine giloadN (v := (3 : Int32)) X hx 17 (hb hby own_d5_16) rfl rfl ?_
  refine gicmpNo X hx 20 (hb hby own_d5_17) rfl (by decide) ?_
  refine galoadN (v := (.ref b)) X hx 21 (hb hby own_d5_20) rfl rfl rfl ?_
  refine giloadN (v := (0 : Int32)) X hx 22 (hb hby own_d5_21) rfl rfl ?_
  refine giloadN (v := (3 : Int32)) X hx 23 (hb hby own_d5_22) rfl rfl ?_
  refine gstatic (y := (⟨"java/lang/StringUTF16", "toBytes", "([CII)[B"⟩ : MethodName)) (argsL := [(.ref b), (.int (0 : Int32)), (.int (3 : Int32))]) (st := []) X hx hZ hown (own_w88 hw) (own_w89 hw) (own_w23 hw) (own_w90 hw) (by decide) (payP (W := 0) (rmTB3 l Z a0 hw (b) (kc) (c0) (c1) (c2) h6 n0 (Nat.le_trans Z0 sz_h) P0_Old P1_Arv (SA) (SH) (SLo)) hZ (own_w90 hw) (own_w23 hw) (by decide) (by decide)) eT (by rw [hml]; rfl) (lenOf own_pd4 rfl) rfl (Nat.le_of_eq rfl) 2 9 rfl rfl (by decide) (by decide) 26 (hb hby own_d5_23) rfl ?_
  clear X eT; clear T; intro v T h10 L2 Lc X eT hL hQ11
  obtain ⟨t_12, kb_13, rfl, Nq, K14, zz_t_12, G16⟩ := hQ11
  replace N : Fr n0 L2 := by rw [hL]; exact Fr.app N Nq
  clear Nq hL
  have ne_b_t_12 : b ≠ t_12 := Nat.ne_of_lt (Nat.lt_of_lt_of_le P1_Arv.lt zz_t_12)
  have ne_t_12_b : t_12 ≠ b := Ne.symm ne_b_t_12
  have sz_t_12 : h0.size ≤ t_12 := Nat.le_trans sz_h zz_t_12
  have ge_t_12 : n0 ≤ t_12 := Nat.le_trans Z0 sz_t_12
  replace P0_Old := P0_Old.keep K14 all0
  replace P1_Arv := P1_Arv.keep K14 nin0
  replace K0 := K0.trans K14 all0
  replace sz_h : h0.size ≤ h10.size := Nat.le_trans sz_h K14.1
  show Go p e below _ T (mkF m 26 #[.val (.ref b), .val (.int (0 : Int32)), .val (.int (3 : Int32)), .val (.ref b2), .val (.int (1 : Int32)), .unset] [(.ref t_12)])
  refine gastore X hx #[.val (.ref b), .val (.int (0 : Int32)), .val (.int (3 : Int32)), .val (.ref b2), .val (.int (1 : Int32)), .val (.ref t_12)] 28 (hb hby own_d5_26) rfl rfl rfl ?_
  refine gaload (v := (.ref t_12)) X hx 30 (hb hby own_d5_28) rfl rfl rfl ?_
  refine giload (v := (1 : Int32)) X hx 32 (hb hby own_d5_30) rfl rfl ?_
  refine gstatic (y := (⟨"java/lang/StringUTF16", "getChar", "([BI)C"⟩ : MethodName)) (argsL := [(.ref t_12), (.int (1 : Int32))]) (st := []) X hx hZ hown (own_w104 hw) (own_w105 hw) (own_w23 hw) (own_w106 hw) (by decide) (payP (W := 0) (rmGet3_1 l Z a0 hw (t_12) (kb_13) _ _ _ h10 n0 (Nat.le_trans Z0 sz_h) P0_Old G16 (SA) (SH) (SLo) (r0) (r1) (r2)) hZ (own_w106 hw) (own_w23 hw) (by decide) (by decide)) eT (by rw [hml]; rfl) (lenOf own_pd5 rfl) rfl (Nat.le_of_eq rfl) 2 9 rfl rfl (by decide) (by decide) 35 (hb hby own_d5_32) rfl ?_
  clear X eT; clear T; intro v T h17 L2 Lc X eT hL hQ18
  obtain ⟨rfl, Nq, hh⟩ := hQ18
  replace N : Fr n0 L2 := by rw [hL]; exact Fr.app N Nq
  clear Nq hL
  replace hh := hh.symm; subst hh
  show Go p e below _ T (mkF m 35 #[.val (.ref b), .val (.int (0 : Int32)), .val (.int (3 : Int32)), .val (.ref b2), .val (.int (1 : Int32)), .val (.ref t_12)] [(.int c1)])
  refine gsipush X hx (255 : Int32) 38 (hb hby own_d5_35) rfl rfl ?_
  refine gicmpYes X hx 54 (hb hby own_d5_38) (tlt s1).2.2.1 (by decide) (by decide) ?_
  refine gaload (v := (.ref t_12)) X hx 56 (hb hby own_d5_54) rfl rfl rfl ?_
  exact gRetP X hx hlk hret rfl (Or.inr (Or.inr (Or.inr (Or.inr ⟨rfl, rfl, rfl⟩)))) (hb hby own_d5_56) eT (by decide) (by decide) ⟨t_12, kb_13, rfl, N, K0, sz_t_12, G16⟩
set_option maxRecDepth 65536 in
set_option maxHeartbeats 40000000 in
theorem rmI4_3_1 (l : Launch) (Z : State) (a0 : Array Value) (hw : ∀ d ∈ tables_1, d.before a0 Z = true) (x : Addr) (b : Addr) (kc : ClassId) (y0 : Value) (y1 : Value) (G1 : Int32) (c0 : Int32) (c1 : Int32) (c2 : Int32) (h0 : Heap) (n0 : Nat) (Z0 : n0 ≤ h0.size) (ge_x : n0 ≤ x) (P0_Old : Old Z n0 h0) (P1_Exa : Exa Z h0 x "java/lang/String") (P2_Fld : Fld Z h0 x "java/lang/String" "value" "[B" y0) (P3_Fld : Fld Z h0 x "java/lang/String" "coder" "B" y1) (P4_Arv : Arv Z h0 b kc .char (3 : Int32) [(.int c0), (.int c1), (.int c2)] (.int 0)) (O2 : Sta Z Z.heap "java/lang/String" "COMPACT_STRINGS" "Z" (.int G1)) (P5 : ¬ G1 = (0 : Int32)) (SA : Sta Z Z.heap "java/lang/StringUTF16" "$assertionsDisabled" "Z" (.int 1)) (SH : Sta Z Z.heap "java/lang/StringUTF16" "HI_BYTE_SHIFT" "I" (.int 0)) (SLo : Sta Z Z.heap "java/lang/StringUTF16" "LO_BYTE_SHIFT" "I" (.int 8)) (r0 : ¬ c0 < 0 ∧ ¬ (65535 : Int32) < c0) (r1 : ¬ c1 < 0 ∧ ¬ (65535 : Int32) < c1) (r2 : ¬ c2 < 0 ∧ ¬ (65535 : Int32) < c2) (s0 : ¬ (255 : Int32) < c0) (s1 : (255 : Int32) < c1) :
    CtP l (⟨"java/lang/String", "<init>", "([CIILjava/lang/Void;)V"⟩ : MethodName) jdk_42_method_149_code 6 none [] ({ frames := 4, cells := 2, slots := 9, locals := 57 } : Room) Z #[(.ref x), (.ref b), (.int (0 : Int32)), (.int (3 : Int32)), .null] h0 (fun v h L => ∃ (t : Addr), ∃ (kb : ClassId), v = none ∧ Fr n0 L ∧ Keep h0 h [x] ∧ h0.size ≤ t ∧ Fld Z h x "java/lang/String" "coder" "B" (.int (1 : Int32)) ∧ Fld Z h x "java/lang/String" "value" "[B" (.ref t) ∧ Arv Z h t kb .byte (6 : Int32) [(.int (StrChars.lo8 c0)), (.int (StrChars.hi8 c0)), (.int (StrChars.lo8 c1)), (.int (StrChars.hi8 c1)), (.int (StrChars.lo8 c2)), (.int (StrChars.hi8 c2))] (.int 0)) := by
  refine CtP.walk (Ls := #[.val (.ref x), .val (.ref b), .val (.int (0 : Int32)), .val (.int (3 : Int32)), .val .null, .unset]) own_pn1 (fun m => by first | (simp [entryFrame, mkF, argsToLocals, Value.category]; done) | rfl) ?_
  intro p e s m below meth cc_ T hx hby hml hown hnm hret hlk hZ X eT
  have N := Fr.nil n0
  have K0 := Keep.refl h0 [x]
  have sz_h : h0.size ≤ h0.size := Nat.le_refl _
  refine galoadN (v := (.ref x)) X hx 1 (hb hby own_d3_0) rfl rfl rfl ?_
  refine ginitO X hx hZ hown (own_w17 hw) (own_w18 hw) (own_w19 hw) eT (by rw [hml]; rfl) (by decide) 0 (Nat.le_of_eq rfl) (by decide) 4 (hb hby own_d3_1) rfl ?_
  clear X eT; clear T; intro T X eT
  refine giloadN (v := (3 : Int32)) X hx 5 (hb hby own_d3_4) rfl rfl ?_
  refine gifYes X hx 27 (hb hby own_d3_5) (by decide) (by decide) (by decide) ?_
  refine ggetS X hx hZ (host := "") hown (Or.inl (own_w20 hw)) Via.refl eT (O2.ext P0_Old.2) 30 (hb hby own_d3_27) rfl ?_
  clear X eT; clear T; intro T X eT
  refine gifNo X hx 33 (hb hby own_d3_30) rfl ((if0 _ _).trans (feq P5).1) ?_
  refine galoadN (v := (.ref b)) X hx 34 (hb hby own_d3_33) rfl rfl rfl ?_
  refine giloadN (v := (0 : Int32)) X hx 35 (hb hby own_d3_34) rfl rfl ?_
  refine giloadN (v := (3 : Int32)) X hx 36 (hb hby own_d3_35) rfl rfl ?_
  refine gstatic (y := (⟨"java/lang/StringUTF16", "compress", "([CII)[B"⟩ : MethodName)) (argsL := [(.ref b), (.int (0 : Int32)), (.int (3 : Int32))]) (st := []) X hx hZ hown (own_w21 hw) (own_w22 hw) (own_w23 hw) (own_w24 hw) (by decide) (payP (W := 0) (rmC3_3_1 l Z a0 hw (b) (kc) (c0) (c1) (c2) h0 n0 (Nat.le_trans Z0 sz_h) P0_Old P4_Arv (SA) (SH) (SLo) (r0) (r1) (r2) (s0) (s1)) hZ (own_w24 hw) (own_w23 hw) (by decide) (by decide)) eT (by rw [hml]; rfl) (lenOf own_pd4 rfl) rfl (Nat.le_of_eq rfl) 2 9 rfl rfl (by decide) (by decide) 39 (hb hby own_d3_36) rfl ?_
  clear X eT; clear T; intro v T h1 L2 Lc X eT hL hQ2
  obtain ⟨t_3, kb_4, rfl, Nq, K5, zz_t_3, G7⟩ := hQ2
  replace N : Fr n0 L2 := by rw [hL]; exact Fr.app N Nq
  clear Nq hL
  have ne_x_t_3 : x ≠ t_3 := Nat.ne_of_lt (Nat.lt_of_lt_of_le P1_Exa.lt zz_t_3)
  have ne_t_3_x : t_3 ≠ x := Ne.symm ne_x_t_3
  have ne_b_t_3 : b ≠ t_3 := Nat.ne_of_lt (Nat.lt_of_lt_of_le P4_Arv.lt zz_t_3)
  have ne_t_3_b : t_3 ≠ b := Ne.symm ne_b_t_3
  have sz_t_3 : h0.size ≤ t_3 := Nat.le_trans sz_h zz_t_3
  have ge_t_3 : n0 ≤ t_3 := Nat.le_trans Z0 sz_t_3
  replace P0_Old := P0_Old.keep K5 all0
  replace P1_Exa := P1_Exa.keep K5
  replace P2_Fld := P2_Fld.keep K5 nin0
  replace P3_Fld := P3_Fld.keep K5 nin0
  replace P4_Arv := P4_Arv.keep K5 nin0
  replace K0 := K0.trans K5 all0
  replace sz_h : h0.size ≤ h1.size := Nat.le_trans sz_h K5.1
  show Go p e below _ T (mkF m 39 #[.val (.ref x), .val (.ref b), .val (.int (0 : Int32)), .val (.int (3 : Int32)), .val .null, .unset] [(.ref t_3)])
  refine gastore X hx #[.val (.ref x), .val (.ref b), .val (.int (0 : Int32)), .val (.int (3 : Int32)), .val .null, .val (.ref t_3)] 41 (hb hby own_d3_39) rfl rfl rfl ?_
  refine galoadN (v := (.ref x)) X hx 42 (hb hby own_d3_41) rfl rfl rfl ?_
  refine gaload (v := (.ref t_3)) X hx 44 (hb hby own_d3_42) rfl rfl rfl ?_
  refine giloadN (v := (3 : Int32)) X hx 45 (hb hby own_d3_44) rfl rfl ?_
  refine gstatic (y := (⟨"java/lang/StringUTF16", "coderFromArrayLen", "([BI)B"⟩ : MethodName)) (argsL := [(.ref t_3), (.int (3 : Int32))]) (st := [(.ref x)]) X hx hZ hown (own_w29 hw) (own_w30 hw) (own_w23 hw) (own_w31 hw) (by decide) (payP (W := 1) (rmCL3 l Z a0 hw (t_3) (kb_4) ([(.int (StrChars.lo8 c0)), (.int (StrChars.hi8 c0)), (.int (StrChars.lo8 c1)), (.int (StrChars.hi8 c1)), (.int (StrChars.lo8 c2)), (.int (StrChars.hi8 c2))]) h1 n0 (Nat.le_trans Z0 sz_h) G7) hZ (own_w31 hw) (own_w23 hw) (by decide) (by decide)) eT (by rw [hml]; rfl) (lenOf own_pd6 rfl) rfl (Nat.le_of_eq rfl) 2 9 rfl rfl (by decide) (by decide) 48 (hb hby own_d3_45) rfl ?_
  clear X eT; clear T; intro v T h8 L2 Lc X eT hL hQ9
  obtain ⟨rfl, Nq, hh⟩ := hQ9
  replace N : Fr n0 L2 := by rw [hL]; exact Fr.app N Nq
  clear Nq hL
  replace hh := hh.symm; subst hh
  show Go p e below _ T (mkF m 48 #[.val (.ref x), .val (.ref b), .val (.int (0 : Int32)), .val (.int (3 : Int32)), .val .null, .val (.ref t_3)] [(.int (1 : Int32)), (.ref x)])
  refine gputF X hx hZ (host := "") hown (Or.inl (own_w32 hw)) Via.refl eT P3_Fld P1_Exa (Or.inr ⟨(own_w33 hw), rfl, hnm⟩) (own_w8 hw) (ty := .byte) own_pf0 rfl rfl N ge_x 51 (hb hby own_d3_48) rfl ?_
  clear X eT N; clear T; intro T h12 L X eT N W13
  have ne_b_x : b ≠ x := Ne.symm (Exa.neArv P1_Exa P4_Arv (own_w8 hw))
  replace P0_Old := P0_Old.wr W13 ge_x
  replace P1_Exa := P1_Exa.wr W13
  replace P2_Fld := P2_Fld.other W13 (Or.inr (slot_ne (Or.inr (own_w35 hw)) (Or.inr (own_w33 hw)) (by decide) own_pf1 own_pf0))
  replace P3_Fld := P3_Fld.same W13
  replace P4_Arv := P4_Arv.other W13 ne_b_x
  replace G7 := G7.other W13 ne_t_3_x
  replace K0 := K0.wr W13 (Or.inl (List.mem_of_getElem? (i := 0) rfl))
  replace sz_h : h0.size ≤ h12.size := by rw [Wr.size W13]; exact sz_h
  refine galoadN (v := (.ref x)) X hx 52 (hb hby own_d3_51) rfl rfl rfl ?_
  refine gaload (v := (.ref t_3)) X hx 54 (hb hby own_d3_52) rfl rfl rfl ?_
  refine gputF X hx hZ (host := "") hown (Or.inl (own_w34 hw)) Via.refl eT P2_Fld P1_Exa (Or.inr ⟨(own_w35 hw), rfl, hnm⟩) (own_w8 hw) (ty := (.array .byte)) own_pf1 rfl rfl N ge_x 57 (hb hby own_d3_54) rfl ?_
  clear X eT N; clear T; intro T h14 L X eT N W15
  replace P0_Old := P0_Old.wr W15 ge_x
  replace P1_Exa := P1_Exa.wr W15
  replace P2_Fld := P2_Fld.same W15
  replace P3_Fld := P3_Fld.other W15 (Or.inr (slot_ne (Or.inr (own_w33 hw)) (Or.inr (own_w35 hw)) (by decide) own_pf0 own_pf1))
  replace P4_Arv := P4_Arv.other W15 ne_b_x
  replace G7 := G7.other W15 ne_t_3_x
  replace K0 := K0.wr W15 (Or.inl (List.mem_of_getElem? (i := 0) rfl))
  replace sz_h : h0.size ≤ h14.size := by rw [Wr.size W15]; exact sz_h
  exact gRetP0 X hx hlk hret (hb hby own_d3_57) eT (by decide) (by decide) ⟨t_3, kb_4, rfl, N, K0, sz_t_3, P3_Fld, P2_Fld, G7⟩
set_option maxRecDepth 65536 in
set_option maxHeartbeats 40000000 in
theorem rmI1_3_1 (l : Launch) (Z : State) (a0 : Array Value) (hw : ∀ d ∈ tables_1, d.before a0 Z = true) (x : Addr) (b : Addr) (kc : ClassId) (y0 : Value) (y1 : Value) (G1 : Int32) (c0 : Int32) (c1 : Int32) (c2 : Int32) (h0 : Heap) (n0 : Nat) (Z0 : n0 ≤ h0.size) (ge_x : n0 ≤ x) (P0_Old : Old Z n0 h0) (P1_Exa : Exa Z h0 x "java/lang/String") (P2_Fld : Fld Z h0 x "java/lang/String" "value" "[B" y0) (P3_Fld : Fld Z h0 x "java/lang/String" "coder" "B" y1) (P4_Arv : Arv Z h0 b kc .char (3 : Int32) [(.int c0), (.int c1), (.int c2)] (.int 0)) (O2 : Sta Z Z.heap "java/lang/String" "COMPACT_STRINGS" "Z" (.int G1)) (P5 : ¬ G1 = (0 : Int32)) (SA : Sta Z Z.heap "java/lang/StringUTF16" "$assertionsDisabled" "Z" (.int 1)) (SH : Sta Z Z.heap "java/lang/StringUTF16" "HI_BYTE_SHIFT" "I" (.int 0)) (SLo : Sta Z Z.heap "java/lang/StringUTF16" "LO_BYTE_SHIFT" "I" (.int 8)) (r0 : ¬ c0 < 0 ∧ ¬ (65535 : Int32) < c0) (r1 : ¬ c1 < 0 ∧ ¬ (65535 : Int32) < c1) (r2 : ¬ c2 < 0 ∧ ¬ (65535 : Int32) < c2) (s0 : ¬ (255 : Int32) < c0) (s1 : (255 : Int32) < c1) :
    CtP l (⟨"java/lang/String", "<init>", "([C)V"⟩ : MethodName) jdk_42_method_3_code 2 none [] ({ frames := 5, cells := 2, slots := 9, locals := 74 } : Room) Z #[(.ref x), (.ref b)] h0 (fun v h L => ∃ (t : Addr), ∃ (kb : ClassId), v = none ∧ Fr n0 L ∧ Keep h0 h [x] ∧ h0.size ≤ t ∧ Fld Z h x "java/lang/String" "coder" "B" (.int (1 : Int32)) ∧ Fld Z h x "java/lang/String" "value" "[B" (.ref t) ∧ Arv Z h t kb .byte (6 : Int32) [(.int (StrChars.lo8 c0)), (.int (StrChars.hi8 c0)), (.int (StrChars.lo8 c1)), (.int (StrChars.hi8 c1)), (.int (StrChars.lo8 c2)), (.int (StrChars.hi8 c2))] (.int 0)) := by
  refine CtP.walk (Ls := #[.val (.ref x), .val (.ref b)]) own_pn2 (fun m => by first | (simp [entryFrame, mkF, argsToLocals, Value.category]; done) | rfl) ?_
  intro p e s m below meth cc_ T hx hby hml hown hnm hret hlk hZ X eT
  have N := Fr.nil n0
  have K0 := Keep.refl h0 [x]
  have sz_h : h0.size ≤ h0.size := Nat.le_refl _
  refine galoadN (v := (.ref x)) X hx 1 (hb hby own_d2_0) rfl rfl rfl ?_
  refine galoadN (v := (.ref b)) X hx 2 (hb hby own_d2_1) rfl rfl rfl ?_
  refine giconst X hx (0 : Int32) 3 (hb hby own_d2_2) rfl rfl ?_
  refine galoadN (v := (.ref b)) X hx 4 (hb hby own_d2_3) rfl rfl rfl ?_
  refine garrlen X hx hZ eT P4_Arv 5 (hb hby own_d2_4) rfl ?_
  refine gaconstNull X hx 6 (hb hby own_d2_5) rfl ?_
  refine gspecial (y := (⟨"java/lang/String", "<init>", "([CIILjava/lang/Void;)V"⟩ : MethodName)) (a := x) (argsL := [(.ref b), (.int (0 : Int32)), (.int (3 : Int32)), .null]) (st := []) X hx hZ hown rfl (own_w13 hw) (own_w14 hw) (own_w16 hw) (by decide) (payP (W := 0) (rmI4_3_1 l Z a0 hw (x) (b) (kc) (y0) (y1) _ (c0) (c1) (c2) h0 n0 (Nat.le_trans Z0 sz_h) ge_x P0_Old P1_Exa P2_Fld P3_Fld P4_Arv (O2) (P5) (SA) (SH) (SLo) (r0) (r1) (r2) (s0) (s1)) hZ (own_w16 hw) (own_w9 hw) (by decide) (by decide)) eT (by rw [hml]; rfl) (lenOf own_pd7 rfl) rfl (Nat.le_of_eq rfl) 2 9 rfl rfl (by decide) (by decide) 9 (hb hby own_d2_6) rfl ?_
  clear X eT; clear T; intro v T h1 L2 Lc X eT hL hQ2
  obtain ⟨t_3, kb_4, rfl, Nq, K5, zz_t_3, G7, G8, G9⟩ := hQ2
  replace N : Fr n0 L2 := by rw [hL]; exact Fr.app N Nq
  clear Nq hL
  have ne_x_t_3 : x ≠ t_3 := Nat.ne_of_lt (Nat.lt_of_lt_of_le P1_Exa.lt zz_t_3)
  have ne_t_3_x : t_3 ≠ x := Ne.symm ne_x_t_3
  have ne_b_t_3 : b ≠ t_3 := Nat.ne_of_lt (Nat.lt_of_lt_of_le P4_Arv.lt zz_t_3)
  have ne_t_3_b : t_3 ≠ b := Ne.symm ne_b_t_3
  have sz_t_3 : h0.size ≤ t_3 := Nat.le_trans sz_h zz_t_3
  have ge_t_3 : n0 ≤ t_3 := Nat.le_trans Z0 sz_t_3
  have ne_b_x : b ≠ x := Ne.symm (Exa.neArv P1_Exa P4_Arv (own_w8 hw))
  replace P0_Old := P0_Old.keep K5 (allS ge_x all0)
  replace P1_Exa := P1_Exa.keep K5
  replace P4_Arv := P4_Arv.keep K5 (ninS ne_b_x nin0)
  replace K0 := K0.trans K5 (allS (Or.inl (List.mem_of_getElem? (i := 0) rfl)) all0)
  replace sz_h : h0.size ≤ h1.size := Nat.le_trans sz_h K5.1
  show Go p e below _ T (mkF m 9 #[.val (.ref x), .val (.ref b)] [])
  exact gRetP0 X hx hlk hret (hb hby own_d2_9) eT (by decide) (by decide) ⟨t_3, kb_4, rfl, N, K0, sz_t_3, G7, G8, G9⟩
set_option maxRecDepth 65536 in
set_option maxHeartbeats 40000000 in
theorem rmC5_3_2 (l : Launch) (Z : State) (a0 : Array Value) (hw : ∀ d ∈ tables_1, d.before a0 Z = true) (b : Addr) (t : Addr) (kc : ClassId) (kb : ClassId) (c0 : Int32) (c1 : Int32) (c2 : Int32) (h0 : Heap) (n0 : Nat) (Z0 : n0 ≤ h0.size) (ge_t : n0 ≤ t) (P0_Arv : Arv Z h0 b kc .char (3 : Int32) [(.int c0), (.int c1), (.int c2)] (.int 0)) (P1_Arv : Arv Z h0 t kb .byte (3 : Int32) [(.int (0 : Int32)), (.int (0 : Int32)), (.int (0 : Int32))] (.int 0)) (s0 : ¬ (255 : Int32) < c0) (s1 : ¬ (255 : Int32) < c1) (s2 : (255 : Int32) < c2) (hne : b ≠ t) :
    CtP l (⟨"java/lang/StringUTF16", "compress", "([CI[BII)I"⟩ : MethodName) jdk_52_method_21_code 7 (some .int) [] ({ frames := 0, cells := 0, slots := 0, locals := 0 } : Room) Z #[(.ref b), (.int (0 : Int32)), (.ref t), (.int (0 : Int32)), (.int (3 : Int32))] h0 (fun v h L => v = some (.int (2 : Int32)) ∧ Fr n0 L ∧ Keep h0 h [t]) := by
  refine CtP.walk (Ls := #[.val (.ref b), .val (.int (0 : Int32)), .val (.ref t), .val (.int (0 : Int32)), .val (.int (3 : Int32)), .unset, .unset]) (plainFor_of_name own_pn0) (fun m => by first | (simp [entryFrame, mkF, argsToLocals, Value.category]; done) | rfl) ?_
  intro p e s m below meth cc_ T hx hby hml hown hnm hret hlk hZ X eT
  have N := Fr.nil n0
  have K0 := Keep.refl h0 [t]
  have sz_h : h0.size ≤ h0.size := Nat.le_refl _
  refine giconst X hx (0 : Int32) 1 (hb hby own_d6_0) rfl rfl ?_
  refine gistore X hx #[.val (.ref b), .val (.int (0 : Int32)), .val (.ref t), .val (.int (0 : Int32)), .val (.int (3 : Int32)), .val (.int (0 : Int32)), .unset] 3 (hb hby own_d6_1) rfl rfl ?_
  refine giload (v := (0 : Int32)) X hx 5 (hb hby own_d6_3) rfl rfl ?_
  refine giload (v := (3 : Int32)) X hx 7 (hb hby own_d6_5) rfl rfl ?_
  refine gicmpNo X hx 10 (hb hby own_d6_7) rfl (by decide) ?_
  refine galoadN (v := (.ref b)) X hx 11 (hb hby own_d6_10) rfl rfl rfl ?_
  refine giloadN (v := (0 : Int32)) X hx 12 (hb hby own_d6_11) rfl rfl ?_
  refine gcaload X hx hZ eT P0_Arv (.int c0) (by decide) (by decide) rfl 13 (hb hby own_d6_12) rfl ?_
  refine gistore X hx #[.val (.ref b), .val (.int (0 : Int32)), .val (.ref t), .val (.int (0 : Int32)), .val (.int (3 : Int32)), .val (.int (0 : Int32)), .val (.int c0)] 15 (hb hby own_d6_13) rfl rfl ?_
  refine giload (v := c0) X hx 17 (hb hby own_d6_15) rfl rfl ?_
  refine gsipush X hx (255 : Int32) 20 (hb hby own_d6_17) rfl rfl ?_
  refine gicmpYes X hx 26 (hb hby own_d6_20) (flt s0).2.2.2 (by decide) (by decide) ?_
  refine galoadN (v := (.ref t)) X hx 27 (hb hby own_d6_26) rfl rfl rfl ?_
  refine giloadN (v := (0 : Int32)) X hx 28 (hb hby own_d6_27) rfl rfl ?_
  refine giload (v := c0) X hx 30 (hb hby own_d6_28) rfl rfl ?_
  refine gi2b X hx 31 (hb hby own_d6_30) rfl ?_
  refine gbastore X hx hZ eT P1_Arv (by decide) (by decide) 0 rfl (Nat.le_of_ble_eq_true rfl) N ge_t 32 (hb hby own_d6_31) rfl ?_
  clear X eT N; clear T; intro T h2 L X eT N W1 V3
  replace P0_Arv := P0_Arv.other W1 hne
  replace K0 := K0.wr W1 (Or.inl (List.mem_of_getElem? (i := 0) rfl))
  replace sz_h : h0.size ≤ h2.size := by rw [Wr.size W1]; exact sz_h
  replace V3 : Arv Z h2 t kb .byte (3 : Int32) [(.int (c0.toInt8.toInt32)), (.int (0 : Int32)), (.int (0 : Int32))] (.int 0) := by have z := V3; rw [own_narb] at z; exact z
  refine giinc X hx #[.val (.ref b), .val (.int (1 : Int32)), .val (.ref t), .val (.int (0 : Int32)), .val (.int (3 : Int32)), .val (.int (0 : Int32)), .val (.int c0)] 35 (hb hby own_d6_32) rfl rfl rfl ?_
  refine giinc X hx #[.val (.ref b), .val (.int (1 : Int32)), .val (.ref t), .val (.int (1 : Int32)), .val (.int (3 : Int32)), .val (.int (0 : Int32)), .val (.int c0)] 38 (hb hby own_d6_35) rfl rfl rfl ?_
  refine giinc X hx #[.val (.ref b), .val (.int (1 : Int32)), .val (.ref t), .val (.int (1 : Int32)), .val (.int (3 : Int32)), .val (.int (1 : Int32)), .val (.int c0)] 41 (hb hby own_d6_38) rfl rfl rfl ?_
  refine ggoto X hx 3 (hb hby own_d6_41) (by decide) (by decide) ?_
  refine giload (v := (1 : Int32)) X hx 5 (hb hby own_d6_3) rfl rfl ?_
  refine giload (v := (3 : Int32)) X hx 7 (hb hby own_d6_5) rfl rfl ?_
  refine gicmpNo X hx 10 (hb hby own_d6_7) rfl (by decide) ?_
  refine galoadN (v := (.ref b)) X hx 11 (hb hby own_d6_10) rfl rfl rfl ?_
  refine giloadN (v := (1 : Int32)) X hx 12 (hb hby own_d6_11) rfl rfl ?_
  refine gcaload X hx hZ eT P0_Arv (.int c1) (by decide) (by decide) rfl 13 (hb hby own_d6_12) rfl ?_
  refine gistore X hx #[.val (.ref b), .val (.int (1 : Int32)), .val (.ref t), .val (.int (1 : Int32)), .val (.int (3 : Int32)), .val (.int (1 : Int32)), .val (.int c1)] 15 (hb hby own_d6_13) rfl rfl ?_
  refine giload (v := c1) X hx 17 (hb hby own_d6_15) rfl rfl ?_
  refine gsipush X hx (255 : Int32) 20 (hb hby own_d6_17) rfl rfl ?_
  refine gicmpYes X hx 26 (hb hby own_d6_20) (flt s1).2.2.2 (by decide) (by decide) ?_
  refine galoadN (v := (.ref t)) X hx 27 (hb hby own_d6_26) rfl rfl rfl ?_
  refine giloadN (v := (1 : Int32)) X hx 28 (hb hby own_d6_27) rfl rfl ?_
  refine giload (v := c1) X hx 30 (hb hby own_d6_28) rfl rfl ?_
  refine gi2b X hx 31 (hb hby own_d6_30) rfl ?_
  refine gbastore X hx hZ eT V3 (by decide) (by decide) 1 rfl (Nat.le_of_ble_eq_true rfl) N ge_t 32 (hb hby own_d6_31) rfl ?_
  clear X eT N; clear T; intro T h5 L X eT N W4 V6
  replace P0_Arv := P0_Arv.other W4 hne
  replace K0 := K0.wr W4 (Or.inl (List.mem_of_getElem? (i := 0) rfl))
  replace sz_h : h0.size ≤ h5.size := by rw [Wr.size W4]; exact sz_h
  replace V6 : Arv Z h5 t kb .byte (3 : Int32) [(.int (c0.toInt8.toInt32)), (.int (c1.toInt8.toInt32)), (.int (0 : Int32))] (.int 0) := by have z := V6; rw [own_narb] at z; exact z
  refine giinc X hx #[.val (.ref b), .val (.int (2 : Int32)), .val (.ref t), .val (.int (1 : Int32)), .val (.int (3 : Int32)), .val (.int (1 : Int32)), .val (.int c1)] 35 (hb hby own_d6_32) rfl rfl rfl ?_
  refine giinc X hx #[.val (.ref b), .val (.int (2 : Int32)), .val (.ref t), .val (.int (2 : Int32)), .val (.int (3 : Int32)), .val (.int (1 : Int32)), .val (.int c1)] 38 (hb hby own_d6_35) rfl rfl rfl ?_
  refine giinc X hx #[.val (.ref b), .val (.int (2 : Int32)), .val (.ref t), .val (.int (2 : Int32)), .val (.int (3 : Int32)), .val (.int (2 : Int32)), .val (.int c1)] 41 (hb hby own_d6_38) rfl rfl rfl ?_
  refine ggoto X hx 3 (hb hby own_d6_41) (by decide) (by decide) ?_
  refine giload (v := (2 : Int32)) X hx 5 (hb hby own_d6_3) rfl rfl ?_
  refine giload (v := (3 : Int32)) X hx 7 (hb hby own_d6_5) rfl rfl ?_
  refine gicmpNo X hx 10 (hb hby own_d6_7) rfl (by decide) ?_
  refine galoadN (v := (.ref b)) X hx 11 (hb hby own_d6_10) rfl rfl rfl ?_
  refine giloadN (v := (2 : Int32)) X hx 12 (hb hby own_d6_11) rfl rfl ?_
  refine gcaload X hx hZ eT P0_Arv (.int c2) (by decide) (by decide) rfl 13 (hb hby own_d6_12) rfl ?_
  refine gistore X hx #[.val (.ref b), .val (.int (2 : Int32)), .val (.ref t), .val (.int (2 : Int32)), .val (.int (3 : Int32)), .val (.int (2 : Int32)), .val (.int c2)] 15 (hb hby own_d6_13) rfl rfl ?_
  refine giload (v := c2) X hx 17 (hb hby own_d6_15) rfl rfl ?_
  refine gsipush X hx (255 : Int32) 20 (hb hby own_d6_17) rfl rfl ?_
  refine gicmpNo X hx 23 (hb hby own_d6_20) rfl (tlt s2).2.2.2 ?_
  refine giload (v := (2 : Int32)) X hx 25 (hb hby own_d6_23) rfl rfl ?_
  exact gRetP X hx hlk hret rfl (Or.inl ⟨rfl, by simp, _, rfl⟩) (hb hby own_d6_25) eT (by decide) (by decide) ⟨rfl, N, K0⟩
set_option maxRecDepth 65536 in
set_option maxHeartbeats 40000000 in
theorem rmC3_3_2 (l : Launch) (Z : State) (a0 : Array Value) (hw : ∀ d ∈ tables_1, d.before a0 Z = true) (b : Addr) (kc : ClassId) (c0 : Int32) (c1 : Int32) (c2 : Int32) (h0 : Heap) (n0 : Nat) (Z0 : n0 ≤ h0.size) (P0_Old : Old Z n0 h0) (P1_Arv : Arv Z h0 b kc .char (3 : Int32) [(.int c0), (.int c1), (.int c2)] (.int 0)) (SA : Sta Z Z.heap "java/lang/StringUTF16" "$assertionsDisabled" "Z" (.int 1)) (SH : Sta Z Z.heap "java/lang/StringUTF16" "HI_BYTE_SHIFT" "I" (.int 0)) (SLo : Sta Z Z.heap "java/lang/StringUTF16" "LO_BYTE_SHIFT" "I" (.int 8)) (r0 : ¬ c0 < 0 ∧ ¬ (65535 : Int32) < c0) (r1 : ¬ c1 < 0 ∧ ¬ (65535 : Int32) < c1) (r2 : ¬ c2 < 0 ∧ ¬ (65535 : Int32) < c2) (s0 : ¬ (255 : Int32) < c0) (s1 : ¬ (255 : Int32) < c1) (s2 : (255 : Int32) < c2) :
    CtP l (⟨"java/lang/StringUTF16", "compress", "([CII)[B"⟩ : MethodName) jdk_52_method_16_code 6 (some (.array .byte)) [] ({ frames := 3, cells := 2, slots := 9, locals := 40 } : Room) Z #[(.ref b), (.int (0 : Int32)), (.int (3 : Int32))] h0 (fun v h L => ∃ (t : Addr), ∃ (kb : ClassId), v = some (.ref t) ∧ Fr n0 L ∧ Keep h0 h [] ∧ h0.size ≤ t ∧ Arv Z h t kb .byte (6 : Int32) [(.int (StrChars.lo8 c0)), (.int (StrChars.hi8 c0)), (.int (StrChars.lo8 c1)), (.int (StrChars.hi8 c1)), (.int (StrChars.lo8 c2)), (.int (StrChars.hi8 c2))] (.int 0)) := by
  refine CtP.walk (Ls := #[.val (.ref b), .val (.int (0 : Int32)), .val (.int (3 : Int32)), .unset, .unset, .unset]) (plainFor_of_name own_pn0) (fun m => by first | (simp [entryFrame, mkF, argsToLocals, Value.category]; done) | rfl) ?_
  intro p e s m below meth cc_ T hx hby hml hown hnm hret hlk hZ X eT
  have N := Fr.nil n0
  have K0 := Keep.refl h0 []
  have sz_h : h0.size ≤ h0.size := Nat.le_refl _
  refine giloadN (v := (3 : Int32)) X hx 1 (hb hby own_d5_0) rfl rfl ?_
  refine gnewP (aty := .byte) X hx hZ (own_w25 hw) eT (n := (3 : Int32)) (by decide) 3 (by decide) (by decide) 1 3 rfl rfl (by decide) (by decide) 3 (hb hby own_d5_1) rfl ?_
  clear X eT; clear T; intro T h1 b2 kc5 X eT ga E3 V4
  have le_a := Nat.le_of_eq ga.symm
  have ne_b_b2 : b ≠ b2 := Nat.ne_of_lt (Nat.lt_of_lt_of_le P1_Arv.lt le_a)
  have ne_b2_b : b2 ≠ b := Ne.symm ne_b_b2
  have sz_b2 : h0.size ≤ b2 := Nat.le_trans sz_h le_a
  have ge_b2 : n0 ≤ b2 := Nat.le_trans Z0 sz_b2
  clear le_a ga
  replace P0_Old := P0_Old.ext E3
  replace P1_Arv := P1_Arv.ext E3
  replace K0 := K0.ext E3
  replace sz_h : h0.size ≤ h1.size := Nat.le_trans sz_h E3.1
  replace V4 : Arv Z h1 b2 kc5 .byte (3 : Int32) [(.int (0 : Int32)), (.int (0 : Int32)), (.int (0 : Int32))] (.int 0) := V4.pad (pad_rep [] _ 3)
  refine gastoreN X hx #[.val (.ref b), .val (.int (0 : Int32)), .val (.int (3 : Int32)), .val (.ref b2), .unset, .unset] 4 (hb hby own_d5_3) rfl rfl rfl ?_
  refine galoadN (v := (.ref b)) X hx 5 (hb hby own_d5_4) rfl rfl rfl ?_
  refine giloadN (v := (0 : Int32)) X hx 6 (hb hby own_d5_5) rfl rfl ?_
  refine galoadN (v := (.ref b2)) X hx 7 (hb hby own_d5_6) rfl rfl rfl ?_
  refine giconst X hx (0 : Int32) 8 (hb hby own_d5_7) rfl rfl ?_
  refine giloadN (v := (3 : Int32)) X hx 9 (hb hby own_d5_8) rfl rfl ?_
  refine gstatic (y := (⟨"java/lang/StringUTF16", "compress", "([CI[BII)I"⟩ : MethodName)) (argsL := [(.ref b), (.int (0 : Int32)), (.ref b2), (.int (0 : Int32)), (.int (3 : Int32))]) (st := []) X hx hZ hown (own_w26 hw) (own_w27 hw) (own_w23 hw) (own_w28 hw) (by decide) (payP (W := 0) (rmC5_3_2 l Z a0 hw (b) (b2) (kc) (kc5) (c0) (c1) (c2) h1 n0 (Nat.le_trans Z0 sz_h) ge_b2 P1_Arv V4 (s0) (s1) (s2) (ne_b_b2)) hZ (own_w28 hw) (own_w23 hw) (by decide) (by decide)) eT (by rw [hml]; rfl) (lenOf own_pd3 rfl) rfl (Nat.le_of_eq rfl) 1 3 rfl rfl (by decide) (by decide) 12 (hb hby own_d5_9) rfl ?_
  clear X eT; clear T; intro v T h6 L2 Lc X eT hL hQ7
  obtain ⟨rfl, Nq, K8⟩ := hQ7
  replace N : Fr n0 L2 := by rw [hL]; exact Fr.app N Nq
  clear Nq hL
  replace P0_Old := P0_Old.keep K8 (allS ge_b2 all0)
  replace P1_Arv := P1_Arv.keep K8 (ninS ne_b_b2 nin0)
  replace K0 := K0.trans K8 (allS (Or.inr sz_b2) all0)
  replace sz_h : h0.size ≤ h6.size := Nat.le_trans sz_h K8.1
  show Go p e below _ T (mkF m 12 #[.val (.ref b), .val (.int (0 : Int32)), .val (.int (3 : Int32)), .val (.ref b2), .unset, .unset] [(.int (2 : Int32))])
  refine gistore X hx #[.val (.ref b), .val (.int (0 : Int32)), .val (.int (3 : Int32)), .val (.ref b2), .val (.int (2 : Int32)), .unset] 14 (hb hby own_d5_12) rfl rfl ?_
  refine giload (v := (2 : Int32)) X hx 16 (hb hby own_d5_14) rfl rfl ?_
  refine giloadN (v := (3 : Int32)) X hx 17 (hb hby own_d5_16) rfl rfl ?_
  refine gicmpNo X hx 20 (hb hby own_d5_17) rfl (by decide) ?_
  refine galoadN (v := (.ref b)) X hx 21 (hb hby own_d5_20) rfl rfl rfl ?_
  refine giloadN (v := (0 : Int32)) X hx 22 (hb hby own_d5_21) rfl rfl ?_
  refine giloadN (v := (3 : Int32)) X hx 23 (hb hby own_d5_22) rfl rfl ?_
  refine gstatic (y := (⟨"java/lang/StringUTF16", "toBytes", "([CII)[B"⟩ : MethodName)) (argsL := [(.ref b), (.int (0 : Int32)), (.int (3 : Int32))]) (st := []) X hx hZ hown (own_w88 hw) (own_w89 hw) (own_w23 hw) (own_w90 hw) (by decide) (payP (W := 0) (rmTB3 l Z a0 hw (b) (kc) (c0) (c1) (c2) h6 n0 (Nat.le_trans Z0 sz_h) P0_Old P1_Arv (SA) (SH) (SLo)) hZ (own_w90 hw) (own_w23 hw) (by decide) (by decide)) eT (by rw [hml]; rfl) (lenOf own_pd4 rfl) rfl (Nat.le_of_eq rfl) 2 9 rfl rfl (by decide) (by decide) 26 (hb hby own_d5_23) rfl ?_
  clear X eT; clear T; intro v T h10 L2 Lc X eT hL hQ11
  obtain ⟨t_12, kb_13, rfl, Nq, K14, zz_t_12, G16⟩ := hQ11
  replace N : Fr n0 L2 := by rw [hL]; exact Fr.app N Nq
  clear Nq hL
  have ne_b_t_12 : b ≠ t_12 := Nat.ne_of_lt (Nat.lt_of_lt_of_le P1_Arv.lt zz_t_12)
  have ne_t_12_b : t_12 ≠ b := Ne.symm ne_b_t_12
  have sz_t_12 : h0.size ≤ t_12 := Nat.le_trans sz_h zz_t_12
  have ge_t_12 : n0 ≤ t_12 := Nat.le_trans Z0 sz_t_12
  replace P0_Old := P0_Old.keep K14 all0
  replace P1_Arv := P1_Arv.keep K14 nin0
  replace K0 := K0.trans K14 all0
  replace sz_h : h0.size ≤ h10.size := Nat.le_trans sz_h K14.1
  show Go p e below _ T (mkF m 26 #[.val (.ref b), .val (.int (0 : Int32)), .val (.int (3 : Int32)), .val (.ref b2), .val (.int (2 : Int32)), .unset] [(.ref t_12)])
  refine gastore X hx #[.val (.ref b), .val (.int (0 : Int32)), .val (.int (3 : Int32)), .val (.ref b2), .val (.int (2 : Int32)), .val (.ref t_12)] 28 (hb hby own_d5_26) rfl rfl rfl ?_
  refine gaload (v := (.ref t_12)) X hx 30 (hb hby own_d5_28) rfl rfl rfl ?_
  refine giload (v := (2 : Int32)) X hx 32 (hb hby own_d5_30) rfl rfl ?_
  refine gstatic (y := (⟨"java/lang/StringUTF16", "getChar", "([BI)C"⟩ : MethodName)) (argsL := [(.ref t_12), (.int (2 : Int32))]) (st := []) X hx hZ hown (own_w104 hw) (own_w105 hw) (own_w23 hw) (own_w106 hw) (by decide) (payP (W := 0) (rmGet3_2 l Z a0 hw (t_12) (kb_13) _ _ _ h10 n0 (Nat.le_trans Z0 sz_h) P0_Old G16 (SA) (SH) (SLo) (r0) (r1) (r2)) hZ (own_w106 hw) (own_w23 hw) (by decide) (by decide)) eT (by rw [hml]; rfl) (lenOf own_pd5 rfl) rfl (Nat.le_of_eq rfl) 2 9 rfl rfl (by decide) (by decide) 35 (hb hby own_d5_32) rfl ?_
  clear X eT; clear T; intro v T h17 L2 Lc X eT hL hQ18
  obtain ⟨rfl, Nq, hh⟩ := hQ18
  replace N : Fr n0 L2 := by rw [hL]; exact Fr.app N Nq
  clear Nq hL
  replace hh := hh.symm; subst hh
  show Go p e below _ T (mkF m 35 #[.val (.ref b), .val (.int (0 : Int32)), .val (.int (3 : Int32)), .val (.ref b2), .val (.int (2 : Int32)), .val (.ref t_12)] [(.int c2)])
  refine gsipush X hx (255 : Int32) 38 (hb hby own_d5_35) rfl rfl ?_
  refine gicmpYes X hx 54 (hb hby own_d5_38) (tlt s2).2.2.1 (by decide) (by decide) ?_
  refine gaload (v := (.ref t_12)) X hx 56 (hb hby own_d5_54) rfl rfl rfl ?_
  exact gRetP X hx hlk hret rfl (Or.inr (Or.inr (Or.inr (Or.inr ⟨rfl, rfl, rfl⟩)))) (hb hby own_d5_56) eT (by decide) (by decide) ⟨t_12, kb_13, rfl, N, K0, sz_t_12, G16⟩
set_option maxRecDepth 65536 in
set_option maxHeartbeats 40000000 in
theorem rmI4_3_2 (l : Launch) (Z : State) (a0 : Array Value) (hw : ∀ d ∈ tables_1, d.before a0 Z = true) (x : Addr) (b : Addr) (kc : ClassId) (y0 : Value) (y1 : Value) (G1 : Int32) (c0 : Int32) (c1 : Int32) (c2 : Int32) (h0 : Heap) (n0 : Nat) (Z0 : n0 ≤ h0.size) (ge_x : n0 ≤ x) (P0_Old : Old Z n0 h0) (P1_Exa : Exa Z h0 x "java/lang/String") (P2_Fld : Fld Z h0 x "java/lang/String" "value" "[B" y0) (P3_Fld : Fld Z h0 x "java/lang/String" "coder" "B" y1) (P4_Arv : Arv Z h0 b kc .char (3 : Int32) [(.int c0), (.int c1), (.int c2)] (.int 0)) (O2 : Sta Z Z.heap "java/lang/String" "COMPACT_STRINGS" "Z" (.int G1)) (P5 : ¬ G1 = (0 : Int32)) (SA : Sta Z Z.heap "java/lang/StringUTF16" "$assertionsDisabled" "Z" (.int 1)) (SH : Sta Z Z.heap "java/lang/StringUTF16" "HI_BYTE_SHIFT" "I" (.int 0)) (SLo : Sta Z Z.heap "java/lang/StringUTF16" "LO_BYTE_SHIFT" "I" (.int 8)) (r0 : ¬ c0 < 0 ∧ ¬ (65535 : Int32) < c0) (r1 : ¬ c1 < 0 ∧ ¬ (65535 : Int32) < c1) (r2 : ¬ c2 < 0 ∧ ¬ (65535 : Int32) < c2) (s0 : ¬ (255 : Int32) < c0) (s1 : ¬ (255 : Int32) < c1) (s2 : (255 : Int32) < c2) :
    CtP l (⟨"java/lang/String", "<init>", "([CIILjava/lang/Void;)V"⟩ : MethodName) jdk_42_method_149_code 6 none [] ({ frames := 4, cells := 2, slots := 9, locals := 57 } : Room) Z #[(.ref x), (.ref b), (.int (0 : Int32)), (.int (3 : Int32)), .null] h0 (fun v h L => ∃ (t : Addr), ∃ (kb : ClassId), v = none ∧ Fr n0 L ∧ Keep h0 h [x] ∧ h0.size ≤ t ∧ Fld Z h x "java/lang/String" "coder" "B" (.int (1 : Int32)) ∧ Fld Z h x "java/lang/String" "value" "[B" (.ref t) ∧ Arv Z h t kb .byte (6 : Int32) [(.int (StrChars.lo8 c0)), (.int (StrChars.hi8 c0)), (.int (StrChars.lo8 c1)), (.int (StrChars.hi8 c1)), (.int (StrChars.lo8 c2)), (.int (StrChars.hi8 c2))] (.int 0)) := by
  refine CtP.walk (Ls := #[.val (.ref x), .val (.ref b), .val (.int (0 : Int32)), .val (.int (3 : Int32)), .val .null, .unset]) own_pn1 (fun m => by first | (simp [entryFrame, mkF, argsToLocals, Value.category]; done) | rfl) ?_
  intro p e s m below meth cc_ T hx hby hml hown hnm hret hlk hZ X eT
  have N := Fr.nil n0
  have K0 := Keep.refl h0 [x]
  have sz_h : h0.size ≤ h0.size := Nat.le_refl _
  refine galoadN (v := (.ref x)) X hx 1 (hb hby own_d3_0) rfl rfl rfl ?_
  refine ginitO X hx hZ hown (own_w17 hw) (own_w18 hw) (own_w19 hw) eT (by rw [hml]; rfl) (by decide) 0 (Nat.le_of_eq rfl) (by decide) 4 (hb hby own_d3_1) rfl ?_
  clear X eT; clear T; intro T X eT
  refine giloadN (v := (3 : Int32)) X hx 5 (hb hby own_d3_4) rfl rfl ?_
  refine gifYes X hx 27 (hb hby own_d3_5) (by decide) (by decide) (by decide) ?_
  refine ggetS X hx hZ (host := "") hown (Or.inl (own_w20 hw)) Via.refl eT (O2.ext P0_Old.2) 30 (hb hby own_d3_27) rfl ?_
  clear X eT; clear T; intro T X eT
  refine gifNo X hx 33 (hb hby own_d3_30) rfl ((if0 _ _).trans (feq P5).1) ?_
  refine galoadN (v := (.ref b)) X hx 34 (hb hby own_d3_33) rfl rfl rfl ?_
  refine giloadN (v := (0 : Int32)) X hx 35 (hb hby own_d3_34) rfl rfl ?_
  refine giloadN (v := (3 : Int32)) X hx 36 (hb hby own_d3_35) rfl rfl ?_
  refine gstatic (y := (⟨"java/lang/StringUTF16", "compress", "([CII)[B"⟩ : MethodName)) (argsL := [(.ref b), (.int (0 : Int32)), (.int (3 : Int32))]) (st := []) X hx hZ hown (own_w21 hw) (own_w22 hw) (own_w23 hw) (own_w24 hw) (by decide) (payP (W := 0) (rmC3_3_2 l Z a0 hw (b) (kc) (c0) (c1) (c2) h0 n0 (Nat.le_trans Z0 sz_h) P0_Old P4_Arv (SA) (SH) (SLo) (r0) (r1) (r2) (s0) (s1) (s2)) hZ (own_w24 hw) (own_w23 hw) (by decide) (by decide)) eT (by rw [hml]; rfl) (lenOf own_pd4 rfl) rfl (Nat.le_of_eq rfl) 2 9 rfl rfl (by decide) (by decide) 39 (hb hby own_d3_36) rfl ?_
  clear X eT; clear T; intro v T h1 L2 Lc X eT hL hQ2
  obtain ⟨t_3, kb_4, rfl, Nq, K5, zz_t_3, G7⟩ := hQ2
  replace N : Fr n0 L2 := by rw [hL]; exact Fr.app N Nq
  clear Nq hL
  have ne_x_t_3 : x ≠ t_3 := Nat.ne_of_lt (Nat.lt_of_lt_of_le P1_Exa.lt zz_t_3)
  have ne_t_3_x : t_3 ≠ x := Ne.symm ne_x_t_3
  have ne_b_t_3 : b ≠ t_3 := Nat.ne_of_lt (Nat.lt_of_lt_of_le P4_Arv.lt zz_t_3)
  have ne_t_3_b : t_3 ≠ b := Ne.symm ne_b_t_3
  have sz_t_3 : h0.size ≤ t_3 := Nat.le_trans sz_h zz_t_3
  have ge_t_3 : n0 ≤ t_3 := Nat.le_trans Z0 sz_t_3
  replace P0_Old := P0_Old.keep K5 all0
  replace P1_Exa := P1_Exa.keep K5
  replace P2_Fld := P2_Fld.keep K5 nin0
  replace P3_Fld := P3_Fld.keep K5 nin0
  replace P4_Arv := P4_Arv.keep K5 nin0
  replace K0 := K0.trans K5 all0
  replace sz_h : h0.size ≤ h1.size := Nat.le_trans sz_h K5.1
  show Go p e below _ T (mkF m 39 #[.val (.ref x), .val (.ref b), .val (.int (0 : Int32)), .val (.int (3 : Int32)), .val .null, .unset] [(.ref t_3)])
  refine gastore X hx #[.val (.ref x), .val (.ref b), .val (.int (0 : Int32)), .val (.int (3 : Int32)), .val .null, .val (.ref t_3)] 41 (hb hby own_d3_39) rfl rfl rfl ?_
  refine galoadN (v := (.ref x)) X hx 42 (hb hby own_d3_41) rfl rfl rfl ?_
  refine gaload (v := (.ref t_3)) X hx 44 (hb hby own_d3_42) rfl rfl rfl ?_
  refine giloadN (v := (3 : Int32)) X hx 45 (hb hby own_d3_44) rfl rfl ?_
  refine gstatic (y := (⟨"java/lang/StringUTF16", "coderFromArrayLen", "([BI)B"⟩ : MethodName)) (argsL := [(.ref t_3), (.int (3 : Int32))]) (st := [(.ref x)]) X hx hZ hown (own_w29 hw) (own_w30 hw) (own_w23 hw) (own_w31 hw) (by decide) (payP (W := 1) (rmCL3 l Z a0 hw (t_3) (kb_4) ([(.int (StrChars.lo8 c0)), (.int (StrChars.hi8 c0)), (.int (StrChars.lo8 c1)), (.int (StrChars.hi8 c1)), (.int (StrChars.lo8 c2)), (.int (StrChars.hi8 c2))]) h1 n0 (Nat.le_trans Z0 sz_h) G7) hZ (own_w31 hw) (own_w23 hw) (by decide) (by decide)) eT (by rw [hml]; rfl) (lenOf own_pd6 rfl) rfl (Nat.le_of_eq rfl) 2 9 rfl rfl (by decide) (by decide) 48 (hb hby own_d3_45) rfl ?_
  clear X eT; clear T; intro v T h8 L2 Lc X eT hL hQ9
  obtain ⟨rfl, Nq, hh⟩ := hQ9
  replace N : Fr n0 L2 := by rw [hL]; exact Fr.app N Nq
  clear Nq hL
  replace hh := hh.symm; subst hh
  show Go p e below _ T (mkF m 48 #[.val (.ref x), .val (.ref b), .val (.int (0 : Int32)), .val (.int (3 : Int32)), .val .null, .val (.ref t_3)] [(.int (1 : Int32)), (.ref x)])
  refine gputF X hx hZ (host := "") hown (Or.inl (own_w32 hw)) Via.refl eT P3_Fld P1_Exa (Or.inr ⟨(own_w33 hw), rfl, hnm⟩) (own_w8 hw) (ty := .byte) own_pf0 rfl rfl N ge_x 51 (hb hby own_d3_48) rfl ?_
  clear X eT N; clear T; intro T h12 L X eT N W13
  have ne_b_x : b ≠ x := Ne.symm (Exa.neArv P1_Exa P4_Arv (own_w8 hw))
  replace P0_Old := P0_Old.wr W13 ge_x
  replace P1_Exa := P1_Exa.wr W13
  replace P2_Fld := P2_Fld.other W13 (Or.inr (slot_ne (Or.inr (own_w35 hw)) (Or.inr (own_w33 hw)) (by decide) own_pf1 own_pf0))
  replace P3_Fld := P3_Fld.same W13
  replace P4_Arv := P4_Arv.other W13 ne_b_x
  replace G7 := G7.other W13 ne_t_3_x
  replace K0 := K0.wr W13 (Or.inl (List.mem_of_getElem? (i := 0) rfl))
  replace sz_h : h0.size ≤ h12.size := by rw [Wr.size W13]; exact sz_h
  refine galoadN (v := (.ref x)) X hx 52 (hb hby own_d3_51) rfl rfl rfl ?_
  refine gaload (v := (.ref t_3)) X hx 54 (hb hby own_d3_52) rfl rfl rfl ?_
  refine gputF X hx hZ (host := "") hown (Or.inl (own_w34 hw)) Via.refl eT P2_Fld P1_Exa (Or.inr ⟨(own_w35 hw), rfl, hnm⟩) (own_w8 hw) (ty := (.array .byte)) own_pf1 rfl rfl N ge_x 57 (hb hby own_d3_54) rfl ?_
  clear X eT N; clear T; intro T h14 L X eT N W15
  replace P0_Old := P0_Old.wr W15 ge_x
  replace P1_Exa := P1_Exa.wr W15
  replace P2_Fld := P2_Fld.same W15
  replace P3_Fld := P3_Fld.other W15 (Or.inr (slot_ne (Or.inr (own_w33 hw)) (Or.inr (own_w35 hw)) (by decide) own_pf0 own_pf1))
  replace P4_Arv := P4_Arv.other W15 ne_b_x
  replace G7 := G7.other W15 ne_t_3_x
  replace K0 := K0.wr W15 (Or.inl (List.mem_of_getElem? (i := 0) rfl))
  replace sz_h : h0.size ≤ h14.size := by rw [Wr.size W15]; exact sz_h
  exact gRetP0 X hx hlk hret (hb hby own_d3_57) eT (by decide) (by decide) ⟨t_3, kb_4, rfl, N, K0, sz_t_3, P3_Fld, P2_Fld, G7⟩
set_option maxRecDepth 65536 in
set_option maxHeartbeats 40000000 in
theorem rmI1_3_2 (l : Launch) (Z : State) (a0 : Array Value) (hw : ∀ d ∈ tables_1, d.before a0 Z = true) (x : Addr) (b : Addr) (kc : ClassId) (y0 : Value) (y1 : Value) (G1 : Int32) (c0 : Int32) (c1 : Int32) (c2 : Int32) (h0 : Heap) (n0 : Nat) (Z0 : n0 ≤ h0.size) (ge_x : n0 ≤ x) (P0_Old : Old Z n0 h0) (P1_Exa : Exa Z h0 x "java/lang/String") (P2_Fld : Fld Z h0 x "java/lang/String" "value" "[B" y0) (P3_Fld : Fld Z h0 x "java/lang/String" "coder" "B" y1) (P4_Arv : Arv Z h0 b kc .char (3 : Int32) [(.int c0), (.int c1), (.int c2)] (.int 0)) (O2 : Sta Z Z.heap "java/lang/String" "COMPACT_STRINGS" "Z" (.int G1)) (P5 : ¬ G1 = (0 : Int32)) (SA : Sta Z Z.heap "java/lang/StringUTF16" "$assertionsDisabled" "Z" (.int 1)) (SH : Sta Z Z.heap "java/lang/StringUTF16" "HI_BYTE_SHIFT" "I" (.int 0)) (SLo : Sta Z Z.heap "java/lang/StringUTF16" "LO_BYTE_SHIFT" "I" (.int 8)) (r0 : ¬ c0 < 0 ∧ ¬ (65535 : Int32) < c0) (r1 : ¬ c1 < 0 ∧ ¬ (65535 : Int32) < c1) (r2 : ¬ c2 < 0 ∧ ¬ (65535 : Int32) < c2) (s0 : ¬ (255 : Int32) < c0) (s1 : ¬ (255 : Int32) < c1) (s2 : (255 : Int32) < c2) :
    CtP l (⟨"java/lang/String", "<init>", "([C)V"⟩ : MethodName) jdk_42_method_3_code 2 none [] ({ frames := 5, cells := 2, slots := 9, locals := 74 } : Room) Z #[(.ref x), (.ref b)] h0 (fun v h L => ∃ (t : Addr), ∃ (kb : ClassId), v = none ∧ Fr n0 L ∧ Keep h0 h [x] ∧ h0.size ≤ t ∧ Fld Z h x "java/lang/String" "coder" "B" (.int (1 : Int32)) ∧ Fld Z h x "java/lang/String" "value" "[B" (.ref t) ∧ Arv Z h t kb .byte (6 : Int32) [(.int (StrChars.lo8 c0)), (.int (StrChars.hi8 c0)), (.int (StrChars.lo8 c1)), (.int (StrChars.hi8 c1)), (.int (StrChars.lo8 c2)), (.int (StrChars.hi8 c2))] (.int 0)) := by
  refine CtP.walk (Ls := #[.val (.ref x), .val (.ref b)]) own_pn2 (fun m => by first | (simp [entryFrame, mkF, argsToLocals, Value.category]; done) | rfl) ?_
  intro p e s m below meth cc_ T hx hby hml hown hnm hret hlk hZ X eT
  have N := Fr.nil n0
  have K0 := Keep.refl h0 [x]
  have sz_h : h0.size ≤ h0.size := Nat.le_refl _
  refine galoadN (v := (.ref x)) X hx 1 (hb hby own_d2_0) rfl rfl rfl ?_
  refine galoadN (v := (.ref b)) X hx 2 (hb hby own_d2_1) rfl rfl rfl ?_
  refine giconst X hx (0 : Int32) 3 (hb hby own_d2_2) rfl rfl ?_
  refine galoadN (v := (.ref b)) X hx 4 (hb hby own_d2_3) rfl rfl rfl ?_
  refine garrlen X hx hZ eT P4_Arv 5 (hb hby own_d2_4) rfl ?_
  refine gaconstNull X hx 6 (hb hby own_d2_5) rfl ?_
  refine gspecial (y := (⟨"java/lang/String", "<init>", "([CIILjava/lang/Void;)V"⟩ : MethodName)) (a := x) (argsL := [(.ref b), (.int (0 : Int32)), (.int (3 : Int32)), .null]) (st := []) X hx hZ hown rfl (own_w13 hw) (own_w14 hw) (own_w16 hw) (by decide) (payP (W := 0) (rmI4_3_2 l Z a0 hw (x) (b) (kc) (y0) (y1) _ (c0) (c1) (c2) h0 n0 (Nat.le_trans Z0 sz_h) ge_x P0_Old P1_Exa P2_Fld P3_Fld P4_Arv (O2) (P5) (SA) (SH) (SLo) (r0) (r1) (r2) (s0) (s1) (s2)) hZ (own_w16 hw) (own_w9 hw) (by decide) (by decide)) eT (by rw [hml]; rfl) (lenOf own_pd7 rfl) rfl (Nat.le_of_eq rfl) 2 9 rfl rfl (by decide) (by decide) 9 (hb hby own_d2_6) rfl ?_
  clear X eT; clear T; intro v T h1 L2 Lc X eT hL hQ2
  obtain ⟨t_3, kb_4, rfl, Nq, K5, zz_t_3, G7, G8, G9⟩ := hQ2
  replace N : Fr n0 L2 := by rw [hL]; exact Fr.app N Nq
  clear Nq hL
  have ne_x_t_3 : x ≠ t_3 := Nat.ne_of_lt (Nat.lt_of_lt_of_le P1_Exa.lt zz_t_3)
  have ne_t_3_x : t_3 ≠ x := Ne.symm ne_x_t_3
  have ne_b_t_3 : b ≠ t_3 := Nat.ne_of_lt (Nat.lt_of_lt_of_le P4_Arv.lt zz_t_3)
  have ne_t_3_b : t_3 ≠ b := Ne.symm ne_b_t_3
  have sz_t_3 : h0.size ≤ t_3 := Nat.le_trans sz_h zz_t_3
  have ge_t_3 : n0 ≤ t_3 := Nat.le_trans Z0 sz_t_3
  have ne_b_x : b ≠ x := Ne.symm (Exa.neArv P1_Exa P4_Arv (own_w8 hw))
  replace P0_Old := P0_Old.keep K5 (allS ge_x all0)
  replace P1_Exa := P1_Exa.keep K5
  replace P4_Arv := P4_Arv.keep K5 (ninS ne_b_x nin0)
  replace K0 := K0.trans K5 (allS (Or.inl (List.mem_of_getElem? (i := 0) rfl)) all0)
  replace sz_h : h0.size ≤ h1.size := Nat.le_trans sz_h K5.1
  show Go p e below _ T (mkF m 9 #[.val (.ref x), .val (.ref b)] [])
  exact gRetP0 X hx hlk hret (hb hby own_d2_9) eT (by decide) (by decide) ⟨t_3, kb_4, rfl, N, K0, sz_t_3, G7, G8, G9⟩
set_option maxRecDepth 65536 in
set_option maxHeartbeats 40000000 in
theorem rm16 (l : Launch) (Z : State) (a0 : Array Value) (hw : ∀ d ∈ tables_1, d.before a0 Z = true) (i0 : Int32) (i1 : Int32) (G3 : Value) (h0 : Heap) (n0 : Nat) (Z0 : n0 ≤ h0.size) (rG3 : G3.isRef = true) (h0_ : ¬ i0 < 0) (h1_ : i0 < i1) :
    CtP l (⟨"jdk/internal/util/Preconditions", "checkIndex", "(IILjava/util/function/BiFunction;)I"⟩ : MethodName) jdk_41_method_11_code 3 (some .int) [] ({ frames := 0, cells := 0, slots := 0, locals := 0 } : Room) Z #[(.int i0), (.int i1), G3] h0 (fun v h L => v = some (.int i0) ∧ Fr n0 L ∧ h = h0) := by
  refine CtP.walk (Ls := #[.val (.int i0), .val (.int i1), .val G3]) (plainFor_of_name own_pn3) (fun m => by rcases ref_cases rG3 with rfl | ⟨_, rfl⟩ <;> rfl) ?_
  intro p e s m below meth cc_ T hx hby hml hown hnm hret hlk hZ X eT
  have N := Fr.nil n0
  have sz_h : h0.size ≤ h0.size := Nat.le_refl _
  refine giloadN (v := i0) X hx 1 (hb hby own_d16_0) rfl rfl ?_
  refine gifNo X hx 4 (hb hby own_d16_1) rfl ((if0 _ _).trans (flt h0_).1) ?_
  refine giloadN (v := i0) X hx 5 (hb hby own_d16_4) rfl rfl ?_
  refine giloadN (v := i1) X hx 6 (hb hby own_d16_5) rfl rfl ?_
  refine gicmpYes X hx 16 (hb hby own_d16_6) (tlt h1_).1 (by decide) (by decide) ?_
  refine giloadN (v := i0) X hx 17 (hb hby own_d16_16) rfl rfl ?_
  exact gRetP X hx hlk hret rfl (Or.inl ⟨rfl, by simp, _, rfl⟩) (hb hby own_d16_17) eT (by decide) (by decide) ⟨rfl, N, rfl⟩
set_option maxRecDepth 65536 in
set_option maxHeartbeats 40000000 in
theorem rm15 (l : Launch) (Z : State) (a0 : Array Value) (hw : ∀ d ∈ tables_1, d.before a0 Z = true) (i0 : Int32) (i1 : Int32) (G3 : Value) (h0 : Heap) (n0 : Nat) (Z0 : n0 ≤ h0.size) (P0_Old : Old Z n0 h0) (O4 : Sta Z Z.heap "jdk/internal/util/Preconditions" "SIOOBE_FORMATTER" "Ljava/util/function/BiFunction;" G3) (rG3 : G3.isRef = true) (h0_ : ¬ i0 < 0) (h1_ : i0 < i1) :
    CtP l (⟨"java/lang/String", "checkIndex", "(II)V"⟩ : MethodName) jdk_42_method_155_code 2 none [] ({ frames := 1, cells := 0, slots := 0, locals := 14 } : Room) Z #[(.int i0), (.int i1)] h0 (fun v h L => v = none ∧ Fr n0 L ∧ h = h0) := by
  refine CtP.walk (Ls := #[.val (.int i0), .val (.int i1)]) own_pn4 (fun m => by rcases ref_cases rG3 with rfl | ⟨_, rfl⟩ <;> rfl) ?_
  intro p e s m below meth cc_ T hx hby hml hown hnm hret hlk hZ X eT
  have N := Fr.nil n0
  have sz_h : h0.size ≤ h0.size := Nat.le_refl _
  refine giloadN (v := i0) X hx 1 (hb hby own_d15_0) rfl rfl ?_
  refine giloadN (v := i1) X hx 2 (hb hby own_d15_1) rfl rfl ?_
  refine ggetS X hx hZ (host := "") hown (Or.inl (own_w77 hw)) Via.refl eT (O4.ext P0_Old.2) 5 (hb hby own_d15_2) rfl ?_
  clear X eT; clear T; intro T X eT
  refine gstatic (y := (⟨"jdk/internal/util/Preconditions", "checkIndex", "(IILjava/util/function/BiFunction;)I"⟩ : MethodName)) (argsL := [(.int i0), (.int i1), G3]) (st := []) X hx hZ hown (own_w79 hw) (own_w80 hw) (own_w78 hw) (own_w81 hw) (by decide) (payP (W := 0) (rm16 l Z a0 hw (i0) (i1) (G3) h0 n0 (Nat.le_trans Z0 sz_h) (rG3) (h0_) (h1_)) hZ (own_w81 hw) (own_w78 hw) (by decide) (by decide)) eT (by rw [hml]; rfl) (lenOf own_pd8 rfl) rfl (Nat.le_of_eq rfl) 0 0 rfl rfl (by decide) (by decide) 8 (hb hby own_d15_5) rfl ?_
  clear X eT; clear T; intro v T h1 L2 Lc X eT hL hQ2
  obtain ⟨rfl, Nq, hh⟩ := hQ2
  replace N : Fr n0 L2 := by rw [hL]; exact Fr.app N Nq
  clear Nq hL
  replace hh := hh.symm; subst hh
  show Go p e below _ T (mkF m 8 #[.val (.int i0), .val (.int i1)] [(.int i0)])
  refine gpop X hx 9 (hb hby own_d15_8) rfl rfl ?_
  exact gRetP0 X hx hlk hret (hb hby own_d15_9) eT (by decide) (by decide) ⟨rfl, N, rfl⟩
set_option maxRecDepth 65536 in
set_option maxHeartbeats 40000000 in
theorem rm13 (l : Launch) (Z : State) (a0 : Array Value) (hw : ∀ d ∈ tables_1, d.before a0 Z = true) (x : Addr) (G1 : Int32) (h0 : Heap) (n0 : Nat) (Z0 : n0 ≤ h0.size) (P0_Old : Old Z n0 h0) (P1_Fld : Fld Z h0 x "java/lang/String" "coder" "B" (.int (1 : Int32))) (O2 : Sta Z Z.heap "java/lang/String" "COMPACT_STRINGS" "Z" (.int G1)) (P5 : ¬ G1 = (0 : Int32)) :
    CtP l (⟨"java/lang/String", "isLatin1", "()Z"⟩ : MethodName) jdk_42_method_154_code 1 (some .boolean) [] ({ frames := 0, cells := 0, slots := 0, locals := 0 } : Room) Z #[(.ref x)] h0 (fun v h L => v = some (.int (0 : Int32)) ∧ Fr n0 L ∧ h = h0) := by
  refine CtP.walk (Ls := #[.val (.ref x)]) own_pn5 (fun m => by first | (simp [entryFrame, mkF, argsToLocals, Value.category]; done) | rfl) ?_
  intro p e s m below meth cc_ T hx hby hml hown hnm hret hlk hZ X eT
  have N := Fr.nil n0
  have sz_h : h0.size ≤ h0.size := Nat.le_refl _
  refine ggetS X hx hZ (host := "") hown (Or.inl (own_w20 hw)) Via.refl eT (O2.ext P0_Old.2) 3 (hb hby own_d13_0) rfl ?_
  clear X eT; clear T; intro T X eT
  refine gifNo X hx 6 (hb hby own_d13_3) rfl ((if0 _ _).trans (feq P5).1) ?_
  refine galoadN (v := (.ref x)) X hx 7 (hb hby own_d13_6) rfl rfl rfl ?_
  refine ggetF X hx hZ (host := "") hown (Or.inl (own_w32 hw)) Via.refl eT P1_Fld 10 (hb hby own_d13_7) rfl ?_
  clear X eT; clear T; intro T X eT
  refine gifYes X hx 17 (hb hby own_d13_10) (by decide) (by decide) (by decide) ?_
  refine giconst X hx (0 : Int32) 18 (hb hby own_d13_17) rfl rfl ?_
  exact gRetP X hx hlk hret rfl (Or.inl ⟨rfl, by simp, _, rfl⟩) (hb hby own_d13_18) eT (by decide) (by decide) ⟨rfl, N, rfl⟩
set_option maxRecDepth 65536 in
set_option maxHeartbeats 40000000 in
theorem rmUL1 (l : Launch) (Z : State) (a0 : Array Value) (hw : ∀ d ∈ tables_1, d.before a0 Z = true) (t : Addr) (kb : ClassId) (vs0 : List Value) (h0 : Heap) (n0 : Nat) (Z0 : n0 ≤ h0.size) (P0_Arv : Arv Z h0 t kb .byte (2 : Int32) vs0 (.int 0)) :
    CtP l (⟨"java/lang/StringUTF16", "length", "([B)I"⟩ : MethodName) jdk_52_method_6_code 1 (some .int) [] ({ frames := 0, cells := 0, slots := 0, locals := 0 } : Room) Z #[(.ref t)] h0 (fun v h L => v = some (.int (1 : Int32)) ∧ Fr n0 L ∧ h = h0) := by
  refine CtP.walk (Ls := #[.val (.ref t)]) (plainFor_of_name own_pn0) (fun m => by first | (simp [entryFrame, mkF, argsToLocals, Value.category]; done) | rfl) ?_
  intro p e s m below meth cc_ T hx hby hml hown hnm hret hlk hZ X eT
  have N := Fr.nil n0
  have sz_h : h0.size ≤ h0.size := Nat.le_refl _
  refine galoadN (v := (.ref t)) X hx 1 (hb hby own_d25_0) rfl rfl rfl ?_
  refine garrlen X hx hZ eT P0_Arv 2 (hb hby own_d25_1) rfl ?_
  refine giconst X hx (1 : Int32) 3 (hb hby own_d25_2) rfl rfl ?_
  refine gishr X hx 4 (hb hby own_d25_3) rfl ?_
  rw [show ((2 : Int32) >>> ((1 : Int32) &&& 31)) = (1 : Int32) from by decide]
  exact gRetP X hx hlk hret rfl (Or.inl ⟨rfl, by simp, _, rfl⟩) (hb hby own_d25_4) eT (by decide) (by decide) ⟨rfl, N, rfl⟩
set_option maxRecDepth 65536 in
set_option maxHeartbeats 40000000 in
theorem rmUC1_0 (l : Launch) (Z : State) (a0 : Array Value) (hw : ∀ d ∈ tables_1, d.before a0 Z = true) (t : Addr) (kb : ClassId) (vs0 : List Value) (G3 : Value) (h0 : Heap) (n0 : Nat) (Z0 : n0 ≤ h0.size) (P0_Old : Old Z n0 h0) (P1_Arv : Arv Z h0 t kb .byte (2 : Int32) vs0 (.int 0)) (O4 : Sta Z Z.heap "jdk/internal/util/Preconditions" "SIOOBE_FORMATTER" "Ljava/util/function/BiFunction;" G3) (rG3 : G3.isRef = true) :
    CtP l (⟨"java/lang/StringUTF16", "checkIndex", "(I[B)V"⟩ : MethodName) jdk_52_method_91_code 2 none [] ({ frames := 2, cells := 0, slots := 0, locals := 27 } : Room) Z #[(.int (0 : Int32)), (.ref t)] h0 (fun v h L => v = none ∧ Fr n0 L ∧ h = h0) := by
  refine CtP.walk (Ls := #[.val (.int (0 : Int32)), .val (.ref t)]) (plainFor_of_name own_pn0) (fun m => by rcases ref_cases rG3 with rfl | ⟨_, rfl⟩ <;> rfl) ?_
  intro p e s m below meth cc_ T hx hby hml hown hnm hret hlk hZ X eT
  have N := Fr.nil n0
  have sz_h : h0.size ≤ h0.size := Nat.le_refl _
  refine giloadN (v := (0 : Int32)) X hx 1 (hb hby own_d24_0) rfl rfl ?_
  refine galoadN (v := (.ref t)) X hx 2 (hb hby own_d24_1) rfl rfl rfl ?_
  refine gstatic (y := (⟨"java/lang/StringUTF16", "length", "([B)I"⟩ : MethodName)) (argsL := [(.ref t)]) (st := [(.int (0 : Int32))]) X hx hZ hown (own_w113 hw) (own_w114 hw) (own_w23 hw) (own_w115 hw) (by decide) (payP (W := 1) (rmUL1 l Z a0 hw (t) (kb) (vs0) h0 n0 (Nat.le_trans Z0 sz_h) P1_Arv) hZ (own_w115 hw) (own_w23 hw) (by decide) (by decide)) eT (by rw [hml]; rfl) (lenOf own_pd9 rfl) rfl (Nat.le_of_eq rfl) 0 0 rfl rfl (by decide) (by decide) 5 (hb hby own_d24_2) rfl ?_
  clear X eT; clear T; intro v T h1 L2 Lc X eT hL hQ2
  obtain ⟨rfl, Nq, hh⟩ := hQ2
  replace N : Fr n0 L2 := by rw [hL]; exact Fr.app N Nq
  clear Nq hL
  replace hh := hh.symm; subst hh
  show Go p e below _ T (mkF m 5 #[.val (.int (0 : Int32)), .val (.ref t)] [(.int (1 : Int32)), (.int (0 : Int32))])
  refine gstatic (y := (⟨"java/lang/String", "checkIndex", "(II)V"⟩ : MethodName)) (argsL := [(.int (0 : Int32)), (.int (1 : Int32))]) (st := []) X hx hZ hown (own_w116 hw) (own_w75 hw) (own_w9 hw) (own_w76 hw) (by decide) (payP (W := 0) (rm15 l Z a0 hw ((0 : Int32)) ((1 : Int32)) (G3) h0 n0 (Nat.le_trans Z0 sz_h) P0_Old (O4) (rG3) (by decide) (by decide)) hZ (own_w76 hw) (own_w9 hw) (by decide) (by decide)) eT (by rw [hml]; rfl) (lenOf own_pd10 rfl) rfl (Nat.le_of_eq rfl) 0 0 rfl rfl (by decide) (by decide) 8 (hb hby own_d24_5) rfl ?_
  clear X eT; clear T; intro v T h5 L2 Lc X eT hL hQ6
  obtain ⟨rfl, Nq, hh⟩ := hQ6
  replace N : Fr n0 L2 := by rw [hL]; exact Fr.app N Nq
  clear Nq hL
  replace hh := hh.symm; subst hh
  show Go p e below _ T (mkF m 8 #[.val (.int (0 : Int32)), .val (.ref t)] [])
  exact gRetP0 X hx hlk hret (hb hby own_d24_8) eT (by decide) (by decide) ⟨rfl, N, rfl⟩
set_option maxRecDepth 65536 in
set_option maxHeartbeats 40000000 in
theorem rmUCA1_0 (l : Launch) (Z : State) (a0 : Array Value) (hw : ∀ d ∈ tables_1, d.before a0 Z = true) (t : Addr) (kb : ClassId) (G3 : Value) (c0 : Int32) (h0 : Heap) (n0 : Nat) (Z0 : n0 ≤ h0.size) (P0_Old : Old Z n0 h0) (P1_Arv : Arv Z h0 t kb .byte (2 : Int32) [(.int (StrChars.lo8 c0)), (.int (StrChars.hi8 c0))] (.int 0)) (O4 : Sta Z Z.heap "jdk/internal/util/Preconditions" "SIOOBE_FORMATTER" "Ljava/util/function/BiFunction;" G3) (rG3 : G3.isRef = true) (SA : Sta Z Z.heap "java/lang/StringUTF16" "$assertionsDisabled" "Z" (.int 1)) (SH : Sta Z Z.heap "java/lang/StringUTF16" "HI_BYTE_SHIFT" "I" (.int 0)) (SLo : Sta Z Z.heap "java/lang/StringUTF16" "LO_BYTE_SHIFT" "I" (.int 8)) (r0 : ¬ c0 < 0 ∧ ¬ (65535 : Int32) < c0) :
    CtP l (⟨"java/lang/StringUTF16", "charAt", "([BI)C"⟩ : MethodName) jdk_52_method_83_code 2 (some .char) [] ({ frames := 3, cells := 0, slots := 0, locals := 40 } : Room) Z #[(.ref t), (.int (0 : Int32))] h0 (fun v h L => v = some (.int c0) ∧ Fr n0 L ∧ h = h0) := by
  refine CtP.walk (Ls := #[.val (.ref t), .val (.int (0 : Int32))]) (plainFor_of_name own_pn0) (fun m => by rcases ref_cases rG3 with rfl | ⟨_, rfl⟩ <;> rfl) ?_
  intro p e s m below meth cc_ T hx hby hml hown hnm hret hlk hZ X eT
  have N := Fr.nil n0
  have sz_h : h0.size ≤ h0.size := Nat.le_refl _
  refine giloadN (v := (0 : Int32)) X hx 1 (hb hby own_d23_0) rfl rfl ?_
  refine galoadN (v := (.ref t)) X hx 2 (hb hby own_d23_1) rfl rfl rfl ?_
  refine gstatic (y := (⟨"java/lang/StringUTF16", "checkIndex", "(I[B)V"⟩ : MethodName)) (argsL := [(.int (0 : Int32)), (.ref t)]) (st := []) X hx hZ hown (own_w110 hw) (own_w111 hw) (own_w23 hw) (own_w112 hw) (by decide) (payP (W := 0) (rmUC1_0 l Z a0 hw (t) (kb) ([(.int (StrChars.lo8 c0)), (.int (StrChars.hi8 c0))]) (G3) h0 n0 (Nat.le_trans Z0 sz_h) P0_Old P1_Arv (O4) (rG3)) hZ (own_w112 hw) (own_w23 hw) (by decide) (by decide)) eT (by rw [hml]; rfl) (lenOf own_pd11 rfl) rfl (Nat.le_of_eq rfl) 0 0 rfl rfl (by decide) (by decide) 5 (hb hby own_d23_2) rfl ?_
  clear X eT; clear T; intro v T h1 L2 Lc X eT hL hQ2
  obtain ⟨rfl, Nq, hh⟩ := hQ2
  replace N : Fr n0 L2 := by rw [hL]; exact Fr.app N Nq
  clear Nq hL
  replace hh := hh.symm; subst hh
  show Go p e below _ T (mkF m 5 #[.val (.ref t), .val (.int (0 : Int32))] [])
  refine galoadN (v := (.ref t)) X hx 6 (hb hby own_d23_5) rfl rfl rfl ?_
  refine giloadN (v := (0 : Int32)) X hx 7 (hb hby own_d23_6) rfl rfl ?_
  refine gstatic (y := (⟨"java/lang/StringUTF16", "getChar", "([BI)C"⟩ : MethodName)) (argsL := [(.ref t), (.int (0 : Int32))]) (st := []) X hx hZ hown (own_w104 hw) (own_w105 hw) (own_w23 hw) (own_w106 hw) (by decide) (payP (W := 0) (rmGet1_0 l Z a0 hw (t) (kb) _ h0 n0 (Nat.le_trans Z0 sz_h) P0_Old P1_Arv (SA) (SH) (SLo) (r0)) hZ (own_w106 hw) (own_w23 hw) (by decide) (by decide)) eT (by rw [hml]; rfl) (lenOf own_pd5 rfl) rfl (Nat.le_of_eq rfl) 0 0 rfl rfl (by decide) (by decide) 10 (hb hby own_d23_7) rfl ?_
  clear X eT; clear T; intro v T h5 L2 Lc X eT hL hQ6
  obtain ⟨rfl, Nq, hh⟩ := hQ6
  replace N : Fr n0 L2 := by rw [hL]; exact Fr.app N Nq
  clear Nq hL
  replace hh := hh.symm; subst hh
  show Go p e below _ T (mkF m 10 #[.val (.ref t), .val (.int (0 : Int32))] [(.int c0)])
  exact gRetP X hx hlk hret (own_narrow r0) (Or.inl ⟨rfl, by simp, _, rfl⟩) (hb hby own_d23_10) eT (by decide) (by decide) ⟨rfl, N, rfl⟩
set_option maxRecDepth 65536 in
set_option maxHeartbeats 40000000 in
theorem rmSCA1_0 (l : Launch) (Z : State) (a0 : Array Value) (hw : ∀ d ∈ tables_1, d.before a0 Z = true) (x : Addr) (t : Addr) (kb : ClassId) (G1 : Int32) (G3 : Value) (c0 : Int32) (h0 : Heap) (n0 : Nat) (Z0 : n0 ≤ h0.size) (P0_Old : Old Z n0 h0) (P1_Exa : Exa Z h0 x "java/lang/String") (P2_Fld : Fld Z h0 x "java/lang/String" "coder" "B" (.int (1 : Int32))) (P3_Fld : Fld Z h0 x "java/lang/String" "value" "[B" (.ref t)) (P4_Arv : Arv Z h0 t kb .byte (2 : Int32) [(.int (StrChars.lo8 c0)), (.int (StrChars.hi8 c0))] (.int 0)) (O2 : Sta Z Z.heap "java/lang/String" "COMPACT_STRINGS" "Z" (.int G1)) (P5 : ¬ G1 = (0 : Int32)) (O4 : Sta Z Z.heap "jdk/internal/util/Preconditions" "SIOOBE_FORMATTER" "Ljava/util/function/BiFunction;" G3) (rG3 : G3.isRef = true) (SA : Sta Z Z.heap "java/lang/StringUTF16" "$assertionsDisabled" "Z" (.int 1)) (SH : Sta Z Z.heap "java/lang/StringUTF16" "HI_BYTE_SHIFT" "I" (.int 0)) (SLo : Sta Z Z.heap "java/lang/StringUTF16" "LO_BYTE_SHIFT" "I" (.int 8)) (r0 : ¬ c0 < 0 ∧ ¬ (65535 : Int32) < c0) :
    CtP l (⟨"java/lang/String", "charAt", "(I)C"⟩ : MethodName) jdk_42_method_56_code 2 (some .char) [] ({ frames := 4, cells := 0, slots := 0, locals := 53 } : Room) Z #[(.ref x), (.int (0 : Int32))] h0 (fun v h L => v = some (.int c0) ∧ Fr n0 L ∧ h = h0) := by
  refine CtP.walk (Ls := #[.val (.ref x), .val (.int (0 : Int32))]) own_pn6 (fun m => by rcases ref_cases rG3 with rfl | ⟨_, rfl⟩ <;> rfl) ?_
  intro p e s m below meth cc_ T hx hby hml hown hnm hret hlk hZ X eT
  have N := Fr.nil n0
  have sz_h : h0.size ≤ h0.size := Nat.le_refl _
  refine galoadN (v := (.ref x)) X hx 1 (hb hby own_d12_0) rfl rfl rfl ?_
  refine gvirtual (y := (⟨"java/lang/String", "isLatin1", "()Z"⟩ : MethodName)) (z := (⟨"java/lang/String", "isLatin1", "()Z"⟩ : MethodName)) (a := x) (argsL := []) (st := []) X hx hZ hown (own_w65 hw) (own_w66 hw) (notFace_of_selects (args := #[]) (mvT hZ (own_w68 hw))) (own_w68 hw) (own_w67 hw) (by decide) P1_Exa (payP (W := 0) (rm13 l Z a0 hw (x) (G1) h0 n0 (Nat.le_trans Z0 sz_h) P0_Old P2_Fld (O2) (P5)) hZ (own_w69 hw) (own_w9 hw) (by decide) (by decide)) eT (by rw [hml]; rfl) (lenOf own_pd12 rfl) rfl (Nat.le_of_eq rfl) 0 0 rfl rfl (by decide) (by decide) 4 (hb hby own_d12_1) rfl ?_
  clear X eT; clear T; intro v T h1 L2 Lc X eT hL hQ2
  obtain ⟨rfl, Nq, hh⟩ := hQ2
  replace N : Fr n0 L2 := by rw [hL]; exact Fr.app N Nq
  clear Nq hL
  replace hh := hh.symm; subst hh
  show Go p e below _ T (mkF m 4 #[.val (.ref x), .val (.int (0 : Int32))] [(.int (0 : Int32))])
  refine gifYes X hx 16 (hb hby own_d12_4) (by decide) (by decide) (by decide) ?_
  refine galoadN (v := (.ref x)) X hx 17 (hb hby own_d12_16) rfl rfl rfl ?_
  refine ggetF X hx hZ (host := "") hown (Or.inl (own_w34 hw)) Via.refl eT P3_Fld 20 (hb hby own_d12_17) rfl ?_
  clear X eT; clear T; intro T X eT
  refine giloadN (v := (0 : Int32)) X hx 21 (hb hby own_d12_20) rfl rfl ?_
  refine gstatic (y := (⟨"java/lang/StringUTF16", "charAt", "([BI)C"⟩ : MethodName)) (argsL := [(.ref t), (.int (0 : Int32))]) (st := []) X hx hZ hown (own_w107 hw) (own_w108 hw) (own_w23 hw) (own_w109 hw) (by decide) (payP (W := 0) (rmUCA1_0 l Z a0 hw (t) (kb) (G3) _ h0 n0 (Nat.le_trans Z0 sz_h) P0_Old P4_Arv (O4) (rG3) (SA) (SH) (SLo) (r0)) hZ (own_w109 hw) (own_w23 hw) (by decide) (by decide)) eT (by rw [hml]; rfl) (lenOf own_pd5 rfl) rfl (Nat.le_of_eq rfl) 0 0 rfl rfl (by decide) (by decide) 24 (hb hby own_d12_21) rfl ?_
  clear X eT; clear T; intro v T h5 L2 Lc X eT hL hQ6
  obtain ⟨rfl, Nq, hh⟩ := hQ6
  replace N : Fr n0 L2 := by rw [hL]; exact Fr.app N Nq
  clear Nq hL
  replace hh := hh.symm; subst hh
  show Go p e below _ T (mkF m 24 #[.val (.ref x), .val (.int (0 : Int32))] [(.int c0)])
  exact gRetP X hx hlk hret (own_narrow r0) (Or.inl ⟨rfl, by simp, _, rfl⟩) (hb hby own_d12_24) eT (by decide) (by decide) ⟨rfl, N, rfl⟩
set_option maxRecDepth 65536 in
set_option maxHeartbeats 40000000 in
theorem rmUL2 (l : Launch) (Z : State) (a0 : Array Value) (hw : ∀ d ∈ tables_1, d.before a0 Z = true) (t : Addr) (kb : ClassId) (vs0 : List Value) (h0 : Heap) (n0 : Nat) (Z0 : n0 ≤ h0.size) (P0_Arv : Arv Z h0 t kb .byte (4 : Int32) vs0 (.int 0)) :
    CtP l (⟨"java/lang/StringUTF16", "length", "([B)I"⟩ : MethodName) jdk_52_method_6_code 1 (some .int) [] ({ frames := 0, cells := 0, slots := 0, locals := 0 } : Room) Z #[(.ref t)] h0 (fun v h L => v = some (.int (2 : Int32)) ∧ Fr n0 L ∧ h = h0) := by
  refine CtP.walk (Ls := #[.val (.ref t)]) (plainFor_of_name own_pn0) (fun m => by first | (simp [entryFrame, mkF, argsToLocals, Value.category]; done) | rfl) ?_
  intro p e s m below meth cc_ T hx hby hml hown hnm hret hlk hZ X eT
  have N := Fr.nil n0
  have sz_h : h0.size ≤ h0.size := Nat.le_refl _
  refine galoadN (v := (.ref t)) X hx 1 (hb hby own_d25_0) rfl rfl rfl ?_
  refine garrlen X hx hZ eT P0_Arv 2 (hb hby own_d25_1) rfl ?_
  refine giconst X hx (1 : Int32) 3 (hb hby own_d25_2) rfl rfl ?_
  refine gishr X hx 4 (hb hby own_d25_3) rfl ?_
  rw [show ((4 : Int32) >>> ((1 : Int32) &&& 31)) = (2 : Int32) from by decide]
  exact gRetP X hx hlk hret rfl (Or.inl ⟨rfl, by simp, _, rfl⟩) (hb hby own_d25_4) eT (by decide) (by decide) ⟨rfl, N, rfl⟩
set_option maxRecDepth 65536 in
set_option maxHeartbeats 40000000 in
theorem rmUC2_0 (l : Launch) (Z : State) (a0 : Array Value) (hw : ∀ d ∈ tables_1, d.before a0 Z = true) (t : Addr) (kb : ClassId) (vs0 : List Value) (G3 : Value) (h0 : Heap) (n0 : Nat) (Z0 : n0 ≤ h0.size) (P0_Old : Old Z n0 h0) (P1_Arv : Arv Z h0 t kb .byte (4 : Int32) vs0 (.int 0)) (O4 : Sta Z Z.heap "jdk/internal/util/Preconditions" "SIOOBE_FORMATTER" "Ljava/util/function/BiFunction;" G3) (rG3 : G3.isRef = true) :
    CtP l (⟨"java/lang/StringUTF16", "checkIndex", "(I[B)V"⟩ : MethodName) jdk_52_method_91_code 2 none [] ({ frames := 2, cells := 0, slots := 0, locals := 27 } : Room) Z #[(.int (0 : Int32)), (.ref t)] h0 (fun v h L => v = none ∧ Fr n0 L ∧ h = h0) := by
  refine CtP.walk (Ls := #[.val (.int (0 : Int32)), .val (.ref t)]) (plainFor_of_name own_pn0) (fun m => by rcases ref_cases rG3 with rfl | ⟨_, rfl⟩ <;> rfl) ?_
  intro p e s m below meth cc_ T hx hby hml hown hnm hret hlk hZ X eT
  have N := Fr.nil n0
  have sz_h : h0.size ≤ h0.size := Nat.le_refl _
  refine giloadN (v := (0 : Int32)) X hx 1 (hb hby own_d24_0) rfl rfl ?_
  refine galoadN (v := (.ref t)) X hx 2 (hb hby own_d24_1) rfl rfl rfl ?_
  refine gstatic (y := (⟨"java/lang/StringUTF16", "length", "([B)I"⟩ : MethodName)) (argsL := [(.ref t)]) (st := [(.int (0 : Int32))]) X hx hZ hown (own_w113 hw) (own_w114 hw) (own_w23 hw) (own_w115 hw) (by decide) (payP (W := 1) (rmUL2 l Z a0 hw (t) (kb) (vs0) h0 n0 (Nat.le_trans Z0 sz_h) P1_Arv) hZ (own_w115 hw) (own_w23 hw) (by decide) (by decide)) eT (by rw [hml]; rfl) (lenOf own_pd9 rfl) rfl (Nat.le_of_eq rfl) 0 0 rfl rfl (by decide) (by decide) 5 (hb hby own_d24_2) rfl ?_
  clear X eT; clear T; intro v T h1 L2 Lc X eT hL hQ2
  obtain ⟨rfl, Nq, hh⟩ := hQ2
  replace N : Fr n0 L2 := by rw [hL]; exact Fr.app N Nq
  clear Nq hL
  replace hh := hh.symm; subst hh
  show Go p e below _ T (mkF m 5 #[.val (.int (0 : Int32)), .val (.ref t)] [(.int (2 : Int32)), (.int (0 : Int32))])
  refine gstatic (y := (⟨"java/lang/String", "checkIndex", "(II)V"⟩ : MethodName)) (argsL := [(.int (0 : Int32)), (.int (2 : Int32))]) (st := []) X hx hZ hown (own_w116 hw) (own_w75 hw) (own_w9 hw) (own_w76 hw) (by decide) (payP (W := 0) (rm15 l Z a0 hw ((0 : Int32)) ((2 : Int32)) (G3) h0 n0 (Nat.le_trans Z0 sz_h) P0_Old (O4) (rG3) (by decide) (by decide)) hZ (own_w76 hw) (own_w9 hw) (by decide) (by decide)) eT (by rw [hml]; rfl) (lenOf own_pd10 rfl) rfl (Nat.le_of_eq rfl) 0 0 rfl rfl (by decide) (by decide) 8 (hb hby own_d24_5) rfl ?_
  clear X eT; clear T; intro v T h5 L2 Lc X eT hL hQ6
  obtain ⟨rfl, Nq, hh⟩ := hQ6
  replace N : Fr n0 L2 := by rw [hL]; exact Fr.app N Nq
  clear Nq hL
  replace hh := hh.symm; subst hh
  show Go p e below _ T (mkF m 8 #[.val (.int (0 : Int32)), .val (.ref t)] [])
  exact gRetP0 X hx hlk hret (hb hby own_d24_8) eT (by decide) (by decide) ⟨rfl, N, rfl⟩
set_option maxRecDepth 65536 in
set_option maxHeartbeats 40000000 in
theorem rmUCA2_0 (l : Launch) (Z : State) (a0 : Array Value) (hw : ∀ d ∈ tables_1, d.before a0 Z = true) (t : Addr) (kb : ClassId) (G3 : Value) (c0 : Int32) (c1 : Int32) (h0 : Heap) (n0 : Nat) (Z0 : n0 ≤ h0.size) (P0_Old : Old Z n0 h0) (P1_Arv : Arv Z h0 t kb .byte (4 : Int32) [(.int (StrChars.lo8 c0)), (.int (StrChars.hi8 c0)), (.int (StrChars.lo8 c1)), (.int (StrChars.hi8 c1))] (.int 0)) (O4 : Sta Z Z.heap "jdk/internal/util/Preconditions" "SIOOBE_FORMATTER" "Ljava/util/function/BiFunction;" G3) (rG3 : G3.isRef = true) (SA : Sta Z Z.heap "java/lang/StringUTF16" "$assertionsDisabled" "Z" (.int 1)) (SH : Sta Z Z.heap "java/lang/StringUTF16" "HI_BYTE_SHIFT" "I" (.int 0)) (SLo : Sta Z Z.heap "java/lang/StringUTF16" "LO_BYTE_SHIFT" "I" (.int 8)) (r0 : ¬ c0 < 0 ∧ ¬ (65535 : Int32) < c0) (r1 : ¬ c1 < 0 ∧ ¬ (65535 : Int32) < c1) :
    CtP l (⟨"java/lang/StringUTF16", "charAt", "([BI)C"⟩ : MethodName) jdk_52_method_83_code 2 (some .char) [] ({ frames := 3, cells := 0, slots := 0, locals := 40 } : Room) Z #[(.ref t), (.int (0 : Int32))] h0 (fun v h L => v = some (.int c0) ∧ Fr n0 L ∧ h = h0) := by
  refine CtP.walk (Ls := #[.val (.ref t), .val (.int (0 : Int32))]) (plainFor_of_name own_pn0) (fun m => by rcases ref_cases rG3 with rfl | ⟨_, rfl⟩ <;> rfl) ?_
  intro p e s m below meth cc_ T hx hby hml hown hnm hret hlk hZ X eT
  have N := Fr.nil n0
  have sz_h : h0.size ≤ h0.size := Nat.le_refl _
  refine giloadN (v := (0 : Int32)) X hx 1 (hb hby own_d23_0) rfl rfl ?_
  refine galoadN (v := (.ref t)) X hx 2 (hb hby own_d23_1) rfl rfl rfl ?_
  refine gstatic (y := (⟨"java/lang/StringUTF16", "checkIndex", "(I[B)V"⟩ : MethodName)) (argsL := [(.int (0 : Int32)), (.ref t)]) (st := []) X hx hZ hown (own_w110 hw) (own_w111 hw) (own_w23 hw) (own_w112 hw) (by decide) (payP (W := 0) (rmUC2_0 l Z a0 hw (t) (kb) ([(.int (StrChars.lo8 c0)), (.int (StrChars.hi8 c0)), (.int (StrChars.lo8 c1)), (.int (StrChars.hi8 c1))]) (G3) h0 n0 (Nat.le_trans Z0 sz_h) P0_Old P1_Arv (O4) (rG3)) hZ (own_w112 hw) (own_w23 hw) (by decide) (by decide)) eT (by rw [hml]; rfl) (lenOf own_pd11 rfl) rfl (Nat.le_of_eq rfl) 0 0 rfl rfl (by decide) (by decide) 5 (hb hby own_d23_2) rfl ?_
  clear X eT; clear T; intro v T h1 L2 Lc X eT hL hQ2
  obtain ⟨rfl, Nq, hh⟩ := hQ2
  replace N : Fr n0 L2 := by rw [hL]; exact Fr.app N Nq
  clear Nq hL
  replace hh := hh.symm; subst hh
  show Go p e below _ T (mkF m 5 #[.val (.ref t), .val (.int (0 : Int32))] [])
  refine galoadN (v := (.ref t)) X hx 6 (hb hby own_d23_5) rfl rfl rfl ?_
  refine giloadN (v := (0 : Int32)) X hx 7 (hb hby own_d23_6) rfl rfl ?_
  refine gstatic (y := (⟨"java/lang/StringUTF16", "getChar", "([BI)C"⟩ : MethodName)) (argsL := [(.ref t), (.int (0 : Int32))]) (st := []) X hx hZ hown (own_w104 hw) (own_w105 hw) (own_w23 hw) (own_w106 hw) (by decide) (payP (W := 0) (rmGet2_0 l Z a0 hw (t) (kb) _ _ h0 n0 (Nat.le_trans Z0 sz_h) P0_Old P1_Arv (SA) (SH) (SLo) (r0) (r1)) hZ (own_w106 hw) (own_w23 hw) (by decide) (by decide)) eT (by rw [hml]; rfl) (lenOf own_pd5 rfl) rfl (Nat.le_of_eq rfl) 0 0 rfl rfl (by decide) (by decide) 10 (hb hby own_d23_7) rfl ?_
  clear X eT; clear T; intro v T h5 L2 Lc X eT hL hQ6
  obtain ⟨rfl, Nq, hh⟩ := hQ6
  replace N : Fr n0 L2 := by rw [hL]; exact Fr.app N Nq
  clear Nq hL
  replace hh := hh.symm; subst hh
  show Go p e below _ T (mkF m 10 #[.val (.ref t), .val (.int (0 : Int32))] [(.int c0)])
  exact gRetP X hx hlk hret (own_narrow r0) (Or.inl ⟨rfl, by simp, _, rfl⟩) (hb hby own_d23_10) eT (by decide) (by decide) ⟨rfl, N, rfl⟩
set_option maxRecDepth 65536 in
set_option maxHeartbeats 40000000 in
theorem rmSCA2_0 (l : Launch) (Z : State) (a0 : Array Value) (hw : ∀ d ∈ tables_1, d.before a0 Z = true) (x : Addr) (t : Addr) (kb : ClassId) (G1 : Int32) (G3 : Value) (c0 : Int32) (c1 : Int32) (h0 : Heap) (n0 : Nat) (Z0 : n0 ≤ h0.size) (P0_Old : Old Z n0 h0) (P1_Exa : Exa Z h0 x "java/lang/String") (P2_Fld : Fld Z h0 x "java/lang/String" "coder" "B" (.int (1 : Int32))) (P3_Fld : Fld Z h0 x "java/lang/String" "value" "[B" (.ref t)) (P4_Arv : Arv Z h0 t kb .byte (4 : Int32) [(.int (StrChars.lo8 c0)), (.int (StrChars.hi8 c0)), (.int (StrChars.lo8 c1)), (.int (StrChars.hi8 c1))] (.int 0)) (O2 : Sta Z Z.heap "java/lang/String" "COMPACT_STRINGS" "Z" (.int G1)) (P5 : ¬ G1 = (0 : Int32)) (O4 : Sta Z Z.heap "jdk/internal/util/Preconditions" "SIOOBE_FORMATTER" "Ljava/util/function/BiFunction;" G3) (rG3 : G3.isRef = true) (SA : Sta Z Z.heap "java/lang/StringUTF16" "$assertionsDisabled" "Z" (.int 1)) (SH : Sta Z Z.heap "java/lang/StringUTF16" "HI_BYTE_SHIFT" "I" (.int 0)) (SLo : Sta Z Z.heap "java/lang/StringUTF16" "LO_BYTE_SHIFT" "I" (.int 8)) (r0 : ¬ c0 < 0 ∧ ¬ (65535 : Int32) < c0) (r1 : ¬ c1 < 0 ∧ ¬ (65535 : Int32) < c1) :
    CtP l (⟨"java/lang/String", "charAt", "(I)C"⟩ : MethodName) jdk_42_method_56_code 2 (some .char) [] ({ frames := 4, cells := 0, slots := 0, locals := 53 } : Room) Z #[(.ref x), (.int (0 : Int32))] h0 (fun v h L => v = some (.int c0) ∧ Fr n0 L ∧ h = h0) := by
  refine CtP.walk (Ls := #[.val (.ref x), .val (.int (0 : Int32))]) own_pn6 (fun m => by rcases ref_cases rG3 with rfl | ⟨_, rfl⟩ <;> rfl) ?_
  intro p e s m below meth cc_ T hx hby hml hown hnm hret hlk hZ X eT
  have N := Fr.nil n0
  have sz_h : h0.size ≤ h0.size := Nat.le_refl _
  refine galoadN (v := (.ref x)) X hx 1 (hb hby own_d12_0) rfl rfl rfl ?_
  refine gvirtual (y := (⟨"java/lang/String", "isLatin1", "()Z"⟩ : MethodName)) (z := (⟨"java/lang/String", "isLatin1", "()Z"⟩ : MethodName)) (a := x) (argsL := []) (st := []) X hx hZ hown (own_w65 hw) (own_w66 hw) (notFace_of_selects (args := #[]) (mvT hZ (own_w68 hw))) (own_w68 hw) (own_w67 hw) (by decide) P1_Exa (payP (W := 0) (rm13 l Z a0 hw (x) (G1) h0 n0 (Nat.le_trans Z0 sz_h) P0_Old P2_Fld (O2) (P5)) hZ (own_w69 hw) (own_w9 hw) (by decide) (by decide)) eT (by rw [hml]; rfl) (lenOf own_pd12 rfl) rfl (Nat.le_of_eq rfl) 0 0 rfl rfl (by decide) (by decide) 4 (hb hby own_d12_1) rfl ?_
  clear X eT; clear T; intro v T h1 L2 Lc X eT hL hQ2
  obtain ⟨rfl, Nq, hh⟩ := hQ2
  replace N : Fr n0 L2 := by rw [hL]; exact Fr.app N Nq
  clear Nq hL
  replace hh := hh.symm; subst hh
  show Go p e below _ T (mkF m 4 #[.val (.ref x), .val (.int (0 : Int32))] [(.int (0 : Int32))])
  refine gifYes X hx 16 (hb hby own_d12_4) (by decide) (by decide) (by decide) ?_
  refine galoadN (v := (.ref x)) X hx 17 (hb hby own_d12_16) rfl rfl rfl ?_
  refine ggetF X hx hZ (host := "") hown (Or.inl (own_w34 hw)) Via.refl eT P3_Fld 20 (hb hby own_d12_17) rfl ?_
  clear X eT; clear T; intro T X eT
  refine giloadN (v := (0 : Int32)) X hx 21 (hb hby own_d12_20) rfl rfl ?_
  refine gstatic (y := (⟨"java/lang/StringUTF16", "charAt", "([BI)C"⟩ : MethodName)) (argsL := [(.ref t), (.int (0 : Int32))]) (st := []) X hx hZ hown (own_w107 hw) (own_w108 hw) (own_w23 hw) (own_w109 hw) (by decide) (payP (W := 0) (rmUCA2_0 l Z a0 hw (t) (kb) (G3) _ _ h0 n0 (Nat.le_trans Z0 sz_h) P0_Old P4_Arv (O4) (rG3) (SA) (SH) (SLo) (r0) (r1)) hZ (own_w109 hw) (own_w23 hw) (by decide) (by decide)) eT (by rw [hml]; rfl) (lenOf own_pd5 rfl) rfl (Nat.le_of_eq rfl) 0 0 rfl rfl (by decide) (by decide) 24 (hb hby own_d12_21) rfl ?_
  clear X eT; clear T; intro v T h5 L2 Lc X eT hL hQ6
  obtain ⟨rfl, Nq, hh⟩ := hQ6
  replace N : Fr n0 L2 := by rw [hL]; exact Fr.app N Nq
  clear Nq hL
  replace hh := hh.symm; subst hh
  show Go p e below _ T (mkF m 24 #[.val (.ref x), .val (.int (0 : Int32))] [(.int c0)])
  exact gRetP X hx hlk hret (own_narrow r0) (Or.inl ⟨rfl, by simp, _, rfl⟩) (hb hby own_d12_24) eT (by decide) (by decide) ⟨rfl, N, rfl⟩
set_option maxRecDepth 65536 in
set_option maxHeartbeats 40000000 in
theorem rmUC2_1 (l : Launch) (Z : State) (a0 : Array Value) (hw : ∀ d ∈ tables_1, d.before a0 Z = true) (t : Addr) (kb : ClassId) (vs0 : List Value) (G3 : Value) (h0 : Heap) (n0 : Nat) (Z0 : n0 ≤ h0.size) (P0_Old : Old Z n0 h0) (P1_Arv : Arv Z h0 t kb .byte (4 : Int32) vs0 (.int 0)) (O4 : Sta Z Z.heap "jdk/internal/util/Preconditions" "SIOOBE_FORMATTER" "Ljava/util/function/BiFunction;" G3) (rG3 : G3.isRef = true) :
    CtP l (⟨"java/lang/StringUTF16", "checkIndex", "(I[B)V"⟩ : MethodName) jdk_52_method_91_code 2 none [] ({ frames := 2, cells := 0, slots := 0, locals := 27 } : Room) Z #[(.int (1 : Int32)), (.ref t)] h0 (fun v h L => v = none ∧ Fr n0 L ∧ h = h0) := by
  refine CtP.walk (Ls := #[.val (.int (1 : Int32)), .val (.ref t)]) (plainFor_of_name own_pn0) (fun m => by rcases ref_cases rG3 with rfl | ⟨_, rfl⟩ <;> rfl) ?_
  intro p e s m below meth cc_ T hx hby hml hown hnm hret hlk hZ X eT
  have N := Fr.nil n0
  have sz_h : h0.size ≤ h0.size := Nat.le_refl _
  refine giloadN (v := (1 : Int32)) X hx 1 (hb hby own_d24_0) rfl rfl ?_
  refine galoadN (v := (.ref t)) X hx 2 (hb hby own_d24_1) rfl rfl rfl ?_
  refine gstatic (y := (⟨"java/lang/StringUTF16", "length", "([B)I"⟩ : MethodName)) (argsL := [(.ref t)]) (st := [(.int (1 : Int32))]) X hx hZ hown (own_w113 hw) (own_w114 hw) (own_w23 hw) (own_w115 hw) (by decide) (payP (W := 1) (rmUL2 l Z a0 hw (t) (kb) (vs0) h0 n0 (Nat.le_trans Z0 sz_h) P1_Arv) hZ (own_w115 hw) (own_w23 hw) (by decide) (by decide)) eT (by rw [hml]; rfl) (lenOf own_pd9 rfl) rfl (Nat.le_of_eq rfl) 0 0 rfl rfl (by decide) (by decide) 5 (hb hby own_d24_2) rfl ?_
  clear X eT; clear T; intro v T h1 L2 Lc X eT hL hQ2
  obtain ⟨rfl, Nq, hh⟩ := hQ2
  replace N : Fr n0 L2 := by rw [hL]; exact Fr.app N Nq
  clear Nq hL
  replace hh := hh.symm; subst hh
  show Go p e below _ T (mkF m 5 #[.val (.int (1 : Int32)), .val (.ref t)] [(.int (2 : Int32)), (.int (1 : Int32))])
  refine gstatic (y := (⟨"java/lang/String", "checkIndex", "(II)V"⟩ : MethodName)) (argsL := [(.int (1 : Int32)), (.int (2 : Int32))]) (st := []) X hx hZ hown (own_w116 hw) (own_w75 hw) (own_w9 hw) (own_w76 hw) (by decide) (payP (W := 0) (rm15 l Z a0 hw ((1 : Int32)) ((2 : Int32)) (G3) h0 n0 (Nat.le_trans Z0 sz_h) P0_Old (O4) (rG3) (by decide) (by decide)) hZ (own_w76 hw) (own_w9 hw) (by decide) (by decide)) eT (by rw [hml]; rfl) (lenOf own_pd10 rfl) rfl (Nat.le_of_eq rfl) 0 0 rfl rfl (by decide) (by decide) 8 (hb hby own_d24_5) rfl ?_
  clear X eT; clear T; intro v T h5 L2 Lc X eT hL hQ6
  obtain ⟨rfl, Nq, hh⟩ := hQ6
  replace N : Fr n0 L2 := by rw [hL]; exact Fr.app N Nq
  clear Nq hL
  replace hh := hh.symm; subst hh
  show Go p e below _ T (mkF m 8 #[.val (.int (1 : Int32)), .val (.ref t)] [])
  exact gRetP0 X hx hlk hret (hb hby own_d24_8) eT (by decide) (by decide) ⟨rfl, N, rfl⟩
set_option maxRecDepth 65536 in
set_option maxHeartbeats 40000000 in
theorem rmUCA2_1 (l : Launch) (Z : State) (a0 : Array Value) (hw : ∀ d ∈ tables_1, d.before a0 Z = true) (t : Addr) (kb : ClassId) (G3 : Value) (c0 : Int32) (c1 : Int32) (h0 : Heap) (n0 : Nat) (Z0 : n0 ≤ h0.size) (P0_Old : Old Z n0 h0) (P1_Arv : Arv Z h0 t kb .byte (4 : Int32) [(.int (StrChars.lo8 c0)), (.int (StrChars.hi8 c0)), (.int (StrChars.lo8 c1)), (.int (StrChars.hi8 c1))] (.int 0)) (O4 : Sta Z Z.heap "jdk/internal/util/Preconditions" "SIOOBE_FORMATTER" "Ljava/util/function/BiFunction;" G3) (rG3 : G3.isRef = true) (SA : Sta Z Z.heap "java/lang/StringUTF16" "$assertionsDisabled" "Z" (.int 1)) (SH : Sta Z Z.heap "java/lang/StringUTF16" "HI_BYTE_SHIFT" "I" (.int 0)) (SLo : Sta Z Z.heap "java/lang/StringUTF16" "LO_BYTE_SHIFT" "I" (.int 8)) (r0 : ¬ c0 < 0 ∧ ¬ (65535 : Int32) < c0) (r1 : ¬ c1 < 0 ∧ ¬ (65535 : Int32) < c1) :
    CtP l (⟨"java/lang/StringUTF16", "charAt", "([BI)C"⟩ : MethodName) jdk_52_method_83_code 2 (some .char) [] ({ frames := 3, cells := 0, slots := 0, locals := 40 } : Room) Z #[(.ref t), (.int (1 : Int32))] h0 (fun v h L => v = some (.int c1) ∧ Fr n0 L ∧ h = h0) := by
  refine CtP.walk (Ls := #[.val (.ref t), .val (.int (1 : Int32))]) (plainFor_of_name own_pn0) (fun m => by rcases ref_cases rG3 with rfl | ⟨_, rfl⟩ <;> rfl) ?_
  intro p e s m below meth cc_ T hx hby hml hown hnm hret hlk hZ X eT
  have N := Fr.nil n0
  have sz_h : h0.size ≤ h0.size := Nat.le_refl _
  refine giloadN (v := (1 : Int32)) X hx 1 (hb hby own_d23_0) rfl rfl ?_
  refine galoadN (v := (.ref t)) X hx 2 (hb hby own_d23_1) rfl rfl rfl ?_
  refine gstatic (y := (⟨"java/lang/StringUTF16", "checkIndex", "(I[B)V"⟩ : MethodName)) (argsL := [(.int (1 : Int32)), (.ref t)]) (st := []) X hx hZ hown (own_w110 hw) (own_w111 hw) (own_w23 hw) (own_w112 hw) (by decide) (payP (W := 0) (rmUC2_1 l Z a0 hw (t) (kb) ([(.int (StrChars.lo8 c0)), (.int (StrChars.hi8 c0)), (.int (StrChars.lo8 c1)), (.int (StrChars.hi8 c1))]) (G3) h0 n0 (Nat.le_trans Z0 sz_h) P0_Old P1_Arv (O4) (rG3)) hZ (own_w112 hw) (own_w23 hw) (by decide) (by decide)) eT (by rw [hml]; rfl) (lenOf own_pd11 rfl) rfl (Nat.le_of_eq rfl) 0 0 rfl rfl (by decide) (by decide) 5 (hb hby own_d23_2) rfl ?_
  clear X eT; clear T; intro v T h1 L2 Lc X eT hL hQ2
  obtain ⟨rfl, Nq, hh⟩ := hQ2
  replace N : Fr n0 L2 := by rw [hL]; exact Fr.app N Nq
  clear Nq hL
  replace hh := hh.symm; subst hh
  show Go p e below _ T (mkF m 5 #[.val (.ref t), .val (.int (1 : Int32))] [])
  refine galoadN (v := (.ref t)) X hx 6 (hb hby own_d23_5) rfl rfl rfl ?_
  refine giloadN (v := (1 : Int32)) X hx 7 (hb hby own_d23_6) rfl rfl ?_
  refine gstatic (y := (⟨"java/lang/StringUTF16", "getChar", "([BI)C"⟩ : MethodName)) (argsL := [(.ref t), (.int (1 : Int32))]) (st := []) X hx hZ hown (own_w104 hw) (own_w105 hw) (own_w23 hw) (own_w106 hw) (by decide) (payP (W := 0) (rmGet2_1 l Z a0 hw (t) (kb) _ _ h0 n0 (Nat.le_trans Z0 sz_h) P0_Old P1_Arv (SA) (SH) (SLo) (r0) (r1)) hZ (own_w106 hw) (own_w23 hw) (by decide) (by decide)) eT (by rw [hml]; rfl) (lenOf own_pd5 rfl) rfl (Nat.le_of_eq rfl) 0 0 rfl rfl (by decide) (by decide) 10 (hb hby own_d23_7) rfl ?_
  clear X eT; clear T; intro v T h5 L2 Lc X eT hL hQ6
  obtain ⟨rfl, Nq, hh⟩ := hQ6
  replace N : Fr n0 L2 := by rw [hL]; exact Fr.app N Nq
  clear Nq hL
  replace hh := hh.symm; subst hh
  show Go p e below _ T (mkF m 10 #[.val (.ref t), .val (.int (1 : Int32))] [(.int c1)])
  exact gRetP X hx hlk hret (own_narrow r1) (Or.inl ⟨rfl, by simp, _, rfl⟩) (hb hby own_d23_10) eT (by decide) (by decide) ⟨rfl, N, rfl⟩
set_option maxRecDepth 65536 in
set_option maxHeartbeats 40000000 in
theorem rmSCA2_1 (l : Launch) (Z : State) (a0 : Array Value) (hw : ∀ d ∈ tables_1, d.before a0 Z = true) (x : Addr) (t : Addr) (kb : ClassId) (G1 : Int32) (G3 : Value) (c0 : Int32) (c1 : Int32) (h0 : Heap) (n0 : Nat) (Z0 : n0 ≤ h0.size) (P0_Old : Old Z n0 h0) (P1_Exa : Exa Z h0 x "java/lang/String") (P2_Fld : Fld Z h0 x "java/lang/String" "coder" "B" (.int (1 : Int32))) (P3_Fld : Fld Z h0 x "java/lang/String" "value" "[B" (.ref t)) (P4_Arv : Arv Z h0 t kb .byte (4 : Int32) [(.int (StrChars.lo8 c0)), (.int (StrChars.hi8 c0)), (.int (StrChars.lo8 c1)), (.int (StrChars.hi8 c1))] (.int 0)) (O2 : Sta Z Z.heap "java/lang/String" "COMPACT_STRINGS" "Z" (.int G1)) (P5 : ¬ G1 = (0 : Int32)) (O4 : Sta Z Z.heap "jdk/internal/util/Preconditions" "SIOOBE_FORMATTER" "Ljava/util/function/BiFunction;" G3) (rG3 : G3.isRef = true) (SA : Sta Z Z.heap "java/lang/StringUTF16" "$assertionsDisabled" "Z" (.int 1)) (SH : Sta Z Z.heap "java/lang/StringUTF16" "HI_BYTE_SHIFT" "I" (.int 0)) (SLo : Sta Z Z.heap "java/lang/StringUTF16" "LO_BYTE_SHIFT" "I" (.int 8)) (r0 : ¬ c0 < 0 ∧ ¬ (65535 : Int32) < c0) (r1 : ¬ c1 < 0 ∧ ¬ (65535 : Int32) < c1) :
    CtP l (⟨"java/lang/String", "charAt", "(I)C"⟩ : MethodName) jdk_42_method_56_code 2 (some .char) [] ({ frames := 4, cells := 0, slots := 0, locals := 53 } : Room) Z #[(.ref x), (.int (1 : Int32))] h0 (fun v h L => v = some (.int c1) ∧ Fr n0 L ∧ h = h0) := by
  refine CtP.walk (Ls := #[.val (.ref x), .val (.int (1 : Int32))]) own_pn6 (fun m => by rcases ref_cases rG3 with rfl | ⟨_, rfl⟩ <;> rfl) ?_
  intro p e s m below meth cc_ T hx hby hml hown hnm hret hlk hZ X eT
  have N := Fr.nil n0
  have sz_h : h0.size ≤ h0.size := Nat.le_refl _
  refine galoadN (v := (.ref x)) X hx 1 (hb hby own_d12_0) rfl rfl rfl ?_
  refine gvirtual (y := (⟨"java/lang/String", "isLatin1", "()Z"⟩ : MethodName)) (z := (⟨"java/lang/String", "isLatin1", "()Z"⟩ : MethodName)) (a := x) (argsL := []) (st := []) X hx hZ hown (own_w65 hw) (own_w66 hw) (notFace_of_selects (args := #[]) (mvT hZ (own_w68 hw))) (own_w68 hw) (own_w67 hw) (by decide) P1_Exa (payP (W := 0) (rm13 l Z a0 hw (x) (G1) h0 n0 (Nat.le_trans Z0 sz_h) P0_Old P2_Fld (O2) (P5)) hZ (own_w69 hw) (own_w9 hw) (by decide) (by decide)) eT (by rw [hml]; rfl) (lenOf own_pd12 rfl) rfl (Nat.le_of_eq rfl) 0 0 rfl rfl (by decide) (by decide) 4 (hb hby own_d12_1) rfl ?_
  clear X eT; clear T; intro v T h1 L2 Lc X eT hL hQ2
  obtain ⟨rfl, Nq, hh⟩ := hQ2
  replace N : Fr n0 L2 := by rw [hL]; exact Fr.app N Nq
  clear Nq hL
  replace hh := hh.symm; subst hh
  show Go p e below _ T (mkF m 4 #[.val (.ref x), .val (.int (1 : Int32))] [(.int (0 : Int32))])
  refine gifYes X hx 16 (hb hby own_d12_4) (by decide) (by decide) (by decide) ?_
  refine galoadN (v := (.ref x)) X hx 17 (hb hby own_d12_16) rfl rfl rfl ?_
  refine ggetF X hx hZ (host := "") hown (Or.inl (own_w34 hw)) Via.refl eT P3_Fld 20 (hb hby own_d12_17) rfl ?_
  clear X eT; clear T; intro T X eT
  refine giloadN (v := (1 : Int32)) X hx 21 (hb hby own_d12_20) rfl rfl ?_
  refine gstatic (y := (⟨"java/lang/StringUTF16", "charAt", "([BI)C"⟩ : MethodName)) (argsL := [(.ref t), (.int (1 : Int32))]) (st := []) X hx hZ hown (own_w107 hw) (own_w108 hw) (own_w23 hw) (own_w109 hw) (by decide) (payP (W := 0) (rmUCA2_1 l Z a0 hw (t) (kb) (G3) _ _ h0 n0 (Nat.le_trans Z0 sz_h) P0_Old P4_Arv (O4) (rG3) (SA) (SH) (SLo) (r0) (r1)) hZ (own_w109 hw) (own_w23 hw) (by decide) (by decide)) eT (by rw [hml]; rfl) (lenOf own_pd5 rfl) rfl (Nat.le_of_eq rfl) 0 0 rfl rfl (by decide) (by decide) 24 (hb hby own_d12_21) rfl ?_
  clear X eT; clear T; intro v T h5 L2 Lc X eT hL hQ6
  obtain ⟨rfl, Nq, hh⟩ := hQ6
  replace N : Fr n0 L2 := by rw [hL]; exact Fr.app N Nq
  clear Nq hL
  replace hh := hh.symm; subst hh
  show Go p e below _ T (mkF m 24 #[.val (.ref x), .val (.int (1 : Int32))] [(.int c1)])
  exact gRetP X hx hlk hret (own_narrow r1) (Or.inl ⟨rfl, by simp, _, rfl⟩) (hb hby own_d12_24) eT (by decide) (by decide) ⟨rfl, N, rfl⟩
set_option maxRecDepth 65536 in
set_option maxHeartbeats 40000000 in
theorem rmUL3 (l : Launch) (Z : State) (a0 : Array Value) (hw : ∀ d ∈ tables_1, d.before a0 Z = true) (t : Addr) (kb : ClassId) (vs0 : List Value) (h0 : Heap) (n0 : Nat) (Z0 : n0 ≤ h0.size) (P0_Arv : Arv Z h0 t kb .byte (6 : Int32) vs0 (.int 0)) :
    CtP l (⟨"java/lang/StringUTF16", "length", "([B)I"⟩ : MethodName) jdk_52_method_6_code 1 (some .int) [] ({ frames := 0, cells := 0, slots := 0, locals := 0 } : Room) Z #[(.ref t)] h0 (fun v h L => v = some (.int (3 : Int32)) ∧ Fr n0 L ∧ h = h0) := by
  refine CtP.walk (Ls := #[.val (.ref t)]) (plainFor_of_name own_pn0) (fun m => by first | (simp [entryFrame, mkF, argsToLocals, Value.category]; done) | rfl) ?_
  intro p e s m below meth cc_ T hx hby hml hown hnm hret hlk hZ X eT
  have N := Fr.nil n0
  have sz_h : h0.size ≤ h0.size := Nat.le_refl _
  refine galoadN (v := (.ref t)) X hx 1 (hb hby own_d25_0) rfl rfl rfl ?_
  refine garrlen X hx hZ eT P0_Arv 2 (hb hby own_d25_1) rfl ?_
  refine giconst X hx (1 : Int32) 3 (hb hby own_d25_2) rfl rfl ?_
  refine gishr X hx 4 (hb hby own_d25_3) rfl ?_
  rw [show ((6 : Int32) >>> ((1 : Int32) &&& 31)) = (3 : Int32) from by decide]
  exact gRetP X hx hlk hret rfl (Or.inl ⟨rfl, by simp, _, rfl⟩) (hb hby own_d25_4) eT (by decide) (by decide) ⟨rfl, N, rfl⟩
set_option maxRecDepth 65536 in
set_option maxHeartbeats 40000000 in
theorem rmUC3_0 (l : Launch) (Z : State) (a0 : Array Value) (hw : ∀ d ∈ tables_1, d.before a0 Z = true) (t : Addr) (kb : ClassId) (vs0 : List Value) (G3 : Value) (h0 : Heap) (n0 : Nat) (Z0 : n0 ≤ h0.size) (P0_Old : Old Z n0 h0) (P1_Arv : Arv Z h0 t kb .byte (6 : Int32) vs0 (.int 0)) (O4 : Sta Z Z.heap "jdk/internal/util/Preconditions" "SIOOBE_FORMATTER" "Ljava/util/function/BiFunction;" G3) (rG3 : G3.isRef = true) :
    CtP l (⟨"java/lang/StringUTF16", "checkIndex", "(I[B)V"⟩ : MethodName) jdk_52_method_91_code 2 none [] ({ frames := 2, cells := 0, slots := 0, locals := 27 } : Room) Z #[(.int (0 : Int32)), (.ref t)] h0 (fun v h L => v = none ∧ Fr n0 L ∧ h = h0) := by
  refine CtP.walk (Ls := #[.val (.int (0 : Int32)), .val (.ref t)]) (plainFor_of_name own_pn0) (fun m => by rcases ref_cases rG3 with rfl | ⟨_, rfl⟩ <;> rfl) ?_
  intro p e s m below meth cc_ T hx hby hml hown hnm hret hlk hZ X eT
  have N := Fr.nil n0
  have sz_h : h0.size ≤ h0.size := Nat.le_refl _
  refine giloadN (v := (0 : Int32)) X hx 1 (hb hby own_d24_0) rfl rfl ?_
  refine galoadN (v := (.ref t)) X hx 2 (hb hby own_d24_1) rfl rfl rfl ?_
  refine gstatic (y := (⟨"java/lang/StringUTF16", "length", "([B)I"⟩ : MethodName)) (argsL := [(.ref t)]) (st := [(.int (0 : Int32))]) X hx hZ hown (own_w113 hw) (own_w114 hw) (own_w23 hw) (own_w115 hw) (by decide) (payP (W := 1) (rmUL3 l Z a0 hw (t) (kb) (vs0) h0 n0 (Nat.le_trans Z0 sz_h) P1_Arv) hZ (own_w115 hw) (own_w23 hw) (by decide) (by decide)) eT (by rw [hml]; rfl) (lenOf own_pd9 rfl) rfl (Nat.le_of_eq rfl) 0 0 rfl rfl (by decide) (by decide) 5 (hb hby own_d24_2) rfl ?_
  clear X eT; clear T; intro v T h1 L2 Lc X eT hL hQ2
  obtain ⟨rfl, Nq, hh⟩ := hQ2
  replace N : Fr n0 L2 := by rw [hL]; exact Fr.app N Nq
  clear Nq hL
  replace hh := hh.symm; subst hh
  show Go p e below _ T (mkF m 5 #[.val (.int (0 : Int32)), .val (.ref t)] [(.int (3 : Int32)), (.int (0 : Int32))])
  refine gstatic (y := (⟨"java/lang/String", "checkIndex", "(II)V"⟩ : MethodName)) (argsL := [(.int (0 : Int32)), (.int (3 : Int32))]) (st := []) X hx hZ hown (own_w116 hw) (own_w75 hw) (own_w9 hw) (own_w76 hw) (by decide) (payP (W := 0) (rm15 l Z a0 hw ((0 : Int32)) ((3 : Int32)) (G3) h0 n0 (Nat.le_trans Z0 sz_h) P0_Old (O4) (rG3) (by decide) (by decide)) hZ (own_w76 hw) (own_w9 hw) (by decide) (by decide)) eT (by rw [hml]; rfl) (lenOf own_pd10 rfl) rfl (Nat.le_of_eq rfl) 0 0 rfl rfl (by decide) (by decide) 8 (hb hby own_d24_5) rfl ?_
  clear X eT; clear T; intro v T h5 L2 Lc X eT hL hQ6
  obtain ⟨rfl, Nq, hh⟩ := hQ6
  replace N : Fr n0 L2 := by rw [hL]; exact Fr.app N Nq
  clear Nq hL
  replace hh := hh.symm; subst hh
  show Go p e below _ T (mkF m 8 #[.val (.int (0 : Int32)), .val (.ref t)] [])
  exact gRetP0 X hx hlk hret (hb hby own_d24_8) eT (by decide) (by decide) ⟨rfl, N, rfl⟩
set_option maxRecDepth 65536 in
set_option maxHeartbeats 40000000 in
theorem rmUCA3_0 (l : Launch) (Z : State) (a0 : Array Value) (hw : ∀ d ∈ tables_1, d.before a0 Z = true) (t : Addr) (kb : ClassId) (G3 : Value) (c0 : Int32) (c1 : Int32) (c2 : Int32) (h0 : Heap) (n0 : Nat) (Z0 : n0 ≤ h0.size) (P0_Old : Old Z n0 h0) (P1_Arv : Arv Z h0 t kb .byte (6 : Int32) [(.int (StrChars.lo8 c0)), (.int (StrChars.hi8 c0)), (.int (StrChars.lo8 c1)), (.int (StrChars.hi8 c1)), (.int (StrChars.lo8 c2)), (.int (StrChars.hi8 c2))] (.int 0)) (O4 : Sta Z Z.heap "jdk/internal/util/Preconditions" "SIOOBE_FORMATTER" "Ljava/util/function/BiFunction;" G3) (rG3 : G3.isRef = true) (SA : Sta Z Z.heap "java/lang/StringUTF16" "$assertionsDisabled" "Z" (.int 1)) (SH : Sta Z Z.heap "java/lang/StringUTF16" "HI_BYTE_SHIFT" "I" (.int 0)) (SLo : Sta Z Z.heap "java/lang/StringUTF16" "LO_BYTE_SHIFT" "I" (.int 8)) (r0 : ¬ c0 < 0 ∧ ¬ (65535 : Int32) < c0) (r1 : ¬ c1 < 0 ∧ ¬ (65535 : Int32) < c1) (r2 : ¬ c2 < 0 ∧ ¬ (65535 : Int32) < c2) :
    CtP l (⟨"java/lang/StringUTF16", "charAt", "([BI)C"⟩ : MethodName) jdk_52_method_83_code 2 (some .char) [] ({ frames := 3, cells := 0, slots := 0, locals := 40 } : Room) Z #[(.ref t), (.int (0 : Int32))] h0 (fun v h L => v = some (.int c0) ∧ Fr n0 L ∧ h = h0) := by
  refine CtP.walk (Ls := #[.val (.ref t), .val (.int (0 : Int32))]) (plainFor_of_name own_pn0) (fun m => by rcases ref_cases rG3 with rfl | ⟨_, rfl⟩ <;> rfl) ?_
  intro p e s m below meth cc_ T hx hby hml hown hnm hret hlk hZ X eT
  have N := Fr.nil n0
  have sz_h : h0.size ≤ h0.size := Nat.le_refl _
  refine giloadN (v := (0 : Int32)) X hx 1 (hb hby own_d23_0) rfl rfl ?_
  refine galoadN (v := (.ref t)) X hx 2 (hb hby own_d23_1) rfl rfl rfl ?_
  refine gstatic (y := (⟨"java/lang/StringUTF16", "checkIndex", "(I[B)V"⟩ : MethodName)) (argsL := [(.int (0 : Int32)), (.ref t)]) (st := []) X hx hZ hown (own_w110 hw) (own_w111 hw) (own_w23 hw) (own_w112 hw) (by decide) (payP (W := 0) (rmUC3_0 l Z a0 hw (t) (kb) ([(.int (StrChars.lo8 c0)), (.int (StrChars.hi8 c0)), (.int (StrChars.lo8 c1)), (.int (StrChars.hi8 c1)), (.int (StrChars.lo8 c2)), (.int (StrChars.hi8 c2))]) (G3) h0 n0 (Nat.le_trans Z0 sz_h) P0_Old P1_Arv (O4) (rG3)) hZ (own_w112 hw) (own_w23 hw) (by decide) (by decide)) eT (by rw [hml]; rfl) (lenOf own_pd11 rfl) rfl (Nat.le_of_eq rfl) 0 0 rfl rfl (by decide) (by decide) 5 (hb hby own_d23_2) rfl ?_
  clear X eT; clear T; intro v T h1 L2 Lc X eT hL hQ2
  obtain ⟨rfl, Nq, hh⟩ := hQ2
  replace N : Fr n0 L2 := by rw [hL]; exact Fr.app N Nq
  clear Nq hL
  replace hh := hh.symm; subst hh
  show Go p e below _ T (mkF m 5 #[.val (.ref t), .val (.int (0 : Int32))] [])
  refine galoadN (v := (.ref t)) X hx 6 (hb hby own_d23_5) rfl rfl rfl ?_
  refine giloadN (v := (0 : Int32)) X hx 7 (hb hby own_d23_6) rfl rfl ?_
  refine gstatic (y := (⟨"java/lang/StringUTF16", "getChar", "([BI)C"⟩ : MethodName)) (argsL := [(.ref t), (.int (0 : Int32))]) (st := []) X hx hZ hown (own_w104 hw) (own_w105 hw) (own_w23 hw) (own_w106 hw) (by decide) (payP (W := 0) (rmGet3_0 l Z a0 hw (t) (kb) _ _ _ h0 n0 (Nat.le_trans Z0 sz_h) P0_Old P1_Arv (SA) (SH) (SLo) (r0) (r1) (r2)) hZ (own_w106 hw) (own_w23 hw) (by decide) (by decide)) eT (by rw [hml]; rfl) (lenOf own_pd5 rfl) rfl (Nat.le_of_eq rfl) 0 0 rfl rfl (by decide) (by decide) 10 (hb hby own_d23_7) rfl ?_
  clear X eT; clear T; intro v T h5 L2 Lc X eT hL hQ6
  obtain ⟨rfl, Nq, hh⟩ := hQ6
  replace N : Fr n0 L2 := by rw [hL]; exact Fr.app N Nq
  clear Nq hL
  replace hh := hh.symm; subst hh
  show Go p e below _ T (mkF m 10 #[.val (.ref t), .val (.int (0 : Int32))] [(.int c0)])
  exact gRetP X hx hlk hret (own_narrow r0) (Or.inl ⟨rfl, by simp, _, rfl⟩) (hb hby own_d23_10) eT (by decide) (by decide) ⟨rfl, N, rfl⟩
set_option maxRecDepth 65536 in
set_option maxHeartbeats 40000000 in
theorem rmSCA3_0 (l : Launch) (Z : State) (a0 : Array Value) (hw : ∀ d ∈ tables_1, d.before a0 Z = true) (x : Addr) (t : Addr) (kb : ClassId) (G1 : Int32) (G3 : Value) (c0 : Int32) (c1 : Int32) (c2 : Int32) (h0 : Heap) (n0 : Nat) (Z0 : n0 ≤ h0.size) (P0_Old : Old Z n0 h0) (P1_Exa : Exa Z h0 x "java/lang/String") (P2_Fld : Fld Z h0 x "java/lang/String" "coder" "B" (.int (1 : Int32))) (P3_Fld : Fld Z h0 x "java/lang/String" "value" "[B" (.ref t)) (P4_Arv : Arv Z h0 t kb .byte (6 : Int32) [(.int (StrChars.lo8 c0)), (.int (StrChars.hi8 c0)), (.int (StrChars.lo8 c1)), (.int (StrChars.hi8 c1)), (.int (StrChars.lo8 c2)), (.int (StrChars.hi8 c2))] (.int 0)) (O2 : Sta Z Z.heap "java/lang/String" "COMPACT_STRINGS" "Z" (.int G1)) (P5 : ¬ G1 = (0 : Int32)) (O4 : Sta Z Z.heap "jdk/internal/util/Preconditions" "SIOOBE_FORMATTER" "Ljava/util/function/BiFunction;" G3) (rG3 : G3.isRef = true) (SA : Sta Z Z.heap "java/lang/StringUTF16" "$assertionsDisabled" "Z" (.int 1)) (SH : Sta Z Z.heap "java/lang/StringUTF16" "HI_BYTE_SHIFT" "I" (.int 0)) (SLo : Sta Z Z.heap "java/lang/StringUTF16" "LO_BYTE_SHIFT" "I" (.int 8)) (r0 : ¬ c0 < 0 ∧ ¬ (65535 : Int32) < c0) (r1 : ¬ c1 < 0 ∧ ¬ (65535 : Int32) < c1) (r2 : ¬ c2 < 0 ∧ ¬ (65535 : Int32) < c2) :
    CtP l (⟨"java/lang/String", "charAt", "(I)C"⟩ : MethodName) jdk_42_method_56_code 2 (some .char) [] ({ frames := 4, cells := 0, slots := 0, locals := 53 } : Room) Z #[(.ref x), (.int (0 : Int32))] h0 (fun v h L => v = some (.int c0) ∧ Fr n0 L ∧ h = h0) := by
  refine CtP.walk (Ls := #[.val (.ref x), .val (.int (0 : Int32))]) own_pn6 (fun m => by rcases ref_cases rG3 with rfl | ⟨_, rfl⟩ <;> rfl) ?_
  intro p e s m below meth cc_ T hx hby hml hown hnm hret hlk hZ X eT
  have N := Fr.nil n0
  have sz_h : h0.size ≤ h0.size := Nat.le_refl _
  refine galoadN (v := (.ref x)) X hx 1 (hb hby own_d12_0) rfl rfl rfl ?_
  refine gvirtual (y := (⟨"java/lang/String", "isLatin1", "()Z"⟩ : MethodName)) (z := (⟨"java/lang/String", "isLatin1", "()Z"⟩ : MethodName)) (a := x) (argsL := []) (st := []) X hx hZ hown (own_w65 hw) (own_w66 hw) (notFace_of_selects (args := #[]) (mvT hZ (own_w68 hw))) (own_w68 hw) (own_w67 hw) (by decide) P1_Exa (payP (W := 0) (rm13 l Z a0 hw (x) (G1) h0 n0 (Nat.le_trans Z0 sz_h) P0_Old P2_Fld (O2) (P5)) hZ (own_w69 hw) (own_w9 hw) (by decide) (by decide)) eT (by rw [hml]; rfl) (lenOf own_pd12 rfl) rfl (Nat.le_of_eq rfl) 0 0 rfl rfl (by decide) (by decide) 4 (hb hby own_d12_1) rfl ?_
  clear X eT; clear T; intro v T h1 L2 Lc X eT hL hQ2
  obtain ⟨rfl, Nq, hh⟩ := hQ2
  replace N : Fr n0 L2 := by rw [hL]; exact Fr.app N Nq
  clear Nq hL
  replace hh := hh.symm; subst hh
  show Go p e below _ T (mkF m 4 #[.val (.ref x), .val (.int (0 : Int32))] [(.int (0 : Int32))])
  refine gifYes X hx 16 (hb hby own_d12_4) (by decide) (by decide) (by decide) ?_
  refine galoadN (v := (.ref x)) X hx 17 (hb hby own_d12_16) rfl rfl rfl ?_
  refine ggetF X hx hZ (host := "") hown (Or.inl (own_w34 hw)) Via.refl eT P3_Fld 20 (hb hby own_d12_17) rfl ?_
  clear X eT; clear T; intro T X eT
  refine giloadN (v := (0 : Int32)) X hx 21 (hb hby own_d12_20) rfl rfl ?_
  refine gstatic (y := (⟨"java/lang/StringUTF16", "charAt", "([BI)C"⟩ : MethodName)) (argsL := [(.ref t), (.int (0 : Int32))]) (st := []) X hx hZ hown (own_w107 hw) (own_w108 hw) (own_w23 hw) (own_w109 hw) (by decide) (payP (W := 0) (rmUCA3_0 l Z a0 hw (t) (kb) (G3) _ _ _ h0 n0 (Nat.le_trans Z0 sz_h) P0_Old P4_Arv (O4) (rG3) (SA) (SH) (SLo) (r0) (r1) (r2)) hZ (own_w109 hw) (own_w23 hw) (by decide) (by decide)) eT (by rw [hml]; rfl) (lenOf own_pd5 rfl) rfl (Nat.le_of_eq rfl) 0 0 rfl rfl (by decide) (by decide) 24 (hb hby own_d12_21) rfl ?_
  clear X eT; clear T; intro v T h5 L2 Lc X eT hL hQ6
  obtain ⟨rfl, Nq, hh⟩ := hQ6
  replace N : Fr n0 L2 := by rw [hL]; exact Fr.app N Nq
  clear Nq hL
  replace hh := hh.symm; subst hh
  show Go p e below _ T (mkF m 24 #[.val (.ref x), .val (.int (0 : Int32))] [(.int c0)])
  exact gRetP X hx hlk hret (own_narrow r0) (Or.inl ⟨rfl, by simp, _, rfl⟩) (hb hby own_d12_24) eT (by decide) (by decide) ⟨rfl, N, rfl⟩
set_option maxRecDepth 65536 in
set_option maxHeartbeats 40000000 in
theorem rmUC3_1 (l : Launch) (Z : State) (a0 : Array Value) (hw : ∀ d ∈ tables_1, d.before a0 Z = true) (t : Addr) (kb : ClassId) (vs0 : List Value) (G3 : Value) (h0 : Heap) (n0 : Nat) (Z0 : n0 ≤ h0.size) (P0_Old : Old Z n0 h0) (P1_Arv : Arv Z h0 t kb .byte (6 : Int32) vs0 (.int 0)) (O4 : Sta Z Z.heap "jdk/internal/util/Preconditions" "SIOOBE_FORMATTER" "Ljava/util/function/BiFunction;" G3) (rG3 : G3.isRef = true) :
    CtP l (⟨"java/lang/StringUTF16", "checkIndex", "(I[B)V"⟩ : MethodName) jdk_52_method_91_code 2 none [] ({ frames := 2, cells := 0, slots := 0, locals := 27 } : Room) Z #[(.int (1 : Int32)), (.ref t)] h0 (fun v h L => v = none ∧ Fr n0 L ∧ h = h0) := by
  refine CtP.walk (Ls := #[.val (.int (1 : Int32)), .val (.ref t)]) (plainFor_of_name own_pn0) (fun m => by rcases ref_cases rG3 with rfl | ⟨_, rfl⟩ <;> rfl) ?_
  intro p e s m below meth cc_ T hx hby hml hown hnm hret hlk hZ X eT
  have N := Fr.nil n0
  have sz_h : h0.size ≤ h0.size := Nat.le_refl _
  refine giloadN (v := (1 : Int32)) X hx 1 (hb hby own_d24_0) rfl rfl ?_
  refine galoadN (v := (.ref t)) X hx 2 (hb hby own_d24_1) rfl rfl rfl ?_
  refine gstatic (y := (⟨"java/lang/StringUTF16", "length", "([B)I"⟩ : MethodName)) (argsL := [(.ref t)]) (st := [(.int (1 : Int32))]) X hx hZ hown (own_w113 hw) (own_w114 hw) (own_w23 hw) (own_w115 hw) (by decide) (payP (W := 1) (rmUL3 l Z a0 hw (t) (kb) (vs0) h0 n0 (Nat.le_trans Z0 sz_h) P1_Arv) hZ (own_w115 hw) (own_w23 hw) (by decide) (by decide)) eT (by rw [hml]; rfl) (lenOf own_pd9 rfl) rfl (Nat.le_of_eq rfl) 0 0 rfl rfl (by decide) (by decide) 5 (hb hby own_d24_2) rfl ?_
  clear X eT; clear T; intro v T h1 L2 Lc X eT hL hQ2
  obtain ⟨rfl, Nq, hh⟩ := hQ2
  replace N : Fr n0 L2 := by rw [hL]; exact Fr.app N Nq
  clear Nq hL
  replace hh := hh.symm; subst hh
  show Go p e below _ T (mkF m 5 #[.val (.int (1 : Int32)), .val (.ref t)] [(.int (3 : Int32)), (.int (1 : Int32))])
  refine gstatic (y := (⟨"java/lang/String", "checkIndex", "(II)V"⟩ : MethodName)) (argsL := [(.int (1 : Int32)), (.int (3 : Int32))]) (st := []) X hx hZ hown (own_w116 hw) (own_w75 hw) (own_w9 hw) (own_w76 hw) (by decide) (payP (W := 0) (rm15 l Z a0 hw ((1 : Int32)) ((3 : Int32)) (G3) h0 n0 (Nat.le_trans Z0 sz_h) P0_Old (O4) (rG3) (by decide) (by decide)) hZ (own_w76 hw) (own_w9 hw) (by decide) (by decide)) eT (by rw [hml]; rfl) (lenOf own_pd10 rfl) rfl (Nat.le_of_eq rfl) 0 0 rfl rfl (by decide) (by decide) 8 (hb hby own_d24_5) rfl ?_
  clear X eT; clear T; intro v T h5 L2 Lc X eT hL hQ6
  obtain ⟨rfl, Nq, hh⟩ := hQ6
  replace N : Fr n0 L2 := by rw [hL]; exact Fr.app N Nq
  clear Nq hL
  replace hh := hh.symm; subst hh
  show Go p e below _ T (mkF m 8 #[.val (.int (1 : Int32)), .val (.ref t)] [])
  exact gRetP0 X hx hlk hret (hb hby own_d24_8) eT (by decide) (by decide) ⟨rfl, N, rfl⟩
set_option maxRecDepth 65536 in
set_option maxHeartbeats 40000000 in
theorem rmUCA3_1 (l : Launch) (Z : State) (a0 : Array Value) (hw : ∀ d ∈ tables_1, d.before a0 Z = true) (t : Addr) (kb : ClassId) (G3 : Value) (c0 : Int32) (c1 : Int32) (c2 : Int32) (h0 : Heap) (n0 : Nat) (Z0 : n0 ≤ h0.size) (P0_Old : Old Z n0 h0) (P1_Arv : Arv Z h0 t kb .byte (6 : Int32) [(.int (StrChars.lo8 c0)), (.int (StrChars.hi8 c0)), (.int (StrChars.lo8 c1)), (.int (StrChars.hi8 c1)), (.int (StrChars.lo8 c2)), (.int (StrChars.hi8 c2))] (.int 0)) (O4 : Sta Z Z.heap "jdk/internal/util/Preconditions" "SIOOBE_FORMATTER" "Ljava/util/function/BiFunction;" G3) (rG3 : G3.isRef = true) (SA : Sta Z Z.heap "java/lang/StringUTF16" "$assertionsDisabled" "Z" (.int 1)) (SH : Sta Z Z.heap "java/lang/StringUTF16" "HI_BYTE_SHIFT" "I" (.int 0)) (SLo : Sta Z Z.heap "java/lang/StringUTF16" "LO_BYTE_SHIFT" "I" (.int 8)) (r0 : ¬ c0 < 0 ∧ ¬ (65535 : Int32) < c0) (r1 : ¬ c1 < 0 ∧ ¬ (65535 : Int32) < c1) (r2 : ¬ c2 < 0 ∧ ¬ (65535 : Int32) < c2) :
    CtP l (⟨"java/lang/StringUTF16", "charAt", "([BI)C"⟩ : MethodName) jdk_52_method_83_code 2 (some .char) [] ({ frames := 3, cells := 0, slots := 0, locals := 40 } : Room) Z #[(.ref t), (.int (1 : Int32))] h0 (fun v h L => v = some (.int c1) ∧ Fr n0 L ∧ h = h0) := by
  refine CtP.walk (Ls := #[.val (.ref t), .val (.int (1 : Int32))]) (plainFor_of_name own_pn0) (fun m => by rcases ref_cases rG3 with rfl | ⟨_, rfl⟩ <;> rfl) ?_
  intro p e s m below meth cc_ T hx hby hml hown hnm hret hlk hZ X eT
  have N := Fr.nil n0
  have sz_h : h0.size ≤ h0.size := Nat.le_refl _
  refine giloadN (v := (1 : Int32)) X hx 1 (hb hby own_d23_0) rfl rfl ?_
  refine galoadN (v := (.ref t)) X hx 2 (hb hby own_d23_1) rfl rfl rfl ?_
  refine gstatic (y := (⟨"java/lang/StringUTF16", "checkIndex", "(I[B)V"⟩ : MethodName)) (argsL := [(.int (1 : Int32)), (.ref t)]) (st := []) X hx hZ hown (own_w110 hw) (own_w111 hw) (own_w23 hw) (own_w112 hw) (by decide) (payP (W := 0) (rmUC3_1 l Z a0 hw (t) (kb) ([(.int (StrChars.lo8 c0)), (.int (StrChars.hi8 c0)), (.int (StrChars.lo8 c1)), (.int (StrChars.hi8 c1)), (.int (StrChars.lo8 c2)), (.int (StrChars.hi8 c2))]) (G3) h0 n0 (Nat.le_trans Z0 sz_h) P0_Old P1_Arv (O4) (rG3)) hZ (own_w112 hw) (own_w23 hw) (by decide) (by decide)) eT (by rw [hml]; rfl) (lenOf own_pd11 rfl) rfl (Nat.le_of_eq rfl) 0 0 rfl rfl (by decide) (by decide) 5 (hb hby own_d23_2) rfl ?_
  clear X eT; clear T; intro v T h1 L2 Lc X eT hL hQ2
  obtain ⟨rfl, Nq, hh⟩ := hQ2
  replace N : Fr n0 L2 := by rw [hL]; exact Fr.app N Nq
  clear Nq hL
  replace hh := hh.symm; subst hh
  show Go p e below _ T (mkF m 5 #[.val (.ref t), .val (.int (1 : Int32))] [])
  refine galoadN (v := (.ref t)) X hx 6 (hb hby own_d23_5) rfl rfl rfl ?_
  refine giloadN (v := (1 : Int32)) X hx 7 (hb hby own_d23_6) rfl rfl ?_
  refine gstatic (y := (⟨"java/lang/StringUTF16", "getChar", "([BI)C"⟩ : MethodName)) (argsL := [(.ref t), (.int (1 : Int32))]) (st := []) X hx hZ hown (own_w104 hw) (own_w105 hw) (own_w23 hw) (own_w106 hw) (by decide) (payP (W := 0) (rmGet3_1 l Z a0 hw (t) (kb) _ _ _ h0 n0 (Nat.le_trans Z0 sz_h) P0_Old P1_Arv (SA) (SH) (SLo) (r0) (r1) (r2)) hZ (own_w106 hw) (own_w23 hw) (by decide) (by decide)) eT (by rw [hml]; rfl) (lenOf own_pd5 rfl) rfl (Nat.le_of_eq rfl) 0 0 rfl rfl (by decide) (by decide) 10 (hb hby own_d23_7) rfl ?_
  clear X eT; clear T; intro v T h5 L2 Lc X eT hL hQ6
  obtain ⟨rfl, Nq, hh⟩ := hQ6
  replace N : Fr n0 L2 := by rw [hL]; exact Fr.app N Nq
  clear Nq hL
  replace hh := hh.symm; subst hh
  show Go p e below _ T (mkF m 10 #[.val (.ref t), .val (.int (1 : Int32))] [(.int c1)])
  exact gRetP X hx hlk hret (own_narrow r1) (Or.inl ⟨rfl, by simp, _, rfl⟩) (hb hby own_d23_10) eT (by decide) (by decide) ⟨rfl, N, rfl⟩
set_option maxRecDepth 65536 in
set_option maxHeartbeats 40000000 in
theorem rmSCA3_1 (l : Launch) (Z : State) (a0 : Array Value) (hw : ∀ d ∈ tables_1, d.before a0 Z = true) (x : Addr) (t : Addr) (kb : ClassId) (G1 : Int32) (G3 : Value) (c0 : Int32) (c1 : Int32) (c2 : Int32) (h0 : Heap) (n0 : Nat) (Z0 : n0 ≤ h0.size) (P0_Old : Old Z n0 h0) (P1_Exa : Exa Z h0 x "java/lang/String") (P2_Fld : Fld Z h0 x "java/lang/String" "coder" "B" (.int (1 : Int32))) (P3_Fld : Fld Z h0 x "java/lang/String" "value" "[B" (.ref t)) (P4_Arv : Arv Z h0 t kb .byte (6 : Int32) [(.int (StrChars.lo8 c0)), (.int (StrChars.hi8 c0)), (.int (StrChars.lo8 c1)), (.int (StrChars.hi8 c1)), (.int (StrChars.lo8 c2)), (.int (StrChars.hi8 c2))] (.int 0)) (O2 : Sta Z Z.heap "java/lang/String" "COMPACT_STRINGS" "Z" (.int G1)) (P5 : ¬ G1 = (0 : Int32)) (O4 : Sta Z Z.heap "jdk/internal/util/Preconditions" "SIOOBE_FORMATTER" "Ljava/util/function/BiFunction;" G3) (rG3 : G3.isRef = true) (SA : Sta Z Z.heap "java/lang/StringUTF16" "$assertionsDisabled" "Z" (.int 1)) (SH : Sta Z Z.heap "java/lang/StringUTF16" "HI_BYTE_SHIFT" "I" (.int 0)) (SLo : Sta Z Z.heap "java/lang/StringUTF16" "LO_BYTE_SHIFT" "I" (.int 8)) (r0 : ¬ c0 < 0 ∧ ¬ (65535 : Int32) < c0) (r1 : ¬ c1 < 0 ∧ ¬ (65535 : Int32) < c1) (r2 : ¬ c2 < 0 ∧ ¬ (65535 : Int32) < c2) :
    CtP l (⟨"java/lang/String", "charAt", "(I)C"⟩ : MethodName) jdk_42_method_56_code 2 (some .char) [] ({ frames := 4, cells := 0, slots := 0, locals := 53 } : Room) Z #[(.ref x), (.int (1 : Int32))] h0 (fun v h L => v = some (.int c1) ∧ Fr n0 L ∧ h = h0) := by
  refine CtP.walk (Ls := #[.val (.ref x), .val (.int (1 : Int32))]) own_pn6 (fun m => by rcases ref_cases rG3 with rfl | ⟨_, rfl⟩ <;> rfl) ?_
  intro p e s m below meth cc_ T hx hby hml hown hnm hret hlk hZ X eT
  have N := Fr.nil n0
  have sz_h : h0.size ≤ h0.size := Nat.le_refl _
  refine galoadN (v := (.ref x)) X hx 1 (hb hby own_d12_0) rfl rfl rfl ?_
  refine gvirtual (y := (⟨"java/lang/String", "isLatin1", "()Z"⟩ : MethodName)) (z := (⟨"java/lang/String", "isLatin1", "()Z"⟩ : MethodName)) (a := x) (argsL := []) (st := []) X hx hZ hown (own_w65 hw) (own_w66 hw) (notFace_of_selects (args := #[]) (mvT hZ (own_w68 hw))) (own_w68 hw) (own_w67 hw) (by decide) P1_Exa (payP (W := 0) (rm13 l Z a0 hw (x) (G1) h0 n0 (Nat.le_trans Z0 sz_h) P0_Old P2_Fld (O2) (P5)) hZ (own_w69 hw) (own_w9 hw) (by decide) (by decide)) eT (by rw [hml]; rfl) (lenOf own_pd12 rfl) rfl (Nat.le_of_eq rfl) 0 0 rfl rfl (by decide) (by decide) 4 (hb hby own_d12_1) rfl ?_
  clear X eT; clear T; intro v T h1 L2 Lc X eT hL hQ2
  obtain ⟨rfl, Nq, hh⟩ := hQ2
  replace N : Fr n0 L2 := by rw [hL]; exact Fr.app N Nq
  clear Nq hL
  replace hh := hh.symm; subst hh
  show Go p e below _ T (mkF m 4 #[.val (.ref x), .val (.int (1 : Int32))] [(.int (0 : Int32))])
  refine gifYes X hx 16 (hb hby own_d12_4) (by decide) (by decide) (by decide) ?_
  refine galoadN (v := (.ref x)) X hx 17 (hb hby own_d12_16) rfl rfl rfl ?_
  refine ggetF X hx hZ (host := "") hown (Or.inl (own_w34 hw)) Via.refl eT P3_Fld 20 (hb hby own_d12_17) rfl ?_
  clear X eT; clear T; intro T X eT
  refine giloadN (v := (1 : Int32)) X hx 21 (hb hby own_d12_20) rfl rfl ?_
  refine gstatic (y := (⟨"java/lang/StringUTF16", "charAt", "([BI)C"⟩ : MethodName)) (argsL := [(.ref t), (.int (1 : Int32))]) (st := []) X hx hZ hown (own_w107 hw) (own_w108 hw) (own_w23 hw) (own_w109 hw) (by decide) (payP (W := 0) (rmUCA3_1 l Z a0 hw (t) (kb) (G3) _ _ _ h0 n0 (Nat.le_trans Z0 sz_h) P0_Old P4_Arv (O4) (rG3) (SA) (SH) (SLo) (r0) (r1) (r2)) hZ (own_w109 hw) (own_w23 hw) (by decide) (by decide)) eT (by rw [hml]; rfl) (lenOf own_pd5 rfl) rfl (Nat.le_of_eq rfl) 0 0 rfl rfl (by decide) (by decide) 24 (hb hby own_d12_21) rfl ?_
  clear X eT; clear T; intro v T h5 L2 Lc X eT hL hQ6
  obtain ⟨rfl, Nq, hh⟩ := hQ6
  replace N : Fr n0 L2 := by rw [hL]; exact Fr.app N Nq
  clear Nq hL
  replace hh := hh.symm; subst hh
  show Go p e below _ T (mkF m 24 #[.val (.ref x), .val (.int (1 : Int32))] [(.int c1)])
  exact gRetP X hx hlk hret (own_narrow r1) (Or.inl ⟨rfl, by simp, _, rfl⟩) (hb hby own_d12_24) eT (by decide) (by decide) ⟨rfl, N, rfl⟩
set_option maxRecDepth 65536 in
set_option maxHeartbeats 40000000 in
theorem rmUC3_2 (l : Launch) (Z : State) (a0 : Array Value) (hw : ∀ d ∈ tables_1, d.before a0 Z = true) (t : Addr) (kb : ClassId) (vs0 : List Value) (G3 : Value) (h0 : Heap) (n0 : Nat) (Z0 : n0 ≤ h0.size) (P0_Old : Old Z n0 h0) (P1_Arv : Arv Z h0 t kb .byte (6 : Int32) vs0 (.int 0)) (O4 : Sta Z Z.heap "jdk/internal/util/Preconditions" "SIOOBE_FORMATTER" "Ljava/util/function/BiFunction;" G3) (rG3 : G3.isRef = true) :
    CtP l (⟨"java/lang/StringUTF16", "checkIndex", "(I[B)V"⟩ : MethodName) jdk_52_method_91_code 2 none [] ({ frames := 2, cells := 0, slots := 0, locals := 27 } : Room) Z #[(.int (2 : Int32)), (.ref t)] h0 (fun v h L => v = none ∧ Fr n0 L ∧ h = h0) := by
  refine CtP.walk (Ls := #[.val (.int (2 : Int32)), .val (.ref t)]) (plainFor_of_name own_pn0) (fun m => by rcases ref_cases rG3 with rfl | ⟨_, rfl⟩ <;> rfl) ?_
  intro p e s m below meth cc_ T hx hby hml hown hnm hret hlk hZ X eT
  have N := Fr.nil n0
  have sz_h : h0.size ≤ h0.size := Nat.le_refl _
  refine giloadN (v := (2 : Int32)) X hx 1 (hb hby own_d24_0) rfl rfl ?_
  refine galoadN (v := (.ref t)) X hx 2 (hb hby own_d24_1) rfl rfl rfl ?_
  refine gstatic (y := (⟨"java/lang/StringUTF16", "length", "([B)I"⟩ : MethodName)) (argsL := [(.ref t)]) (st := [(.int (2 : Int32))]) X hx hZ hown (own_w113 hw) (own_w114 hw) (own_w23 hw) (own_w115 hw) (by decide) (payP (W := 1) (rmUL3 l Z a0 hw (t) (kb) (vs0) h0 n0 (Nat.le_trans Z0 sz_h) P1_Arv) hZ (own_w115 hw) (own_w23 hw) (by decide) (by decide)) eT (by rw [hml]; rfl) (lenOf own_pd9 rfl) rfl (Nat.le_of_eq rfl) 0 0 rfl rfl (by decide) (by decide) 5 (hb hby own_d24_2) rfl ?_
  clear X eT; clear T; intro v T h1 L2 Lc X eT hL hQ2
  obtain ⟨rfl, Nq, hh⟩ := hQ2
  replace N : Fr n0 L2 := by rw [hL]; exact Fr.app N Nq
  clear Nq hL
  replace hh := hh.symm; subst hh
  show Go p e below _ T (mkF m 5 #[.val (.int (2 : Int32)), .val (.ref t)] [(.int (3 : Int32)), (.int (2 : Int32))])
  refine gstatic (y := (⟨"java/lang/String", "checkIndex", "(II)V"⟩ : MethodName)) (argsL := [(.int (2 : Int32)), (.int (3 : Int32))]) (st := []) X hx hZ hown (own_w116 hw) (own_w75 hw) (own_w9 hw) (own_w76 hw) (by decide) (payP (W := 0) (rm15 l Z a0 hw ((2 : Int32)) ((3 : Int32)) (G3) h0 n0 (Nat.le_trans Z0 sz_h) P0_Old (O4) (rG3) (by decide) (by decide)) hZ (own_w76 hw) (own_w9 hw) (by decide) (by decide)) eT (by rw [hml]; rfl) (lenOf own_pd10 rfl) rfl (Nat.le_of_eq rfl) 0 0 rfl rfl (by decide) (by decide) 8 (hb hby own_d24_5) rfl ?_
  clear X eT; clear T; intro v T h5 L2 Lc X eT hL hQ6
  obtain ⟨rfl, Nq, hh⟩ := hQ6
  replace N : Fr n0 L2 := by rw [hL]; exact Fr.app N Nq
  clear Nq hL
  replace hh := hh.symm; subst hh
  show Go p e below _ T (mkF m 8 #[.val (.int (2 : Int32)), .val (.ref t)] [])
  exact gRetP0 X hx hlk hret (hb hby own_d24_8) eT (by decide) (by decide) ⟨rfl, N, rfl⟩
set_option maxRecDepth 65536 in
set_option maxHeartbeats 40000000 in
theorem rmUCA3_2 (l : Launch) (Z : State) (a0 : Array Value) (hw : ∀ d ∈ tables_1, d.before a0 Z = true) (t : Addr) (kb : ClassId) (G3 : Value) (c0 : Int32) (c1 : Int32) (c2 : Int32) (h0 : Heap) (n0 : Nat) (Z0 : n0 ≤ h0.size) (P0_Old : Old Z n0 h0) (P1_Arv : Arv Z h0 t kb .byte (6 : Int32) [(.int (StrChars.lo8 c0)), (.int (StrChars.hi8 c0)), (.int (StrChars.lo8 c1)), (.int (StrChars.hi8 c1)), (.int (StrChars.lo8 c2)), (.int (StrChars.hi8 c2))] (.int 0)) (O4 : Sta Z Z.heap "jdk/internal/util/Preconditions" "SIOOBE_FORMATTER" "Ljava/util/function/BiFunction;" G3) (rG3 : G3.isRef = true) (SA : Sta Z Z.heap "java/lang/StringUTF16" "$assertionsDisabled" "Z" (.int 1)) (SH : Sta Z Z.heap "java/lang/StringUTF16" "HI_BYTE_SHIFT" "I" (.int 0)) (SLo : Sta Z Z.heap "java/lang/StringUTF16" "LO_BYTE_SHIFT" "I" (.int 8)) (r0 : ¬ c0 < 0 ∧ ¬ (65535 : Int32) < c0) (r1 : ¬ c1 < 0 ∧ ¬ (65535 : Int32) < c1) (r2 : ¬ c2 < 0 ∧ ¬ (65535 : Int32) < c2) :
    CtP l (⟨"java/lang/StringUTF16", "charAt", "([BI)C"⟩ : MethodName) jdk_52_method_83_code 2 (some .char) [] ({ frames := 3, cells := 0, slots := 0, locals := 40 } : Room) Z #[(.ref t), (.int (2 : Int32))] h0 (fun v h L => v = some (.int c2) ∧ Fr n0 L ∧ h = h0) := by
  refine CtP.walk (Ls := #[.val (.ref t), .val (.int (2 : Int32))]) (plainFor_of_name own_pn0) (fun m => by rcases ref_cases rG3 with rfl | ⟨_, rfl⟩ <;> rfl) ?_
  intro p e s m below meth cc_ T hx hby hml hown hnm hret hlk hZ X eT
  have N := Fr.nil n0
  have sz_h : h0.size ≤ h0.size := Nat.le_refl _
  refine giloadN (v := (2 : Int32)) X hx 1 (hb hby own_d23_0) rfl rfl ?_
  refine galoadN (v := (.ref t)) X hx 2 (hb hby own_d23_1) rfl rfl rfl ?_
  refine gstatic (y := (⟨"java/lang/StringUTF16", "checkIndex", "(I[B)V"⟩ : MethodName)) (argsL := [(.int (2 : Int32)), (.ref t)]) (st := []) X hx hZ hown (own_w110 hw) (own_w111 hw) (own_w23 hw) (own_w112 hw) (by decide) (payP (W := 0) (rmUC3_2 l Z a0 hw (t) (kb) ([(.int (StrChars.lo8 c0)), (.int (StrChars.hi8 c0)), (.int (StrChars.lo8 c1)), (.int (StrChars.hi8 c1)), (.int (StrChars.lo8 c2)), (.int (StrChars.hi8 c2))]) (G3) h0 n0 (Nat.le_trans Z0 sz_h) P0_Old P1_Arv (O4) (rG3)) hZ (own_w112 hw) (own_w23 hw) (by decide) (by decide)) eT (by rw [hml]; rfl) (lenOf own_pd11 rfl) rfl (Nat.le_of_eq rfl) 0 0 rfl rfl (by decide) (by decide) 5 (hb hby own_d23_2) rfl ?_
  clear X eT; clear T; intro v T h1 L2 Lc X eT hL hQ2
  obtain ⟨rfl, Nq, hh⟩ := hQ2
  replace N : Fr n0 L2 := by rw [hL]; exact Fr.app N Nq
  clear Nq hL
  replace hh := hh.symm; subst hh
  show Go p e below _ T (mkF m 5 #[.val (.ref t), .val (.int (2 : Int32))] [])
  refine galoadN (v := (.ref t)) X hx 6 (hb hby own_d23_5) rfl rfl rfl ?_
  refine giloadN (v := (2 : Int32)) X hx 7 (hb hby own_d23_6) rfl rfl ?_
  refine gstatic (y := (⟨"java/lang/StringUTF16", "getChar", "([BI)C"⟩ : MethodName)) (argsL := [(.ref t), (.int (2 : Int32))]) (st := []) X hx hZ hown (own_w104 hw) (own_w105 hw) (own_w23 hw) (own_w106 hw) (by decide) (payP (W := 0) (rmGet3_2 l Z a0 hw (t) (kb) _ _ _ h0 n0 (Nat.le_trans Z0 sz_h) P0_Old P1_Arv (SA) (SH) (SLo) (r0) (r1) (r2)) hZ (own_w106 hw) (own_w23 hw) (by decide) (by decide)) eT (by rw [hml]; rfl) (lenOf own_pd5 rfl) rfl (Nat.le_of_eq rfl) 0 0 rfl rfl (by decide) (by decide) 10 (hb hby own_d23_7) rfl ?_
  clear X eT; clear T; intro v T h5 L2 Lc X eT hL hQ6
  obtain ⟨rfl, Nq, hh⟩ := hQ6
  replace N : Fr n0 L2 := by rw [hL]; exact Fr.app N Nq
  clear Nq hL
  replace hh := hh.symm; subst hh
  show Go p e below _ T (mkF m 10 #[.val (.ref t), .val (.int (2 : Int32))] [(.int c2)])
  exact gRetP X hx hlk hret (own_narrow r2) (Or.inl ⟨rfl, by simp, _, rfl⟩) (hb hby own_d23_10) eT (by decide) (by decide) ⟨rfl, N, rfl⟩
set_option maxRecDepth 65536 in
set_option maxHeartbeats 40000000 in
theorem rmSCA3_2 (l : Launch) (Z : State) (a0 : Array Value) (hw : ∀ d ∈ tables_1, d.before a0 Z = true) (x : Addr) (t : Addr) (kb : ClassId) (G1 : Int32) (G3 : Value) (c0 : Int32) (c1 : Int32) (c2 : Int32) (h0 : Heap) (n0 : Nat) (Z0 : n0 ≤ h0.size) (P0_Old : Old Z n0 h0) (P1_Exa : Exa Z h0 x "java/lang/String") (P2_Fld : Fld Z h0 x "java/lang/String" "coder" "B" (.int (1 : Int32))) (P3_Fld : Fld Z h0 x "java/lang/String" "value" "[B" (.ref t)) (P4_Arv : Arv Z h0 t kb .byte (6 : Int32) [(.int (StrChars.lo8 c0)), (.int (StrChars.hi8 c0)), (.int (StrChars.lo8 c1)), (.int (StrChars.hi8 c1)), (.int (StrChars.lo8 c2)), (.int (StrChars.hi8 c2))] (.int 0)) (O2 : Sta Z Z.heap "java/lang/String" "COMPACT_STRINGS" "Z" (.int G1)) (P5 : ¬ G1 = (0 : Int32)) (O4 : Sta Z Z.heap "jdk/internal/util/Preconditions" "SIOOBE_FORMATTER" "Ljava/util/function/BiFunction;" G3) (rG3 : G3.isRef = true) (SA : Sta Z Z.heap "java/lang/StringUTF16" "$assertionsDisabled" "Z" (.int 1)) (SH : Sta Z Z.heap "java/lang/StringUTF16" "HI_BYTE_SHIFT" "I" (.int 0)) (SLo : Sta Z Z.heap "java/lang/StringUTF16" "LO_BYTE_SHIFT" "I" (.int 8)) (r0 : ¬ c0 < 0 ∧ ¬ (65535 : Int32) < c0) (r1 : ¬ c1 < 0 ∧ ¬ (65535 : Int32) < c1) (r2 : ¬ c2 < 0 ∧ ¬ (65535 : Int32) < c2) :
    CtP l (⟨"java/lang/String", "charAt", "(I)C"⟩ : MethodName) jdk_42_method_56_code 2 (some .char) [] ({ frames := 4, cells := 0, slots := 0, locals := 53 } : Room) Z #[(.ref x), (.int (2 : Int32))] h0 (fun v h L => v = some (.int c2) ∧ Fr n0 L ∧ h = h0) := by
  refine CtP.walk (Ls := #[.val (.ref x), .val (.int (2 : Int32))]) own_pn6 (fun m => by rcases ref_cases rG3 with rfl | ⟨_, rfl⟩ <;> rfl) ?_
  intro p e s m below meth cc_ T hx hby hml hown hnm hret hlk hZ X eT
  have N := Fr.nil n0
  have sz_h : h0.size ≤ h0.size := Nat.le_refl _
  refine galoadN (v := (.ref x)) X hx 1 (hb hby own_d12_0) rfl rfl rfl ?_
  refine gvirtual (y := (⟨"java/lang/String", "isLatin1", "()Z"⟩ : MethodName)) (z := (⟨"java/lang/String", "isLatin1", "()Z"⟩ : MethodName)) (a := x) (argsL := []) (st := []) X hx hZ hown (own_w65 hw) (own_w66 hw) (notFace_of_selects (args := #[]) (mvT hZ (own_w68 hw))) (own_w68 hw) (own_w67 hw) (by decide) P1_Exa (payP (W := 0) (rm13 l Z a0 hw (x) (G1) h0 n0 (Nat.le_trans Z0 sz_h) P0_Old P2_Fld (O2) (P5)) hZ (own_w69 hw) (own_w9 hw) (by decide) (by decide)) eT (by rw [hml]; rfl) (lenOf own_pd12 rfl) rfl (Nat.le_of_eq rfl) 0 0 rfl rfl (by decide) (by decide) 4 (hb hby own_d12_1) rfl ?_
  clear X eT; clear T; intro v T h1 L2 Lc X eT hL hQ2
  obtain ⟨rfl, Nq, hh⟩ := hQ2
  replace N : Fr n0 L2 := by rw [hL]; exact Fr.app N Nq
  clear Nq hL
  replace hh := hh.symm; subst hh
  show Go p e below _ T (mkF m 4 #[.val (.ref x), .val (.int (2 : Int32))] [(.int (0 : Int32))])
  refine gifYes X hx 16 (hb hby own_d12_4) (by decide) (by decide) (by decide) ?_
  refine galoadN (v := (.ref x)) X hx 17 (hb hby own_d12_16) rfl rfl rfl ?_
  refine ggetF X hx hZ (host := "") hown (Or.inl (own_w34 hw)) Via.refl eT P3_Fld 20 (hb hby own_d12_17) rfl ?_
  clear X eT; clear T; intro T X eT
  refine giloadN (v := (2 : Int32)) X hx 21 (hb hby own_d12_20) rfl rfl ?_
  refine gstatic (y := (⟨"java/lang/StringUTF16", "charAt", "([BI)C"⟩ : MethodName)) (argsL := [(.ref t), (.int (2 : Int32))]) (st := []) X hx hZ hown (own_w107 hw) (own_w108 hw) (own_w23 hw) (own_w109 hw) (by decide) (payP (W := 0) (rmUCA3_2 l Z a0 hw (t) (kb) (G3) _ _ _ h0 n0 (Nat.le_trans Z0 sz_h) P0_Old P4_Arv (O4) (rG3) (SA) (SH) (SLo) (r0) (r1) (r2)) hZ (own_w109 hw) (own_w23 hw) (by decide) (by decide)) eT (by rw [hml]; rfl) (lenOf own_pd5 rfl) rfl (Nat.le_of_eq rfl) 0 0 rfl rfl (by decide) (by decide) 24 (hb hby own_d12_21) rfl ?_
  clear X eT; clear T; intro v T h5 L2 Lc X eT hL hQ6
  obtain ⟨rfl, Nq, hh⟩ := hQ6
  replace N : Fr n0 L2 := by rw [hL]; exact Fr.app N Nq
  clear Nq hL
  replace hh := hh.symm; subst hh
  show Go p e below _ T (mkF m 24 #[.val (.ref x), .val (.int (2 : Int32))] [(.int c2)])
  exact gRetP X hx hlk hret (own_narrow r2) (Or.inl ⟨rfl, by simp, _, rfl⟩) (hb hby own_d12_24) eT (by decide) (by decide) ⟨rfl, N, rfl⟩
set_option maxRecDepth 65536 in
set_option maxHeartbeats 40000000 in
theorem rmW1 (l : Launch) (Z : State) (a0 : Array Value) (hw : ∀ d ∈ tables_1, d.before a0 Z = true) (c : Int32) (h0 : Heap) (n0 : Nat) (Z0 : n0 ≤ h0.size) :
    CtP l (⟨"com/example/tagwire/tagwire/dtd/Names", "isWhitespace", "(C)Z"⟩ : MethodName) prog_38_method_6_code 1 (some .boolean) [] ({ frames := 0, cells := 0, slots := 0, locals := 0 } : Room) Z #[(.int c)] h0 (fun v h L => v = some (.int (own_ws c)) ∧ Fr n0 L ∧ h = h0) := by
  refine CtP.walk (Ls := #[.val (.int c)]) (plainFor_of_name own_pn7) (fun m => by first | (simp [entryFrame, mkF, argsToLocals, Value.category]; done) | rfl) ?_
  intro p e s m below meth cc_ T hx hby hml hown hnm hret hlk hZ X eT
  have N := Fr.nil n0
  have sz_h : h0.size ≤ h0.size := Nat.le_refl _
  refine giloadN (v := c) X hx 1 (hb hby own_d17_0) rfl rfl ?_
  refine gbipush X hx (32 : Int32) 3 (hb hby own_d17_1) rfl rfl ?_
  rcases Decidable.em (c = (32 : Int32)) with q0_3 | q0_3
  · refine gicmpYes X hx 24 (hb hby own_d17_3) (teq q0_3).1 (by decide) (by decide) ?_
    refine giconst X hx (1 : Int32) 25 (hb hby own_d17_24) rfl rfl ?_
    refine ggoto X hx 29 (hb hby own_d17_25) (by decide) (by decide) ?_
    exact gRetP X hx hlk hret rfl (Or.inl ⟨rfl, by simp, _, rfl⟩) (hb hby own_d17_29) eT (by decide) (by decide) ⟨(by rw [own_ws1 (Or.inl q0_3)]), N, rfl⟩
  · refine gicmpNo X hx 6 (hb hby own_d17_3) rfl (feq q0_3).1 ?_
    refine giloadN (v := c) X hx 7 (hb hby own_d17_6) rfl rfl ?_
    refine gbipush X hx (9 : Int32) 9 (hb hby own_d17_7) rfl rfl ?_
    rcases Decidable.em (c = (9 : Int32)) with q1_9 | q1_9
    · refine gicmpYes X hx 24 (hb hby own_d17_9) (teq q1_9).1 (by decide) (by decide) ?_
      refine giconst X hx (1 : Int32) 25 (hb hby own_d17_24) rfl rfl ?_
      refine ggoto X hx 29 (hb hby own_d17_25) (by decide) (by decide) ?_
      exact gRetP X hx hlk hret rfl (Or.inl ⟨rfl, by simp, _, rfl⟩) (hb hby own_d17_29) eT (by decide) (by decide) ⟨(by rw [own_ws1 (Or.inr (Or.inl q1_9))]), N, rfl⟩
    · refine gicmpNo X hx 12 (hb hby own_d17_9) rfl (feq q1_9).1 ?_
      refine giloadN (v := c) X hx 13 (hb hby own_d17_12) rfl rfl ?_
      refine gbipush X hx (13 : Int32) 15 (hb hby own_d17_13) rfl rfl ?_
      rcases Decidable.em (c = (13 : Int32)) with q2_15 | q2_15
      · refine gicmpYes X hx 24 (hb hby own_d17_15) (teq q2_15).1 (by decide) (by decide) ?_
        refine giconst X hx (1 : Int32) 25 (hb hby own_d17_24) rfl rfl ?_
        refine ggoto X hx 29 (hb hby own_d17_25) (by decide) (by decide) ?_
        exact gRetP X hx hlk hret rfl (Or.inl ⟨rfl, by simp, _, rfl⟩) (hb hby own_d17_29) eT (by decide) (by decide) ⟨(by rw [own_ws1 (Or.inr (Or.inr (Or.inl q2_15)))]), N, rfl⟩
      · refine gicmpNo X hx 18 (hb hby own_d17_15) rfl (feq q2_15).1 ?_
        refine giloadN (v := c) X hx 19 (hb hby own_d17_18) rfl rfl ?_
        refine gbipush X hx (10 : Int32) 21 (hb hby own_d17_19) rfl rfl ?_
        rcases Decidable.em (c = (10 : Int32)) with q3_21 | q3_21
        · refine gicmpNo X hx 24 (hb hby own_d17_21) rfl (teq q3_21).2 ?_
          refine giconst X hx (1 : Int32) 25 (hb hby own_d17_24) rfl rfl ?_
          refine ggoto X hx 29 (hb hby own_d17_25) (by decide) (by decide) ?_
          exact gRetP X hx hlk hret rfl (Or.inl ⟨rfl, by simp, _, rfl⟩) (hb hby own_d17_29) eT (by decide) (by decide) ⟨(by rw [own_ws1 (Or.inr (Or.inr (Or.inr (q3_21))))]), N, rfl⟩
        · refine gicmpYes X hx 28 (hb hby own_d17_21) (feq q3_21).2 (by decide) (by decide) ?_
          refine giconst X hx (0 : Int32) 29 (hb hby own_d17_28) rfl rfl ?_
          exact gRetP X hx hlk hret rfl (Or.inl ⟨rfl, by simp, _, rfl⟩) (hb hby own_d17_29) eT (by decide) (by decide) ⟨(by rw [own_ws0 q0_3 q1_9 q2_15 q3_21]), N, rfl⟩
set_option maxRecDepth 65536 in
set_option maxHeartbeats 40000000 in
theorem rmW2 (l : Launch) (Z : State) (a0 : Array Value) (hw : ∀ d ∈ tables_1, d.before a0 Z = true) (c : Int32) (h0 : Heap) (n0 : Nat) (Z0 : n0 ≤ h0.size) :
    CtP l (⟨"com/example/tagwire/tagwire/dtd/NamesIsWhitespacePinLaw", "ws", "(C)Z"⟩ : MethodName) method_3_code 2 (some .boolean) [] ({ frames := 0, cells := 0, slots := 0, locals := 0 } : Room) Z #[(.int c)] h0 (fun v h L => v = some (.int (own_ws c)) ∧ Fr n0 L ∧ h = h0) := by
  refine CtP.walk (Ls := #[.val (.int c), .unset]) (plainFor_of_name own_pn8) (fun m => by first | (simp [entryFrame, mkF, argsToLocals, Value.category]; done) | rfl) ?_
  intro p e s m below meth cc_ T hx hby hml hown hnm hret hlk hZ X eT
  have N := Fr.nil n0
  have sz_h : h0.size ≤ h0.size := Nat.le_refl _
  refine giloadN (v := c) X hx 1 (hb hby own_d8_0) rfl rfl ?_
  refine gistoreN X hx #[.val (.int c), .val (.int c)] 2 (hb hby own_d8_1) rfl rfl ?_
  refine giloadN (v := c) X hx 3 (hb hby own_d8_2) rfl rfl ?_
  refine gbipush X hx (32 : Int32) 5 (hb hby own_d8_3) rfl rfl ?_
  rcases Decidable.em (c = (32 : Int32)) with q0_5 | q0_5
  · refine gicmpYes X hx 26 (hb hby own_d8_5) (teq q0_5).1 (by decide) (by decide) ?_
    refine giconst X hx (1 : Int32) 27 (hb hby own_d8_26) rfl rfl ?_
    refine ggoto X hx 31 (hb hby own_d8_27) (by decide) (by decide) ?_
    exact gRetP X hx hlk hret rfl (Or.inl ⟨rfl, by simp, _, rfl⟩) (hb hby own_d8_31) eT (by decide) (by decide) ⟨(by rw [own_ws1 (Or.inl q0_5)]), N, rfl⟩
  · refine gicmpNo X hx 8 (hb hby own_d8_5) rfl (feq q0_5).1 ?_
    refine giloadN (v := c) X hx 9 (hb hby own_d8_8) rfl rfl ?_
    refine gbipush X hx (9 : Int32) 11 (hb hby own_d8_9) rfl rfl ?_
    rcases Decidable.em (c = (9 : Int32)) with q1_11 | q1_11
    · refine gicmpYes X hx 26 (hb hby own_d8_11) (teq q1_11).1 (by decide) (by decide) ?_
      refine giconst X hx (1 : Int32) 27 (hb hby own_d8_26) rfl rfl ?_
      refine ggoto X hx 31 (hb hby own_d8_27) (by decide) (by decide) ?_
      exact gRetP X hx hlk hret rfl (Or.inl ⟨rfl, by simp, _, rfl⟩) (hb hby own_d8_31) eT (by decide) (by decide) ⟨(by rw [own_ws1 (Or.inr (Or.inl q1_11))]), N, rfl⟩
    · refine gicmpNo X hx 14 (hb hby own_d8_11) rfl (feq q1_11).1 ?_
      refine giloadN (v := c) X hx 15 (hb hby own_d8_14) rfl rfl ?_
      refine gbipush X hx (13 : Int32) 17 (hb hby own_d8_15) rfl rfl ?_
      rcases Decidable.em (c = (13 : Int32)) with q2_17 | q2_17
      · refine gicmpYes X hx 26 (hb hby own_d8_17) (teq q2_17).1 (by decide) (by decide) ?_
        refine giconst X hx (1 : Int32) 27 (hb hby own_d8_26) rfl rfl ?_
        refine ggoto X hx 31 (hb hby own_d8_27) (by decide) (by decide) ?_
        exact gRetP X hx hlk hret rfl (Or.inl ⟨rfl, by simp, _, rfl⟩) (hb hby own_d8_31) eT (by decide) (by decide) ⟨(by rw [own_ws1 (Or.inr (Or.inr (Or.inl q2_17)))]), N, rfl⟩
      · refine gicmpNo X hx 20 (hb hby own_d8_17) rfl (feq q2_17).1 ?_
        refine giloadN (v := c) X hx 21 (hb hby own_d8_20) rfl rfl ?_
        refine gbipush X hx (10 : Int32) 23 (hb hby own_d8_21) rfl rfl ?_
        rcases Decidable.em (c = (10 : Int32)) with q3_23 | q3_23
        · refine gicmpNo X hx 26 (hb hby own_d8_23) rfl (teq q3_23).2 ?_
          refine giconst X hx (1 : Int32) 27 (hb hby own_d8_26) rfl rfl ?_
          refine ggoto X hx 31 (hb hby own_d8_27) (by decide) (by decide) ?_
          exact gRetP X hx hlk hret rfl (Or.inl ⟨rfl, by simp, _, rfl⟩) (hb hby own_d8_31) eT (by decide) (by decide) ⟨(by rw [own_ws1 (Or.inr (Or.inr (Or.inr (q3_23))))]), N, rfl⟩
        · refine gicmpYes X hx 30 (hb hby own_d8_23) (feq q3_23).2 (by decide) (by decide) ?_
          refine giconst X hx (0 : Int32) 31 (hb hby own_d8_30) rfl rfl ?_
          exact gRetP X hx hlk hret rfl (Or.inl ⟨rfl, by simp, _, rfl⟩) (hb hby own_d8_31) eT (by decide) (by decide) ⟨(by rw [own_ws0 q0_5 q1_11 q2_17 q3_23]), N, rfl⟩
set_option maxRecDepth 65536 in
set_option maxHeartbeats 40000000 in
theorem rmIL0 (l : Launch) (Z : State) (a0 : Array Value) (hw : ∀ d ∈ tables_1, d.before a0 Z = true) (x : Addr) (t : Addr) (G1 : Int32) (G3 : Value) (h0 : Heap) (n0 : Nat) (Z0 : n0 ≤ h0.size) (P0_Old : Old Z n0 h0) (P1_Str : Str Z h0 x t ([] : List Int32)) (O2 : Sta Z Z.heap "java/lang/String" "COMPACT_STRINGS" "Z" (.int G1)) (P5 : ¬ G1 = (0 : Int32)) (O4 : Sta Z Z.heap "jdk/internal/util/Preconditions" "SIOOBE_FORMATTER" "Ljava/util/function/BiFunction;" G3) (rG3 : G3.isRef = true) :
    CtP l (⟨"com/example/tagwire/tagwire/dtd/Names", "isWhitespace", "(Ljava/lang/CharSequence;)Z"⟩ : MethodName) prog_38_method_5_code 2 (some .boolean) [] ({ frames := 2, cells := 0, slots := 0, locals := 26 } : Room) Z #[(.ref x)] h0 (fun v h L => v = some (.int (own_aw ([] : List Int32))) ∧ Fr n0 L ∧ h = h0) := by
  refine CtP.walk (Ls := #[.val (.ref x), .unset]) (plainFor_of_name own_pn7) (fun m => by rcases ref_cases rG3 with rfl | ⟨_, rfl⟩ <;> rfl) ?_
  intro p e s m below meth cc_ T hx hby hml hown hnm hret hlk hZ X eT
  have N := Fr.nil n0
  have sz_h : h0.size ≤ h0.size := Nat.le_refl _
  refine giconst X hx (0 : Int32) 1 (hb hby own_d9_0) rfl rfl ?_
  refine gistoreN X hx #[.val (.ref x), .val (.int (0 : Int32))] 2 (hb hby own_d9_1) rfl rfl ?_
  refine giloadN (v := (0 : Int32)) X hx 3 (hb hby own_d9_2) rfl rfl ?_
  refine galoadN (v := (.ref x)) X hx 4 (hb hby own_d9_3) rfl rfl rfl ?_
  refine giface (y := (⟨"java/lang/CharSequence", "length", "()I"⟩ : MethodName)) (z := (⟨"java/lang/String", "length", "()I"⟩ : MethodName)) (a := x) (argsL := []) (st := [(.int (0 : Int32))]) X hx hZ hown (own_w43 hw) (own_w44 hw) (mvT hZ (own_w45 hw)) (own_w46 hw) (own_w47 hw) (own_w48 hw) (own_w49 hw) (own_w50 hw) (by decide) P1_Str.exa (payLen (W := 1) hZ hw P1_Str (O2.ext P0_Old.2) P5 (by decide) (by decide)) eT (by rw [hml]; rfl) (lenOf own_pd13 rfl) rfl (Nat.le_of_eq rfl) 0 0 rfl rfl (by decide) (by decide) 9 (hb hby own_d9_4) rfl ?_
  clear X eT; clear T; intro v T h1 L2 Lc X eT hL hQ2
  obtain ⟨rfl, rfl, hh⟩ := hQ2
  replace hh := hh.symm; subst hh
  replace N : Fr n0 L2 := by rw [hL]; exact Fr.app N (Fr.nil n0)
  clear hL
  show Go p e below _ T (mkF m 9 #[.val (.ref x), .val (.int (0 : Int32))] [(.int (0 : Int32)), (.int (0 : Int32))])
  refine gicmpYes X hx 33 (hb hby own_d9_9) (by decide) (by decide) (by decide) ?_
  refine giconst X hx (1 : Int32) 34 (hb hby own_d9_33) rfl rfl ?_
  exact gRetP X hx hlk hret rfl (Or.inl ⟨rfl, by simp, _, rfl⟩) (hb hby own_d9_34) eT (by decide) (by decide) ⟨(by simp [own_aw]), N, rfl⟩
set_option maxRecDepth 65536 in
set_option maxHeartbeats 40000000 in
theorem rmIL1 (l : Launch) (Z : State) (a0 : Array Value) (hw : ∀ d ∈ tables_1, d.before a0 Z = true) (x : Addr) (t : Addr) (G1 : Int32) (G3 : Value) (c0 : Int32) (h0 : Heap) (n0 : Nat) (Z0 : n0 ≤ h0.size) (P0_Old : Old Z n0 h0) (P1_Str : Str Z h0 x t ([c0] : List Int32)) (O2 : Sta Z Z.heap "java/lang/String" "COMPACT_STRINGS" "Z" (.int G1)) (P5 : ¬ G1 = (0 : Int32)) (O4 : Sta Z Z.heap "jdk/internal/util/Preconditions" "SIOOBE_FORMATTER" "Ljava/util/function/BiFunction;" G3) (rG3 : G3.isRef = true) :
    CtP l (⟨"com/example/tagwire/tagwire/dtd/Names", "isWhitespace", "(Ljava/lang/CharSequence;)Z"⟩ : MethodName) prog_38_method_5_code 2 (some .boolean) [] ({ frames := 4, cells := 0, slots := 0, locals := 53 } : Room) Z #[(.ref x)] h0 (fun v h L => v = some (.int (own_aw ([c0] : List Int32))) ∧ Fr n0 L ∧ h = h0) := by
  refine CtP.walk (Ls := #[.val (.ref x), .unset]) (plainFor_of_name own_pn7) (fun m => by rcases ref_cases rG3 with rfl | ⟨_, rfl⟩ <;> rfl) ?_
  intro p e s m below meth cc_ T hx hby hml hown hnm hret hlk hZ X eT
  have N := Fr.nil n0
  have sz_h : h0.size ≤ h0.size := Nat.le_refl _
  refine giconst X hx (0 : Int32) 1 (hb hby own_d9_0) rfl rfl ?_
  refine gistoreN X hx #[.val (.ref x), .val (.int (0 : Int32))] 2 (hb hby own_d9_1) rfl rfl ?_
  refine giloadN (v := (0 : Int32)) X hx 3 (hb hby own_d9_2) rfl rfl ?_
  refine galoadN (v := (.ref x)) X hx 4 (hb hby own_d9_3) rfl rfl rfl ?_
  refine giface (y := (⟨"java/lang/CharSequence", "length", "()I"⟩ : MethodName)) (z := (⟨"java/lang/String", "length", "()I"⟩ : MethodName)) (a := x) (argsL := []) (st := [(.int (0 : Int32))]) X hx hZ hown (own_w43 hw) (own_w44 hw) (mvT hZ (own_w45 hw)) (own_w46 hw) (own_w47 hw) (own_w48 hw) (own_w49 hw) (own_w50 hw) (by decide) P1_Str.exa (payLen (W := 1) hZ hw P1_Str (O2.ext P0_Old.2) P5 (by decide) (by decide)) eT (by rw [hml]; rfl) (lenOf own_pd13 rfl) rfl (Nat.le_of_eq rfl) 0 0 rfl rfl (by decide) (by decide) 9 (hb hby own_d9_4) rfl ?_
  clear X eT; clear T; intro v T h1 L2 Lc X eT hL hQ2
  obtain ⟨rfl, rfl, hh⟩ := hQ2
  replace hh := hh.symm; subst hh
  replace N : Fr n0 L2 := by rw [hL]; exact Fr.app N (Fr.nil n0)
  clear hL
  show Go p e below _ T (mkF m 9 #[.val (.ref x), .val (.int (0 : Int32))] [(.int (1 : Int32)), (.int (0 : Int32))])
  refine gicmpNo X hx 12 (hb hby own_d9_9) rfl (by decide) ?_
  refine galoadN (v := (.ref x)) X hx 13 (hb hby own_d9_12) rfl rfl rfl ?_
  refine giloadN (v := (0 : Int32)) X hx 14 (hb hby own_d9_13) rfl rfl ?_
  refine giface (y := (⟨"java/lang/CharSequence", "charAt", "(I)C"⟩ : MethodName)) (z := (⟨"java/lang/String", "charAt", "(I)C"⟩ : MethodName)) (a := x) (argsL := [(.int (0 : Int32))]) (st := []) X hx hZ hown (own_w57 hw) (own_w58 hw) (mvT hZ (own_w59 hw)) (own_w60 hw) (own_w61 hw) (own_w62 hw) (own_w63 hw) (own_w50 hw) (by decide) P1_Str.exa (payChr (W := 0) (i := 0) hZ hw P1_Str (O2.ext P0_Old.2) P5 (O4.ext P0_Old.2) rG3 (Nat.le_of_ble_eq_true rfl) rfl (by decide) (by decide)) eT (by rw [hml]; rfl) (lenOf own_pd14 rfl) rfl (Nat.le_of_eq rfl) 0 0 rfl rfl (by decide) (by decide) 19 (hb hby own_d9_14) rfl ?_
  clear X eT; clear T; intro v T h3 L2 Lc X eT hL hQ4
  obtain ⟨rfl, rfl, hh⟩ := hQ4
  replace hh := hh.symm; subst hh
  replace N : Fr n0 L2 := by rw [hL]; exact Fr.app N (Fr.nil n0)
  clear hL
  show Go p e below _ T (mkF m 19 #[.val (.ref x), .val (.int (0 : Int32))] [(.int c0)])
  refine gstatic (y := (⟨"com/example/tagwire/tagwire/dtd/Names", "isWhitespace", "(C)Z"⟩ : MethodName)) (argsL := [(.int c0)]) (st := []) X hx hZ hown (own_w82 hw) (own_w83 hw) (own_w41 hw) (own_w84 hw) (by decide) (payP (W := 0) (rmW1 l Z a0 hw (c0) h0 n0 (Nat.le_trans Z0 sz_h)) hZ (own_w84 hw) (own_w41 hw) (by decide) (by decide)) eT (by rw [hml]; rfl) (lenOf own_pd15 rfl) rfl (Nat.le_of_eq rfl) 0 0 rfl rfl (by decide) (by decide) 22 (hb hby own_d9_19) rfl ?_
  clear X eT; clear T; intro v T h5 L2 Lc X eT hL hQ6
  obtain ⟨rfl, Nq, hh⟩ := hQ6
  replace N : Fr n0 L2 := by rw [hL]; exact Fr.app N Nq
  clear Nq hL
  replace hh := hh.symm; subst hh
  show Go p e below _ T (mkF m 22 #[.val (.ref x), .val (.int (0 : Int32))] [(.int (own_ws c0))])
  rcases Decidable.em ((own_ws c0) = (0 : Int32)) with z0_22 | z0_22
  · refine gifNo X hx 25 (hb hby own_d9_22) rfl ((if0 _ _).trans (teq z0_22).2) ?_
    refine giconst X hx (0 : Int32) 26 (hb hby own_d9_25) rfl rfl ?_
    exact gRetP X hx hlk hret rfl (Or.inl ⟨rfl, by simp, _, rfl⟩) (hb hby own_d9_26) eT (by decide) (by decide) ⟨(by simp [own_aw, z0_22]), N, rfl⟩
  · refine gifYes X hx 27 (hb hby own_d9_22) ((if0 _ _).trans (feq z0_22).2) (by decide) (by decide) ?_
    refine giinc X hx #[.val (.ref x), .val (.int (1 : Int32))] 30 (hb hby own_d9_27) rfl rfl rfl ?_
    refine ggoto X hx 2 (hb hby own_d9_30) (by decide) (by decide) ?_
    refine giloadN (v := (1 : Int32)) X hx 3 (hb hby own_d9_2) rfl rfl ?_
    refine galoadN (v := (.ref x)) X hx 4 (hb hby own_d9_3) rfl rfl rfl ?_
    refine giface (y := (⟨"java/lang/CharSequence", "length", "()I"⟩ : MethodName)) (z := (⟨"java/lang/String", "length", "()I"⟩ : MethodName)) (a := x) (argsL := []) (st := [(.int (1 : Int32))]) X hx hZ hown (own_w43 hw) (own_w44 hw) (mvT hZ (own_w45 hw)) (own_w46 hw) (own_w47 hw) (own_w48 hw) (own_w49 hw) (own_w50 hw) (by decide) P1_Str.exa (payLen (W := 1) hZ hw P1_Str (O2.ext P0_Old.2) P5 (by decide) (by decide)) eT (by rw [hml]; rfl) (lenOf own_pd13 rfl) rfl (Nat.le_of_eq rfl) 0 0 rfl rfl (by decide) (by decide) 9 (hb hby own_d9_4) rfl ?_
    clear X eT; clear T; intro v T h9 L2 Lc X eT hL hQ10
    obtain ⟨rfl, rfl, hh⟩ := hQ10
    replace hh := hh.symm; subst hh
    replace N : Fr n0 L2 := by rw [hL]; exact Fr.app N (Fr.nil n0)
    clear hL
    show Go p e below _ T (mkF m 9 #[.val (.ref x), .val (.int (1 : Int32))] [(.int (1 : Int32)), (.int (1 : Int32))])
    refine gicmpYes X hx 33 (hb hby own_d9_9) (by decide) (by decide) (by decide) ?_
    refine giconst X hx (1 : Int32) 34 (hb hby own_d9_33) rfl rfl ?_
    exact gRetP X hx hlk hret rfl (Or.inl ⟨rfl, by simp, _, rfl⟩) (hb hby own_d9_34) eT (by decide) (by decide) ⟨(by simp [own_aw, z0_22]), N, rfl⟩
set_option maxRecDepth 65536 in
set_option maxHeartbeats 40000000 in
theorem rmIU1 (l : Launch) (Z : State) (a0 : Array Value) (hw : ∀ d ∈ tables_1, d.before a0 Z = true) (x : Addr) (t : Addr) (kb : ClassId) (G1 : Int32) (G3 : Value) (c0 : Int32) (h0 : Heap) (n0 : Nat) (Z0 : n0 ≤ h0.size) (P0_Old : Old Z n0 h0) (P1_Exa : Exa Z h0 x "java/lang/String") (P2_Fld : Fld Z h0 x "java/lang/String" "coder" "B" (.int (1 : Int32))) (P3_Fld : Fld Z h0 x "java/lang/String" "value" "[B" (.ref t)) (P4_Arv : Arv Z h0 t kb .byte (2 : Int32) [(.int (StrChars.lo8 c0)), (.int (StrChars.hi8 c0))] (.int 0)) (O2 : Sta Z Z.heap "java/lang/String" "COMPACT_STRINGS" "Z" (.int G1)) (P5 : ¬ G1 = (0 : Int32)) (O4 : Sta Z Z.heap "jdk/internal/util/Preconditions" "SIOOBE_FORMATTER" "Ljava/util/function/BiFunction;" G3) (rG3 : G3.isRef = true) (SA : Sta Z Z.heap "java/lang/StringUTF16" "$assertionsDisabled" "Z" (.int 1)) (SH : Sta Z Z.heap "java/lang/StringUTF16" "HI_BYTE_SHIFT" "I" (.int 0)) (SLo : Sta Z Z.heap "java/lang/StringUTF16" "LO_BYTE_SHIFT" "I" (.int 8)) (r0 : ¬ c0 < 0 ∧ ¬ (65535 : Int32) < c0) (hex : ∃ c ∈ ([c0] : List Int32), 255 < c) :
    CtP l (⟨"com/example/tagwire/tagwire/dtd/Names", "isWhitespace", "(Ljava/lang/CharSequence;)Z"⟩ : MethodName) prog_38_method_5_code 2 (some .boolean) [] ({ frames := 5, cells := 0, slots := 0, locals := 66 } : Room) Z #[(.ref x)] h0 (fun v h L => v = some (.int (own_aw ([c0] : List Int32))) ∧ Fr n0 L ∧ h = h0) := by
  refine CtP.walk (Ls := #[.val (.ref x), .unset]) (plainFor_of_name own_pn7) (fun m => by rcases ref_cases rG3 with rfl | ⟨_, rfl⟩ <;> rfl) ?_
  intro p e s m below meth cc_ T hx hby hml hown hnm hret hlk hZ X eT
  have N := Fr.nil n0
  have sz_h : h0.size ≤ h0.size := Nat.le_refl _
  refine giconst X hx (0 : Int32) 1 (hb hby own_d9_0) rfl rfl ?_
  refine gistoreN X hx #[.val (.ref x), .val (.int (0 : Int32))] 2 (hb hby own_d9_1) rfl rfl ?_
  refine giloadN (v := (0 : Int32)) X hx 3 (hb hby own_d9_2) rfl rfl ?_
  refine galoadN (v := (.ref x)) X hx 4 (hb hby own_d9_3) rfl rfl rfl ?_
  refine giface (y := (⟨"java/lang/CharSequence", "length", "()I"⟩ : MethodName)) (z := (⟨"java/lang/String", "length", "()I"⟩ : MethodName)) (a := x) (argsL := []) (st := [(.int (0 : Int32))]) X hx hZ hown (own_w43 hw) (own_w44 hw) (mvT hZ (own_w45 hw)) (own_w46 hw) (own_w47 hw) (own_w48 hw) (own_w49 hw) (own_w50 hw) (by decide) P1_Exa (payLenU (W := 1) (cs := ([c0] : List Int32)) hZ hw P1_Exa P3_Fld P2_Fld P4_Arv rfl rfl hex (own_cS r0 own_c0) (O2.ext P0_Old.2) P5 (Nat.le_of_ble_eq_true rfl) (by decide) (by decide)) eT (by rw [hml]; rfl) (lenOf own_pd13 rfl) rfl (Nat.le_of_eq rfl) 0 0 rfl rfl (by decide) (by decide) 9 (hb hby own_d9_4) rfl ?_
  clear X eT; clear T; intro v T h1 L2 Lc X eT hL hQ2
  obtain ⟨rfl, rfl, hh⟩ := hQ2
  replace hh := hh.symm; subst hh
  replace N : Fr n0 L2 := by rw [hL]; exact Fr.app N (Fr.nil n0)
  clear hL
  show Go p e below _ T (mkF m 9 #[.val (.ref x), .val (.int (0 : Int32))] [(.int (1 : Int32)), (.int (0 : Int32))])
  refine gicmpNo X hx 12 (hb hby own_d9_9) rfl (by decide) ?_
  refine galoadN (v := (.ref x)) X hx 13 (hb hby own_d9_12) rfl rfl rfl ?_
  refine giloadN (v := (0 : Int32)) X hx 14 (hb hby own_d9_13) rfl rfl ?_
  refine giface (y := (⟨"java/lang/CharSequence", "charAt", "(I)C"⟩ : MethodName)) (z := (⟨"java/lang/String", "charAt", "(I)C"⟩ : MethodName)) (a := x) (argsL := [(.int (0 : Int32))]) (st := []) X hx hZ hown (own_w57 hw) (own_w58 hw) (mvT hZ (own_w59 hw)) (own_w60 hw) (own_w61 hw) (own_w62 hw) (own_w63 hw) (own_w50 hw) (by decide) P1_Exa (payP (W := 0) (rmSCA1_0 l Z a0 hw (x) (t) (kb) (G1) (G3) _ h0 n0 (Nat.le_trans Z0 sz_h) P0_Old P1_Exa P2_Fld P3_Fld P4_Arv (O2) (P5) (O4) (rG3) (SA) (SH) (SLo) (r0)) hZ (own_w64 hw) (own_w9 hw) (by decide) (by decide)) eT (by rw [hml]; rfl) (lenOf own_pd14 rfl) rfl (Nat.le_of_eq rfl) 0 0 rfl rfl (by decide) (by decide) 19 (hb hby own_d9_14) rfl ?_
  clear X eT; clear T; intro v T h3 L2 Lc X eT hL hQ4
  obtain ⟨rfl, Nq, hh⟩ := hQ4
  replace N : Fr n0 L2 := by rw [hL]; exact Fr.app N Nq
  clear Nq hL
  replace hh := hh.symm; subst hh
  show Go p e below _ T (mkF m 19 #[.val (.ref x), .val (.int (0 : Int32))] [(.int c0)])
  refine gstatic (y := (⟨"com/example/tagwire/tagwire/dtd/Names", "isWhitespace", "(C)Z"⟩ : MethodName)) (argsL := [(.int c0)]) (st := []) X hx hZ hown (own_w82 hw) (own_w83 hw) (own_w41 hw) (own_w84 hw) (by decide) (payP (W := 0) (rmW1 l Z a0 hw (c0) h0 n0 (Nat.le_trans Z0 sz_h)) hZ (own_w84 hw) (own_w41 hw) (by decide) (by decide)) eT (by rw [hml]; rfl) (lenOf own_pd15 rfl) rfl (Nat.le_of_eq rfl) 0 0 rfl rfl (by decide) (by decide) 22 (hb hby own_d9_19) rfl ?_
  clear X eT; clear T; intro v T h7 L2 Lc X eT hL hQ8
  obtain ⟨rfl, Nq, hh⟩ := hQ8
  replace N : Fr n0 L2 := by rw [hL]; exact Fr.app N Nq
  clear Nq hL
  replace hh := hh.symm; subst hh
  show Go p e below _ T (mkF m 22 #[.val (.ref x), .val (.int (0 : Int32))] [(.int (own_ws c0))])
  rcases Decidable.em ((own_ws c0) = (0 : Int32)) with z0_22 | z0_22
  · refine gifNo X hx 25 (hb hby own_d9_22) rfl ((if0 _ _).trans (teq z0_22).2) ?_
    refine giconst X hx (0 : Int32) 26 (hb hby own_d9_25) rfl rfl ?_
    exact gRetP X hx hlk hret rfl (Or.inl ⟨rfl, by simp, _, rfl⟩) (hb hby own_d9_26) eT (by decide) (by decide) ⟨(by simp [own_aw, z0_22]), N, rfl⟩
  · refine gifYes X hx 27 (hb hby own_d9_22) ((if0 _ _).trans (feq z0_22).2) (by decide) (by decide) ?_
    refine giinc X hx #[.val (.ref x), .val (.int (1 : Int32))] 30 (hb hby own_d9_27) rfl rfl rfl ?_
    refine ggoto X hx 2 (hb hby own_d9_30) (by decide) (by decide) ?_
    refine giloadN (v := (1 : Int32)) X hx 3 (hb hby own_d9_2) rfl rfl ?_
    refine galoadN (v := (.ref x)) X hx 4 (hb hby own_d9_3) rfl rfl rfl ?_
    refine giface (y := (⟨"java/lang/CharSequence", "length", "()I"⟩ : MethodName)) (z := (⟨"java/lang/String", "length", "()I"⟩ : MethodName)) (a := x) (argsL := []) (st := [(.int (1 : Int32))]) X hx hZ hown (own_w43 hw) (own_w44 hw) (mvT hZ (own_w45 hw)) (own_w46 hw) (own_w47 hw) (own_w48 hw) (own_w49 hw) (own_w50 hw) (by decide) P1_Exa (payLenU (W := 1) (cs := ([c0] : List Int32)) hZ hw P1_Exa P3_Fld P2_Fld P4_Arv rfl rfl hex (own_cS r0 own_c0) (O2.ext P0_Old.2) P5 (Nat.le_of_ble_eq_true rfl) (by decide) (by decide)) eT (by rw [hml]; rfl) (lenOf own_pd13 rfl) rfl (Nat.le_of_eq rfl) 0 0 rfl rfl (by decide) (by decide) 9 (hb hby own_d9_4) rfl ?_
    clear X eT; clear T; intro v T h11 L2 Lc X eT hL hQ12
    obtain ⟨rfl, rfl, hh⟩ := hQ12
    replace hh := hh.symm; subst hh
    replace N : Fr n0 L2 := by rw [hL]; exact Fr.app N (Fr.nil n0)
    clear hL
    show Go p e below _ T (mkF m 9 #[.val (.ref x), .val (.int (1 : Int32))] [(.int (1 : Int32)), (.int (1 : Int32))])
    refine gicmpYes X hx 33 (hb hby own_d9_9) (by decide) (by decide) (by decide) ?_
    refine giconst X hx (1 : Int32) 34 (hb hby own_d9_33) rfl rfl ?_
    exact gRetP X hx hlk hret rfl (Or.inl ⟨rfl, by simp, _, rfl⟩) (hb hby own_d9_34) eT (by decide) (by decide) ⟨(by simp [own_aw, z0_22]), N, rfl⟩
set_option maxRecDepth 65536 in
set_option maxHeartbeats 40000000 in
theorem rmIL2 (l : Launch) (Z : State) (a0 : Array Value) (hw : ∀ d ∈ tables_1, d.before a0 Z = true) (x : Addr) (t : Addr) (G1 : Int32) (G3 : Value) (c0 : Int32) (c1 : Int32) (h0 : Heap) (n0 : Nat) (Z0 : n0 ≤ h0.size) (P0_Old : Old Z n0 h0) (P1_Str : Str Z h0 x t ([c0, c1] : List Int32)) (O2 : Sta Z Z.heap "java/lang/String" "COMPACT_STRINGS" "Z" (.int G1)) (P5 : ¬ G1 = (0 : Int32)) (O4 : Sta Z Z.heap "jdk/internal/util/Preconditions" "SIOOBE_FORMATTER" "Ljava/util/function/BiFunction;" G3) (rG3 : G3.isRef = true) :
    CtP l (⟨"com/example/tagwire/tagwire/dtd/Names", "isWhitespace", "(Ljava/lang/CharSequence;)Z"⟩ : MethodName) prog_38_method_5_code 2 (some .boolean) [] ({ frames := 4, cells := 0, slots := 0, locals := 53 } : Room) Z #[(.ref x)] h0 (fun v h L => v = some (.int (own_aw ([c0, c1] : List Int32))) ∧ Fr n0 L ∧ h = h0) := by
  refine CtP.walk (Ls := #[.val (.ref x), .unset]) (plainFor_of_name own_pn7) (fun m => by rcases ref_cases rG3 with rfl | ⟨_, rfl⟩ <;> rfl) ?_
  intro p e s m below meth cc_ T hx hby hml hown hnm hret hlk hZ X eT
  have N := Fr.nil n0
  have sz_h : h0.size ≤ h0.size := Nat.le_refl _
  refine giconst X hx (0 : Int32) 1 (hb hby own_d9_0) rfl rfl ?_
  refine gistoreN X hx #[.val (.ref x), .val (.int (0 : Int32))] 2 (hb hby own_d9_1) rfl rfl ?_
  refine giloadN (v := (0 : Int32)) X hx 3 (hb hby own_d9_2) rfl rfl ?_
  refine galoadN (v := (.ref x)) X hx 4 (hb hby own_d9_3) rfl rfl rfl ?_
  refine giface (y := (⟨"java/lang/CharSequence", "length", "()I"⟩ : MethodName)) (z := (⟨"java/lang/String", "length", "()I"⟩ : MethodName)) (a := x) (argsL := []) (st := [(.int (0 : Int32))]) X hx hZ hown (own_w43 hw) (own_w44 hw) (mvT hZ (own_w45 hw)) (own_w46 hw) (own_w47 hw) (own_w48 hw) (own_w49 hw) (own_w50 hw) (by decide) P1_Str.exa (payLen (W := 1) hZ hw P1_Str (O2.ext P0_Old.2) P5 (by decide) (by decide)) eT (by rw [hml]; rfl) (lenOf own_pd13 rfl) rfl (Nat.le_of_eq rfl) 0 0 rfl rfl (by decide) (by decide) 9 (hb hby own_d9_4) rfl ?_
  clear X eT; clear T; intro v T h1 L2 Lc X eT hL hQ2
  obtain ⟨rfl, rfl, hh⟩ := hQ2
  replace hh := hh.symm; subst hh
  replace N : Fr n0 L2 := by rw [hL]; exact Fr.app N (Fr.nil n0)
  clear hL
  show Go p e below _ T (mkF m 9 #[.val (.ref x), .val (.int (0 : Int32))] [(.int (2 : Int32)), (.int (0 : Int32))])
  refine gicmpNo X hx 12 (hb hby own_d9_9) rfl (by decide) ?_
  refine galoadN (v := (.ref x)) X hx 13 (hb hby own_d9_12) rfl rfl rfl ?_
  refine giloadN (v := (0 : Int32)) X hx 14 (hb hby own_d9_13) rfl rfl ?_
  refine giface (y := (⟨"java/lang/CharSequence", "charAt", "(I)C"⟩ : MethodName)) (z := (⟨"java/lang/String", "charAt", "(I)C"⟩ : MethodName)) (a := x) (argsL := [(.int (0 : Int32))]) (st := []) X hx hZ hown (own_w57 hw) (own_w58 hw) (mvT hZ (own_w59 hw)) (own_w60 hw) (own_w61 hw) (own_w62 hw) (own_w63 hw) (own_w50 hw) (by decide) P1_Str.exa (payChr (W := 0) (i := 0) hZ hw P1_Str (O2.ext P0_Old.2) P5 (O4.ext P0_Old.2) rG3 (Nat.le_of_ble_eq_true rfl) rfl (by decide) (by decide)) eT (by rw [hml]; rfl) (lenOf own_pd14 rfl) rfl (Nat.le_of_eq rfl) 0 0 rfl rfl (by decide) (by decide) 19 (hb hby own_d9_14) rfl ?_
  clear X eT; clear T; intro v T h3 L2 Lc X eT hL hQ4
  obtain ⟨rfl, rfl, hh⟩ := hQ4
  replace hh := hh.symm; subst hh
  replace N : Fr n0 L2 := by rw [hL]; exact Fr.app N (Fr.nil n0)
  clear hL
  show Go p e below _ T (mkF m 19 #[.val (.ref x), .val (.int (0 : Int32))] [(.int c0)])
  refine gstatic (y := (⟨"com/example/tagwire/tagwire/dtd/Names", "isWhitespace", "(C)Z"⟩ : MethodName)) (argsL := [(.int c0)]) (st := []) X hx hZ hown (own_w82 hw) (own_w83 hw) (own_w41 hw) (own_w84 hw) (by decide) (payP (W := 0) (rmW1 l Z a0 hw (c0) h0 n0 (Nat.le_trans Z0 sz_h)) hZ (own_w84 hw) (own_w41 hw) (by decide) (by decide)) eT (by rw [hml]; rfl) (lenOf own_pd15 rfl) rfl (Nat.le_of_eq rfl) 0 0 rfl rfl (by decide) (by decide) 22 (hb hby own_d9_19) rfl ?_
  clear X eT; clear T; intro v T h5 L2 Lc X eT hL hQ6
  obtain ⟨rfl, Nq, hh⟩ := hQ6
  replace N : Fr n0 L2 := by rw [hL]; exact Fr.app N Nq
  clear Nq hL
  replace hh := hh.symm; subst hh
  show Go p e below _ T (mkF m 22 #[.val (.ref x), .val (.int (0 : Int32))] [(.int (own_ws c0))])
  rcases Decidable.em ((own_ws c0) = (0 : Int32)) with z0_22 | z0_22
  · refine gifNo X hx 25 (hb hby own_d9_22) rfl ((if0 _ _).trans (teq z0_22).2) ?_
    refine giconst X hx (0 : Int32) 26 (hb hby own_d9_25) rfl rfl ?_
    exact gRetP X hx hlk hret rfl (Or.inl ⟨rfl, by simp, _, rfl⟩) (hb hby own_d9_26) eT (by decide) (by decide) ⟨(by simp [own_aw, z0_22]), N, rfl⟩
  · refine gifYes X hx 27 (hb hby own_d9_22) ((if0 _ _).trans (feq z0_22).2) (by decide) (by decide) ?_
    refine giinc X hx #[.val (.ref x), .val (.int (1 : Int32))] 30 (hb hby own_d9_27) rfl rfl rfl ?_
    refine ggoto X hx 2 (hb hby own_d9_30) (by decide) (by decide) ?_
    refine giloadN (v := (1 : Int32)) X hx 3 (hb hby own_d9_2) rfl rfl ?_
    refine galoadN (v := (.ref x)) X hx 4 (hb hby own_d9_3) rfl rfl rfl ?_
    refine giface (y := (⟨"java/lang/CharSequence", "length", "()I"⟩ : MethodName)) (z := (⟨"java/lang/String", "length", "()I"⟩ : MethodName)) (a := x) (argsL := []) (st := [(.int (1 : Int32))]) X hx hZ hown (own_w43 hw) (own_w44 hw) (mvT hZ (own_w45 hw)) (own_w46 hw) (own_w47 hw) (own_w48 hw) (own_w49 hw) (own_w50 hw) (by decide) P1_Str.exa (payLen (W := 1) hZ hw P1_Str (O2.ext P0_Old.2) P5 (by decide) (by decide)) eT (by rw [hml]; rfl) (lenOf own_pd13 rfl) rfl (Nat.le_of_eq rfl) 0 0 rfl rfl (by decide) (by decide) 9 (hb hby own_d9_4) rfl ?_
    clear X eT; clear T; intro v T h9 L2 Lc X eT hL hQ10
    obtain ⟨rfl, rfl, hh⟩ := hQ10
    replace hh := hh.symm; subst hh
    replace N : Fr n0 L2 := by rw [hL]; exact Fr.app N (Fr.nil n0)
    clear hL
    show Go p e below _ T (mkF m 9 #[.val (.ref x), .val (.int (1 : Int32))] [(.int (2 : Int32)), (.int (1 : Int32))])
    refine gicmpNo X hx 12 (hb hby own_d9_9) rfl (by decide) ?_
    refine galoadN (v := (.ref x)) X hx 13 (hb hby own_d9_12) rfl rfl rfl ?_
    refine giloadN (v := (1 : Int32)) X hx 14 (hb hby own_d9_13) rfl rfl ?_
    refine giface (y := (⟨"java/lang/CharSequence", "charAt", "(I)C"⟩ : MethodName)) (z := (⟨"java/lang/String", "charAt", "(I)C"⟩ : MethodName)) (a := x) (argsL := [(.int (1 : Int32))]) (st := []) X hx hZ hown (own_w57 hw) (own_w58 hw) (mvT hZ (own_w59 hw)) (own_w60 hw) (own_w61 hw) (own_w62 hw) (own_w63 hw) (own_w50 hw) (by decide) P1_Str.exa (payChr (W := 0) (i := 1) hZ hw P1_Str (O2.ext P0_Old.2) P5 (O4.ext P0_Old.2) rG3 (Nat.le_of_ble_eq_true rfl) rfl (by decide) (by decide)) eT (by rw [hml]; rfl) (lenOf own_pd14 rfl) rfl (Nat.le_of_eq rfl) 0 0 rfl rfl (by decide) (by decide) 19 (hb hby own_d9_14) rfl ?_
    clear X eT; clear T; intro v T h11 L2 Lc X eT hL hQ12
    obtain ⟨rfl, rfl, hh⟩ := hQ12
    replace hh := hh.symm; subst hh
    replace N : Fr n0 L2 := by rw [hL]; exact Fr.app N (Fr.nil n0)
    clear hL
    show Go p e below _ T (mkF m 19 #[.val (.ref x), .val (.int (1 : Int32))] [(.int c1)])
    refine gstatic (y := (⟨"com/example/tagwire/tagwire/dtd/Names", "isWhitespace", "(C)Z"⟩ : MethodName)) (argsL := [(.int c1)]) (st := []) X hx hZ hown (own_w82 hw) (own_w83 hw) (own_w41 hw) (own_w84 hw) (by decide) (payP (W := 0) (rmW1 l Z a0 hw (c1) h0 n0 (Nat.le_trans Z0 sz_h)) hZ (own_w84 hw) (own_w41 hw) (by decide) (by decide)) eT (by rw [hml]; rfl) (lenOf own_pd15 rfl) rfl (Nat.le_of_eq rfl) 0 0 rfl rfl (by decide) (by decide) 22 (hb hby own_d9_19) rfl ?_
    clear X eT; clear T; intro v T h13 L2 Lc X eT hL hQ14
    obtain ⟨rfl, Nq, hh⟩ := hQ14
    replace N : Fr n0 L2 := by rw [hL]; exact Fr.app N Nq
    clear Nq hL
    replace hh := hh.symm; subst hh
    show Go p e below _ T (mkF m 22 #[.val (.ref x), .val (.int (1 : Int32))] [(.int (own_ws c1))])
    rcases Decidable.em ((own_ws c1) = (0 : Int32)) with z1_22 | z1_22
    · refine gifNo X hx 25 (hb hby own_d9_22) rfl ((if0 _ _).trans (teq z1_22).2) ?_
      refine giconst X hx (0 : Int32) 26 (hb hby own_d9_25) rfl rfl ?_
      exact gRetP X hx hlk hret rfl (Or.inl ⟨rfl, by simp, _, rfl⟩) (hb hby own_d9_26) eT (by decide) (by decide) ⟨(by simp [own_aw, z0_22, z1_22]), N, rfl⟩
    · refine gifYes X hx 27 (hb hby own_d9_22) ((if0 _ _).trans (feq z1_22).2) (by decide) (by decide) ?_
      refine giinc X hx #[.val (.ref x), .val (.int (2 : Int32))] 30 (hb hby own_d9_27) rfl rfl rfl ?_
      refine ggoto X hx 2 (hb hby own_d9_30) (by decide) (by decide) ?_
      refine giloadN (v := (2 : Int32)) X hx 3 (hb hby own_d9_2) rfl rfl ?_
      refine galoadN (v := (.ref x)) X hx 4 (hb hby own_d9_3) rfl rfl rfl ?_
      refine giface (y := (⟨"java/lang/CharSequence", "length", "()I"⟩ : MethodName)) (z := (⟨"java/lang/String", "length", "()I"⟩ : MethodName)) (a := x) (argsL := []) (st := [(.int (2 : Int32))]) X hx hZ hown (own_w43 hw) (own_w44 hw) (mvT hZ (own_w45 hw)) (own_w46 hw) (own_w47 hw) (own_w48 hw) (own_w49 hw) (own_w50 hw) (by decide) P1_Str.exa (payLen (W := 1) hZ hw P1_Str (O2.ext P0_Old.2) P5 (by decide) (by decide)) eT (by rw [hml]; rfl) (lenOf own_pd13 rfl) rfl (Nat.le_of_eq rfl) 0 0 rfl rfl (by decide) (by decide) 9 (hb hby own_d9_4) rfl ?_
      clear X eT; clear T; intro v T h17 L2 Lc X eT hL hQ18
      obtain ⟨rfl, rfl, hh⟩ := hQ18
      replace hh := hh.symm; subst hh
      replace N : Fr n0 L2 := by rw [hL]; exact Fr.app N (Fr.nil n0)
      clear hL
      show Go p e below _ T (mkF m 9 #[.val (.ref x), .val (.int (2 : Int32))] [(.int (2 : Int32)), (.int (2 : Int32))])
      refine gicmpYes X hx 33 (hb hby own_d9_9) (by decide) (by decide) (by decide) ?_
      refine giconst X hx (1 : Int32) 34 (hb hby own_d9_33) rfl rfl ?_
      exact gRetP X hx hlk hret rfl (Or.inl ⟨rfl, by simp, _, rfl⟩) (hb hby own_d9_34) eT (by decide) (by decide) ⟨(by simp [own_aw, z0_22, z1_22]), N, rfl⟩
set_option maxRecDepth 65536 in
set_option maxHeartbeats 40000000 in
theorem rmIU2 (l : Launch) (Z : State) (a0 : Array Value) (hw : ∀ d ∈ tables_1, d.before a0 Z = true) (x : Addr) (t : Addr) (kb : ClassId) (G1 : Int32) (G3 : Value) (c0 : Int32) (c1 : Int32) (h0 : Heap) (n0 : Nat) (Z0 : n0 ≤ h0.size) (P0_Old : Old Z n0 h0) (P1_Exa : Exa Z h0 x "java/lang/String") (P2_Fld : Fld Z h0 x "java/lang/String" "coder" "B" (.int (1 : Int32))) (P3_Fld : Fld Z h0 x "java/lang/String" "value" "[B" (.ref t)) (P4_Arv : Arv Z h0 t kb .byte (4 : Int32) [(.int (StrChars.lo8 c0)), (.int (StrChars.hi8 c0)), (.int (StrChars.lo8 c1)), (.int (StrChars.hi8 c1))] (.int 0)) (O2 : Sta Z Z.heap "java/lang/String" "COMPACT_STRINGS" "Z" (.int G1)) (P5 : ¬ G1 = (0 : Int32)) (O4 : Sta Z Z.heap "jdk/internal/util/Preconditions" "SIOOBE_FORMATTER" "Ljava/util/function/BiFunction;" G3) (rG3 : G3.isRef = true) (SA : Sta Z Z.heap "java/lang/StringUTF16" "$assertionsDisabled" "Z" (.int 1)) (SH : Sta Z Z.heap "java/lang/StringUTF16" "HI_BYTE_SHIFT" "I" (.int 0)) (SLo : Sta Z Z.heap "java/lang/StringUTF16" "LO_BYTE_SHIFT" "I" (.int 8)) (r0 : ¬ c0 < 0 ∧ ¬ (65535 : Int32) < c0) (r1 : ¬ c1 < 0 ∧ ¬ (65535 : Int32) < c1) (hex : ∃ c ∈ ([c0, c1] : List Int32), 255 < c) :
    CtP l (⟨"com/example/tagwire/tagwire/dtd/Names", "isWhitespace", "(Ljava/lang/CharSequence;)Z"⟩ : MethodName) prog_38_method_5_code 2 (some .boolean) [] ({ frames := 5, cells := 0, slots := 0, locals := 66 } : Room) Z #[(.ref x)] h0 (fun v h L => v = some (.int (own_aw ([c0, c1] : List Int32))) ∧ Fr n0 L ∧ h = h0) := by
  refine CtP.walk (Ls := #[.val (.ref x), .unset]) (plainFor_of_name own_pn7) (fun m => by rcases ref_cases rG3 with rfl | ⟨_, rfl⟩ <;> rfl) ?_
  intro p e s m below meth cc_ T hx hby hml hown hnm hret hlk hZ X eT
  have N := Fr.nil n0
  have sz_h : h0.size ≤ h0.size := Nat.le_refl _
  refine giconst X hx (0 : Int32) 1 (hb hby own_d9_0) rfl rfl ?_
  refine gistoreN X hx #[.val (.ref x), .val (.int (0 : Int32))] 2 (hb hby own_d9_1) rfl rfl ?_
  refine giloadN (v := (0 : Int32)) X hx 3 (hb hby own_d9_2) rfl rfl ?_
  refine galoadN (v := (.ref x)) X hx 4 (hb hby own_d9_3) rfl rfl rfl ?_
  refine giface (y := (⟨"java/lang/CharSequence", "length", "()I"⟩ : MethodName)) (z := (⟨"java/lang/String", "length", "()I"⟩ : MethodName)) (a := x) (argsL := []) (st := [(.int (0 : Int32))]) X hx hZ hown (own_w43 hw) (own_w44 hw) (mvT hZ (own_w45 hw)) (own_w46 hw) (own_w47 hw) (own_w48 hw) (own_w49 hw) (own_w50 hw) (by decide) P1_Exa (payLenU (W := 1) (cs := ([c0, c1] : List Int32)) hZ hw P1_Exa P3_Fld P2_Fld P4_Arv rfl rfl hex (own_cS r0 (own_cS r1 own_c0)) (O2.ext P0_Old.2) P5 (Nat.le_of_ble_eq_true rfl) (by decide) (by decide)) eT (by rw [hml]; rfl) (lenOf own_pd13 rfl) rfl (Nat.le_of_eq rfl) 0 0 rfl rfl (by decide) (by decide) 9 (hb hby own_d9_4) rfl ?_
  clear X eT; clear T; intro v T h1 L2 Lc X eT hL hQ2
  obtain ⟨rfl, rfl, hh⟩ := hQ2
  replace hh := hh.symm; subst hh
  replace N : Fr n0 L2 := by rw [hL]; exact Fr.app N (Fr.nil n0)
  clear hL
  show Go p e below _ T (mkF m 9 #[.val (.ref x), .val (.int (0 : Int32))] [(.int (2 : Int32)), (.int (0 : Int32))])
  refine gicmpNo X hx 12 (hb hby own_d9_9) rfl (by decide) ?_
  refine galoadN (v := (.ref x)) X hx 13 (hb hby own_d9_12) rfl rfl rfl ?_
  refine giloadN (v := (0 : Int32)) X hx 14 (hb hby own_d9_13) rfl rfl ?_
  refine giface (y := (⟨"java/lang/CharSequence", "charAt", "(I)C"⟩ : MethodName)) (z := (⟨"java/lang/String", "charAt", "(I)C"⟩ : MethodName)) (a := x) (argsL := [(.int (0 : Int32))]) (st := []) X hx hZ hown (own_w57 hw) (own_w58 hw) (mvT hZ (own_w59 hw)) (own_w60 hw) (own_w61 hw) (own_w62 hw) (own_w63 hw) (own_w50 hw) (by decide) P1_Exa (payP (W := 0) (rmSCA2_0 l Z a0 hw (x) (t) (kb) (G1) (G3) _ _ h0 n0 (Nat.le_trans Z0 sz_h) P0_Old P1_Exa P2_Fld P3_Fld P4_Arv (O2) (P5) (O4) (rG3) (SA) (SH) (SLo) (r0) (r1)) hZ (own_w64 hw) (own_w9 hw) (by decide) (by decide)) eT (by rw [hml]; rfl) (lenOf own_pd14 rfl) rfl (Nat.le_of_eq rfl) 0 0 rfl rfl (by decide) (by decide) 19 (hb hby own_d9_14) rfl ?_
  clear X eT; clear T; intro v T h3 L2 Lc X eT hL hQ4
  obtain ⟨rfl, Nq, hh⟩ := hQ4
  replace N : Fr n0 L2 := by rw [hL]; exact Fr.app N Nq
  clear Nq hL
  replace hh := hh.symm; subst hh
  show Go p e below _ T (mkF m 19 #[.val (.ref x), .val (.int (0 : Int32))] [(.int c0)])
  refine gstatic (y := (⟨"com/example/tagwire/tagwire/dtd/Names", "isWhitespace", "(C)Z"⟩ : MethodName)) (argsL := [(.int c0)]) (st := []) X hx hZ hown (own_w82 hw) (own_w83 hw) (own_w41 hw) (own_w84 hw) (by decide) (payP (W := 0) (rmW1 l Z a0 hw (c0) h0 n0 (Nat.le_trans Z0 sz_h)) hZ (own_w84 hw) (own_w41 hw) (by decide) (by decide)) eT (by rw [hml]; rfl) (lenOf own_pd15 rfl) rfl (Nat.le_of_eq rfl) 0 0 rfl rfl (by decide) (by decide) 22 (hb hby own_d9_19) rfl ?_
  clear X eT; clear T; intro v T h7 L2 Lc X eT hL hQ8
  obtain ⟨rfl, Nq, hh⟩ := hQ8
  replace N : Fr n0 L2 := by rw [hL]; exact Fr.app N Nq
  clear Nq hL
  replace hh := hh.symm; subst hh
  show Go p e below _ T (mkF m 22 #[.val (.ref x), .val (.int (0 : Int32))] [(.int (own_ws c0))])
  rcases Decidable.em ((own_ws c0) = (0 : Int32)) with z0_22 | z0_22
  · refine gifNo X hx 25 (hb hby own_d9_22) rfl ((if0 _ _).trans (teq z0_22).2) ?_
    refine giconst X hx (0 : Int32) 26 (hb hby own_d9_25) rfl rfl ?_
    exact gRetP X hx hlk hret rfl (Or.inl ⟨rfl, by simp, _, rfl⟩) (hb hby own_d9_26) eT (by decide) (by decide) ⟨(by simp [own_aw, z0_22]), N, rfl⟩
  · refine gifYes X hx 27 (hb hby own_d9_22) ((if0 _ _).trans (feq z0_22).2) (by decide) (by decide) ?_
    refine giinc X hx #[.val (.ref x), .val (.int (1 : Int32))] 30 (hb hby own_d9_27) rfl rfl rfl ?_
    refine ggoto X hx 2 (hb hby own_d9_30) (by decide) (by decide) ?_
    refine giloadN (v := (1 : Int32)) X hx 3 (hb hby own_d9_2) rfl rfl ?_
    refine galoadN (v := (.ref x)) X hx 4 (hb hby own_d9_3) rfl rfl rfl ?_
    refine giface (y := (⟨"java/lang/CharSequence", "length", "()I"⟩ : MethodName)) (z := (⟨"java/lang/String", "length", "()I"⟩ : MethodName)) (a := x) (argsL := []) (st := [(.int (1 : Int32))]) X hx hZ hown (own_w43 hw) (own_w44 hw) (mvT hZ (own_w45 hw)) (own_w46 hw) (own_w47 hw) (own_w48 hw) (own_w49 hw) (own_w50 hw) (by decide) P1_Exa (payLenU (W := 1) (cs := ([c0, c1] : List Int32)) hZ hw P1_Exa P3_Fld P2_Fld P4_Arv rfl rfl hex (own_cS r0 (own_cS r1 own_c0)) (O2.ext P0_Old.2) P5 (Nat.le_of_ble_eq_true rfl) (by decide) (by decide)) eT (by rw [hml]; rfl) (lenOf own_pd13 rfl) rfl (Nat.le_of_eq rfl) 0 0 rfl rfl (by decide) (by decide) 9 (hb hby own_d9_4) rfl ?_
    clear X eT; clear T; intro v T h11 L2 Lc X eT hL hQ12
    obtain ⟨rfl, rfl, hh⟩ := hQ12
    replace hh := hh.symm; subst hh
    replace N : Fr n0 L2 := by rw [hL]; exact Fr.app N (Fr.nil n0)
    clear hL
    show Go p e below _ T (mkF m 9 #[.val (.ref x), .val (.int (1 : Int32))] [(.int (2 : Int32)), (.int (1 : Int32))])
    refine gicmpNo X hx 12 (hb hby own_d9_9) rfl (by decide) ?_
    refine galoadN (v := (.ref x)) X hx 13 (hb hby own_d9_12) rfl rfl rfl ?_
    refine giloadN (v := (1 : Int32)) X hx 14 (hb hby own_d9_13) rfl rfl ?_
    refine giface (y := (⟨"java/lang/CharSequence", "charAt", "(I)C"⟩ : MethodName)) (z := (⟨"java/lang/String", "charAt", "(I)C"⟩ : MethodName)) (a := x) (argsL := [(.int (1 : Int32))]) (st := []) X hx hZ hown (own_w57 hw) (own_w58 hw) (mvT hZ (own_w59 hw)) (own_w60 hw) (own_w61 hw) (own_w62 hw) (own_w63 hw) (own_w50 hw) (by decide) P1_Exa (payP (W := 0) (rmSCA2_1 l Z a0 hw (x) (t) (kb) (G1) (G3) _ _ h0 n0 (Nat.le_trans Z0 sz_h) P0_Old P1_Exa P2_Fld P3_Fld P4_Arv (O2) (P5) (O4) (rG3) (SA) (SH) (SLo) (r0) (r1)) hZ (own_w64 hw) (own_w9 hw) (by decide) (by decide)) eT (by rw [hml]; rfl) (lenOf own_pd14 rfl) rfl (Nat.le_of_eq rfl) 0 0 rfl rfl (by decide) (by decide) 19 (hb hby own_d9_14) rfl ?_
    clear X eT; clear T; intro v T h13 L2 Lc X eT hL hQ14
    obtain ⟨rfl, Nq, hh⟩ := hQ14
    replace N : Fr n0 L2 := by rw [hL]; exact Fr.app N Nq
    clear Nq hL
    replace hh := hh.symm; subst hh
    show Go p e below _ T (mkF m 19 #[.val (.ref x), .val (.int (1 : Int32))] [(.int c1)])
    refine gstatic (y := (⟨"com/example/tagwire/tagwire/dtd/Names", "isWhitespace", "(C)Z"⟩ : MethodName)) (argsL := [(.int c1)]) (st := []) X hx hZ hown (own_w82 hw) (own_w83 hw) (own_w41 hw) (own_w84 hw) (by decide) (payP (W := 0) (rmW1 l Z a0 hw (c1) h0 n0 (Nat.le_trans Z0 sz_h)) hZ (own_w84 hw) (own_w41 hw) (by decide) (by decide)) eT (by rw [hml]; rfl) (lenOf own_pd15 rfl) rfl (Nat.le_of_eq rfl) 0 0 rfl rfl (by decide) (by decide) 22 (hb hby own_d9_19) rfl ?_
    clear X eT; clear T; intro v T h17 L2 Lc X eT hL hQ18
    obtain ⟨rfl, Nq, hh⟩ := hQ18
    replace N : Fr n0 L2 := by rw [hL]; exact Fr.app N Nq
    clear Nq hL
    replace hh := hh.symm; subst hh
    show Go p e below _ T (mkF m 22 #[.val (.ref x), .val (.int (1 : Int32))] [(.int (own_ws c1))])
    rcases Decidable.em ((own_ws c1) = (0 : Int32)) with z1_22 | z1_22
    · refine gifNo X hx 25 (hb hby own_d9_22) rfl ((if0 _ _).trans (teq z1_22).2) ?_
      refine giconst X hx (0 : Int32) 26 (hb hby own_d9_25) rfl rfl ?_
      exact gRetP X hx hlk hret rfl (Or.inl ⟨rfl, by simp, _, rfl⟩) (hb hby own_d9_26) eT (by decide) (by decide) ⟨(by simp [own_aw, z0_22, z1_22]), N, rfl⟩
    · refine gifYes X hx 27 (hb hby own_d9_22) ((if0 _ _).trans (feq z1_22).2) (by decide) (by decide) ?_
      refine giinc X hx #[.val (.ref x), .val (.int (2 : Int32))] 30 (hb hby own_d9_27) rfl rfl rfl ?_
      refine ggoto X hx 2 (hb hby own_d9_30) (by decide) (by decide) ?_
      refine giloadN (v := (2 : Int32)) X hx 3 (hb hby own_d9_2) rfl rfl ?_
      refine galoadN (v := (.ref x)) X hx 4 (hb hby own_d9_3) rfl rfl rfl ?_
      refine giface (y := (⟨"java/lang/CharSequence", "length", "()I"⟩ : MethodName)) (z := (⟨"java/lang/String", "length", "()I"⟩ : MethodName)) (a := x) (argsL := []) (st := [(.int (2 : Int32))]) X hx hZ hown (own_w43 hw) (own_w44 hw) (mvT hZ (own_w45 hw)) (own_w46 hw) (own_w47 hw) (own_w48 hw) (own_w49 hw) (own_w50 hw) (by decide) P1_Exa (payLenU (W := 1) (cs := ([c0, c1] : List Int32)) hZ hw P1_Exa P3_Fld P2_Fld P4_Arv rfl rfl hex (own_cS r0 (own_cS r1 own_c0)) (O2.ext P0_Old.2) P5 (Nat.le_of_ble_eq_true rfl) (by decide) (by decide)) eT (by rw [hml]; rfl) (lenOf own_pd13 rfl) rfl (Nat.le_of_eq rfl) 0 0 rfl rfl (by decide) (by decide) 9 (hb hby own_d9_4) rfl ?_
      clear X eT; clear T; intro v T h21 L2 Lc X eT hL hQ22
      obtain ⟨rfl, rfl, hh⟩ := hQ22
      replace hh := hh.symm; subst hh
      replace N : Fr n0 L2 := by rw [hL]; exact Fr.app N (Fr.nil n0)
      clear hL
      show Go p e below _ T (mkF m 9 #[.val (.ref x), .val (.int (2 : Int32))] [(.int (2 : Int32)), (.int (2 : Int32))])
      refine gicmpYes X hx 33 (hb hby own_d9_9) (by decide) (by decide) (by decide) ?_
      refine giconst X hx (1 : Int32) 34 (hb hby own_d9_33) rfl rfl ?_
      exact gRetP X hx hlk hret rfl (Or.inl ⟨rfl, by simp, _, rfl⟩) (hb hby own_d9_34) eT (by decide) (by decide) ⟨(by simp [own_aw, z0_22, z1_22]), N, rfl⟩
set_option maxRecDepth 65536 in
set_option maxHeartbeats 40000000 in
theorem rmIL3 (l : Launch) (Z : State) (a0 : Array Value) (hw : ∀ d ∈ tables_1, d.before a0 Z = true) (x : Addr) (t : Addr) (G1 : Int32) (G3 : Value) (c0 : Int32) (c1 : Int32) (c2 : Int32) (h0 : Heap) (n0 : Nat) (Z0 : n0 ≤ h0.size) (P0_Old : Old Z n0 h0) (P1_Str : Str Z h0 x t ([c0, c1, c2] : List Int32)) (O2 : Sta Z Z.heap "java/lang/String" "COMPACT_STRINGS" "Z" (.int G1)) (P5 : ¬ G1 = (0 : Int32)) (O4 : Sta Z Z.heap "jdk/internal/util/Preconditions" "SIOOBE_FORMATTER" "Ljava/util/function/BiFunction;" G3) (rG3 : G3.isRef = true) :
    CtP l (⟨"com/example/tagwire/tagwire/dtd/Names", "isWhitespace", "(Ljava/lang/CharSequence;)Z"⟩ : MethodName) prog_38_method_5_code 2 (some .boolean) [] ({ frames := 4, cells := 0, slots := 0, locals := 53 } : Room) Z #[(.ref x)] h0 (fun v h L => v = some (.int (own_aw ([c0, c1, c2] : List Int32))) ∧ Fr n0 L ∧ h = h0) := by
  refine CtP.walk (Ls := #[.val (.ref x), .unset]) (plainFor_of_name own_pn7) (fun m => by rcases ref_cases rG3 with rfl | ⟨_, rfl⟩ <;> rfl) ?_
  intro p e s m below meth cc_ T hx hby hml hown hnm hret hlk hZ X eT
  have N := Fr.nil n0
  have sz_h : h0.size ≤ h0.size := Nat.le_refl _
  refine giconst X hx (0 : Int32) 1 (hb hby own_d9_0) rfl rfl ?_
  refine gistoreN X hx #[.val (.ref x), .val (.int (0 : Int32))] 2 (hb hby own_d9_1) rfl rfl ?_
  refine giloadN (v := (0 : Int32)) X hx 3 (hb hby own_d9_2) rfl rfl ?_
  refine galoadN (v := (.ref x)) X hx 4 (hb hby own_d9_3) rfl rfl rfl ?_
  refine giface (y := (⟨"java/lang/CharSequence", "length", "()I"⟩ : MethodName)) (z := (⟨"java/lang/String", "length", "()I"⟩ : MethodName)) (a := x) (argsL := []) (st := [(.int (0 : Int32))]) X hx hZ hown (own_w43 hw) (own_w44 hw) (mvT hZ (own_w45 hw)) (own_w46 hw) (own_w47 hw) (own_w48 hw) (own_w49 hw) (own_w50 hw) (by decide) P1_Str.exa (payLen (W := 1) hZ hw P1_Str (O2.ext P0_Old.2) P5 (by decide) (by decide)) eT (by rw [hml]; rfl) (lenOf own_pd13 rfl) rfl (Nat.le_of_eq rfl) 0 0 rfl rfl (by decide) (by decide) 9 (hb hby own_d9_4) rfl ?_
  clear X eT; clear T; intro v T h1 L2 Lc X eT hL hQ2
  obtain ⟨rfl, rfl, hh⟩ := hQ2
  replace hh := hh.symm; subst hh
  replace N : Fr n0 L2 := by rw [hL]; exact Fr.app N (Fr.nil n0)
  clear hL
  show Go p e below _ T (mkF m 9 #[.val (.ref x), .val (.int (0 : Int32))] [(.int (3 : Int32)), (.int (0 : Int32))])
  refine gicmpNo X hx 12 (hb hby own_d9_9) rfl (by decide) ?_
  refine galoadN (v := (.ref x)) X hx 13 (hb hby own_d9_12) rfl rfl rfl ?_
  refine giloadN (v := (0 : Int32)) X hx 14 (hb hby own_d9_13) rfl rfl ?_
  refine giface (y := (⟨"java/lang/CharSequence", "charAt", "(I)C"⟩ : MethodName)) (z := (⟨"java/lang/String", "charAt", "(I)C"⟩ : MethodName)) (a := x) (argsL := [(.int (0 : Int32))]) (st := []) X hx hZ hown (own_w57 hw) (own_w58 hw) (mvT hZ (own_w59 hw)) (own_w60 hw) (own_w61 hw) (own_w62 hw) (own_w63 hw) (own_w50 hw) (by decide) P1_Str.exa (payChr (W := 0) (i := 0) hZ hw P1_Str (O2.ext P0_Old.2) P5 (O4.ext P0_Old.2) rG3 (Nat.le_of_ble_eq_true rfl) rfl (by decide) (by decide)) eT (by rw [hml]; rfl) (lenOf own_pd14 rfl) rfl (Nat.le_of_eq rfl) 0 0 rfl rfl (by decide) (by decide) 19 (hb hby own_d9_14) rfl ?_
  clear X eT; clear T; intro v T h3 L2 Lc X eT hL hQ4
  obtain ⟨rfl, rfl, hh⟩ := hQ4
  replace hh := hh.symm; subst hh
  replace N : Fr n0 L2 := by rw [hL]; exact Fr.app N (Fr.nil n0)
  clear hL
  show Go p e below _ T (mkF m 19 #[.val (.ref x), .val (.int (0 : Int32))] [(.int c0)])
  refine gstatic (y := (⟨"com/example/tagwire/tagwire/dtd/Names", "isWhitespace", "(C)Z"⟩ : MethodName)) (argsL := [(.int c0)]) (st := []) X hx hZ hown (own_w82 hw) (own_w83 hw) (own_w41 hw) (own_w84 hw) (by decide) (payP (W := 0) (rmW1 l Z a0 hw (c0) h0 n0 (Nat.le_trans Z0 sz_h)) hZ (own_w84 hw) (own_w41 hw) (by decide) (by decide)) eT (by rw [hml]; rfl) (lenOf own_pd15 rfl) rfl (Nat.le_of_eq rfl) 0 0 rfl rfl (by decide) (by decide) 22 (hb hby own_d9_19) rfl ?_
  clear X eT; clear T; intro v T h5 L2 Lc X eT hL hQ6
  obtain ⟨rfl, Nq, hh⟩ := hQ6
  replace N : Fr n0 L2 := by rw [hL]; exact Fr.app N Nq
  clear Nq hL
  replace hh := hh.symm; subst hh
  show Go p e below _ T (mkF m 22 #[.val (.ref x), .val (.int (0 : Int32))] [(.int (own_ws c0))])
  rcases Decidable.em ((own_ws c0) = (0 : Int32)) with z0_22 | z0_22
  · refine gifNo X hx 25 (hb hby own_d9_22) rfl ((if0 _ _).trans (teq z0_22).2) ?_
    refine giconst X hx (0 : Int32) 26 (hb hby own_d9_25) rfl rfl ?_
    exact gRetP X hx hlk hret rfl (Or.inl ⟨rfl, by simp, _, rfl⟩) (hb hby own_d9_26) eT (by decide) (by decide) ⟨(by simp [own_aw, z0_22]), N, rfl⟩
  · refine gifYes X hx 27 (hb hby own_d9_22) ((if0 _ _).trans (feq z0_22).2) (by decide) (by decide) ?_
    refine giinc X hx #[.val (.ref x), .val (.int (1 : Int32))] 30 (hb hby own_d9_27) rfl rfl rfl ?_
    refine ggoto X hx 2 (hb hby own_d9_30) (by decide) (by decide) ?_
    refine giloadN (v := (1 : Int32)) X hx 3 (hb hby own_d9_2) rfl rfl ?_
    refine galoadN (v := (.ref x)) X hx 4 (hb hby own_d9_3) rfl rfl rfl ?_
    refine giface (y := (⟨"java/lang/CharSequence", "length", "()I"⟩ : MethodName)) (z := (⟨"java/lang/String", "length", "()I"⟩ : MethodName)) (a := x) (argsL := []) (st := [(.int (1 : Int32))]) X hx hZ hown (own_w43 hw) (own_w44 hw) (mvT hZ (own_w45 hw)) (own_w46 hw) (own_w47 hw) (own_w48 hw) (own_w49 hw) (own_w50 hw) (by decide) P1_Str.exa (payLen (W := 1) hZ hw P1_Str (O2.ext P0_Old.2) P5 (by decide) (by decide)) eT (by rw [hml]; rfl) (lenOf own_pd13 rfl) rfl (Nat.le_of_eq rfl) 0 0 rfl rfl (by decide) (by decide) 9 (hb hby own_d9_4) rfl ?_
    clear X eT; clear T; intro v T h9 L2 Lc X eT hL hQ10
    obtain ⟨rfl, rfl, hh⟩ := hQ10
    replace hh := hh.symm; subst hh
    replace N : Fr n0 L2 := by rw [hL]; exact Fr.app N (Fr.nil n0)
    clear hL
    show Go p e below _ T (mkF m 9 #[.val (.ref x), .val (.int (1 : Int32))] [(.int (3 : Int32)), (.int (1 : Int32))])
    refine gicmpNo X hx 12 (hb hby own_d9_9) rfl (by decide) ?_
    refine galoadN (v := (.ref x)) X hx 13 (hb hby own_d9_12) rfl rfl rfl ?_
    refine giloadN (v := (1 : Int32)) X hx 14 (hb hby own_d9_13) rfl rfl ?_
    refine giface (y := (⟨"java/lang/CharSequence", "charAt", "(I)C"⟩ : MethodName)) (z := (⟨"java/lang/String", "charAt", "(I)C"⟩ : MethodName)) (a := x) (argsL := [(.int (1 : Int32))]) (st := []) X hx hZ hown (own_w57 hw) (own_w58 hw) (mvT hZ (own_w59 hw)) (own_w60 hw) (own_w61 hw) (own_w62 hw) (own_w63 hw) (own_w50 hw) (by decide) P1_Str.exa (payChr (W := 0) (i := 1) hZ hw P1_Str (O2.ext P0_Old.2) P5 (O4.ext P0_Old.2) rG3 (Nat.le_of_ble_eq_true rfl) rfl (by decide) (by decide)) eT (by rw [hml]; rfl) (lenOf own_pd14 rfl) rfl (Nat.le_of_eq rfl) 0 0 rfl rfl (by decide) (by decide) 19 (hb hby own_d9_14) rfl ?_
    clear X eT; clear T; intro v T h11 L2 Lc X eT hL hQ12
    obtain ⟨rfl, rfl, hh⟩ := hQ12
    replace hh := hh.symm; subst hh
    replace N : Fr n0 L2 := by rw [hL]; exact Fr.app N (Fr.nil n0)
    clear hL
    show Go p e below _ T (mkF m 19 #[.val (.ref x), .val (.int (1 : Int32))] [(.int c1)])
    refine gstatic (y := (⟨"com/example/tagwire/tagwire/dtd/Names", "isWhitespace", "(C)Z"⟩ : MethodName)) (argsL := [(.int c1)]) (st := []) X hx hZ hown (own_w82 hw) (own_w83 hw) (own_w41 hw) (own_w84 hw) (by decide) (payP (W := 0) (rmW1 l Z a0 hw (c1) h0 n0 (Nat.le_trans Z0 sz_h)) hZ (own_w84 hw) (own_w41 hw) (by decide) (by decide)) eT (by rw [hml]; rfl) (lenOf own_pd15 rfl) rfl (Nat.le_of_eq rfl) 0 0 rfl rfl (by decide) (by decide) 22 (hb hby own_d9_19) rfl ?_
    clear X eT; clear T; intro v T h13 L2 Lc X eT hL hQ14
    obtain ⟨rfl, Nq, hh⟩ := hQ14
    replace N : Fr n0 L2 := by rw [hL]; exact Fr.app N Nq
    clear Nq hL
    replace hh := hh.symm; subst hh
    show Go p e below _ T (mkF m 22 #[.val (.ref x), .val (.int (1 : Int32))] [(.int (own_ws c1))])
    rcases Decidable.em ((own_ws c1) = (0 : Int32)) with z1_22 | z1_22
    · refine gifNo X hx 25 (hb hby own_d9_22) rfl ((if0 _ _).trans (teq z1_22).2) ?_
      refine giconst X hx (0 : Int32) 26 (hb hby own_d9_25) rfl rfl ?_
      exact gRetP X hx hlk hret rfl (Or.inl ⟨rfl, by simp, _, rfl⟩) (hb hby own_d9_26) eT (by decide) (by decide) ⟨(by simp [own_aw, z0_22, z1_22]), N, rfl⟩
    · refine gifYes X hx 27 (hb hby own_d9_22) ((if0 _ _).trans (feq z1_22).2) (by decide) (by decide) ?_
      refine giinc X hx #[.val (.ref x), .val (.int (2 : Int32))] 30 (hb hby own_d9_27) rfl rfl rfl ?_
      refine ggoto X hx 2 (hb hby own_d9_30) (by decide) (by decide) ?_
      refine giloadN (v := (2 : Int32)) X hx 3 (hb hby own_d9_2) rfl rfl ?_
      refine galoadN (v := (.ref x)) X hx 4 (hb hby own_d9_3) rfl rfl rfl ?_
      refine giface (y := (⟨"java/lang/CharSequence", "length", "()I"⟩ : MethodName)) (z := (⟨"java/lang/String", "length", "()I"⟩ : MethodName)) (a := x) (argsL := []) (st := [(.int (2 : Int32))]) X hx hZ hown (own_w43 hw) (own_w44 hw) (mvT hZ (own_w45 hw)) (own_w46 hw) (own_w47 hw) (own_w48 hw) (own_w49 hw) (own_w50 hw) (by decide) P1_Str.exa (payLen (W := 1) hZ hw P1_Str (O2.ext P0_Old.2) P5 (by decide) (by decide)) eT (by rw [hml]; rfl) (lenOf own_pd13 rfl) rfl (Nat.le_of_eq rfl) 0 0 rfl rfl (by decide) (by decide) 9 (hb hby own_d9_4) rfl ?_
      clear X eT; clear T; intro v T h17 L2 Lc X eT hL hQ18
      obtain ⟨rfl, rfl, hh⟩ := hQ18
      replace hh := hh.symm; subst hh
      replace N : Fr n0 L2 := by rw [hL]; exact Fr.app N (Fr.nil n0)
      clear hL
      show Go p e below _ T (mkF m 9 #[.val (.ref x), .val (.int (2 : Int32))] [(.int (3 : Int32)), (.int (2 : Int32))])
      refine gicmpNo X hx 12 (hb hby own_d9_9) rfl (by decide) ?_
      refine galoadN (v := (.ref x)) X hx 13 (hb hby own_d9_12) rfl rfl rfl ?_
      refine giloadN (v := (2 : Int32)) X hx 14 (hb hby own_d9_13) rfl rfl ?_
      refine giface (y := (⟨"java/lang/CharSequence", "charAt", "(I)C"⟩ : MethodName)) (z := (⟨"java/lang/String", "charAt", "(I)C"⟩ : MethodName)) (a := x) (argsL := [(.int (2 : Int32))]) (st := []) X hx hZ hown (own_w57 hw) (own_w58 hw) (mvT hZ (own_w59 hw)) (own_w60 hw) (own_w61 hw) (own_w62 hw) (own_w63 hw) (own_w50 hw) (by decide) P1_Str.exa (payChr (W := 0) (i := 2) hZ hw P1_Str (O2.ext P0_Old.2) P5 (O4.ext P0_Old.2) rG3 (Nat.le_of_ble_eq_true rfl) rfl (by decide) (by decide)) eT (by rw [hml]; rfl) (lenOf own_pd14 rfl) rfl (Nat.le_of_eq rfl) 0 0 rfl rfl (by decide) (by decide) 19 (hb hby own_d9_14) rfl ?_
      clear X eT; clear T; intro v T h19 L2 Lc X eT hL hQ20
      obtain ⟨rfl, rfl, hh⟩ := hQ20
      replace hh := hh.symm; subst hh
      replace N : Fr n0 L2 := by rw [hL]; exact Fr.app N (Fr.nil n0)
      clear hL
      show Go p e below _ T (mkF m 19 #[.val (.ref x), .val (.int (2 : Int32))] [(.int c2)])
      refine gstatic (y := (⟨"com/example/tagwire/tagwire/dtd/Names", "isWhitespace", "(C)Z"⟩ : MethodName)) (argsL := [(.int c2)]) (st := []) X hx hZ hown (own_w82 hw) (own_w83 hw) (own_w41 hw) (own_w84 hw) (by decide) (payP (W := 0) (rmW1 l Z a0 hw (c2) h0 n0 (Nat.le_trans Z0 sz_h)) hZ (own_w84 hw) (own_w41 hw) (by decide) (by decide)) eT (by rw [hml]; rfl) (lenOf own_pd15 rfl) rfl (Nat.le_of_eq rfl) 0 0 rfl rfl (by decide) (by decide) 22 (hb hby own_d9_19) rfl ?_
      clear X eT; clear T; intro v T h21 L2 Lc X eT hL hQ22
      obtain ⟨rfl, Nq, hh⟩ := hQ22
      replace N : Fr n0 L2 := by rw [hL]; exact Fr.app N Nq
      clear Nq hL
      replace hh := hh.symm; subst hh
      show Go p e below _ T (mkF m 22 #[.val (.ref x), .val (.int (2 : Int32))] [(.int (own_ws c2))])
      rcases Decidable.em ((own_ws c2) = (0 : Int32)) with z2_22 | z2_22
      · refine gifNo X hx 25 (hb hby own_d9_22) rfl ((if0 _ _).trans (teq z2_22).2) ?_
        refine giconst X hx (0 : Int32) 26 (hb hby own_d9_25) rfl rfl ?_
        exact gRetP X hx hlk hret rfl (Or.inl ⟨rfl, by simp, _, rfl⟩) (hb hby own_d9_26) eT (by decide) (by decide) ⟨(by simp [own_aw, z0_22, z1_22, z2_22]), N, rfl⟩
      · refine gifYes X hx 27 (hb hby own_d9_22) ((if0 _ _).trans (feq z2_22).2) (by decide) (by decide) ?_
        refine giinc X hx #[.val (.ref x), .val (.int (3 : Int32))] 30 (hb hby own_d9_27) rfl rfl rfl ?_
        refine ggoto X hx 2 (hb hby own_d9_30) (by decide) (by decide) ?_
        refine giloadN (v := (3 : Int32)) X hx 3 (hb hby own_d9_2) rfl rfl ?_
        refine galoadN (v := (.ref x)) X hx 4 (hb hby own_d9_3) rfl rfl rfl ?_
        refine giface (y := (⟨"java/lang/CharSequence", "length", "()I"⟩ : MethodName)) (z := (⟨"java/lang/String", "length", "()I"⟩ : MethodName)) (a := x) (argsL := []) (st := [(.int (3 : Int32))]) X hx hZ hown (own_w43 hw) (own_w44 hw) (mvT hZ (own_w45 hw)) (own_w46 hw) (own_w47 hw) (own_w48 hw) (own_w49 hw) (own_w50 hw) (by decide) P1_Str.exa (payLen (W := 1) hZ hw P1_Str (O2.ext P0_Old.2) P5 (by decide) (by decide)) eT (by rw [hml]; rfl) (lenOf own_pd13 rfl) rfl (Nat.le_of_eq rfl) 0 0 rfl rfl (by decide) (by decide) 9 (hb hby own_d9_4) rfl ?_
        clear X eT; clear T; intro v T h25 L2 Lc X eT hL hQ26
        obtain ⟨rfl, rfl, hh⟩ := hQ26
        replace hh := hh.symm; subst hh
        replace N : Fr n0 L2 := by rw [hL]; exact Fr.app N (Fr.nil n0)
        clear hL
        show Go p e below _ T (mkF m 9 #[.val (.ref x), .val (.int (3 : Int32))] [(.int (3 : Int32)), (.int (3 : Int32))])
        refine gicmpYes X hx 33 (hb hby own_d9_9) (by decide) (by decide) (by decide) ?_
        refine giconst X hx (1 : Int32) 34 (hb hby own_d9_33) rfl rfl ?_
        exact gRetP X hx hlk hret rfl (Or.inl ⟨rfl, by simp, _, rfl⟩) (hb hby own_d9_34) eT (by decide) (by decide) ⟨(by simp [own_aw, z0_22, z1_22, z2_22]), N, rfl⟩
set_option maxRecDepth 65536 in
set_option maxHeartbeats 40000000 in
theorem rmIU3 (l : Launch) (Z : State) (a0 : Array Value) (hw : ∀ d ∈ tables_1, d.before a0 Z = true) (x : Addr) (t : Addr) (kb : ClassId) (G1 : Int32) (G3 : Value) (c0 : Int32) (c1 : Int32) (c2 : Int32) (h0 : Heap) (n0 : Nat) (Z0 : n0 ≤ h0.size) (P0_Old : Old Z n0 h0) (P1_Exa : Exa Z h0 x "java/lang/String") (P2_Fld : Fld Z h0 x "java/lang/String" "coder" "B" (.int (1 : Int32))) (P3_Fld : Fld Z h0 x "java/lang/String" "value" "[B" (.ref t)) (P4_Arv : Arv Z h0 t kb .byte (6 : Int32) [(.int (StrChars.lo8 c0)), (.int (StrChars.hi8 c0)), (.int (StrChars.lo8 c1)), (.int (StrChars.hi8 c1)), (.int (StrChars.lo8 c2)), (.int (StrChars.hi8 c2))] (.int 0)) (O2 : Sta Z Z.heap "java/lang/String" "COMPACT_STRINGS" "Z" (.int G1)) (P5 : ¬ G1 = (0 : Int32)) (O4 : Sta Z Z.heap "jdk/internal/util/Preconditions" "SIOOBE_FORMATTER" "Ljava/util/function/BiFunction;" G3) (rG3 : G3.isRef = true) (SA : Sta Z Z.heap "java/lang/StringUTF16" "$assertionsDisabled" "Z" (.int 1)) (SH : Sta Z Z.heap "java/lang/StringUTF16" "HI_BYTE_SHIFT" "I" (.int 0)) (SLo : Sta Z Z.heap "java/lang/StringUTF16" "LO_BYTE_SHIFT" "I" (.int 8)) (r0 : ¬ c0 < 0 ∧ ¬ (65535 : Int32) < c0) (r1 : ¬ c1 < 0 ∧ ¬ (65535 : Int32) < c1) (r2 : ¬ c2 < 0 ∧ ¬ (65535 : Int32) < c2) (hex : ∃ c ∈ ([c0, c1, c2] : List Int32), 255 < c) :
    CtP l (⟨"com/example/tagwire/tagwire/dtd/Names", "isWhitespace", "(Ljava/lang/CharSequence;)Z"⟩ : MethodName) prog_38_method_5_code 2 (some .boolean) [] ({ frames := 5, cells := 0, slots := 0, locals := 66 } : Room) Z #[(.ref x)] h0 (fun v h L => v = some (.int (own_aw ([c0, c1, c2] : List Int32))) ∧ Fr n0 L ∧ h = h0) := by
  refine CtP.walk (Ls := #[.val (.ref x), .unset]) (plainFor_of_name own_pn7) (fun m => by rcases ref_cases rG3 with rfl | ⟨_, rfl⟩ <;> rfl) ?_
  intro p e s m below meth cc_ T hx hby hml hown hnm hret hlk hZ X eT
  have N := Fr.nil n0
  have sz_h : h0.size ≤ h0.size := Nat.le_refl _
  refine giconst X hx (0 : Int32) 1 (hb hby own_d9_0) rfl rfl ?_
  refine gistoreN X hx #[.val (.ref x), .val (.int (0 : Int32))] 2 (hb hby own_d9_1) rfl rfl ?_
  refine giloadN (v := (0 : Int32)) X hx 3 (hb hby own_d9_2) rfl rfl ?_
  refine galoadN (v := (.ref x)) X hx 4 (hb hby own_d9_3) rfl rfl rfl ?_
  refine giface (y := (⟨"java/lang/CharSequence", "length", "()I"⟩ : MethodName)) (z := (⟨"java/lang/String", "length", "()I"⟩ : MethodName)) (a := x) (argsL := []) (st := [(.int (0 : Int32))]) X hx hZ hown (own_w43 hw) (own_w44 hw) (mvT hZ (own_w45 hw)) (own_w46 hw) (own_w47 hw) (own_w48 hw) (own_w49 hw) (own_w50 hw) (by decide) P1_Exa (payLenU (W := 1) (cs := ([c0, c1, c2] : List Int32)) hZ hw P1_Exa P3_Fld P2_Fld P4_Arv rfl rfl hex (own_cS r0 (own_cS r1 (own_cS r2 own_c0))) (O2.ext P0_Old.2) P5 (Nat.le_of_ble_eq_true rfl) (by decide) (by decide)) eT (by rw [hml]; rfl) (lenOf own_pd13 rfl) rfl (Nat.le_of_eq rfl) 0 0 rfl rfl (by decide) (by decide) 9 (hb hby own_d9_4) rfl ?_
  clear X eT; clear T; intro v T h1 L2 Lc X eT hL hQ2
  obtain ⟨rfl, rfl, hh⟩ := hQ2
  replace hh := hh.symm; subst hh
  replace N : Fr n0 L2 := by rw [hL]; exact Fr.app N (Fr.nil n0)
  clear hL
  show Go p e below _ T (mkF m 9 #[.val (.ref x), .val (.int (0 : Int32))] [(.int (3 : Int32)), (.int (0 : Int32))])
  refine gicmpNo X hx 12 (hb hby own_d9_9) rfl (by decide) ?_
  refine galoadN (v := (.ref x)) X hx 13 (hb hby own_d9_12) rfl rfl rfl ?_
  refine giloadN (v := (0 : Int32)) X hx 14 (hb hby own_d9_13) rfl rfl ?_
  refine giface (y := (⟨"java/lang/CharSequence", "charAt", "(I)C"⟩ : MethodName)) (z := (⟨"java/lang/String", "charAt", "(I)C"⟩ : MethodName)) (a := x) (argsL := [(.int (0 : Int32))]) (st := []) X hx hZ hown (own_w57 hw) (own_w58 hw) (mvT hZ (own_w59 hw)) (own_w60 hw) (own_w61 hw) (own_w62 hw) (own_w63 hw) (own_w50 hw) (by decide) P1_Exa (payP (W := 0) (rmSCA3_0 l Z a0 hw (x) (t) (kb) (G1) (G3) _ _ _ h0 n0 (Nat.le_trans Z0 sz_h) P0_Old P1_Exa P2_Fld P3_Fld P4_Arv (O2) (P5) (O4) (rG3) (SA) (SH) (SLo) (r0) (r1) (r2)) hZ (own_w64 hw) (own_w9 hw) (by decide) (by decide)) eT (by rw [hml]; rfl) (lenOf own_pd14 rfl) rfl (Nat.le_of_eq rfl) 0 0 rfl rfl (by decide) (by decide) 19 (hb hby own_d9_14) rfl ?_
  clear X eT; clear T; intro v T h3 L2 Lc X eT hL hQ4
  obtain ⟨rfl, Nq, hh⟩ := hQ4
  replace N : Fr n0 L2 := by rw [hL]; exact Fr.app N Nq
  clear Nq hL
  replace hh := hh.symm; subst hh
  show Go p e below _ T (mkF m 19 #[.val (.ref x), .val (.int (0 : Int32))] [(.int c0)])
  refine gstatic (y := (⟨"com/example/tagwire/tagwire/dtd/Names", "isWhitespace", "(C)Z"⟩ : MethodName)) (argsL := [(.int c0)]) (st := []) X hx hZ hown (own_w82 hw) (own_w83 hw) (own_w41 hw) (own_w84 hw) (by decide) (payP (W := 0) (rmW1 l Z a0 hw (c0) h0 n0 (Nat.le_trans Z0 sz_h)) hZ (own_w84 hw) (own_w41 hw) (by decide) (by decide)) eT (by rw [hml]; rfl) (lenOf own_pd15 rfl) rfl (Nat.le_of_eq rfl) 0 0 rfl rfl (by decide) (by decide) 22 (hb hby own_d9_19) rfl ?_
  clear X eT; clear T; intro v T h7 L2 Lc X eT hL hQ8
  obtain ⟨rfl, Nq, hh⟩ := hQ8
  replace N : Fr n0 L2 := by rw [hL]; exact Fr.app N Nq
  clear Nq hL
  replace hh := hh.symm; subst hh
  show Go p e below _ T (mkF m 22 #[.val (.ref x), .val (.int (0 : Int32))] [(.int (own_ws c0))])
  rcases Decidable.em ((own_ws c0) = (0 : Int32)) with z0_22 | z0_22
  · refine gifNo X hx 25 (hb hby own_d9_22) rfl ((if0 _ _).trans (teq z0_22).2) ?_
    refine giconst X hx (0 : Int32) 26 (hb hby own_d9_25) rfl rfl ?_
    exact gRetP X hx hlk hret rfl (Or.inl ⟨rfl, by simp, _, rfl⟩) (hb hby own_d9_26) eT (by decide) (by decide) ⟨(by simp [own_aw, z0_22]), N, rfl⟩
  · refine gifYes X hx 27 (hb hby own_d9_22) ((if0 _ _).trans (feq z0_22).2) (by decide) (by decide) ?_
    refine giinc X hx #[.val (.ref x), .val (.int (1 : Int32))] 30 (hb hby own_d9_27) rfl rfl rfl ?_
    refine ggoto X hx 2 (hb hby own_d9_30) (by decide) (by decide) ?_
    refine giloadN (v := (1 : Int32)) X hx 3 (hb hby own_d9_2) rfl rfl ?_
    refine galoadN (v := (.ref x)) X hx 4 (hb hby own_d9_3) rfl rfl rfl ?_
    refine giface (y := (⟨"java/lang/CharSequence", "length", "()I"⟩ : MethodName)) (z := (⟨"java/lang/String", "length", "()I"⟩ : MethodName)) (a := x) (argsL := []) (st := [(.int (1 : Int32))]) X hx hZ hown (own_w43 hw) (own_w44 hw) (mvT hZ (own_w45 hw)) (own_w46 hw) (own_w47 hw) (own_w48 hw) (own_w49 hw) (own_w50 hw) (by decide) P1_Exa (payLenU (W := 1) (cs := ([c0, c1, c2] : List Int32)) hZ hw P1_Exa P3_Fld P2_Fld P4_Arv rfl rfl hex (own_cS r0 (own_cS r1 (own_cS r2 own_c0))) (O2.ext P0_Old.2) P5 (Nat.le_of_ble_eq_true rfl) (by decide) (by decide)) eT (by rw [hml]; rfl) (lenOf own_pd13 rfl) rfl (Nat.le_of_eq rfl) 0 0 rfl rfl (by decide) (by decide) 9 (hb hby own_d9_4) rfl ?_
    clear X eT; clear T; intro v T h11 L2 Lc X eT hL hQ12
    obtain ⟨rfl, rfl, hh⟩ := hQ12
    replace hh := hh.symm; subst hh
    replace N : Fr n0 L2 := by rw [hL]; exact Fr.app N (Fr.nil n0)
    clear hL
    show Go p e below _ T (mkF m 9 #[.val (.ref x), .val (.int (1 : Int32))] [(.int (3 : Int32)), (.int (1 : Int32))])
    refine gicmpNo X hx 12 (hb hby own_d9_9) rfl (by decide) ?_
    refine galoadN (v := (.ref x)) X hx 13 (hb hby own_d9_12) rfl rfl rfl ?_
    refine giloadN (v := (1 : Int32)) X hx 14 (hb hby own_d9_13) rfl rfl ?_
    refine giface (y := (⟨"java/lang/CharSequence", "charAt", "(I)C"⟩ : MethodName)) (z := (⟨"java/lang/String", "charAt", "(I)C"⟩ : MethodName)) (a := x) (argsL := [(.int (1 : Int32))]) (st := []) X hx hZ hown (own_w57 hw) (own_w58 hw) (mvT hZ (own_w59 hw)) (own_w60 hw) (own_w61 hw) (own_w62 hw) (own_w63 hw) (own_w50 hw) (by decide) P1_Exa (payP (W := 0) (rmSCA3_1 l Z a0 hw (x) (t) (kb) (G1) (G3) _ _ _ h0 n0 (Nat.le_trans Z0 sz_h) P0_Old P1_Exa P2_Fld P3_Fld P4_Arv (O2) (P5) (O4) (rG3) (SA) (SH) (SLo) (r0) (r1) (r2)) hZ (own_w64 hw) (own_w9 hw) (by decide) (by decide)) eT (by rw [hml]; rfl) (lenOf own_pd14 rfl) rfl (Nat.le_of_eq rfl) 0 0 rfl rfl (by decide) (by decide) 19 (hb hby own_d9_14) rfl ?_
    clear X eT; clear T; intro v T h13 L2 Lc X eT hL hQ14
    obtain ⟨rfl, Nq, hh⟩ := hQ14
    replace N : Fr n0 L2 := by rw [hL]; exact Fr.app N Nq
    clear Nq hL
    replace hh := hh.symm; subst hh
    show Go p e below _ T (mkF m 19 #[.val (.ref x), .val (.int (1 : Int32))] [(.int c1)])
    refine gstatic (y := (⟨"com/example/tagwire/tagwire/dtd/Names", "isWhitespace", "(C)Z"⟩ : MethodName)) (argsL := [(.int c1)]) (st := []) X hx hZ hown (own_w82 hw) (own_w83 hw) (own_w41 hw) (own_w84 hw) (by decide) (payP (W := 0) (rmW1 l Z a0 hw (c1) h0 n0 (Nat.le_trans Z0 sz_h)) hZ (own_w84 hw) (own_w41 hw) (by decide) (by decide)) eT (by rw [hml]; rfl) (lenOf own_pd15 rfl) rfl (Nat.le_of_eq rfl) 0 0 rfl rfl (by decide) (by decide) 22 (hb hby own_d9_19) rfl ?_
    clear X eT; clear T; intro v T h17 L2 Lc X eT hL hQ18
    obtain ⟨rfl, Nq, hh⟩ := hQ18
    replace N : Fr n0 L2 := by rw [hL]; exact Fr.app N Nq
    clear Nq hL
    replace hh := hh.symm; subst hh
    show Go p e below _ T (mkF m 22 #[.val (.ref x), .val (.int (1 : Int32))] [(.int (own_ws c1))])
    rcases Decidable.em ((own_ws c1) = (0 : Int32)) with z1_22 | z1_22
    · refine gifNo X hx 25 (hb hby own_d9_22) rfl ((if0 _ _).trans (teq z1_22).2) ?_
      refine giconst X hx (0 : Int32) 26 (hb hby own_d9_25) rfl rfl ?_
      exact gRetP X hx hlk hret rfl (Or.inl ⟨rfl, by simp, _, rfl⟩) (hb hby own_d9_26) eT (by decide) (by decide) ⟨(by simp [own_aw, z0_22, z1_22]), N, rfl⟩
    · refine gifYes X hx 27 (hb hby own_d9_22) ((if0 _ _).trans (feq z1_22).2) (by decide) (by decide) ?_
      refine giinc X hx #[.val (.ref x), .val (.int (2 : Int32))] 30 (hb hby own_d9_27) rfl rfl rfl ?_
      refine ggoto X hx 2 (hb hby own_d9_30) (by decide) (by decide) ?_
      refine giloadN (v := (2 : Int32)) X hx 3 (hb hby own_d9_2) rfl rfl ?_
      refine galoadN (v := (.ref x)) X hx 4 (hb hby own_d9_3) rfl rfl rfl ?_
      refine giface (y := (⟨"java/lang/CharSequence", "length", "()I"⟩ : MethodName)) (z := (⟨"java/lang/String", "length", "()I"⟩ : MethodName)) (a := x) (argsL := []) (st := [(.int (2 : Int32))]) X hx hZ hown (own_w43 hw) (own_w44 hw) (mvT hZ (own_w45 hw)) (own_w46 hw) (own_w47 hw) (own_w48 hw) (own_w49 hw) (own_w50 hw) (by decide) P1_Exa (payLenU (W := 1) (cs := ([c0, c1, c2] : List Int32)) hZ hw P1_Exa P3_Fld P2_Fld P4_Arv rfl rfl hex (own_cS r0 (own_cS r1 (own_cS r2 own_c0))) (O2.ext P0_Old.2) P5 (Nat.le_of_ble_eq_true rfl) (by decide) (by decide)) eT (by rw [hml]; rfl) (lenOf own_pd13 rfl) rfl (Nat.le_of_eq rfl) 0 0 rfl rfl (by decide) (by decide) 9 (hb hby own_d9_4) rfl ?_
      clear X eT; clear T; intro v T h21 L2 Lc X eT hL hQ22
      obtain ⟨rfl, rfl, hh⟩ := hQ22
      replace hh := hh.symm; subst hh
      replace N : Fr n0 L2 := by rw [hL]; exact Fr.app N (Fr.nil n0)
      clear hL
      show Go p e below _ T (mkF m 9 #[.val (.ref x), .val (.int (2 : Int32))] [(.int (3 : Int32)), (.int (2 : Int32))])
      refine gicmpNo X hx 12 (hb hby own_d9_9) rfl (by decide) ?_
      refine galoadN (v := (.ref x)) X hx 13 (hb hby own_d9_12) rfl rfl rfl ?_
      refine giloadN (v := (2 : Int32)) X hx 14 (hb hby own_d9_13) rfl rfl ?_
      refine giface (y := (⟨"java/lang/CharSequence", "charAt", "(I)C"⟩ : MethodName)) (z := (⟨"java/lang/String", "charAt", "(I)C"⟩ : MethodName)) (a := x) (argsL := [(.int (2 : Int32))]) (st := []) X hx hZ hown (own_w57 hw) (own_w58 hw) (mvT hZ (own_w59 hw)) (own_w60 hw) (own_w61 hw) (own_w62 hw) (own_w63 hw) (own_w50 hw) (by decide) P1_Exa (payP (W := 0) (rmSCA3_2 l Z a0 hw (x) (t) (kb) (G1) (G3) _ _ _ h0 n0 (Nat.le_trans Z0 sz_h) P0_Old P1_Exa P2_Fld P3_Fld P4_Arv (O2) (P5) (O4) (rG3) (SA) (SH) (SLo) (r0) (r1) (r2)) hZ (own_w64 hw) (own_w9 hw) (by decide) (by decide)) eT (by rw [hml]; rfl) (lenOf own_pd14 rfl) rfl (Nat.le_of_eq rfl) 0 0 rfl rfl (by decide) (by decide) 19 (hb hby own_d9_14) rfl ?_
      clear X eT; clear T; intro v T h23 L2 Lc X eT hL hQ24
      obtain ⟨rfl, Nq, hh⟩ := hQ24
      replace N : Fr n0 L2 := by rw [hL]; exact Fr.app N Nq
      clear Nq hL
      replace hh := hh.symm; subst hh
      show Go p e below _ T (mkF m 19 #[.val (.ref x), .val (.int (2 : Int32))] [(.int c2)])
      refine gstatic (y := (⟨"com/example/tagwire/tagwire/dtd/Names", "isWhitespace", "(C)Z"⟩ : MethodName)) (argsL := [(.int c2)]) (st := []) X hx hZ hown (own_w82 hw) (own_w83 hw) (own_w41 hw) (own_w84 hw) (by decide) (payP (W := 0) (rmW1 l Z a0 hw (c2) h0 n0 (Nat.le_trans Z0 sz_h)) hZ (own_w84 hw) (own_w41 hw) (by decide) (by decide)) eT (by rw [hml]; rfl) (lenOf own_pd15 rfl) rfl (Nat.le_of_eq rfl) 0 0 rfl rfl (by decide) (by decide) 22 (hb hby own_d9_19) rfl ?_
      clear X eT; clear T; intro v T h27 L2 Lc X eT hL hQ28
      obtain ⟨rfl, Nq, hh⟩ := hQ28
      replace N : Fr n0 L2 := by rw [hL]; exact Fr.app N Nq
      clear Nq hL
      replace hh := hh.symm; subst hh
      show Go p e below _ T (mkF m 22 #[.val (.ref x), .val (.int (2 : Int32))] [(.int (own_ws c2))])
      rcases Decidable.em ((own_ws c2) = (0 : Int32)) with z2_22 | z2_22
      · refine gifNo X hx 25 (hb hby own_d9_22) rfl ((if0 _ _).trans (teq z2_22).2) ?_
        refine giconst X hx (0 : Int32) 26 (hb hby own_d9_25) rfl rfl ?_
        exact gRetP X hx hlk hret rfl (Or.inl ⟨rfl, by simp, _, rfl⟩) (hb hby own_d9_26) eT (by decide) (by decide) ⟨(by simp [own_aw, z0_22, z1_22, z2_22]), N, rfl⟩
      · refine gifYes X hx 27 (hb hby own_d9_22) ((if0 _ _).trans (feq z2_22).2) (by decide) (by decide) ?_
        refine giinc X hx #[.val (.ref x), .val (.int (3 : Int32))] 30 (hb hby own_d9_27) rfl rfl rfl ?_
        refine ggoto X hx 2 (hb hby own_d9_30) (by decide) (by decide) ?_
        refine giloadN (v := (3 : Int32)) X hx 3 (hb hby own_d9_2) rfl rfl ?_
        refine galoadN (v := (.ref x)) X hx 4 (hb hby own_d9_3) rfl rfl rfl ?_
        refine giface (y := (⟨"java/lang/CharSequence", "length", "()I"⟩ : MethodName)) (z := (⟨"java/lang/String", "length", "()I"⟩ : MethodName)) (a := x) (argsL := []) (st := [(.int (3 : Int32))]) X hx hZ hown (own_w43 hw) (own_w44 hw) (mvT hZ (own_w45 hw)) (own_w46 hw) (own_w47 hw) (own_w48 hw) (own_w49 hw) (own_w50 hw) (by decide) P1_Exa (payLenU (W := 1) (cs := ([c0, c1, c2] : List Int32)) hZ hw P1_Exa P3_Fld P2_Fld P4_Arv rfl rfl hex (own_cS r0 (own_cS r1 (own_cS r2 own_c0))) (O2.ext P0_Old.2) P5 (Nat.le_of_ble_eq_true rfl) (by decide) (by decide)) eT (by rw [hml]; rfl) (lenOf own_pd13 rfl) rfl (Nat.le_of_eq rfl) 0 0 rfl rfl (by decide) (by decide) 9 (hb hby own_d9_4) rfl ?_
        clear X eT; clear T; intro v T h31 L2 Lc X eT hL hQ32
        obtain ⟨rfl, rfl, hh⟩ := hQ32
        replace hh := hh.symm; subst hh
        replace N : Fr n0 L2 := by rw [hL]; exact Fr.app N (Fr.nil n0)
        clear hL
        show Go p e below _ T (mkF m 9 #[.val (.ref x), .val (.int (3 : Int32))] [(.int (3 : Int32)), (.int (3 : Int32))])
        refine gicmpYes X hx 33 (hb hby own_d9_9) (by decide) (by decide) (by decide) ?_
        refine giconst X hx (1 : Int32) 34 (hb hby own_d9_33) rfl rfl ?_
        exact gRetP X hx hlk hret rfl (Or.inl ⟨rfl, by simp, _, rfl⟩) (hb hby own_d9_34) eT (by decide) (by decide) ⟨(by simp [own_aw, z0_22, z1_22, z2_22]), N, rfl⟩
set_option maxRecDepth 65536 in
set_option maxHeartbeats 40000000 in
theorem rm1 (l : Launch) (Z : State) (a0 : Array Value) (hw : ∀ d ∈ tables_1, d.before a0 Z = true) (k : Int32) (h0 : Heap) (n0 : Nat) (Z0 : n0 ≤ h0.size) :
    CtP l (⟨"com/example/tagwire/tagwire/dtd/NamesIsWhitespacePinLaw", "pick", "(I)C"⟩ : MethodName) method_2_code 2 (some .char) [] ({ frames := 0, cells := 0, slots := 0, locals := 0 } : Room) Z #[(.int k)] h0 (fun v h L => ∃ (d : Int32), v = some (.int d) ∧ Fr n0 L ∧ h = h0 ∧ (¬ d < 0 ∧ ¬ (65535 : Int32) < d)) := by
  refine CtP.walk (Ls := #[.val (.int k), .unset]) (plainFor_of_name own_pn8) (fun m => by first | (simp [entryFrame, mkF, argsToLocals, Value.category]; done) | rfl) ?_
  intro p e s m below meth cc_ T hx hby hml hown hnm hret hlk hZ X eT
  have N := Fr.nil n0
  have sz_h : h0.size ≤ h0.size := Nat.le_refl _
  refine giloadN (v := k) X hx 1 (hb hby own_d1_0) rfl rfl ?_
  refine gldcI X hx hZ hown (own_w4 hw) 3 (hb hby own_d1_1) rfl ?_
  refine giand X hx 4 (hb hby own_d1_3) rfl ?_
  rcases Decidable.em ((k &&& (65536 : Int32)) = (0 : Int32)) with g_4 | g_4
  · refine gifYes X hx 37 (hb hby own_d1_4) ((if0 _ _).trans (teq g_4).1) (by decide) (by decide) ?_
    refine giloadN (v := k) X hx 38 (hb hby own_d1_37) rfl rfl ?_
    refine gldcI X hx hZ hown (own_w5 hw) 40 (hb hby own_d1_38) rfl ?_
    refine giand X hx 41 (hb hby own_d1_40) rfl ?_
    refine gi2c X hx 42 (hb hby own_d1_41) rfl ?_
    exact gRetP X hx hlk hret (own_narrow (own_16 _)) (Or.inl ⟨rfl, by simp, _, rfl⟩) (hb hby own_d1_42) eT (by decide) (by decide) ⟨((k &&& (65535 : Int32)).toUInt32.toUInt16.toUInt32.toInt32), rfl, N, rfl, own_16 _⟩
  · refine gifNo X hx 7 (hb hby own_d1_4) rfl ((if0 _ _).trans (feq g_4).1) ?_
    refine giloadN (v := k) X hx 8 (hb hby own_d1_7) rfl rfl ?_
    refine giconst X hx (3 : Int32) 9 (hb hby own_d1_8) rfl rfl ?_
    refine giand X hx 10 (hb hby own_d1_9) rfl ?_
    refine gistoreN X hx #[.val (.int k), .val (.int (k &&& (3 : Int32)))] 11 (hb hby own_d1_10) rfl rfl ?_
    refine giloadN (v := (k &&& (3 : Int32))) X hx 12 (hb hby own_d1_11) rfl rfl ?_
    rcases Decidable.em ((k &&& (3 : Int32)) = (0 : Int32)) with g0_12 | g0_12
    · refine gifNo X hx 15 (hb hby own_d1_12) rfl ((if0 _ _).trans (teq g0_12).2) ?_
      refine gbipush X hx (32 : Int32) 17 (hb hby own_d1_15) rfl rfl ?_
      exact gRetP X hx hlk hret rfl (Or.inl ⟨rfl, by simp, _, rfl⟩) (hb hby own_d1_17) eT (by decide) (by decide) ⟨(32 : Int32), rfl, N, rfl, (by decide)⟩
    · refine gifYes X hx 18 (hb hby own_d1_12) ((if0 _ _).trans (feq g0_12).2) (by decide) (by decide) ?_
      refine giloadN (v := (k &&& (3 : Int32))) X hx 19 (hb hby own_d1_18) rfl rfl ?_
      refine giconst X hx (1 : Int32) 20 (hb hby own_d1_19) rfl rfl ?_
      rcases Decidable.em ((k &&& (3 : Int32)) = (1 : Int32)) with g1_20 | g1_20
      · refine gicmpNo X hx 23 (hb hby own_d1_20) rfl (teq g1_20).2 ?_
        refine gbipush X hx (9 : Int32) 25 (hb hby own_d1_23) rfl rfl ?_
        exact gRetP X hx hlk hret rfl (Or.inl ⟨rfl, by simp, _, rfl⟩) (hb hby own_d1_25) eT (by decide) (by decide) ⟨(9 : Int32), rfl, N, rfl, (by decide)⟩
      · refine gicmpYes X hx 26 (hb hby own_d1_20) (feq g1_20).2 (by decide) (by decide) ?_
        refine giloadN (v := (k &&& (3 : Int32))) X hx 27 (hb hby own_d1_26) rfl rfl ?_
        refine giconst X hx (2 : Int32) 28 (hb hby own_d1_27) rfl rfl ?_
        rcases Decidable.em ((k &&& (3 : Int32)) = (2 : Int32)) with g2_28 | g2_28
        · refine gicmpNo X hx 31 (hb hby own_d1_28) rfl (teq g2_28).2 ?_
          refine gbipush X hx (13 : Int32) 33 (hb hby own_d1_31) rfl rfl ?_
          exact gRetP X hx hlk hret rfl (Or.inl ⟨rfl, by simp, _, rfl⟩) (hb hby own_d1_33) eT (by decide) (by decide) ⟨(13 : Int32), rfl, N, rfl, (by decide)⟩
        · refine gicmpYes X hx 34 (hb hby own_d1_28) (feq g2_28).2 (by decide) (by decide) ?_
          refine gbipush X hx (10 : Int32) 36 (hb hby own_d1_34) rfl rfl ?_
          exact gRetP X hx hlk hret rfl (Or.inl ⟨rfl, by simp, _, rfl⟩) (hb hby own_d1_36) eT (by decide) (by decide) ⟨(10 : Int32), rfl, N, rfl, (by decide)⟩
set_option maxRecDepth 65536 in
set_option maxHeartbeats 40000000 in
theorem rmE4 (l : Launch) (Z : State) (a0 : Array Value) (hw : ∀ d ∈ tables_1, d.before a0 Z = true) (x : Addr) (b : Addr) (v0 : Value) (c0 : Value) (h0 : Heap) (n0 : Nat) (Z0 : n0 ≤ h0.size) (ge_x : n0 ≤ x) (P0_Exa : Exa Z h0 x "java/lang/String") (P1_Fld : Fld Z h0 x "java/lang/String" "value" "[B" v0) (P2_Fld : Fld Z h0 x "java/lang/String" "coder" "B" c0) :
    CtS l (⟨"java/lang/String", "<init>", "([CIILjava/lang/Void;)V"⟩ : MethodName) jdk_42_method_149_code 6 none [] ({ frames := 1, cells := 4, slots := 8, locals := 12 } : Room) Z own_EL [x] #[(.ref x), (.ref b), (.int (0 : Int32)), (.int (0 : Int32)), .null] h0 (fun v h L => ∃ (t : Addr), ∃ (kb : ClassId), v = none ∧ Fr n0 L ∧ Keep h0 h [x] ∧ Fld Z h x "java/lang/String" "value" "[B" (.ref t) ∧ Fld Z h x "java/lang/String" "coder" "B" (.int 0) ∧ Arv Z h t kb .byte (0 : Int32) [] (.int 0)) := by
  refine CtS.walk (Ls := #[.val (.ref x), .val (.ref b), .val (.int (0 : Int32)), .val (.int (0 : Int32)), .val .null, .unset]) own_pn1 (fun m => by first | (simp [entryFrame, mkF, argsToLocals, Value.category]; done) | rfl) ?_
  intro p e s m below meth cc_ T vm k0 hx hby hml hown hnm hret hlk hZ X eT hS hk C hSL
  have P3_Safe := hSL x (List.mem_of_getElem? (i := 0) rfl)
  have N := Fr.nil n0
  have K0 := Keep.refl h0 [x]
  have sz_h : h0.size ≤ h0.size := Nat.le_refl _
  refine galoadN (v := (.ref x)) X hx 1 (hb hby own_d3_0) rfl rfl rfl ?_
  refine ginitO X hx hZ hown (own_w17 hw) (own_w18 hw) (own_w19 hw) eT (by rw [hml]; rfl) (by decide) 0 (Nat.le_of_eq rfl) (by decide) 4 (hb hby own_d3_1) rfl ?_
  clear X eT; clear T; intro T X eT
  refine giloadN (v := (0 : Int32)) X hx 5 (hb hby own_d3_4) rfl rfl ?_
  refine gifNo X hx 8 (hb hby own_d3_5) rfl (by decide) ?_
  refine galoadN (v := (.ref x)) X hx 9 (hb hby own_d3_8) rfl rfl rfl ?_
  have lt_x := P0_Exa.lt
  refine gldcV X hx hZ hown (own_w85 hw) (own_wS hw) eT hS hk (own_EW hw) own_mem85 C.1 [] (0 : Int32) (by decide +kernel) (by decide) rfl 0 (by decide) (by decide) 2 4 rfl rfl (by decide) (by decide) 11 (hb hby own_d3_9) rfl ?_
  clear X eT hS hk hZ hown; clear T k0; intro c2 T h1 vm k0 t10 kb11 X eT E3 hS hk hZ hown CR4 Li5 A6 F7 F8 V9 ns12
  replace P0_Exa := P0_Exa.ext E3
  replace P1_Fld := P1_Fld.ext E3
  replace P2_Fld := P2_Fld.ext E3
  replace P3_Safe := CHr.safe CR4 lt_x P3_Safe
  replace K0 := K0.ext E3
  replace C := C.trans CR4
  replace sz_h : h0.size ≤ h1.size := Nat.le_trans sz_h E3.1
  have ne_x_c2 := (ns12 _ P3_Safe).1
  have ne_c2_x := Ne.symm ne_x_c2
  have ne_x_t10 := (ns12 _ P3_Safe).2
  have ne_t10_x := Ne.symm ne_x_t10
  show Go p e below _ T (mkF m 11 #[.val (.ref x), .val (.ref b), .val (.int (0 : Int32)), .val (.int (0 : Int32)), .val .null, .unset] [(.ref c2), (.ref x)])
  refine ggetF X hx hZ (host := "") hown (Or.inl (own_w34 hw)) Via.refl eT F8 14 (hb hby own_d3_11) rfl ?_
  clear X eT; clear T; intro T X eT
  refine gputF X hx hZ (host := "") hown (Or.inl (own_w34 hw)) Via.refl eT P1_Fld P0_Exa (Or.inr ⟨(own_w35 hw), rfl, hnm⟩) (own_w8 hw) (ty := (.array .byte)) own_pf1 rfl rfl N ge_x 17 (hb hby own_d3_14) rfl ?_
  clear X eT N; clear T; intro T h13 L X eT N W14
  have sfw := P3_Safe
  replace P0_Exa := P0_Exa.wr W14
  replace P1_Fld := P1_Fld.same W14
  replace P2_Fld := P2_Fld.other W14 (Or.inr (slot_ne (Or.inr (own_w33 hw)) (Or.inr (own_w35 hw)) (by decide) own_pf0 own_pf1))
  replace P3_Safe := Safe.wr W14 sfw C.1 P3_Safe
  replace A6 := A6.wr W14
  replace F7 := F7.other W14 (Or.inl ne_c2_x)
  replace F8 := F8.other W14 (Or.inl ne_c2_x)
  replace V9 := V9.other W14 ne_t10_x
  replace K0 := K0.wr W14 (Or.inl (List.mem_of_getElem? (i := 0) rfl))
  replace C := C.trans (CHr.wr W14 sfw C.1)
  replace hk : k0 ≤ h13.size := by rw [Wr.size W14]; exact hk
  replace sz_h : h0.size ≤ h13.size := by rw [Wr.size W14]; exact sz_h
  refine galoadN (v := (.ref x)) X hx 18 (hb hby own_d3_17) rfl rfl rfl ?_
  have lt_x := P0_Exa.lt
  refine gldcV X hx hZ hown (own_w85 hw) (own_wS hw) eT hS hk (own_EW hw) own_mem85 C.1 [] (0 : Int32) (by decide +kernel) (by decide) rfl 0 (by decide) (by decide) 4 8 rfl rfl (by decide) (by decide) 20 (hb hby own_d3_18) rfl ?_
  clear X eT hS hk hZ hown; clear T k0; intro c16 T h15 vm k0 t24 kb25 X eT E17 hS hk hZ hown CR18 Li19 A20 F21 F22 V23 ns26
  replace P0_Exa := P0_Exa.ext E17
  replace P1_Fld := P1_Fld.ext E17
  replace P2_Fld := P2_Fld.ext E17
  replace P3_Safe := CHr.safe CR18 lt_x P3_Safe
  replace A6 := A6.ext E17
  replace F7 := F7.ext E17
  replace F8 := F8.ext E17
  replace V9 := V9.ext E17
  replace K0 := K0.ext E17
  replace C := C.trans CR18
  replace sz_h : h0.size ≤ h15.size := Nat.le_trans sz_h E17.1
  have ne_x_c16 := (ns26 _ P3_Safe).1
  have ne_c16_x := Ne.symm ne_x_c16
  have ne_x_t24 := (ns26 _ P3_Safe).2
  have ne_t24_x := Ne.symm ne_x_t24
  show Go p e below _ T (mkF m 20 #[.val (.ref x), .val (.ref b), .val (.int (0 : Int32)), .val (.int (0 : Int32)), .val .null, .unset] [(.ref c16), (.ref x)])
  refine ggetF X hx hZ (host := "") hown (Or.inl (own_w32 hw)) Via.refl eT F21 23 (hb hby own_d3_20) rfl ?_
  clear X eT; clear T; intro T X eT
  refine gputF X hx hZ (host := "") hown (Or.inl (own_w32 hw)) Via.refl eT P2_Fld P0_Exa (Or.inr ⟨(own_w33 hw), rfl, hnm⟩) (own_w8 hw) (ty := .byte) own_pf0 rfl rfl N ge_x 26 (hb hby own_d3_23) rfl ?_
  clear X eT N; clear T; intro T h27 L X eT N W28
  have sfw := P3_Safe
  replace P0_Exa := P0_Exa.wr W28
  replace P1_Fld := P1_Fld.other W28 (Or.inr (slot_ne (Or.inr (own_w35 hw)) (Or.inr (own_w33 hw)) (by decide) own_pf1 own_pf0))
  replace P2_Fld := P2_Fld.same W28
  replace P3_Safe := Safe.wr W28 sfw C.1 P3_Safe
  replace A6 := A6.wr W28
  replace F7 := F7.other W28 (Or.inl ne_c2_x)
  replace F8 := F8.other W28 (Or.inl ne_c2_x)
  replace V9 := V9.other W28 ne_t10_x
  replace A20 := A20.wr W28
  replace F21 := F21.other W28 (Or.inl ne_c16_x)
  replace F22 := F22.other W28 (Or.inl ne_c16_x)
  replace V23 := V23.other W28 ne_t24_x
  replace K0 := K0.wr W28 (Or.inl (List.mem_of_getElem? (i := 0) rfl))
  replace C := C.trans (CHr.wr W28 sfw C.1)
  replace hk : k0 ≤ h27.size := by rw [Wr.size W28]; exact hk
  replace sz_h : h0.size ≤ h27.size := by rw [Wr.size W28]; exact sz_h
  exact gRetS0 X hx hlk hret (hb hby own_d3_26) eT hS hk hZ (own_EW hw) C (by decide) (by decide) ⟨t10, kb11, rfl, N, K0, P1_Fld, P2_Fld, V9⟩
set_option maxRecDepth 65536 in
set_option maxHeartbeats 40000000 in
theorem rmE1 (l : Launch) (Z : State) (a0 : Array Value) (hw : ∀ d ∈ tables_1, d.before a0 Z = true) (x : Addr) (b : Addr) (v0 : Value) (c0 : Value) (kc : ClassId) (h0 : Heap) (n0 : Nat) (Z0 : n0 ≤ h0.size) (ge_x : n0 ≤ x) (P0_Exa : Exa Z h0 x "java/lang/String") (P1_Fld : Fld Z h0 x "java/lang/String" "value" "[B" v0) (P2_Fld : Fld Z h0 x "java/lang/String" "coder" "B" c0) (P4_Arv : Arv Z h0 b kc .char (0 : Int32) [] (.int 0)) :
    CtS l (⟨"java/lang/String", "<init>", "([C)V"⟩ : MethodName) jdk_42_method_3_code 2 none [] ({ frames := 2, cells := 4, slots := 8, locals := 29 } : Room) Z own_EL [x] #[(.ref x), (.ref b)] h0 (fun v h L => ∃ (t : Addr), ∃ (kb : ClassId), v = none ∧ Fr n0 L ∧ Keep h0 h [x] ∧ Fld Z h x "java/lang/String" "value" "[B" (.ref t) ∧ Fld Z h x "java/lang/String" "coder" "B" (.int 0) ∧ Arv Z h t kb .byte (0 : Int32) [] (.int 0)) := by
  refine CtS.walk (Ls := #[.val (.ref x), .val (.ref b)]) own_pn2 (fun m => by first | (simp [entryFrame, mkF, argsToLocals, Value.category]; done) | rfl) ?_
  intro p e s m below meth cc_ T vm k0 hx hby hml hown hnm hret hlk hZ X eT hS hk C hSL
  have P3_Safe := hSL x (List.mem_of_getElem? (i := 0) rfl)
  have N := Fr.nil n0
  have K0 := Keep.refl h0 [x]
  have sz_h : h0.size ≤ h0.size := Nat.le_refl _
  refine galoadN (v := (.ref x)) X hx 1 (hb hby own_d2_0) rfl rfl rfl ?_
  refine galoadN (v := (.ref b)) X hx 2 (hb hby own_d2_1) rfl rfl rfl ?_
  refine giconst X hx (0 : Int32) 3 (hb hby own_d2_2) rfl rfl ?_
  refine galoadN (v := (.ref b)) X hx 4 (hb hby own_d2_3) rfl rfl rfl ?_
  refine garrlen X hx hZ eT P4_Arv 5 (hb hby own_d2_4) rfl ?_
  refine gaconstNull X hx 6 (hb hby own_d2_5) rfl ?_
  refine gspecialS (y := (⟨"java/lang/String", "<init>", "([CIILjava/lang/Void;)V"⟩ : MethodName)) (a := x) (argsL := [(.ref b), (.int (0 : Int32)), (.int (0 : Int32)), .null]) (st := []) X hx hZ hown rfl (own_w13 hw) (own_w14 hw) (own_w16 hw) (by decide) hS hk (payS (W := 0) (rmE4 l Z a0 hw (x) (b) (v0) (c0) h0 n0 (Nat.le_trans Z0 sz_h) ge_x P0_Exa P1_Fld P2_Fld) hZ (own_w16 hw) (own_w9 hw) (by decide) (by decide) (own_EW hw) C.1 (allS ⟨P0_Exa.lt, P3_Safe⟩ all0)) eT (by rw [hml]; rfl) (lenOf own_pd7 rfl) rfl (Nat.le_of_eq rfl) 4 8 rfl rfl (by decide) (by decide) 9 (hb hby own_d2_6) rfl ?_
  have lt_x := P0_Exa.lt
  clear X eT hS hk hZ hown; clear T k0; intro v T h1 L2 Lc vm k0 X eT hL hS hk hZ hown CR6 hQ2
  obtain ⟨t_3, kb_4, rfl, Nq, K5, G7, G8, G9⟩ := hQ2
  replace N : Fr n0 L2 := by rw [hL]; exact Fr.app N Nq
  clear Nq hL
  have ne_b_x : b ≠ x := Ne.symm (Exa.neArv P0_Exa P4_Arv (own_w8 hw))
  replace P0_Exa := P0_Exa.keep K5
  replace P3_Safe := CHr.safe CR6 lt_x P3_Safe
  replace P4_Arv := P4_Arv.keep K5 (ninS ne_b_x nin0)
  replace K0 := K0.trans K5 (allS (Or.inl (List.mem_of_getElem? (i := 0) rfl)) all0)
  replace C := C.trans CR6
  replace sz_h : h0.size ≤ h1.size := Nat.le_trans sz_h K5.1
  show Go p e below _ T (mkF m 9 #[.val (.ref x), .val (.ref b)] [])
  exact gRetS0 X hx hlk hret (hb hby own_d2_9) eT hS hk hZ (own_EW hw) C (by decide) (by decide) ⟨t_3, kb_4, rfl, N, K0, G7, G8, G9⟩
set_option maxRecDepth 65536 in
set_option maxHeartbeats 40000000 in
theorem rm0 (l : Launch) (Z : State) (a0 : Array Value) (hw : ∀ d ∈ tables_1, d.before a0 Z = true) (p0 : Int32) (p1 : Int32) (p2 : Int32) (p3 : Int32) (G1 : Int32) (G3 : Value) (h0 : Heap) (n0 : Nat) (Z0 : n0 ≤ h0.size) (P0_Old : Old Z n0 h0) (O2 : Sta Z Z.heap "java/lang/String" "COMPACT_STRINGS" "Z" (.int G1)) (P5 : ¬ G1 = (0 : Int32)) (O4 : Sta Z Z.heap "jdk/internal/util/Preconditions" "SIOOBE_FORMATTER" "Ljava/util/function/BiFunction;" G3) (rG3 : G3.isRef = true) (SA : Sta Z Z.heap "java/lang/StringUTF16" "$assertionsDisabled" "Z" (.int 1)) (SH : Sta Z Z.heap "java/lang/StringUTF16" "HI_BYTE_SHIFT" "I" (.int 0)) (SLo : Sta Z Z.heap "java/lang/StringUTF16" "LO_BYTE_SHIFT" "I" (.int 8)) :
    CtL l x code maxLocals ret tables_1 room_1 Z own_EL #[(.int p0), (.int p1), (.int p2), (.int p3)] h0 (fun v h L => v = some (.int (1 : Int32)) ∧ Fr n0 L ∧ Keep h0 h []) := by
  refine CtL.walk (Ls := #[.val (.int p0), .val (.int p1), .val (.int p2), .val (.int p3), .unset, .unset, .unset, .unset, .unset, .unset, .unset, .unset, .unset]) (plainFor_of_name own_pn8) (fun m => by rcases ref_cases rG3 with rfl | ⟨_, rfl⟩ <;> rfl) ?_
  intro p e s m below meth cc_ T vm k0 hx hby hml hown hnm hret hlk hZ X eT hS hk C
  have N := Fr.nil n0
  have K0 := Keep.refl h0 []
  have sz_h : h0.size ≤ h0.size := Nat.le_refl _
  refine giloadN (v := p3) X hx 1 (hb hby at_0) rfl rfl ?_
  refine giconst X hx (3 : Int32) 2 (hb hby at_1) rfl rfl ?_
  refine giand X hx 3 (hb hby at_2) rfl ?_
  refine gistore X hx #[.val (.int p0), .val (.int p1), .val (.int p2), .val (.int p3), .val (.int (p3 &&& (3 : Int32))), .unset, .unset, .unset, .unset, .unset, .unset, .unset, .unset] 5 (hb hby at_3) rfl rfl ?_
  refine giloadN (v := p0) X hx 6 (hb hby at_5) rfl rfl ?_
  refine gstatic (y := (⟨"com/example/tagwire/tagwire/dtd/NamesIsWhitespacePinLaw", "pick", "(I)C"⟩ : MethodName)) (argsL := [(.int p0)]) (st := []) X hx hZ hown (own_w0 hw) (own_w1 hw) (own_w2 hw) (own_w3 hw) (by decide) (payP (W := 0) (rm1 l Z a0 hw (p0) h0 n0 (Nat.le_trans Z0 sz_h)) hZ (own_w3 hw) (own_w2 hw) (by decide) (by decide)) eT (by rw [hml]; rfl) (lenOf own_pd14 rfl) rfl (Nat.le_of_eq rfl) 0 0 rfl rfl (by decide) (by decide) 9 (hb hby at_6) rfl ?_
  clear X eT; clear T; intro v T h1 L2 Lc X eT hL hQ2
  obtain ⟨c0, rfl, Nq, hh, pp5⟩ := hQ2
  replace N : Fr n0 L2 := by rw [hL]; exact Fr.app N Nq
  clear Nq hL
  replace hh := hh.symm; subst hh
  show Go p e below _ T (mkF m 9 #[.val (.int p0), .val (.int p1), .val (.int p2), .val (.int p3), .val (.int (p3 &&& (3 : Int32))), .unset, .unset, .unset, .unset, .unset, .unset, .unset, .unset] [(.int c0)])
  refine gistore X hx #[.val (.int p0), .val (.int p1), .val (.int p2), .val (.int p3), .val (.int (p3 &&& (3 : Int32))), .val (.int c0), .unset, .unset, .unset, .unset, .unset, .unset, .unset] 11 (hb hby at_9) rfl rfl ?_
  refine giloadN (v := p1) X hx 12 (hb hby at_11) rfl rfl ?_
  refine gstatic (y := (⟨"com/example/tagwire/tagwire/dtd/NamesIsWhitespacePinLaw", "pick", "(I)C"⟩ : MethodName)) (argsL := [(.int p1)]) (st := []) X hx hZ hown (own_w0 hw) (own_w1 hw) (own_w2 hw) (own_w3 hw) (by decide) (payP (W := 0) (rm1 l Z a0 hw (p1) h0 n0 (Nat.le_trans Z0 sz_h)) hZ (own_w3 hw) (own_w2 hw) (by decide) (by decide)) eT (by rw [hml]; rfl) (lenOf own_pd14 rfl) rfl (Nat.le_of_eq rfl) 0 0 rfl rfl (by decide) (by decide) 15 (hb hby at_12) rfl ?_
  clear X eT; clear T; intro v T h6 L2 Lc X eT hL hQ7
  obtain ⟨c1, rfl, Nq, hh, pp10⟩ := hQ7
  replace N : Fr n0 L2 := by rw [hL]; exact Fr.app N Nq
  clear Nq hL
  replace hh := hh.symm; subst hh
  show Go p e below _ T (mkF m 15 #[.val (.int p0), .val (.int p1), .val (.int p2), .val (.int p3), .val (.int (p3 &&& (3 : Int32))), .val (.int c0), .unset, .unset, .unset, .unset, .unset, .unset, .unset] [(.int c1)])
  refine gistore X hx #[.val (.int p0), .val (.int p1), .val (.int p2), .val (.int p3), .val (.int (p3 &&& (3 : Int32))), .val (.int c0), .val (.int c1), .unset, .unset, .unset, .unset, .unset, .unset] 17 (hb hby at_15) rfl rfl ?_
  refine giloadN (v := p2) X hx 18 (hb hby at_17) rfl rfl ?_
  refine gstatic (y := (⟨"com/example/tagwire/tagwire/dtd/NamesIsWhitespacePinLaw", "pick", "(I)C"⟩ : MethodName)) (argsL := [(.int p2)]) (st := []) X hx hZ hown (own_w0 hw) (own_w1 hw) (own_w2 hw) (own_w3 hw) (by decide) (payP (W := 0) (rm1 l Z a0 hw (p2) h0 n0 (Nat.le_trans Z0 sz_h)) hZ (own_w3 hw) (own_w2 hw) (by decide) (by decide)) eT (by rw [hml]; rfl) (lenOf own_pd14 rfl) rfl (Nat.le_of_eq rfl) 0 0 rfl rfl (by decide) (by decide) 21 (hb hby at_18) rfl ?_
  clear X eT; clear T; intro v T h11 L2 Lc X eT hL hQ12
  obtain ⟨c2, rfl, Nq, hh, pp15⟩ := hQ12
  replace N : Fr n0 L2 := by rw [hL]; exact Fr.app N Nq
  clear Nq hL
  replace hh := hh.symm; subst hh
  show Go p e below _ T (mkF m 21 #[.val (.int p0), .val (.int p1), .val (.int p2), .val (.int p3), .val (.int (p3 &&& (3 : Int32))), .val (.int c0), .val (.int c1), .unset, .unset, .unset, .unset, .unset, .unset] [(.int c2)])
  refine gistore X hx #[.val (.int p0), .val (.int p1), .val (.int p2), .val (.int p3), .val (.int (p3 &&& (3 : Int32))), .val (.int c0), .val (.int c1), .val (.int c2), .unset, .unset, .unset, .unset, .unset] 23 (hb hby at_21) rfl rfl ?_
  refine giload (v := (p3 &&& (3 : Int32))) X hx 25 (hb hby at_23) rfl rfl ?_
  rcases Decidable.em ((p3 &&& (3 : Int32)) = (0 : Int32)) with n_25 | n_25
  · refine gifNo X hx 28 (hb hby at_25) rfl ((if0 _ _).trans (teq n_25).2) ?_
    refine giconst X hx (0 : Int32) 29 (hb hby at_28) rfl rfl ?_
    refine gnewP (aty := .char) X hx hZ (own_w6 hw) eT (n := (0 : Int32)) (by decide) 0 (by decide) (by decide) 1 0 rfl rfl (by decide) (by decide) 31 (hb hby at_29) rfl ?_
    clear X eT; clear T; intro T h16 b17 kc20 X eT ga E18 V19
    have le_a := Nat.le_of_eq ga.symm
    have sz_b17 : h0.size ≤ b17 := Nat.le_trans sz_h le_a
    have ge_b17 : n0 ≤ b17 := Nat.le_trans Z0 sz_b17
    clear le_a ga
    replace P0_Old := P0_Old.ext E18
    replace K0 := K0.ext E18
    replace C := C.trans (CHr.ext E18 C.1)
    replace hk := Nat.le_trans hk E18.1
    replace sz_h : h0.size ≤ h16.size := Nat.le_trans sz_h E18.1
    replace V19 : Arv Z h16 b17 kc20 .char (0 : Int32) [] (.int 0) := V19.pad (pad_rep [] _ 0)
    refine gastore X hx #[.val (.int p0), .val (.int p1), .val (.int p2), .val (.int p3), .val (.int (p3 &&& (3 : Int32))), .val (.int c0), .val (.int c1), .val (.int c2), .val (.ref b17), .unset, .unset, .unset, .unset] 33 (hb hby at_31) rfl rfl rfl ?_
    refine ggoto X hx 99 (hb hby at_33) (by decide) (by decide) ?_
    refine gnewO X hx hZ hown (own_w7 hw) (own_w8 hw) (own_w9 hw) eT 2 4 rfl rfl (by decide) (by decide) 102 (hb hby at_99) rfl ?_
    clear X eT; clear T; intro T h21 b22 X eT ga E23 A24 D25
    have le_a := Nat.le_of_eq ga.symm
    have ne_b17_b22 : b17 ≠ b22 := Nat.ne_of_lt (Nat.lt_of_lt_of_le V19.lt le_a)
    have ne_b22_b17 : b22 ≠ b17 := Ne.symm ne_b17_b22
    have sz_b22 : h0.size ≤ b22 := Nat.le_trans sz_h le_a
    have ge_b22 : n0 ≤ b22 := Nat.le_trans Z0 sz_b22
    have Sf_b22 := Safe.ext E23 C.1 (Safe.new le_a)
    clear le_a ga
    replace P0_Old := P0_Old.ext E23
    replace V19 := V19.ext E23
    replace K0 := K0.ext E23
    replace C := C.trans (CHr.ext E23 C.1)
    replace hk := Nat.le_trans hk E23.1
    replace sz_h : h0.size ≤ h21.size := Nat.le_trans sz_h E23.1
    have F_coder_b22 : Fld Z h21 b22 "java/lang/String" "coder" "B" (.int (0 : Int32)) := D25 (Or.inr (own_w33 hw)) (ty := .byte) own_pf0
    have F_value_b22 : Fld Z h21 b22 "java/lang/String" "value" "[B" .null := D25 (Or.inr (own_w35 hw)) (ty := (.array .byte)) own_pf1
    clear D25
    refine gdup X hx 103 (hb hby at_102) rfl rfl ?_
    refine gaload (v := (.ref b17)) X hx 105 (hb hby at_103) rfl rfl rfl ?_
    refine gspecialS (y := (⟨"java/lang/String", "<init>", "([C)V"⟩ : MethodName)) (a := b22) (argsL := [(.ref b17)]) (st := [(.ref b22)]) X hx hZ hown rfl (own_w10 hw) (own_w11 hw) (own_w12 hw) (by decide) hS hk (payS (W := 1) (rmE1 l Z a0 hw (b22) (b17) (.null) ((.int (0 : Int32))) (kc20) h21 n0 (Nat.le_trans Z0 sz_h) ge_b22 A24 F_value_b22 F_coder_b22 V19) hZ (own_w12 hw) (own_w9 hw) (by decide) (by decide) (own_EW hw) C.1 (allS ⟨A24.lt, Sf_b22⟩ all0)) eT (by rw [hml]; rfl) (lenOf own_pd16 rfl) rfl (Nat.le_of_eq rfl) 6 12 rfl rfl (by decide) (by decide) 108 (hb hby at_105) rfl ?_
    have lt_b22 := A24.lt
    clear X eT hS hk hZ hown; clear T k0; intro v T h26 L2 Lc vm k0 X eT hL hS hk hZ hown CR31 hQ27
    obtain ⟨t_28, kb_29, rfl, Nq, K30, G32, G33, G34⟩ := hQ27
    replace N : Fr n0 L2 := by rw [hL]; exact Fr.app N Nq
    clear Nq hL
    replace P0_Old := P0_Old.keep K30 (allS ge_b22 all0)
    replace V19 := V19.keep K30 (ninS ne_b17_b22 nin0)
    replace A24 := A24.keep K30
    replace Sf_b22 := CHr.safe CR31 lt_b22 Sf_b22
    replace K0 := K0.trans K30 (allS (Or.inr sz_b22) all0)
    replace C := C.trans CR31
    replace sz_h : h0.size ≤ h26.size := Nat.le_trans sz_h K30.1
    show Go p e below _ T (mkF m 108 #[.val (.int p0), .val (.int p1), .val (.int p2), .val (.int p3), .val (.int (p3 &&& (3 : Int32))), .val (.int c0), .val (.int c1), .val (.int c2), .val (.ref b17), .unset, .unset, .unset, .unset] [(.ref b22)])
    have Str35 : Str Z h26 b22 t_28 ([] : List Int32) := Str.of A24 G33 G32 G34 rfl rfl own_c0 (by decide)
    rw [n_25]
    show Go p e below _ T (mkF m 108 #[.val (.int p0), .val (.int p1), .val (.int p2), .val (.int p3), .val (.int (0 : Int32)), .val (.int c0), .val (.int c1), .val (.int c2), .val (.ref b17), .unset, .unset, .unset, .unset] [(.ref b22)])
    refine gastore X hx #[.val (.int p0), .val (.int p1), .val (.int p2), .val (.int p3), .val (.int (0 : Int32)), .val (.int c0), .val (.int c1), .val (.int c2), .val (.ref b17), .val (.ref b22), .unset, .unset, .unset] 110 (hb hby at_108) rfl rfl rfl ?_
    refine gaload (v := (.ref b22)) X hx 112 (hb hby at_110) rfl rfl rfl ?_
    refine gastore X hx #[.val (.int p0), .val (.int p1), .val (.int p2), .val (.int p3), .val (.int (0 : Int32)), .val (.int c0), .val (.int c1), .val (.int c2), .val (.ref b17), .val (.ref b22), .val (.ref b22), .unset, .unset] 114 (hb hby at_112) rfl rfl rfl ?_
    refine giload (v := (0 : Int32)) X hx 116 (hb hby at_114) rfl rfl ?_
    refine giconst X hx (1 : Int32) 117 (hb hby at_116) rfl rfl ?_
    refine gicmpYes X hx 128 (hb hby at_117) (by decide) (by decide) (by decide) ?_
    refine giload (v := (0 : Int32)) X hx 130 (hb hby at_128) rfl rfl ?_
    refine giconst X hx (2 : Int32) 131 (hb hby at_130) rfl rfl ?_
    refine gicmpYes X hx 142 (hb hby at_131) (by decide) (by decide) (by decide) ?_
    refine giload (v := (0 : Int32)) X hx 144 (hb hby at_142) rfl rfl ?_
    refine giconst X hx (3 : Int32) 145 (hb hby at_144) rfl rfl ?_
    refine gicmpYes X hx 156 (hb hby at_145) (by decide) (by decide) (by decide) ?_
    refine giconst X hx (1 : Int32) 157 (hb hby at_156) rfl rfl ?_
    refine ggoto X hx 161 (hb hby at_157) (by decide) (by decide) ?_
    refine gistore X hx #[.val (.int p0), .val (.int p1), .val (.int p2), .val (.int p3), .val (.int (0 : Int32)), .val (.int c0), .val (.int c1), .val (.int c2), .val (.ref b17), .val (.ref b22), .val (.ref b22), .val (.int (1 : Int32)), .unset] 163 (hb hby at_161) rfl rfl ?_
    refine gaload (v := (.ref b22)) X hx 165 (hb hby at_163) rfl rfl rfl ?_
    refine gstatic (y := (⟨"com/example/tagwire/tagwire/dtd/Names", "isWhitespace", "(Ljava/lang/CharSequence;)Z"⟩ : MethodName)) (argsL := [(.ref b22)]) (st := []) X hx hZ hown (own_w39 hw) (own_w40 hw) (own_w41 hw) (own_w42 hw) (by decide) (payP (W := 0) (rmIL0 l Z a0 hw (b22) (t_28) (G1) (G3) h26 n0 (Nat.le_trans Z0 sz_h) P0_Old Str35 (O2) (P5) (O4) (rG3)) hZ (own_w42 hw) (own_w41 hw) (by decide) (by decide)) eT (by rw [hml]; rfl) (lenOf own_pd17 rfl) rfl (Nat.le_of_eq rfl) 6 12 rfl rfl (by decide) (by decide) 168 (hb hby at_165) rfl ?_
    clear X eT; clear T; intro v T h36 L2 Lc X eT hL hQ37
    obtain ⟨rfl, Nq, hh⟩ := hQ37
    replace N : Fr n0 L2 := by rw [hL]; exact Fr.app N Nq
    clear Nq hL
    replace hh := hh.symm; subst hh
    show Go p e below _ T (mkF m 168 #[.val (.int p0), .val (.int p1), .val (.int p2), .val (.int p3), .val (.int (0 : Int32)), .val (.int c0), .val (.int c1), .val (.int c2), .val (.ref b17), .val (.ref b22), .val (.ref b22), .val (.int (1 : Int32)), .unset] [(.int (own_aw ([] : List Int32)))])
    refine gistore X hx #[.val (.int p0), .val (.int p1), .val (.int p2), .val (.int p3), .val (.int (0 : Int32)), .val (.int c0), .val (.int c1), .val (.int c2), .val (.ref b17), .val (.ref b22), .val (.ref b22), .val (.int (1 : Int32)), .val (.int (own_aw ([] : List Int32)))] 170 (hb hby at_168) rfl rfl ?_
    refine giload (v := (own_aw ([] : List Int32))) X hx 172 (hb hby at_170) rfl rfl ?_
    refine giload (v := (1 : Int32)) X hx 174 (hb hby at_172) rfl rfl ?_
    refine gicmpNo X hx 177 (hb hby at_174) rfl (teq (by simp [own_aw])).2 ?_
    refine giconst X hx (1 : Int32) 178 (hb hby at_177) rfl rfl ?_
    refine ggoto X hx 182 (hb hby at_178) (by decide) (by decide) ?_
    exact gRetL X hx hlk hret rfl (Or.inl ⟨rfl, by simp, _, rfl⟩) (hb hby at_182) eT hS hk (by decide) (by decide) ⟨rfl, N, K0⟩
  · refine gifYes X hx 36 (hb hby at_25) ((if0 _ _).trans (feq n_25).2) (by decide) (by decide) ?_
    refine giload (v := (p3 &&& (3 : Int32))) X hx 38 (hb hby at_36) rfl rfl ?_
    refine giconst X hx (1 : Int32) 39 (hb hby at_38) rfl rfl ?_
    rcases Decidable.em ((p3 &&& (3 : Int32)) = (1 : Int32)) with n_39 | n_39
    · refine gicmpNo X hx 42 (hb hby at_39) rfl (teq n_39).2 ?_
      rw [n_39]
      show Go p e below _ T (mkF m 42 #[.val (.int p0), .val (.int p1), .val (.int p2), .val (.int p3), .val (.int (1 : Int32)), .val (.int c0), .val (.int c1), .val (.int c2), .unset, .unset, .unset, .unset, .unset] [])
      refine giconst X hx (1 : Int32) 43 (hb hby at_42) rfl rfl ?_
      refine gnewP (aty := .char) X hx hZ (own_w6 hw) eT (n := (1 : Int32)) (by decide) 1 (by decide) (by decide) 1 1 rfl rfl (by decide) (by decide) 45 (hb hby at_43) rfl ?_
      clear X eT; clear T; intro T h40 b41 kc44 X eT ga E42 V43
      have le_a := Nat.le_of_eq ga.symm
      have sz_b41 : h0.size ≤ b41 := Nat.le_trans sz_h le_a
      have ge_b41 : n0 ≤ b41 := Nat.le_trans Z0 sz_b41
      clear le_a ga
      replace P0_Old := P0_Old.ext E42
      replace K0 := K0.ext E42
      replace C := C.trans (CHr.ext E42 C.1)
      replace hk := Nat.le_trans hk E42.1
      replace sz_h : h0.size ≤ h40.size := Nat.le_trans sz_h E42.1
      replace V43 : Arv Z h40 b41 kc44 .char (1 : Int32) [(.int (0 : Int32))] (.int 0) := V43.pad (pad_rep [] _ 1)
      refine gdup X hx 46 (hb hby at_45) rfl rfl ?_
      refine giconst X hx (0 : Int32) 47 (hb hby at_46) rfl rfl ?_
      refine giload (v := c0) X hx 49 (hb hby at_47) rfl rfl ?_
      refine gcastore X hx hZ eT V43 (by decide) (by decide) 0 rfl (Nat.le_of_ble_eq_true rfl) N ge_b41 50 (hb hby at_49) rfl ?_
      clear X eT N; clear T; intro T h46 L X eT N W45 V47
      have sfw := (Safe.arv (EL := own_EL) (vm := vm) hZ.alike V43 (fun z => by cases z))
      replace P0_Old := P0_Old.wr W45 ge_b41
      replace K0 := K0.wr W45 (Or.inr sz_b41)
      replace C := C.trans (CHr.wr W45 sfw C.1)
      replace hk : k0 ≤ h46.size := by rw [Wr.size W45]; exact hk
      replace sz_h : h0.size ≤ h46.size := by rw [Wr.size W45]; exact sz_h
      replace V47 : Arv Z h46 b41 kc44 .char (1 : Int32) [(.int c0)] (.int 0) := by have z := V47; rw [own_narw pp5] at z; exact z
      refine gastore X hx #[.val (.int p0), .val (.int p1), .val (.int p2), .val (.int p3), .val (.int (1 : Int32)), .val (.int c0), .val (.int c1), .val (.int c2), .val (.ref b41), .unset, .unset, .unset, .unset] 52 (hb hby at_50) rfl rfl rfl ?_
      refine ggoto X hx 99 (hb hby at_52) (by decide) (by decide) ?_
      refine gnewO X hx hZ hown (own_w7 hw) (own_w8 hw) (own_w9 hw) eT 2 5 rfl rfl (by decide) (by decide) 102 (hb hby at_99) rfl ?_
      clear X eT; clear T; intro T h48 b49 X eT ga E50 A51 D52
      have le_a := Nat.le_of_eq ga.symm
      have ne_b41_b49 : b41 ≠ b49 := Nat.ne_of_lt (Nat.lt_of_lt_of_le V47.lt le_a)
      have ne_b49_b41 : b49 ≠ b41 := Ne.symm ne_b41_b49
      have sz_b49 : h0.size ≤ b49 := Nat.le_trans sz_h le_a
      have ge_b49 : n0 ≤ b49 := Nat.le_trans Z0 sz_b49
      have Sf_b49 := Safe.ext E50 C.1 (Safe.new le_a)
      clear le_a ga
      replace P0_Old := P0_Old.ext E50
      replace V47 := V47.ext E50
      replace K0 := K0.ext E50
      replace C := C.trans (CHr.ext E50 C.1)
      replace hk := Nat.le_trans hk E50.1
      replace sz_h : h0.size ≤ h48.size := Nat.le_trans sz_h E50.1
      have F_coder_b49 : Fld Z h48 b49 "java/lang/String" "coder" "B" (.int (0 : Int32)) := D52 (Or.inr (own_w33 hw)) (ty := .byte) own_pf0
      have F_value_b49 : Fld Z h48 b49 "java/lang/String" "value" "[B" .null := D52 (Or.inr (own_w35 hw)) (ty := (.array .byte)) own_pf1
      clear D52
      refine gdup X hx 103 (hb hby at_102) rfl rfl ?_
      refine gaload (v := (.ref b41)) X hx 105 (hb hby at_103) rfl rfl rfl ?_
      rcases Decidable.em ((255 : Int32) < c0) with s0 | s0
      · refine gspecial (y := (⟨"java/lang/String", "<init>", "([C)V"⟩ : MethodName)) (a := b49) (argsL := [(.ref b41)]) (st := [(.ref b49)]) X hx hZ hown rfl (own_w10 hw) (own_w11 hw) (own_w12 hw) (by decide) (payP (W := 1) (rmI1_1_0 l Z a0 hw (b49) (b41) (kc44) (.null) ((.int (0 : Int32))) (G1) (c0) h48 n0 (Nat.le_trans Z0 sz_h) ge_b49 P0_Old A51 F_value_b49 F_coder_b49 V47 (O2) (P5) (SA) (SH) (SLo) (pp5) (s0)) hZ (own_w12 hw) (own_w9 hw) (by decide) (by decide)) eT (by rw [hml]; rfl) (lenOf own_pd16 rfl) rfl (Nat.le_of_eq rfl) 4 8 rfl rfl (by decide) (by decide) 108 (hb hby at_105) rfl ?_
        clear X eT; clear T; intro v T h53 L2 Lc X eT hL hQ54
        obtain ⟨t_55, kb_56, rfl, Nq, K57, zz_t_55, G59, G60, G61⟩ := hQ54
        replace N : Fr n0 L2 := by rw [hL]; exact Fr.app N Nq
        clear Nq hL
        have ne_b41_t_55 : b41 ≠ t_55 := Nat.ne_of_lt (Nat.lt_of_lt_of_le V47.lt zz_t_55)
        have ne_t_55_b41 : t_55 ≠ b41 := Ne.symm ne_b41_t_55
        have ne_b49_t_55 : b49 ≠ t_55 := Nat.ne_of_lt (Nat.lt_of_lt_of_le A51.lt zz_t_55)
        have ne_t_55_b49 : t_55 ≠ b49 := Ne.symm ne_b49_t_55
        have sz_t_55 : h0.size ≤ t_55 := Nat.le_trans sz_h zz_t_55
        have ge_t_55 : n0 ≤ t_55 := Nat.le_trans Z0 sz_t_55
        have sfs := (sfS Sf_b49 sf0)
        replace P0_Old := P0_Old.keep K57 (allS ge_b49 all0)
        replace V47 := V47.keep K57 (ninS ne_b41_b49 nin0)
        replace A51 := A51.keep K57
        replace Sf_b49 := Safe.keep K57 sfs C.1 Sf_b49
        replace K0 := K0.trans K57 (allS (Or.inr sz_b49) all0)
        replace C := C.trans (CHr.keep K57 sfs C.1)
        replace hk := Nat.le_trans hk K57.1
        replace sz_h : h0.size ≤ h53.size := Nat.le_trans sz_h K57.1
        show Go p e below _ T (mkF m 108 #[.val (.int p0), .val (.int p1), .val (.int p2), .val (.int p3), .val (.int (1 : Int32)), .val (.int c0), .val (.int c1), .val (.int c2), .val (.ref b41), .unset, .unset, .unset, .unset] [(.ref b49)])
        refine gastore X hx #[.val (.int p0), .val (.int p1), .val (.int p2), .val (.int p3), .val (.int (1 : Int32)), .val (.int c0), .val (.int c1), .val (.int c2), .val (.ref b41), .val (.ref b49), .unset, .unset, .unset] 110 (hb hby at_108) rfl rfl rfl ?_
        refine gaload (v := (.ref b49)) X hx 112 (hb hby at_110) rfl rfl rfl ?_
        refine gastore X hx #[.val (.int p0), .val (.int p1), .val (.int p2), .val (.int p3), .val (.int (1 : Int32)), .val (.int c0), .val (.int c1), .val (.int c2), .val (.ref b41), .val (.ref b49), .val (.ref b49), .unset, .unset] 114 (hb hby at_112) rfl rfl rfl ?_
        refine giload (v := (1 : Int32)) X hx 116 (hb hby at_114) rfl rfl ?_
        refine giconst X hx (1 : Int32) 117 (hb hby at_116) rfl rfl ?_
        refine gicmpNo X hx 120 (hb hby at_117) rfl (by decide) ?_
        refine giload (v := c0) X hx 122 (hb hby at_120) rfl rfl ?_
        refine gstatic (y := (⟨"com/example/tagwire/tagwire/dtd/NamesIsWhitespacePinLaw", "ws", "(C)Z"⟩ : MethodName)) (argsL := [(.int c0)]) (st := []) X hx hZ hown (own_w36 hw) (own_w37 hw) (own_w2 hw) (own_w38 hw) (by decide) (payP (W := 0) (rmW2 l Z a0 hw (c0) h53 n0 (Nat.le_trans Z0 sz_h)) hZ (own_w38 hw) (own_w2 hw) (by decide) (by decide)) eT (by rw [hml]; rfl) (lenOf own_pd15 rfl) rfl (Nat.le_of_eq rfl) 4 8 rfl rfl (by decide) (by decide) 125 (hb hby at_122) rfl ?_
        clear X eT; clear T; intro v T h62 L2 Lc X eT hL hQ63
        obtain ⟨rfl, Nq, hh⟩ := hQ63
        replace N : Fr n0 L2 := by rw [hL]; exact Fr.app N Nq
        clear Nq hL
        replace hh := hh.symm; subst hh
        show Go p e below _ T (mkF m 125 #[.val (.int p0), .val (.int p1), .val (.int p2), .val (.int p3), .val (.int (1 : Int32)), .val (.int c0), .val (.int c1), .val (.int c2), .val (.ref b41), .val (.ref b49), .val (.ref b49), .unset, .unset] [(.int (own_ws c0))])
        rcases Decidable.em ((own_ws c0) = (0 : Int32)) with k0_125 | k0_125
        · refine gifYes X hx 160 (hb hby at_125) ((if0 _ _).trans (teq k0_125).1) (by decide) (by decide) ?_
          refine giconst X hx (0 : Int32) 161 (hb hby at_160) rfl rfl ?_
          refine gistore X hx #[.val (.int p0), .val (.int p1), .val (.int p2), .val (.int p3), .val (.int (1 : Int32)), .val (.int c0), .val (.int c1), .val (.int c2), .val (.ref b41), .val (.ref b49), .val (.ref b49), .val (.int (0 : Int32)), .unset] 163 (hb hby at_161) rfl rfl ?_
          refine gaload (v := (.ref b49)) X hx 165 (hb hby at_163) rfl rfl rfl ?_
          refine gstatic (y := (⟨"com/example/tagwire/tagwire/dtd/Names", "isWhitespace", "(Ljava/lang/CharSequence;)Z"⟩ : MethodName)) (argsL := [(.ref b49)]) (st := []) X hx hZ hown (own_w39 hw) (own_w40 hw) (own_w41 hw) (own_w42 hw) (by decide) (payP (W := 0) (rmIU1 l Z a0 hw (b49) (t_55) (kb_56) (G1) (G3) (c0) h53 n0 (Nat.le_trans Z0 sz_h) P0_Old A51 G59 G60 G61 (O2) (P5) (O4) (rG3) (SA) (SH) (SLo) (pp5) (⟨c0, List.mem_of_getElem? (i := 0) rfl, s0⟩)) hZ (own_w42 hw) (own_w41 hw) (by decide) (by decide)) eT (by rw [hml]; rfl) (lenOf own_pd17 rfl) rfl (Nat.le_of_eq rfl) 4 8 rfl rfl (by decide) (by decide) 168 (hb hby at_165) rfl ?_
          clear X eT; clear T; intro v T h66 L2 Lc X eT hL hQ67
          obtain ⟨rfl, Nq, hh⟩ := hQ67
          replace N : Fr n0 L2 := by rw [hL]; exact Fr.app N Nq
          clear Nq hL
          replace hh := hh.symm; subst hh
          show Go p e below _ T (mkF m 168 #[.val (.int p0), .val (.int p1), .val (.int p2), .val (.int p3), .val (.int (1 : Int32)), .val (.int c0), .val (.int c1), .val (.int c2), .val (.ref b41), .val (.ref b49), .val (.ref b49), .val (.int (0 : Int32)), .unset] [(.int (own_aw ([c0] : List Int32)))])
          refine gistore X hx #[.val (.int p0), .val (.int p1), .val (.int p2), .val (.int p3), .val (.int (1 : Int32)), .val (.int c0), .val (.int c1), .val (.int c2), .val (.ref b41), .val (.ref b49), .val (.ref b49), .val (.int (0 : Int32)), .val (.int (own_aw ([c0] : List Int32)))] 170 (hb hby at_168) rfl rfl ?_
          refine giload (v := (own_aw ([c0] : List Int32))) X hx 172 (hb hby at_170) rfl rfl ?_
          refine giload (v := (0 : Int32)) X hx 174 (hb hby at_172) rfl rfl ?_
          refine gicmpNo X hx 177 (hb hby at_174) rfl (teq (by simp [own_aw, k0_125])).2 ?_
          refine giconst X hx (1 : Int32) 178 (hb hby at_177) rfl rfl ?_
          refine ggoto X hx 182 (hb hby at_178) (by decide) (by decide) ?_
          exact gRetL X hx hlk hret rfl (Or.inl ⟨rfl, by simp, _, rfl⟩) (hb hby at_182) eT hS hk (by decide) (by decide) ⟨rfl, N, K0⟩
        · refine gifNo X hx 128 (hb hby at_125) rfl ((if0 _ _).trans (feq k0_125).1) ?_
          refine giload (v := (1 : Int32)) X hx 130 (hb hby at_128) rfl rfl ?_
          refine giconst X hx (2 : Int32) 131 (hb hby at_130) rfl rfl ?_
          refine gicmpYes X hx 142 (hb hby at_131) (by decide) (by decide) (by decide) ?_
          refine giload (v := (1 : Int32)) X hx 144 (hb hby at_142) rfl rfl ?_
          refine giconst X hx (3 : Int32) 145 (hb hby at_144) rfl rfl ?_
          refine gicmpYes X hx 156 (hb hby at_145) (by decide) (by decide) (by decide) ?_
          refine giconst X hx (1 : Int32) 157 (hb hby at_156) rfl rfl ?_
          refine ggoto X hx 161 (hb hby at_157) (by decide) (by decide) ?_
          refine gistore X hx #[.val (.int p0), .val (.int p1), .val (.int p2), .val (.int p3), .val (.int (1 : Int32)), .val (.int c0), .val (.int c1), .val (.int c2), .val (.ref b41), .val (.ref b49), .val (.ref b49), .val (.int (1 : Int32)), .unset] 163 (hb hby at_161) rfl rfl ?_
          refine gaload (v := (.ref b49)) X hx 165 (hb hby at_163) rfl rfl rfl ?_
          refine gstatic (y := (⟨"com/example/tagwire/tagwire/dtd/Names", "isWhitespace", "(Ljava/lang/CharSequence;)Z"⟩ : MethodName)) (argsL := [(.ref b49)]) (st := []) X hx hZ hown (own_w39 hw) (own_w40 hw) (own_w41 hw) (own_w42 hw) (by decide) (payP (W := 0) (rmIU1 l Z a0 hw (b49) (t_55) (kb_56) (G1) (G3) (c0) h53 n0 (Nat.le_trans Z0 sz_h) P0_Old A51 G59 G60 G61 (O2) (P5) (O4) (rG3) (SA) (SH) (SLo) (pp5) (⟨c0, List.mem_of_getElem? (i := 0) rfl, s0⟩)) hZ (own_w42 hw) (own_w41 hw) (by decide) (by decide)) eT (by rw [hml]; rfl) (lenOf own_pd17 rfl) rfl (Nat.le_of_eq rfl) 4 8 rfl rfl (by decide) (by decide) 168 (hb hby at_165) rfl ?_
          clear X eT; clear T; intro v T h70 L2 Lc X eT hL hQ71
          obtain ⟨rfl, Nq, hh⟩ := hQ71
          replace N : Fr n0 L2 := by rw [hL]; exact Fr.app N Nq
          clear Nq hL
          replace hh := hh.symm; subst hh
          show Go p e below _ T (mkF m 168 #[.val (.int p0), .val (.int p1), .val (.int p2), .val (.int p3), .val (.int (1 : Int32)), .val (.int c0), .val (.int c1), .val (.int c2), .val (.ref b41), .val (.ref b49), .val (.ref b49), .val (.int (1 : Int32)), .unset] [(.int (own_aw ([c0] : List Int32)))])
          refine gistore X hx #[.val (.int p0), .val (.int p1), .val (.int p2), .val (.int p3), .val (.int (1 : Int32)), .val (.int c0), .val (.int c1), .val (.int c2), .val (.ref b41), .val (.ref b49), .val (.ref b49), .val (.int (1 : Int32)), .val (.int (own_aw ([c0] : List Int32)))] 170 (hb hby at_168) rfl rfl ?_
          refine giload (v := (own_aw ([c0] : List Int32))) X hx 172 (hb hby at_170) rfl rfl ?_
          refine giload (v := (1 : Int32)) X hx 174 (hb hby at_172) rfl rfl ?_
          refine gicmpNo X hx 177 (hb hby at_174) rfl (teq (by simp [own_aw, k0_125])).2 ?_
          refine giconst X hx (1 : Int32) 178 (hb hby at_177) rfl rfl ?_
          refine ggoto X hx 182 (hb hby at_178) (by decide) (by decide) ?_
          exact gRetL X hx hlk hret rfl (Or.inl ⟨rfl, by simp, _, rfl⟩) (hb hby at_182) eT hS hk (by decide) (by decide) ⟨rfl, N, K0⟩
      · refine gspecial (y := (⟨"java/lang/String", "<init>", "([C)V"⟩ : MethodName)) (a := b49) (argsL := [(.ref b41)]) (st := [(.ref b49)]) X hx hZ hown rfl (own_w10 hw) (own_w11 hw) (own_w12 hw) (by decide) (payNew (W := 1) (cs := ([c0] : List Int32)) (n := 1) (n0 := n0) hZ hw ge_b49 (Nat.le_trans Z0 sz_h) A51 F_value_b49 F_coder_b49 V47 rfl (O2.ext P0_Old.2) P5 rfl rfl (by decide) (by decide) (own_cS ⟨pp5.1, s0⟩ own_c0) (by decide) (by decide)) eT (by rw [hml]; rfl) (lenOf own_pd16 rfl) rfl (Nat.le_of_eq rfl) 3 6 rfl rfl (by decide) (by decide) 108 (hb hby at_105) rfl ?_
        clear X eT; clear T; intro v T h77 L2 Lc X eT hL hQ78
        obtain ⟨rfl, Nq, K74, t75, zz_t75, Str76⟩ := hQ78
        replace N : Fr n0 L2 := by rw [hL]; exact Fr.app N Nq
        clear Nq hL
        have ne_b41_t75 : b41 ≠ t75 := Nat.ne_of_lt (Nat.lt_of_lt_of_le V47.lt zz_t75)
        have ne_t75_b41 : t75 ≠ b41 := Ne.symm ne_b41_t75
        have ne_b49_t75 : b49 ≠ t75 := Nat.ne_of_lt (Nat.lt_of_lt_of_le A51.lt zz_t75)
        have ne_t75_b49 : t75 ≠ b49 := Ne.symm ne_b49_t75
        have sz_t75 : h0.size ≤ t75 := Nat.le_trans sz_h zz_t75
        have ge_t75 : n0 ≤ t75 := Nat.le_trans Z0 sz_t75
        have sfs := (sfS Sf_b49 sf0)
        replace P0_Old := P0_Old.keep K74 (allS ge_b49 all0)
        replace V47 := V47.keep K74 (ninS ne_b41_b49 nin0)
        replace Sf_b49 := Safe.keep K74 sfs C.1 Sf_b49
        replace K0 := K0.trans K74 (allS (Or.inr sz_b49) all0)
        replace C := C.trans (CHr.keep K74 sfs C.1)
        replace hk := Nat.le_trans hk K74.1
        replace sz_h : h0.size ≤ h77.size := Nat.le_trans sz_h K74.1
        show Go p e below _ T (mkF m 108 #[.val (.int p0), .val (.int p1), .val (.int p2), .val (.int p3), .val (.int (1 : Int32)), .val (.int c0), .val (.int c1), .val (.int c2), .val (.ref b41), .unset, .unset, .unset, .unset] [(.ref b49)])
        refine gastore X hx #[.val (.int p0), .val (.int p1), .val (.int p2), .val (.int p3), .val (.int (1 : Int32)), .val (.int c0), .val (.int c1), .val (.int c2), .val (.ref b41), .val (.ref b49), .unset, .unset, .unset] 110 (hb hby at_108) rfl rfl rfl ?_
        refine gaload (v := (.ref b49)) X hx 112 (hb hby at_110) rfl rfl rfl ?_
        refine gastore X hx #[.val (.int p0), .val (.int p1), .val (.int p2), .val (.int p3), .val (.int (1 : Int32)), .val (.int c0), .val (.int c1), .val (.int c2), .val (.ref b41), .val (.ref b49), .val (.ref b49), .unset, .unset] 114 (hb hby at_112) rfl rfl rfl ?_
        refine giload (v := (1 : Int32)) X hx 116 (hb hby at_114) rfl rfl ?_
        refine giconst X hx (1 : Int32) 117 (hb hby at_116) rfl rfl ?_
        refine gicmpNo X hx 120 (hb hby at_117) rfl (by decide) ?_
        refine giload (v := c0) X hx 122 (hb hby at_120) rfl rfl ?_
        refine gstatic (y := (⟨"com/example/tagwire/tagwire/dtd/NamesIsWhitespacePinLaw", "ws", "(C)Z"⟩ : MethodName)) (argsL := [(.int c0)]) (st := []) X hx hZ hown (own_w36 hw) (own_w37 hw) (own_w2 hw) (own_w38 hw) (by decide) (payP (W := 0) (rmW2 l Z a0 hw (c0) h77 n0 (Nat.le_trans Z0 sz_h)) hZ (own_w38 hw) (own_w2 hw) (by decide) (by decide)) eT (by rw [hml]; rfl) (lenOf own_pd15 rfl) rfl (Nat.le_of_eq rfl) 3 6 rfl rfl (by decide) (by decide) 125 (hb hby at_122) rfl ?_
        clear X eT; clear T; intro v T h79 L2 Lc X eT hL hQ80
        obtain ⟨rfl, Nq, hh⟩ := hQ80
        replace N : Fr n0 L2 := by rw [hL]; exact Fr.app N Nq
        clear Nq hL
        replace hh := hh.symm; subst hh
        show Go p e below _ T (mkF m 125 #[.val (.int p0), .val (.int p1), .val (.int p2), .val (.int p3), .val (.int (1 : Int32)), .val (.int c0), .val (.int c1), .val (.int c2), .val (.ref b41), .val (.ref b49), .val (.ref b49), .unset, .unset] [(.int (own_ws c0))])
        rcases Decidable.em ((own_ws c0) = (0 : Int32)) with k0_125 | k0_125
        · refine gifYes X hx 160 (hb hby at_125) ((if0 _ _).trans (teq k0_125).1) (by decide) (by decide) ?_
          refine giconst X hx (0 : Int32) 161 (hb hby at_160) rfl rfl ?_
          refine gistore X hx #[.val (.int p0), .val (.int p1), .val (.int p2), .val (.int p3), .val (.int (1 : Int32)), .val (.int c0), .val (.int c1), .val (.int c2), .val (.ref b41), .val (.ref b49), .val (.ref b49), .val (.int (0 : Int32)), .unset] 163 (hb hby at_161) rfl rfl ?_
          refine gaload (v := (.ref b49)) X hx 165 (hb hby at_163) rfl rfl rfl ?_
          refine gstatic (y := (⟨"com/example/tagwire/tagwire/dtd/Names", "isWhitespace", "(Ljava/lang/CharSequence;)Z"⟩ : MethodName)) (argsL := [(.ref b49)]) (st := []) X hx hZ hown (own_w39 hw) (own_w40 hw) (own_w41 hw) (own_w42 hw) (by decide) (payP (W := 0) (rmIL1 l Z a0 hw (b49) (t75) (G1) (G3) (c0) h77 n0 (Nat.le_trans Z0 sz_h) P0_Old Str76 (O2) (P5) (O4) (rG3)) hZ (own_w42 hw) (own_w41 hw) (by decide) (by decide)) eT (by rw [hml]; rfl) (lenOf own_pd17 rfl) rfl (Nat.le_of_eq rfl) 3 6 rfl rfl (by decide) (by decide) 168 (hb hby at_165) rfl ?_
          clear X eT; clear T; intro v T h83 L2 Lc X eT hL hQ84
          obtain ⟨rfl, Nq, hh⟩ := hQ84
          replace N : Fr n0 L2 := by rw [hL]; exact Fr.app N Nq
          clear Nq hL
          replace hh := hh.symm; subst hh
          show Go p e below _ T (mkF m 168 #[.val (.int p0), .val (.int p1), .val (.int p2), .val (.int p3), .val (.int (1 : Int32)), .val (.int c0), .val (.int c1), .val (.int c2), .val (.ref b41), .val (.ref b49), .val (.ref b49), .val (.int (0 : Int32)), .unset] [(.int (own_aw ([c0] : List Int32)))])
          refine gistore X hx #[.val (.int p0), .val (.int p1), .val (.int p2), .val (.int p3), .val (.int (1 : Int32)), .val (.int c0), .val (.int c1), .val (.int c2), .val (.ref b41), .val (.ref b49), .val (.ref b49), .val (.int (0 : Int32)), .val (.int (own_aw ([c0] : List Int32)))] 170 (hb hby at_168) rfl rfl ?_
          refine giload (v := (own_aw ([c0] : List Int32))) X hx 172 (hb hby at_170) rfl rfl ?_
          refine giload (v := (0 : Int32)) X hx 174 (hb hby at_172) rfl rfl ?_
          refine gicmpNo X hx 177 (hb hby at_174) rfl (teq (by simp [own_aw, k0_125])).2 ?_
          refine giconst X hx (1 : Int32) 178 (hb hby at_177) rfl rfl ?_
          refine ggoto X hx 182 (hb hby at_178) (by decide) (by decide) ?_
          exact gRetL X hx hlk hret rfl (Or.inl ⟨rfl, by simp, _, rfl⟩) (hb hby at_182) eT hS hk (by decide) (by decide) ⟨rfl, N, K0⟩
        · refine gifNo X hx 128 (hb hby at_125) rfl ((if0 _ _).trans (feq k0_125).1) ?_
          refine giload (v := (1 : Int32)) X hx 130 (hb hby at_128) rfl rfl ?_
          refine giconst X hx (2 : Int32) 131 (hb hby at_130) rfl rfl ?_
          refine gicmpYes X hx 142 (hb hby at_131) (by decide) (by decide) (by decide) ?_
          refine giload (v := (1 : Int32)) X hx 144 (hb hby at_142) rfl rfl ?_
          refine giconst X hx (3 : Int32) 145 (hb hby at_144) rfl rfl ?_
          refine gicmpYes X hx 156 (hb hby at_145) (by decide) (by decide) (by decide) ?_
          refine giconst X hx (1 : Int32) 157 (hb hby at_156) rfl rfl ?_
          refine ggoto X hx 161 (hb hby at_157) (by decide) (by decide) ?_
          refine gistore X hx #[.val (.int p0), .val (.int p1), .val (.int p2), .val (.int p3), .val (.int (1 : Int32)), .val (.int c0), .val (.int c1), .val (.int c2), .val (.ref b41), .val (.ref b49), .val (.ref b49), .val (.int (1 : Int32)), .unset] 163 (hb hby at_161) rfl rfl ?_
          refine gaload (v := (.ref b49)) X hx 165 (hb hby at_163) rfl rfl rfl ?_
          refine gstatic (y := (⟨"com/example/tagwire/tagwire/dtd/Names", "isWhitespace", "(Ljava/lang/CharSequence;)Z"⟩ : MethodName)) (argsL := [(.ref b49)]) (st := []) X hx hZ hown (own_w39 hw) (own_w40 hw) (own_w41 hw) (own_w42 hw) (by decide) (payP (W := 0) (rmIL1 l Z a0 hw (b49) (t75) (G1) (G3) (c0) h77 n0 (Nat.le_trans Z0 sz_h) P0_Old Str76 (O2) (P5) (O4) (rG3)) hZ (own_w42 hw) (own_w41 hw) (by decide) (by decide)) eT (by rw [hml]; rfl) (lenOf own_pd17 rfl) rfl (Nat.le_of_eq rfl) 3 6 rfl rfl (by decide) (by decide) 168 (hb hby at_165) rfl ?_
          clear X eT; clear T; intro v T h87 L2 Lc X eT hL hQ88
          obtain ⟨rfl, Nq, hh⟩ := hQ88
          replace N : Fr n0 L2 := by rw [hL]; exact Fr.app N Nq
          clear Nq hL
          replace hh := hh.symm; subst hh
          show Go p e below _ T (mkF m 168 #[.val (.int p0), .val (.int p1), .val (.int p2), .val (.int p3), .val (.int (1 : Int32)), .val (.int c0), .val (.int c1), .val (.int c2), .val (.ref b41), .val (.ref b49), .val (.ref b49), .val (.int (1 : Int32)), .unset] [(.int (own_aw ([c0] : List Int32)))])
          refine gistore X hx #[.val (.int p0), .val (.int p1), .val (.int p2), .val (.int p3), .val (.int (1 : Int32)), .val (.int c0), .val (.int c1), .val (.int c2), .val (.ref b41), .val (.ref b49), .val (.ref b49), .val (.int (1 : Int32)), .val (.int (own_aw ([c0] : List Int32)))] 170 (hb hby at_168) rfl rfl ?_
          refine giload (v := (own_aw ([c0] : List Int32))) X hx 172 (hb hby at_170) rfl rfl ?_
          refine giload (v := (1 : Int32)) X hx 174 (hb hby at_172) rfl rfl ?_
          refine gicmpNo X hx 177 (hb hby at_174) rfl (teq (by simp [own_aw, k0_125])).2 ?_
          refine giconst X hx (1 : Int32) 178 (hb hby at_177) rfl rfl ?_
          refine ggoto X hx 182 (hb hby at_178) (by decide) (by decide) ?_
          exact gRetL X hx hlk hret rfl (Or.inl ⟨rfl, by simp, _, rfl⟩) (hb hby at_182) eT hS hk (by decide) (by decide) ⟨rfl, N, K0⟩
    · refine gicmpYes X hx 55 (hb hby at_39) (feq n_39).2 (by decide) (by decide) ?_
      refine giload (v := (p3 &&& (3 : Int32))) X hx 57 (hb hby at_55) rfl rfl ?_
      refine giconst X hx (2 : Int32) 58 (hb hby at_57) rfl rfl ?_
      rcases Decidable.em ((p3 &&& (3 : Int32)) = (2 : Int32)) with n_58 | n_58
      · refine gicmpNo X hx 61 (hb hby at_58) rfl (teq n_58).2 ?_
        rw [n_58]
        show Go p e below _ T (mkF m 61 #[.val (.int p0), .val (.int p1), .val (.int p2), .val (.int p3), .val (.int (2 : Int32)), .val (.int c0), .val (.int c1), .val (.int c2), .unset, .unset, .unset, .unset, .unset] [])
        refine giconst X hx (2 : Int32) 62 (hb hby at_61) rfl rfl ?_
        refine gnewP (aty := .char) X hx hZ (own_w6 hw) eT (n := (2 : Int32)) (by decide) 2 (by decide) (by decide) 1 2 rfl rfl (by decide) (by decide) 64 (hb hby at_62) rfl ?_
        clear X eT; clear T; intro T h91 b92 kc95 X eT ga E93 V94
        have le_a := Nat.le_of_eq ga.symm
        have sz_b92 : h0.size ≤ b92 := Nat.le_trans sz_h le_a
        have ge_b92 : n0 ≤ b92 := Nat.le_trans Z0 sz_b92
        clear le_a ga
        replace P0_Old := P0_Old.ext E93
        replace K0 := K0.ext E93
        replace C := C.trans (CHr.ext E93 C.1)
        replace hk := Nat.le_trans hk E93.1
        replace sz_h : h0.size ≤ h91.size := Nat.le_trans sz_h E93.1
        replace V94 : Arv Z h91 b92 kc95 .char (2 : Int32) [(.int (0 : Int32)), (.int (0 : Int32))] (.int 0) := V94.pad (pad_rep [] _ 2)
        refine gdup X hx 65 (hb hby at_64) rfl rfl ?_
        refine giconst X hx (0 : Int32) 66 (hb hby at_65) rfl rfl ?_
        refine giload (v := c0) X hx 68 (hb hby at_66) rfl rfl ?_
        refine gcastore X hx hZ eT V94 (by decide) (by decide) 0 rfl (Nat.le_of_ble_eq_true rfl) N ge_b92 69 (hb hby at_68) rfl ?_
        clear X eT N; clear T; intro T h97 L X eT N W96 V98
        have sfw := (Safe.arv (EL := own_EL) (vm := vm) hZ.alike V94 (fun z => by cases z))
        replace P0_Old := P0_Old.wr W96 ge_b92
        replace K0 := K0.wr W96 (Or.inr sz_b92)
        replace C := C.trans (CHr.wr W96 sfw C.1)
        replace hk : k0 ≤ h97.size := by rw [Wr.size W96]; exact hk
        replace sz_h : h0.size ≤ h97.size := by rw [Wr.size W96]; exact sz_h
        replace V98 : Arv Z h97 b92 kc95 .char (2 : Int32) [(.int c0), (.int (0 : Int32))] (.int 0) := by have z := V98; rw [own_narw pp5] at z; exact z
        refine gdup X hx 70 (hb hby at_69) rfl rfl ?_
        refine giconst X hx (1 : Int32) 71 (hb hby at_70) rfl rfl ?_
        refine giload (v := c1) X hx 73 (hb hby at_71) rfl rfl ?_
        refine gcastore X hx hZ eT V98 (by decide) (by decide) 1 rfl (Nat.le_of_ble_eq_true rfl) N ge_b92 74 (hb hby at_73) rfl ?_
        clear X eT N; clear T; intro T h100 L X eT N W99 V101
        have sfw := (Safe.arv (EL := own_EL) (vm := vm) hZ.alike V98 (fun z => by cases z))
        replace P0_Old := P0_Old.wr W99 ge_b92
        replace K0 := K0.wr W99 (Or.inr sz_b92)
        replace C := C.trans (CHr.wr W99 sfw C.1)
        replace hk : k0 ≤ h100.size := by rw [Wr.size W99]; exact hk
        replace sz_h : h0.size ≤ h100.size := by rw [Wr.size W99]; exact sz_h
        replace V101 : Arv Z h100 b92 kc95 .char (2 : Int32) [(.int c0), (.int c1)] (.int 0) := by have z := V101; rw [own_narw pp10] at z; exact z
        refine gastore X hx #[.val (.int p0), .val (.int p1), .val (.int p2), .val (.int p3), .val (.int (2 : Int32)), .val (.int c0), .val (.int c1), .val (.int c2), .val (.ref b92), .unset, .unset, .unset, .unset] 76 (hb hby at_74) rfl rfl rfl ?_
        refine ggoto X hx 99 (hb hby at_76) (by decide) (by decide) ?_
        refine gnewO X hx hZ hown (own_w7 hw) (own_w8 hw) (own_w9 hw) eT 2 6 rfl rfl (by decide) (by decide) 102 (hb hby at_99) rfl ?_
        clear X eT; clear T; intro T h102 b103 X eT ga E104 A105 D106
        have le_a := Nat.le_of_eq ga.symm
        have ne_b92_b103 : b92 ≠ b103 := Nat.ne_of_lt (Nat.lt_of_lt_of_le V101.lt le_a)
        have ne_b103_b92 : b103 ≠ b92 := Ne.symm ne_b92_b103
        have sz_b103 : h0.size ≤ b103 := Nat.le_trans sz_h le_a
        have ge_b103 : n0 ≤ b103 := Nat.le_trans Z0 sz_b103
        have Sf_b103 := Safe.ext E104 C.1 (Safe.new le_a)
        clear le_a ga
        replace P0_Old := P0_Old.ext E104
        replace V101 := V101.ext E104
        replace K0 := K0.ext E104
        replace C := C.trans (CHr.ext E104 C.1)
        replace hk := Nat.le_trans hk E104.1
        replace sz_h : h0.size ≤ h102.size := Nat.le_trans sz_h E104.1
        have F_coder_b103 : Fld Z h102 b103 "java/lang/String" "coder" "B" (.int (0 : Int32)) := D106 (Or.inr (own_w33 hw)) (ty := .byte) own_pf0
        have F_value_b103 : Fld Z h102 b103 "java/lang/String" "value" "[B" .null := D106 (Or.inr (own_w35 hw)) (ty := (.array .byte)) own_pf1
        clear D106
        refine gdup X hx 103 (hb hby at_102) rfl rfl ?_
        refine gaload (v := (.ref b92)) X hx 105 (hb hby at_103) rfl rfl rfl ?_
        rcases Decidable.em ((255 : Int32) < c0) with s0 | s0
        · refine gspecial (y := (⟨"java/lang/String", "<init>", "([C)V"⟩ : MethodName)) (a := b103) (argsL := [(.ref b92)]) (st := [(.ref b103)]) X hx hZ hown rfl (own_w10 hw) (own_w11 hw) (own_w12 hw) (by decide) (payP (W := 1) (rmI1_2_0 l Z a0 hw (b103) (b92) (kc95) (.null) ((.int (0 : Int32))) (G1) (c0) (c1) h102 n0 (Nat.le_trans Z0 sz_h) ge_b103 P0_Old A105 F_value_b103 F_coder_b103 V101 (O2) (P5) (SA) (SH) (SLo) (pp5) (pp10) (s0)) hZ (own_w12 hw) (own_w9 hw) (by decide) (by decide)) eT (by rw [hml]; rfl) (lenOf own_pd16 rfl) rfl (Nat.le_of_eq rfl) 4 12 rfl rfl (by decide) (by decide) 108 (hb hby at_105) rfl ?_
          clear X eT; clear T; intro v T h107 L2 Lc X eT hL hQ108
          obtain ⟨t_109, kb_110, rfl, Nq, K111, zz_t_109, G113, G114, G115⟩ := hQ108
          replace N : Fr n0 L2 := by rw [hL]; exact Fr.app N Nq
          clear Nq hL
          have ne_b92_t_109 : b92 ≠ t_109 := Nat.ne_of_lt (Nat.lt_of_lt_of_le V101.lt zz_t_109)
          have ne_t_109_b92 : t_109 ≠ b92 := Ne.symm ne_b92_t_109
          have ne_b103_t_109 : b103 ≠ t_109 := Nat.ne_of_lt (Nat.lt_of_lt_of_le A105.lt zz_t_109)
          have ne_t_109_b103 : t_109 ≠ b103 := Ne.symm ne_b103_t_109
          have sz_t_109 : h0.size ≤ t_109 := Nat.le_trans sz_h zz_t_109
          have ge_t_109 : n0 ≤ t_109 := Nat.le_trans Z0 sz_t_109
          have sfs := (sfS Sf_b103 sf0)
          replace P0_Old := P0_Old.keep K111 (allS ge_b103 all0)
          replace V101 := V101.keep K111 (ninS ne_b92_b103 nin0)
          replace A105 := A105.keep K111
          replace Sf_b103 := Safe.keep K111 sfs C.1 Sf_b103
          replace K0 := K0.trans K111 (allS (Or.inr sz_b103) all0)
          replace C := C.trans (CHr.keep K111 sfs C.1)
          replace hk := Nat.le_trans hk K111.1
          replace sz_h : h0.size ≤ h107.size := Nat.le_trans sz_h K111.1
          show Go p e below _ T (mkF m 108 #[.val (.int p0), .val (.int p1), .val (.int p2), .val (.int p3), .val (.int (2 : Int32)), .val (.int c0), .val (.int c1), .val (.int c2), .val (.ref b92), .unset, .unset, .unset, .unset] [(.ref b103)])
          refine gastore X hx #[.val (.int p0), .val (.int p1), .val (.int p2), .val (.int p3), .val (.int (2 : Int32)), .val (.int c0), .val (.int c1), .val (.int c2), .val (.ref b92), .val (.ref b103), .unset, .unset, .unset] 110 (hb hby at_108) rfl rfl rfl ?_
          refine gaload (v := (.ref b103)) X hx 112 (hb hby at_110) rfl rfl rfl ?_
          refine gastore X hx #[.val (.int p0), .val (.int p1), .val (.int p2), .val (.int p3), .val (.int (2 : Int32)), .val (.int c0), .val (.int c1), .val (.int c2), .val (.ref b92), .val (.ref b103), .val (.ref b103), .unset, .unset] 114 (hb hby at_112) rfl rfl rfl ?_
          refine giload (v := (2 : Int32)) X hx 116 (hb hby at_114) rfl rfl ?_
          refine giconst X hx (1 : Int32) 117 (hb hby at_116) rfl rfl ?_
          refine gicmpNo X hx 120 (hb hby at_117) rfl (by decide) ?_
          refine giload (v := c0) X hx 122 (hb hby at_120) rfl rfl ?_
          refine gstatic (y := (⟨"com/example/tagwire/tagwire/dtd/NamesIsWhitespacePinLaw", "ws", "(C)Z"⟩ : MethodName)) (argsL := [(.int c0)]) (st := []) X hx hZ hown (own_w36 hw) (own_w37 hw) (own_w2 hw) (own_w38 hw) (by decide) (payP (W := 0) (rmW2 l Z a0 hw (c0) h107 n0 (Nat.le_trans Z0 sz_h)) hZ (own_w38 hw) (own_w2 hw) (by decide) (by decide)) eT (by rw [hml]; rfl) (lenOf own_pd15 rfl) rfl (Nat.le_of_eq rfl) 4 12 rfl rfl (by decide) (by decide) 125 (hb hby at_122) rfl ?_
          clear X eT; clear T; intro v T h116 L2 Lc X eT hL hQ117
          obtain ⟨rfl, Nq, hh⟩ := hQ117
          replace N : Fr n0 L2 := by rw [hL]; exact Fr.app N Nq
          clear Nq hL
          replace hh := hh.symm; subst hh
          show Go p e below _ T (mkF m 125 #[.val (.int p0), .val (.int p1), .val (.int p2), .val (.int p3), .val (.int (2 : Int32)), .val (.int c0), .val (.int c1), .val (.int c2), .val (.ref b92), .val (.ref b103), .val (.ref b103), .unset, .unset] [(.int (own_ws c0))])
          rcases Decidable.em ((own_ws c0) = (0 : Int32)) with k0_125 | k0_125
          · refine gifYes X hx 160 (hb hby at_125) ((if0 _ _).trans (teq k0_125).1) (by decide) (by decide) ?_
            refine giconst X hx (0 : Int32) 161 (hb hby at_160) rfl rfl ?_
            refine gistore X hx #[.val (.int p0), .val (.int p1), .val (.int p2), .val (.int p3), .val (.int (2 : Int32)), .val (.int c0), .val (.int c1), .val (.int c2), .val (.ref b92), .val (.ref b103), .val (.ref b103), .val (.int (0 : Int32)), .unset] 163 (hb hby at_161) rfl rfl ?_
            refine gaload (v := (.ref b103)) X hx 165 (hb hby at_163) rfl rfl rfl ?_
            refine gstatic (y := (⟨"com/example/tagwire/tagwire/dtd/Names", "isWhitespace", "(Ljava/lang/CharSequence;)Z"⟩ : MethodName)) (argsL := [(.ref b103)]) (st := []) X hx hZ hown (own_w39 hw) (own_w40 hw) (own_w41 hw) (own_w42 hw) (by decide) (payP (W := 0) (rmIU2 l Z a0 hw (b103) (t_109) (kb_110) (G1) (G3) (c0) (c1) h107 n0 (Nat.le_trans Z0 sz_h) P0_Old A105 G113 G114 G115 (O2) (P5) (O4) (rG3) (SA) (SH) (SLo) (pp5) (pp10) (⟨c0, List.mem_of_getElem? (i := 0) rfl, s0⟩)) hZ (own_w42 hw) (own_w41 hw) (by decide) (by decide)) eT (by rw [hml]; rfl) (lenOf own_pd17 rfl) rfl (Nat.le_of_eq rfl) 4 12 rfl rfl (by decide) (by decide) 168 (hb hby at_165) rfl ?_
            clear X eT; clear T; intro v T h120 L2 Lc X eT hL hQ121
            obtain ⟨rfl, Nq, hh⟩ := hQ121
            replace N : Fr n0 L2 := by rw [hL]; exact Fr.app N Nq
            clear Nq hL
            replace hh := hh.symm; subst hh
            show Go p e below _ T (mkF m 168 #[.val (.int p0), .val (.int p1), .val (.int p2), .val (.int p3), .val (.int (2 : Int32)), .val (.int c0), .val (.int c1), .val (.int c2), .val (.ref b92), .val (.ref b103), .val (.ref b103), .val (.int (0 : Int32)), .unset] [(.int (own_aw ([c0, c1] : List Int32)))])
            refine gistore X hx #[.val (.int p0), .val (.int p1), .val (.int p2), .val (.int p3), .val (.int (2 : Int32)), .val (.int c0), .val (.int c1), .val (.int c2), .val (.ref b92), .val (.ref b103), .val (.ref b103), .val (.int (0 : Int32)), .val (.int (own_aw ([c0, c1] : List Int32)))] 170 (hb hby at_168) rfl rfl ?_
            refine giload (v := (own_aw ([c0, c1] : List Int32))) X hx 172 (hb hby at_170) rfl rfl ?_
            refine giload (v := (0 : Int32)) X hx 174 (hb hby at_172) rfl rfl ?_
            refine gicmpNo X hx 177 (hb hby at_174) rfl (teq (by simp [own_aw, k0_125])).2 ?_
            refine giconst X hx (1 : Int32) 178 (hb hby at_177) rfl rfl ?_
            refine ggoto X hx 182 (hb hby at_178) (by decide) (by decide) ?_
            exact gRetL X hx hlk hret rfl (Or.inl ⟨rfl, by simp, _, rfl⟩) (hb hby at_182) eT hS hk (by decide) (by decide) ⟨rfl, N, K0⟩
          · refine gifNo X hx 128 (hb hby at_125) rfl ((if0 _ _).trans (feq k0_125).1) ?_
            refine giload (v := (2 : Int32)) X hx 130 (hb hby at_128) rfl rfl ?_
            refine giconst X hx (2 : Int32) 131 (hb hby at_130) rfl rfl ?_
            refine gicmpNo X hx 134 (hb hby at_131) rfl (by decide) ?_
            refine giload (v := c1) X hx 136 (hb hby at_134) rfl rfl ?_
            refine gstatic (y := (⟨"com/example/tagwire/tagwire/dtd/NamesIsWhitespacePinLaw", "ws", "(C)Z"⟩ : MethodName)) (argsL := [(.int c1)]) (st := []) X hx hZ hown (own_w36 hw) (own_w37 hw) (own_w2 hw) (own_w38 hw) (by decide) (payP (W := 0) (rmW2 l Z a0 hw (c1) h107 n0 (Nat.le_trans Z0 sz_h)) hZ (own_w38 hw) (own_w2 hw) (by decide) (by decide)) eT (by rw [hml]; rfl) (lenOf own_pd15 rfl) rfl (Nat.le_of_eq rfl) 4 12 rfl rfl (by decide) (by decide) 139 (hb hby at_136) rfl ?_
            clear X eT; clear T; intro v T h124 L2 Lc X eT hL hQ125
            obtain ⟨rfl, Nq, hh⟩ := hQ125
            replace N : Fr n0 L2 := by rw [hL]; exact Fr.app N Nq
            clear Nq hL
            replace hh := hh.symm; subst hh
            show Go p e below _ T (mkF m 139 #[.val (.int p0), .val (.int p1), .val (.int p2), .val (.int p3), .val (.int (2 : Int32)), .val (.int c0), .val (.int c1), .val (.int c2), .val (.ref b92), .val (.ref b103), .val (.ref b103), .unset, .unset] [(.int (own_ws c1))])
            rcases Decidable.em ((own_ws c1) = (0 : Int32)) with k1_139 | k1_139
            · refine gifYes X hx 160 (hb hby at_139) ((if0 _ _).trans (teq k1_139).1) (by decide) (by decide) ?_
              refine giconst X hx (0 : Int32) 161 (hb hby at_160) rfl rfl ?_
              refine gistore X hx #[.val (.int p0), .val (.int p1), .val (.int p2), .val (.int p3), .val (.int (2 : Int32)), .val (.int c0), .val (.int c1), .val (.int c2), .val (.ref b92), .val (.ref b103), .val (.ref b103), .val (.int (0 : Int32)), .unset] 163 (hb hby at_161) rfl rfl ?_
              refine gaload (v := (.ref b103)) X hx 165 (hb hby at_163) rfl rfl rfl ?_
              refine gstatic (y := (⟨"com/example/tagwire/tagwire/dtd/Names", "isWhitespace", "(Ljava/lang/CharSequence;)Z"⟩ : MethodName)) (argsL := [(.ref b103)]) (st := []) X hx hZ hown (own_w39 hw) (own_w40 hw) (own_w41 hw) (own_w42 hw) (by decide) (payP (W := 0) (rmIU2 l Z a0 hw (b103) (t_109) (kb_110) (G1) (G3) (c0) (c1) h107 n0 (Nat.le_trans Z0 sz_h) P0_Old A105 G113 G114 G115 (O2) (P5) (O4) (rG3) (SA) (SH) (SLo) (pp5) (pp10) (⟨c0, List.mem_of_getElem? (i := 0) rfl, s0⟩)) hZ (own_w42 hw) (own_w41 hw) (by decide) (by decide)) eT (by rw [hml]; rfl) (lenOf own_pd17 rfl) rfl (Nat.le_of_eq rfl) 4 12 rfl rfl (by decide) (by decide) 168 (hb hby at_165) rfl ?_
              clear X eT; clear T; intro v T h128 L2 Lc X eT hL hQ129
              obtain ⟨rfl, Nq, hh⟩ := hQ129
              replace N : Fr n0 L2 := by rw [hL]; exact Fr.app N Nq
              clear Nq hL
              replace hh := hh.symm; subst hh
              show Go p e below _ T (mkF m 168 #[.val (.int p0), .val (.int p1), .val (.int p2), .val (.int p3), .val (.int (2 : Int32)), .val (.int c0), .val (.int c1), .val (.int c2), .val (.ref b92), .val (.ref b103), .val (.ref b103), .val (.int (0 : Int32)), .unset] [(.int (own_aw ([c0, c1] : List Int32)))])
              refine gistore X hx #[.val (.int p0), .val (.int p1), .val (.int p2), .val (.int p3), .val (.int (2 : Int32)), .val (.int c0), .val (.int c1), .val (.int c2), .val (.ref b92), .val (.ref b103), .val (.ref b103), .val (.int (0 : Int32)), .val (.int (own_aw ([c0, c1] : List Int32)))] 170 (hb hby at_168) rfl rfl ?_
              refine giload (v := (own_aw ([c0, c1] : List Int32))) X hx 172 (hb hby at_170) rfl rfl ?_
              refine giload (v := (0 : Int32)) X hx 174 (hb hby at_172) rfl rfl ?_
              refine gicmpNo X hx 177 (hb hby at_174) rfl (teq (by simp [own_aw, k0_125, k1_139])).2 ?_
              refine giconst X hx (1 : Int32) 178 (hb hby at_177) rfl rfl ?_
              refine ggoto X hx 182 (hb hby at_178) (by decide) (by decide) ?_
              exact gRetL X hx hlk hret rfl (Or.inl ⟨rfl, by simp, _, rfl⟩) (hb hby at_182) eT hS hk (by decide) (by decide) ⟨rfl, N, K0⟩
            · refine gifNo X hx 142 (hb hby at_139) rfl ((if0 _ _).trans (feq k1_139).1) ?_
              refine giload (v := (2 : Int32)) X hx 144 (hb hby at_142) rfl rfl ?_
              refine giconst X hx (3 : Int32) 145 (hb hby at_144) rfl rfl ?_
              refine gicmpYes X hx 156 (hb hby at_145) (by decide) (by decide) (by decide) ?_
              refine giconst X hx (1 : Int32) 157 (hb hby at_156) rfl rfl ?_
              refine ggoto X hx 161 (hb hby at_157) (by decide) (by decide) ?_
              refine gistore X hx #[.val (.int p0), .val (.int p1), .val (.int p2), .val (.int p3), .val (.int (2 : Int32)), .val (.int c0), .val (.int c1), .val (.int c2), .val (.ref b92), .val (.ref b103), .val (.ref b103), .val (.int (1 : Int32)), .unset] 163 (hb hby at_161) rfl rfl ?_
              refine gaload (v := (.ref b103)) X hx 165 (hb hby at_163) rfl rfl rfl ?_
              refine gstatic (y := (⟨"com/example/tagwire/tagwire/dtd/Names", "isWhitespace", "(Ljava/lang/CharSequence;)Z"⟩ : MethodName)) (argsL := [(.ref b103)]) (st := []) X hx hZ hown (own_w39 hw) (own_w40 hw) (own_w41 hw) (own_w42 hw) (by decide) (payP (W := 0) (rmIU2 l Z a0 hw (b103) (t_109) (kb_110) (G1) (G3) (c0) (c1) h107 n0 (Nat.le_trans Z0 sz_h) P0_Old A105 G113 G114 G115 (O2) (P5) (O4) (rG3) (SA) (SH) (SLo) (pp5) (pp10) (⟨c0, List.mem_of_getElem? (i := 0) rfl, s0⟩)) hZ (own_w42 hw) (own_w41 hw) (by decide) (by decide)) eT (by rw [hml]; rfl) (lenOf own_pd17 rfl) rfl (Nat.le_of_eq rfl) 4 12 rfl rfl (by decide) (by decide) 168 (hb hby at_165) rfl ?_
              clear X eT; clear T; intro v T h132 L2 Lc X eT hL hQ133
              obtain ⟨rfl, Nq, hh⟩ := hQ133
              replace N : Fr n0 L2 := by rw [hL]; exact Fr.app N Nq
              clear Nq hL
              replace hh := hh.symm; subst hh
              show Go p e below _ T (mkF m 168 #[.val (.int p0), .val (.int p1), .val (.int p2), .val (.int p3), .val (.int (2 : Int32)), .val (.int c0), .val (.int c1), .val (.int c2), .val (.ref b92), .val (.ref b103), .val (.ref b103), .val (.int (1 : Int32)), .unset] [(.int (own_aw ([c0, c1] : List Int32)))])
              refine gistore X hx #[.val (.int p0), .val (.int p1), .val (.int p2), .val (.int p3), .val (.int (2 : Int32)), .val (.int c0), .val (.int c1), .val (.int c2), .val (.ref b92), .val (.ref b103), .val (.ref b103), .val (.int (1 : Int32)), .val (.int (own_aw ([c0, c1] : List Int32)))] 170 (hb hby at_168) rfl rfl ?_
              refine giload (v := (own_aw ([c0, c1] : List Int32))) X hx 172 (hb hby at_170) rfl rfl ?_
              refine giload (v := (1 : Int32)) X hx 174 (hb hby at_172) rfl rfl ?_
              refine gicmpNo X hx 177 (hb hby at_174) rfl (teq (by simp [own_aw, k0_125, k1_139])).2 ?_
              refine giconst X hx (1 : Int32) 178 (hb hby at_177) rfl rfl ?_
              refine ggoto X hx 182 (hb hby at_178) (by decide) (by decide) ?_
              exact gRetL X hx hlk hret rfl (Or.inl ⟨rfl, by simp, _, rfl⟩) (hb hby at_182) eT hS hk (by decide) (by decide) ⟨rfl, N, K0⟩
        · rcases Decidable.em ((255 : Int32) < c1) with s1 | s1
          · refine gspecial (y := (⟨"java/lang/String", "<init>", "([C)V"⟩ : MethodName)) (a := b103) (argsL := [(.ref b92)]) (st := [(.ref b103)]) X hx hZ hown rfl (own_w10 hw) (own_w11 hw) (own_w12 hw) (by decide) (payP (W := 1) (rmI1_2_1 l Z a0 hw (b103) (b92) (kc95) (.null) ((.int (0 : Int32))) (G1) (c0) (c1) h102 n0 (Nat.le_trans Z0 sz_h) ge_b103 P0_Old A105 F_value_b103 F_coder_b103 V101 (O2) (P5) (SA) (SH) (SLo) (pp5) (pp10) (s0) (s1)) hZ (own_w12 hw) (own_w9 hw) (by decide) (by decide)) eT (by rw [hml]; rfl) (lenOf own_pd16 rfl) rfl (Nat.le_of_eq rfl) 4 12 rfl rfl (by decide) (by decide) 108 (hb hby at_105) rfl ?_
            clear X eT; clear T; intro v T h136 L2 Lc X eT hL hQ137
            obtain ⟨t_138, kb_139, rfl, Nq, K140, zz_t_138, G142, G143, G144⟩ := hQ137
            replace N : Fr n0 L2 := by rw [hL]; exact Fr.app N Nq
            clear Nq hL
            have ne_b92_t_138 : b92 ≠ t_138 := Nat.ne_of_lt (Nat.lt_of_lt_of_le V101.lt zz_t_138)
            have ne_t_138_b92 : t_138 ≠ b92 := Ne.symm ne_b92_t_138
            have ne_b103_t_138 : b103 ≠ t_138 := Nat.ne_of_lt (Nat.lt_of_lt_of_le A105.lt zz_t_138)
            have ne_t_138_b103 : t_138 ≠ b103 := Ne.symm ne_b103_t_138
            have sz_t_138 : h0.size ≤ t_138 := Nat.le_trans sz_h zz_t_138
            have ge_t_138 : n0 ≤ t_138 := Nat.le_trans Z0 sz_t_138
            have sfs := (sfS Sf_b103 sf0)
            replace P0_Old := P0_Old.keep K140 (allS ge_b103 all0)
            replace V101 := V101.keep K140 (ninS ne_b92_b103 nin0)
            replace A105 := A105.keep K140
            replace Sf_b103 := Safe.keep K140 sfs C.1 Sf_b103
            replace K0 := K0.trans K140 (allS (Or.inr sz_b103) all0)
            replace C := C.trans (CHr.keep K140 sfs C.1)
            replace hk := Nat.le_trans hk K140.1
            replace sz_h : h0.size ≤ h136.size := Nat.le_trans sz_h K140.1
            show Go p e below _ T (mkF m 108 #[.val (.int p0), .val (.int p1), .val (.int p2), .val (.int p3), .val (.int (2 : Int32)), .val (.int c0), .val (.int c1), .val (.int c2), .val (.ref b92), .unset, .unset, .unset, .unset] [(.ref b103)])
            refine gastore X hx #[.val (.int p0), .val (.int p1), .val (.int p2), .val (.int p3), .val (.int (2 : Int32)), .val (.int c0), .val (.int c1), .val (.int c2), .val (.ref b92), .val (.ref b103), .unset, .unset, .unset] 110 (hb hby at_108) rfl rfl rfl ?_
            refine gaload (v := (.ref b103)) X hx 112 (hb hby at_110) rfl rfl rfl ?_
            refine gastore X hx #[.val (.int p0), .val (.int p1), .val (.int p2), .val (.int p3), .val (.int (2 : Int32)), .val (.int c0), .val (.int c1), .val (.int c2), .val (.ref b92), .val (.ref b103), .val (.ref b103), .unset, .unset] 114 (hb hby at_112) rfl rfl rfl ?_
            refine giload (v := (2 : Int32)) X hx 116 (hb hby at_114) rfl rfl ?_
            refine giconst X hx (1 : Int32) 117 (hb hby at_116) rfl rfl ?_
            refine gicmpNo X hx 120 (hb hby at_117) rfl (by decide) ?_
            refine giload (v := c0) X hx 122 (hb hby at_120) rfl rfl ?_
            refine gstatic (y := (⟨"com/example/tagwire/tagwire/dtd/NamesIsWhitespacePinLaw", "ws", "(C)Z"⟩ : MethodName)) (argsL := [(.int c0)]) (st := []) X hx hZ hown (own_w36 hw) (own_w37 hw) (own_w2 hw) (own_w38 hw) (by decide) (payP (W := 0) (rmW2 l Z a0 hw (c0) h136 n0 (Nat.le_trans Z0 sz_h)) hZ (own_w38 hw) (own_w2 hw) (by decide) (by decide)) eT (by rw [hml]; rfl) (lenOf own_pd15 rfl) rfl (Nat.le_of_eq rfl) 4 12 rfl rfl (by decide) (by decide) 125 (hb hby at_122) rfl ?_
            clear X eT; clear T; intro v T h145 L2 Lc X eT hL hQ146
            obtain ⟨rfl, Nq, hh⟩ := hQ146
            replace N : Fr n0 L2 := by rw [hL]; exact Fr.app N Nq
            clear Nq hL
            replace hh := hh.symm; subst hh
            show Go p e below _ T (mkF m 125 #[.val (.int p0), .val (.int p1), .val (.int p2), .val (.int p3), .val (.int (2 : Int32)), .val (.int c0), .val (.int c1), .val (.int c2), .val (.ref b92), .val (.ref b103), .val (.ref b103), .unset, .unset] [(.int (own_ws c0))])
            rcases Decidable.em ((own_ws c0) = (0 : Int32)) with k0_125 | k0_125
            · refine gifYes X hx 160 (hb hby at_125) ((if0 _ _).trans (teq k0_125).1) (by decide) (by decide) ?_
              refine giconst X hx (0 : Int32) 161 (hb hby at_160) rfl rfl ?_
              refine gistore X hx #[.val (.int p0), .val (.int p1), .val (.int p2), .val (.int p3), .val (.int (2 : Int32)), .val (.int c0), .val (.int c1), .val (.int c2), .val (.ref b92), .val (.ref b103), .val (.ref b103), .val (.int (0 : Int32)), .unset] 163 (hb hby at_161) rfl rfl ?_
              refine gaload (v := (.ref b103)) X hx 165 (hb hby at_163) rfl rfl rfl ?_
              refine gstatic (y := (⟨"com/example/tagwire/tagwire/dtd/Names", "isWhitespace", "(Ljava/lang/CharSequence;)Z"⟩ : MethodName)) (argsL := [(.ref b103)]) (st := []) X hx hZ hown (own_w39 hw) (own_w40 hw) (own_w41 hw) (own_w42 hw) (by decide) (payP (W := 0) (rmIU2 l Z a0 hw (b103) (t_138) (kb_139) (G1) (G3) (c0) (c1) h136 n0 (Nat.le_trans Z0 sz_h) P0_Old A105 G142 G143 G144 (O2) (P5) (O4) (rG3) (SA) (SH) (SLo) (pp5) (pp10) (⟨c1, List.mem_of_getElem? (i := 1) rfl, s1⟩)) hZ (own_w42 hw) (own_w41 hw) (by decide) (by decide)) eT (by rw [hml]; rfl) (lenOf own_pd17 rfl) rfl (Nat.le_of_eq rfl) 4 12 rfl rfl (by decide) (by decide) 168 (hb hby at_165) rfl ?_
              clear X eT; clear T; intro v T h149 L2 Lc X eT hL hQ150
              obtain ⟨rfl, Nq, hh⟩ := hQ150
              replace N : Fr n0 L2 := by rw [hL]; exact Fr.app N Nq
              clear Nq hL
              replace hh := hh.symm; subst hh
              show Go p e below _ T (mkF m 168 #[.val (.int p0), .val (.int p1), .val (.int p2), .val (.int p3), .val (.int (2 : Int32)), .val (.int c0), .val (.int c1), .val (.int c2), .val (.ref b92), .val (.ref b103), .val (.ref b103), .val (.int (0 : Int32)), .unset] [(.int (own_aw ([c0, c1] : List Int32)))])
              refine gistore X hx #[.val (.int p0), .val (.int p1), .val (.int p2), .val (.int p3), .val (.int (2 : Int32)), .val (.int c0), .val (.int c1), .val (.int c2), .val (.ref b92), .val (.ref b103), .val (.ref b103), .val (.int (0 : Int32)), .val (.int (own_aw ([c0, c1] : List Int32)))] 170 (hb hby at_168) rfl rfl ?_
              refine giload (v := (own_aw ([c0, c1] : List Int32))) X hx 172 (hb hby at_170) rfl rfl ?_
              refine giload (v := (0 : Int32)) X hx 174 (hb hby at_172) rfl rfl ?_
              refine gicmpNo X hx 177 (hb hby at_174) rfl (teq (by simp [own_aw, k0_125])).2 ?_
              refine giconst X hx (1 : Int32) 178 (hb hby at_177) rfl rfl ?_
              refine ggoto X hx 182 (hb hby at_178) (by decide) (by decide) ?_
              exact gRetL X hx hlk hret rfl (Or.inl ⟨rfl, by simp, _, rfl⟩) (hb hby at_182) eT hS hk (by decide) (by decide) ⟨rfl, N, K0⟩
            · refine gifNo X hx 128 (hb hby at_125) rfl ((if0 _ _).trans (feq k0_125).1) ?_
              refine giload (v := (2 : Int32)) X hx 130 (hb hby at_128) rfl rfl ?_
              refine giconst X hx (2 : Int32) 131 (hb hby at_130) rfl rfl ?_
              refine gicmpNo X hx 134 (hb hby at_131) rfl (by decide) ?_
              refine giload (v := c1) X hx 136 (hb hby at_134) rfl rfl ?_
              refine gstatic (y := (⟨"com/example/tagwire/tagwire/dtd/NamesIsWhitespacePinLaw", "ws", "(C)Z"⟩ : MethodName)) (argsL := [(.int c1)]) (st := []) X hx hZ hown (own_w36 hw) (own_w37 hw) (own_w2 hw) (own_w38 hw) (by decide) (payP (W := 0) (rmW2 l Z a0 hw (c1) h136 n0 (Nat.le_trans Z0 sz_h)) hZ (own_w38 hw) (own_w2 hw) (by decide) (by decide)) eT (by rw [hml]; rfl) (lenOf own_pd15 rfl) rfl (Nat.le_of_eq rfl) 4 12 rfl rfl (by decide) (by decide) 139 (hb hby at_136) rfl ?_
              clear X eT; clear T; intro v T h153 L2 Lc X eT hL hQ154
              obtain ⟨rfl, Nq, hh⟩ := hQ154
              replace N : Fr n0 L2 := by rw [hL]; exact Fr.app N Nq
              clear Nq hL
              replace hh := hh.symm; subst hh
              show Go p e below _ T (mkF m 139 #[.val (.int p0), .val (.int p1), .val (.int p2), .val (.int p3), .val (.int (2 : Int32)), .val (.int c0), .val (.int c1), .val (.int c2), .val (.ref b92), .val (.ref b103), .val (.ref b103), .unset, .unset] [(.int (own_ws c1))])
              rcases Decidable.em ((own_ws c1) = (0 : Int32)) with k1_139 | k1_139
              · refine gifYes X hx 160 (hb hby at_139) ((if0 _ _).trans (teq k1_139).1) (by decide) (by decide) ?_
                refine giconst X hx (0 : Int32) 161 (hb hby at_160) rfl rfl ?_
                refine gistore X hx #[.val (.int p0), .val (.int p1), .val (.int p2), .val (.int p3), .val (.int (2 : Int32)), .val (.int c0), .val (.int c1), .val (.int c2), .val (.ref b92), .val (.ref b103), .val (.ref b103), .val (.int (0 : Int32)), .unset] 163 (hb hby at_161) rfl rfl ?_
                refine gaload (v := (.ref b103)) X hx 165 (hb hby at_163) rfl rfl rfl ?_
                refine gstatic (y := (⟨"com/example/tagwire/tagwire/dtd/Names", "isWhitespace", "(Ljava/lang/CharSequence;)Z"⟩ : MethodName)) (argsL := [(.ref b103)]) (st := []) X hx hZ hown (own_w39 hw) (own_w40 hw) (own_w41 hw) (own_w42 hw) (by decide) (payP (W := 0) (rmIU2 l Z a0 hw (b103) (t_138) (kb_139) (G1) (G3) (c0) (c1) h136 n0 (Nat.le_trans Z0 sz_h) P0_Old A105 G142 G143 G144 (O2) (P5) (O4) (rG3) (SA) (SH) (SLo) (pp5) (pp10) (⟨c1, List.mem_of_getElem? (i := 1) rfl, s1⟩)) hZ (own_w42 hw) (own_w41 hw) (by decide) (by decide)) eT (by rw [hml]; rfl) (lenOf own_pd17 rfl) rfl (Nat.le_of_eq rfl) 4 12 rfl rfl (by decide) (by decide) 168 (hb hby at_165) rfl ?_
                clear X eT; clear T; intro v T h157 L2 Lc X eT hL hQ158
                obtain ⟨rfl, Nq, hh⟩ := hQ158
                replace N : Fr n0 L2 := by rw [hL]; exact Fr.app N Nq
                clear Nq hL
                replace hh := hh.symm; subst hh
                show Go p e below _ T (mkF m 168 #[.val (.int p0), .val (.int p1), .val (.int p2), .val (.int p3), .val (.int (2 : Int32)), .val (.int c0), .val (.int c1), .val (.int c2), .val (.ref b92), .val (.ref b103), .val (.ref b103), .val (.int (0 : Int32)), .unset] [(.int (own_aw ([c0, c1] : List Int32)))])
                refine gistore X hx #[.val (.int p0), .val (.int p1), .val (.int p2), .val (.int p3), .val (.int (2 : Int32)), .val (.int c0), .val (.int c1), .val (.int c2), .val (.ref b92), .val (.ref b103), .val (.ref b103), .val (.int (0 : Int32)), .val (.int (own_aw ([c0, c1] : List Int32)))] 170 (hb hby at_168) rfl rfl ?_
                refine giload (v := (own_aw ([c0, c1] : List Int32))) X hx 172 (hb hby at_170) rfl rfl ?_
                refine giload (v := (0 : Int32)) X hx 174 (hb hby at_172) rfl rfl ?_
                refine gicmpNo X hx 177 (hb hby at_174) rfl (teq (by simp [own_aw, k0_125, k1_139])).2 ?_
                refine giconst X hx (1 : Int32) 178 (hb hby at_177) rfl rfl ?_
                refine ggoto X hx 182 (hb hby at_178) (by decide) (by decide) ?_
                exact gRetL X hx hlk hret rfl (Or.inl ⟨rfl, by simp, _, rfl⟩) (hb hby at_182) eT hS hk (by decide) (by decide) ⟨rfl, N, K0⟩
              · refine gifNo X hx 142 (hb hby at_139) rfl ((if0 _ _).trans (feq k1_139).1) ?_
                refine giload (v := (2 : Int32)) X hx 144 (hb hby at_142) rfl rfl ?_
                refine giconst X hx (3 : Int32) 145 (hb hby at_144) rfl rfl ?_
                refine gicmpYes X hx 156 (hb hby at_145) (by decide) (by decide) (by decide) ?_
                refine giconst X hx (1 : Int32) 157 (hb hby at_156) rfl rfl ?_
                refine ggoto X hx 161 (hb hby at_157) (by decide) (by decide) ?_
                refine gistore X hx #[.val (.int p0), .val (.int p1), .val (.int p2), .val (.int p3), .val (.int (2 : Int32)), .val (.int c0), .val (.int c1), .val (.int c2), .val (.ref b92), .val (.ref b103), .val (.ref b103), .val (.int (1 : Int32)), .unset] 163 (hb hby at_161) rfl rfl ?_
                refine gaload (v := (.ref b103)) X hx 165 (hb hby at_163) rfl rfl rfl ?_
                refine gstatic (y := (⟨"com/example/tagwire/tagwire/dtd/Names", "isWhitespace", "(Ljava/lang/CharSequence;)Z"⟩ : MethodName)) (argsL := [(.ref b103)]) (st := []) X hx hZ hown (own_w39 hw) (own_w40 hw) (own_w41 hw) (own_w42 hw) (by decide) (payP (W := 0) (rmIU2 l Z a0 hw (b103) (t_138) (kb_139) (G1) (G3) (c0) (c1) h136 n0 (Nat.le_trans Z0 sz_h) P0_Old A105 G142 G143 G144 (O2) (P5) (O4) (rG3) (SA) (SH) (SLo) (pp5) (pp10) (⟨c1, List.mem_of_getElem? (i := 1) rfl, s1⟩)) hZ (own_w42 hw) (own_w41 hw) (by decide) (by decide)) eT (by rw [hml]; rfl) (lenOf own_pd17 rfl) rfl (Nat.le_of_eq rfl) 4 12 rfl rfl (by decide) (by decide) 168 (hb hby at_165) rfl ?_
                clear X eT; clear T; intro v T h161 L2 Lc X eT hL hQ162
                obtain ⟨rfl, Nq, hh⟩ := hQ162
                replace N : Fr n0 L2 := by rw [hL]; exact Fr.app N Nq
                clear Nq hL
                replace hh := hh.symm; subst hh
                show Go p e below _ T (mkF m 168 #[.val (.int p0), .val (.int p1), .val (.int p2), .val (.int p3), .val (.int (2 : Int32)), .val (.int c0), .val (.int c1), .val (.int c2), .val (.ref b92), .val (.ref b103), .val (.ref b103), .val (.int (1 : Int32)), .unset] [(.int (own_aw ([c0, c1] : List Int32)))])
                refine gistore X hx #[.val (.int p0), .val (.int p1), .val (.int p2), .val (.int p3), .val (.int (2 : Int32)), .val (.int c0), .val (.int c1), .val (.int c2), .val (.ref b92), .val (.ref b103), .val (.ref b103), .val (.int (1 : Int32)), .val (.int (own_aw ([c0, c1] : List Int32)))] 170 (hb hby at_168) rfl rfl ?_
                refine giload (v := (own_aw ([c0, c1] : List Int32))) X hx 172 (hb hby at_170) rfl rfl ?_
                refine giload (v := (1 : Int32)) X hx 174 (hb hby at_172) rfl rfl ?_
                refine gicmpNo X hx 177 (hb hby at_174) rfl (teq (by simp [own_aw, k0_125, k1_139])).2 ?_
                refine giconst X hx (1 : Int32) 178 (hb hby at_177) rfl rfl ?_
                refine ggoto X hx 182 (hb hby at_178) (by decide) (by decide) ?_
                exact gRetL X hx hlk hret rfl (Or.inl ⟨rfl, by simp, _, rfl⟩) (hb hby at_182) eT hS hk (by decide) (by decide) ⟨rfl, N, K0⟩
          · refine gspecial (y := (⟨"java/lang/String", "<init>", "([C)V"⟩ : MethodName)) (a := b103) (argsL := [(.ref b92)]) (st := [(.ref b103)]) X hx hZ hown rfl (own_w10 hw) (own_w11 hw) (own_w12 hw) (by decide) (payNew (W := 1) (cs := ([c0, c1] : List Int32)) (n := 2) (n0 := n0) hZ hw ge_b103 (Nat.le_trans Z0 sz_h) A105 F_value_b103 F_coder_b103 V101 rfl (O2.ext P0_Old.2) P5 rfl rfl (by decide) (by decide) (own_cS ⟨pp5.1, s0⟩ (own_cS ⟨pp10.1, s1⟩ own_c0)) (by decide) (by decide)) eT (by rw [hml]; rfl) (lenOf own_pd16 rfl) rfl (Nat.le_of_eq rfl) 3 8 rfl rfl (by decide) (by decide) 108 (hb hby at_105) rfl ?_
            clear X eT; clear T; intro v T h168 L2 Lc X eT hL hQ169
            obtain ⟨rfl, Nq, K165, t166, zz_t166, Str167⟩ := hQ169
            replace N : Fr n0 L2 := by rw [hL]; exact Fr.app N Nq
            clear Nq hL
            have ne_b92_t166 : b92 ≠ t166 := Nat.ne_of_lt (Nat.lt_of_lt_of_le V101.lt zz_t166)
            have ne_t166_b92 : t166 ≠ b92 := Ne.symm ne_b92_t166
            have ne_b103_t166 : b103 ≠ t166 := Nat.ne_of_lt (Nat.lt_of_lt_of_le A105.lt zz_t166)
            have ne_t166_b103 : t166 ≠ b103 := Ne.symm ne_b103_t166
            have sz_t166 : h0.size ≤ t166 := Nat.le_trans sz_h zz_t166
            have ge_t166 : n0 ≤ t166 := Nat.le_trans Z0 sz_t166
            have sfs := (sfS Sf_b103 sf0)
            replace P0_Old := P0_Old.keep K165 (allS ge_b103 all0)
            replace V101 := V101.keep K165 (ninS ne_b92_b103 nin0)
            replace Sf_b103 := Safe.keep K165 sfs C.1 Sf_b103
            replace K0 := K0.trans K165 (allS (Or.inr sz_b103) all0)
            replace C := C.trans (CHr.keep K165 sfs C.1)
            replace hk := Nat.le_trans hk K165.1
            replace sz_h : h0.size ≤ h168.size := Nat.le_trans sz_h K165.1
            show Go p e below _ T (mkF m 108 #[.val (.int p0), .val (.int p1), .val (.int p2), .val (.int p3), .val (.int (2 : Int32)), .val (.int c0), .val (.int c1), .val (.int c2), .val (.ref b92), .unset, .unset, .unset, .unset] [(.ref b103)])
            refine gastore X hx #[.val (.int p0), .val (.int p1), .val (.int p2), .val (.int p3), .val (.int (2 : Int32)), .val (.int c0), .val (.int c1), .val (.int c2), .val (.ref b92), .val (.ref b103), .unset, .unset, .unset] 110 (hb hby at_108) rfl rfl rfl ?_
            refine gaload (v := (.ref b103)) X hx 112 (hb hby at_110) rfl rfl rfl ?_
            refine gastore X hx #[.val (.int p0), .val (.int p1), .val (.int p2), .val (.int p3), .val (.int (2 : Int32)), .val (.int c0), .val (.int c1), .val (.int c2), .val (.ref b92), .val (.ref b103), .val (.ref b103), .unset, .unset] 114 (hb hby at_112) rfl rfl rfl ?_
            refine giload (v := (2 : Int32)) X hx 116 (hb hby at_114) rfl rfl ?_
            refine giconst X hx (1 : Int32) 117 (hb hby at_116) rfl rfl ?_
            refine gicmpNo X hx 120 (hb hby at_117) rfl (by decide) ?_
            refine giload (v := c0) X hx 122 (hb hby at_120) rfl rfl ?_
            refine gstatic (y := (⟨"com/example/tagwire/tagwire/dtd/NamesIsWhitespacePinLaw", "ws", "(C)Z"⟩ : MethodName)) (argsL := [(.int c0)]) (st := []) X hx hZ hown (own_w36 hw) (own_w37 hw) (own_w2 hw) (own_w38 hw) (by decide) (payP (W := 0) (rmW2 l Z a0 hw (c0) h168 n0 (Nat.le_trans Z0 sz_h)) hZ (own_w38 hw) (own_w2 hw) (by decide) (by decide)) eT (by rw [hml]; rfl) (lenOf own_pd15 rfl) rfl (Nat.le_of_eq rfl) 3 8 rfl rfl (by decide) (by decide) 125 (hb hby at_122) rfl ?_
            clear X eT; clear T; intro v T h170 L2 Lc X eT hL hQ171
            obtain ⟨rfl, Nq, hh⟩ := hQ171
            replace N : Fr n0 L2 := by rw [hL]; exact Fr.app N Nq
            clear Nq hL
            replace hh := hh.symm; subst hh
            show Go p e below _ T (mkF m 125 #[.val (.int p0), .val (.int p1), .val (.int p2), .val (.int p3), .val (.int (2 : Int32)), .val (.int c0), .val (.int c1), .val (.int c2), .val (.ref b92), .val (.ref b103), .val (.ref b103), .unset, .unset] [(.int (own_ws c0))])
            rcases Decidable.em ((own_ws c0) = (0 : Int32)) with k0_125 | k0_125
            · refine gifYes X hx 160 (hb hby at_125) ((if0 _ _).trans (teq k0_125).1) (by decide) (by decide) ?_
              refine giconst X hx (0 : Int32) 161 (hb hby at_160) rfl rfl ?_
              refine gistore X hx #[.val (.int p0), .val (.int p1), .val (.int p2), .val (.int p3), .val (.int (2 : Int32)), .val (.int c0), .val (.int c1), .val (.int c2), .val (.ref b92), .val (.ref b103), .val (.ref b103), .val (.int (0 : Int32)), .unset] 163 (hb hby at_161) rfl rfl ?_
              refine gaload (v := (.ref b103)) X hx 165 (hb hby at_163) rfl rfl rfl ?_
              refine gstatic (y := (⟨"com/example/tagwire/tagwire/dtd/Names", "isWhitespace", "(Ljava/lang/CharSequence;)Z"⟩ : MethodName)) (argsL := [(.ref b103)]) (st := []) X hx hZ hown (own_w39 hw) (own_w40 hw) (own_w41 hw) (own_w42 hw) (by decide) (payP (W := 0) (rmIL2 l Z a0 hw (b103) (t166) (G1) (G3) (c0) (c1) h168 n0 (Nat.le_trans Z0 sz_h) P0_Old Str167 (O2) (P5) (O4) (rG3)) hZ (own_w42 hw) (own_w41 hw) (by decide) (by decide)) eT (by rw [hml]; rfl) (lenOf own_pd17 rfl) rfl (Nat.le_of_eq rfl) 3 8 rfl rfl (by decide) (by decide) 168 (hb hby at_165) rfl ?_
              clear X eT; clear T; intro v T h174 L2 Lc X eT hL hQ175
              obtain ⟨rfl, Nq, hh⟩ := hQ175
              replace N : Fr n0 L2 := by rw [hL]; exact Fr.app N Nq
              clear Nq hL
              replace hh := hh.symm; subst hh
              show Go p e below _ T (mkF m 168 #[.val (.int p0), .val (.int p1), .val (.int p2), .val (.int p3), .val (.int (2 : Int32)), .val (.int c0), .val (.int c1), .val (.int c2), .val (.ref b92), .val (.ref b103), .val (.ref b103), .val (.int (0 : Int32)), .unset] [(.int (own_aw ([c0, c1] : List Int32)))])
              refine gistore X hx #[.val (.int p0), .val (.int p1), .val (.int p2), .val (.int p3), .val (.int (2 : Int32)), .val (.int c0), .val (.int c1), .val (.int c2), .val (.ref b92), .val (.ref b103), .val (.ref b103), .val (.int (0 : Int32)), .val (.int (own_aw ([c0, c1] : List Int32)))] 170 (hb hby at_168) rfl rfl ?_
              refine giload (v := (own_aw ([c0, c1] : List Int32))) X hx 172 (hb hby at_170) rfl rfl ?_
              refine giload (v := (0 : Int32)) X hx 174 (hb hby at_172) rfl rfl ?_
              refine gicmpNo X hx 177 (hb hby at_174) rfl (teq (by simp [own_aw, k0_125])).2 ?_
              refine giconst X hx (1 : Int32) 178 (hb hby at_177) rfl rfl ?_
              refine ggoto X hx 182 (hb hby at_178) (by decide) (by decide) ?_
              exact gRetL X hx hlk hret rfl (Or.inl ⟨rfl, by simp, _, rfl⟩) (hb hby at_182) eT hS hk (by decide) (by decide) ⟨rfl, N, K0⟩
            · refine gifNo X hx 128 (hb hby at_125) rfl ((if0 _ _).trans (feq k0_125).1) ?_
              refine giload (v := (2 : Int32)) X hx 130 (hb hby at_128) rfl rfl ?_
              refine giconst X hx (2 : Int32) 131 (hb hby at_130) rfl rfl ?_
              refine gicmpNo X hx 134 (hb hby at_131) rfl (by decide) ?_
              refine giload (v := c1) X hx 136 (hb hby at_134) rfl rfl ?_
              refine gstatic (y := (⟨"com/example/tagwire/tagwire/dtd/NamesIsWhitespacePinLaw", "ws", "(C)Z"⟩ : MethodName)) (argsL := [(.int c1)]) (st := []) X hx hZ hown (own_w36 hw) (own_w37 hw) (own_w2 hw) (own_w38 hw) (by decide) (payP (W := 0) (rmW2 l Z a0 hw (c1) h168 n0 (Nat.le_trans Z0 sz_h)) hZ (own_w38 hw) (own_w2 hw) (by decide) (by decide)) eT (by rw [hml]; rfl) (lenOf own_pd15 rfl) rfl (Nat.le_of_eq rfl) 3 8 rfl rfl (by decide) (by decide) 139 (hb hby at_136) rfl ?_
              clear X eT; clear T; intro v T h178 L2 Lc X eT hL hQ179
              obtain ⟨rfl, Nq, hh⟩ := hQ179
              replace N : Fr n0 L2 := by rw [hL]; exact Fr.app N Nq
              clear Nq hL
              replace hh := hh.symm; subst hh
              show Go p e below _ T (mkF m 139 #[.val (.int p0), .val (.int p1), .val (.int p2), .val (.int p3), .val (.int (2 : Int32)), .val (.int c0), .val (.int c1), .val (.int c2), .val (.ref b92), .val (.ref b103), .val (.ref b103), .unset, .unset] [(.int (own_ws c1))])
              rcases Decidable.em ((own_ws c1) = (0 : Int32)) with k1_139 | k1_139
              · refine gifYes X hx 160 (hb hby at_139) ((if0 _ _).trans (teq k1_139).1) (by decide) (by decide) ?_
                refine giconst X hx (0 : Int32) 161 (hb hby at_160) rfl rfl ?_
                refine gistore X hx #[.val (.int p0), .val (.int p1), .val (.int p2), .val (.int p3), .val (.int (2 : Int32)), .val (.int c0), .val (.int c1), .val (.int c2), .val (.ref b92), .val (.ref b103), .val (.ref b103), .val (.int (0 : Int32)), .unset] 163 (hb hby at_161) rfl rfl ?_
                refine gaload (v := (.ref b103)) X hx 165 (hb hby at_163) rfl rfl rfl ?_
                refine gstatic (y := (⟨"com/example/tagwire/tagwire/dtd/Names", "isWhitespace", "(Ljava/lang/CharSequence;)Z"⟩ : MethodName)) (argsL := [(.ref b103)]) (st := []) X hx hZ hown (own_w39 hw) (own_w40 hw) (own_w41 hw) (own_w42 hw) (by decide) (payP (W := 0) (rmIL2 l Z a0 hw (b103) (t166) (G1) (G3) (c0) (c1) h168 n0 (Nat.le_trans Z0 sz_h) P0_Old Str167 (O2) (P5) (O4) (rG3)) hZ (own_w42 hw) (own_w41 hw) (by decide) (by decide)) eT (by rw [hml]; rfl) (lenOf own_pd17 rfl) rfl (Nat.le_of_eq rfl) 3 8 rfl rfl (by decide) (by decide) 168 (hb hby at_165) rfl ?_
                clear X eT; clear T; intro v T h182 L2 Lc X eT hL hQ183
                obtain ⟨rfl, Nq, hh⟩ := hQ183
                replace N : Fr n0 L2 := by rw [hL]; exact Fr.app N Nq
                clear Nq hL
                replace hh := hh.symm; subst hh
                show Go p e below _ T (mkF m 168 #[.val (.int p0), .val (.int p1), .val (.int p2), .val (.int p3), .val (.int (2 : Int32)), .val (.int c0), .val (.int c1), .val (.int c2), .val (.ref b92), .val (.ref b103), .val (.ref b103), .val (.int (0 : Int32)), .unset] [(.int (own_aw ([c0, c1] : List Int32)))])
                refine gistore X hx #[.val (.int p0), .val (.int p1), .val (.int p2), .val (.int p3), .val (.int (2 : Int32)), .val (.int c0), .val (.int c1), .val (.int c2), .val (.ref b92), .val (.ref b103), .val (.ref b103), .val (.int (0 : Int32)), .val (.int (own_aw ([c0, c1] : List Int32)))] 170 (hb hby at_168) rfl rfl ?_
                refine giload (v := (own_aw ([c0, c1] : List Int32))) X hx 172 (hb hby at_170) rfl rfl ?_
                refine giload (v := (0 : Int32)) X hx 174 (hb hby at_172) rfl rfl ?_
                refine gicmpNo X hx 177 (hb hby at_174) rfl (teq (by simp [own_aw, k0_125, k1_139])).2 ?_
                refine giconst X hx (1 : Int32) 178 (hb hby at_177) rfl rfl ?_
                refine ggoto X hx 182 (hb hby at_178) (by decide) (by decide) ?_
                exact gRetL X hx hlk hret rfl (Or.inl ⟨rfl, by simp, _, rfl⟩) (hb hby at_182) eT hS hk (by decide) (by decide) ⟨rfl, N, K0⟩
              · refine gifNo X hx 142 (hb hby at_139) rfl ((if0 _ _).trans (feq k1_139).1) ?_
                refine giload (v := (2 : Int32)) X hx 144 (hb hby at_142) rfl rfl ?_
                refine giconst X hx (3 : Int32) 145 (hb hby at_144) rfl rfl ?_
                refine gicmpYes X hx 156 (hb hby at_145) (by decide) (by decide) (by decide) ?_
                refine giconst X hx (1 : Int32) 157 (hb hby at_156) rfl rfl ?_
                refine ggoto X hx 161 (hb hby at_157) (by decide) (by decide) ?_
                refine gistore X hx #[.val (.int p0), .val (.int p1), .val (.int p2), .val (.int p3), .val (.int (2 : Int32)), .val (.int c0), .val (.int c1), .val (.int c2), .val (.ref b92), .val (.ref b103), .val (.ref b103), .val (.int (1 : Int32)), .unset] 163 (hb hby at_161) rfl rfl ?_
                refine gaload (v := (.ref b103)) X hx 165 (hb hby at_163) rfl rfl rfl ?_
                refine gstatic (y := (⟨"com/example/tagwire/tagwire/dtd/Names", "isWhitespace", "(Ljava/lang/CharSequence;)Z"⟩ : MethodName)) (argsL := [(.ref b103)]) (st := []) X hx hZ hown (own_w39 hw) (own_w40 hw) (own_w41 hw) (own_w42 hw) (by decide) (payP (W := 0) (rmIL2 l Z a0 hw (b103) (t166) (G1) (G3) (c0) (c1) h168 n0 (Nat.le_trans Z0 sz_h) P0_Old Str167 (O2) (P5) (O4) (rG3)) hZ (own_w42 hw) (own_w41 hw) (by decide) (by decide)) eT (by rw [hml]; rfl) (lenOf own_pd17 rfl) rfl (Nat.le_of_eq rfl) 3 8 rfl rfl (by decide) (by decide) 168 (hb hby at_165) rfl ?_
                clear X eT; clear T; intro v T h186 L2 Lc X eT hL hQ187
                obtain ⟨rfl, Nq, hh⟩ := hQ187
                replace N : Fr n0 L2 := by rw [hL]; exact Fr.app N Nq
                clear Nq hL
                replace hh := hh.symm; subst hh
                show Go p e below _ T (mkF m 168 #[.val (.int p0), .val (.int p1), .val (.int p2), .val (.int p3), .val (.int (2 : Int32)), .val (.int c0), .val (.int c1), .val (.int c2), .val (.ref b92), .val (.ref b103), .val (.ref b103), .val (.int (1 : Int32)), .unset] [(.int (own_aw ([c0, c1] : List Int32)))])
                refine gistore X hx #[.val (.int p0), .val (.int p1), .val (.int p2), .val (.int p3), .val (.int (2 : Int32)), .val (.int c0), .val (.int c1), .val (.int c2), .val (.ref b92), .val (.ref b103), .val (.ref b103), .val (.int (1 : Int32)), .val (.int (own_aw ([c0, c1] : List Int32)))] 170 (hb hby at_168) rfl rfl ?_
                refine giload (v := (own_aw ([c0, c1] : List Int32))) X hx 172 (hb hby at_170) rfl rfl ?_
                refine giload (v := (1 : Int32)) X hx 174 (hb hby at_172) rfl rfl ?_
                refine gicmpNo X hx 177 (hb hby at_174) rfl (teq (by simp [own_aw, k0_125, k1_139])).2 ?_
                refine giconst X hx (1 : Int32) 178 (hb hby at_177) rfl rfl ?_
                refine ggoto X hx 182 (hb hby at_178) (by decide) (by decide) ?_
                exact gRetL X hx hlk hret rfl (Or.inl ⟨rfl, by simp, _, rfl⟩) (hb hby at_182) eT hS hk (by decide) (by decide) ⟨rfl, N, K0⟩
      · refine gicmpYes X hx 79 (hb hby at_58) (feq n_58).2 (by decide) (by decide) ?_
        refine giconst X hx (3 : Int32) 80 (hb hby at_79) rfl rfl ?_
        refine gnewP (aty := .char) X hx hZ (own_w6 hw) eT (n := (3 : Int32)) (by decide) 3 (by decide) (by decide) 1 3 rfl rfl (by decide) (by decide) 82 (hb hby at_80) rfl ?_
        clear X eT; clear T; intro T h190 b191 kc194 X eT ga E192 V193
        have le_a := Nat.le_of_eq ga.symm
        have sz_b191 : h0.size ≤ b191 := Nat.le_trans sz_h le_a
        have ge_b191 : n0 ≤ b191 := Nat.le_trans Z0 sz_b191
        clear le_a ga
        replace P0_Old := P0_Old.ext E192
        replace K0 := K0.ext E192
        replace C := C.trans (CHr.ext E192 C.1)
        replace hk := Nat.le_trans hk E192.1
        replace sz_h : h0.size ≤ h190.size := Nat.le_trans sz_h E192.1
        replace V193 : Arv Z h190 b191 kc194 .char (3 : Int32) [(.int (0 : Int32)), (.int (0 : Int32)), (.int (0 : Int32))] (.int 0) := V193.pad (pad_rep [] _ 3)
        refine gdup X hx 83 (hb hby at_82) rfl rfl ?_
        refine giconst X hx (0 : Int32) 84 (hb hby at_83) rfl rfl ?_
        refine giload (v := c0) X hx 86 (hb hby at_84) rfl rfl ?_
        refine gcastore X hx hZ eT V193 (by decide) (by decide) 0 rfl (Nat.le_of_ble_eq_true rfl) N ge_b191 87 (hb hby at_86) rfl ?_
        clear X eT N; clear T; intro T h196 L X eT N W195 V197
        have sfw := (Safe.arv (EL := own_EL) (vm := vm) hZ.alike V193 (fun z => by cases z))
        replace P0_Old := P0_Old.wr W195 ge_b191
        replace K0 := K0.wr W195 (Or.inr sz_b191)
        replace C := C.trans (CHr.wr W195 sfw C.1)
        replace hk : k0 ≤ h196.size := by rw [Wr.size W195]; exact hk
        replace sz_h : h0.size ≤ h196.size := by rw [Wr.size W195]; exact sz_h
        replace V197 : Arv Z h196 b191 kc194 .char (3 : Int32) [(.int c0), (.int (0 : Int32)), (.int (0 : Int32))] (.int 0) := by have z := V197; rw [own_narw pp5] at z; exact z
        refine gdup X hx 88 (hb hby at_87) rfl rfl ?_
        refine giconst X hx (1 : Int32) 89 (hb hby at_88) rfl rfl ?_
        refine giload (v := c1) X hx 91 (hb hby at_89) rfl rfl ?_
        refine gcastore X hx hZ eT V197 (by decide) (by decide) 1 rfl (Nat.le_of_ble_eq_true rfl) N ge_b191 92 (hb hby at_91) rfl ?_
        clear X eT N; clear T; intro T h199 L X eT N W198 V200
        have sfw := (Safe.arv (EL := own_EL) (vm := vm) hZ.alike V197 (fun z => by cases z))
        replace P0_Old := P0_Old.wr W198 ge_b191
        replace K0 := K0.wr W198 (Or.inr sz_b191)
        replace C := C.trans (CHr.wr W198 sfw C.1)
        replace hk : k0 ≤ h199.size := by rw [Wr.size W198]; exact hk
        replace sz_h : h0.size ≤ h199.size := by rw [Wr.size W198]; exact sz_h
        replace V200 : Arv Z h199 b191 kc194 .char (3 : Int32) [(.int c0), (.int c1), (.int (0 : Int32))] (.int 0) := by have z := V200; rw [own_narw pp10] at z; exact z
        refine gdup X hx 93 (hb hby at_92) rfl rfl ?_
        refine giconst X hx (2 : Int32) 94 (hb hby at_93) rfl rfl ?_
        refine giload (v := c2) X hx 96 (hb hby at_94) rfl rfl ?_
        refine gcastore X hx hZ eT V200 (by decide) (by decide) 2 rfl (Nat.le_of_ble_eq_true rfl) N ge_b191 97 (hb hby at_96) rfl ?_
        clear X eT N; clear T; intro T h202 L X eT N W201 V203
        have sfw := (Safe.arv (EL := own_EL) (vm := vm) hZ.alike V200 (fun z => by cases z))
        replace P0_Old := P0_Old.wr W201 ge_b191
        replace K0 := K0.wr W201 (Or.inr sz_b191)
        replace C := C.trans (CHr.wr W201 sfw C.1)
        replace hk : k0 ≤ h202.size := by rw [Wr.size W201]; exact hk
        replace sz_h : h0.size ≤ h202.size := by rw [Wr.size W201]; exact sz_h
        replace V203 : Arv Z h202 b191 kc194 .char (3 : Int32) [(.int c0), (.int c1), (.int c2)] (.int 0) := by have z := V203; rw [own_narw pp15] at z; exact z
        refine gastore X hx #[.val (.int p0), .val (.int p1), .val (.int p2), .val (.int p3), .val (.int (p3 &&& (3 : Int32))), .val (.int c0), .val (.int c1), .val (.int c2), .val (.ref b191), .unset, .unset, .unset, .unset] 99 (hb hby at_97) rfl rfl rfl ?_
        refine gnewO X hx hZ hown (own_w7 hw) (own_w8 hw) (own_w9 hw) eT 2 7 rfl rfl (by decide) (by decide) 102 (hb hby at_99) rfl ?_
        clear X eT; clear T; intro T h204 b205 X eT ga E206 A207 D208
        have le_a := Nat.le_of_eq ga.symm
        have ne_b191_b205 : b191 ≠ b205 := Nat.ne_of_lt (Nat.lt_of_lt_of_le V203.lt le_a)
        have ne_b205_b191 : b205 ≠ b191 := Ne.symm ne_b191_b205
        have sz_b205 : h0.size ≤ b205 := Nat.le_trans sz_h le_a
        have ge_b205 : n0 ≤ b205 := Nat.le_trans Z0 sz_b205
        have Sf_b205 := Safe.ext E206 C.1 (Safe.new le_a)
        clear le_a ga
        replace P0_Old := P0_Old.ext E206
        replace V203 := V203.ext E206
        replace K0 := K0.ext E206
        replace C := C.trans (CHr.ext E206 C.1)
        replace hk := Nat.le_trans hk E206.1
        replace sz_h : h0.size ≤ h204.size := Nat.le_trans sz_h E206.1
        have F_coder_b205 : Fld Z h204 b205 "java/lang/String" "coder" "B" (.int (0 : Int32)) := D208 (Or.inr (own_w33 hw)) (ty := .byte) own_pf0
        have F_value_b205 : Fld Z h204 b205 "java/lang/String" "value" "[B" .null := D208 (Or.inr (own_w35 hw)) (ty := (.array .byte)) own_pf1
        clear D208
        refine gdup X hx 103 (hb hby at_102) rfl rfl ?_
        refine gaload (v := (.ref b191)) X hx 105 (hb hby at_103) rfl rfl rfl ?_
        rw [own_n3 n_25 n_39 n_58]
        show Go p e below _ T (mkF m 105 #[.val (.int p0), .val (.int p1), .val (.int p2), .val (.int p3), .val (.int (3 : Int32)), .val (.int c0), .val (.int c1), .val (.int c2), .val (.ref b191), .unset, .unset, .unset, .unset] [(.ref b191), (.ref b205), (.ref b205)])
        rcases Decidable.em ((255 : Int32) < c0) with s0 | s0
        · refine gspecial (y := (⟨"java/lang/String", "<init>", "([C)V"⟩ : MethodName)) (a := b205) (argsL := [(.ref b191)]) (st := [(.ref b205)]) X hx hZ hown rfl (own_w10 hw) (own_w11 hw) (own_w12 hw) (by decide) (payP (W := 1) (rmI1_3_0 l Z a0 hw (b205) (b191) (kc194) (.null) ((.int (0 : Int32))) (G1) (c0) (c1) (c2) h204 n0 (Nat.le_trans Z0 sz_h) ge_b205 P0_Old A207 F_value_b205 F_coder_b205 V203 (O2) (P5) (SA) (SH) (SLo) (pp5) (pp10) (pp15) (s0)) hZ (own_w12 hw) (own_w9 hw) (by decide) (by decide)) eT (by rw [hml]; rfl) (lenOf own_pd16 rfl) rfl (Nat.le_of_eq rfl) 4 16 rfl rfl (by decide) (by decide) 108 (hb hby at_105) rfl ?_
          clear X eT; clear T; intro v T h209 L2 Lc X eT hL hQ210
          obtain ⟨t_211, kb_212, rfl, Nq, K213, zz_t_211, G215, G216, G217⟩ := hQ210
          replace N : Fr n0 L2 := by rw [hL]; exact Fr.app N Nq
          clear Nq hL
          have ne_b191_t_211 : b191 ≠ t_211 := Nat.ne_of_lt (Nat.lt_of_lt_of_le V203.lt zz_t_211)
          have ne_t_211_b191 : t_211 ≠ b191 := Ne.symm ne_b191_t_211
          have ne_b205_t_211 : b205 ≠ t_211 := Nat.ne_of_lt (Nat.lt_of_lt_of_le A207.lt zz_t_211)
          have ne_t_211_b205 : t_211 ≠ b205 := Ne.symm ne_b205_t_211
          have sz_t_211 : h0.size ≤ t_211 := Nat.le_trans sz_h zz_t_211
          have ge_t_211 : n0 ≤ t_211 := Nat.le_trans Z0 sz_t_211
          have sfs := (sfS Sf_b205 sf0)
          replace P0_Old := P0_Old.keep K213 (allS ge_b205 all0)
          replace V203 := V203.keep K213 (ninS ne_b191_b205 nin0)
          replace A207 := A207.keep K213
          replace Sf_b205 := Safe.keep K213 sfs C.1 Sf_b205
          replace K0 := K0.trans K213 (allS (Or.inr sz_b205) all0)
          replace C := C.trans (CHr.keep K213 sfs C.1)
          replace hk := Nat.le_trans hk K213.1
          replace sz_h : h0.size ≤ h209.size := Nat.le_trans sz_h K213.1
          show Go p e below _ T (mkF m 108 #[.val (.int p0), .val (.int p1), .val (.int p2), .val (.int p3), .val (.int (3 : Int32)), .val (.int c0), .val (.int c1), .val (.int c2), .val (.ref b191), .unset, .unset, .unset, .unset] [(.ref b205)])
          refine gastore X hx #[.val (.int p0), .val (.int p1), .val (.int p2), .val (.int p3), .val (.int (3 : Int32)), .val (.int c0), .val (.int c1), .val (.int c2), .val (.ref b191), .val (.ref b205), .unset, .unset, .unset] 110 (hb hby at_108) rfl rfl rfl ?_
          refine gaload (v := (.ref b205)) X hx 112 (hb hby at_110) rfl rfl rfl ?_
          refine gastore X hx #[.val (.int p0), .val (.int p1), .val (.int p2), .val (.int p3), .val (.int (3 : Int32)), .val (.int c0), .val (.int c1), .val (.int c2), .val (.ref b191), .val (.ref b205), .val (.ref b205), .unset, .unset] 114 (hb hby at_112) rfl rfl rfl ?_
          refine giload (v := (3 : Int32)) X hx 116 (hb hby at_114) rfl rfl ?_
          refine giconst X hx (1 : Int32) 117 (hb hby at_116) rfl rfl ?_
          refine gicmpNo X hx 120 (hb hby at_117) rfl (by decide) ?_
          refine giload (v := c0) X hx 122 (hb hby at_120) rfl rfl ?_
          refine gstatic (y := (⟨"com/example/tagwire/tagwire/dtd/NamesIsWhitespacePinLaw", "ws", "(C)Z"⟩ : MethodName)) (argsL := [(.int c0)]) (st := []) X hx hZ hown (own_w36 hw) (own_w37 hw) (own_w2 hw) (own_w38 hw) (by decide) (payP (W := 0) (rmW2 l Z a0 hw (c0) h209 n0 (Nat.le_trans Z0 sz_h)) hZ (own_w38 hw) (own_w2 hw) (by decide) (by decide)) eT (by rw [hml]; rfl) (lenOf own_pd15 rfl) rfl (Nat.le_of_eq rfl) 4 16 rfl rfl (by decide) (by decide) 125 (hb hby at_122) rfl ?_
          clear X eT; clear T; intro v T h218 L2 Lc X eT hL hQ219
          obtain ⟨rfl, Nq, hh⟩ := hQ219
          replace N : Fr n0 L2 := by rw [hL]; exact Fr.app N Nq
          clear Nq hL
          replace hh := hh.symm; subst hh
          show Go p e below _ T (mkF m 125 #[.val (.int p0), .val (.int p1), .val (.int p2), .val (.int p3), .val (.int (3 : Int32)), .val (.int c0), .val (.int c1), .val (.int c2), .val (.ref b191), .val (.ref b205), .val (.ref b205), .unset, .unset] [(.int (own_ws c0))])
          rcases Decidable.em ((own_ws c0) = (0 : Int32)) with k0_125 | k0_125
          · refine gifYes X hx 160 (hb hby at_125) ((if0 _ _).trans (teq k0_125).1) (by decide) (by decide) ?_
            refine giconst X hx (0 : Int32) 161 (hb hby at_160) rfl rfl ?_
            refine gistore X hx #[.val (.int p0), .val (.int p1), .val (.int p2), .val (.int p3), .val (.int (3 : Int32)), .val (.int c0), .val (.int c1), .val (.int c2), .val (.ref b191), .val (.ref b205), .val (.ref b205), .val (.int (0 : Int32)), .unset] 163 (hb hby at_161) rfl rfl ?_
            refine gaload (v := (.ref b205)) X hx 165 (hb hby at_163) rfl rfl rfl ?_
            refine gstatic (y := (⟨"com/example/tagwire/tagwire/dtd/Names", "isWhitespace", "(Ljava/lang/CharSequence;)Z"⟩ : MethodName)) (argsL := [(.ref b205)]) (st := []) X hx hZ hown (own_w39 hw) (own_w40 hw) (own_w41 hw) (own_w42 hw) (by decide) (payP (W := 0) (rmIU3 l Z a0 hw (b205) (t_211) (kb_212) (G1) (G3) (c0) (c1) (c2) h209 n0 (Nat.le_trans Z0 sz_h) P0_Old A207 G215 G216 G217 (O2) (P5) (O4) (rG3) (SA) (SH) (SLo) (pp5) (pp10) (pp15) (⟨c0, List.mem_of_getElem? (i := 0) rfl, s0⟩)) hZ (own_w42 hw) (own_w41 hw) (by decide) (by decide)) eT (by rw [hml]; rfl) (lenOf own_pd17 rfl) rfl (Nat.le_of_eq rfl) 4 16 rfl rfl (by decide) (by decide) 168 (hb hby at_165) rfl ?_
            clear X eT; clear T; intro v T h222 L2 Lc X eT hL hQ223
            obtain ⟨rfl, Nq, hh⟩ := hQ223
            replace N : Fr n0 L2 := by rw [hL]; exact Fr.app N Nq
            clear Nq hL
            replace hh := hh.symm; subst hh
            show Go p e below _ T (mkF m 168 #[.val (.int p0), .val (.int p1), .val (.int p2), .val (.int p3), .val (.int (3 : Int32)), .val (.int c0), .val (.int c1), .val (.int c2), .val (.ref b191), .val (.ref b205), .val (.ref b205), .val (.int (0 : Int32)), .unset] [(.int (own_aw ([c0, c1, c2] : List Int32)))])
            refine gistore X hx #[.val (.int p0), .val (.int p1), .val (.int p2), .val (.int p3), .val (.int (3 : Int32)), .val (.int c0), .val (.int c1), .val (.int c2), .val (.ref b191), .val (.ref b205), .val (.ref b205), .val (.int (0 : Int32)), .val (.int (own_aw ([c0, c1, c2] : List Int32)))] 170 (hb hby at_168) rfl rfl ?_
            refine giload (v := (own_aw ([c0, c1, c2] : List Int32))) X hx 172 (hb hby at_170) rfl rfl ?_
            refine giload (v := (0 : Int32)) X hx 174 (hb hby at_172) rfl rfl ?_
            refine gicmpNo X hx 177 (hb hby at_174) rfl (teq (by simp [own_aw, k0_125])).2 ?_
            refine giconst X hx (1 : Int32) 178 (hb hby at_177) rfl rfl ?_
            refine ggoto X hx 182 (hb hby at_178) (by decide) (by decide) ?_
            exact gRetL X hx hlk hret rfl (Or.inl ⟨rfl, by simp, _, rfl⟩) (hb hby at_182) eT hS hk (by decide) (by decide) ⟨rfl, N, K0⟩
          · refine gifNo X hx 128 (hb hby at_125) rfl ((if0 _ _).trans (feq k0_125).1) ?_
            refine giload (v := (3 : Int32)) X hx 130 (hb hby at_128) rfl rfl ?_
            refine giconst X hx (2 : Int32) 131 (hb hby at_130) rfl rfl ?_
            refine gicmpNo X hx 134 (hb hby at_131) rfl (by decide) ?_
            refine giload (v := c1) X hx 136 (hb hby at_134) rfl rfl ?_
            refine gstatic (y := (⟨"com/example/tagwire/tagwire/dtd/NamesIsWhitespacePinLaw", "ws", "(C)Z"⟩ : MethodName)) (argsL := [(.int c1)]) (st := []) X hx hZ hown (own_w36 hw) (own_w37 hw) (own_w2 hw) (own_w38 hw) (by decide) (payP (W := 0) (rmW2 l Z a0 hw (c1) h209 n0 (Nat.le_trans Z0 sz_h)) hZ (own_w38 hw) (own_w2 hw) (by decide) (by decide)) eT (by rw [hml]; rfl) (lenOf own_pd15 rfl) rfl (Nat.le_of_eq rfl) 4 16 rfl rfl (by decide) (by decide) 139 (hb hby at_136) rfl ?_
            clear X eT; clear T; intro v T h226 L2 Lc X eT hL hQ227
            obtain ⟨rfl, Nq, hh⟩ := hQ227
            replace N : Fr n0 L2 := by rw [hL]; exact Fr.app N Nq
            clear Nq hL
            replace hh := hh.symm; subst hh
            show Go p e below _ T (mkF m 139 #[.val (.int p0), .val (.int p1), .val (.int p2), .val (.int p3), .val (.int (3 : Int32)), .val (.int c0), .val (.int c1), .val (.int c2), .val (.ref b191), .val (.ref b205), .val (.ref b205), .unset, .unset] [(.int (own_ws c1))])
            rcases Decidable.em ((own_ws c1) = (0 : Int32)) with k1_139 | k1_139
            · refine gifYes X hx 160 (hb hby at_139) ((if0 _ _).trans (teq k1_139).1) (by decide) (by decide) ?_
              refine giconst X hx (0 : Int32) 161 (hb hby at_160) rfl rfl ?_
              refine gistore X hx #[.val (.int p0), .val (.int p1), .val (.int p2), .val (.int p3), .val (.int (3 : Int32)), .val (.int c0), .val (.int c1), .val (.int c2), .val (.ref b191), .val (.ref b205), .val (.ref b205), .val (.int (0 : Int32)), .unset] 163 (hb hby at_161) rfl rfl ?_
              refine gaload (v := (.ref b205)) X hx 165 (hb hby at_163) rfl rfl rfl ?_
              refine gstatic (y := (⟨"com/example/tagwire/tagwire/dtd/Names", "isWhitespace", "(Ljava/lang/CharSequence;)Z"⟩ : MethodName)) (argsL := [(.ref b205)]) (st := []) X hx hZ hown (own_w39 hw) (own_w40 hw) (own_w41 hw) (own_w42 hw) (by decide) (payP (W := 0) (rmIU3 l Z a0 hw (b205) (t_211) (kb_212) (G1) (G3) (c0) (c1) (c2) h209 n0 (Nat.le_trans Z0 sz_h) P0_Old A207 G215 G216 G217 (O2) (P5) (O4) (rG3) (SA) (SH) (SLo) (pp5) (pp10) (pp15) (⟨c0, List.mem_of_getElem? (i := 0) rfl, s0⟩)) hZ (own_w42 hw) (own_w41 hw) (by decide) (by decide)) eT (by rw [hml]; rfl) (lenOf own_pd17 rfl) rfl (Nat.le_of_eq rfl) 4 16 rfl rfl (by decide) (by decide) 168 (hb hby at_165) rfl ?_
              clear X eT; clear T; intro v T h230 L2 Lc X eT hL hQ231
              obtain ⟨rfl, Nq, hh⟩ := hQ231
              replace N : Fr n0 L2 := by rw [hL]; exact Fr.app N Nq
              clear Nq hL
              replace hh := hh.symm; subst hh
              show Go p e below _ T (mkF m 168 #[.val (.int p0), .val (.int p1), .val (.int p2), .val (.int p3), .val (.int (3 : Int32)), .val (.int c0), .val (.int c1), .val (.int c2), .val (.ref b191), .val (.ref b205), .val (.ref b205), .val (.int (0 : Int32)), .unset] [(.int (own_aw ([c0, c1, c2] : List Int32)))])
              refine gistore X hx #[.val (.int p0), .val (.int p1), .val (.int p2), .val (.int p3), .val (.int (3 : Int32)), .val (.int c0), .val (.int c1), .val (.int c2), .val (.ref b191), .val (.ref b205), .val (.ref b205), .val (.int (0 : Int32)), .val (.int (own_aw ([c0, c1, c2] : List Int32)))] 170 (hb hby at_168) rfl rfl ?_
              refine giload (v := (own_aw ([c0, c1, c2] : List Int32))) X hx 172 (hb hby at_170) rfl rfl ?_
              refine giload (v := (0 : Int32)) X hx 174 (hb hby at_172) rfl rfl ?_
              refine gicmpNo X hx 177 (hb hby at_174) rfl (teq (by simp [own_aw, k0_125, k1_139])).2 ?_
              refine giconst X hx (1 : Int32) 178 (hb hby at_177) rfl rfl ?_
              refine ggoto X hx 182 (hb hby at_178) (by decide) (by decide) ?_
              exact gRetL X hx hlk hret rfl (Or.inl ⟨rfl, by simp, _, rfl⟩) (hb hby at_182) eT hS hk (by decide) (by decide) ⟨rfl, N, K0⟩
            · refine gifNo X hx 142 (hb hby at_139) rfl ((if0 _ _).trans (feq k1_139).1) ?_
              refine giload (v := (3 : Int32)) X hx 144 (hb hby at_142) rfl rfl ?_
              refine giconst X hx (3 : Int32) 145 (hb hby at_144) rfl rfl ?_
              refine gicmpNo X hx 148 (hb hby at_145) rfl (by decide) ?_
              refine giload (v := c2) X hx 150 (hb hby at_148) rfl rfl ?_
              refine gstatic (y := (⟨"com/example/tagwire/tagwire/dtd/NamesIsWhitespacePinLaw", "ws", "(C)Z"⟩ : MethodName)) (argsL := [(.int c2)]) (st := []) X hx hZ hown (own_w36 hw) (own_w37 hw) (own_w2 hw) (own_w38 hw) (by decide) (payP (W := 0) (rmW2 l Z a0 hw (c2) h209 n0 (Nat.le_trans Z0 sz_h)) hZ (own_w38 hw) (own_w2 hw) (by decide) (by decide)) eT (by rw [hml]; rfl) (lenOf own_pd15 rfl) rfl (Nat.le_of_eq rfl) 4 16 rfl rfl (by decide) (by decide) 153 (hb hby at_150) rfl ?_
              clear X eT; clear T; intro v T h234 L2 Lc X eT hL hQ235
              obtain ⟨rfl, Nq, hh⟩ := hQ235
              replace N : Fr n0 L2 := by rw [hL]; exact Fr.app N Nq
              clear Nq hL
              replace hh := hh.symm; subst hh
              show Go p e below _ T (mkF m 153 #[.val (.int p0), .val (.int p1), .val (.int p2), .val (.int p3), .val (.int (3 : Int32)), .val (.int c0), .val (.int c1), .val (.int c2), .val (.ref b191), .val (.ref b205), .val (.ref b205), .unset, .unset] [(.int (own_ws c2))])
              rcases Decidable.em ((own_ws c2) = (0 : Int32)) with k2_153 | k2_153
              · refine gifYes X hx 160 (hb hby at_153) ((if0 _ _).trans (teq k2_153).1) (by decide) (by decide) ?_
                refine giconst X hx (0 : Int32) 161 (hb hby at_160) rfl rfl ?_
                refine gistore X hx #[.val (.int p0), .val (.int p1), .val (.int p2), .val (.int p3), .val (.int (3 : Int32)), .val (.int c0), .val (.int c1), .val (.int c2), .val (.ref b191), .val (.ref b205), .val (.ref b205), .val (.int (0 : Int32)), .unset] 163 (hb hby at_161) rfl rfl ?_
                refine gaload (v := (.ref b205)) X hx 165 (hb hby at_163) rfl rfl rfl ?_
                refine gstatic (y := (⟨"com/example/tagwire/tagwire/dtd/Names", "isWhitespace", "(Ljava/lang/CharSequence;)Z"⟩ : MethodName)) (argsL := [(.ref b205)]) (st := []) X hx hZ hown (own_w39 hw) (own_w40 hw) (own_w41 hw) (own_w42 hw) (by decide) (payP (W := 0) (rmIU3 l Z a0 hw (b205) (t_211) (kb_212) (G1) (G3) (c0) (c1) (c2) h209 n0 (Nat.le_trans Z0 sz_h) P0_Old A207 G215 G216 G217 (O2) (P5) (O4) (rG3) (SA) (SH) (SLo) (pp5) (pp10) (pp15) (⟨c0, List.mem_of_getElem? (i := 0) rfl, s0⟩)) hZ (own_w42 hw) (own_w41 hw) (by decide) (by decide)) eT (by rw [hml]; rfl) (lenOf own_pd17 rfl) rfl (Nat.le_of_eq rfl) 4 16 rfl rfl (by decide) (by decide) 168 (hb hby at_165) rfl ?_
                clear X eT; clear T; intro v T h238 L2 Lc X eT hL hQ239
                obtain ⟨rfl, Nq, hh⟩ := hQ239
                replace N : Fr n0 L2 := by rw [hL]; exact Fr.app N Nq
                clear Nq hL
                replace hh := hh.symm; subst hh
                show Go p e below _ T (mkF m 168 #[.val (.int p0), .val (.int p1), .val (.int p2), .val (.int p3), .val (.int (3 : Int32)), .val (.int c0), .val (.int c1), .val (.int c2), .val (.ref b191), .val (.ref b205), .val (.ref b205), .val (.int (0 : Int32)), .unset] [(.int (own_aw ([c0, c1, c2] : List Int32)))])
                refine gistore X hx #[.val (.int p0), .val (.int p1), .val (.int p2), .val (.int p3), .val (.int (3 : Int32)), .val (.int c0), .val (.int c1), .val (.int c2), .val (.ref b191), .val (.ref b205), .val (.ref b205), .val (.int (0 : Int32)), .val (.int (own_aw ([c0, c1, c2] : List Int32)))] 170 (hb hby at_168) rfl rfl ?_
                refine giload (v := (own_aw ([c0, c1, c2] : List Int32))) X hx 172 (hb hby at_170) rfl rfl ?_
                refine giload (v := (0 : Int32)) X hx 174 (hb hby at_172) rfl rfl ?_
                refine gicmpNo X hx 177 (hb hby at_174) rfl (teq (by simp [own_aw, k0_125, k1_139, k2_153])).2 ?_
                refine giconst X hx (1 : Int32) 178 (hb hby at_177) rfl rfl ?_
                refine ggoto X hx 182 (hb hby at_178) (by decide) (by decide) ?_
                exact gRetL X hx hlk hret rfl (Or.inl ⟨rfl, by simp, _, rfl⟩) (hb hby at_182) eT hS hk (by decide) (by decide) ⟨rfl, N, K0⟩
              · refine gifNo X hx 156 (hb hby at_153) rfl ((if0 _ _).trans (feq k2_153).1) ?_
                refine giconst X hx (1 : Int32) 157 (hb hby at_156) rfl rfl ?_
                refine ggoto X hx 161 (hb hby at_157) (by decide) (by decide) ?_
                refine gistore X hx #[.val (.int p0), .val (.int p1), .val (.int p2), .val (.int p3), .val (.int (3 : Int32)), .val (.int c0), .val (.int c1), .val (.int c2), .val (.ref b191), .val (.ref b205), .val (.ref b205), .val (.int (1 : Int32)), .unset] 163 (hb hby at_161) rfl rfl ?_
                refine gaload (v := (.ref b205)) X hx 165 (hb hby at_163) rfl rfl rfl ?_
                refine gstatic (y := (⟨"com/example/tagwire/tagwire/dtd/Names", "isWhitespace", "(Ljava/lang/CharSequence;)Z"⟩ : MethodName)) (argsL := [(.ref b205)]) (st := []) X hx hZ hown (own_w39 hw) (own_w40 hw) (own_w41 hw) (own_w42 hw) (by decide) (payP (W := 0) (rmIU3 l Z a0 hw (b205) (t_211) (kb_212) (G1) (G3) (c0) (c1) (c2) h209 n0 (Nat.le_trans Z0 sz_h) P0_Old A207 G215 G216 G217 (O2) (P5) (O4) (rG3) (SA) (SH) (SLo) (pp5) (pp10) (pp15) (⟨c0, List.mem_of_getElem? (i := 0) rfl, s0⟩)) hZ (own_w42 hw) (own_w41 hw) (by decide) (by decide)) eT (by rw [hml]; rfl) (lenOf own_pd17 rfl) rfl (Nat.le_of_eq rfl) 4 16 rfl rfl (by decide) (by decide) 168 (hb hby at_165) rfl ?_
                clear X eT; clear T; intro v T h242 L2 Lc X eT hL hQ243
                obtain ⟨rfl, Nq, hh⟩ := hQ243
                replace N : Fr n0 L2 := by rw [hL]; exact Fr.app N Nq
                clear Nq hL
                replace hh := hh.symm; subst hh
                show Go p e below _ T (mkF m 168 #[.val (.int p0), .val (.int p1), .val (.int p2), .val (.int p3), .val (.int (3 : Int32)), .val (.int c0), .val (.int c1), .val (.int c2), .val (.ref b191), .val (.ref b205), .val (.ref b205), .val (.int (1 : Int32)), .unset] [(.int (own_aw ([c0, c1, c2] : List Int32)))])
                refine gistore X hx #[.val (.int p0), .val (.int p1), .val (.int p2), .val (.int p3), .val (.int (3 : Int32)), .val (.int c0), .val (.int c1), .val (.int c2), .val (.ref b191), .val (.ref b205), .val (.ref b205), .val (.int (1 : Int32)), .val (.int (own_aw ([c0, c1, c2] : List Int32)))] 170 (hb hby at_168) rfl rfl ?_
                refine giload (v := (own_aw ([c0, c1, c2] : List Int32))) X hx 172 (hb hby at_170) rfl rfl ?_
                refine giload (v := (1 : Int32)) X hx 174 (hb hby at_172) rfl rfl ?_
                refine gicmpNo X hx 177 (hb hby at_174) rfl (teq (by simp [own_aw, k0_125, k1_139, k2_153])).2 ?_
                refine giconst X hx (1 : Int32) 178 (hb hby at_177) rfl rfl ?_
                refine ggoto X hx 182 (hb hby at_178) (by decide) (by decide) ?_
                exact gRetL X hx hlk hret rfl (Or.inl ⟨rfl, by simp, _, rfl⟩) (hb hby at_182) eT hS hk (by decide) (by decide) ⟨rfl, N, K0⟩
        · rcases Decidable.em ((255 : Int32) < c1) with s1 | s1
          · refine gspecial (y := (⟨"java/lang/String", "<init>", "([C)V"⟩ : MethodName)) (a := b205) (argsL := [(.ref b191)]) (st := [(.ref b205)]) X hx hZ hown rfl (own_w10 hw) (own_w11 hw) (own_w12 hw) (by decide) (payP (W := 1) (rmI1_3_1 l Z a0 hw (b205) (b191) (kc194) (.null) ((.int (0 : Int32))) (G1) (c0) (c1) (c2) h204 n0 (Nat.le_trans Z0 sz_h) ge_b205 P0_Old A207 F_value_b205 F_coder_b205 V203 (O2) (P5) (SA) (SH) (SLo) (pp5) (pp10) (pp15) (s0) (s1)) hZ (own_w12 hw) (own_w9 hw) (by decide) (by decide)) eT (by rw [hml]; rfl) (lenOf own_pd16 rfl) rfl (Nat.le_of_eq rfl) 4 16 rfl rfl (by decide) (by decide) 108 (hb hby at_105) rfl ?_
            clear X eT; clear T; intro v T h246 L2 Lc X eT hL hQ247
            obtain ⟨t_248, kb_249, rfl, Nq, K250, zz_t_248, G252, G253, G254⟩ := hQ247
            replace N : Fr n0 L2 := by rw [hL]; exact Fr.app N Nq
            clear Nq hL
            have ne_b191_t_248 : b191 ≠ t_248 := Nat.ne_of_lt (Nat.lt_of_lt_of_le V203.lt zz_t_248)
            have ne_t_248_b191 : t_248 ≠ b191 := Ne.symm ne_b191_t_248
            have ne_b205_t_248 : b205 ≠ t_248 := Nat.ne_of_lt (Nat.lt_of_lt_of_le A207.lt zz_t_248)
            have ne_t_248_b205 : t_248 ≠ b205 := Ne.symm ne_b205_t_248
            have sz_t_248 : h0.size ≤ t_248 := Nat.le_trans sz_h zz_t_248
            have ge_t_248 : n0 ≤ t_248 := Nat.le_trans Z0 sz_t_248
            have sfs := (sfS Sf_b205 sf0)
            replace P0_Old := P0_Old.keep K250 (allS ge_b205 all0)
            replace V203 := V203.keep K250 (ninS ne_b191_b205 nin0)
            replace A207 := A207.keep K250
            replace Sf_b205 := Safe.keep K250 sfs C.1 Sf_b205
            replace K0 := K0.trans K250 (allS (Or.inr sz_b205) all0)
            replace C := C.trans (CHr.keep K250 sfs C.1)
            replace hk := Nat.le_trans hk K250.1
            replace sz_h : h0.size ≤ h246.size := Nat.le_trans sz_h K250.1
            show Go p e below _ T (mkF m 108 #[.val (.int p0), .val (.int p1), .val (.int p2), .val (.int p3), .val (.int (3 : Int32)), .val (.int c0), .val (.int c1), .val (.int c2), .val (.ref b191), .unset, .unset, .unset, .unset] [(.ref b205)])
            refine gastore X hx #[.val (.int p0), .val (.int p1), .val (.int p2), .val (.int p3), .val (.int (3 : Int32)), .val (.int c0), .val (.int c1), .val (.int c2), .val (.ref b191), .val (.ref b205), .unset, .unset, .unset] 110 (hb hby at_108) rfl rfl rfl ?_
            refine gaload (v := (.ref b205)) X hx 112 (hb hby at_110) rfl rfl rfl ?_
            refine gastore X hx #[.val (.int p0), .val (.int p1), .val (.int p2), .val (.int p3), .val (.int (3 : Int32)), .val (.int c0), .val (.int c1), .val (.int c2), .val (.ref b191), .val (.ref b205), .val (.ref b205), .unset, .unset] 114 (hb hby at_112) rfl rfl rfl ?_
            refine giload (v := (3 : Int32)) X hx 116 (hb hby at_114) rfl rfl ?_
            refine giconst X hx (1 : Int32) 117 (hb hby at_116) rfl rfl ?_
            refine gicmpNo X hx 120 (hb hby at_117) rfl (by decide) ?_
            refine giload (v := c0) X hx 122 (hb hby at_120) rfl rfl ?_
            refine gstatic (y := (⟨"com/example/tagwire/tagwire/dtd/NamesIsWhitespacePinLaw", "ws", "(C)Z"⟩ : MethodName)) (argsL := [(.int c0)]) (st := []) X hx hZ hown (own_w36 hw) (own_w37 hw) (own_w2 hw) (own_w38 hw) (by decide) (payP (W := 0) (rmW2 l Z a0 hw (c0) h246 n0 (Nat.le_trans Z0 sz_h)) hZ (own_w38 hw) (own_w2 hw) (by decide) (by decide)) eT (by rw [hml]; rfl) (lenOf own_pd15 rfl) rfl (Nat.le_of_eq rfl) 4 16 rfl rfl (by decide) (by decide) 125 (hb hby at_122) rfl ?_
            clear X eT; clear T; intro v T h255 L2 Lc X eT hL hQ256
            obtain ⟨rfl, Nq, hh⟩ := hQ256
            replace N : Fr n0 L2 := by rw [hL]; exact Fr.app N Nq
            clear Nq hL
            replace hh := hh.symm; subst hh
            show Go p e below _ T (mkF m 125 #[.val (.int p0), .val (.int p1), .val (.int p2), .val (.int p3), .val (.int (3 : Int32)), .val (.int c0), .val (.int c1), .val (.int c2), .val (.ref b191), .val (.ref b205), .val (.ref b205), .unset, .unset] [(.int (own_ws c0))])
            rcases Decidable.em ((own_ws c0) = (0 : Int32)) with k0_125 | k0_125
            · refine gifYes X hx 160 (hb hby at_125) ((if0 _ _).trans (teq k0_125).1) (by decide) (by decide) ?_
              refine giconst X hx (0 : Int32) 161 (hb hby at_160) rfl rfl ?_
              refine gistore X hx #[.val (.int p0), .val (.int p1), .val (.int p2), .val (.int p3), .val (.int (3 : Int32)), .val (.int c0), .val (.int c1), .val (.int c2), .val (.ref b191), .val (.ref b205), .val (.ref b205), .val (.int (0 : Int32)), .unset] 163 (hb hby at_161) rfl rfl ?_
              refine gaload (v := (.ref b205)) X hx 165 (hb hby at_163) rfl rfl rfl ?_
              refine gstatic (y := (⟨"com/example/tagwire/tagwire/dtd/Names", "isWhitespace", "(Ljava/lang/CharSequence;)Z"⟩ : MethodName)) (argsL := [(.ref b205)]) (st := []) X hx hZ hown (own_w39 hw) (own_w40 hw) (own_w41 hw) (own_w42 hw) (by decide) (payP (W := 0) (rmIU3 l Z a0 hw (b205) (t_248) (kb_249) (G1) (G3) (c0) (c1) (c2) h246 n0 (Nat.le_trans Z0 sz_h) P0_Old A207 G252 G253 G254 (O2) (P5) (O4) (rG3) (SA) (SH) (SLo) (pp5) (pp10) (pp15) (⟨c1, List.mem_of_getElem? (i := 1) rfl, s1⟩)) hZ (own_w42 hw) (own_w41 hw) (by decide) (by decide)) eT (by rw [hml]; rfl) (lenOf own_pd17 rfl) rfl (Nat.le_of_eq rfl) 4 16 rfl rfl (by decide) (by decide) 168 (hb hby at_165) rfl ?_
              clear X eT; clear T; intro v T h259 L2 Lc X eT hL hQ260
              obtain ⟨rfl, Nq, hh⟩ := hQ260
              replace N : Fr n0 L2 := by rw [hL]; exact Fr.app N Nq
              clear Nq hL
              replace hh := hh.symm; subst hh
              show Go p e below _ T (mkF m 168 #[.val (.int p0), .val (.int p1), .val (.int p2), .val (.int p3), .val (.int (3 : Int32)), .val (.int c0), .val (.int c1), .val (.int c2), .val (.ref b191), .val (.ref b205), .val (.ref b205), .val (.int (0 : Int32)), .unset] [(.int (own_aw ([c0, c1, c2] : List Int32)))])
              refine gistore X hx #[.val (.int p0), .val (.int p1), .val (.int p2), .val (.int p3), .val (.int (3 : Int32)), .val (.int c0), .val (.int c1), .val (.int c2), .val (.ref b191), .val (.ref b205), .val (.ref b205), .val (.int (0 : Int32)), .val (.int (own_aw ([c0, c1, c2] : List Int32)))] 170 (hb hby at_168) rfl rfl ?_
              refine giload (v := (own_aw ([c0, c1, c2] : List Int32))) X hx 172 (hb hby at_170) rfl rfl ?_
              refine giload (v := (0 : Int32)) X hx 174 (hb hby at_172) rfl rfl ?_
              refine gicmpNo X hx 177 (hb hby at_174) rfl (teq (by simp [own_aw, k0_125])).2 ?_
              refine giconst X hx (1 : Int32) 178 (hb hby at_177) rfl rfl ?_
              refine ggoto X hx 182 (hb hby at_178) (by decide) (by decide) ?_
              exact gRetL X hx hlk hret rfl (Or.inl ⟨rfl, by simp, _, rfl⟩) (hb hby at_182) eT hS hk (by decide) (by decide) ⟨rfl, N, K0⟩
            · refine gifNo X hx 128 (hb hby at_125) rfl ((if0 _ _).trans (feq k0_125).1) ?_
              refine giload (v := (3 : Int32)) X hx 130 (hb hby at_128) rfl rfl ?_
              refine giconst X hx (2 : Int32) 131 (hb hby at_130) rfl rfl ?_
              refine gicmpNo X hx 134 (hb hby at_131) rfl (by decide) ?_
              refine giload (v := c1) X hx 136 (hb hby at_134) rfl rfl ?_
              refine gstatic (y := (⟨"com/example/tagwire/tagwire/dtd/NamesIsWhitespacePinLaw", "ws", "(C)Z"⟩ : MethodName)) (argsL := [(.int c1)]) (st := []) X hx hZ hown (own_w36 hw) (own_w37 hw) (own_w2 hw) (own_w38 hw) (by decide) (payP (W := 0) (rmW2 l Z a0 hw (c1) h246 n0 (Nat.le_trans Z0 sz_h)) hZ (own_w38 hw) (own_w2 hw) (by decide) (by decide)) eT (by rw [hml]; rfl) (lenOf own_pd15 rfl) rfl (Nat.le_of_eq rfl) 4 16 rfl rfl (by decide) (by decide) 139 (hb hby at_136) rfl ?_
              clear X eT; clear T; intro v T h263 L2 Lc X eT hL hQ264
              obtain ⟨rfl, Nq, hh⟩ := hQ264
              replace N : Fr n0 L2 := by rw [hL]; exact Fr.app N Nq
              clear Nq hL
              replace hh := hh.symm; subst hh
              show Go p e below _ T (mkF m 139 #[.val (.int p0), .val (.int p1), .val (.int p2), .val (.int p3), .val (.int (3 : Int32)), .val (.int c0), .val (.int c1), .val (.int c2), .val (.ref b191), .val (.ref b205), .val (.ref b205), .unset, .unset] [(.int (own_ws c1))])
              rcases Decidable.em ((own_ws c1) = (0 : Int32)) with k1_139 | k1_139
              · refine gifYes X hx 160 (hb hby at_139) ((if0 _ _).trans (teq k1_139).1) (by decide) (by decide) ?_
                refine giconst X hx (0 : Int32) 161 (hb hby at_160) rfl rfl ?_
                refine gistore X hx #[.val (.int p0), .val (.int p1), .val (.int p2), .val (.int p3), .val (.int (3 : Int32)), .val (.int c0), .val (.int c1), .val (.int c2), .val (.ref b191), .val (.ref b205), .val (.ref b205), .val (.int (0 : Int32)), .unset] 163 (hb hby at_161) rfl rfl ?_
                refine gaload (v := (.ref b205)) X hx 165 (hb hby at_163) rfl rfl rfl ?_
                refine gstatic (y := (⟨"com/example/tagwire/tagwire/dtd/Names", "isWhitespace", "(Ljava/lang/CharSequence;)Z"⟩ : MethodName)) (argsL := [(.ref b205)]) (st := []) X hx hZ hown (own_w39 hw) (own_w40 hw) (own_w41 hw) (own_w42 hw) (by decide) (payP (W := 0) (rmIU3 l Z a0 hw (b205) (t_248) (kb_249) (G1) (G3) (c0) (c1) (c2) h246 n0 (Nat.le_trans Z0 sz_h) P0_Old A207 G252 G253 G254 (O2) (P5) (O4) (rG3) (SA) (SH) (SLo) (pp5) (pp10) (pp15) (⟨c1, List.mem_of_getElem? (i := 1) rfl, s1⟩)) hZ (own_w42 hw) (own_w41 hw) (by decide) (by decide)) eT (by rw [hml]; rfl) (lenOf own_pd17 rfl) rfl (Nat.le_of_eq rfl) 4 16 rfl rfl (by decide) (by decide) 168 (hb hby at_165) rfl ?_
                clear X eT; clear T; intro v T h267 L2 Lc X eT hL hQ268
                obtain ⟨rfl, Nq, hh⟩ := hQ268
                replace N : Fr n0 L2 := by rw [hL]; exact Fr.app N Nq
                clear Nq hL
                replace hh := hh.symm; subst hh
                show Go p e below _ T (mkF m 168 #[.val (.int p0), .val (.int p1), .val (.int p2), .val (.int p3), .val (.int (3 : Int32)), .val (.int c0), .val (.int c1), .val (.int c2), .val (.ref b191), .val (.ref b205), .val (.ref b205), .val (.int (0 : Int32)), .unset] [(.int (own_aw ([c0, c1, c2] : List Int32)))])
                refine gistore X hx #[.val (.int p0), .val (.int p1), .val (.int p2), .val (.int p3), .val (.int (3 : Int32)), .val (.int c0), .val (.int c1), .val (.int c2), .val (.ref b191), .val (.ref b205), .val (.ref b205), .val (.int (0 : Int32)), .val (.int (own_aw ([c0, c1, c2] : List Int32)))] 170 (hb hby at_168) rfl rfl ?_
                refine giload (v := (own_aw ([c0, c1, c2] : List Int32))) X hx 172 (hb hby at_170) rfl rfl ?_
                refine giload (v := (0 : Int32)) X hx 174 (hb hby at_172) rfl rfl ?_
                refine gicmpNo X hx 177 (hb hby at_174) rfl (teq (by simp [own_aw, k0_125, k1_139])).2 ?_
                refine giconst X hx (1 : Int32) 178 (hb hby at_177) rfl rfl ?_
                refine ggoto X hx 182 (hb hby at_178) (by decide) (by decide) ?_
                exact gRetL X hx hlk hret rfl (Or.inl ⟨rfl, by simp, _, rfl⟩) (hb hby at_182) eT hS hk (by decide) (by decide) ⟨rfl, N, K0⟩
              · refine gifNo X hx 142 (hb hby at_139) rfl ((if0 _ _).trans (feq k1_139).1) ?_
                refine giload (v := (3 : Int32)) X hx 144 (hb hby at_142) rfl rfl ?_
                refine giconst X hx (3 : Int32) 145 (hb hby at_144) rfl rfl ?_
                refine gicmpNo X hx 148 (hb hby at_145) rfl (by decide) ?_
                refine giload (v := c2) X hx 150 (hb hby at_148) rfl rfl ?_
                refine gstatic (y := (⟨"com/example/tagwire/tagwire/dtd/NamesIsWhitespacePinLaw", "ws", "(C)Z"⟩ : MethodName)) (argsL := [(.int c2)]) (st := []) X hx hZ hown (own_w36 hw) (own_w37 hw) (own_w2 hw) (own_w38 hw) (by decide) (payP (W := 0) (rmW2 l Z a0 hw (c2) h246 n0 (Nat.le_trans Z0 sz_h)) hZ (own_w38 hw) (own_w2 hw) (by decide) (by decide)) eT (by rw [hml]; rfl) (lenOf own_pd15 rfl) rfl (Nat.le_of_eq rfl) 4 16 rfl rfl (by decide) (by decide) 153 (hb hby at_150) rfl ?_
                clear X eT; clear T; intro v T h271 L2 Lc X eT hL hQ272
                obtain ⟨rfl, Nq, hh⟩ := hQ272
                replace N : Fr n0 L2 := by rw [hL]; exact Fr.app N Nq
                clear Nq hL
                replace hh := hh.symm; subst hh
                show Go p e below _ T (mkF m 153 #[.val (.int p0), .val (.int p1), .val (.int p2), .val (.int p3), .val (.int (3 : Int32)), .val (.int c0), .val (.int c1), .val (.int c2), .val (.ref b191), .val (.ref b205), .val (.ref b205), .unset, .unset] [(.int (own_ws c2))])
                rcases Decidable.em ((own_ws c2) = (0 : Int32)) with k2_153 | k2_153
                · refine gifYes X hx 160 (hb hby at_153) ((if0 _ _).trans (teq k2_153).1) (by decide) (by decide) ?_
                  refine giconst X hx (0 : Int32) 161 (hb hby at_160) rfl rfl ?_
                  refine gistore X hx #[.val (.int p0), .val (.int p1), .val (.int p2), .val (.int p3), .val (.int (3 : Int32)), .val (.int c0), .val (.int c1), .val (.int c2), .val (.ref b191), .val (.ref b205), .val (.ref b205), .val (.int (0 : Int32)), .unset] 163 (hb hby at_161) rfl rfl ?_
                  refine gaload (v := (.ref b205)) X hx 165 (hb hby at_163) rfl rfl rfl ?_
                  refine gstatic (y := (⟨"com/example/tagwire/tagwire/dtd/Names", "isWhitespace", "(Ljava/lang/CharSequence;)Z"⟩ : MethodName)) (argsL := [(.ref b205)]) (st := []) X hx hZ hown (own_w39 hw) (own_w40 hw) (own_w41 hw) (own_w42 hw) (by decide) (payP (W := 0) (rmIU3 l Z a0 hw (b205) (t_248) (kb_249) (G1) (G3) (c0) (c1) (c2) h246 n0 (Nat.le_trans Z0 sz_h) P0_Old A207 G252 G253 G254 (O2) (P5) (O4) (rG3) (SA) (SH) (SLo) (pp5) (pp10) (pp15) (⟨c1, List.mem_of_getElem? (i := 1) rfl, s1⟩)) hZ (own_w42 hw) (own_w41 hw) (by decide) (by decide)) eT (by rw [hml]; rfl) (lenOf own_pd17 rfl) rfl (Nat.le_of_eq rfl) 4 16 rfl rfl (by decide) (by decide) 168 (hb hby at_165) rfl ?_
                  clear X eT; clear T; intro v T h275 L2 Lc X eT hL hQ276
                  obtain ⟨rfl, Nq, hh⟩ := hQ276
                  replace N : Fr n0 L2 := by rw [hL]; exact Fr.app N Nq
                  clear Nq hL
                  replace hh := hh.symm; subst hh
                  show Go p e below _ T (mkF m 168 #[.val (.int p0), .val (.int p1), .val (.int p2), .val (.int p3), .val (.int (3 : Int32)), .val (.int c0), .val (.int c1), .val (.int c2), .val (.ref b191), .val (.ref b205), .val (.ref b205), .val (.int (0 : Int32)), .unset] [(.int (own_aw ([c0, c1, c2] : List Int32)))])
                  refine gistore X hx #[.val (.int p0), .val (.int p1), .val (.int p2), .val (.int p3), .val (.int (3 : Int32)), .val (.int c0), .val (.int c1), .val (.int c2), .val (.ref b191), .val (.ref b205), .val (.ref b205), .val (.int (0 : Int32)), .val (.int (own_aw ([c0, c1, c2] : List Int32)))] 170 (hb hby at_168) rfl rfl ?_
                  refine giload (v := (own_aw ([c0, c1, c2] : List Int32))) X hx 172 (hb hby at_170) rfl rfl ?_
                  refine giload (v := (0 : Int32)) X hx 174 (hb hby at_172) rfl rfl ?_
                  refine gicmpNo X hx 177 (hb hby at_174) rfl (teq (by simp [own_aw, k0_125, k1_139, k2_153])).2 ?_
                  refine giconst X hx (1 : Int32) 178 (hb hby at_177) rfl rfl ?_
                  refine ggoto X hx 182 (hb hby at_178) (by decide) (by decide) ?_
                  exact gRetL X hx hlk hret rfl (Or.inl ⟨rfl, by simp, _, rfl⟩) (hb hby at_182) eT hS hk (by decide) (by decide) ⟨rfl, N, K0⟩
                · refine gifNo X hx 156 (hb hby at_153) rfl ((if0 _ _).trans (feq k2_153).1) ?_
                  refine giconst X hx (1 : Int32) 157 (hb hby at_156) rfl rfl ?_
                  refine ggoto X hx 161 (hb hby at_157) (by decide) (by decide) ?_
                  refine gistore X hx #[.val (.int p0), .val (.int p1), .val (.int p2), .val (.int p3), .val (.int (3 : Int32)), .val (.int c0), .val (.int c1), .val (.int c2), .val (.ref b191), .val (.ref b205), .val (.ref b205), .val (.int (1 : Int32)), .unset] 163 (hb hby at_161) rfl rfl ?_
                  refine gaload (v := (.ref b205)) X hx 165 (hb hby at_163) rfl rfl rfl ?_
                  refine gstatic (y := (⟨"com/example/tagwire/tagwire/dtd/Names", "isWhitespace", "(Ljava/lang/CharSequence;)Z"⟩ : MethodName)) (argsL := [(.ref b205)]) (st := []) X hx hZ hown (own_w39 hw) (own_w40 hw) (own_w41 hw) (own_w42 hw) (by decide) (payP (W := 0) (rmIU3 l Z a0 hw (b205) (t_248) (kb_249) (G1) (G3) (c0) (c1) (c2) h246 n0 (Nat.le_trans Z0 sz_h) P0_Old A207 G252 G253 G254 (O2) (P5) (O4) (rG3) (SA) (SH) (SLo) (pp5) (pp10) (pp15) (⟨c1, List.mem_of_getElem? (i := 1) rfl, s1⟩)) hZ (own_w42 hw) (own_w41 hw) (by decide) (by decide)) eT (by rw [hml]; rfl) (lenOf own_pd17 rfl) rfl (Nat.le_of_eq rfl) 4 16 rfl rfl (by decide) (by decide) 168 (hb hby at_165) rfl ?_
                  clear X eT; clear T; intro v T h279 L2 Lc X eT hL hQ280
                  obtain ⟨rfl, Nq, hh⟩ := hQ280
                  replace N : Fr n0 L2 := by rw [hL]; exact Fr.app N Nq
                  clear Nq hL
                  replace hh := hh.symm; subst hh
                  show Go p e below _ T (mkF m 168 #[.val (.int p0), .val (.int p1), .val (.int p2), .val (.int p3), .val (.int (3 : Int32)), .val (.int c0), .val (.int c1), .val (.int c2), .val (.ref b191), .val (.ref b205), .val (.ref b205), .val (.int (1 : Int32)), .unset] [(.int (own_aw ([c0, c1, c2] : List Int32)))])
                  refine gistore X hx #[.val (.int p0), .val (.int p1), .val (.int p2), .val (.int p3), .val (.int (3 : Int32)), .val (.int c0), .val (.int c1), .val (.int c2), .val (.ref b191), .val (.ref b205), .val (.ref b205), .val (.int (1 : Int32)), .val (.int (own_aw ([c0, c1, c2] : List Int32)))] 170 (hb hby at_168) rfl rfl ?_
                  refine giload (v := (own_aw ([c0, c1, c2] : List Int32))) X hx 172 (hb hby at_170) rfl rfl ?_
                  refine giload (v := (1 : Int32)) X hx 174 (hb hby at_172) rfl rfl ?_
                  refine gicmpNo X hx 177 (hb hby at_174) rfl (teq (by simp [own_aw, k0_125, k1_139, k2_153])).2 ?_
                  refine giconst X hx (1 : Int32) 178 (hb hby at_177) rfl rfl ?_
                  refine ggoto X hx 182 (hb hby at_178) (by decide) (by decide) ?_
                  exact gRetL X hx hlk hret rfl (Or.inl ⟨rfl, by simp, _, rfl⟩) (hb hby at_182) eT hS hk (by decide) (by decide) ⟨rfl, N, K0⟩
          · rcases Decidable.em ((255 : Int32) < c2) with s2 | s2
            · refine gspecial (y := (⟨"java/lang/String", "<init>", "([C)V"⟩ : MethodName)) (a := b205) (argsL := [(.ref b191)]) (st := [(.ref b205)]) X hx hZ hown rfl (own_w10 hw) (own_w11 hw) (own_w12 hw) (by decide) (payP (W := 1) (rmI1_3_2 l Z a0 hw (b205) (b191) (kc194) (.null) ((.int (0 : Int32))) (G1) (c0) (c1) (c2) h204 n0 (Nat.le_trans Z0 sz_h) ge_b205 P0_Old A207 F_value_b205 F_coder_b205 V203 (O2) (P5) (SA) (SH) (SLo) (pp5) (pp10) (pp15) (s0) (s1) (s2)) hZ (own_w12 hw) (own_w9 hw) (by decide) (by decide)) eT (by rw [hml]; rfl) (lenOf own_pd16 rfl) rfl (Nat.le_of_eq rfl) 4 16 rfl rfl (by decide) (by decide) 108 (hb hby at_105) rfl ?_
              clear X eT; clear T; intro v T h283 L2 Lc X eT hL hQ284
              obtain ⟨t_285, kb_286, rfl, Nq, K287, zz_t_285, G289, G290, G291⟩ := hQ284
              replace N : Fr n0 L2 := by rw [hL]; exact Fr.app N Nq
              clear Nq hL
              have ne_b191_t_285 : b191 ≠ t_285 := Nat.ne_of_lt (Nat.lt_of_lt_of_le V203.lt zz_t_285)
              have ne_t_285_b191 : t_285 ≠ b191 := Ne.symm ne_b191_t_285
              have ne_b205_t_285 : b205 ≠ t_285 := Nat.ne_of_lt (Nat.lt_of_lt_of_le A207.lt zz_t_285)
              have ne_t_285_b205 : t_285 ≠ b205 := Ne.symm ne_b205_t_285
              have sz_t_285 : h0.size ≤ t_285 := Nat.le_trans sz_h zz_t_285
              have ge_t_285 : n0 ≤ t_285 := Nat.le_trans Z0 sz_t_285
              have sfs := (sfS Sf_b205 sf0)
              replace P0_Old := P0_Old.keep K287 (allS ge_b205 all0)
              replace V203 := V203.keep K287 (ninS ne_b191_b205 nin0)
              replace A207 := A207.keep K287
              replace Sf_b205 := Safe.keep K287 sfs C.1 Sf_b205
              replace K0 := K0.trans K287 (allS (Or.inr sz_b205) all0)
              replace C := C.trans (CHr.keep K287 sfs C.1)
              replace hk := Nat.le_trans hk K287.1
              replace sz_h : h0.size ≤ h283.size := Nat.le_trans sz_h K287.1
              show Go p e below _ T (mkF m 108 #[.val (.int p0), .val (.int p1), .val (.int p2), .val (.int p3), .val (.int (3 : Int32)), .val (.int c0), .val (.int c1), .val (.int c2), .val (.ref b191), .unset, .unset, .unset, .unset] [(.ref b205)])
              refine gastore X hx #[.val (.int p0), .val (.int p1), .val (.int p2), .val (.int p3), .val (.int (3 : Int32)), .val (.int c0), .val (.int c1), .val (.int c2), .val (.ref b191), .val (.ref b205), .unset, .unset, .unset] 110 (hb hby at_108) rfl rfl rfl ?_
              refine gaload (v := (.ref b205)) X hx 112 (hb hby at_110) rfl rfl rfl ?_
              refine gastore X hx #[.val (.int p0), .val (.int p1), .val (.int p2), .val (.int p3), .val (.int (3 : Int32)), .val (.int c0), .val (.int c1), .val (.int c2), .val (.ref b191), .val (.ref b205), .val (.ref b205), .unset, .unset] 114 (hb hby at_112) rfl rfl rfl ?_
              refine giload (v := (3 : Int32)) X hx 116 (hb hby at_114) rfl rfl ?_
              refine giconst X hx (1 : Int32) 117 (hb hby at_116) rfl rfl ?_
              refine gicmpNo X hx 120 (hb hby at_117) rfl (by decide) ?_
              refine giload (v := c0) X hx 122 (hb hby at_120) rfl rfl ?_
              refine gstatic (y := (⟨"com/example/tagwire/tagwire/dtd/NamesIsWhitespacePinLaw", "ws", "(C)Z"⟩ : MethodName)) (argsL := [(.int c0)]) (st := []) X hx hZ hown (own_w36 hw) (own_w37 hw) (own_w2 hw) (own_w38 hw) (by decide) (payP (W := 0) (rmW2 l Z a0 hw (c0) h283 n0 (Nat.le_trans Z0 sz_h)) hZ (own_w38 hw) (own_w2 hw) (by decide) (by decide)) eT (by rw [hml]; rfl) (lenOf own_pd15 rfl) rfl (Nat.le_of_eq rfl) 4 16 rfl rfl (by decide) (by decide) 125 (hb hby at_122) rfl ?_
              clear X eT; clear T; intro v T h292 L2 Lc X eT hL hQ293
              obtain ⟨rfl, Nq, hh⟩ := hQ293
              replace N : Fr n0 L2 := by rw [hL]; exact Fr.app N Nq
              clear Nq hL
              replace hh := hh.symm; subst hh
              show Go p e below _ T (mkF m 125 #[.val (.int p0), .val (.int p1), .val (.int p2), .val (.int p3), .val (.int (3 : Int32)), .val (.int c0), .val (.int c1), .val (.int c2), .val (.ref b191), .val (.ref b205), .val (.ref b205), .unset, .unset] [(.int (own_ws c0))])
              rcases Decidable.em ((own_ws c0) = (0 : Int32)) with k0_125 | k0_125
              · refine gifYes X hx 160 (hb hby at_125) ((if0 _ _).trans (teq k0_125).1) (by decide) (by decide) ?_
                refine giconst X hx (0 : Int32) 161 (hb hby at_160) rfl rfl ?_
                refine gistore X hx #[.val (.int p0), .val (.int p1), .val (.int p2), .val (.int p3), .val (.int (3 : Int32)), .val (.int c0), .val (.int c1), .val (.int c2), .val (.ref b191), .val (.ref b205), .val (.ref b205), .val (.int (0 : Int32)), .unset] 163 (hb hby at_161) rfl rfl ?_
                refine gaload (v := (.ref b205)) X hx 165 (hb hby at_163) rfl rfl rfl ?_
                refine gstatic (y := (⟨"com/example/tagwire/tagwire/dtd/Names", "isWhitespace", "(Ljava/lang/CharSequence;)Z"⟩ : MethodName)) (argsL := [(.ref b205)]) (st := []) X hx hZ hown (own_w39 hw) (own_w40 hw) (own_w41 hw) (own_w42 hw) (by decide) (payP (W := 0) (rmIU3 l Z a0 hw (b205) (t_285) (kb_286) (G1) (G3) (c0) (c1) (c2) h283 n0 (Nat.le_trans Z0 sz_h) P0_Old A207 G289 G290 G291 (O2) (P5) (O4) (rG3) (SA) (SH) (SLo) (pp5) (pp10) (pp15) (⟨c2, List.mem_of_getElem? (i := 2) rfl, s2⟩)) hZ (own_w42 hw) (own_w41 hw) (by decide) (by decide)) eT (by rw [hml]; rfl) (lenOf own_pd17 rfl) rfl (Nat.le_of_eq rfl) 4 16 rfl rfl (by decide) (by decide) 168 (hb hby at_165) rfl ?_
                clear X eT; clear T; intro v T h296 L2 Lc X eT hL hQ297
                obtain ⟨rfl, Nq, hh⟩ := hQ297
                replace N : Fr n0 L2 := by rw [hL]; exact Fr.app N Nq
                clear Nq hL
                replace hh := hh.symm; subst hh
                show Go p e below _ T (mkF m 168 #[.val (.int p0), .val (.int p1), .val (.int p2), .val (.int p3), .val (.int (3 : Int32)), .val (.int c0), .val (.int c1), .val (.int c2), .val (.ref b191), .val (.ref b205), .val (.ref b205), .val (.int (0 : Int32)), .unset] [(.int (own_aw ([c0, c1, c2] : List Int32)))])
                refine gistore X hx #[.val (.int p0), .val (.int p1), .val (.int p2), .val (.int p3), .val (.int (3 : Int32)), .val (.int c0), .val (.int c1), .val (.int c2), .val (.ref b191), .val (.ref b205), .val (.ref b205), .val (.int (0 : Int32)), .val (.int (own_aw ([c0, c1, c2] : List Int32)))] 170 (hb hby at_168) rfl rfl ?_
                refine giload (v := (own_aw ([c0, c1, c2] : List Int32))) X hx 172 (hb hby at_170) rfl rfl ?_
                refine giload (v := (0 : Int32)) X hx 174 (hb hby at_172) rfl rfl ?_
                refine gicmpNo X hx 177 (hb hby at_174) rfl (teq (by simp [own_aw, k0_125])).2 ?_
                refine giconst X hx (1 : Int32) 178 (hb hby at_177) rfl rfl ?_
                refine ggoto X hx 182 (hb hby at_178) (by decide) (by decide) ?_
                exact gRetL X hx hlk hret rfl (Or.inl ⟨rfl, by simp, _, rfl⟩) (hb hby at_182) eT hS hk (by decide) (by decide) ⟨rfl, N, K0⟩
              · refine gifNo X hx 128 (hb hby at_125) rfl ((if0 _ _).trans (feq k0_125).1) ?_
                refine giload (v := (3 : Int32)) X hx 130 (hb hby at_128) rfl rfl ?_
                refine giconst X hx (2 : Int32) 131 (hb hby at_130) rfl rfl ?_
                refine gicmpNo X hx 134 (hb hby at_131) rfl (by decide) ?_
                refine giload (v := c1) X hx 136 (hb hby at_134) rfl rfl ?_
                refine gstatic (y := (⟨"com/example/tagwire/tagwire/dtd/NamesIsWhitespacePinLaw", "ws", "(C)Z"⟩ : MethodName)) (argsL := [(.int c1)]) (st := []) X hx hZ hown (own_w36 hw) (own_w37 hw) (own_w2 hw) (own_w38 hw) (by decide) (payP (W := 0) (rmW2 l Z a0 hw (c1) h283 n0 (Nat.le_trans Z0 sz_h)) hZ (own_w38 hw) (own_w2 hw) (by decide) (by decide)) eT (by rw [hml]; rfl) (lenOf own_pd15 rfl) rfl (Nat.le_of_eq rfl) 4 16 rfl rfl (by decide) (by decide) 139 (hb hby at_136) rfl ?_
                clear X eT; clear T; intro v T h300 L2 Lc X eT hL hQ301
                obtain ⟨rfl, Nq, hh⟩ := hQ301
                replace N : Fr n0 L2 := by rw [hL]; exact Fr.app N Nq
                clear Nq hL
                replace hh := hh.symm; subst hh
                show Go p e below _ T (mkF m 139 #[.val (.int p0), .val (.int p1), .val (.int p2), .val (.int p3), .val (.int (3 : Int32)), .val (.int c0), .val (.int c1), .val (.int c2), .val (.ref b191), .val (.ref b205), .val (.ref b205), .unset, .unset] [(.int (own_ws c1))])
                rcases Decidable.em ((own_ws c1) = (0 : Int32)) with k1_139 | k1_139
                · refine gifYes X hx 160 (hb hby at_139) ((if0 _ _).trans (teq k1_139).1) (by decide) (by decide) ?_
                  refine giconst X hx (0 : Int32) 161 (hb hby at_160) rfl rfl ?_
                  refine gistore X hx #[.val (.int p0), .val (.int p1), .val (.int p2), .val (.int p3), .val (.int (3 : Int32)), .val (.int c0), .val (.int c1), .val (.int c2), .val (.ref b191), .val (.ref b205), .val (.ref b205), .val (.int (0 : Int32)), .unset] 163 (hb hby at_161) rfl rfl ?_
                  refine gaload (v := (.ref b205)) X hx 165 (hb hby at_163) rfl rfl rfl ?_
                  refine gstatic (y := (⟨"com/example/tagwire/tagwire/dtd/Names", "isWhitespace", "(Ljava/lang/CharSequence;)Z"⟩ : MethodName)) (argsL := [(.ref b205)]) (st := []) X hx hZ hown (own_w39 hw) (own_w40 hw) (own_w41 hw) (own_w42 hw) (by decide) (payP (W := 0) (rmIU3 l Z a0 hw (b205) (t_285) (kb_286) (G1) (G3) (c0) (c1) (c2) h283 n0 (Nat.le_trans Z0 sz_h) P0_Old A207 G289 G290 G291 (O2) (P5) (O4) (rG3) (SA) (SH) (SLo) (pp5) (pp10) (pp15) (⟨c2, List.mem_of_getElem? (i := 2) rfl, s2⟩)) hZ (own_w42 hw) (own_w41 hw) (by decide) (by decide)) eT (by rw [hml]; rfl) (lenOf own_pd17 rfl) rfl (Nat.le_of_eq rfl) 4 16 rfl rfl (by decide) (by decide) 168 (hb hby at_165) rfl ?_
                  clear X eT; clear T; intro v T h304 L2 Lc X eT hL hQ305
                  obtain ⟨rfl, Nq, hh⟩ := hQ305
                  replace N : Fr n0 L2 := by rw [hL]; exact Fr.app N Nq
                  clear Nq hL
                  replace hh := hh.symm; subst hh
                  show Go p e below _ T (mkF m 168 #[.val (.int p0), .val (.int p1), .val (.int p2), .val (.int p3), .val (.int (3 : Int32)), .val (.int c0), .val (.int c1), .val (.int c2), .val (.ref b191), .val (.ref b205), .val (.ref b205), .val (.int (0 : Int32)), .unset] [(.int (own_aw ([c0, c1, c2] : List Int32)))])
                  refine gistore X hx #[.val (.int p0), .val (.int p1), .val (.int p2), .val (.int p3), .val (.int (3 : Int32)), .val (.int c0), .val (.int c1), .val (.int c2), .val (.ref b191), .val (.ref b205), .val (.ref b205), .val (.int (0 : Int32)), .val (.int (own_aw ([c0, c1, c2] : List Int32)))] 170 (hb hby at_168) rfl rfl ?_
                  refine giload (v := (own_aw ([c0, c1, c2] : List Int32))) X hx 172 (hb hby at_170) rfl rfl ?_
                  refine giload (v := (0 : Int32)) X hx 174 (hb hby at_172) rfl rfl ?_
                  refine gicmpNo X hx 177 (hb hby at_174) rfl (teq (by simp [own_aw, k0_125, k1_139])).2 ?_
                  refine giconst X hx (1 : Int32) 178 (hb hby at_177) rfl rfl ?_
                  refine ggoto X hx 182 (hb hby at_178) (by decide) (by decide) ?_
                  exact gRetL X hx hlk hret rfl (Or.inl ⟨rfl, by simp, _, rfl⟩) (hb hby at_182) eT hS hk (by decide) (by decide) ⟨rfl, N, K0⟩
                · refine gifNo X hx 142 (hb hby at_139) rfl ((if0 _ _).trans (feq k1_139).1) ?_
                  refine giload (v := (3 : Int32)) X hx 144 (hb hby at_142) rfl rfl ?_
                  refine giconst X hx (3 : Int32) 145 (hb hby at_144) rfl rfl ?_
                  refine gicmpNo X hx 148 (hb hby at_145) rfl (by decide) ?_
                  refine giload (v := c2) X hx 150 (hb hby at_148) rfl rfl ?_
                  refine gstatic (y := (⟨"com/example/tagwire/tagwire/dtd/NamesIsWhitespacePinLaw", "ws", "(C)Z"⟩ : MethodName)) (argsL := [(.int c2)]) (st := []) X hx hZ hown (own_w36 hw) (own_w37 hw) (own_w2 hw) (own_w38 hw) (by decide) (payP (W := 0) (rmW2 l Z a0 hw (c2) h283 n0 (Nat.le_trans Z0 sz_h)) hZ (own_w38 hw) (own_w2 hw) (by decide) (by decide)) eT (by rw [hml]; rfl) (lenOf own_pd15 rfl) rfl (Nat.le_of_eq rfl) 4 16 rfl rfl (by decide) (by decide) 153 (hb hby at_150) rfl ?_
                  clear X eT; clear T; intro v T h308 L2 Lc X eT hL hQ309
                  obtain ⟨rfl, Nq, hh⟩ := hQ309
                  replace N : Fr n0 L2 := by rw [hL]; exact Fr.app N Nq
                  clear Nq hL
                  replace hh := hh.symm; subst hh
                  show Go p e below _ T (mkF m 153 #[.val (.int p0), .val (.int p1), .val (.int p2), .val (.int p3), .val (.int (3 : Int32)), .val (.int c0), .val (.int c1), .val (.int c2), .val (.ref b191), .val (.ref b205), .val (.ref b205), .unset, .unset] [(.int (own_ws c2))])
                  rcases Decidable.em ((own_ws c2) = (0 : Int32)) with k2_153 | k2_153
                  · refine gifYes X hx 160 (hb hby at_153) ((if0 _ _).trans (teq k2_153).1) (by decide) (by decide) ?_
                    refine giconst X hx (0 : Int32) 161 (hb hby at_160) rfl rfl ?_
                    refine gistore X hx #[.val (.int p0), .val (.int p1), .val (.int p2), .val (.int p3), .val (.int (3 : Int32)), .val (.int c0), .val (.int c1), .val (.int c2), .val (.ref b191), .val (.ref b205), .val (.ref b205), .val (.int (0 : Int32)), .unset] 163 (hb hby at_161) rfl rfl ?_
                    refine gaload (v := (.ref b205)) X hx 165 (hb hby at_163) rfl rfl rfl ?_
                    refine gstatic (y := (⟨"com/example/tagwire/tagwire/dtd/Names", "isWhitespace", "(Ljava/lang/CharSequence;)Z"⟩ : MethodName)) (argsL := [(.ref b205)]) (st := []) X hx hZ hown (own_w39 hw) (own_w40 hw) (own_w41 hw) (own_w42 hw) (by decide) (payP (W := 0) (rmIU3 l Z a0 hw (b205) (t_285) (kb_286) (G1) (G3) (c0) (c1) (c2) h283 n0 (Nat.le_trans Z0 sz_h) P0_Old A207 G289 G290 G291 (O2) (P5) (O4) (rG3) (SA) (SH) (SLo) (pp5) (pp10) (pp15) (⟨c2, List.mem_of_getElem? (i := 2) rfl, s2⟩)) hZ (own_w42 hw) (own_w41 hw) (by decide) (by decide)) eT (by rw [hml]; rfl) (lenOf own_pd17 rfl) rfl (Nat.le_of_eq rfl) 4 16 rfl rfl (by decide) (by decide) 168 (hb hby at_165) rfl ?_
                    clear X eT; clear T; intro v T h312 L2 Lc X eT hL hQ313
                    obtain ⟨rfl, Nq, hh⟩ := hQ313
                    replace N : Fr n0 L2 := by rw [hL]; exact Fr.app N Nq
                    clear Nq hL
                    replace hh := hh.symm; subst hh
                    show Go p e below _ T (mkF m 168 #[.val (.int p0), .val (.int p1), .val (.int p2), .val (.int p3), .val (.int (3 : Int32)), .val (.int c0), .val (.int c1), .val (.int c2), .val (.ref b191), .val (.ref b205), .val (.ref b205), .val (.int (0 : Int32)), .unset] [(.int (own_aw ([c0, c1, c2] : List Int32)))])
                    refine gistore X hx #[.val (.int p0), .val (.int p1), .val (.int p2), .val (.int p3), .val (.int (3 : Int32)), .val (.int c0), .val (.int c1), .val (.int c2), .val (.ref b191), .val (.ref b205), .val (.ref b205), .val (.int (0 : Int32)), .val (.int (own_aw ([c0, c1, c2] : List Int32)))] 170 (hb hby at_168) rfl rfl ?_
                    refine giload (v := (own_aw ([c0, c1, c2] : List Int32))) X hx 172 (hb hby at_170) rfl rfl ?_
                    refine giload (v := (0 : Int32)) X hx 174 (hb hby at_172) rfl rfl ?_
                    refine gicmpNo X hx 177 (hb hby at_174) rfl (teq (by simp [own_aw, k0_125, k1_139, k2_153])).2 ?_
                    refine giconst X hx (1 : Int32) 178 (hb hby at_177) rfl rfl ?_
                    refine ggoto X hx 182 (hb hby at_178) (by decide) (by decide) ?_
                    exact gRetL X hx hlk hret rfl (Or.inl ⟨rfl, by simp, _, rfl⟩) (hb hby at_182) eT hS hk (by decide) (by decide) ⟨rfl, N, K0⟩
                  · refine gifNo X hx 156 (hb hby at_153) rfl ((if0 _ _).trans (feq k2_153).1) ?_
                    refine giconst X hx (1 : Int32) 157 (hb hby at_156) rfl rfl ?_
                    refine ggoto X hx 161 (hb hby at_157) (by decide) (by decide) ?_
                    refine gistore X hx #[.val (.int p0), .val (.int p1), .val (.int p2), .val (.int p3), .val (.int (3 : Int32)), .val (.int c0), .val (.int c1), .val (.int c2), .val (.ref b191), .val (.ref b205), .val (.ref b205), .val (.int (1 : Int32)), .unset] 163 (hb hby at_161) rfl rfl ?_
                    refine gaload (v := (.ref b205)) X hx 165 (hb hby at_163) rfl rfl rfl ?_
                    refine gstatic (y := (⟨"com/example/tagwire/tagwire/dtd/Names", "isWhitespace", "(Ljava/lang/CharSequence;)Z"⟩ : MethodName)) (argsL := [(.ref b205)]) (st := []) X hx hZ hown (own_w39 hw) (own_w40 hw) (own_w41 hw) (own_w42 hw) (by decide) (payP (W := 0) (rmIU3 l Z a0 hw (b205) (t_285) (kb_286) (G1) (G3) (c0) (c1) (c2) h283 n0 (Nat.le_trans Z0 sz_h) P0_Old A207 G289 G290 G291 (O2) (P5) (O4) (rG3) (SA) (SH) (SLo) (pp5) (pp10) (pp15) (⟨c2, List.mem_of_getElem? (i := 2) rfl, s2⟩)) hZ (own_w42 hw) (own_w41 hw) (by decide) (by decide)) eT (by rw [hml]; rfl) (lenOf own_pd17 rfl) rfl (Nat.le_of_eq rfl) 4 16 rfl rfl (by decide) (by decide) 168 (hb hby at_165) rfl ?_
                    clear X eT; clear T; intro v T h316 L2 Lc X eT hL hQ317
                    obtain ⟨rfl, Nq, hh⟩ := hQ317
                    replace N : Fr n0 L2 := by rw [hL]; exact Fr.app N Nq
                    clear Nq hL
                    replace hh := hh.symm; subst hh
                    show Go p e below _ T (mkF m 168 #[.val (.int p0), .val (.int p1), .val (.int p2), .val (.int p3), .val (.int (3 : Int32)), .val (.int c0), .val (.int c1), .val (.int c2), .val (.ref b191), .val (.ref b205), .val (.ref b205), .val (.int (1 : Int32)), .unset] [(.int (own_aw ([c0, c1, c2] : List Int32)))])
                    refine gistore X hx #[.val (.int p0), .val (.int p1), .val (.int p2), .val (.int p3), .val (.int (3 : Int32)), .val (.int c0), .val (.int c1), .val (.int c2), .val (.ref b191), .val (.ref b205), .val (.ref b205), .val (.int (1 : Int32)), .val (.int (own_aw ([c0, c1, c2] : List Int32)))] 170 (hb hby at_168) rfl rfl ?_
                    refine giload (v := (own_aw ([c0, c1, c2] : List Int32))) X hx 172 (hb hby at_170) rfl rfl ?_
                    refine giload (v := (1 : Int32)) X hx 174 (hb hby at_172) rfl rfl ?_
                    refine gicmpNo X hx 177 (hb hby at_174) rfl (teq (by simp [own_aw, k0_125, k1_139, k2_153])).2 ?_
                    refine giconst X hx (1 : Int32) 178 (hb hby at_177) rfl rfl ?_
                    refine ggoto X hx 182 (hb hby at_178) (by decide) (by decide) ?_
                    exact gRetL X hx hlk hret rfl (Or.inl ⟨rfl, by simp, _, rfl⟩) (hb hby at_182) eT hS hk (by decide) (by decide) ⟨rfl, N, K0⟩
            · refine gspecial (y := (⟨"java/lang/String", "<init>", "([C)V"⟩ : MethodName)) (a := b205) (argsL := [(.ref b191)]) (st := [(.ref b205)]) X hx hZ hown rfl (own_w10 hw) (own_w11 hw) (own_w12 hw) (by decide) (payNew (W := 1) (cs := ([c0, c1, c2] : List Int32)) (n := 3) (n0 := n0) hZ hw ge_b205 (Nat.le_trans Z0 sz_h) A207 F_value_b205 F_coder_b205 V203 rfl (O2.ext P0_Old.2) P5 rfl rfl (by decide) (by decide) (own_cS ⟨pp5.1, s0⟩ (own_cS ⟨pp10.1, s1⟩ (own_cS ⟨pp15.1, s2⟩ own_c0))) (by decide) (by decide)) eT (by rw [hml]; rfl) (lenOf own_pd16 rfl) rfl (Nat.le_of_eq rfl) 3 10 rfl rfl (by decide) (by decide) 108 (hb hby at_105) rfl ?_
              clear X eT; clear T; intro v T h323 L2 Lc X eT hL hQ324
              obtain ⟨rfl, Nq, K320, t321, zz_t321, Str322⟩ := hQ324
              replace N : Fr n0 L2 := by rw [hL]; exact Fr.app N Nq
              clear Nq hL
              have ne_b191_t321 : b191 ≠ t321 := Nat.ne_of_lt (Nat.lt_of_lt_of_le V203.lt zz_t321)
              have ne_t321_b191 : t321 ≠ b191 := Ne.symm ne_b191_t321
              have ne_b205_t321 : b205 ≠ t321 := Nat.ne_of_lt (Nat.lt_of_lt_of_le A207.lt zz_t321)
              have ne_t321_b205 : t321 ≠ b205 := Ne.symm ne_b205_t321
              have sz_t321 : h0.size ≤ t321 := Nat.le_trans sz_h zz_t321
              have ge_t321 : n0 ≤ t321 := Nat.le_trans Z0 sz_t321
              have sfs := (sfS Sf_b205 sf0)
              replace P0_Old := P0_Old.keep K320 (allS ge_b205 all0)
              replace V203 := V203.keep K320 (ninS ne_b191_b205 nin0)
              replace Sf_b205 := Safe.keep K320 sfs C.1 Sf_b205
              replace K0 := K0.trans K320 (allS (Or.inr sz_b205) all0)
              replace C := C.trans (CHr.keep K320 sfs C.1)
              replace hk := Nat.le_trans hk K320.1
              replace sz_h : h0.size ≤ h323.size := Nat.le_trans sz_h K320.1
              show Go p e below _ T (mkF m 108 #[.val (.int p0), .val (.int p1), .val (.int p2), .val (.int p3), .val (.int (3 : Int32)), .val (.int c0), .val (.int c1), .val (.int c2), .val (.ref b191), .unset, .unset, .unset, .unset] [(.ref b205)])
              refine gastore X hx #[.val (.int p0), .val (.int p1), .val (.int p2), .val (.int p3), .val (.int (3 : Int32)), .val (.int c0), .val (.int c1), .val (.int c2), .val (.ref b191), .val (.ref b205), .unset, .unset, .unset] 110 (hb hby at_108) rfl rfl rfl ?_
              refine gaload (v := (.ref b205)) X hx 112 (hb hby at_110) rfl rfl rfl ?_
              refine gastore X hx #[.val (.int p0), .val (.int p1), .val (.int p2), .val (.int p3), .val (.int (3 : Int32)), .val (.int c0), .val (.int c1), .val (.int c2), .val (.ref b191), .val (.ref b205), .val (.ref b205), .unset, .unset] 114 (hb hby at_112) rfl rfl rfl ?_
              refine giload (v := (3 : Int32)) X hx 116 (hb hby at_114) rfl rfl ?_
              refine giconst X hx (1 : Int32) 117 (hb hby at_116) rfl rfl ?_
              refine gicmpNo X hx 120 (hb hby at_117) rfl (by decide) ?_
              refine giload (v := c0) X hx 122 (hb hby at_120) rfl rfl ?_
              refine gstatic (y := (⟨"com/example/tagwire/tagwire/dtd/NamesIsWhitespacePinLaw", "ws", "(C)Z"⟩ : MethodName)) (argsL := [(.int c0)]) (st := []) X hx hZ hown (own_w36 hw) (own_w37 hw) (own_w2 hw) (own_w38 hw) (by decide) (payP (W := 0) (rmW2 l Z a0 hw (c0) h323 n0 (Nat.le_trans Z0 sz_h)) hZ (own_w38 hw) (own_w2 hw) (by decide) (by decide)) eT (by rw [hml]; rfl) (lenOf own_pd15 rfl) rfl (Nat.le_of_eq rfl) 3 10 rfl rfl (by decide) (by decide) 125 (hb hby at_122) rfl ?_
              clear X eT; clear T; intro v T h325 L2 Lc X eT hL hQ326
              obtain ⟨rfl, Nq, hh⟩ := hQ326
              replace N : Fr n0 L2 := by rw [hL]; exact Fr.app N Nq
              clear Nq hL
              replace hh := hh.symm; subst hh
              show Go p e below _ T (mkF m 125 #[.val (.int p0), .val (.int p1), .val (.int p2), .val (.int p3), .val (.int (3 : Int32)), .val (.int c0), .val (.int c1), .val (.int c2), .val (.ref b191), .val (.ref b205), .val (.ref b205), .unset, .unset] [(.int (own_ws c0))])
              rcases Decidable.em ((own_ws c0) = (0 : Int32)) with k0_125 | k0_125
              · refine gifYes X hx 160 (hb hby at_125) ((if0 _ _).trans (teq k0_125).1) (by decide) (by decide) ?_
                refine giconst X hx (0 : Int32) 161 (hb hby at_160) rfl rfl ?_
                refine gistore X hx #[.val (.int p0), .val (.int p1), .val (.int p2), .val (.int p3), .val (.int (3 : Int32)), .val (.int c0), .val (.int c1), .val (.int c2), .val (.ref b191), .val (.ref b205), .val (.ref b205), .val (.int (0 : Int32)), .unset] 163 (hb hby at_161) rfl rfl ?_
                refine gaload (v := (.ref b205)) X hx 165 (hb hby at_163) rfl rfl rfl ?_
                refine gstatic (y := (⟨"com/example/tagwire/tagwire/dtd/Names", "isWhitespace", "(Ljava/lang/CharSequence;)Z"⟩ : MethodName)) (argsL := [(.ref b205)]) (st := []) X hx hZ hown (own_w39 hw) (own_w40 hw) (own_w41 hw) (own_w42 hw) (by decide) (payP (W := 0) (rmIL3 l Z a0 hw (b205) (t321) (G1) (G3) (c0) (c1) (c2) h323 n0 (Nat.le_trans Z0 sz_h) P0_Old Str322 (O2) (P5) (O4) (rG3)) hZ (own_w42 hw) (own_w41 hw) (by decide) (by decide)) eT (by rw [hml]; rfl) (lenOf own_pd17 rfl) rfl (Nat.le_of_eq rfl) 3 10 rfl rfl (by decide) (by decide) 168 (hb hby at_165) rfl ?_
                clear X eT; clear T; intro v T h329 L2 Lc X eT hL hQ330
                obtain ⟨rfl, Nq, hh⟩ := hQ330
                replace N : Fr n0 L2 := by rw [hL]; exact Fr.app N Nq
                clear Nq hL
                replace hh := hh.symm; subst hh
                show Go p e below _ T (mkF m 168 #[.val (.int p0), .val (.int p1), .val (.int p2), .val (.int p3), .val (.int (3 : Int32)), .val (.int c0), .val (.int c1), .val (.int c2), .val (.ref b191), .val (.ref b205), .val (.ref b205), .val (.int (0 : Int32)), .unset] [(.int (own_aw ([c0, c1, c2] : List Int32)))])
                refine gistore X hx #[.val (.int p0), .val (.int p1), .val (.int p2), .val (.int p3), .val (.int (3 : Int32)), .val (.int c0), .val (.int c1), .val (.int c2), .val (.ref b191), .val (.ref b205), .val (.ref b205), .val (.int (0 : Int32)), .val (.int (own_aw ([c0, c1, c2] : List Int32)))] 170 (hb hby at_168) rfl rfl ?_
                refine giload (v := (own_aw ([c0, c1, c2] : List Int32))) X hx 172 (hb hby at_170) rfl rfl ?_
                refine giload (v := (0 : Int32)) X hx 174 (hb hby at_172) rfl rfl ?_
                refine gicmpNo X hx 177 (hb hby at_174) rfl (teq (by simp [own_aw, k0_125])).2 ?_
                refine giconst X hx (1 : Int32) 178 (hb hby at_177) rfl rfl ?_
                refine ggoto X hx 182 (hb hby at_178) (by decide) (by decide) ?_
                exact gRetL X hx hlk hret rfl (Or.inl ⟨rfl, by simp, _, rfl⟩) (hb hby at_182) eT hS hk (by decide) (by decide) ⟨rfl, N, K0⟩
              · refine gifNo X hx 128 (hb hby at_125) rfl ((if0 _ _).trans (feq k0_125).1) ?_
                refine giload (v := (3 : Int32)) X hx 130 (hb hby at_128) rfl rfl ?_
                refine giconst X hx (2 : Int32) 131 (hb hby at_130) rfl rfl ?_
                refine gicmpNo X hx 134 (hb hby at_131) rfl (by decide) ?_
                refine giload (v := c1) X hx 136 (hb hby at_134) rfl rfl ?_
                refine gstatic (y := (⟨"com/example/tagwire/tagwire/dtd/NamesIsWhitespacePinLaw", "ws", "(C)Z"⟩ : MethodName)) (argsL := [(.int c1)]) (st := []) X hx hZ hown (own_w36 hw) (own_w37 hw) (own_w2 hw) (own_w38 hw) (by decide) (payP (W := 0) (rmW2 l Z a0 hw (c1) h323 n0 (Nat.le_trans Z0 sz_h)) hZ (own_w38 hw) (own_w2 hw) (by decide) (by decide)) eT (by rw [hml]; rfl) (lenOf own_pd15 rfl) rfl (Nat.le_of_eq rfl) 3 10 rfl rfl (by decide) (by decide) 139 (hb hby at_136) rfl ?_
                clear X eT; clear T; intro v T h333 L2 Lc X eT hL hQ334
                obtain ⟨rfl, Nq, hh⟩ := hQ334
                replace N : Fr n0 L2 := by rw [hL]; exact Fr.app N Nq
                clear Nq hL
                replace hh := hh.symm; subst hh
                show Go p e below _ T (mkF m 139 #[.val (.int p0), .val (.int p1), .val (.int p2), .val (.int p3), .val (.int (3 : Int32)), .val (.int c0), .val (.int c1), .val (.int c2), .val (.ref b191), .val (.ref b205), .val (.ref b205), .unset, .unset] [(.int (own_ws c1))])
                rcases Decidable.em ((own_ws c1) = (0 : Int32)) with k1_139 | k1_139
                · refine gifYes X hx 160 (hb hby at_139) ((if0 _ _).trans (teq k1_139).1) (by decide) (by decide) ?_
                  refine giconst X hx (0 : Int32) 161 (hb hby at_160) rfl rfl ?_
                  refine gistore X hx #[.val (.int p0), .val (.int p1), .val (.int p2), .val (.int p3), .val (.int (3 : Int32)), .val (.int c0), .val (.int c1), .val (.int c2), .val (.ref b191), .val (.ref b205), .val (.ref b205), .val (.int (0 : Int32)), .unset] 163 (hb hby at_161) rfl rfl ?_
                  refine gaload (v := (.ref b205)) X hx 165 (hb hby at_163) rfl rfl rfl ?_
                  refine gstatic (y := (⟨"com/example/tagwire/tagwire/dtd/Names", "isWhitespace", "(Ljava/lang/CharSequence;)Z"⟩ : MethodName)) (argsL := [(.ref b205)]) (st := []) X hx hZ hown (own_w39 hw) (own_w40 hw) (own_w41 hw) (own_w42 hw) (by decide) (payP (W := 0) (rmIL3 l Z a0 hw (b205) (t321) (G1) (G3) (c0) (c1) (c2) h323 n0 (Nat.le_trans Z0 sz_h) P0_Old Str322 (O2) (P5) (O4) (rG3)) hZ (own_w42 hw) (own_w41 hw) (by decide) (by decide)) eT (by rw [hml]; rfl) (lenOf own_pd17 rfl) rfl (Nat.le_of_eq rfl) 3 10 rfl rfl (by decide) (by decide) 168 (hb hby at_165) rfl ?_
                  clear X eT; clear T; intro v T h337 L2 Lc X eT hL hQ338
                  obtain ⟨rfl, Nq, hh⟩ := hQ338
                  replace N : Fr n0 L2 := by rw [hL]; exact Fr.app N Nq
                  clear Nq hL
                  replace hh := hh.symm; subst hh
                  show Go p e below _ T (mkF m 168 #[.val (.int p0), .val (.int p1), .val (.int p2), .val (.int p3), .val (.int (3 : Int32)), .val (.int c0), .val (.int c1), .val (.int c2), .val (.ref b191), .val (.ref b205), .val (.ref b205), .val (.int (0 : Int32)), .unset] [(.int (own_aw ([c0, c1, c2] : List Int32)))])
                  refine gistore X hx #[.val (.int p0), .val (.int p1), .val (.int p2), .val (.int p3), .val (.int (3 : Int32)), .val (.int c0), .val (.int c1), .val (.int c2), .val (.ref b191), .val (.ref b205), .val (.ref b205), .val (.int (0 : Int32)), .val (.int (own_aw ([c0, c1, c2] : List Int32)))] 170 (hb hby at_168) rfl rfl ?_
                  refine giload (v := (own_aw ([c0, c1, c2] : List Int32))) X hx 172 (hb hby at_170) rfl rfl ?_
                  refine giload (v := (0 : Int32)) X hx 174 (hb hby at_172) rfl rfl ?_
                  refine gicmpNo X hx 177 (hb hby at_174) rfl (teq (by simp [own_aw, k0_125, k1_139])).2 ?_
                  refine giconst X hx (1 : Int32) 178 (hb hby at_177) rfl rfl ?_
                  refine ggoto X hx 182 (hb hby at_178) (by decide) (by decide) ?_
                  exact gRetL X hx hlk hret rfl (Or.inl ⟨rfl, by simp, _, rfl⟩) (hb hby at_182) eT hS hk (by decide) (by decide) ⟨rfl, N, K0⟩
                · refine gifNo X hx 142 (hb hby at_139) rfl ((if0 _ _).trans (feq k1_139).1) ?_
                  refine giload (v := (3 : Int32)) X hx 144 (hb hby at_142) rfl rfl ?_
                  refine giconst X hx (3 : Int32) 145 (hb hby at_144) rfl rfl ?_
                  refine gicmpNo X hx 148 (hb hby at_145) rfl (by decide) ?_
                  refine giload (v := c2) X hx 150 (hb hby at_148) rfl rfl ?_
                  refine gstatic (y := (⟨"com/example/tagwire/tagwire/dtd/NamesIsWhitespacePinLaw", "ws", "(C)Z"⟩ : MethodName)) (argsL := [(.int c2)]) (st := []) X hx hZ hown (own_w36 hw) (own_w37 hw) (own_w2 hw) (own_w38 hw) (by decide) (payP (W := 0) (rmW2 l Z a0 hw (c2) h323 n0 (Nat.le_trans Z0 sz_h)) hZ (own_w38 hw) (own_w2 hw) (by decide) (by decide)) eT (by rw [hml]; rfl) (lenOf own_pd15 rfl) rfl (Nat.le_of_eq rfl) 3 10 rfl rfl (by decide) (by decide) 153 (hb hby at_150) rfl ?_
                  clear X eT; clear T; intro v T h341 L2 Lc X eT hL hQ342
                  obtain ⟨rfl, Nq, hh⟩ := hQ342
                  replace N : Fr n0 L2 := by rw [hL]; exact Fr.app N Nq
                  clear Nq hL
                  replace hh := hh.symm; subst hh
                  show Go p e below _ T (mkF m 153 #[.val (.int p0), .val (.int p1), .val (.int p2), .val (.int p3), .val (.int (3 : Int32)), .val (.int c0), .val (.int c1), .val (.int c2), .val (.ref b191), .val (.ref b205), .val (.ref b205), .unset, .unset] [(.int (own_ws c2))])
                  rcases Decidable.em ((own_ws c2) = (0 : Int32)) with k2_153 | k2_153
                  · refine gifYes X hx 160 (hb hby at_153) ((if0 _ _).trans (teq k2_153).1) (by decide) (by decide) ?_
                    refine giconst X hx (0 : Int32) 161 (hb hby at_160) rfl rfl ?_
                    refine gistore X hx #[.val (.int p0), .val (.int p1), .val (.int p2), .val (.int p3), .val (.int (3 : Int32)), .val (.int c0), .val (.int c1), .val (.int c2), .val (.ref b191), .val (.ref b205), .val (.ref b205), .val (.int (0 : Int32)), .unset] 163 (hb hby at_161) rfl rfl ?_
                    refine gaload (v := (.ref b205)) X hx 165 (hb hby at_163) rfl rfl rfl ?_
                    refine gstatic (y := (⟨"com/example/tagwire/tagwire/dtd/Names", "isWhitespace", "(Ljava/lang/CharSequence;)Z"⟩ : MethodName)) (argsL := [(.ref b205)]) (st := []) X hx hZ hown (own_w39 hw) (own_w40 hw) (own_w41 hw) (own_w42 hw) (by decide) (payP (W := 0) (rmIL3 l Z a0 hw (b205) (t321) (G1) (G3) (c0) (c1) (c2) h323 n0 (Nat.le_trans Z0 sz_h) P0_Old Str322 (O2) (P5) (O4) (rG3)) hZ (own_w42 hw) (own_w41 hw) (by decide) (by decide)) eT (by rw [hml]; rfl) (lenOf own_pd17 rfl) rfl (Nat.le_of_eq rfl) 3 10 rfl rfl (by decide) (by decide) 168 (hb hby at_165) rfl ?_
                    clear X eT; clear T; intro v T h345 L2 Lc X eT hL hQ346
                    obtain ⟨rfl, Nq, hh⟩ := hQ346
                    replace N : Fr n0 L2 := by rw [hL]; exact Fr.app N Nq
                    clear Nq hL
                    replace hh := hh.symm; subst hh
                    show Go p e below _ T (mkF m 168 #[.val (.int p0), .val (.int p1), .val (.int p2), .val (.int p3), .val (.int (3 : Int32)), .val (.int c0), .val (.int c1), .val (.int c2), .val (.ref b191), .val (.ref b205), .val (.ref b205), .val (.int (0 : Int32)), .unset] [(.int (own_aw ([c0, c1, c2] : List Int32)))])
                    refine gistore X hx #[.val (.int p0), .val (.int p1), .val (.int p2), .val (.int p3), .val (.int (3 : Int32)), .val (.int c0), .val (.int c1), .val (.int c2), .val (.ref b191), .val (.ref b205), .val (.ref b205), .val (.int (0 : Int32)), .val (.int (own_aw ([c0, c1, c2] : List Int32)))] 170 (hb hby at_168) rfl rfl ?_
                    refine giload (v := (own_aw ([c0, c1, c2] : List Int32))) X hx 172 (hb hby at_170) rfl rfl ?_
                    refine giload (v := (0 : Int32)) X hx 174 (hb hby at_172) rfl rfl ?_
                    refine gicmpNo X hx 177 (hb hby at_174) rfl (teq (by simp [own_aw, k0_125, k1_139, k2_153])).2 ?_
                    refine giconst X hx (1 : Int32) 178 (hb hby at_177) rfl rfl ?_
                    refine ggoto X hx 182 (hb hby at_178) (by decide) (by decide) ?_
                    exact gRetL X hx hlk hret rfl (Or.inl ⟨rfl, by simp, _, rfl⟩) (hb hby at_182) eT hS hk (by decide) (by decide) ⟨rfl, N, K0⟩
                  · refine gifNo X hx 156 (hb hby at_153) rfl ((if0 _ _).trans (feq k2_153).1) ?_
                    refine giconst X hx (1 : Int32) 157 (hb hby at_156) rfl rfl ?_
                    refine ggoto X hx 161 (hb hby at_157) (by decide) (by decide) ?_
                    refine gistore X hx #[.val (.int p0), .val (.int p1), .val (.int p2), .val (.int p3), .val (.int (3 : Int32)), .val (.int c0), .val (.int c1), .val (.int c2), .val (.ref b191), .val (.ref b205), .val (.ref b205), .val (.int (1 : Int32)), .unset] 163 (hb hby at_161) rfl rfl ?_
                    refine gaload (v := (.ref b205)) X hx 165 (hb hby at_163) rfl rfl rfl ?_
                    refine gstatic (y := (⟨"com/example/tagwire/tagwire/dtd/Names", "isWhitespace", "(Ljava/lang/CharSequence;)Z"⟩ : MethodName)) (argsL := [(.ref b205)]) (st := []) X hx hZ hown (own_w39 hw) (own_w40 hw) (own_w41 hw) (own_w42 hw) (by decide) (payP (W := 0) (rmIL3 l Z a0 hw (b205) (t321) (G1) (G3) (c0) (c1) (c2) h323 n0 (Nat.le_trans Z0 sz_h) P0_Old Str322 (O2) (P5) (O4) (rG3)) hZ (own_w42 hw) (own_w41 hw) (by decide) (by decide)) eT (by rw [hml]; rfl) (lenOf own_pd17 rfl) rfl (Nat.le_of_eq rfl) 3 10 rfl rfl (by decide) (by decide) 168 (hb hby at_165) rfl ?_
                    clear X eT; clear T; intro v T h349 L2 Lc X eT hL hQ350
                    obtain ⟨rfl, Nq, hh⟩ := hQ350
                    replace N : Fr n0 L2 := by rw [hL]; exact Fr.app N Nq
                    clear Nq hL
                    replace hh := hh.symm; subst hh
                    show Go p e below _ T (mkF m 168 #[.val (.int p0), .val (.int p1), .val (.int p2), .val (.int p3), .val (.int (3 : Int32)), .val (.int c0), .val (.int c1), .val (.int c2), .val (.ref b191), .val (.ref b205), .val (.ref b205), .val (.int (1 : Int32)), .unset] [(.int (own_aw ([c0, c1, c2] : List Int32)))])
                    refine gistore X hx #[.val (.int p0), .val (.int p1), .val (.int p2), .val (.int p3), .val (.int (3 : Int32)), .val (.int c0), .val (.int c1), .val (.int c2), .val (.ref b191), .val (.ref b205), .val (.ref b205), .val (.int (1 : Int32)), .val (.int (own_aw ([c0, c1, c2] : List Int32)))] 170 (hb hby at_168) rfl rfl ?_
                    refine giload (v := (own_aw ([c0, c1, c2] : List Int32))) X hx 172 (hb hby at_170) rfl rfl ?_
                    refine giload (v := (1 : Int32)) X hx 174 (hb hby at_172) rfl rfl ?_
                    refine gicmpNo X hx 177 (hb hby at_174) rfl (teq (by simp [own_aw, k0_125, k1_139, k2_153])).2 ?_
                    refine giconst X hx (1 : Int32) 178 (hb hby at_177) rfl rfl ?_
                    refine ggoto X hx 182 (hb hby at_178) (by decide) (by decide) ?_
                    exact gRetL X hx hlk hret rfl (Or.inl ⟨rfl, by simp, _, rfl⟩) (hb hby at_182) eT hS hk (by decide) (by decide) ⟨rfl, N, K0⟩
set_option maxRecDepth 65536 in
set_option maxHeartbeats 40000000 in
theorem comes_1 {Post : Tables → Env → Array Value → State → Outcome → State → Prop} (hpost : ∀ tb e args s v u, (limb_1_1.after args s (.returned v) u = true ∧ limb_1_2.after args s (.returned v) u = true ∧ True) → FramedW s (.returned v) u (Jvm.fieldLocs frame_1_writes args s ++ Jvm.arrayLocs frame_1_arrays args s ++ Jvm.staticLocs frame_1_statics s) 24 1152 → Post tb e args s (.returned v) u) :
    ArmFor flags0 classFile x code maxLocals ret World_1 tables_1 room_1 Calls_1 rest_1 Pre_1 Post := by
  intro l hfl _ _ p e ha hc hk s m args below hf hA hF happ hP
  obtain ⟨hcalls, hrest, hpre⟩ := hP
  obtain ⟨-, -, -, hnamed, -, -, -, hat⟩ := (Spec.applies_iff hf).mp happ
  obtain ⟨hg, hn⟩ := and_e (Cond.before_iff.mp (show (Jvm.Cond.and given_1 narrow_1).before args s = true from hpre))
  obtain ⟨h1, g0⟩ := and_e hg
  obtain ⟨k0, g1⟩ := and_e g0
  obtain ⟨k1, g2⟩ := and_e g1
  obtain ⟨k2, g3⟩ := and_e g2
  obtain ⟨w0, w1, w2, w3, rfl⟩ : ∃ w0 w1 w2 w3 : Value, args = #[w0, w1, w2, w3] := by
    have hs : args.size = 4 := by simpa [Cond.value, given_1] using h1
    obtain ⟨L⟩ := args
    match L, hs with
    | [w0, w1, w2, w3], _ => exact ⟨w0, w1, w2, w3, rfl⟩
  have hw := fun d (hd : d ∈ tables_1) => atoms_spec (ws := Jvm.Cond.code x code maxLocals ret :: tables_1) hat d (List.mem_cons_of_mem _ hd)
  obtain ⟨hsets, hown0⟩ := atoms_of _ (rest_1_c_eq ▸ (show rest_1_c.before _ s = true from hrest))
  obtain ⟨i0, e0⟩ := is_v k0
  obtain rfl : w0 = (.int i0) := Option.some.inj e0
  obtain ⟨i1, e1⟩ := is_v k1
  obtain rfl : w1 = (.int i1) := Option.some.inj e1
  obtain ⟨i2, e2⟩ := is_v k2
  obtain rfl : w2 = (.int i2) := Option.some.inj e2
  obtain ⟨i3, e3⟩ := is_v g3
  obtain rfl : w3 = (.int i3) := Option.some.inj e3
  have n3 := not_v (Cond.before_iff.mp (hsets _ (List.mem_of_getElem? (i := 2) rfl)))
  obtain ⟨j7, f6⟩ := is_v (Cond.before_iff.mp (hsets _ (List.mem_of_getElem? (i := 1) rfl)))
  have S8 : Sta s s.heap "java/lang/String" "COMPACT_STRINGS" "Z" (.int j7) := Sta.start f6 (Or.inl (hsets _ (List.mem_of_getElem? (i := 0) rfl)))
  have c13 : ¬ (j7 = (0 : Int32)) := gotF (Cond.eq_ints f6 (Term.int_eval (0))) n3
  obtain ⟨v9, e10, r11⟩ := isR_v (Cond.before_iff.mp (hsets _ (List.mem_of_getElem? (i := 8) rfl)))
  have S12 : Sta s s.heap "jdk/internal/util/Preconditions" "SIOOBE_FORMATTER" "Ljava/util/function/BiFunction;" v9 := Sta.start e10 (Or.inl (hsets _ (List.mem_of_getElem? (i := 7) rfl)))
  have SA : Sta s s.heap "java/lang/StringUTF16" "$assertionsDisabled" "Z" (.int 1) := Sta.start (eqv_i (Term.int_eval (1)) (Cond.before_iff.mp (hsets _ (List.mem_of_getElem? (i := 12) rfl)))) (Or.inl (hsets _ (List.mem_of_getElem? (i := 11) rfl)))
  have SH : Sta s s.heap "java/lang/StringUTF16" "HI_BYTE_SHIFT" "I" (.int 0) := Sta.start (eqv_i (Term.int_eval (0)) (Cond.before_iff.mp (hsets _ (List.mem_of_getElem? (i := 15) rfl)))) (Or.inl (hsets _ (List.mem_of_getElem? (i := 14) rfl)))
  have SLo : Sta s s.heap "java/lang/StringUTF16" "LO_BYTE_SHIFT" "I" (.int 8) := Sta.start (eqv_i (Term.int_eval (8)) (Cond.before_iff.mp (hsets _ (List.mem_of_getElem? (i := 18) rfl)))) (Or.inl (hsets _ (List.mem_of_getElem? (i := 17) rfl)))
  obtain ⟨n, o, h1, h2, h3, _, L, rfl, ⟨rfl, N, -⟩, hq⟩ := rm0 l s _ hw i0 i1 i2 i3 j7 v9 s.heap s.heap.size (Nat.le_refl _) (Old.start s) S8 c13 S12 r11 SA SH SLo p e ha hc hk s m _ below hf ((Spec.applies_iff_loose hf).mp happ).1 ⟨rfl, State.Warmed39.refl s, rfl, CHv.start (own_EW hw) (fun p hp => hcalls.1 p hp) (hsets _ (List.mem_of_getElem? (i := 2) rfl)) (own_w25 hw) (own_w8 hw)⟩ trivial
  refine ⟨n, _, h1, h2, h3, hpost _ _ _ _ _ _ ⟨Cond.after_iff.mpr rfl, Cond.after_iff.mpr (eq_i res_at (Term.int_eval (1)) rfl), trivial⟩ ⟨hq.1, hq.2.1, hq.2.2.1, (hq.2.2.2.sift fun y hy => Or.inr (N y hy)).mono (by decide) (by decide)⟩⟩
theorem main_1_1 : Claimed_1_1 := comes_1 fun _ _ _ _ _ _ h hF => ⟨h.1, hF⟩
theorem main_1_2 : Claimed_1_2 := comes_1 fun _ _ _ _ _ _ h hF => ⟨h.2.1, hF⟩
end Jvm.Pilot.@@N@@
namespace Jvm.Pilot.@@N@@
open Jvm Jvm.ClassFile Sem Op Lib Jvm.Free Jvm.Stand Jvm.Pilot.@@N@@.Jvm.D
/-! MADE BY PROGRAM (witnessworld.py) out of the Statement's table words and the real class files: 20 classes; the members and pool entries that the words name. The judged class is class 1, her method 3. -/
namespace start1
open Jvm.ClassFile
def u (s : String) : CpInfo := .utf8 (stringToUtf16 s)
/-- a pool by its gaps: so many unusable entries, then the entry; so many at the end -/
def gap : Nat → List CpInfo → List CpInfo
  | 0, r => r
  | n + 1, r => .unusable :: gap n r
def poolList (es : List (Nat × CpInfo)) (last : Nat) : List CpInfo := es.foldr (fun e r => gap e.1 (e.2 :: r)) (gap last [])
def pool (es : List (Nat × CpInfo)) (last : Nat) : Array CpInfo := ⟨poolList es last⟩
def fileOf (pool : Array CpInfo) (this : Nat) (attrs : Array Attribute := #[]) (ms : Array MethodInfo := #[]) (fl : Nat := 33) (sup : Nat := 0) (ifs : Array Nat := #[]) (fds : Array FieldInfo := #[]) : ClassFile where
  minorVersion := 0
  majorVersion := 65
  constantPool := pool
  accessFlags := fl
  thisClass := this
  superClass := sup
  interfaces := ifs
  fields := fds
  methods := ms
  attributes := attrs
def plain (name : String) (sup : Option ClassId) : Class where
  name := name
  kind := .ordinary
  loader := none
  accessFlags := 33
  super := sup
  interfaces := #[]
  cf := none
  fields := #[]
  methods := #[]
  instanceTypes := #[]
  staticTypes := #[]
  resolved := #[]
  callSites := []
  init := .initialized
  statics := none
  mirror := none

def pool0 : Array CpInfo := pool [(5, u "<init>"), (0, u "()V"), (1, .class_ 10), (1, u "java/lang/Object")] 113

def k0c0 : Code := { maxStack := 0, maxLocals := 1, code := object_method_1_code, exceptionTable := #[], attributes := #[] }
def k0m0 : Method := { name := "<init>", desc := "()V", sig := { parameters := [], returnType := none }, accessFlags := 1, code := some k0c0 }
/-- java/lang/Object -/
def k0 : Class := { plain "java/lang/Object" none with
  accessFlags := 33
  interfaces := #[]
  cf := some (fileOf pool0 8 #[] #[{ accessFlags := 1, nameIndex := 5, descriptorIndex := 6, attributes := #[] }] 33 0 #[] #[])
  fields := #[]
  methods := #[k0m0]
  instanceTypes := #[]
  staticTypes := #[]
  resolved := Array.replicate 124 none
  statics := none }

def pool1 : Array CpInfo := pool [(2, .class_ 4), (1, u "java/lang/Object"), (0, u "<init>"), (0, u "()V"), (0, .integer 65536), (0, .integer 65535), (0, .methodref 10 11), (0, .class_ 12), (0, .nameAndType 13 14), (0, u "com/example/tagwire/tagwire/dtd/NamesIsWhitespacePinLaw"), (0, u "pick"), (0, u "(I)C"), (0, .class_ 16), (0, u "java/lang/String"), (0, .methodref 15 18), (0, .nameAndType 5 19), (0, u "([C)V"), (0, .methodref 10 21), (0, .nameAndType 22 23), (0, u "ws"), (0, u "(C)Z"), (0, .methodref 25 26), (0, .class_ 27), (0, .nameAndType 28 29), (0, u "com/example/tagwire/tagwire/dtd/Names"), (0, u "isWhitespace"), (0, u "(Ljava/lang/CharSequence;)Z"), (3, u "law"), (0, u "(IIII)Z")] 6

def k1m0 : Method := { name := "<init>", desc := "()V", sig := { parameters := [], returnType := none }, accessFlags := 2, code := none }
def k1c1 : Code := { maxStack := 2, maxLocals := 2, code := method_2_code, exceptionTable := #[], attributes := #[] }
def k1m1 : Method := { name := "pick", desc := "(I)C", sig := { parameters := [.int], returnType := some .char }, accessFlags := 10, code := some k1c1 }
def k1c2 : Code := { maxStack := 2, maxLocals := 2, code := method_3_code, exceptionTable := #[], attributes := #[] }
def k1m2 : Method := { name := "ws", desc := "(C)Z", sig := { parameters := [.char], returnType := some .boolean }, accessFlags := 10, code := some k1c2 }
def k1c3 : Code := { maxStack := 4, maxLocals := 13, code := code, exceptionTable := #[], attributes := #[] }
def k1m3 : Method := { name := "law", desc := "(IIII)Z", sig := { parameters := [.int, .int, .int, .int], returnType := some .boolean }, accessFlags := 9, code := some k1c3 }
/-- com/example/tagwire/tagwire/dtd/NamesIsWhitespacePinLaw -/
def k1 : Class := { plain "com/example/tagwire/tagwire/dtd/NamesIsWhitespacePinLaw" (some 0) with
  accessFlags := 49
  interfaces := #[]
  cf := some (fileOf pool1 10 #[] #[{ accessFlags := 2, nameIndex := 5, descriptorIndex := 6, attributes := #[] }, { accessFlags := 10, nameIndex := 13, descriptorIndex := 14, attributes := #[] }, { accessFlags := 10, nameIndex := 22, descriptorIndex := 23, attributes := #[] }, { accessFlags := 9, nameIndex := 33, descriptorIndex := 34, attributes := #[] }] 49 2 #[] #[])
  fields := #[]
  methods := #[k1m0, k1m1, k1m2, k1m3]
  instanceTypes := #[]
  staticTypes := #[]
  resolved := Array.replicate 41 none
  statics := none }

def pool2 : Array CpInfo := pool [(1, .class_ 2), (0, u "java/io/Serializable"), (0, .class_ 4), (0, u "java/lang/Object")] 2

/-- java/io/Serializable -/
def k2 : Class := { plain "java/io/Serializable" (some 0) with
  accessFlags := 1537
  interfaces := #[]
  cf := some (fileOf pool2 1 #[] #[] 1537 3 #[] #[])
  fields := #[]
  methods := #[]
  instanceTypes := #[]
  staticTypes := #[]
  resolved := Array.replicate 7 none
  statics := none }

def pool3 : Array CpInfo := pool [(1, .class_ 2), (0, u "java/lang/Comparable"), (0, .class_ 4), (0, u "java/lang/Object")] 7

/-- java/lang/Comparable -/
def k3 : Class := { plain "java/lang/Comparable" (some 0) with
  accessFlags := 1537
  interfaces := #[]
  cf := some (fileOf pool3 1 #[] #[] 1537 3 #[] #[])
  fields := #[]
  methods := #[]
  instanceTypes := #[]
  staticTypes := #[]
  resolved := Array.replicate 12 none
  statics := none }

def pool4 : Array CpInfo := pool [(2, .class_ 4), (1, u "java/lang/CharSequence"), (0, u "length"), (0, u "()I"), (38, u "charAt"), (0, u "(I)C"), (0, .class_ 48), (0, u "java/lang/CharSequence$1CodePointIterator"), (10, .class_ 60), (0, u "java/lang/CharSequence$1CharIterator"), (5, .class_ 67), (0, u "java/lang/Object")] 63

def k4m0 : Method := { name := "length", desc := "()I", sig := { parameters := [], returnType := some .int }, accessFlags := 1025, code := none }
def k4m1 : Method := { name := "charAt", desc := "(I)C", sig := { parameters := [.int], returnType := some .char }, accessFlags := 1025, code := none }
/-- java/lang/CharSequence -/
def k4 : Class := { plain "java/lang/CharSequence" (some 0) with
  accessFlags := 1537
  interfaces := #[]
  cf := some (fileOf pool4 2 #[.nestMembers #[47, 59]] #[{ accessFlags := 1025, nameIndex := 5, descriptorIndex := 6, attributes := #[] }, { accessFlags := 1025, nameIndex := 45, descriptorIndex := 46, attributes := #[] }] 1537 66 #[] #[])
  fields := #[]
  methods := #[k4m0, k4m1]
  instanceTypes := #[]
  staticTypes := #[]
  resolved := Array.replicate 131 none
  statics := none }

def pool5 : Array CpInfo := pool [(1, .class_ 2), (0, u "java/lang/constant/Constable"), (0, .class_ 4), (0, u "java/lang/Object")] 6

/-- java/lang/constant/Constable -/
def k5 : Class := { plain "java/lang/constant/Constable" (some 0) with
  accessFlags := 1537
  interfaces := #[]
  cf := some (fileOf pool5 1 #[] #[] 1537 3 #[] #[])
  fields := #[]
  methods := #[]
  instanceTypes := #[]
  staticTypes := #[]
  resolved := Array.replicate 11 none
  statics := none }

def pool6 : Array CpInfo := pool [(1, .class_ 2), (0, u "java/lang/constant/ConstantDesc"), (0, .class_ 4), (0, u "java/lang/Object")] 32

/-- java/lang/constant/ConstantDesc -/
def k6 : Class := { plain "java/lang/constant/ConstantDesc" (some 0) with
  accessFlags := 1537
  interfaces := #[]
  cf := some (fileOf pool6 1 #[] #[] 1537 3 #[] #[])
  fields := #[]
  methods := #[]
  instanceTypes := #[]
  staticTypes := #[]
  resolved := Array.replicate 37 none
  statics := none }

def pool7 : Array CpInfo := pool [(1, .methodref 2 3), (0, .class_ 4), (0, .nameAndType 5 6), (0, u "java/lang/Object"), (0, u "<init>"), (0, u "()V"), (0, .string 8), (0, u ""), (0, .fieldref 10 11), (0, .class_ 12), (0, .nameAndType 13 14), (0, u "java/lang/String"), (0, u "value"), (0, u "[B"), (0, .fieldref 10 16), (0, .nameAndType 17 18), (0, u "coder"), (0, u "B"), (2, u "hash"), (0, u "I"), (2, u "hashIsZero"), (0, u "Z"), (0, .methodref 10 28), (0, .nameAndType 5 29), (0, u "([CIILjava/lang/Void;)V"), (8, .fieldref 10 39), (0, .nameAndType 40 26), (0, u "COMPACT_STRINGS"), (1, .class_ 44), (1, u "java/lang/StringUTF16"), (0, u "compress"), (1, .methodref 42 48), (0, .nameAndType 49 50), (0, u "coderFromArrayLen"), (0, u "([BI)B"), (56, .class_ 109), (1, u "java/lang/StringLatin1"), (32, u "()Z"), (34, .methodref 42 178), (0, .nameAndType 45 179), (0, u "([CII)[B"), (154, u "()I"), (0, .methodref 10 336), (0, .nameAndType 17 337), (0, u "()B"), (25, u "([BI)C"), (27, u "(II)V"), (35, u "(I)C"), (64, .methodref 10 493), (0, .nameAndType 494 142), (0, u "isLatin1"), (0, .methodref 107 496), (0, .nameAndType 497 363), (0, u "charAt"), (0, .methodref 42 496), (2, u "checkIndex"), (5, u "length"), (67, .class_ 576), (0, u "java/lang/CharSequence"), (22, u "CASE_INSENSITIVE_ORDER"), (0, u "Ljava/util/Comparator;"), (409, u "([C)V"), (42, .fieldref 1054 1055), (0, .class_ 1056), (0, .nameAndType 1057 1058), (0, u "jdk/internal/util/Preconditions"), (0, u "SIOOBE_FORMATTER"), (0, u "Ljava/util/function/BiFunction;"), (0, .methodref 1054 1060), (0, .nameAndType 501 1061), (0, u "(IILjava/util/function/BiFunction;)I"), (39, u "serialPersistentFields"), (0, u "[Ljava/io/ObjectStreamField;"), (0, .class_ 1104), (0, u "java/lang/String$CaseInsensitiveComparator"), (1, .class_ 1107), (0, u "java/io/Serializable"), (0, .class_ 1109), (0, u "java/lang/Comparable"), (0, .class_ 1111), (0, u "java/lang/constant/Constable"), (0, .class_ 1113), (0, u "java/lang/constant/ConstantDesc"), (2, u "serialVersionUID"), (0, u "J"), (3, u "REPL"), (0, u "C"), (2, u "LATIN1"), (1, u "UTF16")] 323

def k7m0 : Method := { name := "<init>", desc := "()V", sig := { parameters := [], returnType := none }, accessFlags := 1, code := none }
def k7c1 : Code := { maxStack := 5, maxLocals := 2, code := jdk_42_method_3_code, exceptionTable := #[], attributes := #[] }
def k7m1 : Method := { name := "<init>", desc := "([C)V", sig := { parameters := [(.array .char)], returnType := none }, accessFlags := 1, code := some k7c1 }
def k7c2 : Code := { maxStack := 2, maxLocals := 1, code := jdk_42_method_54_code, exceptionTable := #[], attributes := #[] }
def k7m2 : Method := { name := "length", desc := "()I", sig := { parameters := [], returnType := some .int }, accessFlags := 1, code := some k7c2 }
def k7c3 : Code := { maxStack := 2, maxLocals := 2, code := jdk_42_method_56_code, exceptionTable := #[], attributes := #[] }
def k7m3 : Method := { name := "charAt", desc := "(I)C", sig := { parameters := [.int], returnType := some .char }, accessFlags := 1, code := some k7c3 }
def k7c4 : Code := { maxStack := 4, maxLocals := 6, code := jdk_42_method_149_code, exceptionTable := #[], attributes := #[] }
def k7m4 : Method := { name := "<init>", desc := "([CIILjava/lang/Void;)V", sig := { parameters := [(.array .char), .int, .int, (.object "java/lang/Void")], returnType := none }, accessFlags := 2, code := some k7c4 }
def k7c5 : Code := { maxStack := 1, maxLocals := 1, code := jdk_42_method_152_code, exceptionTable := #[], attributes := #[] }
def k7m5 : Method := { name := "coder", desc := "()B", sig := { parameters := [], returnType := some .byte }, accessFlags := 0, code := some k7c5 }
def k7c6 : Code := { maxStack := 1, maxLocals := 1, code := jdk_42_method_154_code, exceptionTable := #[], attributes := #[] }
def k7m6 : Method := { name := "isLatin1", desc := "()Z", sig := { parameters := [], returnType := some .boolean }, accessFlags := 0, code := some k7c6 }
def k7c7 : Code := { maxStack := 3, maxLocals := 2, code := jdk_42_method_155_code, exceptionTable := #[], attributes := #[] }
def k7m7 : Method := { name := "checkIndex", desc := "(II)V", sig := { parameters := [.int, .int], returnType := none }, accessFlags := 8, code := some k7c7 }
/-- java/lang/String -/
def k7 : Class := { plain "java/lang/String" (some 0) with
  accessFlags := 49
  interfaces := #[2, 3, 4, 5, 6]
  cf := some (fileOf pool7 10 #[.nestMembers #[1103]] #[{ accessFlags := 1, nameIndex := 5, descriptorIndex := 6, attributes := #[] }, { accessFlags := 1, nameIndex := 5, descriptorIndex := 1010, attributes := #[] }, { accessFlags := 1, nameIndex := 507, descriptorIndex := 334, attributes := #[] }, { accessFlags := 1, nameIndex := 497, descriptorIndex := 427, attributes := #[] }, { accessFlags := 2, nameIndex := 5, descriptorIndex := 29, attributes := #[] }, { accessFlags := 0, nameIndex := 17, descriptorIndex := 337, attributes := #[] }, { accessFlags := 0, nameIndex := 494, descriptorIndex := 142, attributes := #[] }, { accessFlags := 8, nameIndex := 501, descriptorIndex := 391, attributes := #[] }] 49 2 #[1106, 1108, 575, 1110, 1112] #[{ accessFlags := 18, nameIndex := 13, descriptorIndex := 14, attributes := #[] }, { accessFlags := 18, nameIndex := 17, descriptorIndex := 18, attributes := #[] }, { accessFlags := 2, nameIndex := 21, descriptorIndex := 22, attributes := #[] }, { accessFlags := 2, nameIndex := 25, descriptorIndex := 26, attributes := #[] }, { accessFlags := 26, nameIndex := 1116, descriptorIndex := 1117, attributes := #[] }, { accessFlags := 24, nameIndex := 40, descriptorIndex := 26, attributes := #[] }, { accessFlags := 26, nameIndex := 1101, descriptorIndex := 1102, attributes := #[] }, { accessFlags := 26, nameIndex := 1121, descriptorIndex := 1122, attributes := #[] }, { accessFlags := 25, nameIndex := 599, descriptorIndex := 600, attributes := #[] }, { accessFlags := 24, nameIndex := 1125, descriptorIndex := 18, attributes := #[] }, { accessFlags := 24, nameIndex := 1127, descriptorIndex := 18, attributes := #[] }])
  fields := #[{ name := "value", type := (.array .byte), accessFlags := 18, slot := 0, constantValue := 0 }, { name := "coder", type := .byte, accessFlags := 18, slot := 1, constantValue := 0 }, { name := "hash", type := .int, accessFlags := 2, slot := 2, constantValue := 0 }, { name := "hashIsZero", type := .boolean, accessFlags := 2, slot := 3, constantValue := 0 }, { name := "serialVersionUID", type := .long, accessFlags := 26, slot := 0, constantValue := 0 }, { name := "COMPACT_STRINGS", type := .boolean, accessFlags := 24, slot := 1, constantValue := 0 }, { name := "serialPersistentFields", type := (.array (.object "java/io/ObjectStreamField")), accessFlags := 26, slot := 2, constantValue := 0 }, { name := "REPL", type := .char, accessFlags := 26, slot := 3, constantValue := 0 }, { name := "CASE_INSENSITIVE_ORDER", type := (.object "java/util/Comparator"), accessFlags := 25, slot := 4, constantValue := 0 }, { name := "LATIN1", type := .byte, accessFlags := 24, slot := 5, constantValue := 0 }, { name := "UTF16", type := .byte, accessFlags := 24, slot := 6, constantValue := 0 }]
  methods := #[k7m0, k7m1, k7m2, k7m3, k7m4, k7m5, k7m6, k7m7]
  instanceTypes := #[(.array .byte), .byte, .int, .boolean]
  staticTypes := #[.long, .boolean, (.array (.object "java/io/ObjectStreamField")), .char, (.object "java/util/Comparator"), .byte, .byte]
  resolved := Array.replicate 1451 none
  statics := some 0 }

def pool8 : Array CpInfo := pool [(3, .class_ 4), (0, u "java/lang/String"), (1, .class_ 8), (1, u "java/lang/Object"), (0, u "<init>"), (0, u "()V"), (0, .methodref 12 13), (0, .class_ 14), (0, .nameAndType 15 16), (0, u "java/lang/StringUTF16"), (0, u "newBytesLength"), (0, u "(I)I"), (3, .integer 1073741823), (23, .fieldref 12 45), (0, .nameAndType 46 47), (0, u "$assertionsDisabled"), (0, u "Z"), (0, .methodref 12 49), (0, .nameAndType 50 51), (0, u "length"), (0, u "([B)I"), (7, .fieldref 12 60), (0, .nameAndType 61 62), (0, u "HI_BYTE_SHIFT"), (0, u "I"), (0, .fieldref 12 64), (0, .nameAndType 65 62), (0, u "LO_BYTE_SHIFT"), (1, .methodref 12 68), (0, .nameAndType 69 70), (0, u "checkIndex"), (0, u "(I[B)V"), (0, .methodref 12 72), (0, .nameAndType 73 74), (0, u "getChar"), (0, u "([BI)C"), (32, .methodref 12 108), (0, .nameAndType 109 110), (0, u "newBytesFor"), (0, u "(I)[B"), (0, .methodref 12 112), (0, .nameAndType 113 114), (0, u "putChar"), (0, u "([BII)V"), (0, .methodref 12 116), (0, .nameAndType 117 118), (0, u "compress"), (0, u "([CI[BII)I"), (0, .methodref 12 120), (0, .nameAndType 121 122), (0, u "toBytes"), (0, u "([CII)[B"), (138, u "coderFromArrayLen"), (0, u "([BI)B"), (106, .class_ 371), (1, u "java/lang/StringUTF16$LinesSpliterator"), (20, u "charAt"), (21, .methodref 3 415), (0, .nameAndType 69 416), (0, u "(II)V"), (13, u "MAX_LENGTH"), (196, .class_ 628), (0, u "java/lang/StringUTF16$CodePointsSpliterator"), (0, .class_ 630), (0, u "java/lang/StringUTF16$CharsSpliterator")] 4

def k8m0 : Method := { name := "<init>", desc := "()V", sig := { parameters := [], returnType := none }, accessFlags := 0, code := none }
def k8c1 : Code := { maxStack := 1, maxLocals := 1, code := jdk_52_method_2_code, exceptionTable := #[], attributes := #[] }
def k8m1 : Method := { name := "newBytesFor", desc := "(I)[B", sig := { parameters := [.int], returnType := some (.array .byte) }, accessFlags := 9, code := some k8c1 }
def k8c2 : Code := { maxStack := 4, maxLocals := 1, code := jdk_52_method_3_code, exceptionTable := #[], attributes := #[] }
def k8m2 : Method := { name := "newBytesLength", desc := "(I)I", sig := { parameters := [.int], returnType := some .int }, accessFlags := 9, code := some k8c2 }
def k8c3 : Code := { maxStack := 4, maxLocals := 3, code := jdk_52_method_4_code, exceptionTable := #[], attributes := #[] }
def k8m3 : Method := { name := "putChar", desc := "([BII)V", sig := { parameters := [(.array .byte), .int, .int], returnType := none }, accessFlags := 8, code := some k8c3 }
def k8c4 : Code := { maxStack := 3, maxLocals := 2, code := jdk_52_method_5_code, exceptionTable := #[], attributes := #[] }
def k8m4 : Method := { name := "getChar", desc := "([BI)C", sig := { parameters := [(.array .byte), .int], returnType := some .char }, accessFlags := 8, code := some k8c4 }
def k8c5 : Code := { maxStack := 2, maxLocals := 1, code := jdk_52_method_6_code, exceptionTable := #[], attributes := #[] }
def k8m5 : Method := { name := "length", desc := "([B)I", sig := { parameters := [(.array .byte)], returnType := some .int }, accessFlags := 9, code := some k8c5 }
def k8c6 : Code := { maxStack := 4, maxLocals := 5, code := jdk_52_method_14_code, exceptionTable := #[], attributes := #[] }
def k8m6 : Method := { name := "toBytes", desc := "([CII)[B", sig := { parameters := [(.array .char), .int, .int], returnType := some (.array .byte) }, accessFlags := 9, code := some k8c6 }
def k8c7 : Code := { maxStack := 2, maxLocals := 2, code := jdk_52_method_15_code, exceptionTable := #[], attributes := #[] }
def k8m7 : Method := { name := "coderFromArrayLen", desc := "([BI)B", sig := { parameters := [(.array .byte), .int], returnType := some .byte }, accessFlags := 8, code := some k8c7 }
def k8c8 : Code := { maxStack := 5, maxLocals := 6, code := jdk_52_method_16_code, exceptionTable := #[], attributes := #[] }
def k8m8 : Method := { name := "compress", desc := "([CII)[B", sig := { parameters := [(.array .char), .int, .int], returnType := some (.array .byte) }, accessFlags := 9, code := some k8c8 }
def k8c9 : Code := { maxStack := 3, maxLocals := 7, code := jdk_52_method_21_code, exceptionTable := #[], attributes := #[] }
def k8m9 : Method := { name := "compress", desc := "([CI[BII)I", sig := { parameters := [(.array .char), .int, (.array .byte), .int, .int], returnType := some .int }, accessFlags := 9, code := some k8c9 }
def k8c10 : Code := { maxStack := 2, maxLocals := 2, code := jdk_52_method_83_code, exceptionTable := #[], attributes := #[] }
def k8m10 : Method := { name := "charAt", desc := "([BI)C", sig := { parameters := [(.array .byte), .int], returnType := some .char }, accessFlags := 9, code := some k8c10 }
def k8c11 : Code := { maxStack := 2, maxLocals := 2, code := jdk_52_method_91_code, exceptionTable := #[], attributes := #[] }
def k8m11 : Method := { name := "checkIndex", desc := "(I[B)V", sig := { parameters := [.int, (.array .byte)], returnType := none }, accessFlags := 9, code := some k8c11 }
/-- java/lang/StringUTF16 -/
def k8 : Class := { plain "java/lang/StringUTF16" (some 0) with
  accessFlags := 48
  interfaces := #[]
  cf := some (fileOf pool8 12 #[.nestMembers #[627, 629, 369]] #[{ accessFlags := 0, nameIndex := 9, descriptorIndex := 10, attributes := #[] }, { accessFlags := 9, nameIndex := 109, descriptorIndex := 110, attributes := #[] }, { accessFlags := 9, nameIndex := 15, descriptorIndex := 16, attributes := #[] }, { accessFlags := 8, nameIndex := 113, descriptorIndex := 114, attributes := #[] }, { accessFlags := 8, nameIndex := 73, descriptorIndex := 74, attributes := #[] }, { accessFlags := 9, nameIndex := 50, descriptorIndex := 51, attributes := #[] }, { accessFlags := 9, nameIndex := 121, descriptorIndex := 122, attributes := #[] }, { accessFlags := 8, nameIndex := 261, descriptorIndex := 262, attributes := #[] }, { accessFlags := 9, nameIndex := 117, descriptorIndex := 122, attributes := #[] }, { accessFlags := 9, nameIndex := 117, descriptorIndex := 118, attributes := #[] }, { accessFlags := 9, nameIndex := 392, descriptorIndex := 74, attributes := #[] }, { accessFlags := 9, nameIndex := 69, descriptorIndex := 70, attributes := #[] }] 48 6 #[] #[{ accessFlags := 26, nameIndex := 61, descriptorIndex := 62, attributes := #[] }, { accessFlags := 26, nameIndex := 65, descriptorIndex := 62, attributes := #[] }, { accessFlags := 24, nameIndex := 430, descriptorIndex := 62, attributes := #[] }, { accessFlags := 4120, nameIndex := 46, descriptorIndex := 47, attributes := #[] }])
  fields := #[{ name := "HI_BYTE_SHIFT", type := .int, accessFlags := 26, slot := 0, constantValue := 0 }, { name := "LO_BYTE_SHIFT", type := .int, accessFlags := 26, slot := 1, constantValue := 0 }, { name := "MAX_LENGTH", type := .int, accessFlags := 24, slot := 2, constantValue := 0 }, { name := "$assertionsDisabled", type := .boolean, accessFlags := 4120, slot := 3, constantValue := 0 }]
  methods := #[k8m0, k8m1, k8m2, k8m3, k8m4, k8m5, k8m6, k8m7, k8m8, k8m9, k8m10, k8m11]
  instanceTypes := #[]
  staticTypes := #[.int, .int, .int, .boolean]
  resolved := Array.replicate 635 none
  statics := some 1 }

def pool9 : Array CpInfo := pool [(2, .class_ 4), (1, u "java/lang/Object"), (0, u "<init>"), (0, u "()V"), (7, .nameAndType 15 16), (0, u "length"), (0, u "()I"), (5, .class_ 24), (1, u "com/example/tagwire/tagwire/dtd/Names"), (22, .interfaceMethodref 48 14), (0, .class_ 49), (0, u "java/lang/CharSequence"), (0, .interfaceMethodref 48 51), (0, .nameAndType 52 53), (0, u "charAt"), (0, u "(I)C"), (0, .methodref 22 55), (0, .nameAndType 56 57), (0, u "isWhitespace"), (0, u "(C)Z"), (17, u "(Ljava/lang/CharSequence;)Z")] 2

def k9m0 : Method := { name := "<init>", desc := "()V", sig := { parameters := [], returnType := none }, accessFlags := 2, code := none }
def k9c1 : Code := { maxStack := 2, maxLocals := 2, code := prog_38_method_5_code, exceptionTable := #[], attributes := #[] }
def k9m1 : Method := { name := "isWhitespace", desc := "(Ljava/lang/CharSequence;)Z", sig := { parameters := [(.object "java/lang/CharSequence")], returnType := some .boolean }, accessFlags := 9, code := some k9c1 }
def k9c2 : Code := { maxStack := 2, maxLocals := 1, code := prog_38_method_6_code, exceptionTable := #[], attributes := #[] }
def k9m2 : Method := { name := "isWhitespace", desc := "(C)Z", sig := { parameters := [.char], returnType := some .boolean }, accessFlags := 9, code := some k9c2 }
/-- com/example/tagwire/tagwire/dtd/Names -/
def k9 : Class := { plain "com/example/tagwire/tagwire/dtd/Names" (some 0) with
  accessFlags := 49
  interfaces := #[]
  cf := some (fileOf pool9 22 #[] #[{ accessFlags := 2, nameIndex := 5, descriptorIndex := 6, attributes := #[] }, { accessFlags := 9, nameIndex := 56, descriptorIndex := 75, attributes := #[] }, { accessFlags := 9, nameIndex := 56, descriptorIndex := 57, attributes := #[] }] 49 2 #[] #[])
  fields := #[]
  methods := #[k9m0, k9m1, k9m2]
  instanceTypes := #[]
  staticTypes := #[]
  resolved := Array.replicate 78 none
  statics := none }

def pool10 : Array CpInfo := pool [(1, .class_ 2), (0, u "java/lang/String"), (1, .class_ 6), (1, u "java/lang/Object"), (0, u "<init>"), (0, u "()V"), (0, .methodref 1 10), (0, .nameAndType 11 12), (0, u "checkIndex"), (0, u "(II)V"), (1, .class_ 16), (1, u "java/lang/StringLatin1"), (36, u "([BI)C"), (67, u "$assertionsDisabled"), (0, u "Z"), (98, .class_ 223), (1, u "java/lang/StringLatin1$LinesSpliterator"), (28, u "charAt"), (137, .class_ 391), (0, u "java/lang/StringLatin1$CharsSpliterator")] 3

def k10m0 : Method := { name := "<init>", desc := "()V", sig := { parameters := [], returnType := none }, accessFlags := 0, code := none }
def k10c1 : Code := { maxStack := 2, maxLocals := 2, code := jdk_43_method_2_code, exceptionTable := #[], attributes := #[] }
def k10m1 : Method := { name := "charAt", desc := "([BI)C", sig := { parameters := [(.array .byte), .int], returnType := some .char }, accessFlags := 9, code := some k10c1 }
/-- java/lang/StringLatin1 -/
def k10 : Class := { plain "java/lang/StringLatin1" (some 0) with
  accessFlags := 48
  interfaces := #[]
  cf := some (fileOf pool10 14 #[.nestMembers #[390, 221]] #[{ accessFlags := 0, nameIndex := 7, descriptorIndex := 8, attributes := #[] }, { accessFlags := 9, nameIndex := 252, descriptorIndex := 53, attributes := #[] }] 48 4 #[] #[{ accessFlags := 4120, nameIndex := 121, descriptorIndex := 122, attributes := #[] }])
  fields := #[{ name := "$assertionsDisabled", type := .boolean, accessFlags := 4120, slot := 0, constantValue := 0 }]
  methods := #[k10m0, k10m1]
  instanceTypes := #[]
  staticTypes := #[.boolean]
  resolved := Array.replicate 395 none
  statics := none }

def pool11 : Array CpInfo := pool [(2, .class_ 4), (1, u "java/lang/Object"), (0, u "<init>"), (0, u "()V"), (17, .class_ 26), (1, u "jdk/internal/util/Preconditions"), (6, u "checkIndex"), (21, .class_ 56), (0, u "jdk/internal/util/Preconditions$4"), (57, .class_ 115), (0, u "jdk/internal/util/Preconditions$1"), (7, u "SIOOBE_FORMATTER"), (0, u "Ljava/util/function/BiFunction;"), (0, .class_ 126), (0, u "jdk/internal/util/Preconditions$2"), (3, u "AIOOBE_FORMATTER"), (0, .class_ 132), (0, u "jdk/internal/util/Preconditions$3"), (3, u "IOOBE_FORMATTER"), (41, u "(IILjava/util/function/BiFunction;)I")] 15

def k11m0 : Method := { name := "<init>", desc := "()V", sig := { parameters := [], returnType := none }, accessFlags := 1, code := none }
def k11c1 : Code := { maxStack := 3, maxLocals := 3, code := jdk_41_method_11_code, exceptionTable := #[], attributes := #[] }
def k11m1 : Method := { name := "checkIndex", desc := "(IILjava/util/function/BiFunction;)I", sig := { parameters := [.int, .int, (.object "java/util/function/BiFunction")], returnType := some .int }, accessFlags := 9, code := some k11c1 }
/-- jdk/internal/util/Preconditions -/
def k11 : Class := { plain "jdk/internal/util/Preconditions" (some 0) with
  accessFlags := 33
  interfaces := #[]
  cf := some (fileOf pool11 24 #[.nestMembers #[55, 131, 125, 114]] #[{ accessFlags := 1, nameIndex := 5, descriptorIndex := 6, attributes := #[] }, { accessFlags := 9, nameIndex := 33, descriptorIndex := 178, attributes := #[] }] 33 2 #[] #[{ accessFlags := 25, nameIndex := 123, descriptorIndex := 124, attributes := #[] }, { accessFlags := 25, nameIndex := 130, descriptorIndex := 124, attributes := #[] }, { accessFlags := 25, nameIndex := 136, descriptorIndex := 124, attributes := #[] }])
  fields := #[{ name := "SIOOBE_FORMATTER", type := (.object "java/util/function/BiFunction"), accessFlags := 25, slot := 0, constantValue := 0 }, { name := "AIOOBE_FORMATTER", type := (.object "java/util/function/BiFunction"), accessFlags := 25, slot := 1, constantValue := 0 }, { name := "IOOBE_FORMATTER", type := (.object "java/util/function/BiFunction"), accessFlags := 25, slot := 2, constantValue := 0 }]
  methods := #[k11m0, k11m1]
  instanceTypes := #[]
  staticTypes := #[(.object "java/util/function/BiFunction"), (.object "java/util/function/BiFunction"), (.object "java/util/function/BiFunction")]
  resolved := Array.replicate 194 none
  statics := some 2 }

def pool12 : Array CpInfo := pool [(9, u "<init>"), (6, .class_ 18), (1, u "java/lang/Object"), (0, u "()V"), (1, .class_ 23), (1, u "jdk/internal/util/ArraysSupport"), (0, u "LOG2_ARRAY_LONG_INDEX_SCALE"), (0, u "I"), (2, u "U"), (0, u "Ljdk/internal/misc/Unsafe;"), (8, u "BIG_ENDIAN"), (0, u "Z"), (8, u "LOG2_BYTE_BIT_SIZE"), (4, u "LOG2_ARRAY_INT_INDEX_SCALE"), (54, u "JLA"), (0, u "Ljdk/internal/access/JavaLangAccess;"), (11, u "LOG2_ARRAY_BOOLEAN_INDEX_SCALE"), (9, u "LOG2_ARRAY_BYTE_INDEX_SCALE"), (5, u "LOG2_ARRAY_CHAR_INDEX_SCALE"), (5, u "LOG2_ARRAY_SHORT_INDEX_SCALE"), (18, u "LOG2_ARRAY_FLOAT_INDEX_SCALE"), (24, u "LOG2_ARRAY_DOUBLE_INDEX_SCALE"), (89, u "T_BOOLEAN"), (2, u "T_CHAR"), (1, u "T_FLOAT"), (1, u "T_DOUBLE"), (1, u "T_BYTE"), (1, u "T_SHORT"), (1, u "T_INT"), (1, u "T_LONG"), (1, u "SOFT_MAX_ARRAY_LENGTH")] 83

def k12m0 : Method := { name := "<init>", desc := "()V", sig := { parameters := [], returnType := none }, accessFlags := 2, code := none }
/-- jdk/internal/util/ArraysSupport -/
def k12 : Class := { plain "jdk/internal/util/ArraysSupport" (some 0) with
  accessFlags := 33
  interfaces := #[]
  cf := some (fileOf pool12 21 #[] #[{ accessFlags := 2, nameIndex := 9, descriptorIndex := 19, attributes := #[] }] 33 16 #[] #[{ accessFlags := 24, nameIndex := 28, descriptorIndex := 29, attributes := #[] }, { accessFlags := 26, nameIndex := 38, descriptorIndex := 39, attributes := #[] }, { accessFlags := 25, nameIndex := 121, descriptorIndex := 25, attributes := #[] }, { accessFlags := 25, nameIndex := 131, descriptorIndex := 25, attributes := #[] }, { accessFlags := 25, nameIndex := 137, descriptorIndex := 25, attributes := #[] }, { accessFlags := 25, nameIndex := 143, descriptorIndex := 25, attributes := #[] }, { accessFlags := 25, nameIndex := 53, descriptorIndex := 25, attributes := #[] }, { accessFlags := 25, nameIndex := 24, descriptorIndex := 25, attributes := #[] }, { accessFlags := 25, nameIndex := 162, descriptorIndex := 25, attributes := #[] }, { accessFlags := 25, nameIndex := 187, descriptorIndex := 25, attributes := #[] }, { accessFlags := 26, nameIndex := 48, descriptorIndex := 25, attributes := #[] }, { accessFlags := 25, nameIndex := 277, descriptorIndex := 25, attributes := #[] }, { accessFlags := 25, nameIndex := 280, descriptorIndex := 25, attributes := #[] }, { accessFlags := 25, nameIndex := 282, descriptorIndex := 25, attributes := #[] }, { accessFlags := 25, nameIndex := 284, descriptorIndex := 25, attributes := #[] }, { accessFlags := 25, nameIndex := 286, descriptorIndex := 25, attributes := #[] }, { accessFlags := 25, nameIndex := 288, descriptorIndex := 25, attributes := #[] }, { accessFlags := 25, nameIndex := 290, descriptorIndex := 25, attributes := #[] }, { accessFlags := 25, nameIndex := 292, descriptorIndex := 25, attributes := #[] }, { accessFlags := 26, nameIndex := 108, descriptorIndex := 109, attributes := #[] }, { accessFlags := 25, nameIndex := 294, descriptorIndex := 25, attributes := #[] }])
  fields := #[{ name := "U", type := (.object "jdk/internal/misc/Unsafe"), accessFlags := 24, slot := 0, constantValue := 0 }, { name := "BIG_ENDIAN", type := .boolean, accessFlags := 26, slot := 1, constantValue := 0 }, { name := "LOG2_ARRAY_BOOLEAN_INDEX_SCALE", type := .int, accessFlags := 25, slot := 2, constantValue := 0 }, { name := "LOG2_ARRAY_BYTE_INDEX_SCALE", type := .int, accessFlags := 25, slot := 3, constantValue := 0 }, { name := "LOG2_ARRAY_CHAR_INDEX_SCALE", type := .int, accessFlags := 25, slot := 4, constantValue := 0 }, { name := "LOG2_ARRAY_SHORT_INDEX_SCALE", type := .int, accessFlags := 25, slot := 5, constantValue := 0 }, { name := "LOG2_ARRAY_INT_INDEX_SCALE", type := .int, accessFlags := 25, slot := 6, constantValue := 0 }, { name := "LOG2_ARRAY_LONG_INDEX_SCALE", type := .int, accessFlags := 25, slot := 7, constantValue := 0 }, { name := "LOG2_ARRAY_FLOAT_INDEX_SCALE", type := .int, accessFlags := 25, slot := 8, constantValue := 0 }, { name := "LOG2_ARRAY_DOUBLE_INDEX_SCALE", type := .int, accessFlags := 25, slot := 9, constantValue := 0 }, { name := "LOG2_BYTE_BIT_SIZE", type := .int, accessFlags := 26, slot := 10, constantValue := 0 }, { name := "T_BOOLEAN", type := .int, accessFlags := 25, slot := 11, constantValue := 0 }, { name := "T_CHAR", type := .int, accessFlags := 25, slot := 12, constantValue := 0 }, { name := "T_FLOAT", type := .int, accessFlags := 25, slot := 13, constantValue := 0 }, { name := "T_DOUBLE", type := .int, accessFlags := 25, slot := 14, constantValue := 0 }, { name := "T_BYTE", type := .int, accessFlags := 25, slot := 15, constantValue := 0 }, { name := "T_SHORT", type := .int, accessFlags := 25, slot := 16, constantValue := 0 }, { name := "T_INT", type := .int, accessFlags := 25, slot := 17, constantValue := 0 }, { name := "T_LONG", type := .int, accessFlags := 25, slot := 18, constantValue := 0 }, { name := "JLA", type := (.object "jdk/internal/access/JavaLangAccess"), accessFlags := 26, slot := 19, constantValue := 0 }, { name := "SOFT_MAX_ARRAY_LENGTH", type := .int, accessFlags := 25, slot := 20, constantValue := 0 }]
  methods := #[k12m0]
  instanceTypes := #[]
  staticTypes := #[(.object "jdk/internal/misc/Unsafe"), .boolean, .int, .int, .int, .int, .int, .int, .int, .int, .int, .int, .int, .int, .int, .int, .int, .int, .int, (.object "jdk/internal/access/JavaLangAccess"), .int]
  resolved := Array.replicate 378 none
  statics := none }

def pool13 : Array CpInfo := pool [(1, u "java/lang/Cloneable"), (0, .class_ 1), (0, u "java/lang/Object"), (0, .class_ 3)] 3

/-- java/lang/Cloneable -/
def k13 : Class := { plain "java/lang/Cloneable" (some 0) with
  accessFlags := 1537
  interfaces := #[]
  cf := some (fileOf pool13 2 #[] #[] 1537 4 #[] #[])
  fields := #[]
  methods := #[]
  instanceTypes := #[]
  staticTypes := #[]
  resolved := Array.replicate 8 none
  statics := none }

/-- the primitive byte -/
def k14 : Class := { plain "byte" none with kind := .primitive 'B', accessFlags := 0x411 }
/-- [B -/
def k15 : Class := { plain "[B" (some 0) with kind := .array 14 .byte, interfaces := #[13, 2], accessFlags := 1041 }

/-- the primitive char -/
def k16 : Class := { plain "char" none with kind := .primitive 'C', accessFlags := 0x411 }
/-- [C -/
def k17 : Class := { plain "[C" (some 0) with kind := .array 16 .char, interfaces := #[13, 2], accessFlags := 1041 }

/-- the primitive int -/
def k18 : Class := { plain "int" none with kind := .primitive 'I', accessFlags := 0x411 }
/-- [I -/
def k19 : Class := { plain "[I" (some 0) with kind := .array 18 .int, interfaces := #[13, 2], accessFlags := 1041 }

def heap : Heap := #[{ cls := 7, slots := #[.long 0, .int 1, .null, .int 0, .null, .int 0, .int 0], vm := .statics 7 },
  { cls := 8, slots := #[.int 0, .int 8, .int 0, .int 1], vm := .statics 8 },
  { cls := 11, slots := #[.null, .null, .null], vm := .statics 11 }]
def classes : Array Class := #[k0, k1, k2, k3, k4, k5, k6, k7, k8, k9, k10, k11, k12, k13, k14, k15, k16, k17, k18, k19]
def interned : List (Array UInt16 × Addr) := []
def slotsUsed : Nat := 14
def theMethod : MethodId := ⟨1, 3⟩
def args0 : Array Value := #[.int 5, .int 7, .int 3, .int 2]
def aboutOver (below : List Frame) : State where
  vm := { classes := classes, interned := interned.toArray }
  heap := heap
  slotsUsed := slotsUsed
  threads := #[{ frames := .invoking theMethod args0 :: below }]
def below0 : List Frame := [.native { method := ⟨0, 0⟩, args := #[] }]
def about1 : State := aboutOver below0
def p0 : Program := .bare "" "" ""
def e0 : Env := launch0.env 0 0 0
theorem w_frames : about1.frames = Frame.invoking theMethod args0 :: below0 := rfl
set_option maxRecDepth 65536 in
theorem w_args : argsFit about1.vm theMethod args0 = true := by decide +kernel
set_option maxRecDepth 65536 in
theorem w_heap : heapFits about1 = true := by decide +kernel
set_option maxRecDepth 65536 in
theorem w_runnable : about1.curStatus? = some .runnable := by decide +kernel
set_option maxRecDepth 65536 in
theorem w_alone : about1.alone = true := by decide +kernel
set_option maxRecDepth 65536 in
theorem w_named : about1.methodNamed? x = some theMethod := by decide +kernel
set_option maxRecDepth 65536 in
theorem w_hears : about1.hears theMethod below0 = true := by decide +kernel
set_option maxRecDepth 65536 in
theorem w_ripe : about1.ripe theMethod args0 below0 = true := by decide +kernel
theorem w_running : about1.status = .running := rfl
set_option maxRecDepth 65536 in
theorem w_room : about1.hasRoom e0.platform room_1 = true :=
  launch0.hasRoom_least _ room_1 (by decide +kernel) (by decide +kernel) (by decide +kernel) (by decide +kernel) (by decide +kernel) (by decide +kernel)
theorem allAtoms_all (ts : List Jvm.Cond) (a : Array Jvm.Value) (st : Jvm.State) : (allAtoms ts).before a st = ts.all (fun c => c.before a st) := by
  induction ts with
  | nil => rfl
  | cons c t ih =>
    show (Jvm.Cond.and c (allAtoms t)).before a st = _
    rw [Jvm.Cond.before_and, ih, List.all_cons]
def words1 : List Jvm.Cond := Jvm.Cond.code x code maxLocals ret :: tables_1
/-- a 'code' word, met by the world's own term for the bytes: nothing is compared byte by byte -/
theorem code_word {y : MethodName} {bytes : ByteArray} {mx : Nat} {rt : Option FieldType} {a : Array Value} {s : State} {m : MethodId} {meth : Method} {c : Code} (h1 : s.methodNamed? y = some m) (h2 : s.vm.method? m = some meth) (h3 : meth.code = some c) (h4 : c.code = bytes)
    (h5 : (c.maxLocals == mx && c.exceptionTable.isEmpty && decide (c.maxStack ≤ mostOperands) && decide (meth.sig.returnType = rt) && !meth.locks && decide (parseMethodDescriptor y.desc = some meth.sig)) = true) : (Jvm.Cond.code y bytes mx rt).before a s = true := by
  simp only [Bool.and_eq_true, beq_iff_eq, Bool.not_eq_true', decide_eq_true_eq] at h5
  obtain ⟨⟨⟨⟨⟨g1, g2⟩, g3⟩, g4⟩, g5⟩, g6⟩ := h5
  simp [Cond.before, Cond.holds, Cond.value, h1, h2, h3, h4, g1, g2, g3, g4, g5, g6]
def isCode : Jvm.Cond → Bool
  | .code _ _ _ _ => true
  | _ => false
theorem all_split {L : List Jvm.Cond} {P : Jvm.Cond → Bool} (h1 : L.all (fun c => isCode c || P c) = true) (h2 : ∀ c ∈ L.filter isCode, P c = true) : L.all P = true := by
  refine List.all_eq_true.mpr fun c hc => ?_
  have h := List.all_eq_true.mp h1 c hc
  rcases Bool.eq_false_or_eq_true (isCode c) with hi | hi
  · exact h2 c (List.mem_filter.mpr ⟨hc, hi⟩)
  · simpa [hi] using h
set_option maxRecDepth 65536 in
theorem w_c0 : (Jvm.Cond.code x code maxLocals ret).before args0 about1 = true := code_word (m := ⟨1, 3⟩) (meth := k1m3) (c := k1c3) (by decide +kernel) rfl rfl rfl (by decide +kernel)
set_option maxRecDepth 65536 in
theorem w_c1 : (Jvm.Cond.code ({ cls := "com/example/tagwire/tagwire/dtd/NamesIsWhitespacePinLaw", name := "pick", desc := "(I)C" } : Jvm.MethodName) method_2_code (2 : Nat) (Option.some Jvm.ClassFile.FieldType.char)).before args0 about1 = true := code_word (m := ⟨1, 1⟩) (meth := k1m1) (c := k1c1) (by decide +kernel) rfl rfl rfl (by decide +kernel)
set_option maxRecDepth 65536 in
theorem w_c2 : (Jvm.Cond.code ({ cls := "java/lang/String", name := "<init>", desc := "([C)V" } : Jvm.MethodName) jdk_42_method_3_code (2 : Nat) (Option.none : Option Jvm.ClassFile.FieldType)).before args0 about1 = true := code_word (m := ⟨7, 1⟩) (meth := k7m1) (c := k7c1) (by decide +kernel) rfl rfl rfl (by decide +kernel)
set_option maxRecDepth 65536 in
theorem w_c3 : (Jvm.Cond.code ({ cls := "java/lang/String", name := "<init>", desc := "([CIILjava/lang/Void;)V" } : Jvm.MethodName) jdk_42_method_149_code (6 : Nat) (Option.none : Option Jvm.ClassFile.FieldType)).before args0 about1 = true := code_word (m := ⟨7, 4⟩) (meth := k7m4) (c := k7c4) (by decide +kernel) rfl rfl rfl (by decide +kernel)
set_option maxRecDepth 65536 in
theorem w_c4 : (Jvm.Cond.code ({ cls := "java/lang/Object", name := "<init>", desc := "()V" } : Jvm.MethodName) object_method_1_code (1 : Nat) (Option.none : Option Jvm.ClassFile.FieldType)).before args0 about1 = true := code_word (m := ⟨0, 0⟩) (meth := k0m0) (c := k0c0) (by decide +kernel) rfl rfl rfl (by decide +kernel)
set_option maxRecDepth 65536 in
theorem w_c5 : (Jvm.Cond.code ({ cls := "java/lang/StringUTF16", name := "compress", desc := "([CII)[B" } : Jvm.MethodName) jdk_52_method_16_code (6 : Nat) (Option.some (Jvm.ClassFile.FieldType.array Jvm.ClassFile.FieldType.byte))).before args0 about1 = true := code_word (m := ⟨8, 8⟩) (meth := k8m8) (c := k8c8) (by decide +kernel) rfl rfl rfl (by decide +kernel)
set_option maxRecDepth 65536 in
theorem w_c6 : (Jvm.Cond.code ({ cls := "java/lang/StringUTF16", name := "compress", desc := "([CI[BII)I" } : Jvm.MethodName) jdk_52_method_21_code (7 : Nat) (Option.some Jvm.ClassFile.FieldType.int)).before args0 about1 = true := code_word (m := ⟨8, 9⟩) (meth := k8m9) (c := k8c9) (by decide +kernel) rfl rfl rfl (by decide +kernel)
set_option maxRecDepth 65536 in
theorem w_c7 : (Jvm.Cond.code ({ cls := "java/lang/StringUTF16", name := "coderFromArrayLen", desc := "([BI)B" } : Jvm.MethodName) jdk_52_method_15_code (2 : Nat) (Option.some Jvm.ClassFile.FieldType.byte)).before args0 about1 = true := code_word (m := ⟨8, 7⟩) (meth := k8m7) (c := k8c7) (by decide +kernel) rfl rfl rfl (by decide +kernel)
set_option maxRecDepth 65536 in
theorem w_c8 : (Jvm.Cond.code ({ cls := "com/example/tagwire/tagwire/dtd/NamesIsWhitespacePinLaw", name := "ws", desc := "(C)Z" } : Jvm.MethodName) method_3_code (2 : Nat) (Option.some Jvm.ClassFile.FieldType.boolean)).before args0 about1 = true := code_word (m := ⟨1, 2⟩) (meth := k1m2) (c := k1c2) (by decide +kernel) rfl rfl rfl (by decide +kernel)
set_option maxRecDepth 65536 in
theorem w_c9 : (Jvm.Cond.code ({ cls := "com/example/tagwire/tagwire/dtd/Names", name := "isWhitespace", desc := "(Ljava/lang/CharSequence;)Z" } : Jvm.MethodName) prog_38_method_5_code (2 : Nat) (Option.some Jvm.ClassFile.FieldType.boolean)).before args0 about1 = true := code_word (m := ⟨9, 1⟩) (meth := k9m1) (c := k9c1) (by decide +kernel) rfl rfl rfl (by decide +kernel)
set_option maxRecDepth 65536 in
theorem w_c10 : (Jvm.Cond.code ({ cls := "java/lang/String", name := "length", desc := "()I" } : Jvm.MethodName) jdk_42_method_54_code (1 : Nat) (Option.some Jvm.ClassFile.FieldType.int)).before args0 about1 = true := code_word (m := ⟨7, 2⟩) (meth := k7m2) (c := k7c2) (by decide +kernel) rfl rfl rfl (by decide +kernel)
set_option maxRecDepth 65536 in
theorem w_c11 : (Jvm.Cond.code ({ cls := "java/lang/String", name := "coder", desc := "()B" } : Jvm.MethodName) jdk_42_method_152_code (1 : Nat) (Option.some Jvm.ClassFile.FieldType.byte)).before args0 about1 = true := code_word (m := ⟨7, 5⟩) (meth := k7m5) (c := k7c5) (by decide +kernel) rfl rfl rfl (by decide +kernel)
set_option maxRecDepth 65536 in
theorem w_c12 : (Jvm.Cond.code ({ cls := "java/lang/String", name := "charAt", desc := "(I)C" } : Jvm.MethodName) jdk_42_method_56_code (2 : Nat) (Option.some Jvm.ClassFile.FieldType.char)).before args0 about1 = true := code_word (m := ⟨7, 3⟩) (meth := k7m3) (c := k7c3) (by decide +kernel) rfl rfl rfl (by decide +kernel)
set_option maxRecDepth 65536 in
theorem w_c13 : (Jvm.Cond.code ({ cls := "java/lang/String", name := "isLatin1", desc := "()Z" } : Jvm.MethodName) jdk_42_method_154_code (1 : Nat) (Option.some Jvm.ClassFile.FieldType.boolean)).before args0 about1 = true := code_word (m := ⟨7, 6⟩) (meth := k7m6) (c := k7c6) (by decide +kernel) rfl rfl rfl (by decide +kernel)
set_option maxRecDepth 65536 in
theorem w_c14 : (Jvm.Cond.code ({ cls := "java/lang/StringLatin1", name := "charAt", desc := "([BI)C" } : Jvm.MethodName) jdk_43_method_2_code (2 : Nat) (Option.some Jvm.ClassFile.FieldType.char)).before args0 about1 = true := code_word (m := ⟨10, 1⟩) (meth := k10m1) (c := k10c1) (by decide +kernel) rfl rfl rfl (by decide +kernel)
set_option maxRecDepth 65536 in
theorem w_c15 : (Jvm.Cond.code ({ cls := "java/lang/String", name := "checkIndex", desc := "(II)V" } : Jvm.MethodName) jdk_42_method_155_code (2 : Nat) (Option.none : Option Jvm.ClassFile.FieldType)).before args0 about1 = true := code_word (m := ⟨7, 7⟩) (meth := k7m7) (c := k7c7) (by decide +kernel) rfl rfl rfl (by decide +kernel)
set_option maxRecDepth 65536 in
theorem w_c16 : (Jvm.Cond.code ({ cls := "jdk/internal/util/Preconditions", name := "checkIndex", desc := "(IILjava/util/function/BiFunction;)I" } : Jvm.MethodName) jdk_41_method_11_code (3 : Nat) (Option.some Jvm.ClassFile.FieldType.int)).before args0 about1 = true := code_word (m := ⟨11, 1⟩) (meth := k11m1) (c := k11c1) (by decide +kernel) rfl rfl rfl (by decide +kernel)
set_option maxRecDepth 65536 in
theorem w_c17 : (Jvm.Cond.code ({ cls := "com/example/tagwire/tagwire/dtd/Names", name := "isWhitespace", desc := "(C)Z" } : Jvm.MethodName) prog_38_method_6_code (1 : Nat) (Option.some Jvm.ClassFile.FieldType.boolean)).before args0 about1 = true := code_word (m := ⟨9, 2⟩) (meth := k9m2) (c := k9c2) (by decide +kernel) rfl rfl rfl (by decide +kernel)
set_option maxRecDepth 65536 in
theorem w_c18 : (Jvm.Cond.code ({ cls := "java/lang/StringUTF16", name := "toBytes", desc := "([CII)[B" } : Jvm.MethodName) jdk_52_method_14_code (5 : Nat) (Option.some (Jvm.ClassFile.FieldType.array Jvm.ClassFile.FieldType.byte))).before args0 about1 = true := code_word (m := ⟨8, 6⟩) (meth := k8m6) (c := k8c6) (by decide +kernel) rfl rfl rfl (by decide +kernel)
set_option maxRecDepth 65536 in
theorem w_c19 : (Jvm.Cond.code ({ cls := "java/lang/StringUTF16", name := "newBytesFor", desc := "(I)[B" } : Jvm.MethodName) jdk_52_method_2_code (1 : Nat) (Option.some (Jvm.ClassFile.FieldType.array Jvm.ClassFile.FieldType.byte))).before args0 about1 = true := code_word (m := ⟨8, 1⟩) (meth := k8m1) (c := k8c1) (by decide +kernel) rfl rfl rfl (by decide +kernel)
set_option maxRecDepth 65536 in
theorem w_c20 : (Jvm.Cond.code ({ cls := "java/lang/StringUTF16", name := "newBytesLength", desc := "(I)I" } : Jvm.MethodName) jdk_52_method_3_code (1 : Nat) (Option.some Jvm.ClassFile.FieldType.int)).before args0 about1 = true := code_word (m := ⟨8, 2⟩) (meth := k8m2) (c := k8c2) (by decide +kernel) rfl rfl rfl (by decide +kernel)
set_option maxRecDepth 65536 in
theorem w_c21 : (Jvm.Cond.code ({ cls := "java/lang/StringUTF16", name := "putChar", desc := "([BII)V" } : Jvm.MethodName) jdk_52_method_4_code (3 : Nat) (Option.none : Option Jvm.ClassFile.FieldType)).before args0 about1 = true := code_word (m := ⟨8, 3⟩) (meth := k8m3) (c := k8c3) (by decide +kernel) rfl rfl rfl (by decide +kernel)
set_option maxRecDepth 65536 in
theorem w_c22 : (Jvm.Cond.code ({ cls := "java/lang/StringUTF16", name := "getChar", desc := "([BI)C" } : Jvm.MethodName) jdk_52_method_5_code (2 : Nat) (Option.some Jvm.ClassFile.FieldType.char)).before args0 about1 = true := code_word (m := ⟨8, 4⟩) (meth := k8m4) (c := k8c4) (by decide +kernel) rfl rfl rfl (by decide +kernel)
set_option maxRecDepth 65536 in
theorem w_c23 : (Jvm.Cond.code ({ cls := "java/lang/StringUTF16", name := "charAt", desc := "([BI)C" } : Jvm.MethodName) jdk_52_method_83_code (2 : Nat) (Option.some Jvm.ClassFile.FieldType.char)).before args0 about1 = true := code_word (m := ⟨8, 10⟩) (meth := k8m10) (c := k8c10) (by decide +kernel) rfl rfl rfl (by decide +kernel)
set_option maxRecDepth 65536 in
theorem w_c24 : (Jvm.Cond.code ({ cls := "java/lang/StringUTF16", name := "checkIndex", desc := "(I[B)V" } : Jvm.MethodName) jdk_52_method_91_code (2 : Nat) (Option.none : Option Jvm.ClassFile.FieldType)).before args0 about1 = true := code_word (m := ⟨8, 11⟩) (meth := k8m11) (c := k8c11) (by decide +kernel) rfl rfl rfl (by decide +kernel)
set_option maxRecDepth 65536 in
theorem w_c25 : (Jvm.Cond.code ({ cls := "java/lang/StringUTF16", name := "length", desc := "([B)I" } : Jvm.MethodName) jdk_52_method_6_code (1 : Nat) (Option.some Jvm.ClassFile.FieldType.int)).before args0 about1 = true := code_word (m := ⟨8, 5⟩) (meth := k8m5) (c := k8c5) (by decide +kernel) rfl rfl rfl (by decide +kernel)
def codes1 : List Jvm.Cond := [Jvm.Cond.code x code maxLocals ret, Jvm.Cond.code ({ cls := "com/example/tagwire/tagwire/dtd/NamesIsWhitespacePinLaw", name := "pick", desc := "(I)C" } : Jvm.MethodName) method_2_code (2 : Nat) (Option.some Jvm.ClassFile.FieldType.char), Jvm.Cond.code ({ cls := "java/lang/String", name := "<init>", desc := "([C)V" } : Jvm.MethodName) jdk_42_method_3_code (2 : Nat) (Option.none : Option Jvm.ClassFile.FieldType), Jvm.Cond.code ({ cls := "java/lang/String", name := "<init>", desc := "([CIILjava/lang/Void;)V" } : Jvm.MethodName) jdk_42_method_149_code (6 : Nat) (Option.none : Option Jvm.ClassFile.FieldType), Jvm.Cond.code ({ cls := "java/lang/Object", name := "<init>", desc := "()V" } : Jvm.MethodName) object_method_1_code (1 : Nat) (Option.none : Option Jvm.ClassFile.FieldType), Jvm.Cond.code ({ cls := "java/lang/StringUTF16", name := "compress", desc := "([CII)[B" } : Jvm.MethodName) jdk_52_method_16_code (6 : Nat) (Option.some (Jvm.ClassFile.FieldType.array Jvm.ClassFile.FieldType.byte)), Jvm.Cond.code ({ cls := "java/lang/StringUTF16", name := "compress", desc := "([CI[BII)I" } : Jvm.MethodName) jdk_52_method_21_code (7 : Nat) (Option.some Jvm.ClassFile.FieldType.int), Jvm.Cond.code ({ cls := "java/lang/StringUTF16", name := "coderFromArrayLen", desc := "([BI)B" } : Jvm.MethodName) jdk_52_method_15_code (2 : Nat) (Option.some Jvm.ClassFile.FieldType.byte), Jvm.Cond.code ({ cls := "com/example/tagwire/tagwire/dtd/NamesIsWhitespacePinLaw", name := "ws", desc := "(C)Z" } : Jvm.MethodName) method_3_code (2 : Nat) (Option.some Jvm.ClassFile.FieldType.boolean), Jvm.Cond.code ({ cls := "com/example/tagwire/tagwire/dtd/Names", name := "isWhitespace", desc := "(Ljava/lang/CharSequence;)Z" } : Jvm.MethodName) prog_38_method_5_code (2 : Nat) (Option.some Jvm.ClassFile.FieldType.boolean), Jvm.Cond.code ({ cls := "java/lang/String", name := "length", desc := "()I" } : Jvm.MethodName) jdk_42_method_54_code (1 : Nat) (Option.some Jvm.ClassFile.FieldType.int), Jvm.Cond.code ({ cls := "java/lang/String", name := "coder", desc := "()B" } : Jvm.MethodName) jdk_42_method_152_code (1 : Nat) (Option.some Jvm.ClassFile.FieldType.byte), Jvm.Cond.code ({ cls := "java/lang/String", name := "charAt", desc := "(I)C" } : Jvm.MethodName) jdk_42_method_56_code (2 : Nat) (Option.some Jvm.ClassFile.FieldType.char), Jvm.Cond.code ({ cls := "java/lang/String", name := "isLatin1", desc := "()Z" } : Jvm.MethodName) jdk_42_method_154_code (1 : Nat) (Option.some Jvm.ClassFile.FieldType.boolean), Jvm.Cond.code ({ cls := "java/lang/StringLatin1", name := "charAt", desc := "([BI)C" } : Jvm.MethodName) jdk_43_method_2_code (2 : Nat) (Option.some Jvm.ClassFile.FieldType.char), Jvm.Cond.code ({ cls := "java/lang/String", name := "checkIndex", desc := "(II)V" } : Jvm.MethodName) jdk_42_method_155_code (2 : Nat) (Option.none : Option Jvm.ClassFile.FieldType), Jvm.Cond.code ({ cls := "jdk/internal/util/Preconditions", name := "checkIndex", desc := "(IILjava/util/function/BiFunction;)I" } : Jvm.MethodName) jdk_41_method_11_code (3 : Nat) (Option.some Jvm.ClassFile.FieldType.int), Jvm.Cond.code ({ cls := "com/example/tagwire/tagwire/dtd/Names", name := "isWhitespace", desc := "(C)Z" } : Jvm.MethodName) prog_38_method_6_code (1 : Nat) (Option.some Jvm.ClassFile.FieldType.boolean), Jvm.Cond.code ({ cls := "java/lang/StringUTF16", name := "toBytes", desc := "([CII)[B" } : Jvm.MethodName) jdk_52_method_14_code (5 : Nat) (Option.some (Jvm.ClassFile.FieldType.array Jvm.ClassFile.FieldType.byte)), Jvm.Cond.code ({ cls := "java/lang/StringUTF16", name := "newBytesFor", desc := "(I)[B" } : Jvm.MethodName) jdk_52_method_2_code (1 : Nat) (Option.some (Jvm.ClassFile.FieldType.array Jvm.ClassFile.FieldType.byte)), Jvm.Cond.code ({ cls := "java/lang/StringUTF16", name := "newBytesLength", desc := "(I)I" } : Jvm.MethodName) jdk_52_method_3_code (1 : Nat) (Option.some Jvm.ClassFile.FieldType.int), Jvm.Cond.code ({ cls := "java/lang/StringUTF16", name := "putChar", desc := "([BII)V" } : Jvm.MethodName) jdk_52_method_4_code (3 : Nat) (Option.none : Option Jvm.ClassFile.FieldType), Jvm.Cond.code ({ cls := "java/lang/StringUTF16", name := "getChar", desc := "([BI)C" } : Jvm.MethodName) jdk_52_method_5_code (2 : Nat) (Option.some Jvm.ClassFile.FieldType.char), Jvm.Cond.code ({ cls := "java/lang/StringUTF16", name := "charAt", desc := "([BI)C" } : Jvm.MethodName) jdk_52_method_83_code (2 : Nat) (Option.some Jvm.ClassFile.FieldType.char), Jvm.Cond.code ({ cls := "java/lang/StringUTF16", name := "checkIndex", desc := "(I[B)V" } : Jvm.MethodName) jdk_52_method_91_code (2 : Nat) (Option.none : Option Jvm.ClassFile.FieldType), Jvm.Cond.code ({ cls := "java/lang/StringUTF16", name := "length", desc := "([B)I" } : Jvm.MethodName) jdk_52_method_6_code (1 : Nat) (Option.some Jvm.ClassFile.FieldType.int)]
set_option maxRecDepth 65536 in
theorem codes_eq : words1.filter isCode = codes1 := rfl
theorem w_codes : ∀ c ∈ words1.filter isCode, c.before args0 about1 = true := by
  rw [codes_eq]
  intro c hc
  simp only [codes1, List.mem_cons, List.not_mem_nil, or_false] at hc
  rcases hc with rfl | rfl | rfl | rfl | rfl | rfl | rfl | rfl | rfl | rfl | rfl | rfl | rfl | rfl | rfl | rfl | rfl | rfl | rfl | rfl | rfl | rfl | rfl | rfl | rfl | rfl
  · exact w_c0
  · exact w_c1
  · exact w_c2
  · exact w_c3
  · exact w_c4
  · exact w_c5
  · exact w_c6
  · exact w_c7
  · exact w_c8
  · exact w_c9
  · exact w_c10
  · exact w_c11
  · exact w_c12
  · exact w_c13
  · exact w_c14
  · exact w_c15
  · exact w_c16
  · exact w_c17
  · exact w_c18
  · exact w_c19
  · exact w_c20
  · exact w_c21
  · exact w_c22
  · exact w_c23
  · exact w_c24
  · exact w_c25
set_option maxRecDepth 65536 in
theorem w_t1 : (words1.take 24).all (fun c => isCode c || c.before args0 about1) = true := by decide +kernel
set_option maxRecDepth 65536 in
theorem w_t2 : ((words1.drop 24).take 24).all (fun c => isCode c || c.before args0 about1) = true := by decide +kernel
set_option maxRecDepth 65536 in
theorem w_t3 : (((words1.drop 24).drop 24).take 24).all (fun c => isCode c || c.before args0 about1) = true := by decide +kernel
set_option maxRecDepth 65536 in
theorem w_t4 : ((((words1.drop 24).drop 24).drop 24).take 24).all (fun c => isCode c || c.before args0 about1) = true := by decide +kernel
set_option maxRecDepth 65536 in
theorem w_t5 : ((((words1.drop 24).drop 24).drop 24).drop 24).all (fun c => isCode c || c.before args0 about1) = true := by decide +kernel
theorem w_tables : (allAtoms (Jvm.Cond.code x code maxLocals ret :: tables_1)).before args0 about1 = true := by
  rw [allAtoms_all]
  show words1.all (fun c => c.before args0 about1) = true
  refine all_split ?_ w_codes
  rw [← List.take_append_drop 24 words1, List.all_append, w_t1, ← List.take_append_drop 24 (words1.drop 24), List.all_append, w_t2, ← List.take_append_drop 24 ((words1.drop 24).drop 24), List.all_append, w_t3, ← List.take_append_drop 24 (((words1.drop 24).drop 24).drop 24), List.all_append, w_t4, w_t5]
  rfl
set_option maxRecDepth 65536 in
theorem w_rest : rest_1_c.before args0 about1 = true := by decide +kernel
set_option maxRecDepth 65536 in
theorem w_case : (Jvm.Cond.and given_1 narrow_1).before args0 about1 = true := by decide +kernel
set_option maxRecDepth 65536 in
theorem w_consts : constsHeld consts_1 about1 := Jvm.Lit.constsHeldB_iff.mp (by decide +kernel)
theorem w_applies : (headSpec (Jvm.Cond.code x code maxLocals ret :: tables_1) room_1).applies x e0.platform about1 = true :=
  (Spec.applies_iff w_frames).mpr ⟨w_running, w_runnable, w_alone, w_named, w_hears, w_ripe, w_room, w_tables⟩
theorem atStart : AtStart classFile x code maxLocals ret World_1 tables_1 room_1 Calls_1 rest_1 Pre_1 launch0 p0 e0 about1 theMethod args0 below0 :=
  ⟨lists_1, trivial, launch0.admits_env _ _ _, launch0.least_env, fairChoices_fair.cas, fairChoices_fair.clock, w_frames, w_args, w_heap, w_applies, ⟨w_consts, trivial⟩, w_rest, w_case⟩
end start1
theorem witness_1 : WitnessClaimed_1 := ⟨start1.p0, start1.e0, start1.about1, start1.theMethod, start1.args0, start1.below0, start1.atStart⟩
end Jvm.Pilot.@@N@@
