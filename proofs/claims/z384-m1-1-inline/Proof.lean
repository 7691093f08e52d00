import JvmDerived
import JvmDerived.Pilot.@@N@@Statement
import JvmDerived.Pilot.@@N@@Code
set_option linter.unusedVariables false
set_option linter.unusedSimpArgs false
/- laws to paste: Road.backV, Road.lenW, Road.chN, Road.codOf (cut by pick.py; bodies as the Statement names them) -/
namespace Jvm.Pilot.@@N@@
namespace StrChars
open Jvm Sem ClassFile Op Lib Jvm.Stand Jvm.Free.XT Jvm.Free.ALB Jvm.Free.JM Jvm.Free
open Jvm.Lib.Cold (StaticIs)
/-- a char array whose places are chars -/
def Ch (a : Addr) (A : Cell) (U : State) : Prop := Arr .char a A U ∧ Typed .char A
theorem Ch.mv {a : Addr} {A : Cell} {U U' : State} (h : Ch a A U) (hal : U.vm.Alike U'.vm) (hh : U'.heap = U.heap) : Ch a A U' := ⟨h.1.mv hal hh, h.2⟩
theorem Ch.keep {a : Addr} {A : Cell} {U U' : State} (h : Ch a A U) (hal : U.vm.Alike U'.vm) (hk : U'.heap[a]? = some A) : Ch a A U' := ⟨h.1.keep hal hk, h.2⟩
/-- what place i of a char[]'s cell holds -/
def cv (A : Cell) (i : Nat) : Int32 := match A.slots[i]? with | some (.int x) => x | _ => 0
theorem Ch.get {a : Addr} {A : Cell} {U : State} (h : Ch a A U) {i : Nat} (hi : i < A.slots.size) : A.slots[i]? = some (.int (cv A i)) := by
  have e := Array.getElem?_eq_getElem hi
  have f := h.2 i _ e
  unfold cv; rw [e]
  generalize A.slots[i] = v at f
  cases v <;> simp [fits] at f ⊢
/-- the byte that i2b leaves of a char -/
def lo8 (x : Int32) : Int32 := x.toInt8.toInt32
theorem fits_lo8 (y : Int32) : fits .byte (.int (lo8 y)) = true := by
  have h1 := y.toInt8.le_toInt
  have h2 := y.toInt8.toInt_lt
  simp only [lo8, fits, Bool.and_eq_true, decide_eq_true_eq, Int32.le_iff_toInt_le, Int8.toInt_toInt32, show (-128 : Int32).toInt = -128 from by decide, show (127 : Int32).toInt = 127 from by decide]
  omega
/-- A' is A but that each place j of lo .. hi - 1 holds f j -/
def Laid (A A' : Cell) (lo hi : Nat) (f : Nat → Value) : Prop := A'.cls = A.cls ∧ A'.vm = A.vm ∧ A'.slots.size = A.slots.size ∧ ∀ i, A'.slots[i]? = if lo ≤ i ∧ i < hi then some (f i) else A.slots[i]?
theorem Laid.zero (A : Cell) (lo : Nat) (f : Nat → Value) : Laid A A lo (lo + 0) f := ⟨rfl, rfl, rfl, fun i => by rw [if_neg (by omega)]⟩
theorem Laid.step {A Ak : Cell} {lo k : Nat} {f : Nat → Value} {v : Value} (h : Laid A Ak lo k f) (hlo : lo ≤ k) (hk : k < Ak.slots.size) (hv : v = f k) : Laid A (Ak.setSlot k v) lo (k + 1) f := by
  refine ⟨h.1, h.2.1, by simpa [Cell.setSlot] using h.2.2.1, fun i => ?_⟩
  by_cases e : k = i
  · subst e; rw [Cell.slots_setSlot_self v hk, if_pos (by omega), hv]
  · rw [Cell.slots_setSlot_ne v e, h.2.2.2 i]
    by_cases q : lo ≤ i ∧ i < k
    · rw [if_pos q, if_pos (by omega)]
    · rw [if_neg q, if_neg (by omega)]
def U16 : String := "java/lang/StringUTF16"
namespace Cmp5
def yN : MethodName := ⟨"java/lang/StringUTF16", "compress", "([CI[BII)I"⟩
abbrev yB : ByteArray := jdk_52_method_21_code
theorem d0 : decode yB 0 = .ok (.iconst 0, 1) := by decide +kernel
theorem d1 : decode yB 1 = .ok (.istore 5, 2) := by decide +kernel
theorem d3 : decode yB 3 = .ok (.iload 5, 2) := by decide +kernel
theorem d5 : decode yB 5 = .ok (.iload 4, 2) := by decide +kernel
theorem d7 : decode yB 7 = .ok (.if_icmp (.ge) 37, 3) := by decide +kernel
theorem d10 : decode yB 10 = .ok (.aload_n 0, 1) := by decide +kernel
theorem d11 : decode yB 11 = .ok (.iload_n 1, 1) := by decide +kernel
theorem d12 : decode yB 12 = .ok (.caload, 1) := by decide +kernel
theorem d13 : decode yB 13 = .ok (.istore 6, 2) := by decide +kernel
theorem d15 : decode yB 15 = .ok (.iload 6, 2) := by decide +kernel
theorem d17 : decode yB 17 = .ok (.sipush 255, 3) := by decide +kernel
theorem d20 : decode yB 20 = .ok (.if_icmp (.le) 6, 3) := by decide +kernel
theorem d26 : decode yB 26 = .ok (.aload_n 2, 1) := by decide +kernel
theorem d27 : decode yB 27 = .ok (.iload_n 3, 1) := by decide +kernel
theorem d28 : decode yB 28 = .ok (.iload 6, 2) := by decide +kernel
theorem d30 : decode yB 30 = .ok (.i2b, 1) := by decide +kernel
theorem d31 : decode yB 31 = .ok (.bastore, 1) := by decide +kernel
theorem d32 : decode yB 32 = .ok (.iinc 1 1, 3) := by decide +kernel
theorem d35 : decode yB 35 = .ok (.iinc 3 1, 3) := by decide +kernel
theorem d38 : decode yB 38 = .ok (.iinc 5 1, 3) := by decide +kernel
theorem d41 : decode yB 41 = .ok (.goto (-38), 3) := by decide +kernel
theorem d44 : decode yB 44 = .ok (.iload 4, 2) := by decide +kernel
theorem d46 : decode yB 46 = .ok (.ireturn, 1) := by decide +kernel
def site : List Cond := []
def tab : Cond := tabOf yN yB 7 (some .int) site
def P (b : Addr) (A : Cell) (d : Addr) (B : Cell) (o q len : Nat) (args : Array Value) (s : State) : Prop := args = #[.ref b, .int (Int32.ofNat o), .ref d, .int (Int32.ofNat q), .int (Int32.ofNat len)] ∧ Ch b A s ∧ Arr .byte d B s ∧ b ≠ d ∧ o + len ≤ A.slots.size ∧ q + len ≤ B.slots.size ∧ ∀ i, i < len → ¬ 255 < cv A (o + i)
def E (b : Addr) (A : Cell) (d : Addr) (B : Cell) (o q len : Nat) (r : Option Value) (s u : State) : Prop := r = some (.int (Int32.ofNat len)) ∧ ∃ B', Put d B' s u ∧ Laid B B' q (q + len) (fun j => Value.int (lo8 (cv A (o + (j - q)))))
/-- no char of the range above 255: len; the places written hold each char's low byte -/
theorem law (l : Launch) (b : Addr) (A : Cell) (d : Addr) (B : Cell) (o q len : Nat) : Law l yN 5 5 0 0 yB 7 (some .int) site (P b A d B o q len) (E b A d B o q len) (copyLocs d q len) 0 0 := by
  refine Law.of_walk (plainFor_of_name (by decide +kernel)) (by decide +kernel) (by decide +kernel) (by decide) (fun _ _ h => by rw [h.1]; rfl) (fun _ U U' hal hh h => ⟨h.1, h.2.1.mv hal hh, h.2.2.1.mv hal hh, h.2.2.2⟩) (fun r U U' V V' h1 hal h2 h => ⟨h.1, h.2.elim fun B' q => ⟨B', q.1.mv h1 h2, q.2⟩⟩) ?_
  intro p e s m args below meth c s₁ X0 hexec hbytes hml hret hlk hnm hown hh0 W hP
  obtain ⟨rfl, hA, hB, hne, l1, l2, hp⟩ := hP
  have c1 : Steps p.tables e below (s₁.setTop (entryFrame m #[.ref b, .int (Int32.ofNat o), .ref d, .int (Int32.ofNat q), .int (Int32.ofNat len)] 7)) (s₁.setTop (mkF m 0 #[.val (.ref b), .val (.int (Int32.ofNat o)), .val (.ref d), .val (.int (Int32.ofNat q)), .val (.int (Int32.ofNat len)), .unset, .unset] [])) := entry rfl
  have hA0 := hA.1.mv X0.warmed.alike hh0
  have hB0 := hB.mv X0.warmed.alike hh0
  have a31 := hA.1.2.2.2
  have c2 : Steps p.tables e below (s₁.setTop (entryFrame m #[.ref b, .int (Int32.ofNat o), .ref d, .int (Int32.ofNat q), .int (Int32.ofNat len)] 7)) (s₁.setTop (mkF m 3 #[.val (.ref b), .val (.int (Int32.ofNat o)), .val (.ref d), .val (.int (Int32.ofNat q)), .val (.int (Int32.ofNat len)), .val (.int 0), .unset] [])) := c1.trans (by
    refine iconstV X0.here hexec rfl 0 (hb hbytes d0) (by decide) ?_
    refine XS.istore X0.here hexec rfl (hb hbytes d1) rfl rfl ?_
    exact Steps.refl _)
  have loop : ∀ (r i : Nat), i + r = len → ∀ (z : Slot), (z = .unset ∨ ∃ w, z = .val w ∧ w.category = 1) → ∀ (Tl : State) (Bk : Cell), Stand p l e { frames := 0, locals := 0, cells := 0, slots := 0 } s m #[.ref b, .int (Int32.ofNat o), .ref d, .int (Int32.ofNat q), .int (Int32.ofNat len)] below meth c Tl ([] ++ copyLocs d q i) 0 0 → Put d Bk s₁ Tl → Laid B Bk q (q + i) (fun j => Value.int (lo8 (cv A (o + (j - q))))) →
      Steps p.tables e below (s₁.setTop (entryFrame m #[.ref b, .int (Int32.ofNat o), .ref d, .int (Int32.ofNat q), .int (Int32.ofNat len)] 7)) (Tl.setTop (mkF m 3 #[.val (.ref b), .val (.int (Int32.ofNat (o + i))), .val (.ref d), .val (.int (Int32.ofNat (q + i))), .val (.int (Int32.ofNat len)), .val (.int (Int32.ofNat i)), z] [])) → ∃ (T' : State) (B' : Cell) (z' : Slot), Stand p l e { frames := 0, locals := 0, cells := 0, slots := 0 } s m #[.ref b, .int (Int32.ofNat o), .ref d, .int (Int32.ofNat q), .int (Int32.ofNat len)] below meth c T' ([] ++ copyLocs d q len) 0 0 ∧ Put d B' s₁ T' ∧ Laid B B' q (q + len) (fun j => Value.int (lo8 (cv A (o + (j - q))))) ∧
      Steps p.tables e below (s₁.setTop (entryFrame m #[.ref b, .int (Int32.ofNat o), .ref d, .int (Int32.ofNat q), .int (Int32.ofNat len)] 7)) (T'.setTop (mkF m 3 #[.val (.ref b), .val (.int (Int32.ofNat (o + len))), .val (.ref d), .val (.int (Int32.ofNat (q + len))), .val (.int (Int32.ofNat len)), .val (.int (Int32.ofNat len)), z'] [])) := by
    intro r
    induction r with
    | zero =>
      intro i hi z hz Tl Bk Xl pl fl cl
      have hil : i = len := by omega
      rw [hil] at Xl fl cl
      exact ⟨Tl, Bk, z, Xl, pl, fl, cl⟩
    | succ r ih =>
      intro i hi z hz Tl Bk Xl pl fl cl
      have all := X0.warmed.alike.symm.trans Xl.warmed.alike
      have hAl := hA0.keep all (pl.other hne hA0.1)
      have hBk := hB0.like all pl.1 fl.1 fl.2.1 fl.2.2.1
      have hlt : q + i < Bk.slots.size := by rw [fl.2.2.1]; omega
      have c3 : Steps p.tables e below (s₁.setTop (entryFrame m #[.ref b, .int (Int32.ofNat o), .ref d, .int (Int32.ofNat q), .int (Int32.ofNat len)] 7)) (Tl.setTop (mkF m 12 #[.val (.ref b), .val (.int (Int32.ofNat (o + i))), .val (.ref d), .val (.int (Int32.ofNat (q + i))), .val (.int (Int32.ofNat len)), .val (.int (Int32.ofNat i)), z] [.int (Int32.ofNat (o + i)), .ref b])) := cl.trans (by
        refine XS.iload Xl.here hexec rfl (hb hbytes d3) rfl ?_
        refine XS.iload Xl.here hexec rfl (hb hbytes d5) rfl ?_
        refine XS.icmpNo Xl.here hexec rfl (hb hbytes d7) rfl (ii_ge_f (lt32 (by omega) (by omega))) ?_
        refine XS.aloadN Xl.here hexec rfl (hb hbytes d10) rfl rfl ?_
        refine XS.iloadN Xl.here hexec rfl (hb hbytes d11) rfl ?_
        exact Steps.refl _)
      have c4 : Steps p.tables e below (s₁.setTop (entryFrame m #[.ref b, .int (Int32.ofNat o), .ref d, .int (Int32.ofNat q), .int (Int32.ofNat len)] 7)) (Tl.setTop (mkF m 13 #[.val (.ref b), .val (.int (Int32.ofNat (o + i))), .val (.ref d), .val (.int (Int32.ofNat (q + i))), .val (.int (Int32.ofNat len)), .val (.int (Int32.ofNat i)), z] [.int (cv A (o + i))])) := c3.trans (by
        refine Xl.aget hexec hAl rfl (hA.get (i := o + i) (by omega)) rfl rfl (hb hbytes d12) ?_
        exact Steps.refl _)
      have c5 : Steps p.tables e below (s₁.setTop (entryFrame m #[.ref b, .int (Int32.ofNat o), .ref d, .int (Int32.ofNat q), .int (Int32.ofNat len)] 7)) (Tl.setTop (mkF m 15 #[.val (.ref b), .val (.int (Int32.ofNat (o + i))), .val (.ref d), .val (.int (Int32.ofNat (q + i))), .val (.int (Int32.ofNat len)), .val (.int (Int32.ofNat i)), .val (.int (cv A (o + i)))] [])) := c4.trans (by
        refine XS.istoreS Xl.here hexec rfl (hb hbytes d13) rfl rfl hz ?_
        exact Steps.refl _)
      have c6 : Steps p.tables e below (s₁.setTop (entryFrame m #[.ref b, .int (Int32.ofNat o), .ref d, .int (Int32.ofNat q), .int (Int32.ofNat len)] 7)) (Tl.setTop (mkF m 31 #[.val (.ref b), .val (.int (Int32.ofNat (o + i))), .val (.ref d), .val (.int (Int32.ofNat (q + i))), .val (.int (Int32.ofNat len)), .val (.int (Int32.ofNat i)), .val (.int (cv A (o + i)))] [.int (lo8 (cv A (o + i))), .int (Int32.ofNat (q + i)), .ref d])) := c5.trans (by
        refine XS.iload Xl.here hexec rfl (hb hbytes d15) rfl ?_
        refine sipushV Xl.here hexec rfl 255 (hb hbytes d17) (by decide) ?_
        refine XS.icmpYes Xl.here hexec rfl (pc0 := 20) rfl (hb hbytes d20) rfl (ii_le_t (hp i (by omega))) (by decide) rfl ?_
        refine XS.aloadN Xl.here hexec rfl (hb hbytes d26) rfl rfl ?_
        refine XS.iloadN Xl.here hexec rfl (hb hbytes d27) rfl ?_
        refine XS.iload Xl.here hexec rfl (hb hbytes d28) rfl ?_
        refine i2b Xl.here hexec rfl (hb hbytes d30) rfl ?_
        exact Steps.refl _)
      obtain ⟨T7, X7, p7, st7⟩ := Xl.aput hexec hBk rfl hlt rfl (fits_lo8 (cv A (o + i))) (g := (mkF m 31 #[.val (.ref b), .val (.int (Int32.ofNat (o + i))), .val (.ref d), .val (.int (Int32.ofNat (q + i))), .val (.int (Int32.ofNat len)), .val (.int (Int32.ofNat i)), .val (.int (cv A (o + i)))] [.int (lo8 (cv A (o + i))), .int (Int32.ofNat (q + i)), .ref d])) rfl (rest := []) rfl (hb hbytes d31)
      have c8 : Steps p.tables e below (s₁.setTop (entryFrame m #[.ref b, .int (Int32.ofNat o), .ref d, .int (Int32.ofNat q), .int (Int32.ofNat len)] 7)) (T7.setTop (mkF m 32 #[.val (.ref b), .val (.int (Int32.ofNat (o + i))), .val (.ref d), .val (.int (Int32.ofNat (q + i))), .val (.int (Int32.ofNat len)), .val (.int (Int32.ofNat i)), .val (.int (cv A (o + i)))] [])) := c6.trans (st7 _ (Steps.refl _))
      have c9 : Steps p.tables e below (s₁.setTop (entryFrame m #[.ref b, .int (Int32.ofNat o), .ref d, .int (Int32.ofNat q), .int (Int32.ofNat len)] 7)) (T7.setTop (mkF m 3 #[.val (.ref b), .val (.int (Int32.ofNat (o + i) + 1)), .val (.ref d), .val (.int (Int32.ofNat (q + i) + 1)), .val (.int (Int32.ofNat len)), .val (.int (Int32.ofNat i + 1)), .val (.int (cv A (o + i)))] [])) := c8.trans (by
        refine iincV X7.here hexec rfl 1 (hb hbytes d32) (by decide) rfl rfl ?_
        refine iincV X7.here hexec rfl 1 (hb hbytes d35) (by decide) rfl rfl ?_
        refine iincV X7.here hexec rfl 1 (hb hbytes d38) (by decide) rfl rfl ?_
        refine XS.goto X7.here hexec rfl (pc0 := 41) rfl (hb hbytes d41) (by decide) rfl ?_
        exact Steps.refl _)
      have c10 : Steps p.tables e below (s₁.setTop (entryFrame m #[.ref b, .int (Int32.ofNat o), .ref d, .int (Int32.ofNat q), .int (Int32.ofNat len)] 7)) (T7.setTop (mkF m 3 #[.val (.ref b), .val (.int (Int32.ofNat (o + (i + 1)))), .val (.ref d), .val (.int (Int32.ofNat (q + (i + 1)))), .val (.int (Int32.ofNat len)), .val (.int (Int32.ofNat (i + 1))), .val (.int (cv A (o + i)))] [])) := by
        have := c9
        rw [succ32, succ32, succ32] at this
        exact this
      exact ih (i + 1) (by omega) _ (Or.inr ⟨_, rfl, rfl⟩) T7 _ (by rw [copyLocs_step, ← List.append_assoc]; exact X7) (pl.trans p7) (fl.step (by omega) hlt (by simp)) c10
  obtain ⟨T9, B9, z9, X9, p9, f9, g9⟩ := loop len 0 (by omega) .unset (Or.inl rfl) s₁ B (by simpa [copyLocs] using X0) ⟨hB0.1, fun _ _ => rfl, rfl⟩ (Laid.zero _ _ _) c2
  have c11 : Steps p.tables e below (s₁.setTop (entryFrame m #[.ref b, .int (Int32.ofNat o), .ref d, .int (Int32.ofNat q), .int (Int32.ofNat len)] 7)) (T9.setTop (mkF m 46 #[.val (.ref b), .val (.int (Int32.ofNat (o + len))), .val (.ref d), .val (.int (Int32.ofNat (q + len))), .val (.int (Int32.ofNat len)), .val (.int (Int32.ofNat len)), z9] [.int (Int32.ofNat len)])) := g9.trans (by
    refine XS.iload X9.here hexec rfl (hb hbytes d3) rfl ?_
    refine XS.iload X9.here hexec rfl (hb hbytes d5) rfl ?_
    refine XS.icmpYes X9.here hexec rfl (pc0 := 7) rfl (hb hbytes d7) rfl (ii_ge_t (nlt32 (by omega) (Nat.le_refl _))) (by decide) rfl ?_
    refine XS.iload X9.here hexec rfl (hb hbytes d44) rfl ?_
    exact Steps.refl _)
  exact ⟨T9, some (.int (Int32.ofNat len)), _, _, _, X9, by simp, rfl, rfl, (fun h => by cases h), ⟨rfl, B9, p9.from hh0, f9⟩, fun fs hl => c11.trans (X9.ireturnOut hexec hret rfl (Or.inl rfl) (hb hbytes d46) hl)⟩
end Cmp5
namespace Cmp3
def yN : MethodName := ⟨"java/lang/StringUTF16", "compress", "([CII)[B"⟩
abbrev yB : ByteArray := jdk_52_method_16_code
theorem d0 : decode yB 0 = .ok (.iload_n 2, 1) := by decide +kernel
theorem d1 : decode yB 1 = .ok (.newarray .byte, 2) := by decide +kernel
theorem d3 : decode yB 3 = .ok (.astore_n 3, 1) := by decide +kernel
theorem d4 : decode yB 4 = .ok (.aload_n 0, 1) := by decide +kernel
theorem d5 : decode yB 5 = .ok (.iload_n 1, 1) := by decide +kernel
theorem d6 : decode yB 6 = .ok (.aload_n 3, 1) := by decide +kernel
theorem d7 : decode yB 7 = .ok (.iconst 0, 1) := by decide +kernel
theorem d8 : decode yB 8 = .ok (.iload_n 2, 1) := by decide +kernel
theorem d9 : decode yB 9 = .ok (.invokestatic 115, 3) := by decide +kernel
theorem d12 : decode yB 12 = .ok (.istore 4, 2) := by decide +kernel
theorem d14 : decode yB 14 = .ok (.iload 4, 2) := by decide +kernel
theorem d16 : decode yB 16 = .ok (.iload_n 2, 1) := by decide +kernel
theorem d17 : decode yB 17 = .ok (.if_icmp (.eq) 40, 3) := by decide +kernel
theorem d57 : decode yB 57 = .ok (.aload_n 3, 1) := by decide +kernel
theorem d58 : decode yB 58 = .ok (.areturn, 1) := by decide +kernel
def site : List Cond := [.arrayClass .byte, Cmp5.tab] ++ staticW U16 115 Cmp5.yN
def tab : Cond := tabOf yN yB 6 (some (.array .byte)) site
def P (b : Addr) (A : Cell) (o len : Nat) (args : Array Value) (s : State) : Prop := args = #[.ref b, .int (Int32.ofNat o), .int (Int32.ofNat len)] ∧ Ch b A s ∧ o + len ≤ A.slots.size ∧ len ≤ 536870912 ∧ ∀ i, i < len → ¬ 255 < cv A (o + i)
def E (b : Addr) (A : Cell) (o len : Nat) (r : Option Value) (s u : State) : Prop := NewArr .byte "[B" len (fun j => .int (lo8 (cv A (o + j)))) r s u ∧ u.heap.size = s.heap.size + 1
/-- no char of the range above 255: a new byte[] of their low bytes -/
theorem law (l : Launch) (b : Addr) (A : Cell) (o len : Nat) : Law l yN 3 3 1 18 yB 6 (some (.array .byte)) site (P b A o len) (E b A o len) [] 1 len := by
  refine Law.of_walk (plainFor_of_name (by decide +kernel)) (by decide +kernel) (by decide +kernel) (by decide) (fun _ _ h => by rw [h.1]; rfl) (fun _ U U' hal hh h => ⟨h.1, h.2.1.mv hal hh, h.2.2⟩) (fun r U U' V V' h1 hal h2 h => ⟨NewArr.mv r U U' V V' h1 hal h2 h.1, by rw [h1, h2]; exact h.2⟩) ?_
  intro p e s m args below meth c s₁ X0 hexec hbytes hml hret hlk hnm hown hh0 W hP
  obtain ⟨rfl, hA, l1, l2, hp⟩ := hP
  have a31 := hA.1.2.2.2
  have c1 : Steps p.tables e below (s₁.setTop (entryFrame m #[.ref b, .int (Int32.ofNat o), .int (Int32.ofNat len)] 6)) (s₁.setTop (mkF m 0 #[.val (.ref b), .val (.int (Int32.ofNat o)), .val (.int (Int32.ofNat len)), .unset, .unset, .unset] [])) := entry rfl
  have c2 : Steps p.tables e below (s₁.setTop (entryFrame m #[.ref b, .int (Int32.ofNat o), .int (Int32.ofNat len)] 6)) (s₁.setTop (mkF m 1 #[.val (.ref b), .val (.int (Int32.ofNat o)), .val (.int (Int32.ofNat len)), .unset, .unset, .unset] [.int (Int32.ofNat len)])) := c1.trans (by
    refine XS.iloadN X0.here hexec rfl (hb hbytes d0) rfl ?_
    exact Steps.refl _)
  obtain ⟨T3, B3, X3, ba3, bs3, bv3, bh3, bf3, st3⟩ := X0.anew hexec (atype := .byte) (wk W (.arrayClass .byte)) rfl (by show len * 1 ≤ _; omega) (by omega) (g := (mkF m 1 #[.val (.ref b), .val (.int (Int32.ofNat o)), .val (.int (Int32.ofNat len)), .unset, .unset, .unset] [.int (Int32.ofNat len)])) rfl (hb hbytes d1) (rest := []) rfl (Nat.le_refl _) (by show 0 + len ≤ len; omega)
  rw [hh0] at ba3 st3
  have kp3 : XT.Kept s T3 := (XT.Kept.of_eq hh0).push bh3
  have hA3 := hA.keep X3.warmed.alike (kp3 _ _ hA.1.1)
  have hne : b ≠ s.heap.size := hA.1.ne
  have c4 : Steps p.tables e below (s₁.setTop (entryFrame m #[.ref b, .int (Int32.ofNat o), .int (Int32.ofNat len)] 6)) (T3.setTop (mkF m 3 #[.val (.ref b), .val (.int (Int32.ofNat o)), .val (.int (Int32.ofNat len)), .unset, .unset, .unset] [.ref s.heap.size])) := c2.trans (st3 _ (Steps.refl _))
  have c5 : Steps p.tables e below (s₁.setTop (entryFrame m #[.ref b, .int (Int32.ofNat o), .int (Int32.ofNat len)] 6)) (T3.setTop (mkF m 9 #[.val (.ref b), .val (.int (Int32.ofNat o)), .val (.int (Int32.ofNat len)), .val (.ref s.heap.size), .unset, .unset] [.int (Int32.ofNat len), .int 0, .ref s.heap.size, .int (Int32.ofNat o), .ref b])) := c4.trans (by
    refine XS.astoreN X3.here hexec rfl (hb hbytes d3) rfl rfl rfl ?_
    refine XS.aloadN X3.here hexec rfl (hb hbytes d4) rfl rfl ?_
    refine XS.iloadN X3.here hexec rfl (hb hbytes d5) rfl ?_
    refine XS.aloadN X3.here hexec rfl (hb hbytes d6) rfl rfl ?_
    refine iconstV X3.here hexec rfl 0 (hb hbytes d7) (by decide) ?_
    refine XS.iloadN X3.here hexec rfl (hb hbytes d8) rfl ?_
    exact Steps.refl _)
  obtain ⟨v6, T6, X6, E6, g6⟩ := X3.callS hexec (Cmp5.law l b A s.heap.size B3 o 0 len) hown (wks W (staticW U16 115 Cmp5.yN)) (wk W Cmp5.tab) (W := 0) (Nat.le_of_ble_eq_true rfl) (Nat.le_of_ble_eq_true rfl) (Nat.le_refl _) (by show 0 + len + 0 ≤ len; omega) (g := (mkF m 9 #[.val (.ref b), .val (.int (Int32.ofNat o)), .val (.int (Int32.ofNat len)), .val (.ref s.heap.size), .unset, .unset] [.int (Int32.ofNat len), .int (Int32.ofNat 0), .ref s.heap.size, .int (Int32.ofNat o), .ref b])) rfl (by rw [hml]; rfl) c5 (argsL := [.ref b, .int (Int32.ofNat o), .ref s.heap.size, .int (Int32.ofNat 0), .int (Int32.ofNat len)]) (rest := []) rfl rfl (by show 2 * 0 + 0 ≤ _; decide) (hb hbytes d9) (⟨rfl, hA3, ba3, hne, l1, by rw [bs3]; simp, hp⟩)
  obtain ⟨rfl, B6, p6, f6⟩ := E6
  have c7 : Steps p.tables e below (s₁.setTop (entryFrame m #[.ref b, .int (Int32.ofNat o), .int (Int32.ofNat len)] 6)) (T6.setTop (mkF m 12 #[.val (.ref b), .val (.int (Int32.ofNat o)), .val (.int (Int32.ofNat len)), .val (.ref s.heap.size), .unset, .unset] [.int (Int32.ofNat len)])) := g6
  have c8 : Steps p.tables e below (s₁.setTop (entryFrame m #[.ref b, .int (Int32.ofNat o), .int (Int32.ofNat len)] 6)) (T6.setTop (mkF m 58 #[.val (.ref b), .val (.int (Int32.ofNat o)), .val (.int (Int32.ofNat len)), .val (.ref s.heap.size), .val (.int (Int32.ofNat len)), .unset] [.ref s.heap.size])) := c7.trans (by
    refine XS.istore X6.here hexec rfl (hb hbytes d12) rfl rfl ?_
    refine XS.iload X6.here hexec rfl (hb hbytes d14) rfl ?_
    refine XS.iloadN X6.here hexec rfl (hb hbytes d16) rfl ?_
    refine XS.icmpYes X6.here hexec rfl (pc0 := 17) rfl (hb hbytes d17) rfl (ii_eq_t rfl) (by decide) rfl ?_
    refine XS.aloadN X6.here hexec rfl (hb hbytes d57) rfl rfl ?_
    exact Steps.refl _)
  have X8 := X6.wide (L' := []) (cells' := 1) (slots' := len) (fun x hx hlt => by
    simp only [List.nil_append, copyLocs, List.mem_map, List.mem_range] at hx
    obtain ⟨i, -, rfl⟩ := hx
    exact absurd hlt (Nat.lt_irrefl _)) (Nat.le_refl _) (by omega)
  exact ⟨T6, some (.ref s.heap.size), _, _, _, X8, rfl, rfl, rfl, (fun h => by cases h), ⟨⟨rfl, B6, ba3.like (X3.warmed.alike.symm.trans X6.warmed.alike) p6.1 f6.1 f6.2.1 f6.2.2.1, f6.2.1.trans bv3, by rw [X6.warmed.alike.findClass, f6.1]; exact bf3, by rw [f6.2.2.1, bs3]; simp, fun j hj => by rw [f6.2.2.2 j, if_pos (by omega)]; rfl, kp3.put p6 (Nat.le_refl _)⟩, by rw [p6.2.2, bh3, hh0]; simp⟩, fun fs hl => c8.trans (X8.areturnOut hexec rfl hret rfl (hb hbytes d58) hl)⟩
end Cmp3
namespace CodL
def yN : MethodName := ⟨"java/lang/StringUTF16", "coderFromArrayLen", "([BI)B"⟩
abbrev yB : ByteArray := jdk_52_method_15_code
theorem d0 : decode yB 0 = .ok (.iload_n 1, 1) := by decide +kernel
theorem d1 : decode yB 1 = .ok (.aload_n 0, 1) := by decide +kernel
theorem d2 : decode yB 2 = .ok (.arraylength, 1) := by decide +kernel
theorem d3 : decode yB 3 = .ok (.isub, 1) := by decide +kernel
theorem d4 : decode yB 4 = .ok (.bipush 31, 2) := by decide +kernel
theorem d6 : decode yB 6 = .ok (.iushr, 1) := by decide +kernel
theorem d7 : decode yB 7 = .ok (.i2b, 1) := by decide +kernel
theorem d8 : decode yB 8 = .ok (.ireturn, 1) := by decide +kernel
def site : List Cond := []
def tab : Cond := tabOf yN yB 2 (some .byte) site
def P (d : Addr) (B : Cell) (args : Array Value) (s : State) : Prop := args = #[.ref d, .int (Int32.ofNat B.slots.size)] ∧ Arr .byte d B s
def E (r : Option Value) (s u : State) : Prop := XT.PureE (some (.int 0)) r s u
/-- an array as long as the number of chars: LATIN1 -/
theorem law (l : Launch) (d : Addr) (B : Cell) : Law l yN 2 2 0 0 yB 2 (some .byte) site (P d B) E [] 0 0 := by
  refine Law.of_walk (plainFor_of_name (by decide +kernel)) (by decide +kernel) (by decide +kernel) (by decide) (fun _ _ h => by rw [h.1]; rfl) (fun _ U U' hal hh h => ⟨h.1, h.2.mv hal hh⟩) (fun r U U' V V' h1 hal h2 h => XT.PureE.mv r U U' V V' h1 hal h2 h) ?_
  intro p e s m args below meth c s₁ X0 hexec hbytes hml hret hlk hnm hown hh0 W hP
  obtain ⟨rfl, hB⟩ := hP
  have hB0 := hB.mv X0.warmed.alike hh0
  have c1 : Steps p.tables e below (s₁.setTop (entryFrame m #[.ref d, .int (Int32.ofNat B.slots.size)] 2)) (s₁.setTop (mkF m 0 #[.val (.ref d), .val (.int (Int32.ofNat B.slots.size))] [])) := entry rfl
  have c2 : Steps p.tables e below (s₁.setTop (entryFrame m #[.ref d, .int (Int32.ofNat B.slots.size)] 2)) (s₁.setTop (mkF m 2 #[.val (.ref d), .val (.int (Int32.ofNat B.slots.size))] [.ref d, .int (Int32.ofNat B.slots.size)])) := c1.trans (by
    refine XS.iloadN X0.here hexec rfl (hb hbytes d0) rfl ?_
    refine XS.aloadN X0.here hexec rfl (hb hbytes d1) rfl rfl ?_
    exact Steps.refl _)
  have c3 : Steps p.tables e below (s₁.setTop (entryFrame m #[.ref d, .int (Int32.ofNat B.slots.size)] 2)) (s₁.setTop (mkF m 8 #[.val (.ref d), .val (.int (Int32.ofNat B.slots.size))] [.int (lo8 (ushr (Int32.ofNat B.slots.size - Int32.ofNat B.slots.size) 31))])) := c2.trans (by
    refine X0.alen hexec hB0 rfl rfl (hb hbytes d2) ?_
    refine XS.isub X0.here hexec rfl (hb hbytes d3) rfl ?_
    refine bipushV X0.here hexec rfl 31 (hb hbytes d4) (by decide) ?_
    refine iushr X0.here hexec rfl (hb hbytes d6) rfl ?_
    refine i2b X0.here hexec rfl (hb hbytes d7) rfl ?_
    exact Steps.refl _)
  have e0 : lo8 (ushr (Int32.ofNat B.slots.size - Int32.ofNat B.slots.size) 31) = 0 := by rw [Int32.sub_self]; decide
  rw [e0] at c3
  exact ⟨s₁, some (.int 0), _, _, _, X0, rfl, rfl, rfl, (fun h => by cases h), ⟨rfl, hh0⟩, fun fs hl => c3.trans (X0.ireturnOut hexec hret rfl (Or.inr (Or.inr (Or.inl rfl))) (hb hbytes d8) hl)⟩
end CodL
/-- the String at a is Latin-1 over a new byte[] (the heap's one new cell): the low bytes of the len chars of A from o on; every cell but a is kept -/
def Got (a : Addr) (D : Cell) (fV fC : Field) (A : Cell) (o len : Nat) (r : Option Value) (s u : State) : Prop := r = none ∧ ∃ D' V : Cell, Blank "java/lang/String" a D' u ∧ Same D D' [fV.slot, fC.slot] ∧ D'.slots[fV.slot]? = some (.ref s.heap.size) ∧ D'.slots[fC.slot]? = some (.int 0) ∧ Arr .byte s.heap.size V u ∧ V.vm = .none ∧ u.vm.findClass "[B" = some V.cls ∧ V.slots.size = len ∧ (∀ j, j < len → V.slots[j]? = some (.int (lo8 (cv A (o + j))))) ∧ (∀ (y : Addr) (c : Cell), y ≠ a → s.heap[y]? = some c → u.heap[y]? = some c) ∧ u.heap.size = s.heap.size + 1
theorem Got.mv {a : Addr} {D A : Cell} {fV fC : Field} {o len : Nat} : ∀ r (U U' V V' : State), U'.heap = U.heap → V.vm.Alike V'.vm → V'.heap = V.heap → Got a D fV fC A o len r U V → Got a D fV fC A o len r U' V' :=
  fun r U U' V V' h1 hal h2 ⟨e0, D', X, a1, a2, a3, a4, a5, a6, a7, a8, a9, a10, a11⟩ => ⟨e0, D', X, a1.mv hal h2, a2, by rw [h1]; exact a3, a4, by rw [h1]; exact a5.mv hal h2, a6, by rw [hal.findClass]; exact a7, a8, a9, by rw [h1, h2]; exact a10, by rw [h1, h2]; exact a11⟩
namespace New4
def yN : MethodName := ⟨"java/lang/String", "<init>", "([CIILjava/lang/Void;)V"⟩
abbrev yB : ByteArray := jdk_42_method_149_code
theorem d0 : decode yB 0 = .ok (.aload_n 0, 1) := by decide +kernel
theorem d1 : decode yB 1 = .ok (.invokespecial 1, 3) := by decide +kernel
theorem d4 : decode yB 4 = .ok (.iload_n 3, 1) := by decide +kernel
theorem d5 : decode yB 5 = .ok (.ifCond (.ne) 22, 3) := by decide +kernel
theorem d27 : decode yB 27 = .ok (.getstatic 38, 3) := by decide +kernel
theorem d30 : decode yB 30 = .ok (.ifCond (.eq) 28, 3) := by decide +kernel
theorem d33 : decode yB 33 = .ok (.aload_n 1, 1) := by decide +kernel
theorem d34 : decode yB 34 = .ok (.iload_n 2, 1) := by decide +kernel
theorem d35 : decode yB 35 = .ok (.iload_n 3, 1) := by decide +kernel
theorem d36 : decode yB 36 = .ok (.invokestatic 177, 3) := by decide +kernel
theorem d39 : decode yB 39 = .ok (.astore 5, 2) := by decide +kernel
theorem d41 : decode yB 41 = .ok (.aload_n 0, 1) := by decide +kernel
theorem d42 : decode yB 42 = .ok (.aload 5, 2) := by decide +kernel
theorem d44 : decode yB 44 = .ok (.iload_n 3, 1) := by decide +kernel
theorem d45 : decode yB 45 = .ok (.invokestatic 47, 3) := by decide +kernel
theorem d48 : decode yB 48 = .ok (.putfield 15, 3) := by decide +kernel
theorem d51 : decode yB 51 = .ok (.aload_n 0, 1) := by decide +kernel
theorem d52 : decode yB 52 = .ok (.aload 5, 2) := by decide +kernel
theorem d54 : decode yB 54 = .ok (.putfield 9, 3) := by decide +kernel
theorem d57 : decode yB 57 = .ok (.return_, 1) := by decide +kernel
def site : List Cond := [.fieldLink "java/lang/String" 38 "java/lang/String" "COMPACT_STRINGS" "Z", Cmp3.tab, CodL.tab, .laysFinal "java/lang/String" "java/lang/String" "value" "[B", .fieldLink "java/lang/String" 9 "java/lang/String" "value" "[B", .laysFinal "java/lang/String" "java/lang/String" "coder" "B", .fieldLink "java/lang/String" 15 "java/lang/String" "coder" "B"] ++ objW "java/lang/String" 1 ++ staticW "java/lang/String" 177 Cmp3.yN ++ staticW "java/lang/String" 47 CodL.yN
def tab : Cond := tabOf yN yB 6 none site
def P (a : Addr) (D : Cell) (fV fC : Field) (b : Addr) (A : Cell) (z : Int32) (o len : Nat) (args : Array Value) (s : State) : Prop := args = #[.ref a, .ref b, .int (Int32.ofNat o), .int (Int32.ofNat len), .null] ∧ Blank "java/lang/String" a D s ∧ Found "java/lang/String" "value" "[B" fV s ∧ Found "java/lang/String" "coder" "B" fC s ∧ Ch b A s ∧ StaticIs s "java/lang/String" "COMPACT_STRINGS" "Z" (.int z) ∧ ¬ z = 0 ∧ 0 < len ∧ o + len ≤ A.slots.size ∧ len ≤ 536870912 ∧ ∀ i, i < len → ¬ 255 < cv A (o + i)
def E (a : Addr) (D : Cell) (fV fC : Field) (A : Cell) (o len : Nat) (r : Option Value) (s u : State) : Prop := Got a D fV fC A o len r s u
/-- len > 0, no char of the range above 255: a Latin-1 String of their low bytes -/
theorem law (l : Launch) (a : Addr) (D : Cell) (fV fC : Field) (b : Addr) (A : Cell) (z : Int32) (o len : Nat) : Law l yN 5 4 2 35 yB 6 none site (P a D fV fC b A z o len) (E a D fV fC A o len) [⟨a, fC.slot⟩, ⟨a, fV.slot⟩] 1 len := by
  refine Law.of_walk (plainFor_of_name (by decide +kernel)) (by decide +kernel) (by decide +kernel) (by decide) (fun _ _ h => by rw [h.1]; rfl) (fun _ U U' hal hh h => ⟨h.1, h.2.1.mv hal hh, h.2.2.1.al hal, h.2.2.2.1.al hal, h.2.2.2.2.1.mv hal hh, h.2.2.2.2.2.1.there hal hh, h.2.2.2.2.2.2⟩) (fun r U U' V V' h1 hal h2 h => Got.mv r U U' V V' h1 hal h2 h) ?_
  intro p e s m args below meth c s₁ X0 hexec hbytes hml hret hlk hnm hown hh0 W hP
  obtain ⟨rfl, hB, f1, f2, hA, s1, hz, l0, l1, l2, hp⟩ := hP
  have a31 := hA.1.2.2.2
  have c1 : Steps p.tables e below (s₁.setTop (entryFrame m #[.ref a, .ref b, .int (Int32.ofNat o), .int (Int32.ofNat len), .null] 6)) (s₁.setTop (mkF m 0 #[.val (.ref a), .val (.ref b), .val (.int (Int32.ofNat o)), .val (.int (Int32.ofNat len)), .val .null, .unset] [])) := entry rfl
  have c2 : Steps p.tables e below (s₁.setTop (entryFrame m #[.ref a, .ref b, .int (Int32.ofNat o), .int (Int32.ofNat len), .null] 6)) (s₁.setTop (mkF m 1 #[.val (.ref a), .val (.ref b), .val (.int (Int32.ofNat o)), .val (.int (Int32.ofNat len)), .val .null, .unset] [.ref a])) := c1.trans (by
    refine XS.aloadN X0.here hexec rfl (hb hbytes d0) rfl rfl ?_
    exact Steps.refl _)
  obtain ⟨T3, X3, q3, st3⟩ := X0.oinit hexec hown (wks W (objW "java/lang/String" 1)) (g := (mkF m 1 #[.val (.ref a), .val (.ref b), .val (.int (Int32.ofNat o)), .val (.int (Int32.ofNat len)), .val .null, .unset] [.ref a])) rfl (by rw [hml]; rfl) (rest := []) rfl (hb hbytes d1) (W := 0) (by show 2 * 0 + 0 ≤ _; decide) (Nat.le_of_ble_eq_true rfl) (Nat.le_of_ble_eq_true rfl)
  have hh3 := q3.trans hh0
  have c4 : Steps p.tables e below (s₁.setTop (entryFrame m #[.ref a, .ref b, .int (Int32.ofNat o), .int (Int32.ofNat len), .null] 6)) (T3.setTop (mkF m 27 #[.val (.ref a), .val (.ref b), .val (.int (Int32.ofNat o)), .val (.int (Int32.ofNat len)), .val .null, .unset] [])) := (c2.trans (st3 _ (Steps.refl _))).trans (by
    refine XS.iloadN X3.here hexec rfl (hb hbytes d4) rfl ?_
    refine XS.ifYes X3.here hexec rfl (pc0 := 5) rfl (hb hbytes d5) rfl (i0_ne_t (nz32 (by omega) l0)) (by decide) rfl ?_
    exact Steps.refl _)
  obtain ⟨T5, X5, q5, st5⟩ := X3.sget hexec hown (wk W (.fieldLink "java/lang/String" 38 "java/lang/String" "COMPACT_STRINGS" "Z")) s1 (fun _ _ h => by rw [hh3]; exact h) (g := (mkF m 27 #[.val (.ref a), .val (.ref b), .val (.int (Int32.ofNat o)), .val (.int (Int32.ofNat len)), .val .null, .unset] [])) rfl (hb hbytes d27)
  have hh5 := q5.trans hh3
  have c6 : Steps p.tables e below (s₁.setTop (entryFrame m #[.ref a, .ref b, .int (Int32.ofNat o), .int (Int32.ofNat len), .null] 6)) (T5.setTop (mkF m 30 #[.val (.ref a), .val (.ref b), .val (.int (Int32.ofNat o)), .val (.int (Int32.ofNat len)), .val .null, .unset] [.int z])) := c4.trans (st5 _ (Steps.refl _))
  have c7 : Steps p.tables e below (s₁.setTop (entryFrame m #[.ref a, .ref b, .int (Int32.ofNat o), .int (Int32.ofNat len), .null] 6)) (T5.setTop (mkF m 36 #[.val (.ref a), .val (.ref b), .val (.int (Int32.ofNat o)), .val (.int (Int32.ofNat len)), .val .null, .unset] [.int (Int32.ofNat len), .int (Int32.ofNat o), .ref b])) := c6.trans (by
    refine XS.ifNo X5.here hexec rfl (hb hbytes d30) rfl (i0_eq_f hz) ?_
    refine XS.aloadN X5.here hexec rfl (hb hbytes d33) rfl rfl ?_
    refine XS.iloadN X5.here hexec rfl (hb hbytes d34) rfl ?_
    refine XS.iloadN X5.here hexec rfl (hb hbytes d35) rfl ?_
    exact Steps.refl _)
  obtain ⟨v8, T8, X8, E8, g8⟩ := X5.callS hexec (Cmp3.law l b A o len) hown (wks W (staticW "java/lang/String" 177 Cmp3.yN)) (wk W Cmp3.tab) (W := 0) (Nat.le_of_ble_eq_true rfl) (Nat.le_of_ble_eq_true rfl) (Nat.le_refl _) (by show 0 + len ≤ len; omega) (g := (mkF m 36 #[.val (.ref a), .val (.ref b), .val (.int (Int32.ofNat o)), .val (.int (Int32.ofNat len)), .val .null, .unset] [.int (Int32.ofNat len), .int (Int32.ofNat o), .ref b])) rfl (by rw [hml]; rfl) c7 (argsL := [.ref b, .int (Int32.ofNat o), .int (Int32.ofNat len)]) (rest := []) rfl rfl (by show 2 * 0 + 0 ≤ _; decide) (hb hbytes d36) (⟨rfl, hA.mv X5.warmed.alike hh5, l1, l2, hp⟩)
  obtain ⟨e8, z8⟩ := E8
  obtain ⟨rfl, N, n1, n2, n3, n4, n5, n6⟩ := NewArr.mv _ T5 s _ _ hh5.symm (Vm.Alike.refl _) rfl e8
  rw [hh5] at z8
  have hB1 := hB.keep X8.warmed.alike (n6 _ _ hB.1)
  have hne : s.heap.size ≠ a := (Nat.ne_of_lt (Array.getElem?_eq_some_iff.mp hB.1).1).symm
  have c9 : Steps p.tables e below (s₁.setTop (entryFrame m #[.ref a, .ref b, .int (Int32.ofNat o), .int (Int32.ofNat len), .null] 6)) (T8.setTop (mkF m 39 #[.val (.ref a), .val (.ref b), .val (.int (Int32.ofNat o)), .val (.int (Int32.ofNat len)), .val .null, .unset] [.ref s.heap.size])) := g8
  have c10 : Steps p.tables e below (s₁.setTop (entryFrame m #[.ref a, .ref b, .int (Int32.ofNat o), .int (Int32.ofNat len), .null] 6)) (T8.setTop (mkF m 45 #[.val (.ref a), .val (.ref b), .val (.int (Int32.ofNat o)), .val (.int (Int32.ofNat len)), .val .null, .val (.ref s.heap.size)] [.int (Int32.ofNat N.slots.size), .ref s.heap.size, .ref a])) := by
    have hc : Steps p.tables e below (s₁.setTop (entryFrame m #[.ref a, .ref b, .int (Int32.ofNat o), .int (Int32.ofNat len), .null] 6)) (T8.setTop (mkF m 45 #[.val (.ref a), .val (.ref b), .val (.int (Int32.ofNat o)), .val (.int (Int32.ofNat len)), .val .null, .val (.ref s.heap.size)] [.int (Int32.ofNat len), .ref s.heap.size, .ref a])) := c9.trans (by
      refine XS.astore X8.here hexec rfl (hb hbytes d39) rfl rfl rfl ?_
      refine XS.aloadN X8.here hexec rfl (hb hbytes d41) rfl rfl ?_
      refine XS.aload X8.here hexec rfl (hb hbytes d42) rfl rfl ?_
      refine XS.iloadN X8.here hexec rfl (hb hbytes d44) rfl ?_
      exact Steps.refl _)
    rw [n4]; exact hc
  obtain ⟨v11, T11, X11, E11, g11⟩ := X8.callS hexec (CodL.law l s.heap.size N) hown (wks W (staticW "java/lang/String" 47 CodL.yN)) (wk W CodL.tab) (W := 1) (Nat.le_of_ble_eq_true rfl) (Nat.le_of_ble_eq_true rfl) (Nat.le_refl _) (by show 0 + len + 0 ≤ len; omega) (g := (mkF m 45 #[.val (.ref a), .val (.ref b), .val (.int (Int32.ofNat o)), .val (.int (Int32.ofNat len)), .val .null, .val (.ref s.heap.size)] [.int (Int32.ofNat N.slots.size), .ref s.heap.size, .ref a])) rfl (by rw [hml]; rfl) c10 (argsL := [.ref s.heap.size, .int (Int32.ofNat N.slots.size)]) (rest := [.ref a]) rfl rfl (by show 2 * 0 + (1 + 0) ≤ _; decide) (hb hbytes d45) (⟨rfl, n1⟩)
  obtain ⟨rfl, q11⟩ := E11
  have hB11 := hB1.mv (X8.warmed.alike.symm.trans X11.warmed.alike) q11
  have c12 : Steps p.tables e below (s₁.setTop (entryFrame m #[.ref a, .ref b, .int (Int32.ofNat o), .int (Int32.ofNat len), .null] 6)) (T11.setTop (mkF m 48 #[.val (.ref a), .val (.ref b), .val (.int (Int32.ofNat o)), .val (.int (Int32.ofNat len)), .val .null, .val (.ref s.heap.size)] [.int 0, .ref a])) := g11
  obtain ⟨T13, X13, p13, bl13, sl13, st13⟩ := X11.finit hexec hown (wk W (.fieldLink "java/lang/String" 15 "java/lang/String" "coder" "B")) (Or.inr ⟨_, (wk W (.laysFinal "java/lang/String" "java/lang/String" "coder" "B"))⟩) (Or.inl ⟨rfl, hnm⟩) f2 (Or.inl rfl) hB11 (t := .byte) (by decide +kernel) rfl (g := (mkF m 48 #[.val (.ref a), .val (.ref b), .val (.int (Int32.ofNat o)), .val (.int (Int32.ofNat len)), .val .null, .val (.ref s.heap.size)] [.int 0, .ref a])) rfl (rest := []) rfl (hb hbytes d48)
  have c14 : Steps p.tables e below (s₁.setTop (entryFrame m #[.ref a, .ref b, .int (Int32.ofNat o), .int (Int32.ofNat len), .null] 6)) (T13.setTop (mkF m 54 #[.val (.ref a), .val (.ref b), .val (.int (Int32.ofNat o)), .val (.int (Int32.ofNat len)), .val .null, .val (.ref s.heap.size)] [.ref s.heap.size, .ref a])) := (c12.trans (st13 _ (Steps.refl _))).trans (by
    refine XS.aloadN X13.here hexec rfl (hb hbytes d51) rfl rfl ?_
    refine XS.aload X13.here hexec rfl (hb hbytes d52) rfl rfl ?_
    exact Steps.refl _)
  obtain ⟨T15, X15, p15, bl15, sl15, st15⟩ := X13.finit hexec hown (wk W (.fieldLink "java/lang/String" 9 "java/lang/String" "value" "[B")) (Or.inr ⟨_, (wk W (.laysFinal "java/lang/String" "java/lang/String" "value" "[B"))⟩) (Or.inl ⟨rfl, hnm⟩) f1 (Or.inl rfl) bl13 (t := (.array .byte)) (by decide +kernel) rfl (g := (mkF m 54 #[.val (.ref a), .val (.ref b), .val (.int (Int32.ofNat o)), .val (.int (Int32.ofNat len)), .val .null, .val (.ref s.heap.size)] [.ref s.heap.size, .ref a])) rfl (rest := []) rfl (hb hbytes d54)
  have c16 : Steps p.tables e below (s₁.setTop (entryFrame m #[.ref a, .ref b, .int (Int32.ofNat o), .int (Int32.ofNat len), .null] 6)) (T15.setTop (mkF m 57 #[.val (.ref a), .val (.ref b), .val (.int (Int32.ofNat o)), .val (.int (Int32.ofNat len)), .val .null, .val (.ref s.heap.size)] [])) := c14.trans (st15 _ (Steps.refl _))
  have ap := apart (Or.inr ⟨_, (wk W (.laysFinal "java/lang/String" "java/lang/String" "value" "[B"))⟩) (Or.inr ⟨_, (wk W (.laysFinal "java/lang/String" "java/lang/String" "coder" "B"))⟩) f1 f2 (t₁ := .array .byte) (t₂ := .byte) (by decide +kernel) (by decide +kernel) (by decide)
  have al := X8.warmed.alike.symm.trans X15.warmed.alike
  have n7 : T11.heap[s.heap.size]? = some N := by rw [q11]; exact n1.1
  exact ⟨T15, none, _, _, _, X15, by simp, rfl, by omega, (fun _ => rfl), ⟨rfl, _, N, bl15, ((Same.refl D _).set _ (by simp)).set _ (by simp), sl15, (Cell.slots_setSlot_ne _ ap).trans sl13, n1.keep al (p15.other hne (p13.other hne n7)), n2, by rw [al.findClass]; exact n3, n4, n5, fun y c h1 h2 => p15.other h1 (p13.other h1 (by rw [q11]; exact n6 y c h2)), by rw [p15.2.2, p13.2.2, q11]; exact z8⟩, fun fs hl => c16.trans (X15.returnOut hexec hret (hb hbytes d57) hl)⟩
end New4
namespace New1
def yN : MethodName := ⟨"java/lang/String", "<init>", "([C)V"⟩
abbrev yB : ByteArray := jdk_42_method_3_code
theorem d0 : decode yB 0 = .ok (.aload_n 0, 1) := by decide +kernel
theorem d1 : decode yB 1 = .ok (.aload_n 1, 1) := by decide +kernel
theorem d2 : decode yB 2 = .ok (.iconst 0, 1) := by decide +kernel
theorem d3 : decode yB 3 = .ok (.aload_n 1, 1) := by decide +kernel
theorem d4 : decode yB 4 = .ok (.arraylength, 1) := by decide +kernel
theorem d5 : decode yB 5 = .ok (.aconst_null, 1) := by decide +kernel
theorem d6 : decode yB 6 = .ok (.invokespecial 27, 3) := by decide +kernel
theorem d9 : decode yB 9 = .ok (.return_, 1) := by decide +kernel
def site : List Cond := [New4.tab] ++ initW "java/lang/String" 27 New4.yN
def tab : Cond := tabOf yN yB 2 none site
def P (a : Addr) (D : Cell) (fV fC : Field) (b : Addr) (A : Cell) (z : Int32) (args : Array Value) (s : State) : Prop := args = #[.ref a, .ref b] ∧ Blank "java/lang/String" a D s ∧ Found "java/lang/String" "value" "[B" fV s ∧ Found "java/lang/String" "coder" "B" fC s ∧ Ch b A s ∧ StaticIs s "java/lang/String" "COMPACT_STRINGS" "Z" (.int z) ∧ ¬ z = 0 ∧ 0 < A.slots.size ∧ A.slots.size ≤ 536870912 ∧ ∀ i, i < A.slots.size → ¬ 255 < cv A i
def E (a : Addr) (D : Cell) (fV fC : Field) (A : Cell) (r : Option Value) (s u : State) : Prop := Got a D fV fC A 0 A.slots.size r s u
/-- new String(chars), not empty, no char above 255: a Latin-1 String of their low bytes -/
theorem law (l : Launch) (a : Addr) (D : Cell) (fV fC : Field) (b : Addr) (A : Cell) (z : Int32) : Law l yN 2 1 3 52 yB 2 none site (P a D fV fC b A z) (E a D fV fC A) [⟨a, fC.slot⟩, ⟨a, fV.slot⟩] 1 A.slots.size := by
  refine Law.of_walk (plainFor_of_name (by decide +kernel)) (by decide +kernel) (by decide +kernel) (by decide) (fun _ _ h => by rw [h.1]; rfl) (fun _ U U' hal hh h => ⟨h.1, h.2.1.mv hal hh, h.2.2.1.al hal, h.2.2.2.1.al hal, h.2.2.2.2.1.mv hal hh, h.2.2.2.2.2.1.there hal hh, h.2.2.2.2.2.2⟩) (fun r U U' V V' h1 hal h2 h => Got.mv r U U' V V' h1 hal h2 h) ?_
  intro p e s m args below meth c s₁ X0 hexec hbytes hml hret hlk hnm hown hh0 W hP
  obtain ⟨rfl, hB, f1, f2, hA, s1, hz, l0, l2, hp⟩ := hP
  have c1 : Steps p.tables e below (s₁.setTop (entryFrame m #[.ref a, .ref b] 2)) (s₁.setTop (mkF m 0 #[.val (.ref a), .val (.ref b)] [])) := entry rfl
  have c2 : Steps p.tables e below (s₁.setTop (entryFrame m #[.ref a, .ref b] 2)) (s₁.setTop (mkF m 6 #[.val (.ref a), .val (.ref b)] [.null, .int (Int32.ofNat A.slots.size), .int 0, .ref b, .ref a])) := c1.trans (by
    refine XS.aloadN X0.here hexec rfl (hb hbytes d0) rfl rfl ?_
    refine XS.aloadN X0.here hexec rfl (hb hbytes d1) rfl rfl ?_
    refine iconstV X0.here hexec rfl 0 (hb hbytes d2) (by decide) ?_
    refine XS.aloadN X0.here hexec rfl (hb hbytes d3) rfl rfl ?_
    refine X0.alen hexec (hA.1.mv X0.warmed.alike hh0) rfl rfl (hb hbytes d4) ?_
    refine XS.aconstNull X0.here hexec rfl (hb hbytes d5) ?_
    exact Steps.refl _)
  obtain ⟨v3, T3, X3, E3, g3⟩ := X0.callN hexec (New4.law l a D fV fC b A z 0 A.slots.size) rfl hown (wks W (initW "java/lang/String" 27 New4.yN)) (W New4.tab (by simp only [site, List.mem_cons, List.mem_append, true_or, or_true])) (W := 0) (Nat.le_of_ble_eq_true rfl) (Nat.le_of_ble_eq_true rfl) (Nat.le_refl _) (by show 0 + A.slots.size ≤ A.slots.size; omega) (g := (mkF m 6 #[.val (.ref a), .val (.ref b)] [.null, .int (Int32.ofNat A.slots.size), .int (Int32.ofNat 0), .ref b, .ref a])) rfl (by rw [hml]; rfl) c2 (argsL := [.ref b, .int (Int32.ofNat 0), .int (Int32.ofNat A.slots.size), .null]) (rest := []) rfl rfl (by show 2 * 0 + 0 ≤ _; decide) (hb hbytes d6) (⟨rfl, hB.mv X0.warmed.alike hh0, f1.al X0.warmed.alike, f2.al X0.warmed.alike, hA.mv X0.warmed.alike hh0, s1.there X0.warmed.alike hh0, hz, l0, by omega, l2, fun i hi => by rw [Nat.zero_add]; exact hp i hi⟩)
  have e0 := Got.mv _ s₁ s _ _ hh0.symm (Vm.Alike.refl _) rfl E3
  obtain rfl := e0.1
  have c4 : Steps p.tables e below (s₁.setTop (entryFrame m #[.ref a, .ref b] 2)) (T3.setTop (mkF m 9 #[.val (.ref a), .val (.ref b)] [])) := g3
  exact ⟨T3, none, _, _, _, X3, by simp, rfl, by omega, (fun _ => rfl), e0, fun fs hl => c4.trans (X3.returnOut hexec hret (hb hbytes d9) hl)⟩
theorem pays {l : Launch} {R : Room} {p : Program} {e : Env} {below : List Frame} {s : State} {sargs : Array Value} {len W : Nat} (a : Addr) (D : Cell) (fV fC : Field) (b : Addr) (A : Cell) (z : Int32) (htab : tab.before sargs s = true) (hfr : 4 ≤ R.frames) (hlo : W + 65 ≤ R.locals) :
    Back l R p e below s sargs yN len W (fun A₁ a₁ => A₁.cells + 1 ≤ R.cells ∧ A₁.slots + A.slots.size ≤ R.slots ∧ P a D fV fC b A z a₁ A₁.U) (fun A₁ _ v₁ B₁ => E a D fV fC A v₁ A₁.U B₁.U ∧ B₁.locs = A₁.locs ++ [⟨a, fC.slot⟩, ⟨a, fV.slot⟩] ∧ B₁.cells = A₁.cells + 1 ∧ B₁.slots = A₁.slots + A.slots.size) :=
  (law l a D fV fC b A z).pays htab hfr (by omega)
end New1
/-- the byte, read back as charAt reads it, is the char -/
theorem lo8_mask {x : Int32} (h0 : ¬ x < 0) (h1 : ¬ 255 < x) : lo8 x &&& 255 = x := by
  have t : ∀ k : Fin 256, lo8 (Int32.ofNat k.val) &&& 255 = Int32.ofNat k.val := by decide +kernel
  rw [Int32.lt_iff_toInt_lt] at h0 h1
  have e0 : (0 : Int32).toInt = 0 := rfl
  have e1 : (255 : Int32).toInt = 255 := rfl
  obtain ⟨k, hk⟩ : ∃ k : Nat, x.toInt = k := ⟨x.toInt.toNat, by omega⟩
  have hx : x = Int32.ofNat k := Int32.toInt_inj.mp (by rw [hk, Int32.toInt_ofNat_small (by omega)])
  rw [hx]
  exact t ⟨k, by omega⟩
end StrChars
namespace StrChars.Road
open Jvm Sem ClassFile Op Lib Jvm.Stand Jvm.Free Jvm.Free.XT
open Jvm.Lib.Cold (StaticIs)
abbrev ST : String := "java/lang/String"
/-- every table word that New1's law asks, flat -/
abbrev words : List Jvm.Cond := [.code New1.yN New1.yB 2 none, .initialized ST, .methodLink ST 27 New4.yN, .instanceMethod New4.yN,
  .code New4.yN New4.yB 6 none, .fieldLink ST 38 ST "COMPACT_STRINGS" "Z", .laysFinal ST ST "value" "[B", .fieldLink ST 9 ST "value" "[B", .laysFinal ST ST "coder" "B", .fieldLink ST 15 ST "coder" "B",
  .methodLink ST 1 Lib.objectInit, .instanceMethod Lib.objectInit, .code Lib.objectInit ⟨#[0xb1]⟩ 1 none, .methodLink ST 177 Cmp3.yN, .static Cmp3.yN, .methodLink ST 47 CodL.yN, .static CodL.yN,
  .code Cmp3.yN Cmp3.yB 6 (some (.array .byte)), .initialized U16, .arrayClass .byte, .methodLink U16 115 Cmp5.yN, .static Cmp5.yN, .code Cmp5.yN Cmp5.yB 7 (some .int), .code CodL.yN CodL.yB 2 (some .byte)]
theorem tab_of {a : Array Value} {s : State} (h : ∀ w ∈ words, w.before a s = true) : New1.tab.before a s = true := by
  have h5 : Cmp5.tab.before a s = true := unparts (wk h (.code Cmp5.yN Cmp5.yB 7 (some .int))) (wks h (.initialized Cmp5.yN.cls :: Cmp5.site))
  have hc : CodL.tab.before a s = true := unparts (wk h (.code CodL.yN CodL.yB 2 (some .byte))) (wks h (.initialized CodL.yN.cls :: CodL.site))
  have q5 : ∀ w ∈ Cmp5.tab :: words, w.before a s = true := fun w hw => (List.mem_cons.mp hw).elim (fun e => e ▸ h5) (h w)
  have h3 : Cmp3.tab.before a s = true := unparts (wk q5 (.code Cmp3.yN Cmp3.yB 6 (some (.array .byte)))) (wks q5 (.initialized Cmp3.yN.cls :: Cmp3.site))
  have q3 : ∀ w ∈ Cmp3.tab :: CodL.tab :: words, w.before a s = true := fun w hw => (List.mem_cons.mp hw).elim (fun e => e ▸ h3) fun hw => (List.mem_cons.mp hw).elim (fun e => e ▸ hc) (h w)
  have h4 : New4.tab.before a s = true := unparts (wk q3 (.code New4.yN New4.yB 6 none)) (wks q3 (.initialized New4.yN.cls :: New4.site))
  have q4 : ∀ w ∈ New4.tab :: words, w.before a s = true := fun w hw => (List.mem_cons.mp hw).elim (fun e => e ▸ h4) (h w)
  exact unparts (wk q4 (.code New1.yN New1.yB 2 none)) (wks q4 (.initialized New1.yN.cls :: New1.site))
/-- the words ride from the start Z to the walk's own state -/
theorem moved {Z s : State} {a0 args : Array Value} (hZ : Z.Warmed39 s.vm) (hw : ∀ d ∈ words, d.before a0 Z = true) : ∀ d ∈ words, d.before args s = true := fun d hd => by
  have q := hw d hd
  have t : ∀ d ∈ words, d = .arrayClass .byte ∨ (d.onTables && d.keepsFace) = true := by decide +kernel
  rcases t d hd with rfl | t
  · exact RoadKit.mvA hZ q
  · exact RoadKit.mv hZ q t
/-- WHAT COMES BACK, over the tables of the start Z: h the heap at the call, h' behind it -/
def Q (Z : State) (x : Addr) (A : Cell) (h : Heap) (v : Option Value) (h' : Heap) (L : List Loc) : Prop := v = none ∧ (∀ y ∈ L, y.base = x) ∧ RoadKit.Keep h h' [x] ∧ h'.size = h.size + 1 ∧ RoadKit.Exa Z h' x ST ∧ RoadKit.Fld Z h' x ST "value" "[B" (.ref h.size) ∧ RoadKit.Fld Z h' x ST "coder" "B" (.int 0) ∧
  (∃ V : Cell, RoadKit.Arr Z h' h.size V .byte ∧ V.vm = .none ∧ Z.vm.findClass "[B" = some V.cls ∧ V.slots.size = A.slots.size ∧ ∀ j, j < A.slots.size → V.slots[j]? = some (.int (lo8 (cv A j)))) ∧
  ∀ (O n d : String) (w : Value), RoadKit.Fld Z h x O n d w → RoadKit.slotOf Z O n d ≠ RoadKit.slotOf Z ST "value" "[B" → RoadKit.slotOf Z O n d ≠ RoadKit.slotOf Z ST "coder" "B" → RoadKit.Fld Z h' x O n d w
/-- **new String(chars) AT A CALL, IN THE ROAD'S FORM**: for specialBack behind newO: x the fresh String, b the char[] with the cell A -/
theorem back {p : Program} {l : Launch} {e : Env} {R : Room} {s : State} {args : Array Value} {below : List Frame} {len W : Nat} {Z : State} {a0 : Array Value} {h : Heap} (hZ : Z.Warmed39 s.vm) (hw : ∀ d ∈ words, d.before a0 Z = true) {kI : Nat} (wi : (Jvm.Cond.instantiable ST kI).before a0 Z = true)
    {x b : Addr} {A : Cell} {z : Int32} {v0 c0 : Value} (E : RoadKit.Exa Z h x ST) (V : RoadKit.Fld Z h x ST "value" "[B" v0) (C : RoadKit.Fld Z h x ST "coder" "B" c0) (K : RoadKit.Arr Z h b A .char) (hty : Typed .char A) (S : RoadKit.Sta Z h ST "COMPACT_STRINGS" "Z" (.int z)) (hz : ¬ z = 0)
    (l0 : 0 < A.slots.size) (l2 : A.slots.size ≤ 536870912) (hp : ∀ i, i < A.slots.size → ¬ 255 < cv A i) (hfr : 4 ≤ R.frames) (hlo : W + 65 ≤ R.locals) :
    Back l R p e below s args New1.yN len W (fun P a => a = #[.ref x, .ref b] ∧ P.U.heap = h ∧ P.cells + 1 ≤ R.cells ∧ P.slots + A.slots.size ≤ R.slots)
      (fun P _ v B => ∃ L, Q Z x A h v B.U.heap L ∧ B.locs = P.locs ++ L ∧ B.cells = P.cells + 1 ∧ B.slots = P.slots + A.slots.size) := by
  intro m meth c P g ig mk a X hg hsize hdg hW hn hp'
  obtain ⟨rfl, rfl, r1, r2⟩ := hp'
  have al : Z.vm.Alike P.U.vm := hZ.alike.trans X.warmed.alike
  obtain ⟨D, cfV, kV, iV, fV, hD, gV, stV, knV, obV, asV, slV⟩ := id V
  obtain ⟨D', cfC, kC, iC, fC, hD', gC, stC, -, -, asC, slC⟩ := id C
  cases hD.symm.trans hD'
  obtain ⟨D2, kD, e1, e2, e3, e4, e5⟩ := id E
  cases hD.symm.trans e1
  obtain ⟨c2, k2, i1, i2, i3, -⟩ := Cond.instantiable_spec wi
  cases e2.symm.trans i1
  cases e3.symm.trans i2
  obtain ⟨kU, u1, u2⟩ := al.2.2 _ _ e3
  have hB : Blank ST x D P.U := ⟨hD, ⟨knV, fun q hq => by rw [hq] at obV; cases obV⟩, by rw [al.findClass]; exact e2, kU, u1, by rw [u2]; exact i3, by rw [u2]; exact e5 i3⟩
  have F1 : Found ST "value" "[B" fV P.U := ⟨SBG.found_only al ⟨cfV, kV, iV, gV⟩, stV⟩
  have F2 : Found ST "coder" "B" fC P.U := ⟨SBG.found_only al ⟨cfC, kC, iC, gC⟩, stC⟩
  have hA : Ch b A P.U := ⟨⟨K.1, State.isArrayOf_alike al K.2.1, K.2.2, by omega⟩, hty⟩
  have hS : StaticIs P.U ST "COMPACT_STRINGS" "Z" (.int z) := by
    obtain ⟨cfS, iS, kS, fS, st, cS, t1, t2, t3, t4, t5, t6, t7⟩ := S
    exact StaticIs.there (s := { Z with heap := P.U.heap }) ⟨cfS, iS, kS, fS, st, cS, t1, t2, t3, t4, t5, (fun q => by rw [q] at t6; cases t6), t7⟩ al rfl
  obtain ⟨v, B, X', ⟨⟨hv, E', V', q1, q2, q3, q4, q5, q6, q7, q8, q9, q10, q11⟩, hl, hc, hs⟩, st⟩ := New1.pays x D fV fC b A z (tab_of (moved hZ hw)) hfr hlo m meth c P g ig mk _ X hg hsize hdg hW hn ⟨r1, r2, rfl, hB, F1, F2, hA, hS, hz, l0, l2, hp⟩
  have al' : Z.vm.Alike B.U.vm := hZ.alike.trans X'.warmed.alike
  have hsz : E'.slots.size = D.slots.size := by
    obtain ⟨-, -, -, kB, w1, w2, w3⟩ := q1
    obtain ⟨kB', y1, y2⟩ := al'.2.2 _ _ e3
    rw [q2.2.1] at w1
    cases w1.symm.trans y1
    rw [w3, e5 i3, y2]
  refine ⟨v, B, X', ⟨_, ⟨hv, ?_, ⟨by omega, fun y cy hy hn' => q10 y cy (by simpa using hn') hy, fun y cy hy => ?_⟩, q11, ⟨E', _, q1.1, by rw [q2.2.1]; exact e2, by rw [q2.2.1]; exact e3, by rw [q2.1]; exact obV, fun _ => by rw [hsz]; exact e5 i3⟩,
    ⟨E', cfV, kV, iV, fV, q1.1, gV, stV, by rw [q2.1]; exact knV, by rw [q2.1]; exact obV, by rw [q2.2.1]; exact asV, q3⟩, ⟨E', cfC, kC, iC, fC, q1.1, gC, stC, by rw [q2.1]; exact knV, by rw [q2.1]; exact obV, by rw [q2.2.1]; exact asC, q4⟩,
    ⟨V', ⟨q5.1, State.isArrayOf_alike al'.symm q5.2.1, q5.2.2.1⟩, q6, by rw [← al'.findClass]; exact q7, q8, fun j hj => by have := q9 j hj; rwa [Nat.zero_add] at this⟩, fun O n d w F n1 n2 => ?_⟩, hl, hc, hs⟩, st⟩
  · intro y hy
    simp only [List.mem_cons, List.not_mem_nil, or_false] at hy
    rcases hy with rfl | rfl <;> rfl
  · by_cases q : y = x
    · subst q
      cases hD.symm.trans hy
      exact ⟨E', q1.1, q2.2.1, q2.1, hsz⟩
    · exact ⟨cy, q10 y cy q hy, rfl, rfl, rfl⟩
  · obtain ⟨D3, cf, k, i, f, g1, g2, g3, g4, g5, g6, g7⟩ := F
    cases hD.symm.trans g1
    simp only [RoadKit.slotOf, g2, gV, gC, Option.map_some, Option.getD_some] at n1 n2
    exact ⟨E', cf, k, i, f, q1.1, g2, g3, by rw [q2.1]; exact g4, by rw [q2.1]; exact g5, by rw [q2.2.1]; exact g6, by rw [q2.2.2 f.slot (by simp [n1, n2])]; exact g7⟩
end StrChars.Road
namespace StrChars.Road
open Jvm Sem ClassFile Op Lib Jvm.Stand Jvm.Free Jvm.Free.XT
/-- WHAT COMES BACK, the byte[] as a list of values -/
def QA (Z : State) (x : Addr) (zn : Int32) (cs : List Int32) (h : Heap) (v : Option Value) (h' : Heap) (L : List Loc) : Prop := v = none ∧ (∀ y ∈ L, y.base = x) ∧ RoadKit.Keep h h' [x] ∧ h'.size = h.size + 1 ∧ RoadKit.Exa Z h' x ST ∧ RoadKit.Fld Z h' x ST "value" "[B" (.ref h.size) ∧ RoadKit.Fld Z h' x ST "coder" "B" (.int 0) ∧
  (∃ kb, Z.vm.findClass "[B" = some kb ∧ RoadKit.Arv Z h' h.size kb .byte zn (cs.map fun c => .int (lo8 c)) (.int 0)) ∧
  ∀ (O n d : String) (w : Value), RoadKit.Fld Z h x O n d w → RoadKit.slotOf Z O n d ≠ RoadKit.slotOf Z ST "value" "[B" → RoadKit.slotOf Z O n d ≠ RoadKit.slotOf Z ST "coder" "B" → RoadKit.Fld Z h' x O n d w
/-- **new String(chars) AT A CALL, THE ARRAYS AS LISTS**: the char[] at b holds cs, not empty, no char above 255 -/
theorem backArv {p : Program} {l : Launch} {e : Env} {R : Room} {s : State} {args : Array Value} {below : List Frame} {len W : Nat} {Z : State} {a0 : Array Value} {h : Heap} (hZ : Z.Warmed39 s.vm) (hw : ∀ d ∈ words, d.before a0 Z = true) {kI : Nat} (wi : (Jvm.Cond.instantiable ST kI).before a0 Z = true)
    {x b : Addr} {k : ClassId} {zn z : Int32} {cs : List Int32} {dv v0 c0 : Value} (E : RoadKit.Exa Z h x ST) (V : RoadKit.Fld Z h x ST "value" "[B" v0) (C : RoadKit.Fld Z h x ST "coder" "B" c0) (K : RoadKit.Arv Z h b k .char zn (cs.map Value.int) dv) (S : RoadKit.Sta Z h ST "COMPACT_STRINGS" "Z" (.int z)) (hz : ¬ z = 0)
    (hlen : zn.toNatClampNeg = cs.length) (h0 : 0 < cs.length) (hbig : cs.length ≤ 536870912) (hall : ∀ c ∈ cs, ¬ 255 < c) (hfr : 4 ≤ R.frames) (hlo : W + 65 ≤ R.locals) :
    Back l R p e below s args New1.yN len W (fun P a => a = #[.ref x, .ref b] ∧ P.U.heap = h ∧ P.cells + 1 ≤ R.cells ∧ P.slots + cs.length ≤ R.slots)
      (fun P _ v B => ∃ L, QA Z x zn cs h v B.U.heap L ∧ B.locs = P.locs ++ L ∧ B.cells = P.cells + 1 ∧ B.slots = P.slots + cs.length) := by
  obtain ⟨A, K1, K2, K3, K4, K5, K6⟩ := K
  have e : A.slots.size = cs.length := K3.trans hlen
  have hat : ∀ (i : Nat) (hi : i < cs.length), A.slots[i]? = some (.int cs[i]) := fun i hi => by rw [K5 i (by omega)]; simp [List.getD_eq_getElem?_getD, hi]
  have hcv : ∀ (i : Nat) (hi : i < cs.length), cv A i = cs[i] := fun i hi => by unfold cv; rw [hat i hi]
  have hty : Typed .char A := fun i v hv => by
    have hi : i < A.slots.size := (Array.getElem?_eq_some_iff.mp hv).1
    have q := K5 i hi
    rw [hv] at q
    rw [Option.some.inj q]
    exact K6 i hi
  refine Back.mono (back hZ hw wi E V C K1 hty S hz (by omega) (by omega) (fun i hi => by rw [hcv i (by omega)]; exact hall _ (List.getElem_mem _)) hfr hlo) (fun P a hp => ⟨hp.1, hp.2.1, hp.2.2.1, by rw [e]; exact hp.2.2.2⟩) (fun P a v B hp hq => ?_)
  obtain ⟨L, ⟨q1, q2, q3, q4, q5, q6, q7, ⟨V', v1, v2, v3, v4, v5⟩, q9⟩, hl, hc, hs⟩ := hq
  refine ⟨L, ⟨q1, q2, q3, q4, q5, q6, q7, ⟨V'.cls, v3, V', v1, rfl, by rw [v4, e, hlen], K4, fun i hi => ?_, fun i hi => ?_⟩, q9⟩, hl, hc, by rw [hs, e]⟩
  · have hi' : i < cs.length := by omega
    rw [v5 i (by omega), hcv i hi']; simp [List.getD_eq_getElem?_getD, hi']
  · have hi' : i < cs.length := by omega
    simp only [List.getD_eq_getElem?_getD, List.getElem?_map, List.getElem?_eq_getElem hi', Option.map_some, Option.getD_some]
    exact fits_lo8 _
end StrChars.Road
namespace StrChars.Road
open Jvm Sem ClassFile Op Lib Jvm.Stand Jvm.Free Jvm.Free.XT
/-- WHAT COMES BACK, in the writer's own shape -/
def QV (Z : State) (x : Addr) (N : Int32) (bs : List Int32) (h : Heap) (n0 : Nat) (v : Option Value) (h' : Heap) (L : List Loc) : Prop := v = none ∧ RoadKit.Fr n0 L ∧ RoadKit.Keep h h' [x] ∧ RoadKit.Exa Z h' x ST ∧ RoadKit.Fld Z h' x ST "coder" "B" (.int 0) ∧
  ∃ (t : Addr) (kb : ClassId), n0 ≤ t ∧ h.size ≤ t ∧ ¬ t = x ∧ RoadKit.Fld Z h' x ST "value" "[B" (.ref t) ∧ RoadKit.Arv Z h' t kb .byte N (bs.map Value.int) (.int 0)
/-- **new String(chars) AT A CALL, FOR THE WRITER**: a char[] of n known ints, each 0 to 255 -/
theorem backV {p : Program} {l : Launch} {e : Env} {R : Room} {s : State} {args : Array Value} {below : List Frame} {len W : Nat} {Z : State} {a0 : Array Value} {h : Heap} (hZ : Z.Warmed39 s.vm) (hw : ∀ d ∈ words, d.before a0 Z = true) {kI : Nat} (wi : (Jvm.Cond.instantiable ST kI).before a0 Z = true)
    {x b : Addr} {kC : ClassId} {cs bs : List Int32} {d v0 c0 : Value} {z N : Int32} {n n0 : Nat} (hx0 : n0 ≤ x) (hh0 : n0 ≤ h.size) (E : RoadKit.Exa Z h x ST) (V : RoadKit.Fld Z h x ST "value" "[B" v0) (C : RoadKit.Fld Z h x ST "coder" "B" c0) (K : RoadKit.Arv Z h b kC .char N (cs.map Value.int) d) (S : RoadKit.Sta Z h ST "COMPACT_STRINGS" "Z" (.int z)) (hz : ¬ z = 0)
    (hn : cs.length = n) (hN : N = Int32.ofNat n) (l0 : 0 < n) (l2 : n ≤ 4000) (hp : ∀ c ∈ cs, ¬ c < 0 ∧ ¬ (255 : Int32) < c) (hb : bs = cs.map (fun c => c.toInt8.toInt32)) (hfr : 4 ≤ R.frames) (hlo : W + 65 ≤ R.locals) :
    Back l R p e below s args (⟨"java/lang/String", "<init>", "([C)V"⟩ : MethodName) len W (fun P a => a = #[.ref x, .ref b] ∧ P.U.heap = h ∧ P.cells + 1 ≤ R.cells ∧ P.slots + n ≤ R.slots)
      (fun P _ v B => ∃ L, QV Z x N bs h n0 v B.U.heap L ∧ B.locs = P.locs ++ L ∧ B.cells = P.cells + 1 ∧ B.slots = P.slots + n) := by
  subst hn hN hb
  refine Back.mono (backArv hZ hw wi E V C K S hz (n32 (by omega)) l0 (by omega) (fun c hc => (hp c hc).2) hfr hlo) (fun P a hp => hp) (fun P a v B hp hq => ?_)
  obtain ⟨L, ⟨q1, q2, q3, q4, q5, q6, q7, ⟨kb, v1, v2⟩, q9⟩, hl, hc, hs⟩ := hq
  exact ⟨L, ⟨q1, fun y hy => by rw [q2 y hy]; exact hx0, q3, q5, q7, h.size, kb, hh0, Nat.le_refl _, Nat.ne_of_gt E.lt, q6, by rw [List.map_map]; exact v2⟩, hl, hc, hs⟩
end StrChars.Road
namespace StrChars
open Jvm Sem ClassFile Op Lib Jvm.Stand Jvm.Free.XT Jvm.Free.ALB Jvm.Free.JM Jvm.Free
open Jvm.Lib.Cold (StaticIs)
def hi8 (x : Int32) : Int32 := lo8 (x >>> ((8 : Int32) &&& 31))
/-- what StringUTF16.getChar makes of two bytes -/
def pairCh (u v : Int32) : Int32 := (((u &&& 255) <<< ((0 : Int32) &&& 31)) ||| ((v &&& 255) <<< ((8 : Int32) &&& 31))).toUInt32.toUInt16.toUInt32.toInt32
theorem shr0 (c : Int32) : c >>> ((0 : Int32) &&& 31) = c := by
  have e : ((0 : Int32) &&& 31) = 0 := by decide
  rw [e]
  apply Int32.toBitVec_inj.mp
  rw [Int32.toBitVec_shiftRight]
  have e1 : ((0 : Int32).toBitVec.smod 32) = 0#32 := by decide
  rw [e1, BitVec.sshiftRight_eq']
  exact BitVec.sshiftRight_zero
theorem lo8_and (x : Int32) : (lo8 x &&& 255).toBitVec.toNat = x.toBitVec.toNat % 256 := by
  have h : (lo8 x).toBitVec = (x.toBitVec.signExtend 8).signExtend 32 := by rw [lo8, Int8.toBitVec_toInt32, Int32.toBitVec_toInt8]
  rw [Int32.toBitVec_and, BitVec.toNat_and, h]
  have e : ((x.toBitVec.signExtend 8).signExtend 32).toNat % 256 = x.toBitVec.toNat % 256 := by
    rw [BitVec.toNat_signExtend]
    have hlt := x.toBitVec.isLt
    simp only [BitVec.toNat_setWidth, BitVec.toNat_signExtend]
    split <;> split <;> omega
  rw [← e]
  exact Nat.and_two_pow_sub_one_eq_mod _ 8
theorem pair_says {c : Int32} (h0 : ¬ c < 0) (h1 : ¬ 65535 < c) : pairCh (lo8 c) (hi8 c) = c := by
  rw [Int32.lt_iff_toInt_lt] at h0 h1
  have e0 : (0 : Int32).toInt = 0 := rfl
  have e1 : (65535 : Int32).toInt = 65535 := rfl
  have hc : c.toInt = c.toBitVec.toNat := by
    have := c.toBitVec.isLt
    have e : c.toInt = c.toBitVec.toInt := rfl
    rw [e] at h0 h1
    rw [e]
    rw [BitVec.toInt_eq_toNat_cond] at h0 h1 ⊢
    split at h0 <;> split <;> omega
  have hn : c.toBitVec.toNat < 65536 := by omega
  have a1 := lo8_and c
  have a2 : (hi8 c &&& 255).toBitVec.toNat = c.toBitVec.toNat / 256 := by
    rw [hi8, lo8_and]
    have e : ((8 : Int32) &&& 31) = 8 := by decide
    rw [e, Int32.toBitVec_shiftRight]
    have e2 : ((8 : Int32).toBitVec.smod 32) = 8#32 := by decide
    rw [e2, BitVec.sshiftRight_eq', BitVec.toNat_sshiftRight_of_msb_false (by rw [BitVec.msb_eq_false_iff_two_mul_lt]; omega)]
    show c.toBitVec.toNat >>> 8 % 256 = _
    rw [Nat.shiftRight_eq_div_pow]
    omega
  unfold pairCh
  apply Int32.toBitVec_inj.mp
  apply BitVec.eq_of_toNat_eq
  have f0 : ((0 : Int32) &&& 31) = 0 := by decide
  have f8 : ((8 : Int32) &&& 31) = 8 := by decide
  rw [f0, f8]
  have g : (((lo8 c &&& 255) <<< (0 : Int32)) ||| ((hi8 c &&& 255) <<< (8 : Int32))).toBitVec.toNat = c.toBitVec.toNat := by
    rw [Int32.toBitVec_or, Int32.toBitVec_shiftLeft, Int32.toBitVec_shiftLeft]
    have s0 : ((0 : Int32).toBitVec.smod 32) = 0#32 := by decide
    have s8 : ((8 : Int32).toBitVec.smod 32) = 8#32 := by decide
    rw [s0, s8, BitVec.toNat_or]
    simp only [BitVec.shiftLeft_eq', BitVec.toNat_shiftLeft, a1, a2]
    show (c.toBitVec.toNat % 256) <<< 0 % 2 ^ 32 ||| (c.toBitVec.toNat / 256) <<< 8 % 2 ^ 32 = _
    rw [Nat.shiftLeft_zero, Nat.mod_eq_of_lt (show c.toBitVec.toNat % 256 < 2 ^ 32 by omega), Nat.mod_eq_of_lt (show (c.toBitVec.toNat / 256) <<< 8 < 2 ^ 32 by rw [Nat.shiftLeft_eq]; omega), Nat.or_comm, ← Nat.shiftLeft_add_eq_or_of_lt (by omega), Nat.shiftLeft_eq]
    omega
  show BitVec.toNat (((((lo8 c &&& 255) <<< (0 : Int32)) ||| ((hi8 c &&& 255) <<< (8 : Int32))).toBitVec.setWidth 16).setWidth 32) = _
  rw [BitVec.toNat_setWidth, BitVec.toNat_setWidth, g]
  omega
end StrChars
namespace StrChars
open Jvm Sem ClassFile Op Lib Jvm.Stand Jvm.Free.XT Jvm.Free.ALB Jvm.Free.JM Jvm.Free
open Jvm.Lib.Cold (StaticIs)
theorem shr1 {n : Nat} (h : 2 * n < 2 ^ 31) : Int32.ofNat (2 * n) >>> ((1 : Int32) &&& 31) = Int32.ofNat n := by
  have e : ((1 : Int32) &&& 31) = 1 := by decide
  rw [e]
  apply Int32.toBitVec_inj.mp
  rw [Int32.toBitVec_shiftRight]
  have e1 : ((1 : Int32).toBitVec.smod 32) = 1#32 := by decide
  have hm : (BitVec.ofNat 32 (2 * n)).toNat = 2 * n := by rw [BitVec.toNat_ofNat, Nat.mod_eq_of_lt (by omega)]
  rw [e1, BitVec.sshiftRight_eq']
  apply BitVec.eq_of_toNat_eq
  show ((BitVec.ofNat 32 (2 * n)).sshiftRight 1).toNat = (BitVec.ofNat 32 n).toNat
  rw [BitVec.toNat_sshiftRight_of_msb_false (by rw [BitVec.msb_eq_false_iff_two_mul_lt, hm]; omega), hm, BitVec.toNat_ofNat, Nat.shiftRight_eq_div_pow]
  omega
/-- charAt's cast of a byte read back -/
def chr8 (u : Int32) : Int32 := (u &&& 255).toUInt32.toUInt16.toUInt32.toInt32
theorem chr8_lo8 {c : Int32} (h0 : ¬ c < 0) (h1 : ¬ 255 < c) : chr8 (lo8 c) = c := by
  have t : ∀ k : Fin 256, (Int32.ofNat k.val).toUInt32.toUInt16.toUInt32.toInt32 = Int32.ofNat k.val := by decide +kernel
  unfold chr8
  rw [lo8_mask h0 h1]
  rw [Int32.lt_iff_toInt_lt] at h0 h1
  have e0 : (0 : Int32).toInt = 0 := rfl
  have e1 : (255 : Int32).toInt = 255 := rfl
  obtain ⟨k, hk⟩ : ∃ k : Nat, c.toInt = k := ⟨c.toInt.toNat, by omega⟩
  have hx : c = Int32.ofNat k := Int32.toInt_inj.mp (by rw [hk, Int32.toInt_ofNat_small (by omega)])
  rw [hx]
  exact t ⟨k, by omega⟩
theorem narrow_ch {c : Int32} (h0 : ¬ c < 0) (h1 : ¬ 65535 < c) : narrow .char (.int c) = .int c := by
  have q : narrow .char (.int (pairCh (lo8 c) (hi8 c))) = .int (pairCh (lo8 c) (hi8 c)) := narrow_c _
  rwa [pair_says h0 h1] at q
/-- the array's cell V codes the n chars f 0 .. f (n - 1) by the coder cd, as the JDK does: coder 1 just where some char is above 255 -/
def Cod (cd : Int32) (n : Nat) (f : Nat → Int32) (V : Cell) : Prop := (cd = 0 ∧ V.slots.size = n ∧ ∀ j, j < n → V.slots[j]? = some (.int (lo8 (f j))) ∧ ¬ 255 < f j) ∨ (cd = 1 ∧ V.slots.size = 2 * n ∧ (∀ j, j < n → V.slots[2 * j]? = some (.int (lo8 (f j))) ∧ V.slots[2 * j + 1]? = some (.int (hi8 (f j)))) ∧ ∃ j, j < n ∧ 255 < f j)
theorem Cod.cd {cd : Int32} {n : Nat} {f : Nat → Int32} {V : Cell} (h : Cod cd n f V) : cd = 0 ∨ cd = 1 := h.imp (fun q => q.1) fun q => q.1
theorem Cod.len {cd : Int32} {n : Nat} {f : Nat → Int32} {V : Cell} (h : Cod cd n f V) (hs : V.slots.size < 2 ^ 31) : Int32.ofNat V.slots.size >>> (cd &&& 31) = Int32.ofNat n := by
  rcases h with ⟨rfl, h, -⟩ | ⟨rfl, h, -⟩
  · rw [shr0, h]
  · rw [h, shr1 (by omega)]
/-- **x is a String of the n chars f 0 .. f (n - 1)**, Latin-1 or UTF-16; its array at t has the cell V -/
def Txt (x t : Addr) (V : Cell) (cd : Int32) (n : Nat) (f : Nat → Int32) (U : State) : Prop := Exact "java/lang/String" x U ∧ Has x "java/lang/String" "value" "[B" (.ref t) U ∧ Has x "java/lang/String" "coder" "B" (.int cd) U ∧ XT.Arr .byte t V U ∧ Cod cd n f V ∧ ∀ j, j < n → ¬ f j < 0 ∧ ¬ 65535 < f j
theorem Txt.mv {x t : Addr} {V : Cell} {cd : Int32} {n : Nat} {f : Nat → Int32} {U U' : State} (h : Txt x t V cd n f U) (hal : U.vm.Alike U'.vm) (hh : U'.heap = U.heap) : Txt x t V cd n f U' := ⟨h.1.mv hal hh, h.2.1.mv hal hh, h.2.2.1.mv hal hh, h.2.2.2.1.mv hal hh, h.2.2.2.2⟩
namespace Cdr
def yN : MethodName := ⟨"java/lang/String", "coder", "()B"⟩
abbrev yB : ByteArray := jdk_42_method_152_code
theorem d0 : decode yB 0 = .ok (.getstatic 38, 3) := by decide +kernel
theorem d3 : decode yB 3 = .ok (.ifCond (.eq) 10, 3) := by decide +kernel
theorem d6 : decode yB 6 = .ok (.aload_n 0, 1) := by decide +kernel
theorem d7 : decode yB 7 = .ok (.getfield 15, 3) := by decide +kernel
theorem d10 : decode yB 10 = .ok (.goto 4, 3) := by decide +kernel
theorem d14 : decode yB 14 = .ok (.ireturn, 1) := by decide +kernel
def site : List Cond := [.fieldLink "java/lang/String" 38 "java/lang/String" "COMPACT_STRINGS" "Z", .fieldLink "java/lang/String" 15 "java/lang/String" "coder" "B"]
def tab : Cond := tabOf yN yB 1 (some .byte) site
def P (x : Addr) (cd z : Int32) (args : Array Value) (s : State) : Prop := args = #[.ref x] ∧ Has x "java/lang/String" "coder" "B" (.int cd) s ∧ (cd = 0 ∨ cd = 1) ∧ StaticIs s "java/lang/String" "COMPACT_STRINGS" "Z" (.int z) ∧ ¬ z = 0
def E (cd : Int32) (r : Option Value) (s u : State) : Prop := XT.PureE (some (.int cd)) r s u
theorem law (l : Launch) (x : Addr) (cd z : Int32) : Law l yN 1 0 0 0 yB 1 (some .byte) site (P x cd z) (E cd) [] 0 0 := by
  refine Law.of_walk (plainFor_of_name (by decide +kernel)) (by decide +kernel) (by decide +kernel) (by decide) (fun _ _ h => by rw [h.1]; rfl) (fun _ U U' hal hh h => ⟨h.1, h.2.1.mv hal hh, h.2.2.1, h.2.2.2.1.there hal hh, h.2.2.2.2⟩) (fun r U U' V V' h1 hal h2 h => XT.PureE.mv r U U' V V' h1 hal h2 h) ?_
  intro p e s m args below meth c s₁ X0 hexec hbytes hml hret hlk hnm hown hh0 W hP
  obtain ⟨rfl, hx, hc, s1, hz⟩ := hP
  have c1 : Steps p.tables e below (s₁.setTop (entryFrame m #[.ref x] 1)) (s₁.setTop (mkF m 0 #[.val (.ref x)] [])) := entry rfl
  obtain ⟨T2, X2, q2, st2⟩ := X0.sget hexec hown (wk W (.fieldLink "java/lang/String" 38 "java/lang/String" "COMPACT_STRINGS" "Z")) s1 (fun _ _ h => by rw [hh0]; exact h) (g := (mkF m 0 #[.val (.ref x)] [])) rfl (hb hbytes d0)
  have hh2 := q2.trans hh0
  have c3 : Steps p.tables e below (s₁.setTop (entryFrame m #[.ref x] 1)) (T2.setTop (mkF m 7 #[.val (.ref x)] [.ref x])) := (c1.trans (st2 _ (Steps.refl _))).trans (by
    refine XS.ifNo X2.here hexec rfl (hb hbytes d3) rfl (i0_eq_f hz) ?_
    refine XS.aloadN X2.here hexec rfl (hb hbytes d6) rfl rfl ?_
    exact Steps.refl _)
  obtain ⟨T4, X4, q4, st4⟩ := X2.hget hexec hown (wk W (.fieldLink "java/lang/String" 15 "java/lang/String" "coder" "B")) (hx.mv X2.warmed.alike hh2) (g := (mkF m 7 #[.val (.ref x)] [.ref x])) rfl (rest := []) rfl (hb hbytes d7)
  have c5 : Steps p.tables e below (s₁.setTop (entryFrame m #[.ref x] 1)) (T4.setTop (mkF m 14 #[.val (.ref x)] [.int cd])) := (c3.trans (st4 _ (Steps.refl _))).trans (by
    refine XS.goto X4.here hexec rfl (pc0 := 10) rfl (hb hbytes d10) (by decide) rfl ?_
    exact Steps.refl _)
  exact ⟨T4, some (.int cd), _, _, _, X4, rfl, rfl, rfl, (fun h => by cases h), ⟨rfl, q4.trans hh2⟩, fun fs hl => c5.trans (X4.ireturnOut hexec hret (by rcases hc with rfl | rfl <;> rfl) (Or.inr (Or.inr (Or.inl rfl))) (hb hbytes d14) hl)⟩
end Cdr
namespace Len
def yN : MethodName := ⟨"java/lang/String", "length", "()I"⟩
abbrev yB : ByteArray := jdk_42_method_54_code
theorem d0 : decode yB 0 = .ok (.aload_n 0, 1) := by decide +kernel
theorem d1 : decode yB 1 = .ok (.getfield 9, 3) := by decide +kernel
theorem d4 : decode yB 4 = .ok (.arraylength, 1) := by decide +kernel
theorem d5 : decode yB 5 = .ok (.aload_n 0, 1) := by decide +kernel
theorem d6 : decode yB 6 = .ok (.invokevirtual 335, 3) := by decide +kernel
theorem d9 : decode yB 9 = .ok (.ishr, 1) := by decide +kernel
theorem d10 : decode yB 10 = .ok (.ireturn, 1) := by decide +kernel
def site : List Cond := [.fieldLink "java/lang/String" 9 "java/lang/String" "value" "[B", Cdr.tab] ++ virtW "java/lang/String" 335 "java/lang/String" Cdr.yN Cdr.yN
def tab : Cond := tabOf yN yB 1 (some .int) site
def P (x t : Addr) (V : Cell) (cd : Int32) (n : Nat) (f : Nat → Int32) (z : Int32) (args : Array Value) (s : State) : Prop := args = #[.ref x] ∧ Txt x t V cd n f s ∧ StaticIs s "java/lang/String" "COMPACT_STRINGS" "Z" (.int z) ∧ ¬ z = 0
def E (n : Nat) (r : Option Value) (s u : State) : Prop := XT.PureE (some (.int (Int32.ofNat n))) r s u
/-- length() of a String of n chars, in either coding -/
theorem law (l : Launch) (x t : Addr) (V : Cell) (cd : Int32) (n : Nat) (f : Nat → Int32) (z : Int32) : Law l yN 1 0 1 13 yB 1 (some .int) site (P x t V cd n f z) (E n) [] 0 0 := by
  refine Law.of_walk (plainFor_of_name (by decide +kernel)) (by decide +kernel) (by decide +kernel) (by decide) (fun _ _ h => by rw [h.1]; rfl) (fun _ U U' hal hh h => ⟨h.1, h.2.1.mv hal hh, h.2.2.1.there hal hh, h.2.2.2⟩) (fun r U U' V V' h1 hal h2 h => XT.PureE.mv r U U' V V' h1 hal h2 h) ?_
  intro p e s m args below meth c s₁ X0 hexec hbytes hml hret hlk hnm hown hh0 W hP
  obtain ⟨rfl, hx, s1, hz⟩ := hP
  have v31 := hx.2.2.2.1.2.2.2
  have c1 : Steps p.tables e below (s₁.setTop (entryFrame m #[.ref x] 1)) (s₁.setTop (mkF m 1 #[.val (.ref x)] [.ref x])) := Steps.trans (entry rfl) (by
    show Steps p.tables e below (s₁.setTop (mkF m 0 #[.val (.ref x)] [])) _
    refine XS.aloadN X0.here hexec rfl (hb hbytes d0) rfl rfl ?_
    exact Steps.refl _)
  obtain ⟨T2, X2, q2, st2⟩ := X0.hget hexec hown (wk W (.fieldLink "java/lang/String" 9 "java/lang/String" "value" "[B")) (hx.mv X0.warmed.alike hh0).2.1 (g := (mkF m 1 #[.val (.ref x)] [.ref x])) rfl (rest := []) rfl (hb hbytes d1)
  have hh2 := q2.trans hh0
  have hx2 := hx.mv X2.warmed.alike hh2
  have c3 : Steps p.tables e below (s₁.setTop (entryFrame m #[.ref x] 1)) (T2.setTop (mkF m 6 #[.val (.ref x)] [.ref x, .int (Int32.ofNat V.slots.size)])) := (c1.trans (st2 _ (Steps.refl _))).trans (by
    refine X2.alen hexec hx2.2.2.2.1 rfl rfl (hb hbytes d4) ?_
    refine XS.aloadN X2.here hexec rfl (hb hbytes d5) rfl rfl ?_
    exact Steps.refl _)
  obtain ⟨v4, T4, X4, E4, g4⟩ := X2.callV hexec (Cdr.law l x cd z) hown (wks W (virtW "java/lang/String" 335 "java/lang/String" Cdr.yN Cdr.yN)) rfl (by decide) (wk W Cdr.tab) (W := 1) (Nat.le_of_ble_eq_true rfl) (Nat.le_of_ble_eq_true rfl) (Nat.le_refl _) (Nat.le_refl _) (hx2.1.fc X2.warmed.alike) hx2.1.is (g := (mkF m 6 #[.val (.ref x)] [.ref x, .int (Int32.ofNat V.slots.size)])) rfl (by rw [hml]; rfl) c3 (argsL := []) (rest := [.int (Int32.ofNat V.slots.size)]) rfl rfl (by show 2 * 0 + (1 + 0) ≤ _; decide) (hb hbytes d6) (⟨rfl, hx2.2.2.1, hx.2.2.2.2.1.cd, s1.there X2.warmed.alike hh2, hz⟩)
  obtain ⟨rfl, q4⟩ := E4
  have c5 : Steps p.tables e below (s₁.setTop (entryFrame m #[.ref x] 1)) (T4.setTop (mkF m 10 #[.val (.ref x)] [.int (Int32.ofNat V.slots.size >>> (cd &&& 31))])) := Steps.trans g4 (by
    refine ishr X4.here hexec rfl (hb hbytes d9) rfl ?_
    exact Steps.refl _)
  rw [hx.2.2.2.2.1.len v31] at c5
  exact ⟨T4, some (.int (Int32.ofNat n)), _, _, _, X4, rfl, rfl, rfl, (fun h => by cases h), ⟨rfl, q4.trans hh2⟩, fun fs hl => c5.trans (X4.ireturnOut hexec hret rfl (Or.inl rfl) (hb hbytes d10) hl)⟩
theorem pays {l : Launch} {R : Room} {p : Program} {e : Env} {below : List Frame} {s : State} {sargs : Array Value} {len W : Nat} (x t : Addr) (V : Cell) (cd : Int32) (n : Nat) (f : Nat → Int32) (z : Int32) (htab : tab.before sargs s = true) (hfr : 2 ≤ R.frames) (hlo : W + 25 ≤ R.locals) :
    Back l R p e below s sargs yN len W (fun A₁ a₁ => A₁.cells + 0 ≤ R.cells ∧ A₁.slots + 0 ≤ R.slots ∧ P x t V cd n f z a₁ A₁.U) (fun A₁ _ v₁ B₁ => E n v₁ A₁.U B₁.U ∧ B₁.locs = A₁.locs ++ [] ∧ B₁.cells = A₁.cells + 0 ∧ B₁.slots = A₁.slots + 0) :=
  (law l x t V cd n f z).pays htab hfr (by omega)
end Len
namespace IsL
def yN : MethodName := ⟨"java/lang/String", "isLatin1", "()Z"⟩
abbrev yB : ByteArray := jdk_42_method_154_code
theorem d0 : decode yB 0 = .ok (.getstatic 38, 3) := by decide +kernel
theorem d3 : decode yB 3 = .ok (.ifCond (.eq) 14, 3) := by decide +kernel
theorem d6 : decode yB 6 = .ok (.aload_n 0, 1) := by decide +kernel
theorem d7 : decode yB 7 = .ok (.getfield 15, 3) := by decide +kernel
theorem d10 : decode yB 10 = .ok (.ifCond (.ne) 7, 3) := by decide +kernel
theorem d13 : decode yB 13 = .ok (.iconst 1, 1) := by decide +kernel
theorem d14 : decode yB 14 = .ok (.goto 4, 3) := by decide +kernel
theorem d17 : decode yB 17 = .ok (.iconst 0, 1) := by decide +kernel
theorem d18 : decode yB 18 = .ok (.ireturn, 1) := by decide +kernel
def site : List Cond := [.fieldLink "java/lang/String" 38 "java/lang/String" "COMPACT_STRINGS" "Z", .fieldLink "java/lang/String" 15 "java/lang/String" "coder" "B"]
def tab : Cond := tabOf yN yB 1 (some .boolean) site
def P (x : Addr) (cd z : Int32) (args : Array Value) (s : State) : Prop := args = #[.ref x] ∧ Has x "java/lang/String" "coder" "B" (.int cd) s ∧ (cd = 0 ∨ cd = 1) ∧ StaticIs s "java/lang/String" "COMPACT_STRINGS" "Z" (.int z) ∧ ¬ z = 0
def E (cd : Int32) (r : Option Value) (s u : State) : Prop := XT.PureE (some (.int (1 - cd))) r s u
theorem law (l : Launch) (x : Addr) (cd z : Int32) : Law l yN 1 0 0 0 yB 1 (some .boolean) site (P x cd z) (E cd) [] 0 0 := by
  refine Law.of_walk (plainFor_of_name (by decide +kernel)) (by decide +kernel) (by decide +kernel) (by decide) (fun _ _ h => by rw [h.1]; rfl) (fun _ U U' hal hh h => ⟨h.1, h.2.1.mv hal hh, h.2.2.1, h.2.2.2.1.there hal hh, h.2.2.2.2⟩) (fun r U U' V V' h1 hal h2 h => XT.PureE.mv r U U' V V' h1 hal h2 h) ?_
  intro p e s m args below meth c s₁ X0 hexec hbytes hml hret hlk hnm hown hh0 W hP
  obtain ⟨rfl, hx, hc, s1, hz⟩ := hP
  have c1 : Steps p.tables e below (s₁.setTop (entryFrame m #[.ref x] 1)) (s₁.setTop (mkF m 0 #[.val (.ref x)] [])) := entry rfl
  obtain ⟨T2, X2, q2, st2⟩ := X0.sget hexec hown (wk W (.fieldLink "java/lang/String" 38 "java/lang/String" "COMPACT_STRINGS" "Z")) s1 (fun _ _ h => by rw [hh0]; exact h) (g := (mkF m 0 #[.val (.ref x)] [])) rfl (hb hbytes d0)
  have hh2 := q2.trans hh0
  have c3 : Steps p.tables e below (s₁.setTop (entryFrame m #[.ref x] 1)) (T2.setTop (mkF m 7 #[.val (.ref x)] [.ref x])) := (c1.trans (st2 _ (Steps.refl _))).trans (by
    refine XS.ifNo X2.here hexec rfl (hb hbytes d3) rfl (i0_eq_f hz) ?_
    refine XS.aloadN X2.here hexec rfl (hb hbytes d6) rfl rfl ?_
    exact Steps.refl _)
  obtain ⟨T4, X4, q4, st4⟩ := X2.hget hexec hown (wk W (.fieldLink "java/lang/String" 15 "java/lang/String" "coder" "B")) (hx.mv X2.warmed.alike hh2) (g := (mkF m 7 #[.val (.ref x)] [.ref x])) rfl (rest := []) rfl (hb hbytes d7)
  have c5 : Steps p.tables e below (s₁.setTop (entryFrame m #[.ref x] 1)) (T4.setTop (mkF m 10 #[.val (.ref x)] [.int cd])) := c3.trans (st4 _ (Steps.refl _))
  have c6 : Steps p.tables e below (s₁.setTop (entryFrame m #[.ref x] 1)) (T4.setTop (mkF m 18 #[.val (.ref x)] [.int (1 - cd)])) := by
    rcases hc with rfl | rfl
    · exact c5.trans (by
        refine XS.ifNo X4.here hexec rfl (hb hbytes d10) rfl (i0_ne_f rfl) ?_
        refine iconstV X4.here hexec rfl 1 (hb hbytes d13) (by decide) ?_
        refine XS.goto X4.here hexec rfl (pc0 := 14) rfl (hb hbytes d14) (by decide) rfl ?_
        exact Steps.refl _)
    · exact c5.trans (by
        refine XS.ifYes X4.here hexec rfl (pc0 := 10) rfl (hb hbytes d10) rfl (i0_ne_t (by decide)) (by decide) rfl ?_
        refine iconstV X4.here hexec rfl 0 (hb hbytes d17) (by decide) ?_
        exact Steps.refl _)
  exact ⟨T4, some (.int (1 - cd)), _, _, _, X4, rfl, rfl, rfl, (fun h => by cases h), ⟨rfl, q4.trans hh2⟩, fun fs hl => c6.trans (X4.ireturnOut hexec hret (by rcases hc with rfl | rfl <;> rfl) (Or.inr (Or.inl rfl)) (hb hbytes d18) hl)⟩
end IsL
namespace LChA
def yN : MethodName := ⟨"java/lang/StringLatin1", "charAt", "([BI)C"⟩
abbrev yB : ByteArray := jdk_43_method_2_code
theorem d0 : decode yB 0 = .ok (.iload_n 1, 1) := by decide +kernel
theorem d1 : decode yB 1 = .ok (.aload_n 0, 1) := by decide +kernel
theorem d2 : decode yB 2 = .ok (.arraylength, 1) := by decide +kernel
theorem d3 : decode yB 3 = .ok (.invokestatic 9, 3) := by decide +kernel
theorem d6 : decode yB 6 = .ok (.aload_n 0, 1) := by decide +kernel
theorem d7 : decode yB 7 = .ok (.iload_n 1, 1) := by decide +kernel
theorem d8 : decode yB 8 = .ok (.baload, 1) := by decide +kernel
theorem d9 : decode yB 9 = .ok (.sipush 255, 3) := by decide +kernel
theorem d12 : decode yB 12 = .ok (.iand, 1) := by decide +kernel
theorem d13 : decode yB 13 = .ok (.i2c, 1) := by decide +kernel
theorem d14 : decode yB 14 = .ok (.ireturn, 1) := by decide +kernel
def site : List Cond := [JO.Str_checkIndex.tab] ++ staticW "java/lang/StringLatin1" 9 JO.Str_checkIndex.yN
def tab : Cond := tabOf yN yB 2 (some .char) site
def P (t : Addr) (V : Cell) (i : Nat) (u : Int32) (fm : Value) (args : Array Value) (s : State) : Prop := args = #[.ref t, .int (Int32.ofNat i)] ∧ XT.Arr .byte t V s ∧ V.slots[i]? = some (.int u) ∧ (StaticIs s "jdk/internal/util/Preconditions" "SIOOBE_FORMATTER" "Ljava/util/function/BiFunction;" fm ∧ fm.isRef = true)
def E (u : Int32) (r : Option Value) (s w : State) : Prop := XT.PureE (some (.int (chr8 u))) r s w
theorem law (l : Launch) (t : Addr) (V : Cell) (i : Nat) (u : Int32) (fm : Value) : Law l yN 2 2 2 27 yB 2 (some .char) site (P t V i u fm) (E u) [] 0 0 := by
  refine Law.of_walk (plainFor_of_name (by decide +kernel)) (by decide +kernel) (by decide +kernel) (by decide) (fun _ _ h => by rw [h.1]; rfl) (fun _ U U' hal hh h => ⟨h.1, h.2.1.mv hal hh, h.2.2.1, h.2.2.2.1.there hal hh, h.2.2.2.2⟩) (fun r U U' V V' h1 hal h2 h => XT.PureE.mv r U U' V V' h1 hal h2 h) ?_
  intro p e s m args below meth c s₁ X0 hexec hbytes hml hret hlk hnm hown hh0 W hP
  obtain ⟨rfl, hV, hu, s1, rf⟩ := hP
  have v31 := hV.2.2.2
  have hi : i < V.slots.size := (Array.getElem?_eq_some_iff.mp hu).1
  have c1 : Steps p.tables e below (s₁.setTop (entryFrame m #[.ref t, .int (Int32.ofNat i)] 2)) (s₁.setTop (mkF m 0 #[.val (.ref t), .val (.int (Int32.ofNat i))] [])) := entry rfl
  have c2 : Steps p.tables e below (s₁.setTop (entryFrame m #[.ref t, .int (Int32.ofNat i)] 2)) (s₁.setTop (mkF m 3 #[.val (.ref t), .val (.int (Int32.ofNat i))] [.int (Int32.ofNat V.slots.size), .int (Int32.ofNat i)])) := c1.trans (by
    refine XS.iloadN X0.here hexec rfl (hb hbytes d0) rfl ?_
    refine XS.aloadN X0.here hexec rfl (hb hbytes d1) rfl rfl ?_
    refine X0.alen hexec (hV.mv X0.warmed.alike hh0) rfl rfl (hb hbytes d2) ?_
    exact Steps.refl _)
  obtain ⟨v3, T3, X3, E3, g3⟩ := X0.callS hexec (JO.Str_checkIndex.law l (Int32.ofNat i) (Int32.ofNat V.slots.size) fm) hown (wks W (staticW "java/lang/StringLatin1" 9 JO.Str_checkIndex.yN)) (wk W JO.Str_checkIndex.tab) (W := 0) (Nat.le_of_ble_eq_true rfl) (Nat.le_of_ble_eq_true rfl) (Nat.le_refl _) (Nat.le_refl _) (g := (mkF m 3 #[.val (.ref t), .val (.int (Int32.ofNat i))] [.int (Int32.ofNat V.slots.size), .int (Int32.ofNat i)])) rfl (by rw [hml]; rfl) c2 (argsL := [.int (Int32.ofNat i), .int (Int32.ofNat V.slots.size)]) (rest := []) rfl rfl (by show 2 * 0 + 0 ≤ _; decide) (hb hbytes d3) (⟨rfl, rf, s1.there X0.warmed.alike hh0, Int32.ofNat_not_neg (by omega), lt32 v31 hi⟩)
  obtain ⟨rfl, q3⟩ := E3
  have hh3 := q3.trans hh0
  have c4 : Steps p.tables e below (s₁.setTop (entryFrame m #[.ref t, .int (Int32.ofNat i)] 2)) (T3.setTop (mkF m 14 #[.val (.ref t), .val (.int (Int32.ofNat i))] [.int (chr8 u)])) := Steps.trans g3 (by
    refine XS.aloadN X3.here hexec rfl (hb hbytes d6) rfl rfl ?_
    refine XS.iloadN X3.here hexec rfl (hb hbytes d7) rfl ?_
    refine X3.aget hexec (hV.mv X3.warmed.alike hh3) rfl hu rfl rfl (hb hbytes d8) ?_
    refine sipushV X3.here hexec rfl 255 (hb hbytes d9) (by decide) ?_
    refine XS.iand X3.here hexec rfl (hb hbytes d12) rfl ?_
    refine i2c X3.here hexec rfl (hb hbytes d13) rfl ?_
    exact Steps.refl _)
  exact ⟨T3, some (.int (chr8 u)), _, _, _, X3, rfl, rfl, rfl, (fun h => by cases h), ⟨rfl, hh3⟩, fun fs hl => c4.trans (X3.ireturnOut hexec hret (narrow_c _) (Or.inr (Or.inr (Or.inr (Or.inl rfl)))) (hb hbytes d14) hl)⟩
end LChA
end StrChars
namespace StrChars.Road
open Jvm Sem ClassFile Op Lib Jvm.Stand Jvm.Free Jvm.Free.XT
open Jvm.Lib.Cold (StaticIs)
theorem consq {a : Array Value} {s : State} {c : Jvm.Cond} {L : List Jvm.Cond} (h0 : c.before a s = true) (h : ∀ w ∈ L, w.before a s = true) : ∀ w ∈ c :: L, w.before a s = true := fun w hw => (List.mem_cons.mp hw).elim (fun e => e ▸ h0) (h w)
/-- the words of String.length(), either coding -/
abbrev wordsLen : List Jvm.Cond := [.code Len.yN Len.yB 1 (some .int), .initialized ST, .fieldLink ST 9 ST "value" "[B", .fieldLink ST 38 ST "COMPACT_STRINGS" "Z", .fieldLink ST 15 ST "coder" "B", .code Cdr.yN Cdr.yB 1 (some .byte), .methodLink ST 335 Cdr.yN, .declares Cdr.yN, .selects ST Cdr.yN Cdr.yN, .instanceMethod Cdr.yN]
theorem tabLen_of {a : Array Value} {s : State} (h : ∀ w ∈ wordsLen, w.before a s = true) : Len.tab.before a s = true := by
  have hc : Cdr.tab.before a s = true := unparts (wk h (.code Cdr.yN Cdr.yB 1 (some .byte))) (wks h (.initialized Cdr.yN.cls :: Cdr.site))
  have q := consq hc h
  exact unparts (wk q (.code Len.yN Len.yB 1 (some .int))) (wks q (.initialized Len.yN.cls :: Len.site))
theorem movedLen {Z s : State} {a0 args : Array Value} (hZ : Z.Warmed39 s.vm) (hw : ∀ d ∈ wordsLen, d.before a0 Z = true) : ∀ d ∈ wordsLen, d.before args s = true := fun d hd => by
  have q := hw d hd
  have t : ∀ d ∈ wordsLen, d = .arrayClass .byte ∨ (d.onTables && d.keepsFace) = true := by decide +kernel
  rcases t d hd with rfl | t
  · exact RoadKit.mvA hZ q
  · exact RoadKit.mv hZ q t
/-- the bytes of the chars cs, low before high -/
def wideBytes : List Int32 → List Value
  | [] => []
  | c :: cs => .int (lo8 c) :: .int (hi8 c) :: wideBytes cs
theorem wide_lo (d : Value) : ∀ (cs : List Int32) (j : Nat), j < cs.length → (wideBytes cs).getD (2 * j) d = .int (lo8 (cs.getD j 0))
  | [], j, h => absurd h (Nat.not_lt_zero j)
  | c :: cs, 0, _ => rfl
  | c :: cs, j + 1, h => by
    have q := wide_lo d cs j (by simpa using h)
    rw [show 2 * (j + 1) = 2 * j + 1 + 1 from by omega]
    simpa [wideBytes] using q
theorem wide_hi (d : Value) : ∀ (cs : List Int32) (j : Nat), j < cs.length → (wideBytes cs).getD (2 * j + 1) d = .int (hi8 (cs.getD j 0))
  | [], j, h => absurd h (Nat.not_lt_zero j)
  | c :: cs, 0, _ => rfl
  | c :: cs, j + 1, h => by
    have q := wide_hi d cs j (by simpa using h)
    rw [show 2 * (j + 1) + 1 = 2 * j + 1 + 1 + 1 from by omega]
    simpa [wideBytes] using q
theorem low_at (d : Value) (cs : List Int32) (j : Nat) (h : j < cs.length) : (cs.map fun c => Value.int (lo8 c)).getD j d = .int (lo8 (cs.getD j 0)) := by
  simp [List.getD_eq_getElem?_getD, h]
/-- an array of N2 bytes vs codes the chars cs by the coder cd -/
def CodA (cs : List Int32) (cd N2 : Int32) (vs : List Value) : Prop := (cd = 0 ∧ N2 = Int32.ofNat cs.length ∧ vs = (cs.map fun c => Value.int (lo8 c)) ∧ ∀ c ∈ cs, ¬ 255 < c) ∨ (cd = 1 ∧ N2 = Int32.ofNat (2 * cs.length) ∧ vs = wideBytes cs ∧ ∃ c ∈ cs, 255 < c)
theorem CodA.cod {cs : List Int32} {cd N2 : Int32} {vs : List Value} {V : Cell} (h : CodA cs cd N2 vs) (hn : 2 * cs.length < 2 ^ 31) (hs : V.slots.size = N2.toNatClampNeg) (hv : RoadKit.Has V vs (.int 0)) : Cod cd cs.length (fun j => cs.getD j 0) V := by
  rcases h with ⟨rfl, rfl, rfl, h⟩ | ⟨rfl, rfl, rfl, c, hc, hw⟩
  · rw [n32 (by omega)] at hs
    exact Or.inl ⟨rfl, hs, fun j hj => ⟨by rw [hv j (by omega), low_at _ _ _ hj], by
      have e : cs.getD j 0 = cs[j] := by simp [List.getD_eq_getElem?_getD, hj]
      show ¬ 255 < cs.getD j 0
      rw [e]; exact h _ (List.getElem_mem _)⟩⟩
  · rw [n32 (by omega)] at hs
    obtain ⟨j, hj, rfl⟩ := List.getElem_of_mem hc
    exact Or.inr ⟨rfl, hs, fun j hj => ⟨by rw [hv _ (by omega), wide_lo _ _ _ hj], by rw [hv _ (by omega), wide_hi _ _ _ hj]⟩, j, hj, by
      have e : cs.getD j 0 = cs[j] := by simp [List.getD_eq_getElem?_getD, hj]
      show 255 < cs.getD j 0
      rw [e]; exact hw⟩
/-- an object of exactly java/lang/String, its two fields found: as the laws ask it -/
theorem strObj {Z U : State} {a0 : Array Value} {kI : Nat} (wi : (Jvm.Cond.instantiable ST kI).before a0 Z = true) (al : Z.vm.Alike U.vm) {x : Addr} {v0 c0 : Value} (E : RoadKit.Exa Z U.heap x ST) (V : RoadKit.Fld Z U.heap x ST "value" "[B" v0) (C : RoadKit.Fld Z U.heap x ST "coder" "B" c0) :
    ∃ (D : Cell) (fV fC : Field), Blank ST x D U ∧ Found ST "value" "[B" fV U ∧ Found ST "coder" "B" fC U ∧ D.slots[fV.slot]? = some v0 ∧ D.slots[fC.slot]? = some c0 ∧ RoadKit.slotOf Z ST "value" "[B" = fV.slot ∧ RoadKit.slotOf Z ST "coder" "B" = fC.slot := by
  obtain ⟨D, cfV, kV, iV, fV, hD, gV, stV, knV, obV, asV, slV⟩ := V
  obtain ⟨D', cfC, kC, iC, fC, hD', gC, stC, -, -, asC, slC⟩ := C
  cases hD.symm.trans hD'
  obtain ⟨D2, kD, e1, e2, e3, e4, e5⟩ := E
  cases hD.symm.trans e1
  obtain ⟨c2, k2, i1, i2, i3, -⟩ := Cond.instantiable_spec wi
  cases e2.symm.trans i1
  cases e3.symm.trans i2
  obtain ⟨kU, u1, u2⟩ := al.2.2 _ _ e3
  exact ⟨D, fV, fC, ⟨hD, ⟨knV, fun q hq => by rw [hq] at obV; cases obV⟩, by rw [al.findClass]; exact e2, kU, u1, by rw [u2]; exact i3, by rw [u2]; exact e5 i3⟩, ⟨SBG.found_only al ⟨cfV, kV, iV, gV⟩, stV⟩, ⟨SBG.found_only al ⟨cfC, kC, iC, gC⟩, stC⟩, slV, slC, by simp [RoadKit.slotOf, gV], by simp [RoadKit.slotOf, gC]⟩
theorem sta_is {Z U : State} (al : Z.vm.Alike U.vm) {C n d : String} {v : Value} (S : RoadKit.Sta Z U.heap C n d v) : StaticIs U C n d v := by
  obtain ⟨cfS, iS, kS, fS, st, cS, t1, t2, t3, t4, t5, t6, t7⟩ := S
  exact StaticIs.there (s := { Z with heap := U.heap }) ⟨cfS, iS, kS, fS, st, cS, t1, t2, t3, t4, t5, (fun q => by rw [q] at t6; cases t6), t7⟩ al rfl
/-- **length() OF SUCH A STRING** -/
theorem lenW {p : Program} {l : Launch} {e : Env} {R : Room} {s : State} {args : Array Value} {below : List Frame} {len W : Nat} {Z : State} {a0 : Array Value} {h : Heap} (hZ : Z.Warmed39 s.vm) (hw : ∀ d ∈ wordsLen, d.before a0 Z = true) {kI : Nat} (wi : (Jvm.Cond.instantiable ST kI).before a0 Z = true)
    {x t : Addr} {kb : ClassId} {cs : List Int32} {cd N2 z : Int32} {vs : List Value} (E : RoadKit.Exa Z h x ST) (V : RoadKit.Fld Z h x ST "value" "[B" (.ref t)) (C : RoadKit.Fld Z h x ST "coder" "B" (.int cd)) (K : RoadKit.Arv Z h t kb .byte N2 vs (.int 0)) (hc : CodA cs cd N2 vs) (hb : ∀ c ∈ cs, ¬ c < 0 ∧ ¬ (65535 : Int32) < c)
    (S : RoadKit.Sta Z h ST "COMPACT_STRINGS" "Z" (.int z)) (hz : ¬ z = 0) (l2 : cs.length ≤ 4000) (hfr : 2 ≤ R.frames) (hlo : W + 25 ≤ R.locals) :
    Back l R p e below s args (⟨"java/lang/String", "length", "()I"⟩ : MethodName) len W (fun P a => a = #[.ref x] ∧ P.U.heap = h ∧ P.cells + 0 ≤ R.cells ∧ P.slots + 0 ≤ R.slots)
      (fun P _ v B => ∃ L, (v = some (.int (Int32.ofNat cs.length)) ∧ L = [] ∧ B.U.heap = h) ∧ B.locs = P.locs ++ L ∧ B.cells = P.cells + 0 ∧ B.slots = P.slots + 0) := by
  obtain ⟨A, K1, K2, K3, K4, K5, K6⟩ := K
  have hcod := hc.cod (by omega) K3 K5
  intro m meth c P g ig mk a X hg hsize hdg hW hn hp'
  obtain ⟨rfl, rfl, r1, r2⟩ := hp'
  have al : Z.vm.Alike P.U.vm := hZ.alike.trans X.warmed.alike
  obtain ⟨D, fV, fC, hB, F1, F2, g1, g2, -, -⟩ := strObj wi al E V C
  have hx : Txt x t A cd cs.length (fun j => cs.getD j 0) P.U := ⟨⟨_, hB.2.2.1, D, hB.1, rfl, by cases q : D.vm <;> first | rfl | exact absurd q (hB.2.1.2 _)⟩, Has.of hB F1 g1, Has.of hB F2 g2, ⟨K1.1, State.isArrayOf_alike al K1.2.1, K1.2.2, by rcases hcod with ⟨-, q, -⟩ | ⟨-, q, -⟩ <;> omega⟩, hcod, fun j hj => by
    have e : cs.getD j 0 = cs[j] := by simp [List.getD_eq_getElem?_getD, hj]
    show ¬ cs.getD j 0 < 0 ∧ ¬ 65535 < cs.getD j 0
    rw [e]; exact hb _ (List.getElem_mem _)⟩
  obtain ⟨v, B, X', ⟨⟨hv, hh⟩, hl, hk, hs⟩, st⟩ := Len.pays x t A cd cs.length (fun j => cs.getD j 0) z (tabLen_of (movedLen hZ hw)) hfr hlo m meth c P g ig mk _ X hg hsize hdg hW hn ⟨r1, r2, rfl, hx, sta_is al S, hz⟩
  exact ⟨v, B, X', ⟨[], ⟨hv, rfl, hh⟩, hl, hk, hs⟩, st⟩
end StrChars.Road
namespace StrChars.Road
open Jvm Sem ClassFile Op Lib Jvm.Stand Jvm.Free Jvm.Free.XT
open Jvm.Lib.Cold (StaticIs)
/-- the road's facts of a String, as the laws ask it -/
theorem txt_of {Z U : State} {a0 : Array Value} {kI : Nat} (wi : (Jvm.Cond.instantiable ST kI).before a0 Z = true) (al : Z.vm.Alike U.vm) {x t : Addr} {kb : ClassId} {cs : List Int32} {cd N2 : Int32} {vs : List Value} (E : RoadKit.Exa Z U.heap x ST) (V : RoadKit.Fld Z U.heap x ST "value" "[B" (.ref t)) (C : RoadKit.Fld Z U.heap x ST "coder" "B" (.int cd)) (K : RoadKit.Arv Z U.heap t kb .byte N2 vs (.int 0)) (hc : CodA cs cd N2 vs) (hb : ∀ c ∈ cs, ¬ c < 0 ∧ ¬ (65535 : Int32) < c) (l2 : cs.length ≤ 4000) :
    ∃ A, Txt x t A cd cs.length (fun j => cs.getD j 0) U := by
  obtain ⟨A, K1, K2, K3, K4, K5, K6⟩ := K
  have hcod := hc.cod (by omega) K3 K5
  obtain ⟨D, fV, fC, hB, F1, F2, g1, g2, -, -⟩ := strObj wi al E V C
  exact ⟨A, ⟨_, hB.2.2.1, D, hB.1, rfl, by cases q : D.vm <;> first | rfl | exact absurd q (hB.2.1.2 _)⟩, Has.of hB F1 g1, Has.of hB F2 g2, ⟨K1.1, State.isArrayOf_alike al K1.2.1, K1.2.2, by rcases hcod with ⟨-, q, -⟩ | ⟨-, q, -⟩ <;> omega⟩, hcod, fun j hj => by
    have e : cs.getD j 0 = cs[j] := by simp [List.getD_eq_getElem?_getD, hj]
    show ¬ cs.getD j 0 < 0 ∧ ¬ 65535 < cs.getD j 0
    rw [e]; exact hb _ (List.getElem_mem _)⟩
end StrChars.Road
namespace StrChars
open Jvm Sem ClassFile Op Lib Jvm.Stand Jvm.Free.XT Jvm.Free.ALB Jvm.Free.JM Jvm.Free
open Jvm.Lib.Cold (StaticIs)
namespace ChN
def yN : MethodName := ⟨"java/lang/String", "charAt", "(I)C"⟩
abbrev yB : ByteArray := jdk_42_method_56_code
theorem d0 : decode yB 0 = .ok (.aload_n 0, 1) := by decide +kernel
theorem d1 : decode yB 1 = .ok (.invokevirtual 492, 3) := by decide +kernel
theorem d4 : decode yB 4 = .ok (.ifCond (.eq) 12, 3) := by decide +kernel
theorem d7 : decode yB 7 = .ok (.aload_n 0, 1) := by decide +kernel
theorem d8 : decode yB 8 = .ok (.getfield 9, 3) := by decide +kernel
theorem d11 : decode yB 11 = .ok (.iload_n 1, 1) := by decide +kernel
theorem d12 : decode yB 12 = .ok (.invokestatic 495, 3) := by decide +kernel
theorem d15 : decode yB 15 = .ok (.ireturn, 1) := by decide +kernel
def site : List Cond := [.fieldLink "java/lang/String" 9 "java/lang/String" "value" "[B", IsL.tab, LChA.tab] ++ virtW "java/lang/String" 492 "java/lang/String" IsL.yN IsL.yN ++ staticW "java/lang/String" 495 LChA.yN
def tab : Cond := tabOf yN yB 2 (some .char) site
def P (x t : Addr) (V : Cell) (n : Nat) (f : Nat → Int32) (z : Int32) (fm : Value) (i : Nat) (args : Array Value) (s : State) : Prop := args = #[.ref x, .int (Int32.ofNat i)] ∧ Txt x t V 0 n f s ∧ i < n ∧ StaticIs s "java/lang/String" "COMPACT_STRINGS" "Z" (.int z) ∧ ¬ z = 0 ∧ StaticIs s "jdk/internal/util/Preconditions" "SIOOBE_FORMATTER" "Ljava/util/function/BiFunction;" fm ∧ fm.isRef = true
def E (f : Nat → Int32) (i : Nat) (r : Option Value) (s u : State) : Prop := XT.PureE (some (.int (f i))) r s u
/-- charAt(i) of a Latin-1 String of n chars, i < n: f i -/
theorem law (l : Launch) (x t : Addr) (V : Cell) (n : Nat) (f : Nat → Int32) (z : Int32) (fm : Value) (i : Nat) : Law l yN 2 1 3 40 yB 2 (some .char) site (P x t V n f z fm i) (E f i) [] 0 0 := by
  refine Law.of_walk (plainFor_of_name (by decide +kernel)) (by decide +kernel) (by decide +kernel) (by decide) (fun _ _ h => by rw [h.1]; rfl) (fun _ U U' hal hh h => ⟨h.1, h.2.1.mv hal hh, h.2.2.1, h.2.2.2.1.there hal hh, h.2.2.2.2.1, h.2.2.2.2.2.1.there hal hh, h.2.2.2.2.2.2⟩) (fun r U U' V V' h1 hal h2 h => XT.PureE.mv r U U' V V' h1 hal h2 h) ?_
  intro p e s m args below meth c s₁ X0 hexec hbytes hml hret hlk hnm hown hh0 W hP
  obtain ⟨rfl, hx, hi, s1, hz, s3, rf⟩ := hP
  have v31 := hx.2.2.2.1.2.2.2
  have hr := hx.2.2.2.2.2 i hi
  have hx0 := hx.mv X0.warmed.alike hh0
  have c1 : Steps p.tables e below (s₁.setTop (entryFrame m #[.ref x, .int (Int32.ofNat i)] 2)) (s₁.setTop (mkF m 1 #[.val (.ref x), .val (.int (Int32.ofNat i))] [.ref x])) := Steps.trans (entry rfl) (by
    show Steps p.tables e below (s₁.setTop (mkF m 0 #[.val (.ref x), .val (.int (Int32.ofNat i))] [])) _
    refine XS.aloadN X0.here hexec rfl (hb hbytes d0) rfl rfl ?_
    exact Steps.refl _)
  obtain ⟨v2, T2, X2, E2, g2⟩ := X0.callV hexec (IsL.law l x 0 z) hown (wks W (virtW "java/lang/String" 492 "java/lang/String" IsL.yN IsL.yN)) rfl (by decide) (wk W IsL.tab) (W := 0) (Nat.le_of_ble_eq_true rfl) (Nat.le_of_ble_eq_true rfl) (Nat.le_refl _) (Nat.le_refl _) (hx0.1.fc X0.warmed.alike) hx0.1.is (g := (mkF m 1 #[.val (.ref x), .val (.int (Int32.ofNat i))] [.ref x])) rfl (by rw [hml]; rfl) c1 (argsL := []) (rest := []) rfl rfl (by show 2 * 0 + 0 ≤ _; decide) (hb hbytes d1) (⟨rfl, hx0.2.2.1, hx.2.2.2.2.1.cd, s1.there X0.warmed.alike hh0, hz⟩)
  obtain ⟨rfl, q2⟩ := E2
  have hh2 := q2.trans hh0
  have hx2 := hx.mv X2.warmed.alike hh2
  obtain ⟨-, k1, k2⟩ | ⟨k0, -⟩ := hx.2.2.2.2.1
  · have c3 : Steps p.tables e below (s₁.setTop (entryFrame m #[.ref x, .int (Int32.ofNat i)] 2)) (T2.setTop (mkF m 8 #[.val (.ref x), .val (.int (Int32.ofNat i))] [.ref x])) := Steps.trans g2 (by
      refine XS.ifNo X2.here hexec rfl (hb hbytes d4) rfl (i0_eq_f (by decide)) ?_
      refine XS.aloadN X2.here hexec rfl (hb hbytes d7) rfl rfl ?_
      exact Steps.refl _)
    obtain ⟨T4, X4, q4, st4⟩ := X2.hget hexec hown (wk W (.fieldLink "java/lang/String" 9 "java/lang/String" "value" "[B")) hx2.2.1 (g := (mkF m 8 #[.val (.ref x), .val (.int (Int32.ofNat i))] [.ref x])) rfl (rest := []) rfl (hb hbytes d8)
    have hh4 := q4.trans hh2
    have c5 : Steps p.tables e below (s₁.setTop (entryFrame m #[.ref x, .int (Int32.ofNat i)] 2)) (T4.setTop (mkF m 12 #[.val (.ref x), .val (.int (Int32.ofNat i))] [.int (Int32.ofNat i), .ref t])) := (c3.trans (st4 _ (Steps.refl _))).trans (by
      refine XS.iloadN X4.here hexec rfl (hb hbytes d11) rfl ?_
      exact Steps.refl _)
    obtain ⟨v6, T6, X6, E6, g6⟩ := X4.callS hexec (LChA.law l t V i (lo8 (f i)) fm) hown (wks W (staticW "java/lang/String" 495 LChA.yN)) (wk W LChA.tab) (W := 0) (Nat.le_of_ble_eq_true rfl) (Nat.le_of_ble_eq_true rfl) (Nat.le_refl _) (Nat.le_refl _) (g := (mkF m 12 #[.val (.ref x), .val (.int (Int32.ofNat i))] [.int (Int32.ofNat i), .ref t])) rfl (by rw [hml]; rfl) c5 (argsL := [.ref t, .int (Int32.ofNat i)]) (rest := []) rfl rfl (by show 2 * 0 + 0 ≤ _; decide) (hb hbytes d12) (⟨rfl, hx.2.2.2.1.mv X4.warmed.alike hh4, (k2 i hi).1, s3.there X4.warmed.alike hh4, rf⟩)
    obtain ⟨rfl, q6⟩ := E6
    rw [chr8_lo8 hr.1 (k2 i hi).2] at g6
    exact ⟨T6, some (.int (f i)), _, _, _, X6, rfl, rfl, rfl, (fun h => by cases h), ⟨rfl, q6.trans hh4⟩, fun fs hl => Steps.trans g6 (X6.ireturnOut hexec hret (narrow_ch hr.1 hr.2) (Or.inr (Or.inr (Or.inr (Or.inl rfl)))) (hb hbytes d15) hl)⟩
  · exact absurd k0 (by decide)
theorem pays {l : Launch} {R : Room} {p : Program} {e : Env} {below : List Frame} {s : State} {sargs : Array Value} {len W : Nat} (x t : Addr) (V : Cell) (n : Nat) (f : Nat → Int32) (z : Int32) (fm : Value) (i : Nat) (htab : tab.before sargs s = true) (hfr : 4 ≤ R.frames) (hlo : W + 53 ≤ R.locals) :
    Back l R p e below s sargs yN len W (fun A₁ a₁ => A₁.cells + 0 ≤ R.cells ∧ A₁.slots + 0 ≤ R.slots ∧ P x t V n f z fm i a₁ A₁.U) (fun A₁ _ v₁ B₁ => E f i v₁ A₁.U B₁.U ∧ B₁.locs = A₁.locs ++ [] ∧ B₁.cells = A₁.cells + 0 ∧ B₁.slots = A₁.slots + 0) :=
  (law l x t V n f z fm i).pays htab hfr (by omega)
end ChN
end StrChars
namespace StrChars.Road
open Jvm Sem ClassFile Op Lib Jvm.Stand Jvm.Free Jvm.Free.XT
open Jvm.Lib.Cold (StaticIs)
/-- the words of String.charAt(int), the Latin-1 road alone -/
abbrev wordsChN : List Jvm.Cond := [.code ChN.yN ChN.yB 2 (some .char), .initialized ST, .fieldLink ST 9 ST "value" "[B", .fieldLink ST 38 ST "COMPACT_STRINGS" "Z", .fieldLink ST 15 ST "coder" "B", .code IsL.yN IsL.yB 1 (some .boolean), .methodLink ST 492 IsL.yN, .declares IsL.yN, .selects ST IsL.yN IsL.yN, .instanceMethod IsL.yN,
  .methodLink ST 495 LChA.yN, .static LChA.yN, .code LChA.yN LChA.yB 2 (some .char), .initialized "java/lang/StringLatin1", .methodLink "java/lang/StringLatin1" 9 JO.Str_checkIndex.yN, .static JO.Str_checkIndex.yN, .code JO.Str_checkIndex.yN JO.Str_checkIndex.yB 2 none,
  .fieldLink ST 1053 "jdk/internal/util/Preconditions" "SIOOBE_FORMATTER" "Ljava/util/function/BiFunction;", .methodLink ST 1059 JC.PreCheck.yN, .static JC.PreCheck.yN, .code JC.PreCheck.yN JC.PreCheck.yB 3 (some .int), .initialized "jdk/internal/util/Preconditions"]
theorem tabChN_of {a : Array Value} {s : State} (h : ∀ w ∈ wordsChN, w.before a s = true) : ChN.tab.before a s = true := by
  have hp : JC.PreCheck.tab.before a s = true := unparts (wk h (.code JC.PreCheck.yN JC.PreCheck.yB 3 (some .int))) (wks h (.initialized JC.PreCheck.yN.cls :: JC.PreCheck.site))
  have qk := consq hp h
  have hk : JO.Str_checkIndex.tab.before a s = true := unparts (wk qk (.code JO.Str_checkIndex.yN JO.Str_checkIndex.yB 2 none)) (wks qk (.initialized JO.Str_checkIndex.yN.cls :: JO.Str_checkIndex.site))
  have ql := consq hk h
  have hl : LChA.tab.before a s = true := unparts (wk ql (.code LChA.yN LChA.yB 2 (some .char))) (wks ql (.initialized LChA.yN.cls :: LChA.site))
  have hi : IsL.tab.before a s = true := unparts (wk h (.code IsL.yN IsL.yB 1 (some .boolean))) (wks h (.initialized IsL.yN.cls :: IsL.site))
  have q := consq hi (consq hl h)
  exact unparts (wk q (.code ChN.yN ChN.yB 2 (some .char))) (wks q (.initialized ChN.yN.cls :: ChN.site))
theorem movedChN {Z s : State} {a0 args : Array Value} (hZ : Z.Warmed39 s.vm) (hw : ∀ d ∈ wordsChN, d.before a0 Z = true) : ∀ d ∈ wordsChN, d.before args s = true := fun d hd => by
  have t : ∀ d ∈ wordsChN, (d.onTables && d.keepsFace) = true := by decide +kernel
  exact RoadKit.mv hZ (hw d hd) (t d hd)
/-- **charAt(i) OF A LATIN-1 STRING**, i < n: the char -/
theorem chN {p : Program} {l : Launch} {e : Env} {R : Room} {s : State} {args : Array Value} {below : List Frame} {len W : Nat} {Z : State} {a0 : Array Value} {h : Heap} (hZ : Z.Warmed39 s.vm) (hw : ∀ d ∈ wordsChN, d.before a0 Z = true) {kI : Nat} (wi : (Jvm.Cond.instantiable ST kI).before a0 Z = true)
    {x t : Addr} {kb : ClassId} {cs : List Int32} {N2 z : Int32} {vs : List Value} {fm : Value} {i : Nat} {j : Int32} (E : RoadKit.Exa Z h x ST) (V : RoadKit.Fld Z h x ST "value" "[B" (.ref t)) (C : RoadKit.Fld Z h x ST "coder" "B" (.int 0)) (K : RoadKit.Arv Z h t kb .byte N2 vs (.int 0)) (hc : CodA cs 0 N2 vs) (hb : ∀ c ∈ cs, ¬ c < 0 ∧ ¬ (65535 : Int32) < c)
    (S : RoadKit.Sta Z h ST "COMPACT_STRINGS" "Z" (.int z)) (hz : ¬ z = 0) (F : RoadKit.Sta Z h "jdk/internal/util/Preconditions" "SIOOBE_FORMATTER" "Ljava/util/function/BiFunction;" fm) (rf : fm.isRef = true) (l2 : cs.length ≤ 4000) (hi : i < cs.length) (hj : j = Int32.ofNat i) (hfr : 4 ≤ R.frames) (hlo : W + 53 ≤ R.locals) :
    Back l R p e below s args (⟨"java/lang/String", "charAt", "(I)C"⟩ : MethodName) len W (fun P a => a = #[.ref x, .int j] ∧ P.U.heap = h ∧ P.cells + 0 ≤ R.cells ∧ P.slots + 0 ≤ R.slots)
      (fun P _ v B => ∃ L, (v = some (.int (cs.getD i 0)) ∧ L = [] ∧ B.U.heap = h) ∧ B.locs = P.locs ++ L ∧ B.cells = P.cells + 0 ∧ B.slots = P.slots + 0) := by
  subst hj
  intro m meth c P g ig mk a X hg hsize hdg hW hn hp'
  obtain ⟨rfl, rfl, r1, r2⟩ := hp'
  have al : Z.vm.Alike P.U.vm := hZ.alike.trans X.warmed.alike
  obtain ⟨A, hx⟩ := txt_of wi al E V C K hc hb l2
  obtain ⟨v, B, X', ⟨⟨hv, hh⟩, hl, hk, hs⟩, st⟩ := ChN.pays x t A cs.length (fun j => cs.getD j 0) z fm i (tabChN_of (movedChN hZ hw)) hfr hlo m meth c P g ig mk _ X hg hsize hdg hW hn ⟨r1, r2, rfl, hx, hi, sta_is al S, hz, sta_is al F, rf⟩
  exact ⟨v, B, X', ⟨[], ⟨hv, rfl, hh⟩, hl, hk, hs⟩, st⟩
/-- what backV says of its String, as the contracts of this text ask it: cs's low bytes, coder 0 -/
theorem codOf {cs : List Int32} {n : Nat} (hn : cs.length = n) (hb : ∀ c ∈ cs, ¬ 255 < c) : CodA cs 0 (Int32.ofNat n) ((cs.map lo8).map Value.int) := Or.inl ⟨rfl, by rw [hn], by simp [List.map_map, Function.comp_def], hb⟩
end StrChars.Road
end Jvm.Pilot.@@N@@
namespace Jvm.Own
open Sem ClassFile Op Lib Jvm.Stand Jvm.Free Jvm.LawKit Jvm.RoadKit
/-- the walk goes on from here and ends in P -/
def Go (p : Program) (e : Env) (below : List Frame) (P : Outcome → State → Prop) (T : State) (g : JFrame) : Prop :=
  ∃ U o, Steps p.tables e below (T.setTop g) U ∧ U.status = .running ∧ Ended U below o ∧ P o U
abbrev PP (s : State) (Q : Option Value → Heap → List Loc → Prop) (K J : Nat) (o : Outcome) (U : State) : Prop := ∃ v L, o = .returned v ∧ Q v U.heap L ∧ FrameEnd s o U L K J
abbrev PS (Z : State) (EL : List (String × Nat)) (s : State) (Q : Option Value → Heap → List Loc → Prop) (K J : Nat) (o : Outcome) (U : State) : Prop := ∃ v L, o = .returned v ∧ Q v U.heap L ∧ CHr Z EL s.vm s.heap U.vm U.heap ∧ ReturnedEndW s o U L K J
abbrev CtP (l : Launch) (y : MethodName) (bytes : ByteArray) (mx : Nat) (ret : Option FieldType) (ws : List Jvm.Cond) (rm : Room) (Z : State) (as' : Array Value) (h0 : Heap) (Q : Option Value → Heap → List Loc → Prop) : Prop :=
  MetFree l y (head1 (Jvm.Cond.code y bytes mx ret :: ws) rm) (fun a U => a = as' ∧ Z.Warmed39 U.vm ∧ U.heap = h0) (fun _ _ _ _ _ => True) (fun _ U o U' => PP U Q rm.cells rm.slots o U')
abbrev CtS (l : Launch) (y : MethodName) (bytes : ByteArray) (mx : Nat) (ret : Option FieldType) (ws : List Jvm.Cond) (rm : Room) (Z : State) (EL : List (String × Nat)) (SL : List Addr) (as' : Array Value) (h0 : Heap) (Q : Option Value → Heap → List Loc → Prop) : Prop :=
  MetFree l y (head1 (Jvm.Cond.code y bytes mx ret :: ws) rm) (fun a U => a = as' ∧ Z.Warmed39 U.vm ∧ U.heap = h0 ∧ CHv Z EL U.vm h0 ∧ ∀ x ∈ SL, Safe Z EL U.vm h0 x) (fun _ _ _ _ _ => True) (fun _ U o U' => PS Z EL U Q rm.cells rm.slots o U')
abbrev PL (s : State) (Q : Option Value → Heap → List Loc → Prop) (K J : Nat) (o : Outcome) (U : State) : Prop := ∃ v L, o = .returned v ∧ Q v U.heap L ∧ ReturnedEndW s o U L K J
abbrev CtL (l : Launch) (y : MethodName) (bytes : ByteArray) (mx : Nat) (ret : Option FieldType) (ws : List Jvm.Cond) (rm : Room) (Z : State) (EL : List (String × Nat)) (as' : Array Value) (h0 : Heap) (Q : Option Value → Heap → List Loc → Prop) : Prop :=
  MetFree l y (head1 (Jvm.Cond.code y bytes mx ret :: ws) rm) (fun a U => a = as' ∧ Z.Warmed39 U.vm ∧ U.heap = h0 ∧ CHv Z EL U.vm h0) (fun _ _ _ _ _ => True) (fun _ U o U' => PL U Q rm.cells rm.slots o U')
abbrev Pays (l : Launch) (R : Room) (p : Program) (e : Env) (below : List Frame) (s : State) (args : Array Value) (y : MethodName) (len W : Nat) (as' : Array Value) (h : Heap) (k j : Nat) (Q : Option Value → Heap → List Loc → Prop) : Prop :=
  Back l R p e below s args y len W (fun A a => a = as' ∧ A.U.heap = h ∧ A.cells + k ≤ R.cells ∧ A.slots + j ≤ R.slots) (fun A _ v B => ∃ L, Q v B.U.heap L ∧ B.locs = A.locs ++ L ∧ B.cells = A.cells + k ∧ B.slots = A.slots + j)
abbrev PaysS (l : Launch) (R : Room) (p : Program) (e : Env) (below : List Frame) (s : State) (vm0 : Vm) (args : Array Value) (y : MethodName) (len W : Nat) (as' : Array Value) (h : Heap) (k j : Nat) (Z : State) (EL : List (String × Nat)) (Q : Option Value → Heap → List Loc → Prop) : Prop :=
  BackS l R p e below (s.setVm vm0) args y len W (fun A a => a = as' ∧ A.U.heap = h ∧ A.cells + k ≤ R.cells ∧ A.slots + j ≤ R.slots) (fun A _ v B => ∃ L, Q v B.U.heap L ∧ B.locs = A.locs ++ L ∧ B.cells = A.cells + k ∧ B.slots = A.slots + j ∧ CHr Z EL vm0 h B.U.vm B.U.heap)
section Own
variable {p : Program} {l : Launch} {e : Env} {R : Room} {s : State} {m : MethodId} {args : Array Value} {below : List Frame} {meth : Method} {c : Code} {T : State} {locs : List Loc} {cells slots : Nat} {P : Outcome → State → Prop} {pc : Nat} {Ls : Array Slot} {st : List Value} {Z : State} {a0 : Array Value} {h : Heap} {EL : List (String × Nat)} {vm0 : Vm} {k0 : Nat} {SL : List Addr} {Q : Option Value → Heap → List Loc → Prop}
theorem Go.of {T' : State} {g g' : JFrame} (h : ∀ t, Steps p.tables e below (T'.setTop g') t → Steps p.tables e below (T.setTop g) t) (k : Go p e below P T' g') : Go p e below P T g := by
  obtain ⟨U, o, h1, h2⟩ := k
  exact ⟨U, o, h _ h1, h2⟩
theorem Go.tr {T' : State} {g g' : JFrame} (h : Steps p.tables e below (T.setTop g) (T'.setTop g')) (k : Go p e below P T' g') : Go p e below P T g := Go.of (fun _ q => h.trans q) k
theorem standUp {k j : Nat} (X : Stand p l e R s m args below meth c T locs cells slots) (h1 : cells ≤ k) (h2 : slots ≤ j) : Stand p l e R s m args below meth c T locs k j := { X with same := X.same.mono h1 h2 }
theorem gcut {w : Value} {n0 : Nat} (N : Fr n0 locs) (r : ∀ T' L', Stand p l e R s m args below meth c T' L' cells slots → T'.heap = h → Fr n0 L' → Go p e below P T' (mkF m pc Ls (w :: st))) :
    ∀ v T' h' L' Lc, Stand p l e R s m args below meth c T' L' cells slots → T'.heap = h' → L' = locs ++ Lc → (v = some w ∧ Fr n0 Lc ∧ h' = h) → Go p e below P T' (mkF m pc Ls (v.toList ++ st)) := by
  rintro v T' h' L' Lc X eT hL ⟨rfl, Nq, rfl⟩
  exact r T' L' X eT (by rw [hL]; exact Fr.app N Nq)
theorem gcut0 {n0 : Nat} (N : Fr n0 locs) (r : ∀ T' L', Stand p l e R s m args below meth c T' L' cells slots → T'.heap = h → Fr n0 L' → Go p e below P T' (mkF m pc Ls st)) :
    ∀ v T' h' L' Lc, Stand p l e R s m args below meth c T' L' cells slots → T'.heap = h' → L' = locs ++ Lc → (v = none ∧ Fr n0 Lc ∧ h' = h) → Go p e below P T' (mkF m pc Ls (v.toList ++ st)) := by
  rintro v T' h' L' Lc X eT hL ⟨rfl, Nq, rfl⟩
  exact r T' L' X eT (by rw [hL]; exact Fr.app N Nq)
theorem gcutE {w : Value} {n0 : Nat} (N : Fr n0 locs) (r : ∀ T' L', Stand p l e R s m args below meth c T' L' cells slots → T'.heap = h → Fr n0 L' → Go p e below P T' (mkF m pc Ls (w :: st))) :
    ∀ v T' h' L' Lc, Stand p l e R s m args below meth c T' L' cells slots → T'.heap = h' → L' = locs ++ Lc → (v = some w ∧ Lc = [] ∧ h' = h) → Go p e below P T' (mkF m pc Ls (v.toList ++ st)) := by
  rintro v T' h' L' Lc X eT hL ⟨rfl, rfl, rfl⟩
  exact r T' L' X eT (by rw [hL]; exact Fr.app N (Fr.nil n0))
theorem CtP.walk {y : MethodName} {bytes : ByteArray} {mx : Nat} {ret : Option FieldType} {ws : List Jvm.Cond} {rm : Room} {as' : Array Value} {h0 : Heap} (hpn : plainFor y = true) (hef : ∀ m, entryFrame m as' mx = mkF m 0 Ls [])
    (k : ∀ (p : Program) (e : Env) (s : State) (m : MethodId) (below : List Frame) (meth : Method) (c : Code) (T : State), p.tables.exec = Jvm.exec → c.code = bytes → c.maxLocals = mx → s.vm.findClass y.cls = some m.cls → meth.name = y.name → meth.sig.returnType = ret → meth.locks = false → Z.Warmed39 s.vm →
      Stand p l e rm s m as' below meth c T [] 0 0 → T.heap = h0 → Go p e below (PP s Q rm.cells rm.slots) T (mkF m 0 Ls [])) : CtP l y bytes mx ret ws rm Z as' h0 Q := by
  refine MetFree.of_bodySF hpn hisR ?_
  intro p e s m args below meth c s₁ Bd hml hP hK
  obtain ⟨rfl, hZ, hh⟩ := hP
  obtain ⟨U, o, h1, h2, h3, h4⟩ := k p e s m below meth c s₁ Bd.exec Bd.bytes hml (findClass_of_methodNamed Bd.named) (name_of_methodNamed Bd.named Bd.method).1 Bd.returns Bd.notSynchronized hZ (Stand.of_body Bd) (by rw [← hh, Bd.state]; rfl)
  exact ⟨U, o, castTop (hef m) h1, h2, h3, h4⟩
theorem CtS.walk {y : MethodName} {bytes : ByteArray} {mx : Nat} {ret : Option FieldType} {ws : List Jvm.Cond} {rm : Room} {as' : Array Value} {h0 : Heap} (hpn : plainFor y = true) (hef : ∀ m, entryFrame m as' mx = mkF m 0 Ls [])
    (k : ∀ (p : Program) (e : Env) (s : State) (m : MethodId) (below : List Frame) (meth : Method) (c : Code) (T : State) (vm : Vm) (k0 : Nat), p.tables.exec = Jvm.exec → c.code = bytes → c.maxLocals = mx → vm.findClass y.cls = some m.cls → meth.name = y.name → meth.sig.returnType = ret → meth.locks = false → Z.Warmed39 vm →
      Stand p l e rm (s.setVm vm) m as' below meth c T [] 0 0 → T.heap = h0 → s.Since vm k0 → k0 ≤ h0.size → CHr Z EL s.vm s.heap vm h0 → (∀ x ∈ SL, Safe Z EL vm h0 x) → Go p e below (PS Z EL s Q rm.cells rm.slots) T (mkF m 0 Ls [])) : CtS l y bytes mx ret ws rm Z EL SL as' h0 Q := by
  refine MetFree.of_bodySF hpn hisR ?_
  intro p e s m args below meth c s₁ Bd hml hP hK
  obtain ⟨rfl, hZ, hh, hC, hSL⟩ := hP
  obtain ⟨U, o, h1, h2, h3, h4⟩ := k p e s m below meth c s₁ s.vm h0.size Bd.exec Bd.bytes hml (findClass_of_methodNamed Bd.named) (name_of_methodNamed Bd.named Bd.method).1 Bd.returns Bd.notSynchronized hZ (Stand.of_body Bd) (by rw [← hh, Bd.state]; rfl) ((State.WarmedH.refl s).since _) (Nat.le_refl _) (by rw [hh]; exact CHr.refl hC) hSL
  exact ⟨U, o, castTop (hef m) h1, h2, h3, h4⟩
theorem CtL.walk {y : MethodName} {bytes : ByteArray} {mx : Nat} {ret : Option FieldType} {ws : List Jvm.Cond} {rm : Room} {as' : Array Value} {h0 : Heap} (hpn : plainFor y = true) (hef : ∀ m, entryFrame m as' mx = mkF m 0 Ls [])
    (k : ∀ (p : Program) (e : Env) (s : State) (m : MethodId) (below : List Frame) (meth : Method) (c : Code) (T : State) (vm : Vm) (k0 : Nat), p.tables.exec = Jvm.exec → c.code = bytes → c.maxLocals = mx → vm.findClass y.cls = some m.cls → meth.name = y.name → meth.sig.returnType = ret → meth.locks = false → Z.Warmed39 vm →
      Stand p l e rm (s.setVm vm) m as' below meth c T [] 0 0 → T.heap = h0 → s.Since vm k0 → k0 ≤ h0.size → CHr Z EL s.vm s.heap vm h0 → Go p e below (PL s Q rm.cells rm.slots) T (mkF m 0 Ls [])) : CtL l y bytes mx ret ws rm Z EL as' h0 Q := by
  refine MetFree.of_bodySF hpn hisR ?_
  intro p e s m args below meth c s₁ Bd hml hP hK
  obtain ⟨rfl, hZ, hh, hC⟩ := hP
  obtain ⟨U, o, h1, h2, h3, h4⟩ := k p e s m below meth c s₁ s.vm h0.size Bd.exec Bd.bytes hml (findClass_of_methodNamed Bd.named) (name_of_methodNamed Bd.named Bd.method).1 Bd.returns Bd.notSynchronized hZ (Stand.of_body Bd) (by rw [← hh, Bd.state]; rfl) ((State.WarmedH.refl s).since _) (Nat.le_refl _) (by rw [hh]; exact CHr.refl hC)
  exact ⟨U, o, castTop (hef m) h1, h2, h3, h4⟩
theorem payP {y : MethodName} {bytes : ByteArray} {mx : Nat} {ret : Option FieldType} {rm : Room} {as' : Array Value} {len W : Nat} (hM : CtP l y bytes mx ret [] rm Z as' h Q) (hZ : Z.Warmed39 s.vm) (wc : (Jvm.Cond.code y bytes mx ret).before a0 Z = true) (wz : (Jvm.Cond.initialized y.cls).before a0 Z = true) (hf : rm.frames + 1 ≤ R.frames) (hl : W + (mx + 11) + rm.locals ≤ R.locals) :
    Pays l R p e below s args y len W as' h rm.cells rm.slots Q := backOf hM hZ wc wz hf hl
theorem payS {y : MethodName} {bytes : ByteArray} {mx : Nat} {ret : Option FieldType} {rm : Room} {as' : Array Value} {len W : Nat} (hM : CtS l y bytes mx ret [] rm Z EL SL as' h Q) (hZ : Z.Warmed39 vm0) (wc : (Jvm.Cond.code y bytes mx ret).before a0 Z = true) (wz : (Jvm.Cond.initialized y.cls).before a0 Z = true) (hf : rm.frames + 1 ≤ R.frames) (hl : W + (mx + 11) + rm.locals ≤ R.locals) (hEL : EW Z a0 EL) (H : CHv Z EL vm0 h) (hSL : ∀ x ∈ SL, x < h.size ∧ Safe Z EL vm0 h x) :
    PaysS l R p e below s vm0 args y len W as' h rm.cells rm.slots Z EL Q :=
  BackS.of_freeW (bytes := bytes) (maxL := mx) (ret := ret) (E := fun _ first o t L k n => k = rm.cells ∧ n = rm.slots ∧ (∃ v, o = .returned v ∧ Q v t.heap L) ∧ CHr Z EL first.vm first.heap t.vm t.heap) hM hf hl
    (fun m meth c A a Y hp => have hU : Z.Warmed39 A.U.vm := wtrans (s := s.setVm vm0) hZ Y.warmed
      ⟨by show (Jvm.Cond.and _ .tt).before a A.U = true; rw [Jvm.Cond.before_and, mv hU wc]; rfl, mv hU wc, mv hU wz, hp.2.2.1, hp.2.2.2⟩)
    (fun m meth c A a g mk Y hp => ⟨hp.1, wtrans (s := s.setVm vm0) hZ Y.warmed, hp.2.1, (CHv.at Y hZ hEL H).1, fun x hx => (CHv.at Y hZ hEL H).safe (hSL x hx).1 (hSL x hx).2⟩) (fun _ _ _ _ _ _ _ _ _ => trivial)
    (fun _ _ _ _ ⟨v, L, h1, h2, h3, h4⟩ => ⟨L, _, _, h4, rfl, rfl, ⟨v, h1, h2⟩, h3⟩)
    (fun m meth c A a g mk v t L k n Y hp _ _ ⟨e1, e2, ⟨v', e3, e4⟩, e5⟩ => by
      cases e3; subst e1 e2
      refine ⟨L, e4, rfl, rfl, rfl, (CHv.at Y hZ hEL H).trans ?_⟩
      rw [← hp.2.1]; exact e5)
/-! the ends -/
theorem gRetP {w : Value} {t : FieldType} {i : Instr} {K J : Nat} (X : Stand p l e R s m args below meth c T locs cells slots) (hx : p.tables.exec = Jvm.exec) (hlk : meth.locks = false) (hret : meth.sig.returnType = some t) (hn : narrow t w = w)
    (hi : (i = .ireturn ∧ (t = .int ∨ t = .boolean ∨ t = .byte ∨ t = .char ∨ t = .short) ∧ ∃ z, w = .int z) ∨ (i = .lreturn ∧ t = .long ∧ ∃ z, w = .long z) ∨ (i = .dreturn ∧ t = .double ∧ ∃ z, w = .double z) ∨ (i = .freturn ∧ t = .float ∧ ∃ z, w = .float z) ∨ (i = .areturn ∧ t.isReference = true ∧ w.isRef = true))
    (hd : decode c.code pc = .ok (i, 1)) (eT : T.heap = h) (hK : cells ≤ K) (hJ : slots ≤ J) (hQ : Q (some w) h locs) : Go p e below (PP s Q K J) T (mkF m pc Ls (w :: st)) := by
  obtain ⟨fs, hr, hrun, hended, hW, hsame⟩ := X.leave (v := some w) (fun h => by rw [hret] at h; cases h)
  exact ⟨_, _, retOut X hx hret hn hi hd hr, hrun, hended, _, _, rfl, by show Q (some w) T.heap locs; rw [eT]; exact hQ, ⟨_, rfl⟩, hW, hsame.mono hK hJ⟩
theorem gRetP0 {K J : Nat} (X : Stand p l e R s m args below meth c T locs cells slots) (hx : p.tables.exec = Jvm.exec) (hlk : meth.locks = false) (hret : meth.sig.returnType = none)
    (hd : decode c.code pc = .ok (.return_, 1)) (eT : T.heap = h) (hK : cells ≤ K) (hJ : slots ≤ J) (hQ : Q none h locs) : Go p e below (PP s Q K J) T (mkF m pc Ls []) := by
  obtain ⟨fs, hr, hrun, hended, hW, hsame⟩ := X.leave (v := none) (fun _ => rfl)
  exact ⟨_, _, X.returnOut hx hret hd hr, hrun, hended, _, _, rfl, by show Q none T.heap locs; rw [eT]; exact hQ, ⟨_, rfl⟩, hW, hsame.mono hK hJ⟩
theorem monoW {s t : State} {o : Outcome} {L : List Loc} {k n K J : Nat} (q : ReturnedEndW s o t L k n) (hK : k ≤ K) (hJ : n ≤ J) : ReturnedEndW s o t L K J := ⟨q.1, q.2.1, q.2.2.1, q.2.2.2.mono hK hJ⟩
theorem gRetS {w : Value} {t : FieldType} {i : Instr} {K J : Nat} (X : Stand p l e R (s.setVm vm0) m args below meth c T locs cells slots) (hx : p.tables.exec = Jvm.exec) (hlk : meth.locks = false) (hret : meth.sig.returnType = some t) (hn : narrow t w = w)
    (hi : (i = .ireturn ∧ (t = .int ∨ t = .boolean ∨ t = .byte ∨ t = .char ∨ t = .short) ∧ ∃ z, w = .int z) ∨ (i = .lreturn ∧ t = .long ∧ ∃ z, w = .long z) ∨ (i = .dreturn ∧ t = .double ∧ ∃ z, w = .double z) ∨ (i = .freturn ∧ t = .float ∧ ∃ z, w = .float z) ∨ (i = .areturn ∧ t.isReference = true ∧ w.isRef = true))
    (hd : decode c.code pc = .ok (i, 1)) (eT : T.heap = h) (hS : s.Since vm0 k0) (hk : k0 ≤ h.size) (hZ : Z.Warmed39 vm0) (hEL : EW Z a0 EL) (C : CHr Z EL s.vm s.heap vm0 h) (hK : cells ≤ K) (hJ : slots ≤ J) (hQ : Q (some w) h locs) : Go p e below (PS Z EL s Q K J) T (mkF m pc Ls (w :: st)) := by
  subst eT
  obtain ⟨fs, hr, hrun, hended, hW⟩ := X.leaveW hS hk (v := some w) (fun h => by rw [hret] at h; cases h) hlk
  exact ⟨_, _, retOut X hx hret hn hi hd hr, hrun, hended, _, _, rfl, hQ, C.trans (show CHr Z EL vm0 T.heap T.vm T.heap from CHv.at X hZ hEL C.1), monoW hW hK hJ⟩
theorem gRetL {w : Value} {t : FieldType} {i : Instr} {K J : Nat} (X : Stand p l e R (s.setVm vm0) m args below meth c T locs cells slots) (hx : p.tables.exec = Jvm.exec) (hlk : meth.locks = false) (hret : meth.sig.returnType = some t) (hn : narrow t w = w)
    (hi : (i = .ireturn ∧ (t = .int ∨ t = .boolean ∨ t = .byte ∨ t = .char ∨ t = .short) ∧ ∃ z, w = .int z) ∨ (i = .lreturn ∧ t = .long ∧ ∃ z, w = .long z) ∨ (i = .dreturn ∧ t = .double ∧ ∃ z, w = .double z) ∨ (i = .freturn ∧ t = .float ∧ ∃ z, w = .float z) ∨ (i = .areturn ∧ t.isReference = true ∧ w.isRef = true))
    (hd : decode c.code pc = .ok (i, 1)) (eT : T.heap = h) (hS : s.Since vm0 k0) (hk : k0 ≤ h.size) (hK : cells ≤ K) (hJ : slots ≤ J) (hQ : Q (some w) h locs) : Go p e below (PL s Q K J) T (mkF m pc Ls (w :: st)) := by
  subst eT
  obtain ⟨fs, hr, hrun, hended, hW⟩ := X.leaveW hS hk (v := some w) (fun h => by rw [hret] at h; cases h) hlk
  exact ⟨_, _, retOut X hx hret hn hi hd hr, hrun, hended, _, _, rfl, hQ, monoW hW hK hJ⟩
theorem selP {y : MethodName} (nf : NotFace s y) (hpriv : s.PrivateAt y) (hinst : (Jvm.Cond.instanceMethod y).before args s = true) (hy : y.cls ≠ "java/lang/invoke/MethodHandle" ∧ y.cls ≠ "java/lang/invoke/VarHandle") : (Jvm.Cond.selects y.cls y y).before args s = true := by
  obtain ⟨mk, methM, hnamed, hmethM, -, -⟩ := Cond.instanceMethod_spec hinst
  obtain ⟨kr, h1, h2⟩ := nf mk hnamed
  exact selects_self_of_private (findClass_of_methodNamed hnamed) h1 h2 hpriv hinst hy
/-! single steps -/
theorem gaload (X : Stand p l e R s m args below meth c T locs cells slots) (hx : p.tables.exec = Jvm.exec) {k : Nat} {v : Value} (pc' : Nat) (hd : decode c.code pc = .ok (.aload k, 2)) (hp : pc + 2 = pc') (hl : Ls[k]? = some (.val v)) (hv : v.isRef = true) (r : Go p e below P T (mkF m pc' Ls (v :: st))) : Go p e below P T (mkF m pc Ls (st)) := by
  subst hp; exact Go.of (fun _ q => XS.aload X.here hx rfl hd hl hv q) r
theorem galoadN (X : Stand p l e R s m args below meth c T locs cells slots) (hx : p.tables.exec = Jvm.exec) {k : Fin 4} {v : Value} (pc' : Nat) (hd : decode c.code pc = .ok (.aload_n k, 1)) (hp : pc + 1 = pc') (hl : Ls[k.val]? = some (.val v)) (hv : v.isRef = true) (r : Go p e below P T (mkF m pc' Ls (v :: st))) : Go p e below P T (mkF m pc Ls (st)) := by
  subst hp; exact Go.of (fun _ q => XS.aloadN X.here hx rfl hd hl hv q) r
theorem giload (X : Stand p l e R s m args below meth c T locs cells slots) (hx : p.tables.exec = Jvm.exec) {k : Nat} {v : Int32} (pc' : Nat) (hd : decode c.code pc = .ok (.iload k, 2)) (hp : pc + 2 = pc') (hl : Ls[k]? = some (.val (.int v))) (r : Go p e below P T (mkF m pc' Ls (.int v :: st))) : Go p e below P T (mkF m pc Ls (st)) := by
  subst hp; exact Go.of (fun _ q => XS.iload X.here hx rfl hd hl q) r
theorem giloadN (X : Stand p l e R s m args below meth c T locs cells slots) (hx : p.tables.exec = Jvm.exec) {k : Fin 4} {v : Int32} (pc' : Nat) (hd : decode c.code pc = .ok (.iload_n k, 1)) (hp : pc + 1 = pc') (hl : Ls[k.val]? = some (.val (.int v))) (r : Go p e below P T (mkF m pc' Ls (.int v :: st))) : Go p e below P T (mkF m pc Ls (st)) := by
  subst hp; exact Go.of (fun _ q => XS.iloadN X.here hx rfl hd hl q) r
theorem gistore (X : Stand p l e R s m args below meth c T locs cells slots) (hx : p.tables.exec = Jvm.exec) {k : Nat} {x : Int32} (l' : Array Slot) (pc' : Nat) (hd : decode c.code pc = .ok (.istore k, 2)) (hp : pc + 2 = pc') (hl : storeLocals Ls k (.int x) = some l') (r : Go p e below P T (mkF m pc' l' (st))) : Go p e below P T (mkF m pc Ls (.int x :: st)) := by
  subst hp; exact Go.of (fun _ q => XS.istore X.here hx rfl hd rfl hl q) r
theorem gistoreN (X : Stand p l e R s m args below meth c T locs cells slots) (hx : p.tables.exec = Jvm.exec) {k : Fin 4} {x : Int32} (l' : Array Slot) (pc' : Nat) (hd : decode c.code pc = .ok (.istore_n k, 1)) (hp : pc + 1 = pc') (hl : storeLocals Ls k.val (.int x) = some l') (r : Go p e below P T (mkF m pc' l' (st))) : Go p e below P T (mkF m pc Ls (.int x :: st)) := by
  subst hp; exact Go.of (fun _ q => XS.istoreN X.here hx rfl hd rfl hl q) r
theorem gastore (X : Stand p l e R s m args below meth c T locs cells slots) (hx : p.tables.exec = Jvm.exec) {k : Nat} {x : Value} (l' : Array Slot) (pc' : Nat) (hd : decode c.code pc = .ok (.astore k, 2)) (hp : pc + 2 = pc') (hv : x.isRef = true) (hl : storeLocals Ls k x = some l') (r : Go p e below P T (mkF m pc' l' (st))) : Go p e below P T (mkF m pc Ls (x :: st)) := by
  subst hp; exact Go.of (fun _ q => XS.astore X.here hx rfl hd rfl hv hl q) r
theorem gastoreN (X : Stand p l e R s m args below meth c T locs cells slots) (hx : p.tables.exec = Jvm.exec) {k : Fin 4} {x : Value} (l' : Array Slot) (pc' : Nat) (hd : decode c.code pc = .ok (.astore_n k, 1)) (hp : pc + 1 = pc') (hv : x.isRef = true) (hl : storeLocals Ls k.val x = some l') (r : Go p e below P T (mkF m pc' l' (st))) : Go p e below P T (mkF m pc Ls (x :: st)) := by
  subst hp; exact Go.of (fun _ q => XS.astoreN X.here hx rfl hd rfl hv hl q) r
theorem giconst (X : Stand p l e R s m args below meth c T locs cells slots) (hx : p.tables.exec = Jvm.exec) {i : Int} (v : Int32) (pc' : Nat) (hd : decode c.code pc = .ok (.iconst i, 1)) (hp : pc + 1 = pc') (hv : Int32.ofInt i = v) (r : Go p e below P T (mkF m pc' Ls (.int v :: st))) : Go p e below P T (mkF m pc Ls (st)) := by
  subst hp; exact Go.of (fun _ q => XS.iconst X.here hx rfl hd (by rw [hv]; exact q)) r
theorem gbipush (X : Stand p l e R s m args below meth c T locs cells slots) (hx : p.tables.exec = Jvm.exec) {i : Int} (v : Int32) (pc' : Nat) (hd : decode c.code pc = .ok (.bipush i, 2)) (hp : pc + 2 = pc') (hv : (Int8.ofInt i).toInt32 = v) (r : Go p e below P T (mkF m pc' Ls (.int v :: st))) : Go p e below P T (mkF m pc Ls (st)) := by
  subst hp; exact Go.of (fun _ q => XS.bipush X.here hx rfl hd (by rw [hv]; exact q)) r
theorem gsipush (X : Stand p l e R s m args below meth c T locs cells slots) (hx : p.tables.exec = Jvm.exec) {i : Int} (v : Int32) (pc' : Nat) (hd : decode c.code pc = .ok (.sipush i, 3)) (hp : pc + 3 = pc') (hv : (Int16.ofInt i).toInt32 = v) (r : Go p e below P T (mkF m pc' Ls (.int v :: st))) : Go p e below P T (mkF m pc Ls (st)) := by
  subst hp; exact Go.of (fun _ q => XS.sipush X.here hx rfl hd (by rw [hv]; exact q)) r
theorem gaconstNull (X : Stand p l e R s m args below meth c T locs cells slots) (hx : p.tables.exec = Jvm.exec) (pc' : Nat) (hd : decode c.code pc = .ok (.aconst_null, 1)) (hp : pc + 1 = pc') (r : Go p e below P T (mkF m pc' Ls (.null :: st))) : Go p e below P T (mkF m pc Ls (st)) := by
  subst hp; exact Go.of (fun _ q => XS.aconstNull X.here hx rfl hd q) r
theorem giadd (X : Stand p l e R s m args below meth c T locs cells slots) (hx : p.tables.exec = Jvm.exec) {x y : Int32} (pc' : Nat) (hd : decode c.code pc = .ok (.iadd, 1)) (hp : pc + 1 = pc') (r : Go p e below P T (mkF m pc' Ls (.int (x + y) :: st))) : Go p e below P T (mkF m pc Ls (.int y :: .int x :: st)) := by
  subst hp; exact Go.of (fun _ q => XS.iadd X.here hx rfl hd rfl q) r
theorem gisub (X : Stand p l e R s m args below meth c T locs cells slots) (hx : p.tables.exec = Jvm.exec) {x y : Int32} (pc' : Nat) (hd : decode c.code pc = .ok (.isub, 1)) (hp : pc + 1 = pc') (r : Go p e below P T (mkF m pc' Ls (.int (x - y) :: st))) : Go p e below P T (mkF m pc Ls (.int y :: .int x :: st)) := by
  subst hp; exact Go.of (fun _ q => XS.isub X.here hx rfl hd rfl q) r
theorem gimul (X : Stand p l e R s m args below meth c T locs cells slots) (hx : p.tables.exec = Jvm.exec) {x y : Int32} (pc' : Nat) (hd : decode c.code pc = .ok (.imul, 1)) (hp : pc + 1 = pc') (r : Go p e below P T (mkF m pc' Ls (.int (x * y) :: st))) : Go p e below P T (mkF m pc Ls (.int y :: .int x :: st)) := by
  subst hp; exact Go.of (fun _ q => XS.imul X.here hx rfl hd rfl q) r
theorem giand (X : Stand p l e R s m args below meth c T locs cells slots) (hx : p.tables.exec = Jvm.exec) {x y : Int32} (pc' : Nat) (hd : decode c.code pc = .ok (.iand, 1)) (hp : pc + 1 = pc') (r : Go p e below P T (mkF m pc' Ls (.int (x &&& y) :: st))) : Go p e below P T (mkF m pc Ls (.int y :: .int x :: st)) := by
  subst hp; exact Go.of (fun _ q => XS.iand X.here hx rfl hd rfl q) r
theorem gishl (X : Stand p l e R s m args below meth c T locs cells slots) (hx : p.tables.exec = Jvm.exec) {x y : Int32} (pc' : Nat) (hd : decode c.code pc = .ok (.ishl, 1)) (hp : pc + 1 = pc') (r : Go p e below P T (mkF m pc' Ls (.int (x <<< (y &&& 31)) :: st))) : Go p e below P T (mkF m pc Ls (.int y :: .int x :: st)) := by
  subst hp; exact Go.of (fun _ q => XS.ishl X.here hx rfl hd rfl q) r
theorem gishr (X : Stand p l e R s m args below meth c T locs cells slots) (hx : p.tables.exec = Jvm.exec) {x y : Int32} (pc' : Nat) (hd : decode c.code pc = .ok (.ishr, 1)) (hp : pc + 1 = pc') (r : Go p e below P T (mkF m pc' Ls (.int (x >>> (y &&& 31)) :: st))) : Go p e below P T (mkF m pc Ls (.int y :: .int x :: st)) := by
  subst hp; exact Go.of (fun _ q => XS.ishr X.here hx rfl hd rfl q) r
theorem giushr (X : Stand p l e R s m args below meth c T locs cells slots) (hx : p.tables.exec = Jvm.exec) {x y : Int32} (pc' : Nat) (hd : decode c.code pc = .ok (.iushr, 1)) (hp : pc + 1 = pc') (r : Go p e below P T (mkF m pc' Ls (.int ((x.toUInt32 >>> (y &&& 31).toUInt32).toInt32) :: st))) : Go p e below P T (mkF m pc Ls (.int y :: .int x :: st)) := by
  subst hp; exact Go.of (fun _ q => XS.iushr X.here hx rfl hd rfl q) r
theorem gidiv (X : Stand p l e R s m args below meth c T locs cells slots) (hx : p.tables.exec = Jvm.exec) {x y : Int32} (pc' : Nat) (hd : decode c.code pc = .ok (.idiv, 1)) (hp : pc + 1 = pc') (hy : y ≠ 0) (r : Go p e below P T (mkF m pc' Ls (.int (x / y) :: st))) : Go p e below P T (mkF m pc Ls (.int y :: .int x :: st)) := by
  subst hp; exact Go.of (fun _ q => XS.idiv X.here hx rfl hd rfl hy q) r
theorem girem (X : Stand p l e R s m args below meth c T locs cells slots) (hx : p.tables.exec = Jvm.exec) {x y : Int32} (pc' : Nat) (hd : decode c.code pc = .ok (.irem, 1)) (hp : pc + 1 = pc') (hy : y ≠ 0) (r : Go p e below P T (mkF m pc' Ls (.int (x % y) :: st))) : Go p e below P T (mkF m pc Ls (.int y :: .int x :: st)) := by
  subst hp; exact Go.of (fun _ q => iremM X hx rfl hd rfl hy q) r
theorem gineg (X : Stand p l e R s m args below meth c T locs cells slots) (hx : p.tables.exec = Jvm.exec) {x : Int32} (pc' : Nat) (hd : decode c.code pc = .ok (.ineg, 1)) (hp : pc + 1 = pc') (r : Go p e below P T (mkF m pc' Ls (.int (-x) :: st))) : Go p e below P T (mkF m pc Ls (.int x :: st)) := by
  subst hp; exact Go.of (fun _ q => XS.ineg X.here hx rfl hd rfl q) r
theorem gi2b (X : Stand p l e R s m args below meth c T locs cells slots) (hx : p.tables.exec = Jvm.exec) {x : Int32} (pc' : Nat) (hd : decode c.code pc = .ok (.i2b, 1)) (hp : pc + 1 = pc') (r : Go p e below P T (mkF m pc' Ls (.int (x.toInt8.toInt32) :: st))) : Go p e below P T (mkF m pc Ls (.int x :: st)) := by
  subst hp; exact Go.of (fun _ q => XS.i2b X.here hx rfl hd rfl q) r
theorem gi2c (X : Stand p l e R s m args below meth c T locs cells slots) (hx : p.tables.exec = Jvm.exec) {x : Int32} (pc' : Nat) (hd : decode c.code pc = .ok (.i2c, 1)) (hp : pc + 1 = pc') (r : Go p e below P T (mkF m pc' Ls (.int (x.toUInt32.toUInt16.toUInt32.toInt32) :: st))) : Go p e below P T (mkF m pc Ls (.int x :: st)) := by
  subst hp; exact Go.of (fun _ q => XS.i2c X.here hx rfl hd rfl q) r
theorem gpop (X : Stand p l e R s m args below meth c T locs cells slots) (hx : p.tables.exec = Jvm.exec) {x : Value} (pc' : Nat) (hd : decode c.code pc = .ok (.pop, 1)) (hp : pc + 1 = pc') (hc : x.category = 1) (r : Go p e below P T (mkF m pc' Ls (st))) : Go p e below P T (mkF m pc Ls (x :: st)) := by
  subst hp; exact Go.of (fun _ q => XS.pop X.here hx rfl hd rfl hc q) r
theorem gdup (X : Stand p l e R s m args below meth c T locs cells slots) (hx : p.tables.exec = Jvm.exec) {x : Value} (pc' : Nat) (hd : decode c.code pc = .ok (.dup, 1)) (hp : pc + 1 = pc') (hc : x.category = 1) (r : Go p e below P T (mkF m pc' Ls (x :: x :: st))) : Go p e below P T (mkF m pc Ls (x :: st)) := by
  subst hp; exact Go.of (fun _ q => XS.dup X.here hx rfl hd rfl hc q) r
theorem giinc (X : Stand p l e R s m args below meth c T locs cells slots) (hx : p.tables.exec = Jvm.exec) {k : Nat} {cst : Int} {x : Int32} (l' : Array Slot) (pc' : Nat) (hd : decode c.code pc = .ok (.iinc k cst, 3)) (hp : pc + 3 = pc') (hl : Ls[k]? = some (.val (.int x))) (hl' : storeLocals Ls k (.int (x + Int32.ofInt cst)) = some l') (r : Go p e below P T (mkF m pc' l' (st))) : Go p e below P T (mkF m pc Ls (st)) := by
  subst hp; exact Go.of (fun _ q => XS.iinc X.here hx rfl hd hl hl' q) r
theorem ggoto (X : Stand p l e R s m args below meth c T locs cells slots) (hx : p.tables.exec = Jvm.exec) {o : Int} (pc' : Nat) (hd : decode c.code pc = .ok (.goto o, 3)) (ho : 0 ≤ (pc : Int) + o) (hp : ((pc : Int) + o).toNat = pc') (r : Go p e below P T (mkF m pc' Ls (st))) : Go p e below P T (mkF m pc Ls (st)) :=
  Go.of (fun _ q => XS.goto X.here hx rfl rfl hd ho hp q) r
theorem gifYes (X : Stand p l e R s m args below meth c T locs cells slots) (hx : p.tables.exec = Jvm.exec) {o : Int} {cd : ClassFile.Cond} {x : Int32} (pc' : Nat) (hd : decode c.code pc = .ok (.ifCond cd o, 3)) (hc : ifCond.holds cd x = true) (ho : 0 ≤ (pc : Int) + o) (hp : ((pc : Int) + o).toNat = pc') (r : Go p e below P T (mkF m pc' Ls (st))) : Go p e below P T (mkF m pc Ls (.int x :: st)) :=
  Go.of (fun _ q => XS.ifYes X.here hx rfl rfl hd rfl hc ho hp q) r
theorem gifNo (X : Stand p l e R s m args below meth c T locs cells slots) (hx : p.tables.exec = Jvm.exec) {o : Int} {cd : ClassFile.Cond} {x : Int32} (pc' : Nat) (hd : decode c.code pc = .ok (.ifCond cd o, 3)) (hp : pc + 3 = pc') (hc : ifCond.holds cd x = false) (r : Go p e below P T (mkF m pc' Ls (st))) : Go p e below P T (mkF m pc Ls (.int x :: st)) := by
  subst hp; exact Go.of (fun _ q => XS.ifNo X.here hx rfl hd rfl hc q) r
theorem gicmpYes (X : Stand p l e R s m args below meth c T locs cells slots) (hx : p.tables.exec = Jvm.exec) {o : Int} {cd : ClassFile.Cond} {x y : Int32} (pc' : Nat) (hd : decode c.code pc = .ok (.if_icmp cd o, 3)) (hc : if_icmp.holds cd x y = true) (ho : 0 ≤ (pc : Int) + o) (hp : ((pc : Int) + o).toNat = pc') (r : Go p e below P T (mkF m pc' Ls (st))) : Go p e below P T (mkF m pc Ls (.int y :: .int x :: st)) :=
  Go.of (fun _ q => XS.icmpYes X.here hx rfl rfl hd rfl hc ho hp q) r
theorem gicmpNo (X : Stand p l e R s m args below meth c T locs cells slots) (hx : p.tables.exec = Jvm.exec) {o : Int} {cd : ClassFile.Cond} {x y : Int32} (pc' : Nat) (hd : decode c.code pc = .ok (.if_icmp cd o, 3)) (hp : pc + 3 = pc') (hc : if_icmp.holds cd x y = false) (r : Go p e below P T (mkF m pc' Ls (st))) : Go p e below P T (mkF m pc Ls (.int y :: .int x :: st)) := by
  subst hp; exact Go.of (fun _ q => XS.icmpNo X.here hx rfl hd rfl hc q) r
theorem gifnonnullYes (X : Stand p l e R s m args below meth c T locs cells slots) (hx : p.tables.exec = Jvm.exec) {o : Int} {b : Addr} (pc' : Nat) (hd : decode c.code pc = .ok (.ifnonnull o, 3)) (ho : 0 ≤ (pc : Int) + o) (hp : ((pc : Int) + o).toNat = pc') (r : Go p e below P T (mkF m pc' Ls (st))) : Go p e below P T (mkF m pc Ls (.ref b :: st)) :=
  Go.of (fun _ q => XS.ifnonnullYes X.here hx rfl rfl hd rfl ho hp q) r
theorem gldcI (X : Stand p l e R s m args below meth c T locs cells slots) (hx : p.tables.exec = Jvm.exec) (hZ : Z.Warmed39 s.vm) {own : String} {index : Nat} {v : Int32} (hown : s.vm.findClass own = some m.cls) (w : (Jvm.Cond.constant own index v).before a0 Z = true) (pc' : Nat) (hd : decode c.code pc = .ok (.ldc index, 2)) (hp : pc + 2 = pc') (r : Go p e below P T (mkF m pc' Ls (.int v :: st))) : Go p e below P T (mkF m pc Ls (st)) := by
  subst hp; exact Go.of (fun _ q => X.ldcInt hx hown (mvT hZ w) (g := mkF m pc Ls st) rfl hd _ q) r
theorem garrlen (X : Stand p l e R s m args below meth c T locs cells slots) (hx : p.tables.exec = Jvm.exec) (hZ : Z.Warmed39 s.vm) (eT : T.heap = h) {a : Addr} {k : ClassId} {ty : FieldType} {z : Int32} {vs : List Value} {dv : Value} (A : Arv Z h a k ty z vs dv) (pc' : Nat) (hd : decode c.code pc = .ok (.arraylength, 1)) (hp : pc + 1 = pc') (r : Go p e below P T (mkF m pc' Ls (.int z :: st))) : Go p e below P T (mkF m pc Ls (.ref a :: st)) := by
  subst hp
  obtain ⟨cl, A1, -, S1, N1, -, -⟩ := A
  refine Go.of (fun _ q => X.arraylength hx (by rw [eT]; exact A1.1) (State.isArrayOf_alike hZ.alike A1.2.1) (g := mkF m pc Ls (.ref a :: st)) rfl rfl hd _ (by rw [len_of S1 N1]; exact q)) r
theorem gbaload (X : Stand p l e R s m args below meth c T locs cells slots) (hx : p.tables.exec = Jvm.exec) (hZ : Z.Warmed39 s.vm) (eT : T.heap = h) {a : Addr} {k : ClassId} {z j : Int32} {vs : List Value} {dv : Value} (A : Arv Z h a k .byte z vs dv) (v : Value) (hj : ¬ j < 0) (hj2 : j < z) (hv : vs.getD j.toNatClampNeg dv = v) (pc' : Nat) (hd : decode c.code pc = .ok (.baload, 1)) (hp : pc + 1 = pc') (r : Go p e below P T (mkF m pc' Ls (v :: st))) : Go p e below P T (mkF m pc Ls (.int j :: .ref a :: st)) := by
  subst hp
  obtain ⟨cl, A1, -, S1, N1, H1, -⟩ := A
  have hin := inb_of S1 ⟨hj, hj2⟩
  exact Go.of (fun _ q => X.baloadBytes hx (by rw [eT]; exact A1.1) (State.isArrayOf_alike hZ.alike A1.2.1) A1.2.2 hin (H1.at hin hv) (g := mkF m pc Ls (.int j :: .ref a :: st)) rfl rfl hd _ q) r
theorem ggetF (X : Stand p l e R s m args below meth c T locs cells slots) (hx : p.tables.exec = Jvm.exec) (hZ : Z.Warmed39 s.vm) {own R0 O n d host : String} {index : Nat} (hown : s.vm.findClass own = some m.cls) (w : (Jvm.Cond.fieldLink own index R0 n d).before a0 Z = true ∨ (Jvm.Cond.fieldLinkNest own index R0 n d host).before a0 Z = true) (via : Via Z R0 O n d) (eT : T.heap = h) {a : Addr} {v : Value} (F : Fld Z h a O n d v) (pc' : Nat) (hd : decode c.code pc = .ok (.getfield index, 3)) (hp : pc + 3 = pc') (r : ∀ T', Stand p l e R s m args below meth c T' locs cells slots → T'.heap = h → Go p e below P T' (mkF m pc' Ls (v :: st))) : Go p e below P T (mkF m pc Ls (.ref a :: st)) := by
  subst hp
  obtain ⟨T', X', e', stp⟩ := getF X hx hZ hown w via eT F (g := mkF m pc Ls (.ref a :: st)) rfl rfl hd
  exact Go.of stp (r T' X' e')
theorem ggetS (X : Stand p l e R s m args below meth c T locs cells slots) (hx : p.tables.exec = Jvm.exec) (hZ : Z.Warmed39 s.vm) {own R0 O n d host : String} {index : Nat} (hown : s.vm.findClass own = some m.cls) (w : (Jvm.Cond.fieldLink own index R0 n d).before a0 Z = true ∨ (Jvm.Cond.fieldLinkNest own index R0 n d host).before a0 Z = true) (via : Via Z R0 O n d) (eT : T.heap = h) {v : Value} (F : Sta Z h O n d v) (pc' : Nat) (hd : decode c.code pc = .ok (.getstatic index, 3)) (hp : pc + 3 = pc') (r : ∀ T', Stand p l e R s m args below meth c T' locs cells slots → T'.heap = h → Go p e below P T' (mkF m pc' Ls (v :: st))) : Go p e below P T (mkF m pc Ls st) := by
  subst hp
  obtain ⟨T', X', e', stp⟩ := getS2 X hx hZ hown w via eT F (g := mkF m pc Ls st) rfl hd
  exact Go.of stp (r T' X' e')
theorem gputF (X : Stand p l e R s m args below meth c T locs cells slots) (hx : p.tables.exec = Jvm.exec) (hZ : Z.Warmed39 s.vm) {own R0 O n d host : String} {index : Nat} (hown : s.vm.findClass own = some m.cls) (w : (Jvm.Cond.fieldLink own index R0 n d).before a0 Z = true ∨ (Jvm.Cond.fieldLinkNest own index R0 n d host).before a0 Z = true) (via : Via Z R0 O n d) (eT : T.heap = h) {C : String} {kk : Nat} {ty : FieldType} {a : Addr} {v old : Value} (F : Fld Z h a O n d old) (E : Exa Z h a C) (L : (Jvm.Cond.lays C O n d).before a0 Z = true ∨ ((Jvm.Cond.laysFinal C O n d).before a0 Z = true ∧ own = O ∧ meth.name = "<init>")) (wi : (Jvm.Cond.instantiable C kk).before a0 Z = true) (hty : parseFieldDescriptor d = some ty) (hn : narrow ty v = v) (hf : fits ty v = true) {n0 : Nat} (N : Fr n0 locs) (ge : n0 ≤ a) (pc' : Nat) (hd : decode c.code pc = .ok (.putfield index, 3)) (hp : pc + 3 = pc') (r : ∀ T' h' L', Stand p l e R s m args below meth c T' L' cells slots → T'.heap = h' → Fr n0 L' → Wr h h' a (Jvm.RoadKit.slotOf Z O n d) v → Go p e below P T' (mkF m pc' Ls st)) : Go p e below P T (mkF m pc Ls (v :: .ref a :: st)) := by
  subst hp
  obtain ⟨T', h', X', e', W', stp⟩ := putF X hx hZ hown w via eT F E L wi hty hn hf (g := mkF m pc Ls (v :: .ref a :: st)) rfl rfl hd
  exact Go.of stp (r T' h' _ X' e' (Fr.snoc X' N ge) W')
theorem gnewO (X : Stand p l e R s m args below meth c T locs cells slots) (hx : p.tables.exec = Jvm.exec) (hZ : Z.Warmed39 s.vm) {own C : String} {index n : Nat} (hown : s.vm.findClass own = some m.cls) (w : (Jvm.Cond.classLink own index C).before a0 Z = true) (wi : (Jvm.Cond.instantiable C n).before a0 Z = true) (wz : (Jvm.Cond.initialized C).before a0 Z = true) (eT : T.heap = h) (cells' slots' : Nat) (hcl : cells + 1 = cells') (hsl : slots + n = slots') (hc : cells' ≤ R.cells) (hl : slots' ≤ R.slots) (pc' : Nat) (hd : decode c.code pc = .ok (.new index, 3)) (hp : pc + 3 = pc') (r : ∀ T' h' a, Stand p l e R s m args below meth c T' locs cells' slots' → T'.heap = h' → a = h.size → Ext h h' → Exa Z h' a C → (∀ {O nm d : String} {ty : FieldType}, Laid Z a0 C O nm d → parseFieldDescriptor d = some ty → Fld Z h' a O nm d (defaultValue ty)) → Go p e below P T' (mkF m pc' Ls (.ref a :: st))) : Go p e below P T (mkF m pc Ls st) := by
  subst hp hcl hsl
  obtain ⟨T', h', X', e', E', A', D', -, stp⟩ := newO X hx hZ hown w wi wz eT (g := mkF m pc Ls st) rfl hd hc hl
  exact Go.of stp (r T' h' _ X' e' rfl E' A' D')
theorem gnewP (X : Stand p l e R s m args below meth c T locs cells slots) (hx : p.tables.exec = Jvm.exec) (hZ : Z.Warmed39 s.vm) {aty : ArrayType} (w : (Jvm.Cond.arrayClass (newarray.typeOf aty)).before a0 Z = true) (eT : T.heap = h) {n : Int32} (hn : ¬ n < 0) (cap : Nat) (hcap : n.toNatClampNeg ≤ cap) (hb : cap * 8 ≤ 536870912) (cells' slots' : Nat) (hcl : cells + 1 = cells') (hsl : slots + cap = slots') (hc : cells' ≤ R.cells) (hl : slots' ≤ R.slots) (pc' : Nat) (hd : decode c.code pc = .ok (.newarray aty, 2)) (hp : pc + 2 = pc') (r : ∀ T' h' a k, Stand p l e R s m args below meth c T' locs cells' slots' → T'.heap = h' → a = h.size → Ext h h' → Arv Z h' a k (newarray.typeOf aty) n [] (defaultValue (newarray.typeOf aty)) → Go p e below P T' (mkF m pc' Ls (.ref a :: st))) : Go p e below P T (mkF m pc Ls (.int n :: st)) := by
  subst hp hcl hsl
  obtain ⟨T', h', k, X', e', E', A', stp⟩ := newP X hx hZ w eT (g := mkF m pc Ls (.int n :: st)) rfl hd rfl hn hcap hb hc hl
  exact Go.of stp (r T' h' _ k X' e' rfl E' (Arv.new A' hn))
theorem gcastore (X : Stand p l e R s m args below meth c T locs cells slots) (hx : p.tables.exec = Jvm.exec) (hZ : Z.Warmed39 s.vm) (eT : T.heap = h) {a : Addr} {k : ClassId} {z j x : Int32} {vs : List Value} {dv : Value} (A : Arv Z h a k .char z vs dv) (hj : ¬ j < 0) (hj2 : j < z) (i : Nat) (hji : j.toNatClampNeg = i) (hi : i < vs.length) {n0 : Nat} (N : Fr n0 locs) (ge : n0 ≤ a) (pc' : Nat) (hd : decode c.code pc = .ok (.castore, 1)) (hp : pc + 1 = pc') (r : ∀ T' h' L', Stand p l e R s m args below meth c T' L' cells slots → T'.heap = h' → Fr n0 L' → Wr h h' a j.toNatClampNeg (.int (nar .char x)) → Arv Z h' a k .char z (vs.set i (.int (nar .char x))) dv → Go p e below P T' (mkF m pc' Ls st)) : Go p e below P T (mkF m pc Ls (.int x :: .int j :: .ref a :: st)) := by
  subst hp
  obtain ⟨cl, A1, q1, S1, N1, H1, G1⟩ := A
  have hin := inb_of S1 ⟨hj, hj2⟩
  obtain ⟨T', h', X', e', W', stp⟩ := stC X hx hZ eT A1 hin (g := mkF m pc Ls (.int x :: .int j :: .ref a :: st)) rfl rfl hd
  exact Go.of stp (r T' h' _ X' e' (Fr.snoc X' N ge) W' (Arv.set A1 q1 S1 N1 H1 G1 (fits_nar_char x) W' i hji hi))
theorem gbastore (X : Stand p l e R s m args below meth c T locs cells slots) (hx : p.tables.exec = Jvm.exec) (hZ : Z.Warmed39 s.vm) (eT : T.heap = h) {a : Addr} {k : ClassId} {z j x : Int32} {vs : List Value} {dv : Value} (A : Arv Z h a k .byte z vs dv) (hj : ¬ j < 0) (hj2 : j < z) (i : Nat) (hji : j.toNatClampNeg = i) (hi : i < vs.length) {n0 : Nat} (N : Fr n0 locs) (ge : n0 ≤ a) (pc' : Nat) (hd : decode c.code pc = .ok (.bastore, 1)) (hp : pc + 1 = pc') (r : ∀ T' h' L', Stand p l e R s m args below meth c T' L' cells slots → T'.heap = h' → Fr n0 L' → Wr h h' a j.toNatClampNeg (.int (nar .byte x)) → Arv Z h' a k .byte z (vs.set i (.int (nar .byte x))) dv → Go p e below P T' (mkF m pc' Ls st)) : Go p e below P T (mkF m pc Ls (.int x :: .int j :: .ref a :: st)) := by
  subst hp
  obtain ⟨cl, A1, q1, S1, N1, H1, G1⟩ := A
  have hin := inb_of S1 ⟨hj, hj2⟩
  obtain ⟨T', h', X', e', W', stp⟩ := stB X hx hZ eT A1 hin (g := mkF m pc Ls (.int x :: .int j :: .ref a :: st)) rfl rfl hd
  exact Go.of stp (r T' h' _ X' e' (Fr.snoc X' N ge) W' (Arv.set A1 q1 S1 N1 H1 G1 (fits_nar_byte x) W' i hji hi))
theorem ginitO (X : Stand p l e R s m args below meth c T locs cells slots) (hx : p.tables.exec = Jvm.exec) (hZ : Z.Warmed39 s.vm) {own : String} {idx : Nat} (hown : s.vm.findClass own = some m.cls) (w1 : (Jvm.Cond.methodLink own idx Lib.objectInit).before a0 Z = true) (w2 : (Jvm.Cond.instanceMethod Lib.objectInit).before a0 Z = true) (w3 : (Jvm.Cond.code Lib.objectInit ⟨#[0xb1]⟩ 1 none).before a0 Z = true) (eT : T.heap = h) (hsz : Ls.size = c.maxLocals) {a : Addr} (hf : 1 ≤ R.frames) (W : Nat) (hW : (st.map fun v => v.category).sum ≤ W) (hl : W + 12 ≤ R.locals) (pc' : Nat) (hd : decode c.code pc = .ok (.invokespecial idx, 3)) (hp : pc + 3 = pc') (r : ∀ T', Stand p l e R s m args below meth c T' locs cells slots → T'.heap = h → Go p e below P T' (mkF m pc' Ls st)) : Go p e below P T (mkF m pc Ls (.ref a :: st)) := by
  subst hp
  obtain ⟨T', X', e', stp⟩ := initO X hx hZ hown w1 w2 w3 eT (g := mkF m pc Ls (.ref a :: st)) rfl hsz rfl hd hf (W := W) (by show 2 * 0 + _ ≤ _; omega) hl
  exact Go.of stp (r T' X' e')
theorem gcast (X : Stand p l e R s m args below meth c T locs cells slots) (hx : p.tables.exec = Jvm.exec) (hZ : Z.Warmed39 s.vm) {own K : String} {index : Nat} (hown : s.vm.findClass own = some m.cls) (w : (Jvm.Cond.classLink own index K).before a0 Z = true) (eT : T.heap = h) {a : Addr} (F : Ins Z h a K true) (pc' : Nat) (hd : decode c.code pc = .ok (.checkcast index, 3)) (hp : pc + 3 = pc') (r : ∀ T', Stand p l e R s m args below meth c T' locs cells slots → T'.heap = h → Go p e below P T' (mkF m pc' Ls (.ref a :: st))) : Go p e below P T (mkF m pc Ls (.ref a :: st)) := by
  subst hp
  obtain ⟨T', X', e', stp⟩ := castY X hx hZ hown w eT F (g := mkF m pc Ls (.ref a :: st)) rfl rfl hd
  exact Go.of stp (r T' X' e')
theorem nf_sel {C : String} {x0 z0 y : MethodName} (w : (Jvm.Cond.selects C x0 z0).before args s = true) (e : z0.cls = y.cls) : NotFace s y := fun r0 h0 => by
  obtain ⟨c2, r2, m2, q1, q2, q3, q4, kP, hkP, hkPi⟩ := Cond.selects_spec w
  have f1 := findClass_of_methodNamed q3
  rw [e] at f1
  have e2 : r0.cls = m2.cls := Option.some.inj ((findClass_of_methodNamed h0).symm.trans f1)
  exact ⟨kP, by rw [e2]; exact hkP, hkPi⟩
theorem sm_sel {C : String} {x0 z0 y : MethodName} (wd : (Jvm.Cond.instanceMethod y).before args s = true) (w : (Jvm.Cond.selects C x0 z0).before args s = true) (e : z0.cls = y.cls) (hy : y.cls ≠ "java/lang/invoke/MethodHandle" ∧ y.cls ≠ "java/lang/invoke/VarHandle") : (Jvm.Cond.sameMethod y.cls y.cls y.name y.desc).before args s = true := by
  obtain ⟨mk, methM, hnamed, -⟩ := Cond.instanceMethod_spec wd
  obtain ⟨k, h1, h2⟩ := nf_sel w e mk hnamed
  have e3 : s.methodNamed? ⟨y.cls, y.name, y.desc⟩ = some mk := hnamed
  simp [Cond.before, Cond.holds, Cond.value, findClass_of_methodNamed hnamed, State.methodFound?_of_named hnamed hy, e3, h1, h2]
theorem gcpA (X : Stand p l e R s m args below meth c T locs cells slots) (hx : p.tables.exec = Jvm.exec) (hZ : Z.Warmed39 s.vm) {own : String} {index : Nat} (hown : s.vm.findClass own = some m.cls) (w1 : (Jvm.Cond.methodLink own index Jvm.Stand.acN).before a0 Z = true) (w2 : (Jvm.Cond.native Jvm.Stand.acN).before a0 Z = true) (w3 : (Jvm.Cond.static Jvm.Stand.acN).before a0 Z = true) (w4 : (Jvm.Cond.initialized "java/lang/System").before a0 Z = true) (eT : T.heap = h) (hsz : Ls.size = c.maxLocals) {a b : Addr} {k k' : ClassId} {ty : FieldType} {z z' sp dp nn : Int32} {vs vd : List Value} {dv dd : Value} (A : Arv Z h a k ty z vs dv) (B : Arv Z h b k' ty z' vd dd) (hty : refKind ty = false) (spn dpn nnn : Nat) (e1 : sp.toNatClampNeg = spn) (e2 : dp.toNatClampNeg = dpn) (e3 : nn.toNatClampNeg = nnn) (h1 : ¬ sp < 0) (h2 : ¬ dp < 0) (h3 : ¬ nn < 0) (h4 : spn + nnn ≤ z.toNatClampNeg) (h5 : dpn + nnn ≤ z'.toNatClampNeg) (hl : dpn + nnn ≤ vd.length) (rs : List Value) (hr : vd.take dpn ++ ((List.range nnn).map fun i => vs.getD (spn + i) dv) ++ vd.drop (dpn + nnn) = rs) {n0 : Nat} (N : Fr n0 locs) (ge : n0 ≤ b) (hf : 1 ≤ R.frames) (W : Nat) (hW : (st.map fun v => v.category).sum ≤ W) (hlo : W + (nativeFrameWords "java/lang/System" "arraycopy" 5 + 11) ≤ R.locals) (pc' : Nat) (hd : decode c.code pc = .ok (.invokestatic index, 3)) (hp : pc + 3 = pc') (r : ∀ T' h' L', Stand p l e R s m args below meth c T' L' cells slots → T'.heap = h' → Fr n0 L' → Keep h h' [b] → Arv Z h' b k' ty z' rs dd → Go p e below P T' (mkF m pc' Ls st)) : Go p e below P T (mkF m pc Ls (.int nn :: .int dp :: .ref b :: .int sp :: .ref a :: st)) := by
  subst hp e1 e2 e3 hr
  obtain ⟨T', h', L', X', e', N', K', A', stp⟩ := cpA X hx hZ hown w1 w2 w3 w4 eT A B (Or.inl ⟨rfl, hty⟩) h1 h2 h3 h4 h5 rfl hl N ge (g := mkF m pc Ls (.int nn :: .int dp :: .ref b :: .int sp :: .ref a :: st)) rfl hsz rfl hd hf (W := W) (by show 2 * 0 + _ ≤ _; omega) hlo
  exact Go.of stp (r T' h' L' X' e' N' K' A')
theorem of_nat_clamp {m : Nat} (h : m < 2147483648) : (Int32.ofNat m).toNatClampNeg = m := by
  have : (Int32.ofNat m).toInt = m := by
    rw [Int32.toInt_ofNat_of_lt (by omega)]
  simp only [Int32.toNatClampNeg, this]; omega
theorem of_nat_nneg {m : Nat} (h : m < 2147483648) : ¬ Int32.ofNat m < 0 := by
  have : (Int32.ofNat m).toInt = m := by
    rw [Int32.toInt_ofNat_of_lt (by omega)]
  rw [Int32.lt_iff_toInt_lt, this]; show ¬ (m : Int) < 0; omega
theorem cp_pad {as bs cs : List Int32} {m N : Nat} (h5 : bs.length + m ≤ N) (hcs : as.take m = cs) (i : Nat) :
    ((bs ++ cs).map Value.int).getD i (.int 0) = ((bs.map Value.int ++ List.replicate (N - bs.length) (Value.int 0)).take bs.length ++ ((List.range m).map fun i => (as.map Value.int).getD (0 + i) (.int 0)) ++ (bs.map Value.int ++ List.replicate (N - bs.length) (Value.int 0)).drop (bs.length + m)).getD i (.int 0) := by
  subst hcs
  have e1 : (bs.map Value.int ++ List.replicate (N - bs.length) (Value.int 0)).take bs.length = bs.map Value.int := by
    rw [List.take_append_of_le_length (by simp)]; exact List.take_of_length_le (by simp)
  have e2 : (bs.map Value.int ++ List.replicate (N - bs.length) (Value.int 0)).drop (bs.length + m) = List.replicate (N - bs.length - m) (Value.int 0) := by
    rw [List.drop_append, List.drop_of_length_le (by simp), List.nil_append, List.drop_replicate]; simp
  rw [e1, e2]
  simp only [List.getD_eq_getElem?_getD, List.map_append]
  by_cases c1 : i < bs.length
  · rw [List.getElem?_append_left (by simpa using c1), List.append_assoc, List.getElem?_append_left (by simpa using c1)]
  · rw [List.getElem?_append_right (by simp; omega), List.append_assoc, List.getElem?_append_right (by simp; omega)]
    simp only [List.length_map]
    generalize i - bs.length = j
    by_cases c2 : j < m
    · rw [List.getElem?_append_left (by simpa using c2)]
      simp [List.getElem?_take, c2, List.getElem?_range]
    · rw [List.getElem?_append_right (by simp; omega)]
      rw [List.getElem?_eq_none (by simp; omega)]
      simp only [List.getElem?_replicate]; split <;> rfl
theorem gcpB (X : Stand p l e R s m args below meth c T locs cells slots) (hx : p.tables.exec = Jvm.exec) (hZ : Z.Warmed39 s.vm) {own : String} {index : Nat} (hown : s.vm.findClass own = some m.cls) (w1 : (Jvm.Cond.methodLink own index Jvm.Stand.acN).before a0 Z = true) (w2 : (Jvm.Cond.native Jvm.Stand.acN).before a0 Z = true) (w3 : (Jvm.Cond.static Jvm.Stand.acN).before a0 Z = true) (w4 : (Jvm.Cond.initialized "java/lang/System").before a0 Z = true) (eT : T.heap = h) (hsz : Ls.size = c.maxLocals) {a b : Addr} {k k' : ClassId} {z z' sp dp nn : Int32} {as bs : List Int32} (A : Arv Z h a k .byte z (as.map Value.int) (.int 0)) (B : Arv Z h b k' .byte z' (bs.map Value.int) (.int 0)) (mm : Nat) (e1 : sp = 0) (e2 : dp = Int32.ofNat bs.length) (e3 : nn = Int32.ofNat mm) (h4 : mm ≤ z.toNatClampNeg) (h5 : bs.length + mm ≤ z'.toNatClampNeg) (h6 : z'.toNatClampNeg < 2147483648) (cs : List Int32) (hcs : as.take mm = cs) {n0 : Nat} (N : Fr n0 locs) (ge : n0 ≤ b) (hf : 1 ≤ R.frames) (W : Nat) (hW : (st.map fun v => v.category).sum ≤ W) (hlo : W + (nativeFrameWords "java/lang/System" "arraycopy" 5 + 11) ≤ R.locals) (pc' : Nat) (hd : decode c.code pc = .ok (.invokestatic index, 3)) (hp : pc + 3 = pc') (r : ∀ T' h' L', Stand p l e R s m args below meth c T' L' cells slots → T'.heap = h' → Fr n0 L' → Keep h h' [b] → Arv Z h' b k' .byte z' ((bs ++ cs).map Value.int) (.int 0) → Go p e below P T' (mkF m pc' Ls st)) : Go p e below P T (mkF m pc Ls (.int nn :: .int dp :: .ref b :: .int sp :: .ref a :: st)) := by
  subst e1 e2 e3
  exact gcpA X hx hZ hown w1 w2 w3 w4 eT hsz A (B.pad (pad_rep _ _ (z'.toNatClampNeg - bs.length))) rfl 0 bs.length mm rfl (of_nat_clamp (by omega)) (of_nat_clamp (by omega)) (by decide) (of_nat_nneg (by omega)) (of_nat_nneg (by omega)) (by omega) h5 (by simp; omega) _ rfl N ge hf W hW hlo pc' hd hp (fun T' h' L' X' q1 q2 q3 q4 => r T' h' L' X' q1 q2 q3 (q4.pad (cp_pad h5 hcs)))
theorem gnewPK (X : Stand p l e R s m args below meth c T locs cells slots) (hx : p.tables.exec = Jvm.exec) (hZ : Z.Warmed39 s.vm) {aty : ArrayType} {ad : String} (had : "[" ++ (newarray.typeOf aty).toString = ad) (w : (Jvm.Cond.arrayClass (newarray.typeOf aty)).before a0 Z = true) (eT : T.heap = h) {n : Int32} (hn : ¬ n < 0) (cap : Nat) (hcap : n.toNatClampNeg ≤ cap) (hb : cap * 8 ≤ 536870912) (cells' slots' : Nat) (hcl : cells + 1 = cells') (hsl : slots + cap = slots') (hc : cells' ≤ R.cells) (hl : slots' ≤ R.slots) (pc' : Nat) (hd : decode c.code pc = .ok (.newarray aty, 2)) (hp : pc + 2 = pc') (r : ∀ T' h' a k, Stand p l e R s m args below meth c T' locs cells' slots' → T'.heap = h' → a = h.size → Ext h h' → Arv Z h' a k (newarray.typeOf aty) n [] (defaultValue (newarray.typeOf aty)) → Z.vm.findClass ad = some k → Go p e below P T' (mkF m pc' Ls (.ref a :: st))) : Go p e below P T (mkF m pc Ls (.int n :: st)) := by
  subst hp hcl hsl
  obtain ⟨T', h', k, X', e', E', A', F', stp⟩ := newPE X hx hZ w eT (g := mkF m pc Ls (.int n :: st)) rfl hd rfl hn hcap hb hc hl had
  have hk : Z.vm.findClass ad = some k := by
    obtain ⟨cell, kk, e1, e2, -⟩ := F'
    cases A'.1.symm.trans e1; exact e2
  exact Go.of stp (r T' h' _ k X' e' rfl E' (Arv.new A' hn) hk)
theorem exa_arr {a : Addr} {k : ClassId} {ty : FieldType} {z : Int32} {vs : List Value} {dv : Value} {C : String} (A : Arv Z h a k ty z vs dv) (hk : Z.vm.findClass C = some k) : Exa Z h a C := by
  obtain ⟨c, A1, q1, -⟩ := A
  obtain ⟨hs, kk, h1, comp, h2⟩ := A1.2.1
  exact ⟨c, kk, A1.1, by rw [q1]; exact hk, h1, A1.plain, fun q => by rw [h2] at q; cases q⟩
theorem gclone (X : Stand p l e R s m args below meth c T locs cells slots) (hx : p.tables.exec = Jvm.exec) (hZ : Z.Warmed39 s.vm) {own : String} {index : Nat} (hown : s.vm.findClass own = some m.cls) (w1 : (Jvm.Cond.methodLink own index ⟨"[B", "clone", "()Ljava/lang/Object;"⟩).before a0 Z = true) (w2 : (Jvm.Cond.sameMethod "[B" "java/lang/Object" "clone" "()Ljava/lang/Object;").before a0 Z = true) (w3 : (Jvm.Cond.native ⟨"java/lang/Object", "clone", "()Ljava/lang/Object;"⟩).before a0 Z = true) (w4 : (Jvm.Cond.instanceMethod ⟨"java/lang/Object", "clone", "()Ljava/lang/Object;"⟩).before a0 Z = true) (w5 : (Jvm.Cond.selects "[B" ⟨"[B", "clone", "()Ljava/lang/Object;"⟩ ⟨"java/lang/Object", "clone", "()Ljava/lang/Object;"⟩).before a0 Z = true) (w6 : (Jvm.Cond.castable "[B" "java/lang/Cloneable").before a0 Z = true) (eT : T.heap = h) (hsz : Ls.size = c.maxLocals) {a : Addr} {k : ClassId} {z : Int32} {vs : List Value} {dv : Value} (A : Arv Z h a k .byte z vs dv) (hk : Z.vm.findClass "[B" = some k) (hf : 1 ≤ R.frames) (W : Nat) (hW : (st.map fun v => v.category).sum ≤ W) (hlo : W + 14 ≤ R.locals) (cap : Nat) (hcap : z.toNatClampNeg ≤ cap) (cells' slots' : Nat) (hcl : cells + 1 = cells') (hsl : slots + cap = slots') (hc : cells' ≤ R.cells) (hl : slots' ≤ R.slots) (pc' : Nat) (hd : decode c.code pc = .ok (.invokevirtual index, 3)) (hp : pc + 3 = pc') (r : ∀ T' h' b, Stand p l e R s m args below meth c T' locs cells' slots' → T'.heap = h' → b = h.size → Ext h h' → Arv Z h' b k .byte z vs dv → Go p e below P T' (mkF m pc' Ls (.ref b :: st))) : Go p e below P T (mkF m pc Ls (.ref a :: st)) := by
  subst hp hcl hsl
  obtain ⟨T', h', X', e', E', A', -, stp⟩ := cloneH X hx hZ hown w1 w2 w3 w4 w5 w6 eT (Arv.arh A) (exa_arr A hk) (g := mkF m pc Ls (.ref a :: st)) rfl hsz rfl hd hf (W := W) (by show 2 * 0 + _ ≤ _; omega) hlo hcap hc hl
  exact Go.of stp (r T' h' _ X' e' rfl E' A')
theorem gspecial (X : Stand p l e R s m args below meth c T locs cells slots) (hx : p.tables.exec = Jvm.exec) (hZ : Z.Warmed39 s.vm) {own : String} {index : Nat} (hown : s.vm.findClass own = some m.cls) {y : MethodName} (hy1 : y.name = "<init>") (w1 : (Jvm.Cond.methodLink own index y).before a0 Z = true) (w2 : (Jvm.Cond.instanceMethod y).before a0 Z = true) {bytes : ByteArray} {maxL : Nat} (w3 : (Jvm.Cond.code y bytes maxL none).before a0 Z = true) (hy : y.cls ≠ "java/lang/invoke/MethodHandle" ∧ y.cls ≠ "java/lang/invoke/VarHandle") {W k j : Nat} {argsL : List Value} {a : Addr} (hK : Pays l R p e below s args y 3 W (.ref a :: argsL).toArray h k j Q) (eT : T.heap = h) (hsz : Ls.size = c.maxLocals) (hlen : ∀ sig, parseMethodDescriptor y.desc = some sig → argsL.length = sig.parameters.length) {stk : List Value} (hs : stk = argsL.reverse ++ .ref a :: st) (hW : (st.map fun v => v.category).sum ≤ W) (cells' slots' : Nat) (hcl : cells + k = cells') (hsl : slots + j = slots') (hc : cells' ≤ R.cells) (hl : slots' ≤ R.slots) (pc' : Nat) (hd : decode c.code pc = .ok (.invokespecial index, 3)) (hp : pc + 3 = pc') (r : ∀ v T' h' L' Lc, Stand p l e R s m args below meth c T' L' cells' slots' → T'.heap = h' → L' = locs ++ Lc → Q v h' Lc → Go p e below P T' (mkF m pc' Ls (v.toList ++ st))) : Go p e below P T (mkF m pc Ls stk) := by
  subst hp hcl hsl
  obtain ⟨v, vm₁, ⟨T', L', k', n'⟩, -, X', ⟨Lc, hQ, h1, h2, h3⟩, hst⟩ := X.specialBack hx hy1 hown (mvT hZ w1) (mvT hZ w2) (mvT hZ w3) hy hK (g := mkF m pc Ls stk) rfl hsz (Steps.refl _) hlen hs (by show 2 * 0 + _ ≤ _; omega) hd (fun _ _ => ⟨rfl, eT, hc, hl⟩)
  dsimp only at X' hQ h1 h2 h3 hst
  subst h1 h2 h3
  exact Go.tr hst (r v T' _ _ Lc X' rfl rfl hQ)
theorem gvirtual (X : Stand p l e R s m args below meth c T locs cells slots) (hx : p.tables.exec = Jvm.exec) (hZ : Z.Warmed39 s.vm) {own : String} {index : Nat} (hown : s.vm.findClass own = some m.cls) {C : String} {y z : MethodName} (w1 : (Jvm.Cond.methodLink own index y).before a0 Z = true) (w2 : (Jvm.Cond.declares y).before a0 Z = true) (nf : NotFace s y) (w3 : (Jvm.Cond.selects C y z).before a0 Z = true) (w4 : (Jvm.Cond.instanceMethod z).before a0 Z = true) (hy : y.cls ≠ "java/lang/invoke/MethodHandle" ∧ y.cls ≠ "java/lang/invoke/VarHandle") {a : Addr} (E : Exa Z h a C) {W k j : Nat} {argsL : List Value} (hK : Pays l R p e below s args z 3 W (.ref a :: argsL).toArray h k j Q) (eT : T.heap = h) (hsz : Ls.size = c.maxLocals) (hlen : ∀ sig, parseMethodDescriptor y.desc = some sig → argsL.length = sig.parameters.length) {stk : List Value} (hs : stk = argsL.reverse ++ .ref a :: st) (hW : (st.map fun v => v.category).sum ≤ W) (cells' slots' : Nat) (hcl : cells + k = cells') (hsl : slots + j = slots') (hc : cells' ≤ R.cells) (hl : slots' ≤ R.slots) (pc' : Nat) (hd : decode c.code pc = .ok (.invokevirtual index, 3)) (hp : pc + 3 = pc') (r : ∀ v T' h' L' Lc, Stand p l e R s m args below meth c T' L' cells' slots' → T'.heap = h' → L' = locs ++ Lc → Q v h' Lc → Go p e below P T' (mkF m pc' Ls (v.toList ++ st))) : Go p e below P T (mkF m pc Ls stk) := by
  subst hp hcl hsl
  obtain ⟨v, vm₁, ⟨T', L', k', n'⟩, -, X', ⟨Lc, hQ, h1, h2, h3⟩, hst⟩ := X.virtualBack hx hown (mvT hZ w1) (mvT hZ w2) nf (mvT hZ w3) (mvT hZ w4) hy hK (isOf hZ eT E).choose_spec.choose_spec.1 (isOf hZ eT E).choose_spec.choose_spec.2.2 (g := mkF m pc Ls stk) rfl hsz (Steps.refl _) hlen hs (by show 2 * 0 + _ ≤ _; omega) hd (fun _ _ => ⟨rfl, eT, hc, hl⟩)
  dsimp only at X' hQ h1 h2 h3 hst
  subst h1 h2 h3
  exact Go.tr hst (r v T' _ _ Lc X' rfl rfl hQ)
theorem gstatic (X : Stand p l e R s m args below meth c T locs cells slots) (hx : p.tables.exec = Jvm.exec) (hZ : Z.Warmed39 s.vm) {own : String} {index : Nat} (hown : s.vm.findClass own = some m.cls) {y : MethodName} {bytes : ByteArray} {maxL : Nat} {ret : Option FieldType} (w1 : (Jvm.Cond.methodLink own index y).before a0 Z = true) (w2 : (Jvm.Cond.static y).before a0 Z = true) (w3 : (Jvm.Cond.initialized y.cls).before a0 Z = true) (w4 : (Jvm.Cond.code y bytes maxL ret).before a0 Z = true) (hy : y.cls ≠ "java/lang/invoke/MethodHandle" ∧ y.cls ≠ "java/lang/invoke/VarHandle") {W k j : Nat} {argsL : List Value} (hK : Pays l R p e below s args y 3 W argsL.toArray h k j Q) (eT : T.heap = h) (hsz : Ls.size = c.maxLocals) (hlen : ∀ sig, parseMethodDescriptor y.desc = some sig → argsL.length = sig.parameters.length) {stk : List Value} (hs : stk = argsL.reverse ++ st) (hW : (st.map fun v => v.category).sum ≤ W) (cells' slots' : Nat) (hcl : cells + k = cells') (hsl : slots + j = slots') (hc : cells' ≤ R.cells) (hl : slots' ≤ R.slots) (pc' : Nat) (hd : decode c.code pc = .ok (.invokestatic index, 3)) (hp : pc + 3 = pc') (r : ∀ v T' h' L' Lc, Stand p l e R s m args below meth c T' L' cells' slots' → T'.heap = h' → L' = locs ++ Lc → Q v h' Lc → Go p e below P T' (mkF m pc' Ls (v.toList ++ st))) : Go p e below P T (mkF m pc Ls stk) := by
  subst hp hcl hsl
  obtain ⟨v, vm₁, ⟨T', L', k', n'⟩, -, X', ⟨Lc, hQ, h1, h2, h3⟩, hst⟩ := Jvm.LawKit.callS X hx hown (mvT hZ w1) (mvT hZ w2) (mvT hZ w3) (mvT hZ w4) hy hK (g := mkF m pc Ls stk) rfl hsz hlen hs (by show 2 * 0 + _ ≤ _; omega) hd (fun _ _ => ⟨rfl, eT, hc, hl⟩)
  dsimp only at X' hQ h1 h2 h3 hst
  subst h1 h2 h3
  exact Go.of hst (r v T' _ _ Lc X' rfl rfl hQ)
theorem gvirtualS (X : Stand p l e R (s.setVm vm0) m args below meth c T locs cells slots) (hx : p.tables.exec = Jvm.exec) (hZ : Z.Warmed39 vm0) {own : String} {index : Nat} (hown : vm0.findClass own = some m.cls) {C : String} {y z : MethodName} (w1 : (Jvm.Cond.methodLink own index y).before a0 Z = true) (w2 : (Jvm.Cond.declares y).before a0 Z = true) (nf : NotFace (s.setVm vm0) y) (w3 : (Jvm.Cond.selects C y z).before a0 Z = true) (w4 : (Jvm.Cond.instanceMethod z).before a0 Z = true) (hy : y.cls ≠ "java/lang/invoke/MethodHandle" ∧ y.cls ≠ "java/lang/invoke/VarHandle") {a : Addr} (E : Exa Z h a C) {W k j : Nat} {argsL : List Value} (hS : s.Since vm0 k0) (hk : k0 ≤ h.size) (hK : PaysS l R p e below s vm0 args z 3 W (.ref a :: argsL).toArray h k j Z EL Q) (eT : T.heap = h) (hsz : Ls.size = c.maxLocals) (hlen : ∀ sig, parseMethodDescriptor y.desc = some sig → argsL.length = sig.parameters.length) {stk : List Value} (hs : stk = argsL.reverse ++ .ref a :: st) (hW : (st.map fun v => v.category).sum ≤ W) (cells' slots' : Nat) (hcl : cells + k = cells') (hsl : slots + j = slots') (hc : cells' ≤ R.cells) (hl : slots' ≤ R.slots) (pc' : Nat) (hd : decode c.code pc = .ok (.invokevirtual index, 3)) (hp : pc + 3 = pc') (r : ∀ v T' h' L' Lc vm1 k1, Stand p l e R (s.setVm vm1) m args below meth c T' L' cells' slots' → T'.heap = h' → L' = locs ++ Lc → s.Since vm1 k1 → k1 ≤ h'.size → Z.Warmed39 vm1 → vm1.findClass own = some m.cls → CHr Z EL vm0 h vm1 h' → Q v h' Lc → Go p e below P T' (mkF m pc' Ls (v.toList ++ st))) : Go p e below P T (mkF m pc Ls stk) := by
  subst hp hcl hsl
  subst eT
  obtain ⟨v, vm₁, ⟨T', L', k', n'⟩, -, X', hS', hgr, ⟨Lc, hQ, h1, h2, h3, hC⟩, hst⟩ := X.virtualBackS hx hown (mvT hZ w1) (mvT hZ w2) nf (mvT hZ w3) (mvT hZ w4) hy hK (isOf hZ rfl E).choose_spec.choose_spec.1 (isOf hZ rfl E).choose_spec.choose_spec.2.2 (g := mkF m pc Ls stk) rfl hsz (Steps.refl _) hlen hs (by show 2 * 0 + _ ≤ _; omega) hd (fun _ _ => ⟨rfl, rfl, hc, hl⟩)
  dsimp only at X' hS' hgr hQ h1 h2 h3 hC hst
  subst h1 h2 h3
  obtain ⟨X2, hS2, hZ2, ho2⟩ := rebS (Z := Z) (own := own) hS hk X' hS' hgr hZ hown
  exact Go.tr hst (r v T' _ _ Lc _ _ X2 rfl rfl hS2 (Nat.le_refl _) hZ2 ho2 hC hQ)
theorem giface (X : Stand p l e R s m args below meth c T locs cells slots) (hx : p.tables.exec = Jvm.exec) (hZ : Z.Warmed39 s.vm) {own : String} {index : Nat} (hown : s.vm.findClass own = some m.cls) {count : Nat} {C : String} {y z : MethodName} (w1 : (Jvm.Cond.methodLink own index y).before a0 Z = true) (w2 : (Jvm.Cond.declares y).before a0 Z = true) (w3 : (Jvm.Cond.interfaceMethod y.cls y.cls y.name y.desc).before args s = true) (w4 : (Jvm.Cond.selects C y z).before a0 Z = true) (w5 : (Jvm.Cond.instanceMethod z).before a0 Z = true) (w6 : (Jvm.Cond.publicMethod z).before a0 Z = true) (w7 : (Jvm.Cond.unhidden C y.name y.desc).before a0 Z = true) (w8 : (Jvm.Cond.castable C y.cls).before a0 Z = true) (hy : y.cls ≠ "java/lang/invoke/MethodHandle" ∧ y.cls ≠ "java/lang/invoke/VarHandle") {a : Addr} (E : Exa Z h a C) {W k j : Nat} {argsL : List Value} (hK : Pays l R p e below s args z 5 W (.ref a :: argsL).toArray h k j Q) (eT : T.heap = h) (hsz : Ls.size = c.maxLocals) (hlen : ∀ sig, parseMethodDescriptor y.desc = some sig → argsL.length = sig.parameters.length) {stk : List Value} (hs : stk = argsL.reverse ++ .ref a :: st) (hW : (st.map fun v => v.category).sum ≤ W) (cells' slots' : Nat) (hcl : cells + k = cells') (hsl : slots + j = slots') (hc : cells' ≤ R.cells) (hl : slots' ≤ R.slots) (pc' : Nat) (hd : decode c.code pc = .ok (.invokeinterface index count, 5)) (hp : pc + 5 = pc') (r : ∀ v T' h' L' Lc, Stand p l e R s m args below meth c T' L' cells' slots' → T'.heap = h' → L' = locs ++ Lc → Q v h' Lc → Go p e below P T' (mkF m pc' Ls (v.toList ++ st))) : Go p e below P T (mkF m pc Ls stk) := by
  subst hp hcl hsl
  obtain ⟨v, vm₁, ⟨T', L', k', n'⟩, -, X', ⟨Lc, hQ, h1, h2, h3⟩, hst⟩ := X.interfaceBack hx hown (mvT hZ w1) (mvT hZ w2) w3 (mvT hZ w4) (mvT hZ w5) (mvT hZ w6) (mvT hZ w7) (mvT hZ w8) hy hK (isOf hZ eT E).choose_spec.choose_spec.1 (isOf hZ eT E).choose_spec.choose_spec.2.1 (isOf hZ eT E).choose_spec.choose_spec.2.2 (g := mkF m pc Ls stk) rfl hsz (Steps.refl _) hlen hs (by show 2 * 0 + _ ≤ _; omega) hd (fun _ _ => ⟨rfl, eT, hc, hl⟩)
  dsimp only at X' hQ h1 h2 h3 hst
  subst h1 h2 h3
  exact Go.tr hst (r v T' _ _ Lc X' rfl rfl hQ)
theorem gpriv (X : Stand p l e R s m args below meth c T locs cells slots) (hx : p.tables.exec = Jvm.exec) (hZ : Z.Warmed39 s.vm) {own : String} {index : Nat} (hown : s.vm.findClass own = some m.cls) {y : MethodName} {bytes : ByteArray} {maxL : Nat} {ret : Option FieldType} (w1 : (Jvm.Cond.methodLink own index y).before a0 Z = true) (w2 : (Jvm.Cond.instanceMethod y).before a0 Z = true) (nf : NotFace s y) (w4 : (Jvm.Cond.privateMethod y).before a0 Z = true) (w5 : (Jvm.Cond.code y bytes maxL ret).before a0 Z = true) (hy : y.cls ≠ "java/lang/invoke/MethodHandle" ∧ y.cls ≠ "java/lang/invoke/VarHandle") {a : Addr} {C : String} (E : Exa Z h a C) {W k j : Nat} {argsL : List Value} (hK : Pays l R p e below s args y 3 W (.ref a :: argsL).toArray h k j Q) (eT : T.heap = h) (hsz : Ls.size = c.maxLocals) (hlen : ∀ sig, parseMethodDescriptor y.desc = some sig → argsL.length = sig.parameters.length) {stk : List Value} (hs : stk = argsL.reverse ++ .ref a :: st) (hW : (st.map fun v => v.category).sum ≤ W) (cells' slots' : Nat) (hcl : cells + k = cells') (hsl : slots + j = slots') (hc : cells' ≤ R.cells) (hl : slots' ≤ R.slots) (pc' : Nat) (hd : decode c.code pc = .ok (.invokevirtual index, 3)) (hp : pc + 3 = pc') (r : ∀ v T' h' L' Lc, Stand p l e R s m args below meth c T' L' cells' slots' → T'.heap = h' → L' = locs ++ Lc → Q v h' Lc → Go p e below P T' (mkF m pc' Ls (v.toList ++ st))) : Go p e below P T (mkF m pc Ls stk) := by
  subst hp hcl hsl
  obtain ⟨v, vm₁, ⟨T', L', k', n'⟩, -, X', ⟨Lc, hQ, h1, h2, h3⟩, hst⟩ := X.privateBack hx hown (mvT hZ w1) (mvT hZ w2) (selP nf (Cond.privateMethod_at (mvP hZ w4 (args := #[]))) (mvT hZ w2) hy) (Cond.privateMethod_at (mvP hZ w4 (args := #[]))) (mvT hZ w5) hy hK (g := mkF m pc Ls stk) rfl hsz (Steps.refl _) (by rw [eT]; exact E.cell.choose_spec.1) E.cell.choose_spec.2 hlen hs (by show 2 * 0 + _ ≤ _; omega) hd (fun _ _ => ⟨rfl, eT, hc, hl⟩)
  dsimp only at X' hQ h1 h2 h3 hst
  subst h1 h2 h3
  exact Go.tr hst (r v T' _ _ Lc X' rfl rfl hQ)
theorem gsuper (X : Stand p l e R s m args below meth c T locs cells slots) (hx : p.tables.exec = Jvm.exec) (hZ : Z.Warmed39 s.vm) {own : String} {index : Nat} (hown : s.vm.findClass own = some m.cls) {y : MethodName} {bytes : ByteArray} {maxL : Nat} {ret : Option FieldType} {K : String} (w1 : (Jvm.Cond.methodLink own index y).before a0 Z = true) (w2 : (Jvm.Cond.sameMethod y.cls y.cls y.name y.desc).before a0 Z = true) (w3 : (Jvm.Cond.instanceMethod y).before a0 Z = true) (w4 : (Jvm.Cond.superclass own y.cls).before a0 Z = true) (hy1 : y.name ≠ "<init>") (wc : (Jvm.Cond.code y bytes maxL ret).before a0 Z = true) {a : Addr} (F : Ins Z h a K true) {W k j : Nat} {argsL : List Value} (hK : Pays l R p e below s args y 3 W (.ref a :: argsL).toArray h k j Q) (eT : T.heap = h) (hsz : Ls.size = c.maxLocals) (hlen : ∀ sig, parseMethodDescriptor y.desc = some sig → argsL.length = sig.parameters.length) {stk : List Value} (hs : stk = argsL.reverse ++ .ref a :: st) (hW : (st.map fun v => v.category).sum ≤ W) (cells' slots' : Nat) (hcl : cells + k = cells') (hsl : slots + j = slots') (hc : cells' ≤ R.cells) (hl : slots' ≤ R.slots) (pc' : Nat) (hd : decode c.code pc = .ok (.invokespecial index, 3)) (hp : pc + 3 = pc') (r : ∀ v T' h' L' Lc, Stand p l e R s m args below meth c T' L' cells' slots' → T'.heap = h' → L' = locs ++ Lc → Q v h' Lc → Go p e below P T' (mkF m pc' Ls (v.toList ++ st))) : Go p e below P T (mkF m pc Ls stk) := by
  subst hp hcl hsl
  obtain ⟨v, vm₁, ⟨T', L', k', n'⟩, -, X', ⟨Lc, hQ, h1, h2, h3⟩, hst⟩ := superBack X hx hZ hown w1 w2 w3 w4 hy1 hK eT F (g := mkF m pc Ls stk) rfl hsz wc hlen hs (by show 2 * 0 + _ ≤ _; omega) hd (fun _ _ => ⟨rfl, eT, hc, hl⟩)
  dsimp only at X' hQ h1 h2 h3 hst
  subst h1 h2 h3
  exact Go.tr hst (r v T' _ _ Lc X' rfl rfl hQ)
theorem gldcV (X : Stand p l e R (s.setVm vm0) m args below meth c T locs cells slots) (hx : p.tables.exec = Jvm.exec) (hZ : Z.Warmed39 vm0) {own text : String} {index : Nat} (hown : vm0.findClass own = some m.cls) (w : (Jvm.Cond.stringLink own index text).before a0 Z = true) (wS : ∀ a ∈ Bundle.stringAtoms, a.before a0 Z = true) (eT : T.heap = h) (hS : s.Since vm0 k0) (hk : k0 ≤ h.size) (hEL : EW Z a0 EL) (hmem : (own, index) ∈ EL) (H : CHv Z EL vm0 h) (vs : List Value) (z : Int32) (ht : (∀ c ∈ text.toList, c.toNat < 256) ∧ text.toList.map (fun c => Value.int (Jvm.Lit.byteI c.toNat.toUInt16)) = vs) (hz : ¬ z < 0) (hzl : z.toNatClampNeg = vs.length) (n : Nat) (hn : 4 * text.toList.length ≤ n) (hbig : n ≤ 536870912) (cells' slots' : Nat) (hcl : cells + 2 = cells') (hsl : slots + (n + 4) = slots') (hc : cells' ≤ R.cells) (hl : slots' ≤ R.slots) (pc' : Nat) (hd : decode c.code pc = .ok (.ldc index, 2)) (hp : pc + 2 = pc') (r : ∀ a T' h' vm1 k1 b kb, Stand p l e R (s.setVm vm1) m args below meth c T' locs cells' slots' → T'.heap = h' → Ext h h' → s.Since vm1 k1 → k1 ≤ h'.size → Z.Warmed39 vm1 → vm1.findClass own = some m.cls → CHr Z EL vm0 h vm1 h' → Lit (s.setVm vm1) own index a → Exa Z h' a "java/lang/String" → Fld Z h' a "java/lang/String" "coder" "B" (.int 0) → Fld Z h' a "java/lang/String" "value" "[B" (.ref b) → Arv Z h' b kb .byte z vs (.int 0) → (∀ x, Safe Z EL vm1 h' x → x ≠ a ∧ x ≠ b) → Go p e below P T' (mkF m pc' Ls (.ref a :: st))) : Go p e below P T (mkF m pc Ls st) := by
  subst hp hcl hsl
  obtain ⟨a, T', h', k1, b, kb, X', e', E', hS', hk', hZ', ho', q1, q2, q3, q4, -, -, hC', hL', hne, stp⟩ := ldcCH X hx hZ hown w wS eT hS hk hEL hmem H ht hz hzl (g := mkF m pc Ls st) rfl hd hn hbig hc hl
  exact Go.of stp (r a T' h' _ k1 b kb X' e' E' hS' hk' hZ' ho' hC' hL' q1 q2 q3 q4 hne)
end Own
end Jvm.Own
namespace Jvm.Pilot.@@N@@
open Jvm Jvm.ClassFile Sem Op Lib Jvm.Free Jvm.Stand Jvm.LawKit Jvm.RoadKit Bundle Jvm.Own Jvm.Pilot.@@N@@.Jvm.D
set_option maxRecDepth 65536
set_option maxHeartbeats 40000000
abbrev HW_ (a0 : Array Value) (Z : State) : Prop := ∀ d ∈ tables_1, d.before a0 Z = true
theorem own_c0 {P : Int32 → Prop} : ∀ c ∈ ([] : List Int32), P c := fun _ z => nomatch z
theorem own_cS {P : Int32 → Prop} {y : Int32} {L : List Int32} (h : P y) (r : ∀ c ∈ L, P c) : ∀ c ∈ y :: L, P c := fun c z => (List.mem_cons.mp z).elim (fun u => u ▸ h) (r c)
theorem own_lo (x : Int32) : ∃ k : Fin 256, x &&& (255 : Int32) = Int32.ofNat k.val := by
  have h : (x &&& 255).toBitVec.toNat < 256 := by
    simp only [Int32.toBitVec_and, BitVec.toNat_and]
    exact Nat.lt_succ_of_le Nat.and_le_right
  refine ⟨⟨_, h⟩, ?_⟩
  apply Int32.toBitVec_inj.mp
  show _ = BitVec.ofNat 32 _
  rw [BitVec.ofNat_toNat]; simp
theorem own_rng (x : Int32) : ¬ (x &&& (255 : Int32)) < 0 ∧ ¬ (255 : Int32) < (x &&& (255 : Int32)) := by
  obtain ⟨k, e⟩ := own_lo x
  rw [e]; clear e; revert k; decide +kernel
theorem own_i2c8 (x : Int32) : (x &&& (255 : Int32)).toUInt32.toUInt16.toUInt32.toInt32 = (x &&& (255 : Int32)) := by
  obtain ⟨k, e⟩ := own_lo x
  rw [e]; clear e; revert k; decide +kernel
theorem own_nar8 (x : Int32) : nar .char (x &&& (255 : Int32)) = (x &&& (255 : Int32)) := own_i2c8 x
theorem own_nar16 (x : Int32) : nar .char (x &&& (255 : Int32)).toUInt32.toUInt16.toUInt32.toInt32 = (x &&& (255 : Int32)) := by rw [own_i2c8]; exact own_i2c8 x
theorem own_narb (x : Int32) : nar .byte x.toInt8.toInt32 = x.toInt8.toInt32 := by show x.toInt8.toInt32.toInt8.toInt32 = _; rw [Int8.toInt8_toInt32]
theorem own_up (cs : List Int32) (h : ∀ c ∈ cs, ¬ c < 0 ∧ ¬ (255 : Int32) < c) : ∀ c ∈ cs, ¬ c < 0 ∧ ¬ (65535 : Int32) < c := fun c hc => ⟨(h c hc).1, fun q => (h c hc).2 (by rw [Int32.lt_iff_toInt_lt] at q ⊢; have e1 : (65535 : Int32).toInt = 65535 := rfl; have e2 : (255 : Int32).toInt = 255 := rfl; omega)⟩
theorem own_wS {a0 : Array Value} {Z : State} (hw : HW_ a0 Z) : ∀ a ∈ Bundle.stringAtoms, a.before a0 Z = true := fun d hd => hw d ((by decide +kernel : ∀ d ∈ Bundle.stringAtoms, d ∈ tables_1) d hd)
theorem own_hws {a0 : Array Value} {Z : State} (hw : HW_ a0 Z) : ∀ d ∈ StrChars.Road.words, d.before a0 Z = true := fun d hd => hw d ((by decide +kernel : ∀ d ∈ StrChars.Road.words, d ∈ tables_1) d hd)
theorem own_hln {a0 : Array Value} {Z : State} (hw : HW_ a0 Z) : ∀ d ∈ StrChars.Road.wordsLen, d.before a0 Z = true := fun d hd => hw d ((by decide +kernel : ∀ d ∈ StrChars.Road.wordsLen, d ∈ tables_1) d hd)
theorem own_hch {a0 : Array Value} {Z : State} (hw : HW_ a0 Z) : ∀ d ∈ StrChars.Road.wordsChN, d.before a0 Z = true := fun d hd => hw d ((by decide +kernel : ∀ d ∈ StrChars.Road.wordsChN, d ∈ tables_1) d hd)
abbrev Y0 : MethodName := ⟨"com/example/per1od/per1od/StoreAddress", "<init>", "(Ljava/lang/String;II)V"⟩
abbrev Y1 : MethodName := ⟨"com/example/per1od/per1od/StoreAddress", "toString", "()Ljava/lang/String;"⟩
abbrev Y2 : MethodName := ⟨"com/example/per1od/per1od/StoreAddressToStringPinLaw", "at", "(Ljava/lang/String;IC)Z"⟩
abbrev Y3 : MethodName := ⟨"com/example/per1od/per1od/StoreAddressToStringPinLaw", "dig", "(II)C"⟩
abbrev Y4 : MethodName := ⟨"com/example/per1od/per1od/StoreAddressToStringPinLaw", "hc", "(I)C"⟩
abbrev Y5 : MethodName := ⟨"com/example/per1od/per1od/StoreAddressToStringPinLaw", "ndig", "(I)I"⟩
abbrev Y6 : MethodName := ⟨"com/example/per1od/per1od/StoreAddressToStringPinLaw", "num", "(Ljava/lang/String;II)Z"⟩
abbrev Y7 : MethodName := ⟨"com/example/per1od/per1od/StoreAddressToStringPinLaw", "p10", "(I)I"⟩
abbrev Y8 : MethodName := ⟨"java/lang/AbstractStringBuilder", "<init>", "(I)V"⟩
abbrev Y9 : MethodName := ⟨"java/lang/AbstractStringBuilder", "append", "(I)Ljava/lang/AbstractStringBuilder;"⟩
abbrev Y10 : MethodName := ⟨"java/lang/AbstractStringBuilder", "append", "(Ljava/lang/String;)Ljava/lang/AbstractStringBuilder;"⟩
abbrev Y11 : MethodName := ⟨"java/lang/AbstractStringBuilder", "ensureCapacityInternal", "(I)V"⟩
abbrev Y12 : MethodName := ⟨"java/lang/AbstractStringBuilder", "getValue", "()[B"⟩
abbrev Y13 : MethodName := ⟨"java/lang/AbstractStringBuilder", "inflateIfNeededFor", "(Ljava/lang/String;)V"⟩
abbrev Y14 : MethodName := ⟨"java/lang/AbstractStringBuilder", "isLatin1", "()Z"⟩
abbrev Y15 : MethodName := ⟨"java/lang/AbstractStringBuilder", "length", "()I"⟩
abbrev Y16 : MethodName := ⟨"java/lang/AbstractStringBuilder", "newCapacity", "(I)I"⟩
abbrev Y17 : MethodName := ⟨"java/lang/AbstractStringBuilder", "putStringAt", "(ILjava/lang/String;)V"⟩
abbrev Y18 : MethodName := ⟨"java/lang/Integer", "getChars", "(II[B)I"⟩
abbrev Y19 : MethodName := ⟨"java/lang/Integer", "stringSize", "(I)I"⟩
abbrev Y20 : MethodName := ⟨"java/lang/Math", "max", "(II)I"⟩
abbrev Y21 : MethodName := ⟨"java/lang/Math", "min", "(II)I"⟩
abbrev Y22 : MethodName := ⟨"java/lang/Record", "<init>", "()V"⟩
abbrev Y23 : MethodName := ⟨"java/lang/String", "<init>", "(Ljava/lang/AbstractStringBuilder;Ljava/lang/Void;)V"⟩
abbrev Y24 : MethodName := ⟨"java/lang/String", "<init>", "(Ljava/lang/StringBuilder;)V"⟩
abbrev Y25 : MethodName := ⟨"java/lang/String", "<init>", "([BB)V"⟩
abbrev Y26 : MethodName := ⟨"java/lang/String", "<init>", "([C)V"⟩
abbrev Y27 : MethodName := ⟨"java/lang/String", "charAt", "(I)C"⟩
abbrev Y28 : MethodName := ⟨"java/lang/String", "coder", "()B"⟩
abbrev Y29 : MethodName := ⟨"java/lang/String", "contains", "(Ljava/lang/CharSequence;)Z"⟩
abbrev Y30 : MethodName := ⟨"java/lang/String", "getBytes", "([BIB)V"⟩
abbrev Y31 : MethodName := ⟨"java/lang/String", "indexOf", "(Ljava/lang/String;)I"⟩
abbrev Y32 : MethodName := ⟨"java/lang/String", "isLatin1", "()Z"⟩
abbrev Y33 : MethodName := ⟨"java/lang/String", "length", "()I"⟩
abbrev Y34 : MethodName := ⟨"java/lang/String", "toString", "()Ljava/lang/String;"⟩
abbrev Y35 : MethodName := ⟨"java/lang/String", "valueOf", "(C)Ljava/lang/String;"⟩
abbrev Y36 : MethodName := ⟨"java/lang/StringBuilder", "<init>", "()V"⟩
abbrev Y37 : MethodName := ⟨"java/lang/StringBuilder", "append", "(I)Ljava/lang/StringBuilder;"⟩
abbrev Y38 : MethodName := ⟨"java/lang/StringBuilder", "append", "(Ljava/lang/String;)Ljava/lang/StringBuilder;"⟩
abbrev Y39 : MethodName := ⟨"java/lang/StringBuilder", "length", "()I"⟩
abbrev Y40 : MethodName := ⟨"java/lang/StringBuilder", "toString", "()Ljava/lang/String;"⟩
abbrev Y41 : MethodName := ⟨"java/lang/StringLatin1", "canEncode", "(C)Z"⟩
abbrev Y42 : MethodName := ⟨"java/lang/StringLatin1", "indexOf", "([BI[BII)I"⟩
abbrev Y43 : MethodName := ⟨"java/lang/StringLatin1", "indexOf", "([B[B)I"⟩
abbrev Y44 : MethodName := ⟨"java/lang/StringLatin1", "toBytes", "(C)[B"⟩
abbrev Y45 : MethodName := ⟨"java/util/Arrays", "checkLength", "(II)V"⟩
abbrev Y46 : MethodName := ⟨"java/util/Arrays", "copyOf", "([BI)[B"⟩
abbrev Y47 : MethodName := ⟨"java/util/Arrays", "copyOfRange", "([BII)[B"⟩
abbrev Y48 : MethodName := ⟨"java/util/Arrays", "copyOfRangeByte", "([BII)[B"⟩
abbrev Y49 : MethodName := ⟨"jdk/internal/util/ArraysSupport", "newLength", "(III)I"⟩
theorem hwI {a0 : Array Value} {Z : State} (hw : HW_ a0 Z) (i : Nat) {d : Jvm.Cond} (h : tables_1[i]? = some d) : d.before a0 Z = true := hw d (List.mem_of_getElem? h)
section OwnW
variable {a0 : Array Value} {Z : State}
theorem u0 (hw : HW_ a0 Z) : (Cond.methodLink "com/example/per1od/per1od/StoreAddressToStringPinLaw" (39 : Nat) Y4).before a0 Z = true := hwI hw 0 rfl
theorem u1 (hw : HW_ a0 Z) : (Cond.static Y4).before a0 Z = true := hwI hw 1 rfl
theorem u2 (hw : HW_ a0 Z) : (Cond.initialized "com/example/per1od/per1od/StoreAddressToStringPinLaw").before a0 Z = true := hwI hw 2 rfl
theorem u3 (hw : HW_ a0 Z) : (Cond.code Y4 method_7_code (2 : Nat) (Option.some .char)).before a0 Z = true := hwI hw 3 rfl
theorem u4 (hw : HW_ a0 Z) : (Cond.stringLink "com/example/per1od/per1od/StoreAddressToStringPinLaw" (42 : Nat) "").before a0 Z = true := hwI hw 4 rfl
theorem u5 (hw : HW_ a0 Z) : (Cond.initialized "java/lang/String").before a0 Z = true := hwI hw 5 rfl
theorem u6 (hw : HW_ a0 Z) : (Cond.instantiable "java/lang/String" (4 : Nat)).before a0 Z = true := hwI hw 6 rfl
theorem u7 (hw : HW_ a0 Z) : (Cond.arrayClass .byte).before a0 Z = true := hwI hw 7 rfl
theorem u8 (hw : HW_ a0 Z) : (Cond.laysFinal "java/lang/String" "java/lang/String" "value" "[B").before a0 Z = true := hwI hw 8 rfl
theorem u9 (hw : HW_ a0 Z) : (Cond.laysFinal "java/lang/String" "java/lang/String" "coder" "B").before a0 Z = true := hwI hw 9 rfl
theorem u12 (hw : HW_ a0 Z) : (Cond.constant "com/example/per1od/per1od/StoreAddressToStringPinLaw" (51 : Nat) (2147483647 : Int32)).before a0 Z = true := hwI hw 12 rfl
theorem u13 (hw : HW_ a0 Z) : (Cond.constant "com/example/per1od/per1od/StoreAddressToStringPinLaw" (52 : Nat) (65535 : Int32)).before a0 Z = true := hwI hw 13 rfl
theorem u14 (hw : HW_ a0 Z) : (Cond.classLink "com/example/per1od/per1od/StoreAddressToStringPinLaw" (53 : Nat) "com/example/per1od/per1od/StoreAddress").before a0 Z = true := hwI hw 14 rfl
theorem u15 (hw : HW_ a0 Z) : (Cond.instantiable "com/example/per1od/per1od/StoreAddress" (3 : Nat)).before a0 Z = true := hwI hw 15 rfl
theorem u16 (hw : HW_ a0 Z) : (Cond.initialized "com/example/per1od/per1od/StoreAddress").before a0 Z = true := hwI hw 16 rfl
theorem u17 (hw : HW_ a0 Z) : (Cond.methodLink "com/example/per1od/per1od/StoreAddressToStringPinLaw" (55 : Nat) Y0).before a0 Z = true := hwI hw 17 rfl
theorem u18 (hw : HW_ a0 Z) : (Cond.instanceMethod Y0).before a0 Z = true := hwI hw 18 rfl
theorem u19 (hw : HW_ a0 Z) : (Cond.code Y0 prog_23_method_1_code (4 : Nat) (Option.none : Option Jvm.ClassFile.FieldType)).before a0 Z = true := hwI hw 19 rfl
theorem u20 (hw : HW_ a0 Z) : (Cond.methodLink "com/example/per1od/per1od/StoreAddress" (1 : Nat) Y22).before a0 Z = true := hwI hw 20 rfl
theorem u21 (hw : HW_ a0 Z) : (Cond.instanceMethod Y22).before a0 Z = true := hwI hw 21 rfl
theorem u23 (hw : HW_ a0 Z) : (Cond.initialized "java/lang/Record").before a0 Z = true := hwI hw 23 rfl
theorem u24 (hw : HW_ a0 Z) : (Cond.code Y22 jdk_30_method_1_code (1 : Nat) (Option.none : Option Jvm.ClassFile.FieldType)).before a0 Z = true := hwI hw 24 rfl
theorem u25 (hw : HW_ a0 Z) : (Cond.methodLink "java/lang/Record" (1 : Nat) ({ cls := "java/lang/Object", name := "<init>", desc := "()V" } : Jvm.MethodName)).before a0 Z = true := hwI hw 25 rfl
theorem u26 (hw : HW_ a0 Z) : (Cond.instanceMethod ({ cls := "java/lang/Object", name := "<init>", desc := "()V" } : Jvm.MethodName)).before a0 Z = true := hwI hw 26 rfl
theorem u27 (hw : HW_ a0 Z) : (Cond.code ({ cls := "java/lang/Object", name := "<init>", desc := "()V" } : Jvm.MethodName) object_method_1_code (1 : Nat) (Option.none : Option Jvm.ClassFile.FieldType)).before a0 Z = true := hwI hw 27 rfl
theorem u28 (hw : HW_ a0 Z) : (Cond.fieldLink "com/example/per1od/per1od/StoreAddress" (7 : Nat) "com/example/per1od/per1od/StoreAddress" "host" "Ljava/lang/String;").before a0 Z = true := hwI hw 28 rfl
theorem u29 (hw : HW_ a0 Z) : (Cond.laysFinal "com/example/per1od/per1od/StoreAddress" "com/example/per1od/per1od/StoreAddress" "host" "Ljava/lang/String;").before a0 Z = true := hwI hw 29 rfl
theorem u30 (hw : HW_ a0 Z) : (Cond.fieldLink "com/example/per1od/per1od/StoreAddress" (13 : Nat) "com/example/per1od/per1od/StoreAddress" "port" "I").before a0 Z = true := hwI hw 30 rfl
theorem u31 (hw : HW_ a0 Z) : (Cond.laysFinal "com/example/per1od/per1od/StoreAddress" "com/example/per1od/per1od/StoreAddress" "port" "I").before a0 Z = true := hwI hw 31 rfl
theorem u32 (hw : HW_ a0 Z) : (Cond.fieldLink "com/example/per1od/per1od/StoreAddress" (17 : Nat) "com/example/per1od/per1od/StoreAddress" "database" "I").before a0 Z = true := hwI hw 32 rfl
theorem u33 (hw : HW_ a0 Z) : (Cond.laysFinal "com/example/per1od/per1od/StoreAddress" "com/example/per1od/per1od/StoreAddress" "database" "I").before a0 Z = true := hwI hw 33 rfl
theorem u34 (hw : HW_ a0 Z) : (Cond.methodLink "com/example/per1od/per1od/StoreAddressToStringPinLaw" (58 : Nat) Y1).before a0 Z = true := hwI hw 34 rfl
theorem u35 (hw : HW_ a0 Z) : (Cond.declares Y1).before a0 Z = true := hwI hw 35 rfl
theorem u36 (hw : HW_ a0 Z) : (Cond.instanceMethod Y1).before a0 Z = true := hwI hw 36 rfl
theorem u37 (hw : HW_ a0 Z) : (Cond.selects "com/example/per1od/per1od/StoreAddress" Y1 Y1).before a0 Z = true := hwI hw 37 rfl
theorem u38 (hw : HW_ a0 Z) : (Cond.code Y1 prog_23_method_3_code (2 : Nat) (Option.some (.object "java/lang/String"))).before a0 Z = true := hwI hw 38 rfl
theorem u39 (hw : HW_ a0 Z) : (Cond.stringLink "com/example/per1od/per1od/StoreAddress" (77 : Nat) ":").before a0 Z = true := hwI hw 39 rfl
theorem u40 (hw : HW_ a0 Z) : (Cond.methodLink "com/example/per1od/per1od/StoreAddress" (79 : Nat) Y29).before a0 Z = true := hwI hw 40 rfl
theorem u41 (hw : HW_ a0 Z) : (Cond.declares Y29).before a0 Z = true := hwI hw 41 rfl
theorem u42 (hw : HW_ a0 Z) : (Cond.instanceMethod Y29).before a0 Z = true := hwI hw 42 rfl
theorem u43 (hw : HW_ a0 Z) : (Cond.selects "java/lang/String" Y29 Y29).before a0 Z = true := hwI hw 43 rfl
theorem u44 (hw : HW_ a0 Z) : (Cond.code Y29 jdk_42_method_97_code (2 : Nat) (Option.some .boolean)).before a0 Z = true := hwI hw 44 rfl
theorem u45 (hw : HW_ a0 Z) : (Cond.methodLink "java/lang/String" (710 : Nat) ({ cls := "java/lang/CharSequence", name := "toString", desc := "()Ljava/lang/String;" } : Jvm.MethodName)).before a0 Z = true := hwI hw 45 rfl
theorem u46 (hw : HW_ a0 Z) : (Cond.declares ({ cls := "java/lang/CharSequence", name := "toString", desc := "()Ljava/lang/String;" } : Jvm.MethodName)).before a0 Z = true := hwI hw 46 rfl
theorem u47 (hw : HW_ a0 Z) : (Cond.interfaceMethod "java/lang/CharSequence" "java/lang/CharSequence" "toString" "()Ljava/lang/String;").before a0 Z = true := hwI hw 47 rfl
theorem u48 (hw : HW_ a0 Z) : (Cond.selects "java/lang/String" ({ cls := "java/lang/CharSequence", name := "toString", desc := "()Ljava/lang/String;" } : Jvm.MethodName) Y34).before a0 Z = true := hwI hw 48 rfl
theorem u49 (hw : HW_ a0 Z) : (Cond.instanceMethod Y34).before a0 Z = true := hwI hw 49 rfl
theorem u50 (hw : HW_ a0 Z) : (Cond.publicMethod Y34).before a0 Z = true := hwI hw 50 rfl
theorem u51 (hw : HW_ a0 Z) : (Cond.unhidden "java/lang/String" "toString" "()Ljava/lang/String;").before a0 Z = true := hwI hw 51 rfl
theorem u52 (hw : HW_ a0 Z) : (Cond.castable "java/lang/String" "java/lang/CharSequence").before a0 Z = true := hwI hw 52 rfl
theorem u53 (hw : HW_ a0 Z) : (Cond.code Y34 jdk_42_method_126_code (1 : Nat) (Option.some (.object "java/lang/String"))).before a0 Z = true := hwI hw 53 rfl
theorem u54 (hw : HW_ a0 Z) : (Cond.methodLink "java/lang/String" (711 : Nat) Y31).before a0 Z = true := hwI hw 54 rfl
theorem u55 (hw : HW_ a0 Z) : (Cond.declares Y31).before a0 Z = true := hwI hw 55 rfl
theorem u56 (hw : HW_ a0 Z) : (Cond.instanceMethod Y31).before a0 Z = true := hwI hw 56 rfl
theorem u57 (hw : HW_ a0 Z) : (Cond.selects "java/lang/String" Y31 Y31).before a0 Z = true := hwI hw 57 rfl
theorem u58 (hw : HW_ a0 Z) : (Cond.code Y31 jdk_42_method_84_code (3 : Nat) (Option.some .int)).before a0 Z = true := hwI hw 58 rfl
theorem u59 (hw : HW_ a0 Z) : (Cond.methodLink "java/lang/String" (335 : Nat) Y28).before a0 Z = true := hwI hw 59 rfl
theorem u60 (hw : HW_ a0 Z) : (Cond.declares Y28).before a0 Z = true := hwI hw 60 rfl
theorem u61 (hw : HW_ a0 Z) : (Cond.instanceMethod Y28).before a0 Z = true := hwI hw 61 rfl
theorem u62 (hw : HW_ a0 Z) : (Cond.selects "java/lang/String" Y28 Y28).before a0 Z = true := hwI hw 62 rfl
theorem u63 (hw : HW_ a0 Z) : (Cond.code Y28 jdk_42_method_152_code (1 : Nat) (Option.some .byte)).before a0 Z = true := hwI hw 63 rfl
theorem u64 (hw : HW_ a0 Z) : (Cond.fieldLink "java/lang/String" (38 : Nat) "java/lang/String" "COMPACT_STRINGS" "Z").before a0 Z = true := hwI hw 64 rfl
theorem u65 (hw : HW_ a0 Z) : (Cond.fieldLink "java/lang/String" (15 : Nat) "java/lang/String" "coder" "B").before a0 Z = true := hwI hw 65 rfl
theorem u66 (hw : HW_ a0 Z) : (Cond.methodLink "java/lang/String" (492 : Nat) Y32).before a0 Z = true := hwI hw 66 rfl
theorem u67 (hw : HW_ a0 Z) : (Cond.declares Y32).before a0 Z = true := hwI hw 67 rfl
theorem u68 (hw : HW_ a0 Z) : (Cond.instanceMethod Y32).before a0 Z = true := hwI hw 68 rfl
theorem u69 (hw : HW_ a0 Z) : (Cond.selects "java/lang/String" Y32 Y32).before a0 Z = true := hwI hw 69 rfl
theorem u70 (hw : HW_ a0 Z) : (Cond.code Y32 jdk_42_method_154_code (1 : Nat) (Option.some .boolean)).before a0 Z = true := hwI hw 70 rfl
theorem u71 (hw : HW_ a0 Z) : (Cond.fieldLink "java/lang/String" (9 : Nat) "java/lang/String" "value" "[B").before a0 Z = true := hwI hw 71 rfl
theorem u72 (hw : HW_ a0 Z) : (Cond.methodLink "java/lang/String" (647 : Nat) Y43).before a0 Z = true := hwI hw 72 rfl
theorem u73 (hw : HW_ a0 Z) : (Cond.static Y43).before a0 Z = true := hwI hw 73 rfl
theorem u74 (hw : HW_ a0 Z) : (Cond.initialized "java/lang/StringLatin1").before a0 Z = true := hwI hw 74 rfl
theorem u75 (hw : HW_ a0 Z) : (Cond.code Y43 jdk_43_method_24_code (2 : Nat) (Option.some .int)).before a0 Z = true := hwI hw 75 rfl
theorem u76 (hw : HW_ a0 Z) : (Cond.classLink "com/example/per1od/per1od/StoreAddress" (38 : Nat) "java/lang/StringBuilder").before a0 Z = true := hwI hw 76 rfl
theorem u77 (hw : HW_ a0 Z) : (Cond.instantiable "java/lang/StringBuilder" (4 : Nat)).before a0 Z = true := hwI hw 77 rfl
theorem u78 (hw : HW_ a0 Z) : (Cond.initialized "java/lang/StringBuilder").before a0 Z = true := hwI hw 78 rfl
theorem u79 (hw : HW_ a0 Z) : (Cond.methodLink "com/example/per1od/per1od/StoreAddress" (40 : Nat) Y36).before a0 Z = true := hwI hw 79 rfl
theorem u80 (hw : HW_ a0 Z) : (Cond.instanceMethod Y36).before a0 Z = true := hwI hw 80 rfl
theorem u81 (hw : HW_ a0 Z) : (Cond.code Y36 jdk_67_method_1_code (1 : Nat) (Option.none : Option Jvm.ClassFile.FieldType)).before a0 Z = true := hwI hw 81 rfl
theorem u82 (hw : HW_ a0 Z) : (Cond.methodLink "java/lang/StringBuilder" (1 : Nat) Y8).before a0 Z = true := hwI hw 82 rfl
theorem u83 (hw : HW_ a0 Z) : (Cond.instanceMethod Y8).before a0 Z = true := hwI hw 83 rfl
theorem u86 (hw : HW_ a0 Z) : (Cond.initialized "java/lang/AbstractStringBuilder").before a0 Z = true := hwI hw 86 rfl
theorem u87 (hw : HW_ a0 Z) : (Cond.code Y8 jdk_68_method_2_code (2 : Nat) (Option.none : Option Jvm.ClassFile.FieldType)).before a0 Z = true := hwI hw 87 rfl
theorem u88 (hw : HW_ a0 Z) : (Cond.methodLink "java/lang/AbstractStringBuilder" (3 : Nat) ({ cls := "java/lang/Object", name := "<init>", desc := "()V" } : Jvm.MethodName)).before a0 Z = true := hwI hw 88 rfl
theorem u89 (hw : HW_ a0 Z) : (Cond.fieldLink "java/lang/AbstractStringBuilder" (18 : Nat) "java/lang/String" "COMPACT_STRINGS" "Z").before a0 Z = true := hwI hw 89 rfl
theorem u90 (hw : HW_ a0 Z) : (Cond.fieldLink "java/lang/AbstractStringBuilder" (15 : Nat) "java/lang/AbstractStringBuilder" "value" "[B").before a0 Z = true := hwI hw 90 rfl
theorem u91 (hw : HW_ a0 Z) : (Cond.lays "java/lang/StringBuilder" "java/lang/AbstractStringBuilder" "value" "[B").before a0 Z = true := hwI hw 91 rfl
theorem u92 (hw : HW_ a0 Z) : (Cond.fieldLink "java/lang/AbstractStringBuilder" (22 : Nat) "java/lang/AbstractStringBuilder" "coder" "B").before a0 Z = true := hwI hw 92 rfl
theorem u93 (hw : HW_ a0 Z) : (Cond.lays "java/lang/StringBuilder" "java/lang/AbstractStringBuilder" "coder" "B").before a0 Z = true := hwI hw 93 rfl
theorem u94 (hw : HW_ a0 Z) : (Cond.stringLink "com/example/per1od/per1od/StoreAddress" (89 : Nat) "redis://").before a0 Z = true := hwI hw 94 rfl
theorem u95 (hw : HW_ a0 Z) : (Cond.methodLink "com/example/per1od/per1od/StoreAddress" (43 : Nat) Y38).before a0 Z = true := hwI hw 95 rfl
theorem u96 (hw : HW_ a0 Z) : (Cond.declares Y38).before a0 Z = true := hwI hw 96 rfl
theorem u97 (hw : HW_ a0 Z) : (Cond.instanceMethod Y38).before a0 Z = true := hwI hw 97 rfl
theorem u98 (hw : HW_ a0 Z) : (Cond.selects "java/lang/StringBuilder" Y38 Y38).before a0 Z = true := hwI hw 98 rfl
theorem u99 (hw : HW_ a0 Z) : (Cond.code Y38 jdk_67_method_7_code (2 : Nat) (Option.some (.object "java/lang/StringBuilder"))).before a0 Z = true := hwI hw 99 rfl
theorem u100 (hw : HW_ a0 Z) : (Cond.methodLink "java/lang/StringBuilder" (29 : Nat) Y10).before a0 Z = true := hwI hw 100 rfl
theorem u101 (hw : HW_ a0 Z) : (Cond.instanceMethod Y10).before a0 Z = true := hwI hw 101 rfl
theorem u102 (hw : HW_ a0 Z) : (Cond.superclass "java/lang/StringBuilder" "java/lang/AbstractStringBuilder").before a0 Z = true := hwI hw 102 rfl
theorem u104 (hw : HW_ a0 Z) : (Cond.code Y10 jdk_68_method_22_code (3 : Nat) (Option.some (.object "java/lang/AbstractStringBuilder"))).before a0 Z = true := hwI hw 104 rfl
theorem u105 (hw : HW_ a0 Z) : (Cond.methodLink "java/lang/AbstractStringBuilder" (32 : Nat) Y33).before a0 Z = true := hwI hw 105 rfl
theorem u106 (hw : HW_ a0 Z) : (Cond.declares Y33).before a0 Z = true := hwI hw 106 rfl
theorem u107 (hw : HW_ a0 Z) : (Cond.instanceMethod Y33).before a0 Z = true := hwI hw 107 rfl
theorem u108 (hw : HW_ a0 Z) : (Cond.selects "java/lang/String" Y33 Y33).before a0 Z = true := hwI hw 108 rfl
theorem u109 (hw : HW_ a0 Z) : (Cond.code Y33 jdk_42_method_54_code (1 : Nat) (Option.some .int)).before a0 Z = true := hwI hw 109 rfl
theorem u110 (hw : HW_ a0 Z) : (Cond.fieldLink "java/lang/AbstractStringBuilder" (79 : Nat) "java/lang/AbstractStringBuilder" "count" "I").before a0 Z = true := hwI hw 110 rfl
theorem u111 (hw : HW_ a0 Z) : (Cond.lays "java/lang/StringBuilder" "java/lang/AbstractStringBuilder" "count" "I").before a0 Z = true := hwI hw 111 rfl
theorem u112 (hw : HW_ a0 Z) : (Cond.methodLink "java/lang/AbstractStringBuilder" (100 : Nat) Y11).before a0 Z = true := hwI hw 112 rfl
theorem u113 (hw : HW_ a0 Z) : (Cond.instanceMethod Y11).before a0 Z = true := hwI hw 113 rfl
theorem u114 (hw : HW_ a0 Z) : (Cond.privateMethod Y11).before a0 Z = true := hwI hw 114 rfl
theorem u115 (hw : HW_ a0 Z) : (Cond.selects "java/lang/StringBuilder" Y11 Y11).before a0 Z = true := hwI hw 115 rfl
theorem u116 (hw : HW_ a0 Z) : (Cond.code Y11 jdk_68_method_9_code (3 : Nat) (Option.none : Option Jvm.ClassFile.FieldType)).before a0 Z = true := hwI hw 116 rfl
theorem u117 (hw : HW_ a0 Z) : (Cond.methodLink "java/lang/AbstractStringBuilder" (208 : Nat) Y17).before a0 Z = true := hwI hw 117 rfl
theorem u118 (hw : HW_ a0 Z) : (Cond.instanceMethod Y17).before a0 Z = true := hwI hw 118 rfl
theorem u119 (hw : HW_ a0 Z) : (Cond.privateMethod Y17).before a0 Z = true := hwI hw 119 rfl
theorem u121 (hw : HW_ a0 Z) : (Cond.code Y17 jdk_68_method_73_code (3 : Nat) (Option.none : Option Jvm.ClassFile.FieldType)).before a0 Z = true := hwI hw 121 rfl
theorem u122 (hw : HW_ a0 Z) : (Cond.methodLink "java/lang/AbstractStringBuilder" (397 : Nat) Y13).before a0 Z = true := hwI hw 122 rfl
theorem u123 (hw : HW_ a0 Z) : (Cond.instanceMethod Y13).before a0 Z = true := hwI hw 123 rfl
theorem u124 (hw : HW_ a0 Z) : (Cond.privateMethod Y13).before a0 Z = true := hwI hw 124 rfl
theorem u126 (hw : HW_ a0 Z) : (Cond.code Y13 jdk_68_method_71_code (2 : Nat) (Option.none : Option Jvm.ClassFile.FieldType)).before a0 Z = true := hwI hw 126 rfl
theorem u127 (hw : HW_ a0 Z) : (Cond.methodLink "java/lang/AbstractStringBuilder" (40 : Nat) Y28).before a0 Z = true := hwI hw 127 rfl
theorem u128 (hw : HW_ a0 Z) : (Cond.methodLink "java/lang/AbstractStringBuilder" (399 : Nat) Y30).before a0 Z = true := hwI hw 128 rfl
theorem u129 (hw : HW_ a0 Z) : (Cond.declares Y30).before a0 Z = true := hwI hw 129 rfl
theorem u130 (hw : HW_ a0 Z) : (Cond.instanceMethod Y30).before a0 Z = true := hwI hw 130 rfl
theorem u131 (hw : HW_ a0 Z) : (Cond.selects "java/lang/String" Y30 Y30).before a0 Z = true := hwI hw 131 rfl
theorem u132 (hw : HW_ a0 Z) : (Cond.code Y30 jdk_42_method_147_code (4 : Nat) (Option.none : Option Jvm.ClassFile.FieldType)).before a0 Z = true := hwI hw 132 rfl
theorem u133 (hw : HW_ a0 Z) : (Cond.methodLink "java/lang/String" (212 : Nat) ({ cls := "java/lang/System", name := "arraycopy", desc := "(Ljava/lang/Object;ILjava/lang/Object;II)V" } : Jvm.MethodName)).before a0 Z = true := hwI hw 133 rfl
theorem u134 (hw : HW_ a0 Z) : (Cond.static ({ cls := "java/lang/System", name := "arraycopy", desc := "(Ljava/lang/Object;ILjava/lang/Object;II)V" } : Jvm.MethodName)).before a0 Z = true := hwI hw 134 rfl
theorem u135 (hw : HW_ a0 Z) : (Cond.initialized "java/lang/System").before a0 Z = true := hwI hw 135 rfl
theorem u136 (hw : HW_ a0 Z) : (Cond.native ({ cls := "java/lang/System", name := "arraycopy", desc := "(Ljava/lang/Object;ILjava/lang/Object;II)V" } : Jvm.MethodName)).before a0 Z = true := hwI hw 136 rfl
theorem u137 (hw : HW_ a0 Z) : (Cond.methodLink "com/example/per1od/per1od/StoreAddress" (71 : Nat) Y37).before a0 Z = true := hwI hw 137 rfl
theorem u138 (hw : HW_ a0 Z) : (Cond.declares Y37).before a0 Z = true := hwI hw 138 rfl
theorem u139 (hw : HW_ a0 Z) : (Cond.instanceMethod Y37).before a0 Z = true := hwI hw 139 rfl
theorem u140 (hw : HW_ a0 Z) : (Cond.selects "java/lang/StringBuilder" Y37 Y37).before a0 Z = true := hwI hw 140 rfl
theorem u141 (hw : HW_ a0 Z) : (Cond.code Y37 jdk_67_method_15_code (2 : Nat) (Option.some (.object "java/lang/StringBuilder"))).before a0 Z = true := hwI hw 141 rfl
theorem u142 (hw : HW_ a0 Z) : (Cond.methodLink "java/lang/StringBuilder" (53 : Nat) Y9).before a0 Z = true := hwI hw 142 rfl
theorem u143 (hw : HW_ a0 Z) : (Cond.instanceMethod Y9).before a0 Z = true := hwI hw 143 rfl
theorem u145 (hw : HW_ a0 Z) : (Cond.code Y9 jdk_68_method_32_code (4 : Nat) (Option.some (.object "java/lang/AbstractStringBuilder"))).before a0 Z = true := hwI hw 145 rfl
theorem u146 (hw : HW_ a0 Z) : (Cond.methodLink "java/lang/AbstractStringBuilder" (245 : Nat) Y19).before a0 Z = true := hwI hw 146 rfl
theorem u147 (hw : HW_ a0 Z) : (Cond.static Y19).before a0 Z = true := hwI hw 147 rfl
theorem u148 (hw : HW_ a0 Z) : (Cond.initialized "java/lang/Integer").before a0 Z = true := hwI hw 148 rfl
theorem u149 (hw : HW_ a0 Z) : (Cond.code Y19 jdk_33_method_13_code (4 : Nat) (Option.some .int)).before a0 Z = true := hwI hw 149 rfl
theorem u150 (hw : HW_ a0 Z) : (Cond.methodLink "java/lang/AbstractStringBuilder" (83 : Nat) Y14).before a0 Z = true := hwI hw 150 rfl
theorem u151 (hw : HW_ a0 Z) : (Cond.declares Y14).before a0 Z = true := hwI hw 151 rfl
theorem u152 (hw : HW_ a0 Z) : (Cond.instanceMethod Y14).before a0 Z = true := hwI hw 152 rfl
theorem u153 (hw : HW_ a0 Z) : (Cond.selects "java/lang/StringBuilder" Y14 Y14).before a0 Z = true := hwI hw 153 rfl
theorem u154 (hw : HW_ a0 Z) : (Cond.code Y14 jdk_68_method_68_code (1 : Nat) (Option.some .boolean)).before a0 Z = true := hwI hw 154 rfl
theorem u155 (hw : HW_ a0 Z) : (Cond.methodLink "java/lang/AbstractStringBuilder" (248 : Nat) Y18).before a0 Z = true := hwI hw 155 rfl
theorem u156 (hw : HW_ a0 Z) : (Cond.static Y18).before a0 Z = true := hwI hw 156 rfl
theorem u157 (hw : HW_ a0 Z) : (Cond.code Y18 jdk_33_method_12_code (7 : Nat) (Option.some .int)).before a0 Z = true := hwI hw 157 rfl
theorem u158 (hw : HW_ a0 Z) : (Cond.fieldLink "java/lang/Integer" (83 : Nat) "java/lang/Integer" "DigitOnes" "[B").before a0 Z = true := hwI hw 158 rfl
theorem u159 (hw : HW_ a0 Z) : (Cond.stringLink "com/example/per1od/per1od/StoreAddress" (91 : Nat) "/").before a0 Z = true := hwI hw 159 rfl
theorem u160 (hw : HW_ a0 Z) : (Cond.methodLink "com/example/per1od/per1od/StoreAddress" (51 : Nat) Y40).before a0 Z = true := hwI hw 160 rfl
theorem u161 (hw : HW_ a0 Z) : (Cond.declares Y40).before a0 Z = true := hwI hw 161 rfl
theorem u162 (hw : HW_ a0 Z) : (Cond.instanceMethod Y40).before a0 Z = true := hwI hw 162 rfl
theorem u163 (hw : HW_ a0 Z) : (Cond.selects "java/lang/StringBuilder" Y40 Y40).before a0 Z = true := hwI hw 163 rfl
theorem u164 (hw : HW_ a0 Z) : (Cond.code Y40 jdk_67_method_42_code (1 : Nat) (Option.some (.object "java/lang/String"))).before a0 Z = true := hwI hw 164 rfl
theorem u165 (hw : HW_ a0 Z) : (Cond.classLink "java/lang/StringBuilder" (18 : Nat) "java/lang/String").before a0 Z = true := hwI hw 165 rfl
theorem u166 (hw : HW_ a0 Z) : (Cond.methodLink "java/lang/StringBuilder" (137 : Nat) Y24).before a0 Z = true := hwI hw 166 rfl
theorem u167 (hw : HW_ a0 Z) : (Cond.instanceMethod Y24).before a0 Z = true := hwI hw 167 rfl
theorem u169 (hw : HW_ a0 Z) : (Cond.code Y24 jdk_42_method_53_code (2 : Nat) (Option.none : Option Jvm.ClassFile.FieldType)).before a0 Z = true := hwI hw 169 rfl
theorem u170 (hw : HW_ a0 Z) : (Cond.methodLink "java/lang/String" (489 : Nat) Y23).before a0 Z = true := hwI hw 170 rfl
theorem u171 (hw : HW_ a0 Z) : (Cond.instanceMethod Y23).before a0 Z = true := hwI hw 171 rfl
theorem u172 (hw : HW_ a0 Z) : (Cond.code Y23 jdk_42_method_150_code (5 : Nat) (Option.none : Option Jvm.ClassFile.FieldType)).before a0 Z = true := hwI hw 172 rfl
theorem u173 (hw : HW_ a0 Z) : (Cond.methodLink "java/lang/String" (1 : Nat) ({ cls := "java/lang/Object", name := "<init>", desc := "()V" } : Jvm.MethodName)).before a0 Z = true := hwI hw 173 rfl
theorem u174 (hw : HW_ a0 Z) : (Cond.methodLink "java/lang/String" (552 : Nat) Y12).before a0 Z = true := hwI hw 174 rfl
theorem u175 (hw : HW_ a0 Z) : (Cond.declares Y12).before a0 Z = true := hwI hw 175 rfl
theorem u176 (hw : HW_ a0 Z) : (Cond.instanceMethod Y12).before a0 Z = true := hwI hw 176 rfl
theorem u177 (hw : HW_ a0 Z) : (Cond.selects "java/lang/StringBuilder" Y12 Y12).before a0 Z = true := hwI hw 177 rfl
theorem u178 (hw : HW_ a0 Z) : (Cond.code Y12 jdk_68_method_64_code (1 : Nat) (Option.some (.array .byte))).before a0 Z = true := hwI hw 178 rfl
theorem u179 (hw : HW_ a0 Z) : (Cond.methodLink "java/lang/String" (549 : Nat) Y15).before a0 Z = true := hwI hw 179 rfl
theorem u180 (hw : HW_ a0 Z) : (Cond.declares Y15).before a0 Z = true := hwI hw 180 rfl
theorem u181 (hw : HW_ a0 Z) : (Cond.instanceMethod Y15).before a0 Z = true := hwI hw 181 rfl
theorem u182 (hw : HW_ a0 Z) : (Cond.selects "java/lang/StringBuilder" Y15 Y39).before a0 Z = true := hwI hw 182 rfl
theorem u183 (hw : HW_ a0 Z) : (Cond.instanceMethod Y39).before a0 Z = true := hwI hw 183 rfl
theorem u184 (hw : HW_ a0 Z) : (Cond.code Y39 jdk_67_method_93_code (1 : Nat) (Option.some .int)).before a0 Z = true := hwI hw 184 rfl
theorem u185 (hw : HW_ a0 Z) : (Cond.methodLink "java/lang/StringBuilder" (343 : Nat) Y15).before a0 Z = true := hwI hw 185 rfl
theorem u186 (hw : HW_ a0 Z) : (Cond.code Y15 jdk_68_method_6_code (1 : Nat) (Option.some .int)).before a0 Z = true := hwI hw 186 rfl
theorem u187 (hw : HW_ a0 Z) : (Cond.methodLink "java/lang/String" (1047 : Nat) Y14).before a0 Z = true := hwI hw 187 rfl
theorem u188 (hw : HW_ a0 Z) : (Cond.methodLink "java/lang/String" (54 : Nat) Y47).before a0 Z = true := hwI hw 188 rfl
theorem u189 (hw : HW_ a0 Z) : (Cond.static Y47).before a0 Z = true := hwI hw 189 rfl
theorem u190 (hw : HW_ a0 Z) : (Cond.initialized "java/util/Arrays").before a0 Z = true := hwI hw 190 rfl
theorem u191 (hw : HW_ a0 Z) : (Cond.code Y47 jdk_65_method_132_code (3 : Nat) (Option.some (.array .byte))).before a0 Z = true := hwI hw 191 rfl
theorem u192 (hw : HW_ a0 Z) : (Cond.methodLink "java/util/Arrays" (339 : Nat) Y48).before a0 Z = true := hwI hw 192 rfl
theorem u193 (hw : HW_ a0 Z) : (Cond.static Y48).before a0 Z = true := hwI hw 193 rfl
theorem u194 (hw : HW_ a0 Z) : (Cond.code Y48 jdk_65_method_133_code (5 : Nat) (Option.some (.array .byte))).before a0 Z = true := hwI hw 194 rfl
theorem u195 (hw : HW_ a0 Z) : (Cond.methodLink "java/util/Arrays" (343 : Nat) Y45).before a0 Z = true := hwI hw 195 rfl
theorem u196 (hw : HW_ a0 Z) : (Cond.static Y45).before a0 Z = true := hwI hw 196 rfl
theorem u197 (hw : HW_ a0 Z) : (Cond.code Y45 jdk_65_method_131_code (2 : Nat) (Option.none : Option Jvm.ClassFile.FieldType)).before a0 Z = true := hwI hw 197 rfl
theorem u198 (hw : HW_ a0 Z) : (Cond.methodLink "java/util/Arrays" (304 : Nat) Y21).before a0 Z = true := hwI hw 198 rfl
theorem u199 (hw : HW_ a0 Z) : (Cond.static Y21).before a0 Z = true := hwI hw 199 rfl
theorem u200 (hw : HW_ a0 Z) : (Cond.initialized "java/lang/Math").before a0 Z = true := hwI hw 200 rfl
theorem u201 (hw : HW_ a0 Z) : (Cond.code Y21 jdk_29_method_69_code (2 : Nat) (Option.some .int)).before a0 Z = true := hwI hw 201 rfl
theorem u202 (hw : HW_ a0 Z) : (Cond.methodLink "java/util/Arrays" (150 : Nat) ({ cls := "java/lang/System", name := "arraycopy", desc := "(Ljava/lang/Object;ILjava/lang/Object;II)V" } : Jvm.MethodName)).before a0 Z = true := hwI hw 202 rfl
theorem u203 (hw : HW_ a0 Z) : (Cond.methodLink "com/example/per1od/per1od/StoreAddressToStringPinLaw" (28 : Nat) Y5).before a0 Z = true := hwI hw 203 rfl
theorem u204 (hw : HW_ a0 Z) : (Cond.static Y5).before a0 Z = true := hwI hw 204 rfl
theorem u205 (hw : HW_ a0 Z) : (Cond.code Y5 method_4_code (1 : Nat) (Option.some .int)).before a0 Z = true := hwI hw 205 rfl
theorem u206 (hw : HW_ a0 Z) : (Cond.methodLink "com/example/per1od/per1od/StoreAddressToStringPinLaw" (18 : Nat) Y33).before a0 Z = true := hwI hw 206 rfl
theorem u207 (hw : HW_ a0 Z) : (Cond.methodLink "com/example/per1od/per1od/StoreAddressToStringPinLaw" (35 : Nat) Y2).before a0 Z = true := hwI hw 207 rfl
theorem u208 (hw : HW_ a0 Z) : (Cond.static Y2).before a0 Z = true := hwI hw 208 rfl
theorem u209 (hw : HW_ a0 Z) : (Cond.code Y2 method_5_code (3 : Nat) (Option.some .boolean)).before a0 Z = true := hwI hw 209 rfl
theorem u210 (hw : HW_ a0 Z) : (Cond.methodLink "com/example/per1od/per1od/StoreAddressToStringPinLaw" (24 : Nat) Y27).before a0 Z = true := hwI hw 210 rfl
theorem u211 (hw : HW_ a0 Z) : (Cond.declares Y27).before a0 Z = true := hwI hw 211 rfl
theorem u212 (hw : HW_ a0 Z) : (Cond.instanceMethod Y27).before a0 Z = true := hwI hw 212 rfl
theorem u213 (hw : HW_ a0 Z) : (Cond.selects "java/lang/String" Y27 Y27).before a0 Z = true := hwI hw 213 rfl
theorem u226 (hw : HW_ a0 Z) : (Cond.methodLink "com/example/per1od/per1od/StoreAddressToStringPinLaw" (62 : Nat) Y6).before a0 Z = true := hwI hw 226 rfl
theorem u227 (hw : HW_ a0 Z) : (Cond.static Y6).before a0 Z = true := hwI hw 227 rfl
theorem u228 (hw : HW_ a0 Z) : (Cond.code Y6 method_6_code (5 : Nat) (Option.some .boolean)).before a0 Z = true := hwI hw 228 rfl
theorem u229 (hw : HW_ a0 Z) : (Cond.methodLink "com/example/per1od/per1od/StoreAddressToStringPinLaw" (31 : Nat) Y3).before a0 Z = true := hwI hw 229 rfl
theorem u230 (hw : HW_ a0 Z) : (Cond.static Y3).before a0 Z = true := hwI hw 230 rfl
theorem u231 (hw : HW_ a0 Z) : (Cond.code Y3 method_3_code (2 : Nat) (Option.some .char)).before a0 Z = true := hwI hw 231 rfl
theorem u232 (hw : HW_ a0 Z) : (Cond.methodLink "com/example/per1od/per1od/StoreAddressToStringPinLaw" (12 : Nat) Y7).before a0 Z = true := hwI hw 232 rfl
theorem u233 (hw : HW_ a0 Z) : (Cond.static Y7).before a0 Z = true := hwI hw 233 rfl
theorem u234 (hw : HW_ a0 Z) : (Cond.code Y7 method_2_code (1 : Nat) (Option.some .int)).before a0 Z = true := hwI hw 234 rfl
theorem u235 (hw : HW_ a0 Z) : (Cond.methodLink "com/example/per1od/per1od/StoreAddressToStringPinLaw" (44 : Nat) Y35).before a0 Z = true := hwI hw 235 rfl
theorem u236 (hw : HW_ a0 Z) : (Cond.static Y35).before a0 Z = true := hwI hw 236 rfl
theorem u237 (hw : HW_ a0 Z) : (Cond.code Y35 jdk_42_method_139_code (1 : Nat) (Option.some (.object "java/lang/String"))).before a0 Z = true := hwI hw 237 rfl
theorem u238 (hw : HW_ a0 Z) : (Cond.methodLink "java/lang/String" (1015 : Nat) Y41).before a0 Z = true := hwI hw 238 rfl
theorem u239 (hw : HW_ a0 Z) : (Cond.static Y41).before a0 Z = true := hwI hw 239 rfl
theorem u240 (hw : HW_ a0 Z) : (Cond.code Y41 jdk_43_method_3_code (1 : Nat) (Option.some .boolean)).before a0 Z = true := hwI hw 240 rfl
theorem u241 (hw : HW_ a0 Z) : (Cond.classLink "java/lang/String" (10 : Nat) "java/lang/String").before a0 Z = true := hwI hw 241 rfl
theorem u242 (hw : HW_ a0 Z) : (Cond.methodLink "java/lang/String" (1018 : Nat) Y44).before a0 Z = true := hwI hw 242 rfl
theorem u243 (hw : HW_ a0 Z) : (Cond.static Y44).before a0 Z = true := hwI hw 243 rfl
theorem u244 (hw : HW_ a0 Z) : (Cond.code Y44 jdk_43_method_46_code (1 : Nat) (Option.some (.array .byte))).before a0 Z = true := hwI hw 244 rfl
theorem u245 (hw : HW_ a0 Z) : (Cond.methodLink "java/lang/String" (209 : Nat) Y25).before a0 Z = true := hwI hw 245 rfl
theorem u246 (hw : HW_ a0 Z) : (Cond.instanceMethod Y25).before a0 Z = true := hwI hw 246 rfl
theorem u247 (hw : HW_ a0 Z) : (Cond.code Y25 jdk_42_method_151_code (3 : Nat) (Option.none : Option Jvm.ClassFile.FieldType)).before a0 Z = true := hwI hw 247 rfl
theorem u248 (hw : HW_ a0 Z) : (Cond.methodLink "java/lang/StringLatin1" (99 : Nat) Y42).before a0 Z = true := hwI hw 248 rfl
theorem u249 (hw : HW_ a0 Z) : (Cond.static Y42).before a0 Z = true := hwI hw 249 rfl
theorem u250 (hw : HW_ a0 Z) : (Cond.code Y42 jdk_43_method_25_code (11 : Nat) (Option.some .int)).before a0 Z = true := hwI hw 250 rfl
theorem u251 (hw : HW_ a0 Z) : (Cond.fieldLink "java/lang/Integer" (87 : Nat) "java/lang/Integer" "DigitTens" "[B").before a0 Z = true := hwI hw 251 rfl
theorem u252 (hw : HW_ a0 Z) : (Cond.classLink "com/example/per1od/per1od/StoreAddressToStringPinLaw" (19 : Nat) "java/lang/String").before a0 Z = true := hwI hw 252 rfl
theorem u253 (hw : HW_ a0 Z) : (Cond.arrayClass .char).before a0 Z = true := hwI hw 253 rfl
theorem u254 (hw : HW_ a0 Z) : (Cond.methodLink "com/example/per1od/per1od/StoreAddressToStringPinLaw" (48 : Nat) Y26).before a0 Z = true := hwI hw 254 rfl
theorem u255 (hw : HW_ a0 Z) : (Cond.instanceMethod Y26).before a0 Z = true := hwI hw 255 rfl
theorem u256 (hw : HW_ a0 Z) : (Cond.code Y26 jdk_42_method_3_code (2 : Nat) (Option.none : Option Jvm.ClassFile.FieldType)).before a0 Z = true := hwI hw 256 rfl
theorem u270 (hw : HW_ a0 Z) : (Cond.stringLink "com/example/per1od/per1od/StoreAddress" (85 : Nat) "[").before a0 Z = true := hwI hw 270 rfl
theorem u271 (hw : HW_ a0 Z) : (Cond.stringLink "com/example/per1od/per1od/StoreAddress" (87 : Nat) "]").before a0 Z = true := hwI hw 271 rfl
theorem u272 (hw : HW_ a0 Z) : (Cond.methodLink "java/lang/AbstractStringBuilder" (104 : Nat) Y16).before a0 Z = true := hwI hw 272 rfl
theorem u273 (hw : HW_ a0 Z) : (Cond.instanceMethod Y16).before a0 Z = true := hwI hw 273 rfl
theorem u274 (hw : HW_ a0 Z) : (Cond.privateMethod Y16).before a0 Z = true := hwI hw 274 rfl
theorem u276 (hw : HW_ a0 Z) : (Cond.code Y16 jdk_68_method_10_code (6 : Nat) (Option.some .int)).before a0 Z = true := hwI hw 276 rfl
theorem u277 (hw : HW_ a0 Z) : (Cond.methodLink "java/lang/AbstractStringBuilder" (114 : Nat) Y49).before a0 Z = true := hwI hw 277 rfl
theorem u278 (hw : HW_ a0 Z) : (Cond.static Y49).before a0 Z = true := hwI hw 278 rfl
theorem u279 (hw : HW_ a0 Z) : (Cond.initialized "jdk/internal/util/ArraysSupport").before a0 Z = true := hwI hw 279 rfl
theorem u280 (hw : HW_ a0 Z) : (Cond.code Y49 jdk_48_method_27_code (4 : Nat) (Option.some .int)).before a0 Z = true := hwI hw 280 rfl
theorem u281 (hw : HW_ a0 Z) : (Cond.methodLink "jdk/internal/util/ArraysSupport" (194 : Nat) Y20).before a0 Z = true := hwI hw 281 rfl
theorem u282 (hw : HW_ a0 Z) : (Cond.static Y20).before a0 Z = true := hwI hw 282 rfl
theorem u283 (hw : HW_ a0 Z) : (Cond.code Y20 jdk_29_method_65_code (2 : Nat) (Option.some .int)).before a0 Z = true := hwI hw 283 rfl
theorem u284 (hw : HW_ a0 Z) : (Cond.constant "jdk/internal/util/ArraysSupport" (200 : Nat) (2147483639 : Int32)).before a0 Z = true := hwI hw 284 rfl
theorem u285 (hw : HW_ a0 Z) : (Cond.constant "java/lang/AbstractStringBuilder" (39 : Nat) (2147483647 : Int32)).before a0 Z = true := hwI hw 285 rfl
theorem u286 (hw : HW_ a0 Z) : (Cond.methodLink "java/lang/AbstractStringBuilder" (108 : Nat) Y46).before a0 Z = true := hwI hw 286 rfl
theorem u287 (hw : HW_ a0 Z) : (Cond.static Y46).before a0 Z = true := hwI hw 287 rfl
theorem u288 (hw : HW_ a0 Z) : (Cond.code Y46 jdk_65_method_121_code (3 : Nat) (Option.some (.array .byte))).before a0 Z = true := hwI hw 288 rfl
theorem u289 (hw : HW_ a0 Z) : (Cond.constant "com/example/per1od/per1od/StoreAddressToStringPinLaw" (7 : Nat) (100000 : Int32)).before a0 Z = true := hwI hw 289 rfl
theorem u290 (hw : HW_ a0 Z) : (Cond.constant "com/example/per1od/per1od/StoreAddressToStringPinLaw" (8 : Nat) (1000000 : Int32)).before a0 Z = true := hwI hw 290 rfl
theorem u291 (hw : HW_ a0 Z) : (Cond.constant "com/example/per1od/per1od/StoreAddressToStringPinLaw" (9 : Nat) (10000000 : Int32)).before a0 Z = true := hwI hw 291 rfl
theorem u292 (hw : HW_ a0 Z) : (Cond.constant "com/example/per1od/per1od/StoreAddressToStringPinLaw" (10 : Nat) (100000000 : Int32)).before a0 Z = true := hwI hw 292 rfl
theorem u293 (hw : HW_ a0 Z) : (Cond.constant "com/example/per1od/per1od/StoreAddressToStringPinLaw" (11 : Nat) (1000000000 : Int32)).before a0 Z = true := hwI hw 293 rfl
theorem u294 (hw : HW_ a0 Z) : (Cond.methodLink "java/util/Arrays" (310 : Nat) ({ cls := "[B", name := "clone", desc := "()Ljava/lang/Object;" } : Jvm.MethodName)).before a0 Z = true := hwI hw 294 rfl
theorem u295 (hw : HW_ a0 Z) : (Cond.sameMethod "[B" "java/lang/Object" "clone" "()Ljava/lang/Object;").before a0 Z = true := hwI hw 295 rfl
theorem u297 (hw : HW_ a0 Z) : (Cond.instanceMethod ({ cls := "java/lang/Object", name := "clone", desc := "()Ljava/lang/Object;" } : Jvm.MethodName)).before a0 Z = true := hwI hw 297 rfl
theorem u298 (hw : HW_ a0 Z) : (Cond.selects "[B" ({ cls := "[B", name := "clone", desc := "()Ljava/lang/Object;" } : Jvm.MethodName) ({ cls := "java/lang/Object", name := "clone", desc := "()Ljava/lang/Object;" } : Jvm.MethodName)).before a0 Z = true := hwI hw 298 rfl
theorem u299 (hw : HW_ a0 Z) : (Cond.native ({ cls := "java/lang/Object", name := "clone", desc := "()Ljava/lang/Object;" } : Jvm.MethodName)).before a0 Z = true := hwI hw 299 rfl
theorem u300 (hw : HW_ a0 Z) : (Cond.castable "[B" "java/lang/Cloneable").before a0 Z = true := hwI hw 300 rfl
theorem u301 (hw : HW_ a0 Z) : (Cond.classLink "java/util/Arrays" (311 : Nat) "[B").before a0 Z = true := hwI hw 301 rfl
end OwnW
theorem own_pd0 : parseMethodDescriptor "(I)V" = some ⟨[.int], none⟩ := by decide +kernel
theorem own_pd1 : parseMethodDescriptor "()B" = some ⟨[], some .byte⟩ := by decide +kernel
theorem own_pd2 : parseMethodDescriptor "(II)I" = some ⟨[.int, .int], some .int⟩ := by decide +kernel
theorem own_pd3 : parseMethodDescriptor "(III)I" = some ⟨[.int, .int, .int], some .int⟩ := by decide +kernel
theorem own_pd4 : parseMethodDescriptor "(I)I" = some ⟨[.int], some .int⟩ := by decide +kernel
theorem own_pd5 : parseMethodDescriptor "([BI)[B" = some ⟨[(.array .byte), .int], some (.array .byte)⟩ := by decide +kernel
theorem own_pd6 : parseMethodDescriptor "(Ljava/lang/String;)V" = some ⟨[(.object "java/lang/String")], none⟩ := by decide +kernel
theorem own_pd7 : parseMethodDescriptor "([BIB)V" = some ⟨[(.array .byte), .int, .byte], none⟩ := by decide +kernel
theorem own_pd8 : parseMethodDescriptor "()I" = some ⟨[], some .int⟩ := by decide +kernel
theorem own_pd9 : parseMethodDescriptor "(ILjava/lang/String;)V" = some ⟨[.int, (.object "java/lang/String")], none⟩ := by decide +kernel
theorem own_pd10 : parseMethodDescriptor "(Ljava/lang/String;)Ljava/lang/AbstractStringBuilder;" = some ⟨[(.object "java/lang/String")], some (.object "java/lang/AbstractStringBuilder")⟩ := by decide +kernel
theorem own_pd11 : parseMethodDescriptor "(II)V" = some ⟨[.int, .int], none⟩ := by decide +kernel
theorem own_pd12 : parseMethodDescriptor "([BII)[B" = some ⟨[(.array .byte), .int, .int], some (.array .byte)⟩ := by decide +kernel
theorem own_pd13 : parseMethodDescriptor "()[B" = some ⟨[], some (.array .byte)⟩ := by decide +kernel
theorem own_pd14 : parseMethodDescriptor "()Z" = some ⟨[], some .boolean⟩ := by decide +kernel
theorem own_pd15 : parseMethodDescriptor "(Ljava/lang/AbstractStringBuilder;Ljava/lang/Void;)V" = some ⟨[(.object "java/lang/AbstractStringBuilder"), (.object "java/lang/Void")], none⟩ := by decide +kernel
theorem own_pd16 : parseMethodDescriptor "(Ljava/lang/StringBuilder;)V" = some ⟨[(.object "java/lang/StringBuilder")], none⟩ := by decide +kernel
theorem own_pd17 : parseMethodDescriptor "(II[B)I" = some ⟨[.int, .int, (.array .byte)], some .int⟩ := by decide +kernel
theorem own_pd18 : parseMethodDescriptor "(I)Ljava/lang/AbstractStringBuilder;" = some ⟨[.int], some (.object "java/lang/AbstractStringBuilder")⟩ := by decide +kernel
theorem own_pd19 : parseMethodDescriptor "([BI[BII)I" = some ⟨[(.array .byte), .int, (.array .byte), .int, .int], some .int⟩ := by decide +kernel
theorem own_pd20 : parseMethodDescriptor "([B[B)I" = some ⟨[(.array .byte), (.array .byte)], some .int⟩ := by decide +kernel
theorem own_pd21 : parseMethodDescriptor "()Ljava/lang/String;" = some ⟨[], some (.object "java/lang/String")⟩ := by decide +kernel
theorem own_pd22 : parseMethodDescriptor "(Ljava/lang/String;)I" = some ⟨[(.object "java/lang/String")], some .int⟩ := by decide +kernel
theorem own_pd23 : parseMethodDescriptor "()V" = some ⟨[], none⟩ := by decide +kernel
theorem own_pd24 : parseMethodDescriptor "(Ljava/lang/CharSequence;)Z" = some ⟨[(.object "java/lang/CharSequence")], some .boolean⟩ := by decide +kernel
theorem own_pd25 : parseMethodDescriptor "(Ljava/lang/String;)Ljava/lang/StringBuilder;" = some ⟨[(.object "java/lang/String")], some (.object "java/lang/StringBuilder")⟩ := by decide +kernel
theorem own_pd26 : parseMethodDescriptor "(I)Ljava/lang/StringBuilder;" = some ⟨[.int], some (.object "java/lang/StringBuilder")⟩ := by decide +kernel
theorem own_pd27 : parseMethodDescriptor "(C)Z" = some ⟨[.char], some .boolean⟩ := by decide +kernel
theorem own_pd28 : parseMethodDescriptor "(C)[B" = some ⟨[.char], some (.array .byte)⟩ := by decide +kernel
theorem own_pd29 : parseMethodDescriptor "([BB)V" = some ⟨[(.array .byte), .byte], none⟩ := by decide +kernel
theorem own_pd30 : parseMethodDescriptor "(I)C" = some ⟨[.int], some .char⟩ := by decide +kernel
theorem own_pd31 : parseMethodDescriptor "(II)C" = some ⟨[.int, .int], some .char⟩ := by decide +kernel
theorem own_pd32 : parseMethodDescriptor "(Ljava/lang/String;IC)Z" = some ⟨[(.object "java/lang/String"), .int, .char], some .boolean⟩ := by decide +kernel
theorem own_pd33 : parseMethodDescriptor "(C)Ljava/lang/String;" = some ⟨[.char], some (.object "java/lang/String")⟩ := by decide +kernel
theorem own_pd34 : parseMethodDescriptor "([C)V" = some ⟨[(.array .char)], none⟩ := by decide +kernel
theorem own_pd35 : parseMethodDescriptor "(Ljava/lang/String;II)Z" = some ⟨[(.object "java/lang/String"), .int, .int], some .boolean⟩ := by decide +kernel
theorem own_pd36 : parseMethodDescriptor "(Ljava/lang/String;II)V" = some ⟨[(.object "java/lang/String"), .int, .int], none⟩ := by decide +kernel
theorem own_pf0 : parseFieldDescriptor "[B" = some (.array .byte) := by decide +kernel
theorem own_pf1 : parseFieldDescriptor "B" = some .byte := by decide +kernel
theorem own_pf2 : parseFieldDescriptor "I" = some .int := by decide +kernel
theorem own_pf3 : parseFieldDescriptor "Ljava/lang/String;" = some (.object "java/lang/String") := by decide +kernel
theorem own_pn0 : plainName "java/lang/AbstractStringBuilder" = true := by first | (simp [plainName, overriddenIn]; done) | decide +kernel
theorem own_pn1 : plainName "java/lang/StringBuilder" = true := by first | (simp [plainName, overriddenIn]; done) | decide +kernel
theorem own_pn2 : plainFor (⟨"java/lang/String", "coder", "()B"⟩ : MethodName) = true := by decide +kernel
theorem own_pn3 : plainFor (⟨"java/lang/String", "length", "()I"⟩ : MethodName) = true := by decide +kernel
theorem own_pn4 : plainFor (⟨"java/lang/Math", "max", "(II)I"⟩ : MethodName) = true := by decide +kernel
theorem own_pn5 : plainName "jdk/internal/util/ArraysSupport" = true := by first | (simp [plainName, overriddenIn]; done) | decide +kernel
theorem own_pn6 : plainFor (⟨"java/lang/Math", "min", "(II)I"⟩ : MethodName) = true := by decide +kernel
theorem own_pn7 : plainName "java/util/Arrays" = true := by first | (simp [plainName, overriddenIn]; done) | decide +kernel
theorem own_pn8 : plainFor (⟨"java/lang/String", "getBytes", "([BIB)V"⟩ : MethodName) = true := by decide +kernel
theorem own_pn9 : plainFor (⟨"java/lang/String", "<init>", "(Ljava/lang/AbstractStringBuilder;Ljava/lang/Void;)V"⟩ : MethodName) = true := by decide +kernel
theorem own_pn10 : plainFor (⟨"java/lang/String", "<init>", "(Ljava/lang/StringBuilder;)V"⟩ : MethodName) = true := by decide +kernel
theorem own_pn11 : plainFor (⟨"java/lang/Integer", "stringSize", "(I)I"⟩ : MethodName) = true := by decide +kernel
theorem own_pn12 : plainName "com/example/per1od/per1od/StoreAddressToStringPinLaw" = true := by first | (simp [plainName, overriddenIn]; done) | decide +kernel
theorem own_pn13 : plainFor (⟨"java/lang/Integer", "getChars", "(II[B)I"⟩ : MethodName) = true := by decide +kernel
theorem own_pn14 : plainFor (⟨"java/lang/String", "isLatin1", "()Z"⟩ : MethodName) = true := by decide +kernel
theorem own_pn15 : plainFor (⟨"java/lang/String", "toString", "()Ljava/lang/String;"⟩ : MethodName) = true := by decide +kernel
theorem own_pn16 : plainName "java/lang/StringLatin1" = true := by first | (simp [plainName, overriddenIn]; done) | decide +kernel
theorem own_pn17 : plainFor (⟨"java/lang/String", "indexOf", "(Ljava/lang/String;)I"⟩ : MethodName) = true := by decide +kernel
theorem own_pn18 : plainFor (⟨"java/lang/String", "contains", "(Ljava/lang/CharSequence;)Z"⟩ : MethodName) = true := by decide +kernel
theorem own_pn19 : plainName "java/lang/Record" = true := by first | (simp [plainName, overriddenIn]; done) | decide +kernel
theorem own_pn20 : plainName "com/example/per1od/per1od/StoreAddress" = true := by first | (simp [plainName, overriddenIn]; done) | decide +kernel
theorem own_pn21 : plainFor (⟨"java/lang/String", "<init>", "([BB)V"⟩ : MethodName) = true := by decide +kernel
theorem own_pn22 : plainFor (⟨"java/lang/String", "valueOf", "(C)Ljava/lang/String;"⟩ : MethodName) = true := by decide +kernel
theorem D1_0 : decode method_7_code 0 = .ok (.iload_n 0, 1) := by decide +kernel
theorem D1_1 : decode method_7_code 1 = .ok (.sipush 511, 3) := by decide +kernel
theorem D1_4 : decode method_7_code 4 = .ok (.iand, 1) := by decide +kernel
theorem D1_5 : decode method_7_code 5 = .ok (.istore_n 1, 1) := by decide +kernel
theorem D1_6 : decode method_7_code 6 = .ok (.iload_n 1, 1) := by decide +kernel
theorem D1_7 : decode method_7_code 7 = .ok (.sipush 256, 3) := by decide +kernel
theorem D1_10 : decode method_7_code 10 = .ok (.if_icmp .lt 8, 3) := by decide +kernel
theorem D1_13 : decode method_7_code 13 = .ok (.bipush 58, 2) := by decide +kernel
theorem D1_15 : decode method_7_code 15 = .ok (.goto 5, 3) := by decide +kernel
theorem D1_18 : decode method_7_code 18 = .ok (.iload_n 1, 1) := by decide +kernel
theorem D1_19 : decode method_7_code 19 = .ok (.i2c, 1) := by decide +kernel
theorem D1_20 : decode method_7_code 20 = .ok (.ireturn, 1) := by decide +kernel
theorem D2_0 : decode prog_23_method_1_code 0 = .ok (.aload_n 0, 1) := by decide +kernel
theorem D2_1 : decode prog_23_method_1_code 1 = .ok (.invokespecial 1, 3) := by decide +kernel
theorem D2_4 : decode prog_23_method_1_code 4 = .ok (.aload_n 0, 1) := by decide +kernel
theorem D2_5 : decode prog_23_method_1_code 5 = .ok (.aload_n 1, 1) := by decide +kernel
theorem D2_6 : decode prog_23_method_1_code 6 = .ok (.putfield 7, 3) := by decide +kernel
theorem D2_9 : decode prog_23_method_1_code 9 = .ok (.aload_n 0, 1) := by decide +kernel
theorem D2_10 : decode prog_23_method_1_code 10 = .ok (.iload_n 2, 1) := by decide +kernel
theorem D2_11 : decode prog_23_method_1_code 11 = .ok (.putfield 13, 3) := by decide +kernel
theorem D2_14 : decode prog_23_method_1_code 14 = .ok (.aload_n 0, 1) := by decide +kernel
theorem D2_15 : decode prog_23_method_1_code 15 = .ok (.iload_n 3, 1) := by decide +kernel
theorem D2_16 : decode prog_23_method_1_code 16 = .ok (.putfield 17, 3) := by decide +kernel
theorem D2_19 : decode prog_23_method_1_code 19 = .ok (.return_, 1) := by decide +kernel
theorem D3_0 : decode jdk_30_method_1_code 0 = .ok (.aload_n 0, 1) := by decide +kernel
theorem D3_1 : decode jdk_30_method_1_code 1 = .ok (.invokespecial 1, 3) := by decide +kernel
theorem D3_4 : decode jdk_30_method_1_code 4 = .ok (.return_, 1) := by decide +kernel
theorem D5_0 : decode prog_23_method_3_code 0 = .ok (.aload_n 0, 1) := by decide +kernel
theorem D5_1 : decode prog_23_method_3_code 1 = .ok (.getfield 7, 3) := by decide +kernel
theorem D5_4 : decode prog_23_method_3_code 4 = .ok (.ldc 77, 2) := by decide +kernel
theorem D5_6 : decode prog_23_method_3_code 6 = .ok (.invokevirtual 79, 3) := by decide +kernel
theorem D5_9 : decode prog_23_method_3_code 9 = .ok (.ifCond .eq 33, 3) := by decide +kernel
theorem D5_12 : decode prog_23_method_3_code 12 = .ok (.new 38, 3) := by decide +kernel
theorem D5_15 : decode prog_23_method_3_code 15 = .ok (.dup, 1) := by decide +kernel
theorem D5_16 : decode prog_23_method_3_code 16 = .ok (.invokespecial 40, 3) := by decide +kernel
theorem D5_19 : decode prog_23_method_3_code 19 = .ok (.ldc 85, 2) := by decide +kernel
theorem D5_21 : decode prog_23_method_3_code 21 = .ok (.invokevirtual 43, 3) := by decide +kernel
theorem D5_24 : decode prog_23_method_3_code 24 = .ok (.aload_n 0, 1) := by decide +kernel
theorem D5_25 : decode prog_23_method_3_code 25 = .ok (.getfield 7, 3) := by decide +kernel
theorem D5_28 : decode prog_23_method_3_code 28 = .ok (.invokevirtual 43, 3) := by decide +kernel
theorem D5_31 : decode prog_23_method_3_code 31 = .ok (.ldc 87, 2) := by decide +kernel
theorem D5_33 : decode prog_23_method_3_code 33 = .ok (.invokevirtual 43, 3) := by decide +kernel
theorem D5_36 : decode prog_23_method_3_code 36 = .ok (.invokevirtual 51, 3) := by decide +kernel
theorem D5_39 : decode prog_23_method_3_code 39 = .ok (.goto 7, 3) := by decide +kernel
theorem D5_42 : decode prog_23_method_3_code 42 = .ok (.aload_n 0, 1) := by decide +kernel
theorem D5_43 : decode prog_23_method_3_code 43 = .ok (.getfield 7, 3) := by decide +kernel
theorem D5_46 : decode prog_23_method_3_code 46 = .ok (.astore_n 1, 1) := by decide +kernel
theorem D5_47 : decode prog_23_method_3_code 47 = .ok (.new 38, 3) := by decide +kernel
theorem D5_50 : decode prog_23_method_3_code 50 = .ok (.dup, 1) := by decide +kernel
theorem D5_51 : decode prog_23_method_3_code 51 = .ok (.invokespecial 40, 3) := by decide +kernel
theorem D5_54 : decode prog_23_method_3_code 54 = .ok (.ldc 89, 2) := by decide +kernel
theorem D5_56 : decode prog_23_method_3_code 56 = .ok (.invokevirtual 43, 3) := by decide +kernel
theorem D5_59 : decode prog_23_method_3_code 59 = .ok (.aload_n 1, 1) := by decide +kernel
theorem D5_60 : decode prog_23_method_3_code 60 = .ok (.invokevirtual 43, 3) := by decide +kernel
theorem D5_63 : decode prog_23_method_3_code 63 = .ok (.ldc 77, 2) := by decide +kernel
theorem D5_65 : decode prog_23_method_3_code 65 = .ok (.invokevirtual 43, 3) := by decide +kernel
theorem D5_68 : decode prog_23_method_3_code 68 = .ok (.aload_n 0, 1) := by decide +kernel
theorem D5_69 : decode prog_23_method_3_code 69 = .ok (.getfield 13, 3) := by decide +kernel
theorem D5_72 : decode prog_23_method_3_code 72 = .ok (.invokevirtual 71, 3) := by decide +kernel
theorem D5_75 : decode prog_23_method_3_code 75 = .ok (.ldc 91, 2) := by decide +kernel
theorem D5_77 : decode prog_23_method_3_code 77 = .ok (.invokevirtual 43, 3) := by decide +kernel
theorem D5_80 : decode prog_23_method_3_code 80 = .ok (.aload_n 0, 1) := by decide +kernel
theorem D5_81 : decode prog_23_method_3_code 81 = .ok (.getfield 17, 3) := by decide +kernel
theorem D5_84 : decode prog_23_method_3_code 84 = .ok (.invokevirtual 71, 3) := by decide +kernel
theorem D5_87 : decode prog_23_method_3_code 87 = .ok (.invokevirtual 51, 3) := by decide +kernel
theorem D5_90 : decode prog_23_method_3_code 90 = .ok (.areturn, 1) := by decide +kernel
theorem D6_0 : decode jdk_42_method_97_code 0 = .ok (.aload_n 0, 1) := by decide +kernel
theorem D6_1 : decode jdk_42_method_97_code 1 = .ok (.aload_n 1, 1) := by decide +kernel
theorem D6_2 : decode jdk_42_method_97_code 2 = .ok (.invokeinterface 710 1, 5) := by decide +kernel
theorem D6_7 : decode jdk_42_method_97_code 7 = .ok (.invokevirtual 711, 3) := by decide +kernel
theorem D6_10 : decode jdk_42_method_97_code 10 = .ok (.ifCond .lt 7, 3) := by decide +kernel
theorem D6_13 : decode jdk_42_method_97_code 13 = .ok (.iconst 1, 1) := by decide +kernel
theorem D6_14 : decode jdk_42_method_97_code 14 = .ok (.goto 4, 3) := by decide +kernel
theorem D6_17 : decode jdk_42_method_97_code 17 = .ok (.iconst 0, 1) := by decide +kernel
theorem D6_18 : decode jdk_42_method_97_code 18 = .ok (.ireturn, 1) := by decide +kernel
theorem D7_0 : decode jdk_42_method_126_code 0 = .ok (.aload_n 0, 1) := by decide +kernel
theorem D7_1 : decode jdk_42_method_126_code 1 = .ok (.areturn, 1) := by decide +kernel
theorem D8_0 : decode jdk_42_method_84_code 0 = .ok (.aload_n 0, 1) := by decide +kernel
theorem D8_1 : decode jdk_42_method_84_code 1 = .ok (.invokevirtual 335, 3) := by decide +kernel
theorem D8_4 : decode jdk_42_method_84_code 4 = .ok (.istore_n 2, 1) := by decide +kernel
theorem D8_5 : decode jdk_42_method_84_code 5 = .ok (.iload_n 2, 1) := by decide +kernel
theorem D8_6 : decode jdk_42_method_84_code 6 = .ok (.aload_n 1, 1) := by decide +kernel
theorem D8_7 : decode jdk_42_method_84_code 7 = .ok (.invokevirtual 335, 3) := by decide +kernel
theorem D8_10 : decode jdk_42_method_84_code 10 = .ok (.if_icmp .ne 36, 3) := by decide +kernel
theorem D8_13 : decode jdk_42_method_84_code 13 = .ok (.aload_n 0, 1) := by decide +kernel
theorem D8_14 : decode jdk_42_method_84_code 14 = .ok (.invokevirtual 492, 3) := by decide +kernel
theorem D8_17 : decode jdk_42_method_84_code 17 = .ok (.ifCond .eq 17, 3) := by decide +kernel
theorem D8_20 : decode jdk_42_method_84_code 20 = .ok (.aload_n 0, 1) := by decide +kernel
theorem D8_21 : decode jdk_42_method_84_code 21 = .ok (.getfield 9, 3) := by decide +kernel
theorem D8_24 : decode jdk_42_method_84_code 24 = .ok (.aload_n 1, 1) := by decide +kernel
theorem D8_25 : decode jdk_42_method_84_code 25 = .ok (.getfield 9, 3) := by decide +kernel
theorem D8_28 : decode jdk_42_method_84_code 28 = .ok (.invokestatic 647, 3) := by decide +kernel
theorem D8_31 : decode jdk_42_method_84_code 31 = .ok (.goto 14, 3) := by decide +kernel
theorem D8_45 : decode jdk_42_method_84_code 45 = .ok (.ireturn, 1) := by decide +kernel
theorem D9_0 : decode jdk_42_method_152_code 0 = .ok (.getstatic 38, 3) := by decide +kernel
theorem D9_3 : decode jdk_42_method_152_code 3 = .ok (.ifCond .eq 10, 3) := by decide +kernel
theorem D9_6 : decode jdk_42_method_152_code 6 = .ok (.aload_n 0, 1) := by decide +kernel
theorem D9_7 : decode jdk_42_method_152_code 7 = .ok (.getfield 15, 3) := by decide +kernel
theorem D9_10 : decode jdk_42_method_152_code 10 = .ok (.goto 4, 3) := by decide +kernel
theorem D9_14 : decode jdk_42_method_152_code 14 = .ok (.ireturn, 1) := by decide +kernel
theorem D10_0 : decode jdk_42_method_154_code 0 = .ok (.getstatic 38, 3) := by decide +kernel
theorem D10_3 : decode jdk_42_method_154_code 3 = .ok (.ifCond .eq 14, 3) := by decide +kernel
theorem D10_6 : decode jdk_42_method_154_code 6 = .ok (.aload_n 0, 1) := by decide +kernel
theorem D10_7 : decode jdk_42_method_154_code 7 = .ok (.getfield 15, 3) := by decide +kernel
theorem D10_10 : decode jdk_42_method_154_code 10 = .ok (.ifCond .ne 7, 3) := by decide +kernel
theorem D10_13 : decode jdk_42_method_154_code 13 = .ok (.iconst 1, 1) := by decide +kernel
theorem D10_14 : decode jdk_42_method_154_code 14 = .ok (.goto 4, 3) := by decide +kernel
theorem D10_18 : decode jdk_42_method_154_code 18 = .ok (.ireturn, 1) := by decide +kernel
theorem D11_0 : decode jdk_43_method_24_code 0 = .ok (.aload_n 1, 1) := by decide +kernel
theorem D11_1 : decode jdk_43_method_24_code 1 = .ok (.arraylength, 1) := by decide +kernel
theorem D11_2 : decode jdk_43_method_24_code 2 = .ok (.ifCond .ne 5, 3) := by decide +kernel
theorem D11_7 : decode jdk_43_method_24_code 7 = .ok (.aload_n 0, 1) := by decide +kernel
theorem D11_8 : decode jdk_43_method_24_code 8 = .ok (.arraylength, 1) := by decide +kernel
theorem D11_9 : decode jdk_43_method_24_code 9 = .ok (.ifCond .ne 5, 3) := by decide +kernel
theorem D11_12 : decode jdk_43_method_24_code 12 = .ok (.iconst (-1), 1) := by decide +kernel
theorem D11_13 : decode jdk_43_method_24_code 13 = .ok (.ireturn, 1) := by decide +kernel
theorem D11_14 : decode jdk_43_method_24_code 14 = .ok (.aload_n 0, 1) := by decide +kernel
theorem D11_15 : decode jdk_43_method_24_code 15 = .ok (.aload_n 0, 1) := by decide +kernel
theorem D11_16 : decode jdk_43_method_24_code 16 = .ok (.arraylength, 1) := by decide +kernel
theorem D11_17 : decode jdk_43_method_24_code 17 = .ok (.aload_n 1, 1) := by decide +kernel
theorem D11_18 : decode jdk_43_method_24_code 18 = .ok (.aload_n 1, 1) := by decide +kernel
theorem D11_19 : decode jdk_43_method_24_code 19 = .ok (.arraylength, 1) := by decide +kernel
theorem D11_20 : decode jdk_43_method_24_code 20 = .ok (.iconst 0, 1) := by decide +kernel
theorem D11_21 : decode jdk_43_method_24_code 21 = .ok (.invokestatic 99, 3) := by decide +kernel
theorem D11_24 : decode jdk_43_method_24_code 24 = .ok (.ireturn, 1) := by decide +kernel
theorem D12_0 : decode jdk_67_method_1_code 0 = .ok (.aload_n 0, 1) := by decide +kernel
theorem D12_1 : decode jdk_67_method_1_code 1 = .ok (.bipush 16, 2) := by decide +kernel
theorem D12_3 : decode jdk_67_method_1_code 3 = .ok (.invokespecial 1, 3) := by decide +kernel
theorem D12_6 : decode jdk_67_method_1_code 6 = .ok (.return_, 1) := by decide +kernel
theorem D13_0 : decode jdk_68_method_2_code 0 = .ok (.aload_n 0, 1) := by decide +kernel
theorem D13_1 : decode jdk_68_method_2_code 1 = .ok (.invokespecial 3, 3) := by decide +kernel
theorem D13_4 : decode jdk_68_method_2_code 4 = .ok (.getstatic 18, 3) := by decide +kernel
theorem D13_7 : decode jdk_68_method_2_code 7 = .ok (.ifCond .eq 18, 3) := by decide +kernel
theorem D13_10 : decode jdk_68_method_2_code 10 = .ok (.aload_n 0, 1) := by decide +kernel
theorem D13_11 : decode jdk_68_method_2_code 11 = .ok (.iload_n 1, 1) := by decide +kernel
theorem D13_12 : decode jdk_68_method_2_code 12 = .ok (.newarray .byte, 2) := by decide +kernel
theorem D13_14 : decode jdk_68_method_2_code 14 = .ok (.putfield 15, 3) := by decide +kernel
theorem D13_17 : decode jdk_68_method_2_code 17 = .ok (.aload_n 0, 1) := by decide +kernel
theorem D13_18 : decode jdk_68_method_2_code 18 = .ok (.iconst 0, 1) := by decide +kernel
theorem D13_19 : decode jdk_68_method_2_code 19 = .ok (.putfield 22, 3) := by decide +kernel
theorem D13_22 : decode jdk_68_method_2_code 22 = .ok (.goto 16, 3) := by decide +kernel
theorem D13_38 : decode jdk_68_method_2_code 38 = .ok (.return_, 1) := by decide +kernel
theorem D14_0 : decode jdk_67_method_7_code 0 = .ok (.aload_n 0, 1) := by decide +kernel
theorem D14_1 : decode jdk_67_method_7_code 1 = .ok (.aload_n 1, 1) := by decide +kernel
theorem D14_2 : decode jdk_67_method_7_code 2 = .ok (.invokespecial 29, 3) := by decide +kernel
theorem D14_5 : decode jdk_67_method_7_code 5 = .ok (.pop, 1) := by decide +kernel
theorem D14_6 : decode jdk_67_method_7_code 6 = .ok (.aload_n 0, 1) := by decide +kernel
theorem D14_7 : decode jdk_67_method_7_code 7 = .ok (.areturn, 1) := by decide +kernel
theorem D15_0 : decode jdk_68_method_22_code 0 = .ok (.aload_n 1, 1) := by decide +kernel
theorem D15_1 : decode jdk_68_method_22_code 1 = .ok (.ifnonnull 8, 3) := by decide +kernel
theorem D15_9 : decode jdk_68_method_22_code 9 = .ok (.aload_n 1, 1) := by decide +kernel
theorem D15_10 : decode jdk_68_method_22_code 10 = .ok (.invokevirtual 32, 3) := by decide +kernel
theorem D15_13 : decode jdk_68_method_22_code 13 = .ok (.istore_n 2, 1) := by decide +kernel
theorem D15_14 : decode jdk_68_method_22_code 14 = .ok (.aload_n 0, 1) := by decide +kernel
theorem D15_15 : decode jdk_68_method_22_code 15 = .ok (.aload_n 0, 1) := by decide +kernel
theorem D15_16 : decode jdk_68_method_22_code 16 = .ok (.getfield 79, 3) := by decide +kernel
theorem D15_19 : decode jdk_68_method_22_code 19 = .ok (.iload_n 2, 1) := by decide +kernel
theorem D15_20 : decode jdk_68_method_22_code 20 = .ok (.iadd, 1) := by decide +kernel
theorem D15_21 : decode jdk_68_method_22_code 21 = .ok (.invokevirtual 100, 3) := by decide +kernel
theorem D15_24 : decode jdk_68_method_22_code 24 = .ok (.aload_n 0, 1) := by decide +kernel
theorem D15_25 : decode jdk_68_method_22_code 25 = .ok (.aload_n 0, 1) := by decide +kernel
theorem D15_26 : decode jdk_68_method_22_code 26 = .ok (.getfield 79, 3) := by decide +kernel
theorem D15_29 : decode jdk_68_method_22_code 29 = .ok (.aload_n 1, 1) := by decide +kernel
theorem D15_30 : decode jdk_68_method_22_code 30 = .ok (.invokevirtual 208, 3) := by decide +kernel
theorem D15_33 : decode jdk_68_method_22_code 33 = .ok (.aload_n 0, 1) := by decide +kernel
theorem D15_34 : decode jdk_68_method_22_code 34 = .ok (.dup, 1) := by decide +kernel
theorem D15_35 : decode jdk_68_method_22_code 35 = .ok (.getfield 79, 3) := by decide +kernel
theorem D15_38 : decode jdk_68_method_22_code 38 = .ok (.iload_n 2, 1) := by decide +kernel
theorem D15_39 : decode jdk_68_method_22_code 39 = .ok (.iadd, 1) := by decide +kernel
theorem D15_40 : decode jdk_68_method_22_code 40 = .ok (.putfield 79, 3) := by decide +kernel
theorem D15_43 : decode jdk_68_method_22_code 43 = .ok (.aload_n 0, 1) := by decide +kernel
theorem D15_44 : decode jdk_68_method_22_code 44 = .ok (.areturn, 1) := by decide +kernel
theorem D16_0 : decode jdk_42_method_54_code 0 = .ok (.aload_n 0, 1) := by decide +kernel
theorem D16_1 : decode jdk_42_method_54_code 1 = .ok (.getfield 9, 3) := by decide +kernel
theorem D16_4 : decode jdk_42_method_54_code 4 = .ok (.arraylength, 1) := by decide +kernel
theorem D16_5 : decode jdk_42_method_54_code 5 = .ok (.aload_n 0, 1) := by decide +kernel
theorem D16_6 : decode jdk_42_method_54_code 6 = .ok (.invokevirtual 335, 3) := by decide +kernel
theorem D16_9 : decode jdk_42_method_54_code 9 = .ok (.ishr, 1) := by decide +kernel
theorem D16_10 : decode jdk_42_method_54_code 10 = .ok (.ireturn, 1) := by decide +kernel
theorem D17_0 : decode jdk_68_method_9_code 0 = .ok (.aload_n 0, 1) := by decide +kernel
theorem D17_1 : decode jdk_68_method_9_code 1 = .ok (.getfield 15, 3) := by decide +kernel
theorem D17_4 : decode jdk_68_method_9_code 4 = .ok (.arraylength, 1) := by decide +kernel
theorem D17_5 : decode jdk_68_method_9_code 5 = .ok (.aload_n 0, 1) := by decide +kernel
theorem D17_6 : decode jdk_68_method_9_code 6 = .ok (.getfield 22, 3) := by decide +kernel
theorem D17_9 : decode jdk_68_method_9_code 9 = .ok (.ishr, 1) := by decide +kernel
theorem D17_10 : decode jdk_68_method_9_code 10 = .ok (.istore_n 2, 1) := by decide +kernel
theorem D17_11 : decode jdk_68_method_9_code 11 = .ok (.iload_n 1, 1) := by decide +kernel
theorem D17_12 : decode jdk_68_method_9_code 12 = .ok (.iload_n 2, 1) := by decide +kernel
theorem D17_13 : decode jdk_68_method_9_code 13 = .ok (.isub, 1) := by decide +kernel
theorem D17_14 : decode jdk_68_method_9_code 14 = .ok (.ifCond .le 24, 3) := by decide +kernel
theorem D17_17 : decode jdk_68_method_9_code 17 = .ok (.aload_n 0, 1) := by decide +kernel
theorem D17_18 : decode jdk_68_method_9_code 18 = .ok (.aload_n 0, 1) := by decide +kernel
theorem D17_19 : decode jdk_68_method_9_code 19 = .ok (.getfield 15, 3) := by decide +kernel
theorem D17_22 : decode jdk_68_method_9_code 22 = .ok (.aload_n 0, 1) := by decide +kernel
theorem D17_23 : decode jdk_68_method_9_code 23 = .ok (.iload_n 1, 1) := by decide +kernel
theorem D17_24 : decode jdk_68_method_9_code 24 = .ok (.invokevirtual 104, 3) := by decide +kernel
theorem D17_27 : decode jdk_68_method_9_code 27 = .ok (.aload_n 0, 1) := by decide +kernel
theorem D17_28 : decode jdk_68_method_9_code 28 = .ok (.getfield 22, 3) := by decide +kernel
theorem D17_31 : decode jdk_68_method_9_code 31 = .ok (.ishl, 1) := by decide +kernel
theorem D17_32 : decode jdk_68_method_9_code 32 = .ok (.invokestatic 108, 3) := by decide +kernel
theorem D17_35 : decode jdk_68_method_9_code 35 = .ok (.putfield 15, 3) := by decide +kernel
theorem D17_38 : decode jdk_68_method_9_code 38 = .ok (.return_, 1) := by decide +kernel
theorem D18_0 : decode jdk_68_method_73_code 0 = .ok (.aload_n 0, 1) := by decide +kernel
theorem D18_1 : decode jdk_68_method_73_code 1 = .ok (.aload_n 2, 1) := by decide +kernel
theorem D18_2 : decode jdk_68_method_73_code 2 = .ok (.invokevirtual 397, 3) := by decide +kernel
theorem D18_5 : decode jdk_68_method_73_code 5 = .ok (.aload_n 2, 1) := by decide +kernel
theorem D18_6 : decode jdk_68_method_73_code 6 = .ok (.aload_n 0, 1) := by decide +kernel
theorem D18_7 : decode jdk_68_method_73_code 7 = .ok (.getfield 15, 3) := by decide +kernel
theorem D18_10 : decode jdk_68_method_73_code 10 = .ok (.iload_n 1, 1) := by decide +kernel
theorem D18_11 : decode jdk_68_method_73_code 11 = .ok (.aload_n 0, 1) := by decide +kernel
theorem D18_12 : decode jdk_68_method_73_code 12 = .ok (.getfield 22, 3) := by decide +kernel
theorem D18_15 : decode jdk_68_method_73_code 15 = .ok (.invokevirtual 399, 3) := by decide +kernel
theorem D18_18 : decode jdk_68_method_73_code 18 = .ok (.return_, 1) := by decide +kernel
theorem D19_0 : decode jdk_68_method_71_code 0 = .ok (.getstatic 18, 3) := by decide +kernel
theorem D19_3 : decode jdk_68_method_71_code 3 = .ok (.ifCond .eq 18, 3) := by decide +kernel
theorem D19_6 : decode jdk_68_method_71_code 6 = .ok (.aload_n 0, 1) := by decide +kernel
theorem D19_7 : decode jdk_68_method_71_code 7 = .ok (.getfield 22, 3) := by decide +kernel
theorem D19_10 : decode jdk_68_method_71_code 10 = .ok (.aload_n 1, 1) := by decide +kernel
theorem D19_11 : decode jdk_68_method_71_code 11 = .ok (.invokevirtual 40, 3) := by decide +kernel
theorem D19_14 : decode jdk_68_method_71_code 14 = .ok (.if_icmp .eq 7, 3) := by decide +kernel
theorem D19_21 : decode jdk_68_method_71_code 21 = .ok (.return_, 1) := by decide +kernel
theorem D20_0 : decode jdk_42_method_147_code 0 = .ok (.aload_n 0, 1) := by decide +kernel
theorem D20_1 : decode jdk_42_method_147_code 1 = .ok (.invokevirtual 335, 3) := by decide +kernel
theorem D20_4 : decode jdk_42_method_147_code 4 = .ok (.iload_n 3, 1) := by decide +kernel
theorem D20_5 : decode jdk_42_method_147_code 5 = .ok (.if_icmp .ne 23, 3) := by decide +kernel
theorem D20_8 : decode jdk_42_method_147_code 8 = .ok (.aload_n 0, 1) := by decide +kernel
theorem D20_9 : decode jdk_42_method_147_code 9 = .ok (.getfield 9, 3) := by decide +kernel
theorem D20_12 : decode jdk_42_method_147_code 12 = .ok (.iconst 0, 1) := by decide +kernel
theorem D20_13 : decode jdk_42_method_147_code 13 = .ok (.aload_n 1, 1) := by decide +kernel
theorem D20_14 : decode jdk_42_method_147_code 14 = .ok (.iload_n 2, 1) := by decide +kernel
theorem D20_15 : decode jdk_42_method_147_code 15 = .ok (.iload_n 3, 1) := by decide +kernel
theorem D20_16 : decode jdk_42_method_147_code 16 = .ok (.ishl, 1) := by decide +kernel
theorem D20_17 : decode jdk_42_method_147_code 17 = .ok (.aload_n 0, 1) := by decide +kernel
theorem D20_18 : decode jdk_42_method_147_code 18 = .ok (.getfield 9, 3) := by decide +kernel
theorem D20_21 : decode jdk_42_method_147_code 21 = .ok (.arraylength, 1) := by decide +kernel
theorem D20_22 : decode jdk_42_method_147_code 22 = .ok (.invokestatic 212, 3) := by decide +kernel
theorem D20_25 : decode jdk_42_method_147_code 25 = .ok (.goto 18, 3) := by decide +kernel
theorem D20_43 : decode jdk_42_method_147_code 43 = .ok (.return_, 1) := by decide +kernel
theorem D21_0 : decode jdk_67_method_15_code 0 = .ok (.aload_n 0, 1) := by decide +kernel
theorem D21_1 : decode jdk_67_method_15_code 1 = .ok (.iload_n 1, 1) := by decide +kernel
theorem D21_2 : decode jdk_67_method_15_code 2 = .ok (.invokespecial 53, 3) := by decide +kernel
theorem D21_5 : decode jdk_67_method_15_code 5 = .ok (.pop, 1) := by decide +kernel
theorem D21_6 : decode jdk_67_method_15_code 6 = .ok (.aload_n 0, 1) := by decide +kernel
theorem D21_7 : decode jdk_67_method_15_code 7 = .ok (.areturn, 1) := by decide +kernel
theorem D22_0 : decode jdk_68_method_32_code 0 = .ok (.aload_n 0, 1) := by decide +kernel
theorem D22_1 : decode jdk_68_method_32_code 1 = .ok (.getfield 79, 3) := by decide +kernel
theorem D22_4 : decode jdk_68_method_32_code 4 = .ok (.istore_n 2, 1) := by decide +kernel
theorem D22_5 : decode jdk_68_method_32_code 5 = .ok (.iload_n 2, 1) := by decide +kernel
theorem D22_6 : decode jdk_68_method_32_code 6 = .ok (.iload_n 1, 1) := by decide +kernel
theorem D22_7 : decode jdk_68_method_32_code 7 = .ok (.invokestatic 245, 3) := by decide +kernel
theorem D22_10 : decode jdk_68_method_32_code 10 = .ok (.iadd, 1) := by decide +kernel
theorem D22_11 : decode jdk_68_method_32_code 11 = .ok (.istore_n 3, 1) := by decide +kernel
theorem D22_12 : decode jdk_68_method_32_code 12 = .ok (.aload_n 0, 1) := by decide +kernel
theorem D22_13 : decode jdk_68_method_32_code 13 = .ok (.iload_n 3, 1) := by decide +kernel
theorem D22_14 : decode jdk_68_method_32_code 14 = .ok (.invokevirtual 100, 3) := by decide +kernel
theorem D22_17 : decode jdk_68_method_32_code 17 = .ok (.aload_n 0, 1) := by decide +kernel
theorem D22_18 : decode jdk_68_method_32_code 18 = .ok (.invokevirtual 83, 3) := by decide +kernel
theorem D22_21 : decode jdk_68_method_32_code 21 = .ok (.ifCond .eq 16, 3) := by decide +kernel
theorem D22_24 : decode jdk_68_method_32_code 24 = .ok (.iload_n 1, 1) := by decide +kernel
theorem D22_25 : decode jdk_68_method_32_code 25 = .ok (.iload_n 3, 1) := by decide +kernel
theorem D22_26 : decode jdk_68_method_32_code 26 = .ok (.aload_n 0, 1) := by decide +kernel
theorem D22_27 : decode jdk_68_method_32_code 27 = .ok (.getfield 15, 3) := by decide +kernel
theorem D22_30 : decode jdk_68_method_32_code 30 = .ok (.invokestatic 248, 3) := by decide +kernel
theorem D22_33 : decode jdk_68_method_32_code 33 = .ok (.pop, 1) := by decide +kernel
theorem D22_34 : decode jdk_68_method_32_code 34 = .ok (.goto 14, 3) := by decide +kernel
theorem D22_48 : decode jdk_68_method_32_code 48 = .ok (.aload_n 0, 1) := by decide +kernel
theorem D22_49 : decode jdk_68_method_32_code 49 = .ok (.iload_n 3, 1) := by decide +kernel
theorem D22_50 : decode jdk_68_method_32_code 50 = .ok (.putfield 79, 3) := by decide +kernel
theorem D22_53 : decode jdk_68_method_32_code 53 = .ok (.aload_n 0, 1) := by decide +kernel
theorem D22_54 : decode jdk_68_method_32_code 54 = .ok (.areturn, 1) := by decide +kernel
theorem D23_0 : decode jdk_33_method_13_code 0 = .ok (.iconst 1, 1) := by decide +kernel
theorem D23_1 : decode jdk_33_method_13_code 1 = .ok (.istore_n 1, 1) := by decide +kernel
theorem D23_2 : decode jdk_33_method_13_code 2 = .ok (.iload_n 0, 1) := by decide +kernel
theorem D23_3 : decode jdk_33_method_13_code 3 = .ok (.ifCond .lt 8, 3) := by decide +kernel
theorem D23_6 : decode jdk_33_method_13_code 6 = .ok (.iconst 0, 1) := by decide +kernel
theorem D23_7 : decode jdk_33_method_13_code 7 = .ok (.istore_n 1, 1) := by decide +kernel
theorem D23_8 : decode jdk_33_method_13_code 8 = .ok (.iload_n 0, 1) := by decide +kernel
theorem D23_9 : decode jdk_33_method_13_code 9 = .ok (.ineg, 1) := by decide +kernel
theorem D23_10 : decode jdk_33_method_13_code 10 = .ok (.istore_n 0, 1) := by decide +kernel
theorem D23_11 : decode jdk_33_method_13_code 11 = .ok (.bipush (-10), 2) := by decide +kernel
theorem D23_13 : decode jdk_33_method_13_code 13 = .ok (.istore_n 2, 1) := by decide +kernel
theorem D23_14 : decode jdk_33_method_13_code 14 = .ok (.iconst 1, 1) := by decide +kernel
theorem D23_15 : decode jdk_33_method_13_code 15 = .ok (.istore_n 3, 1) := by decide +kernel
theorem D23_16 : decode jdk_33_method_13_code 16 = .ok (.iload_n 3, 1) := by decide +kernel
theorem D23_17 : decode jdk_33_method_13_code 17 = .ok (.bipush 10, 2) := by decide +kernel
theorem D23_19 : decode jdk_33_method_13_code 19 = .ok (.if_icmp .ge 23, 3) := by decide +kernel
theorem D23_22 : decode jdk_33_method_13_code 22 = .ok (.iload_n 0, 1) := by decide +kernel
theorem D23_23 : decode jdk_33_method_13_code 23 = .ok (.iload_n 2, 1) := by decide +kernel
theorem D23_24 : decode jdk_33_method_13_code 24 = .ok (.if_icmp .le 7, 3) := by decide +kernel
theorem D23_27 : decode jdk_33_method_13_code 27 = .ok (.iload_n 3, 1) := by decide +kernel
theorem D23_28 : decode jdk_33_method_13_code 28 = .ok (.iload_n 1, 1) := by decide +kernel
theorem D23_29 : decode jdk_33_method_13_code 29 = .ok (.iadd, 1) := by decide +kernel
theorem D23_30 : decode jdk_33_method_13_code 30 = .ok (.ireturn, 1) := by decide +kernel
theorem D23_31 : decode jdk_33_method_13_code 31 = .ok (.bipush 10, 2) := by decide +kernel
theorem D23_33 : decode jdk_33_method_13_code 33 = .ok (.iload_n 2, 1) := by decide +kernel
theorem D23_34 : decode jdk_33_method_13_code 34 = .ok (.imul, 1) := by decide +kernel
theorem D23_35 : decode jdk_33_method_13_code 35 = .ok (.istore_n 2, 1) := by decide +kernel
theorem D23_36 : decode jdk_33_method_13_code 36 = .ok (.iinc 3 1, 3) := by decide +kernel
theorem D23_39 : decode jdk_33_method_13_code 39 = .ok (.goto (-23), 3) := by decide +kernel
theorem D23_42 : decode jdk_33_method_13_code 42 = .ok (.bipush 10, 2) := by decide +kernel
theorem D23_44 : decode jdk_33_method_13_code 44 = .ok (.iload_n 1, 1) := by decide +kernel
theorem D23_45 : decode jdk_33_method_13_code 45 = .ok (.iadd, 1) := by decide +kernel
theorem D23_46 : decode jdk_33_method_13_code 46 = .ok (.ireturn, 1) := by decide +kernel
theorem D24_0 : decode jdk_68_method_68_code 0 = .ok (.getstatic 18, 3) := by decide +kernel
theorem D24_3 : decode jdk_68_method_68_code 3 = .ok (.ifCond .eq 14, 3) := by decide +kernel
theorem D24_6 : decode jdk_68_method_68_code 6 = .ok (.aload_n 0, 1) := by decide +kernel
theorem D24_7 : decode jdk_68_method_68_code 7 = .ok (.getfield 22, 3) := by decide +kernel
theorem D24_10 : decode jdk_68_method_68_code 10 = .ok (.ifCond .ne 7, 3) := by decide +kernel
theorem D24_13 : decode jdk_68_method_68_code 13 = .ok (.iconst 1, 1) := by decide +kernel
theorem D24_14 : decode jdk_68_method_68_code 14 = .ok (.goto 4, 3) := by decide +kernel
theorem D24_18 : decode jdk_68_method_68_code 18 = .ok (.ireturn, 1) := by decide +kernel
theorem D25_0 : decode jdk_33_method_12_code 0 = .ok (.iload_n 1, 1) := by decide +kernel
theorem D25_1 : decode jdk_33_method_12_code 1 = .ok (.istore 5, 2) := by decide +kernel
theorem D25_3 : decode jdk_33_method_12_code 3 = .ok (.iload_n 0, 1) := by decide +kernel
theorem D25_4 : decode jdk_33_method_12_code 4 = .ok (.ifCond .ge 7, 3) := by decide +kernel
theorem D25_11 : decode jdk_33_method_12_code 11 = .ok (.iconst 0, 1) := by decide +kernel
theorem D25_12 : decode jdk_33_method_12_code 12 = .ok (.istore 6, 2) := by decide +kernel
theorem D25_14 : decode jdk_33_method_12_code 14 = .ok (.iload 6, 2) := by decide +kernel
theorem D25_16 : decode jdk_33_method_12_code 16 = .ok (.ifCond .ne 6, 3) := by decide +kernel
theorem D25_19 : decode jdk_33_method_12_code 19 = .ok (.iload_n 0, 1) := by decide +kernel
theorem D25_20 : decode jdk_33_method_12_code 20 = .ok (.ineg, 1) := by decide +kernel
theorem D25_21 : decode jdk_33_method_12_code 21 = .ok (.istore_n 0, 1) := by decide +kernel
theorem D25_22 : decode jdk_33_method_12_code 22 = .ok (.iload_n 0, 1) := by decide +kernel
theorem D25_23 : decode jdk_33_method_12_code 23 = .ok (.bipush (-100), 2) := by decide +kernel
theorem D25_25 : decode jdk_33_method_12_code 25 = .ok (.if_icmp .gt 47, 3) := by decide +kernel
theorem D25_28 : decode jdk_33_method_12_code 28 = .ok (.iload_n 0, 1) := by decide +kernel
theorem D25_29 : decode jdk_33_method_12_code 29 = .ok (.bipush 100, 2) := by decide +kernel
theorem D25_31 : decode jdk_33_method_12_code 31 = .ok (.idiv, 1) := by decide +kernel
theorem D25_32 : decode jdk_33_method_12_code 32 = .ok (.istore_n 3, 1) := by decide +kernel
theorem D25_33 : decode jdk_33_method_12_code 33 = .ok (.iload_n 3, 1) := by decide +kernel
theorem D25_34 : decode jdk_33_method_12_code 34 = .ok (.bipush 100, 2) := by decide +kernel
theorem D25_36 : decode jdk_33_method_12_code 36 = .ok (.imul, 1) := by decide +kernel
theorem D25_37 : decode jdk_33_method_12_code 37 = .ok (.iload_n 0, 1) := by decide +kernel
theorem D25_38 : decode jdk_33_method_12_code 38 = .ok (.isub, 1) := by decide +kernel
theorem D25_39 : decode jdk_33_method_12_code 39 = .ok (.istore 4, 2) := by decide +kernel
theorem D25_41 : decode jdk_33_method_12_code 41 = .ok (.iload_n 3, 1) := by decide +kernel
theorem D25_42 : decode jdk_33_method_12_code 42 = .ok (.istore_n 0, 1) := by decide +kernel
theorem D25_43 : decode jdk_33_method_12_code 43 = .ok (.aload_n 2, 1) := by decide +kernel
theorem D25_44 : decode jdk_33_method_12_code 44 = .ok (.iinc 5 (-1), 3) := by decide +kernel
theorem D25_47 : decode jdk_33_method_12_code 47 = .ok (.iload 5, 2) := by decide +kernel
theorem D25_49 : decode jdk_33_method_12_code 49 = .ok (.getstatic 83, 3) := by decide +kernel
theorem D25_52 : decode jdk_33_method_12_code 52 = .ok (.iload 4, 2) := by decide +kernel
theorem D25_54 : decode jdk_33_method_12_code 54 = .ok (.baload, 1) := by decide +kernel
theorem D25_55 : decode jdk_33_method_12_code 55 = .ok (.bastore, 1) := by decide +kernel
theorem D25_56 : decode jdk_33_method_12_code 56 = .ok (.aload_n 2, 1) := by decide +kernel
theorem D25_57 : decode jdk_33_method_12_code 57 = .ok (.iinc 5 (-1), 3) := by decide +kernel
theorem D25_60 : decode jdk_33_method_12_code 60 = .ok (.iload 5, 2) := by decide +kernel
theorem D25_62 : decode jdk_33_method_12_code 62 = .ok (.getstatic 87, 3) := by decide +kernel
theorem D25_65 : decode jdk_33_method_12_code 65 = .ok (.iload 4, 2) := by decide +kernel
theorem D25_67 : decode jdk_33_method_12_code 67 = .ok (.baload, 1) := by decide +kernel
theorem D25_68 : decode jdk_33_method_12_code 68 = .ok (.bastore, 1) := by decide +kernel
theorem D25_69 : decode jdk_33_method_12_code 69 = .ok (.goto (-47), 3) := by decide +kernel
theorem D25_72 : decode jdk_33_method_12_code 72 = .ok (.aload_n 2, 1) := by decide +kernel
theorem D25_73 : decode jdk_33_method_12_code 73 = .ok (.iinc 5 (-1), 3) := by decide +kernel
theorem D25_76 : decode jdk_33_method_12_code 76 = .ok (.iload 5, 2) := by decide +kernel
theorem D25_78 : decode jdk_33_method_12_code 78 = .ok (.getstatic 83, 3) := by decide +kernel
theorem D25_81 : decode jdk_33_method_12_code 81 = .ok (.iload_n 0, 1) := by decide +kernel
theorem D25_82 : decode jdk_33_method_12_code 82 = .ok (.ineg, 1) := by decide +kernel
theorem D25_83 : decode jdk_33_method_12_code 83 = .ok (.baload, 1) := by decide +kernel
theorem D25_84 : decode jdk_33_method_12_code 84 = .ok (.bastore, 1) := by decide +kernel
theorem D25_85 : decode jdk_33_method_12_code 85 = .ok (.iload_n 0, 1) := by decide +kernel
theorem D25_86 : decode jdk_33_method_12_code 86 = .ok (.bipush (-9), 2) := by decide +kernel
theorem D25_88 : decode jdk_33_method_12_code 88 = .ok (.if_icmp .ge 16, 3) := by decide +kernel
theorem D25_91 : decode jdk_33_method_12_code 91 = .ok (.aload_n 2, 1) := by decide +kernel
theorem D25_92 : decode jdk_33_method_12_code 92 = .ok (.iinc 5 (-1), 3) := by decide +kernel
theorem D25_95 : decode jdk_33_method_12_code 95 = .ok (.iload 5, 2) := by decide +kernel
theorem D25_97 : decode jdk_33_method_12_code 97 = .ok (.getstatic 87, 3) := by decide +kernel
theorem D25_100 : decode jdk_33_method_12_code 100 = .ok (.iload_n 0, 1) := by decide +kernel
theorem D25_101 : decode jdk_33_method_12_code 101 = .ok (.ineg, 1) := by decide +kernel
theorem D25_102 : decode jdk_33_method_12_code 102 = .ok (.baload, 1) := by decide +kernel
theorem D25_103 : decode jdk_33_method_12_code 103 = .ok (.bastore, 1) := by decide +kernel
theorem D25_104 : decode jdk_33_method_12_code 104 = .ok (.iload 6, 2) := by decide +kernel
theorem D25_106 : decode jdk_33_method_12_code 106 = .ok (.ifCond .eq 12, 3) := by decide +kernel
theorem D25_118 : decode jdk_33_method_12_code 118 = .ok (.iload 5, 2) := by decide +kernel
theorem D25_120 : decode jdk_33_method_12_code 120 = .ok (.ireturn, 1) := by decide +kernel
theorem D26_0 : decode jdk_67_method_42_code 0 = .ok (.new 18, 3) := by decide +kernel
theorem D26_3 : decode jdk_67_method_42_code 3 = .ok (.dup, 1) := by decide +kernel
theorem D26_4 : decode jdk_67_method_42_code 4 = .ok (.aload_n 0, 1) := by decide +kernel
theorem D26_5 : decode jdk_67_method_42_code 5 = .ok (.invokespecial 137, 3) := by decide +kernel
theorem D26_8 : decode jdk_67_method_42_code 8 = .ok (.areturn, 1) := by decide +kernel
theorem D27_0 : decode jdk_42_method_53_code 0 = .ok (.aload_n 0, 1) := by decide +kernel
theorem D27_1 : decode jdk_42_method_53_code 1 = .ok (.aload_n 1, 1) := by decide +kernel
theorem D27_2 : decode jdk_42_method_53_code 2 = .ok (.aconst_null, 1) := by decide +kernel
theorem D27_3 : decode jdk_42_method_53_code 3 = .ok (.invokespecial 489, 3) := by decide +kernel
theorem D27_6 : decode jdk_42_method_53_code 6 = .ok (.return_, 1) := by decide +kernel
theorem D28_0 : decode jdk_42_method_150_code 0 = .ok (.aload_n 0, 1) := by decide +kernel
theorem D28_1 : decode jdk_42_method_150_code 1 = .ok (.invokespecial 1, 3) := by decide +kernel
theorem D28_4 : decode jdk_42_method_150_code 4 = .ok (.aload_n 1, 1) := by decide +kernel
theorem D28_5 : decode jdk_42_method_150_code 5 = .ok (.invokevirtual 552, 3) := by decide +kernel
theorem D28_8 : decode jdk_42_method_150_code 8 = .ok (.astore_n 3, 1) := by decide +kernel
theorem D28_9 : decode jdk_42_method_150_code 9 = .ok (.aload_n 1, 1) := by decide +kernel
theorem D28_10 : decode jdk_42_method_150_code 10 = .ok (.invokevirtual 549, 3) := by decide +kernel
theorem D28_13 : decode jdk_42_method_150_code 13 = .ok (.istore 4, 2) := by decide +kernel
theorem D28_15 : decode jdk_42_method_150_code 15 = .ok (.aload_n 1, 1) := by decide +kernel
theorem D28_16 : decode jdk_42_method_150_code 16 = .ok (.invokevirtual 1047, 3) := by decide +kernel
theorem D28_19 : decode jdk_42_method_150_code 19 = .ok (.ifCond .eq 22, 3) := by decide +kernel
theorem D28_22 : decode jdk_42_method_150_code 22 = .ok (.aload_n 0, 1) := by decide +kernel
theorem D28_23 : decode jdk_42_method_150_code 23 = .ok (.iconst 0, 1) := by decide +kernel
theorem D28_24 : decode jdk_42_method_150_code 24 = .ok (.putfield 15, 3) := by decide +kernel
theorem D28_27 : decode jdk_42_method_150_code 27 = .ok (.aload_n 0, 1) := by decide +kernel
theorem D28_28 : decode jdk_42_method_150_code 28 = .ok (.aload_n 3, 1) := by decide +kernel
theorem D28_29 : decode jdk_42_method_150_code 29 = .ok (.iconst 0, 1) := by decide +kernel
theorem D28_30 : decode jdk_42_method_150_code 30 = .ok (.iload 4, 2) := by decide +kernel
theorem D28_32 : decode jdk_42_method_150_code 32 = .ok (.invokestatic 54, 3) := by decide +kernel
theorem D28_35 : decode jdk_42_method_150_code 35 = .ok (.putfield 9, 3) := by decide +kernel
theorem D28_38 : decode jdk_42_method_150_code 38 = .ok (.goto 59, 3) := by decide +kernel
theorem D28_97 : decode jdk_42_method_150_code 97 = .ok (.return_, 1) := by decide +kernel
theorem D29_0 : decode jdk_68_method_64_code 0 = .ok (.aload_n 0, 1) := by decide +kernel
theorem D29_1 : decode jdk_68_method_64_code 1 = .ok (.getfield 15, 3) := by decide +kernel
theorem D29_4 : decode jdk_68_method_64_code 4 = .ok (.areturn, 1) := by decide +kernel
theorem D30_0 : decode jdk_67_method_93_code 0 = .ok (.aload_n 0, 1) := by decide +kernel
theorem D30_1 : decode jdk_67_method_93_code 1 = .ok (.invokespecial 343, 3) := by decide +kernel
theorem D30_4 : decode jdk_67_method_93_code 4 = .ok (.ireturn, 1) := by decide +kernel
theorem D31_0 : decode jdk_68_method_6_code 0 = .ok (.aload_n 0, 1) := by decide +kernel
theorem D31_1 : decode jdk_68_method_6_code 1 = .ok (.getfield 79, 3) := by decide +kernel
theorem D31_4 : decode jdk_68_method_6_code 4 = .ok (.ireturn, 1) := by decide +kernel
theorem D32_0 : decode jdk_65_method_132_code 0 = .ok (.iload_n 1, 1) := by decide +kernel
theorem D32_1 : decode jdk_65_method_132_code 1 = .ok (.ifCond .ne 9, 3) := by decide +kernel
theorem D32_4 : decode jdk_65_method_132_code 4 = .ok (.iload_n 2, 1) := by decide +kernel
theorem D32_5 : decode jdk_65_method_132_code 5 = .ok (.aload_n 0, 1) := by decide +kernel
theorem D32_6 : decode jdk_65_method_132_code 6 = .ok (.arraylength, 1) := by decide +kernel
theorem D32_7 : decode jdk_65_method_132_code 7 = .ok (.if_icmp .eq 10, 3) := by decide +kernel
theorem D32_10 : decode jdk_65_method_132_code 10 = .ok (.aload_n 0, 1) := by decide +kernel
theorem D32_11 : decode jdk_65_method_132_code 11 = .ok (.iload_n 1, 1) := by decide +kernel
theorem D32_12 : decode jdk_65_method_132_code 12 = .ok (.iload_n 2, 1) := by decide +kernel
theorem D32_13 : decode jdk_65_method_132_code 13 = .ok (.invokestatic 339, 3) := by decide +kernel
theorem D32_16 : decode jdk_65_method_132_code 16 = .ok (.areturn, 1) := by decide +kernel
theorem D32_17 : decode jdk_65_method_132_code 17 = .ok (.aload_n 0, 1) := by decide +kernel
theorem D32_18 : decode jdk_65_method_132_code 18 = .ok (.invokevirtual 310, 3) := by decide +kernel
theorem D32_21 : decode jdk_65_method_132_code 21 = .ok (.checkcast 311, 3) := by decide +kernel
theorem D32_24 : decode jdk_65_method_132_code 24 = .ok (.areturn, 1) := by decide +kernel
theorem D33_0 : decode jdk_65_method_133_code 0 = .ok (.iload_n 1, 1) := by decide +kernel
theorem D33_1 : decode jdk_65_method_133_code 1 = .ok (.iload_n 2, 1) := by decide +kernel
theorem D33_2 : decode jdk_65_method_133_code 2 = .ok (.invokestatic 343, 3) := by decide +kernel
theorem D33_5 : decode jdk_65_method_133_code 5 = .ok (.iload_n 2, 1) := by decide +kernel
theorem D33_6 : decode jdk_65_method_133_code 6 = .ok (.iload_n 1, 1) := by decide +kernel
theorem D33_7 : decode jdk_65_method_133_code 7 = .ok (.isub, 1) := by decide +kernel
theorem D33_8 : decode jdk_65_method_133_code 8 = .ok (.istore_n 3, 1) := by decide +kernel
theorem D33_9 : decode jdk_65_method_133_code 9 = .ok (.iload_n 3, 1) := by decide +kernel
theorem D33_10 : decode jdk_65_method_133_code 10 = .ok (.newarray .byte, 2) := by decide +kernel
theorem D33_12 : decode jdk_65_method_133_code 12 = .ok (.astore 4, 2) := by decide +kernel
theorem D33_14 : decode jdk_65_method_133_code 14 = .ok (.aload_n 0, 1) := by decide +kernel
theorem D33_15 : decode jdk_65_method_133_code 15 = .ok (.iload_n 1, 1) := by decide +kernel
theorem D33_16 : decode jdk_65_method_133_code 16 = .ok (.aload 4, 2) := by decide +kernel
theorem D33_18 : decode jdk_65_method_133_code 18 = .ok (.iconst 0, 1) := by decide +kernel
theorem D33_19 : decode jdk_65_method_133_code 19 = .ok (.aload_n 0, 1) := by decide +kernel
theorem D33_20 : decode jdk_65_method_133_code 20 = .ok (.arraylength, 1) := by decide +kernel
theorem D33_21 : decode jdk_65_method_133_code 21 = .ok (.iload_n 1, 1) := by decide +kernel
theorem D33_22 : decode jdk_65_method_133_code 22 = .ok (.isub, 1) := by decide +kernel
theorem D33_23 : decode jdk_65_method_133_code 23 = .ok (.iload_n 3, 1) := by decide +kernel
theorem D33_24 : decode jdk_65_method_133_code 24 = .ok (.invokestatic 304, 3) := by decide +kernel
theorem D33_27 : decode jdk_65_method_133_code 27 = .ok (.invokestatic 150, 3) := by decide +kernel
theorem D33_30 : decode jdk_65_method_133_code 30 = .ok (.aload 4, 2) := by decide +kernel
theorem D33_32 : decode jdk_65_method_133_code 32 = .ok (.areturn, 1) := by decide +kernel
theorem D34_0 : decode jdk_65_method_131_code 0 = .ok (.iload_n 1, 1) := by decide +kernel
theorem D34_1 : decode jdk_65_method_131_code 1 = .ok (.iload_n 0, 1) := by decide +kernel
theorem D34_2 : decode jdk_65_method_131_code 2 = .ok (.if_icmp .ge 35, 3) := by decide +kernel
theorem D34_37 : decode jdk_65_method_131_code 37 = .ok (.return_, 1) := by decide +kernel
theorem D35_0 : decode jdk_29_method_69_code 0 = .ok (.iload_n 0, 1) := by decide +kernel
theorem D35_1 : decode jdk_29_method_69_code 1 = .ok (.iload_n 1, 1) := by decide +kernel
theorem D35_2 : decode jdk_29_method_69_code 2 = .ok (.if_icmp .gt 7, 3) := by decide +kernel
theorem D35_5 : decode jdk_29_method_69_code 5 = .ok (.iload_n 0, 1) := by decide +kernel
theorem D35_6 : decode jdk_29_method_69_code 6 = .ok (.goto 4, 3) := by decide +kernel
theorem D35_9 : decode jdk_29_method_69_code 9 = .ok (.iload_n 1, 1) := by decide +kernel
theorem D35_10 : decode jdk_29_method_69_code 10 = .ok (.ireturn, 1) := by decide +kernel
theorem D36_0 : decode method_4_code 0 = .ok (.iload_n 0, 1) := by decide +kernel
theorem D36_1 : decode method_4_code 1 = .ok (.bipush 10, 2) := by decide +kernel
theorem D36_3 : decode method_4_code 3 = .ok (.if_icmp .ge 5, 3) := by decide +kernel
theorem D36_6 : decode method_4_code 6 = .ok (.iconst 1, 1) := by decide +kernel
theorem D36_7 : decode method_4_code 7 = .ok (.ireturn, 1) := by decide +kernel
theorem D36_8 : decode method_4_code 8 = .ok (.iload_n 0, 1) := by decide +kernel
theorem D36_9 : decode method_4_code 9 = .ok (.bipush 100, 2) := by decide +kernel
theorem D36_11 : decode method_4_code 11 = .ok (.if_icmp .ge 5, 3) := by decide +kernel
theorem D36_14 : decode method_4_code 14 = .ok (.iconst 2, 1) := by decide +kernel
theorem D36_15 : decode method_4_code 15 = .ok (.ireturn, 1) := by decide +kernel
theorem D36_16 : decode method_4_code 16 = .ok (.iload_n 0, 1) := by decide +kernel
theorem D36_17 : decode method_4_code 17 = .ok (.sipush 1000, 3) := by decide +kernel
theorem D36_20 : decode method_4_code 20 = .ok (.if_icmp .ge 5, 3) := by decide +kernel
theorem D36_23 : decode method_4_code 23 = .ok (.iconst 3, 1) := by decide +kernel
theorem D36_24 : decode method_4_code 24 = .ok (.ireturn, 1) := by decide +kernel
theorem D36_25 : decode method_4_code 25 = .ok (.iload_n 0, 1) := by decide +kernel
theorem D36_26 : decode method_4_code 26 = .ok (.sipush 10000, 3) := by decide +kernel
theorem D36_29 : decode method_4_code 29 = .ok (.if_icmp .ge 5, 3) := by decide +kernel
theorem D36_32 : decode method_4_code 32 = .ok (.iconst 4, 1) := by decide +kernel
theorem D36_33 : decode method_4_code 33 = .ok (.ireturn, 1) := by decide +kernel
theorem D36_34 : decode method_4_code 34 = .ok (.iload_n 0, 1) := by decide +kernel
theorem D36_35 : decode method_4_code 35 = .ok (.ldc 7, 2) := by decide +kernel
theorem D36_37 : decode method_4_code 37 = .ok (.if_icmp .ge 5, 3) := by decide +kernel
theorem D36_40 : decode method_4_code 40 = .ok (.iconst 5, 1) := by decide +kernel
theorem D36_41 : decode method_4_code 41 = .ok (.ireturn, 1) := by decide +kernel
theorem D36_42 : decode method_4_code 42 = .ok (.iload_n 0, 1) := by decide +kernel
theorem D36_43 : decode method_4_code 43 = .ok (.ldc 8, 2) := by decide +kernel
theorem D36_45 : decode method_4_code 45 = .ok (.if_icmp .ge 6, 3) := by decide +kernel
theorem D36_48 : decode method_4_code 48 = .ok (.bipush 6, 2) := by decide +kernel
theorem D36_50 : decode method_4_code 50 = .ok (.ireturn, 1) := by decide +kernel
theorem D36_51 : decode method_4_code 51 = .ok (.iload_n 0, 1) := by decide +kernel
theorem D36_52 : decode method_4_code 52 = .ok (.ldc 9, 2) := by decide +kernel
theorem D36_54 : decode method_4_code 54 = .ok (.if_icmp .ge 6, 3) := by decide +kernel
theorem D36_57 : decode method_4_code 57 = .ok (.bipush 7, 2) := by decide +kernel
theorem D36_59 : decode method_4_code 59 = .ok (.ireturn, 1) := by decide +kernel
theorem D36_60 : decode method_4_code 60 = .ok (.iload_n 0, 1) := by decide +kernel
theorem D36_61 : decode method_4_code 61 = .ok (.ldc 10, 2) := by decide +kernel
theorem D36_63 : decode method_4_code 63 = .ok (.if_icmp .ge 6, 3) := by decide +kernel
theorem D36_66 : decode method_4_code 66 = .ok (.bipush 8, 2) := by decide +kernel
theorem D36_68 : decode method_4_code 68 = .ok (.ireturn, 1) := by decide +kernel
theorem D36_69 : decode method_4_code 69 = .ok (.iload_n 0, 1) := by decide +kernel
theorem D36_70 : decode method_4_code 70 = .ok (.ldc 11, 2) := by decide +kernel
theorem D36_72 : decode method_4_code 72 = .ok (.if_icmp .ge 6, 3) := by decide +kernel
theorem D36_75 : decode method_4_code 75 = .ok (.bipush 9, 2) := by decide +kernel
theorem D36_77 : decode method_4_code 77 = .ok (.ireturn, 1) := by decide +kernel
theorem D36_78 : decode method_4_code 78 = .ok (.bipush 10, 2) := by decide +kernel
theorem D36_80 : decode method_4_code 80 = .ok (.ireturn, 1) := by decide +kernel
theorem D37_0 : decode method_5_code 0 = .ok (.iload_n 1, 1) := by decide +kernel
theorem D37_1 : decode method_5_code 1 = .ok (.ifCond .lt 24, 3) := by decide +kernel
theorem D37_4 : decode method_5_code 4 = .ok (.iload_n 1, 1) := by decide +kernel
theorem D37_5 : decode method_5_code 5 = .ok (.aload_n 0, 1) := by decide +kernel
theorem D37_6 : decode method_5_code 6 = .ok (.invokevirtual 18, 3) := by decide +kernel
theorem D37_9 : decode method_5_code 9 = .ok (.if_icmp .ge 16, 3) := by decide +kernel
theorem D37_12 : decode method_5_code 12 = .ok (.aload_n 0, 1) := by decide +kernel
theorem D37_13 : decode method_5_code 13 = .ok (.iload_n 1, 1) := by decide +kernel
theorem D37_14 : decode method_5_code 14 = .ok (.invokevirtual 24, 3) := by decide +kernel
theorem D37_17 : decode method_5_code 17 = .ok (.iload_n 2, 1) := by decide +kernel
theorem D37_18 : decode method_5_code 18 = .ok (.if_icmp .ne 7, 3) := by decide +kernel
theorem D37_21 : decode method_5_code 21 = .ok (.iconst 1, 1) := by decide +kernel
theorem D37_22 : decode method_5_code 22 = .ok (.goto 4, 3) := by decide +kernel
theorem D37_26 : decode method_5_code 26 = .ok (.ireturn, 1) := by decide +kernel
theorem D42_0 : decode method_6_code 0 = .ok (.iload_n 2, 1) := by decide +kernel
theorem D42_1 : decode method_6_code 1 = .ok (.invokestatic 28, 3) := by decide +kernel
theorem D42_4 : decode method_6_code 4 = .ok (.istore_n 3, 1) := by decide +kernel
theorem D42_5 : decode method_6_code 5 = .ok (.iconst 1, 1) := by decide +kernel
theorem D42_6 : decode method_6_code 6 = .ok (.istore 4, 2) := by decide +kernel
theorem D42_8 : decode method_6_code 8 = .ok (.iload 4, 2) := by decide +kernel
theorem D42_10 : decode method_6_code 10 = .ok (.ifCond .eq 31, 3) := by decide +kernel
theorem D42_13 : decode method_6_code 13 = .ok (.iconst 0, 1) := by decide +kernel
theorem D42_14 : decode method_6_code 14 = .ok (.iload_n 3, 1) := by decide +kernel
theorem D42_15 : decode method_6_code 15 = .ok (.if_icmp .ge 22, 3) := by decide +kernel
theorem D42_18 : decode method_6_code 18 = .ok (.aload_n 0, 1) := by decide +kernel
theorem D42_19 : decode method_6_code 19 = .ok (.iload_n 1, 1) := by decide +kernel
theorem D42_20 : decode method_6_code 20 = .ok (.iload_n 3, 1) := by decide +kernel
theorem D42_21 : decode method_6_code 21 = .ok (.iadd, 1) := by decide +kernel
theorem D42_22 : decode method_6_code 22 = .ok (.iconst 1, 1) := by decide +kernel
theorem D42_23 : decode method_6_code 23 = .ok (.isub, 1) := by decide +kernel
theorem D42_24 : decode method_6_code 24 = .ok (.iconst 0, 1) := by decide +kernel
theorem D42_25 : decode method_6_code 25 = .ok (.isub, 1) := by decide +kernel
theorem D42_26 : decode method_6_code 26 = .ok (.iload_n 2, 1) := by decide +kernel
theorem D42_27 : decode method_6_code 27 = .ok (.iconst 0, 1) := by decide +kernel
theorem D42_28 : decode method_6_code 28 = .ok (.invokestatic 31, 3) := by decide +kernel
theorem D42_31 : decode method_6_code 31 = .ok (.invokestatic 35, 3) := by decide +kernel
theorem D42_34 : decode method_6_code 34 = .ok (.ifCond .eq 7, 3) := by decide +kernel
theorem D42_37 : decode method_6_code 37 = .ok (.iconst 1, 1) := by decide +kernel
theorem D42_38 : decode method_6_code 38 = .ok (.goto 4, 3) := by decide +kernel
theorem D42_42 : decode method_6_code 42 = .ok (.istore 4, 2) := by decide +kernel
theorem D42_44 : decode method_6_code 44 = .ok (.iload 4, 2) := by decide +kernel
theorem D42_46 : decode method_6_code 46 = .ok (.ifCond .eq 31, 3) := by decide +kernel
theorem D42_49 : decode method_6_code 49 = .ok (.iconst 1, 1) := by decide +kernel
theorem D42_50 : decode method_6_code 50 = .ok (.iload_n 3, 1) := by decide +kernel
theorem D42_51 : decode method_6_code 51 = .ok (.if_icmp .ge 22, 3) := by decide +kernel
theorem D42_54 : decode method_6_code 54 = .ok (.aload_n 0, 1) := by decide +kernel
theorem D42_55 : decode method_6_code 55 = .ok (.iload_n 1, 1) := by decide +kernel
theorem D42_56 : decode method_6_code 56 = .ok (.iload_n 3, 1) := by decide +kernel
theorem D42_57 : decode method_6_code 57 = .ok (.iadd, 1) := by decide +kernel
theorem D42_58 : decode method_6_code 58 = .ok (.iconst 1, 1) := by decide +kernel
theorem D42_59 : decode method_6_code 59 = .ok (.isub, 1) := by decide +kernel
theorem D42_60 : decode method_6_code 60 = .ok (.iconst 1, 1) := by decide +kernel
theorem D42_61 : decode method_6_code 61 = .ok (.isub, 1) := by decide +kernel
theorem D42_62 : decode method_6_code 62 = .ok (.iload_n 2, 1) := by decide +kernel
theorem D42_63 : decode method_6_code 63 = .ok (.iconst 1, 1) := by decide +kernel
theorem D42_64 : decode method_6_code 64 = .ok (.invokestatic 31, 3) := by decide +kernel
theorem D42_67 : decode method_6_code 67 = .ok (.invokestatic 35, 3) := by decide +kernel
theorem D42_70 : decode method_6_code 70 = .ok (.ifCond .eq 7, 3) := by decide +kernel
theorem D42_73 : decode method_6_code 73 = .ok (.iconst 1, 1) := by decide +kernel
theorem D42_74 : decode method_6_code 74 = .ok (.goto 4, 3) := by decide +kernel
theorem D42_78 : decode method_6_code 78 = .ok (.istore 4, 2) := by decide +kernel
theorem D42_80 : decode method_6_code 80 = .ok (.iload 4, 2) := by decide +kernel
theorem D42_82 : decode method_6_code 82 = .ok (.ifCond .eq 31, 3) := by decide +kernel
theorem D42_85 : decode method_6_code 85 = .ok (.iconst 2, 1) := by decide +kernel
theorem D42_86 : decode method_6_code 86 = .ok (.iload_n 3, 1) := by decide +kernel
theorem D42_87 : decode method_6_code 87 = .ok (.if_icmp .ge 22, 3) := by decide +kernel
theorem D42_90 : decode method_6_code 90 = .ok (.aload_n 0, 1) := by decide +kernel
theorem D42_91 : decode method_6_code 91 = .ok (.iload_n 1, 1) := by decide +kernel
theorem D42_92 : decode method_6_code 92 = .ok (.iload_n 3, 1) := by decide +kernel
theorem D42_93 : decode method_6_code 93 = .ok (.iadd, 1) := by decide +kernel
theorem D42_94 : decode method_6_code 94 = .ok (.iconst 1, 1) := by decide +kernel
theorem D42_95 : decode method_6_code 95 = .ok (.isub, 1) := by decide +kernel
theorem D42_96 : decode method_6_code 96 = .ok (.iconst 2, 1) := by decide +kernel
theorem D42_97 : decode method_6_code 97 = .ok (.isub, 1) := by decide +kernel
theorem D42_98 : decode method_6_code 98 = .ok (.iload_n 2, 1) := by decide +kernel
theorem D42_99 : decode method_6_code 99 = .ok (.iconst 2, 1) := by decide +kernel
theorem D42_100 : decode method_6_code 100 = .ok (.invokestatic 31, 3) := by decide +kernel
theorem D42_103 : decode method_6_code 103 = .ok (.invokestatic 35, 3) := by decide +kernel
theorem D42_106 : decode method_6_code 106 = .ok (.ifCond .eq 7, 3) := by decide +kernel
theorem D42_109 : decode method_6_code 109 = .ok (.iconst 1, 1) := by decide +kernel
theorem D42_110 : decode method_6_code 110 = .ok (.goto 4, 3) := by decide +kernel
theorem D42_114 : decode method_6_code 114 = .ok (.istore 4, 2) := by decide +kernel
theorem D42_116 : decode method_6_code 116 = .ok (.iload 4, 2) := by decide +kernel
theorem D42_118 : decode method_6_code 118 = .ok (.ifCond .eq 31, 3) := by decide +kernel
theorem D42_121 : decode method_6_code 121 = .ok (.iconst 3, 1) := by decide +kernel
theorem D42_122 : decode method_6_code 122 = .ok (.iload_n 3, 1) := by decide +kernel
theorem D42_123 : decode method_6_code 123 = .ok (.if_icmp .ge 22, 3) := by decide +kernel
theorem D42_126 : decode method_6_code 126 = .ok (.aload_n 0, 1) := by decide +kernel
theorem D42_127 : decode method_6_code 127 = .ok (.iload_n 1, 1) := by decide +kernel
theorem D42_128 : decode method_6_code 128 = .ok (.iload_n 3, 1) := by decide +kernel
theorem D42_129 : decode method_6_code 129 = .ok (.iadd, 1) := by decide +kernel
theorem D42_130 : decode method_6_code 130 = .ok (.iconst 1, 1) := by decide +kernel
theorem D42_131 : decode method_6_code 131 = .ok (.isub, 1) := by decide +kernel
theorem D42_132 : decode method_6_code 132 = .ok (.iconst 3, 1) := by decide +kernel
theorem D42_133 : decode method_6_code 133 = .ok (.isub, 1) := by decide +kernel
theorem D42_134 : decode method_6_code 134 = .ok (.iload_n 2, 1) := by decide +kernel
theorem D42_135 : decode method_6_code 135 = .ok (.iconst 3, 1) := by decide +kernel
theorem D42_136 : decode method_6_code 136 = .ok (.invokestatic 31, 3) := by decide +kernel
theorem D42_139 : decode method_6_code 139 = .ok (.invokestatic 35, 3) := by decide +kernel
theorem D42_142 : decode method_6_code 142 = .ok (.ifCond .eq 7, 3) := by decide +kernel
theorem D42_145 : decode method_6_code 145 = .ok (.iconst 1, 1) := by decide +kernel
theorem D42_146 : decode method_6_code 146 = .ok (.goto 4, 3) := by decide +kernel
theorem D42_150 : decode method_6_code 150 = .ok (.istore 4, 2) := by decide +kernel
theorem D42_152 : decode method_6_code 152 = .ok (.iload 4, 2) := by decide +kernel
theorem D42_154 : decode method_6_code 154 = .ok (.ifCond .eq 31, 3) := by decide +kernel
theorem D42_157 : decode method_6_code 157 = .ok (.iconst 4, 1) := by decide +kernel
theorem D42_158 : decode method_6_code 158 = .ok (.iload_n 3, 1) := by decide +kernel
theorem D42_159 : decode method_6_code 159 = .ok (.if_icmp .ge 22, 3) := by decide +kernel
theorem D42_162 : decode method_6_code 162 = .ok (.aload_n 0, 1) := by decide +kernel
theorem D42_163 : decode method_6_code 163 = .ok (.iload_n 1, 1) := by decide +kernel
theorem D42_164 : decode method_6_code 164 = .ok (.iload_n 3, 1) := by decide +kernel
theorem D42_165 : decode method_6_code 165 = .ok (.iadd, 1) := by decide +kernel
theorem D42_166 : decode method_6_code 166 = .ok (.iconst 1, 1) := by decide +kernel
theorem D42_167 : decode method_6_code 167 = .ok (.isub, 1) := by decide +kernel
theorem D42_168 : decode method_6_code 168 = .ok (.iconst 4, 1) := by decide +kernel
theorem D42_169 : decode method_6_code 169 = .ok (.isub, 1) := by decide +kernel
theorem D42_170 : decode method_6_code 170 = .ok (.iload_n 2, 1) := by decide +kernel
theorem D42_171 : decode method_6_code 171 = .ok (.iconst 4, 1) := by decide +kernel
theorem D42_172 : decode method_6_code 172 = .ok (.invokestatic 31, 3) := by decide +kernel
theorem D42_175 : decode method_6_code 175 = .ok (.invokestatic 35, 3) := by decide +kernel
theorem D42_178 : decode method_6_code 178 = .ok (.ifCond .eq 7, 3) := by decide +kernel
theorem D42_181 : decode method_6_code 181 = .ok (.iconst 1, 1) := by decide +kernel
theorem D42_182 : decode method_6_code 182 = .ok (.goto 4, 3) := by decide +kernel
theorem D42_186 : decode method_6_code 186 = .ok (.istore 4, 2) := by decide +kernel
theorem D42_188 : decode method_6_code 188 = .ok (.iload 4, 2) := by decide +kernel
theorem D42_190 : decode method_6_code 190 = .ok (.ifCond .eq 31, 3) := by decide +kernel
theorem D42_193 : decode method_6_code 193 = .ok (.iconst 5, 1) := by decide +kernel
theorem D42_194 : decode method_6_code 194 = .ok (.iload_n 3, 1) := by decide +kernel
theorem D42_195 : decode method_6_code 195 = .ok (.if_icmp .ge 22, 3) := by decide +kernel
theorem D42_198 : decode method_6_code 198 = .ok (.aload_n 0, 1) := by decide +kernel
theorem D42_199 : decode method_6_code 199 = .ok (.iload_n 1, 1) := by decide +kernel
theorem D42_200 : decode method_6_code 200 = .ok (.iload_n 3, 1) := by decide +kernel
theorem D42_201 : decode method_6_code 201 = .ok (.iadd, 1) := by decide +kernel
theorem D42_202 : decode method_6_code 202 = .ok (.iconst 1, 1) := by decide +kernel
theorem D42_203 : decode method_6_code 203 = .ok (.isub, 1) := by decide +kernel
theorem D42_204 : decode method_6_code 204 = .ok (.iconst 5, 1) := by decide +kernel
theorem D42_205 : decode method_6_code 205 = .ok (.isub, 1) := by decide +kernel
theorem D42_206 : decode method_6_code 206 = .ok (.iload_n 2, 1) := by decide +kernel
theorem D42_207 : decode method_6_code 207 = .ok (.iconst 5, 1) := by decide +kernel
theorem D42_208 : decode method_6_code 208 = .ok (.invokestatic 31, 3) := by decide +kernel
theorem D42_211 : decode method_6_code 211 = .ok (.invokestatic 35, 3) := by decide +kernel
theorem D42_214 : decode method_6_code 214 = .ok (.ifCond .eq 7, 3) := by decide +kernel
theorem D42_217 : decode method_6_code 217 = .ok (.iconst 1, 1) := by decide +kernel
theorem D42_218 : decode method_6_code 218 = .ok (.goto 4, 3) := by decide +kernel
theorem D42_222 : decode method_6_code 222 = .ok (.istore 4, 2) := by decide +kernel
theorem D42_224 : decode method_6_code 224 = .ok (.iload 4, 2) := by decide +kernel
theorem D42_226 : decode method_6_code 226 = .ok (.ifCond .eq 34, 3) := by decide +kernel
theorem D42_229 : decode method_6_code 229 = .ok (.bipush 6, 2) := by decide +kernel
theorem D42_231 : decode method_6_code 231 = .ok (.iload_n 3, 1) := by decide +kernel
theorem D42_232 : decode method_6_code 232 = .ok (.if_icmp .ge 24, 3) := by decide +kernel
theorem D42_235 : decode method_6_code 235 = .ok (.aload_n 0, 1) := by decide +kernel
theorem D42_236 : decode method_6_code 236 = .ok (.iload_n 1, 1) := by decide +kernel
theorem D42_237 : decode method_6_code 237 = .ok (.iload_n 3, 1) := by decide +kernel
theorem D42_238 : decode method_6_code 238 = .ok (.iadd, 1) := by decide +kernel
theorem D42_239 : decode method_6_code 239 = .ok (.iconst 1, 1) := by decide +kernel
theorem D42_240 : decode method_6_code 240 = .ok (.isub, 1) := by decide +kernel
theorem D42_241 : decode method_6_code 241 = .ok (.bipush 6, 2) := by decide +kernel
theorem D42_243 : decode method_6_code 243 = .ok (.isub, 1) := by decide +kernel
theorem D42_244 : decode method_6_code 244 = .ok (.iload_n 2, 1) := by decide +kernel
theorem D42_245 : decode method_6_code 245 = .ok (.bipush 6, 2) := by decide +kernel
theorem D42_247 : decode method_6_code 247 = .ok (.invokestatic 31, 3) := by decide +kernel
theorem D42_250 : decode method_6_code 250 = .ok (.invokestatic 35, 3) := by decide +kernel
theorem D42_253 : decode method_6_code 253 = .ok (.ifCond .eq 7, 3) := by decide +kernel
theorem D42_256 : decode method_6_code 256 = .ok (.iconst 1, 1) := by decide +kernel
theorem D42_257 : decode method_6_code 257 = .ok (.goto 4, 3) := by decide +kernel
theorem D42_261 : decode method_6_code 261 = .ok (.istore 4, 2) := by decide +kernel
theorem D42_263 : decode method_6_code 263 = .ok (.iload 4, 2) := by decide +kernel
theorem D42_265 : decode method_6_code 265 = .ok (.ifCond .eq 34, 3) := by decide +kernel
theorem D42_268 : decode method_6_code 268 = .ok (.bipush 7, 2) := by decide +kernel
theorem D42_270 : decode method_6_code 270 = .ok (.iload_n 3, 1) := by decide +kernel
theorem D42_271 : decode method_6_code 271 = .ok (.if_icmp .ge 24, 3) := by decide +kernel
theorem D42_274 : decode method_6_code 274 = .ok (.aload_n 0, 1) := by decide +kernel
theorem D42_275 : decode method_6_code 275 = .ok (.iload_n 1, 1) := by decide +kernel
theorem D42_276 : decode method_6_code 276 = .ok (.iload_n 3, 1) := by decide +kernel
theorem D42_277 : decode method_6_code 277 = .ok (.iadd, 1) := by decide +kernel
theorem D42_278 : decode method_6_code 278 = .ok (.iconst 1, 1) := by decide +kernel
theorem D42_279 : decode method_6_code 279 = .ok (.isub, 1) := by decide +kernel
theorem D42_280 : decode method_6_code 280 = .ok (.bipush 7, 2) := by decide +kernel
theorem D42_282 : decode method_6_code 282 = .ok (.isub, 1) := by decide +kernel
theorem D42_283 : decode method_6_code 283 = .ok (.iload_n 2, 1) := by decide +kernel
theorem D42_284 : decode method_6_code 284 = .ok (.bipush 7, 2) := by decide +kernel
theorem D42_286 : decode method_6_code 286 = .ok (.invokestatic 31, 3) := by decide +kernel
theorem D42_289 : decode method_6_code 289 = .ok (.invokestatic 35, 3) := by decide +kernel
theorem D42_292 : decode method_6_code 292 = .ok (.ifCond .eq 7, 3) := by decide +kernel
theorem D42_295 : decode method_6_code 295 = .ok (.iconst 1, 1) := by decide +kernel
theorem D42_296 : decode method_6_code 296 = .ok (.goto 4, 3) := by decide +kernel
theorem D42_300 : decode method_6_code 300 = .ok (.istore 4, 2) := by decide +kernel
theorem D42_302 : decode method_6_code 302 = .ok (.iload 4, 2) := by decide +kernel
theorem D42_304 : decode method_6_code 304 = .ok (.ifCond .eq 34, 3) := by decide +kernel
theorem D42_307 : decode method_6_code 307 = .ok (.bipush 8, 2) := by decide +kernel
theorem D42_309 : decode method_6_code 309 = .ok (.iload_n 3, 1) := by decide +kernel
theorem D42_310 : decode method_6_code 310 = .ok (.if_icmp .ge 24, 3) := by decide +kernel
theorem D42_313 : decode method_6_code 313 = .ok (.aload_n 0, 1) := by decide +kernel
theorem D42_314 : decode method_6_code 314 = .ok (.iload_n 1, 1) := by decide +kernel
theorem D42_315 : decode method_6_code 315 = .ok (.iload_n 3, 1) := by decide +kernel
theorem D42_316 : decode method_6_code 316 = .ok (.iadd, 1) := by decide +kernel
theorem D42_317 : decode method_6_code 317 = .ok (.iconst 1, 1) := by decide +kernel
theorem D42_318 : decode method_6_code 318 = .ok (.isub, 1) := by decide +kernel
theorem D42_319 : decode method_6_code 319 = .ok (.bipush 8, 2) := by decide +kernel
theorem D42_321 : decode method_6_code 321 = .ok (.isub, 1) := by decide +kernel
theorem D42_322 : decode method_6_code 322 = .ok (.iload_n 2, 1) := by decide +kernel
theorem D42_323 : decode method_6_code 323 = .ok (.bipush 8, 2) := by decide +kernel
theorem D42_325 : decode method_6_code 325 = .ok (.invokestatic 31, 3) := by decide +kernel
theorem D42_328 : decode method_6_code 328 = .ok (.invokestatic 35, 3) := by decide +kernel
theorem D42_331 : decode method_6_code 331 = .ok (.ifCond .eq 7, 3) := by decide +kernel
theorem D42_334 : decode method_6_code 334 = .ok (.iconst 1, 1) := by decide +kernel
theorem D42_335 : decode method_6_code 335 = .ok (.goto 4, 3) := by decide +kernel
theorem D42_339 : decode method_6_code 339 = .ok (.istore 4, 2) := by decide +kernel
theorem D42_341 : decode method_6_code 341 = .ok (.iload 4, 2) := by decide +kernel
theorem D42_343 : decode method_6_code 343 = .ok (.ifCond .eq 34, 3) := by decide +kernel
theorem D42_346 : decode method_6_code 346 = .ok (.bipush 9, 2) := by decide +kernel
theorem D42_348 : decode method_6_code 348 = .ok (.iload_n 3, 1) := by decide +kernel
theorem D42_349 : decode method_6_code 349 = .ok (.if_icmp .ge 24, 3) := by decide +kernel
theorem D42_352 : decode method_6_code 352 = .ok (.aload_n 0, 1) := by decide +kernel
theorem D42_353 : decode method_6_code 353 = .ok (.iload_n 1, 1) := by decide +kernel
theorem D42_354 : decode method_6_code 354 = .ok (.iload_n 3, 1) := by decide +kernel
theorem D42_355 : decode method_6_code 355 = .ok (.iadd, 1) := by decide +kernel
theorem D42_356 : decode method_6_code 356 = .ok (.iconst 1, 1) := by decide +kernel
theorem D42_357 : decode method_6_code 357 = .ok (.isub, 1) := by decide +kernel
theorem D42_358 : decode method_6_code 358 = .ok (.bipush 9, 2) := by decide +kernel
theorem D42_360 : decode method_6_code 360 = .ok (.isub, 1) := by decide +kernel
theorem D42_361 : decode method_6_code 361 = .ok (.iload_n 2, 1) := by decide +kernel
theorem D42_362 : decode method_6_code 362 = .ok (.bipush 9, 2) := by decide +kernel
theorem D42_364 : decode method_6_code 364 = .ok (.invokestatic 31, 3) := by decide +kernel
theorem D42_367 : decode method_6_code 367 = .ok (.invokestatic 35, 3) := by decide +kernel
theorem D42_370 : decode method_6_code 370 = .ok (.ifCond .eq 7, 3) := by decide +kernel
theorem D42_373 : decode method_6_code 373 = .ok (.iconst 1, 1) := by decide +kernel
theorem D42_374 : decode method_6_code 374 = .ok (.goto 4, 3) := by decide +kernel
theorem D42_378 : decode method_6_code 378 = .ok (.istore 4, 2) := by decide +kernel
theorem D42_380 : decode method_6_code 380 = .ok (.iload 4, 2) := by decide +kernel
theorem D42_382 : decode method_6_code 382 = .ok (.ireturn, 1) := by decide +kernel
theorem D43_0 : decode method_3_code 0 = .ok (.bipush 48, 2) := by decide +kernel
theorem D43_2 : decode method_3_code 2 = .ok (.iload_n 0, 1) := by decide +kernel
theorem D43_3 : decode method_3_code 3 = .ok (.iload_n 1, 1) := by decide +kernel
theorem D43_4 : decode method_3_code 4 = .ok (.invokestatic 12, 3) := by decide +kernel
theorem D43_7 : decode method_3_code 7 = .ok (.idiv, 1) := by decide +kernel
theorem D43_8 : decode method_3_code 8 = .ok (.bipush 10, 2) := by decide +kernel
theorem D43_10 : decode method_3_code 10 = .ok (.irem, 1) := by decide +kernel
theorem D43_11 : decode method_3_code 11 = .ok (.iadd, 1) := by decide +kernel
theorem D43_12 : decode method_3_code 12 = .ok (.i2c, 1) := by decide +kernel
theorem D43_13 : decode method_3_code 13 = .ok (.ireturn, 1) := by decide +kernel
theorem D44_0 : decode method_2_code 0 = .ok (.iload_n 0, 1) := by decide +kernel
theorem D44_1 : decode method_2_code 1 = .ok (.ifCond .ne 5, 3) := by decide +kernel
theorem D44_4 : decode method_2_code 4 = .ok (.iconst 1, 1) := by decide +kernel
theorem D44_5 : decode method_2_code 5 = .ok (.ireturn, 1) := by decide +kernel
theorem D44_6 : decode method_2_code 6 = .ok (.iload_n 0, 1) := by decide +kernel
theorem D44_7 : decode method_2_code 7 = .ok (.iconst 1, 1) := by decide +kernel
theorem D44_8 : decode method_2_code 8 = .ok (.if_icmp .ne 6, 3) := by decide +kernel
theorem D44_11 : decode method_2_code 11 = .ok (.bipush 10, 2) := by decide +kernel
theorem D44_13 : decode method_2_code 13 = .ok (.ireturn, 1) := by decide +kernel
theorem D44_14 : decode method_2_code 14 = .ok (.iload_n 0, 1) := by decide +kernel
theorem D44_15 : decode method_2_code 15 = .ok (.iconst 2, 1) := by decide +kernel
theorem D44_16 : decode method_2_code 16 = .ok (.if_icmp .ne 6, 3) := by decide +kernel
theorem D44_19 : decode method_2_code 19 = .ok (.bipush 100, 2) := by decide +kernel
theorem D44_21 : decode method_2_code 21 = .ok (.ireturn, 1) := by decide +kernel
theorem D44_22 : decode method_2_code 22 = .ok (.iload_n 0, 1) := by decide +kernel
theorem D44_23 : decode method_2_code 23 = .ok (.iconst 3, 1) := by decide +kernel
theorem D44_24 : decode method_2_code 24 = .ok (.if_icmp .ne 7, 3) := by decide +kernel
theorem D44_27 : decode method_2_code 27 = .ok (.sipush 1000, 3) := by decide +kernel
theorem D44_30 : decode method_2_code 30 = .ok (.ireturn, 1) := by decide +kernel
theorem D44_31 : decode method_2_code 31 = .ok (.iload_n 0, 1) := by decide +kernel
theorem D44_32 : decode method_2_code 32 = .ok (.iconst 4, 1) := by decide +kernel
theorem D44_33 : decode method_2_code 33 = .ok (.if_icmp .ne 7, 3) := by decide +kernel
theorem D44_36 : decode method_2_code 36 = .ok (.sipush 10000, 3) := by decide +kernel
theorem D44_39 : decode method_2_code 39 = .ok (.ireturn, 1) := by decide +kernel
theorem D44_40 : decode method_2_code 40 = .ok (.iload_n 0, 1) := by decide +kernel
theorem D44_41 : decode method_2_code 41 = .ok (.iconst 5, 1) := by decide +kernel
theorem D44_42 : decode method_2_code 42 = .ok (.if_icmp .ne 6, 3) := by decide +kernel
theorem D44_45 : decode method_2_code 45 = .ok (.ldc 7, 2) := by decide +kernel
theorem D44_47 : decode method_2_code 47 = .ok (.ireturn, 1) := by decide +kernel
theorem D44_48 : decode method_2_code 48 = .ok (.iload_n 0, 1) := by decide +kernel
theorem D44_49 : decode method_2_code 49 = .ok (.bipush 6, 2) := by decide +kernel
theorem D44_51 : decode method_2_code 51 = .ok (.if_icmp .ne 6, 3) := by decide +kernel
theorem D44_54 : decode method_2_code 54 = .ok (.ldc 8, 2) := by decide +kernel
theorem D44_56 : decode method_2_code 56 = .ok (.ireturn, 1) := by decide +kernel
theorem D44_57 : decode method_2_code 57 = .ok (.iload_n 0, 1) := by decide +kernel
theorem D44_58 : decode method_2_code 58 = .ok (.bipush 7, 2) := by decide +kernel
theorem D44_60 : decode method_2_code 60 = .ok (.if_icmp .ne 6, 3) := by decide +kernel
theorem D44_63 : decode method_2_code 63 = .ok (.ldc 9, 2) := by decide +kernel
theorem D44_65 : decode method_2_code 65 = .ok (.ireturn, 1) := by decide +kernel
theorem D44_66 : decode method_2_code 66 = .ok (.iload_n 0, 1) := by decide +kernel
theorem D44_67 : decode method_2_code 67 = .ok (.bipush 8, 2) := by decide +kernel
theorem D44_69 : decode method_2_code 69 = .ok (.if_icmp .ne 6, 3) := by decide +kernel
theorem D44_72 : decode method_2_code 72 = .ok (.ldc 10, 2) := by decide +kernel
theorem D44_74 : decode method_2_code 74 = .ok (.ireturn, 1) := by decide +kernel
theorem D44_75 : decode method_2_code 75 = .ok (.ldc 11, 2) := by decide +kernel
theorem D44_77 : decode method_2_code 77 = .ok (.ireturn, 1) := by decide +kernel
theorem D45_0 : decode jdk_42_method_139_code 0 = .ok (.getstatic 38, 3) := by decide +kernel
theorem D45_3 : decode jdk_42_method_139_code 3 = .ok (.ifCond .eq 23, 3) := by decide +kernel
theorem D45_6 : decode jdk_42_method_139_code 6 = .ok (.iload_n 0, 1) := by decide +kernel
theorem D45_7 : decode jdk_42_method_139_code 7 = .ok (.invokestatic 1015, 3) := by decide +kernel
theorem D45_10 : decode jdk_42_method_139_code 10 = .ok (.ifCond .eq 16, 3) := by decide +kernel
theorem D45_13 : decode jdk_42_method_139_code 13 = .ok (.new 10, 3) := by decide +kernel
theorem D45_16 : decode jdk_42_method_139_code 16 = .ok (.dup, 1) := by decide +kernel
theorem D45_17 : decode jdk_42_method_139_code 17 = .ok (.iload_n 0, 1) := by decide +kernel
theorem D45_18 : decode jdk_42_method_139_code 18 = .ok (.invokestatic 1018, 3) := by decide +kernel
theorem D45_21 : decode jdk_42_method_139_code 21 = .ok (.iconst 0, 1) := by decide +kernel
theorem D45_22 : decode jdk_42_method_139_code 22 = .ok (.invokespecial 209, 3) := by decide +kernel
theorem D45_25 : decode jdk_42_method_139_code 25 = .ok (.areturn, 1) := by decide +kernel
theorem D46_0 : decode jdk_43_method_3_code 0 = .ok (.iload_n 0, 1) := by decide +kernel
theorem D46_1 : decode jdk_43_method_3_code 1 = .ok (.sipush 255, 3) := by decide +kernel
theorem D46_4 : decode jdk_43_method_3_code 4 = .ok (.if_icmp .gt 7, 3) := by decide +kernel
theorem D46_7 : decode jdk_43_method_3_code 7 = .ok (.iconst 1, 1) := by decide +kernel
theorem D46_8 : decode jdk_43_method_3_code 8 = .ok (.goto 4, 3) := by decide +kernel
theorem D46_12 : decode jdk_43_method_3_code 12 = .ok (.ireturn, 1) := by decide +kernel
theorem D47_0 : decode jdk_43_method_46_code 0 = .ok (.iconst 1, 1) := by decide +kernel
theorem D47_1 : decode jdk_43_method_46_code 1 = .ok (.newarray .byte, 2) := by decide +kernel
theorem D47_3 : decode jdk_43_method_46_code 3 = .ok (.dup, 1) := by decide +kernel
theorem D47_4 : decode jdk_43_method_46_code 4 = .ok (.iconst 0, 1) := by decide +kernel
theorem D47_5 : decode jdk_43_method_46_code 5 = .ok (.iload_n 0, 1) := by decide +kernel
theorem D47_6 : decode jdk_43_method_46_code 6 = .ok (.i2b, 1) := by decide +kernel
theorem D47_7 : decode jdk_43_method_46_code 7 = .ok (.bastore, 1) := by decide +kernel
theorem D47_8 : decode jdk_43_method_46_code 8 = .ok (.areturn, 1) := by decide +kernel
theorem D48_0 : decode jdk_42_method_151_code 0 = .ok (.aload_n 0, 1) := by decide +kernel
theorem D48_1 : decode jdk_42_method_151_code 1 = .ok (.invokespecial 1, 3) := by decide +kernel
theorem D48_4 : decode jdk_42_method_151_code 4 = .ok (.aload_n 0, 1) := by decide +kernel
theorem D48_5 : decode jdk_42_method_151_code 5 = .ok (.aload_n 1, 1) := by decide +kernel
theorem D48_6 : decode jdk_42_method_151_code 6 = .ok (.putfield 9, 3) := by decide +kernel
theorem D48_9 : decode jdk_42_method_151_code 9 = .ok (.aload_n 0, 1) := by decide +kernel
theorem D48_10 : decode jdk_42_method_151_code 10 = .ok (.iload_n 2, 1) := by decide +kernel
theorem D48_11 : decode jdk_42_method_151_code 11 = .ok (.putfield 15, 3) := by decide +kernel
theorem D48_14 : decode jdk_42_method_151_code 14 = .ok (.return_, 1) := by decide +kernel
theorem D49_0 : decode jdk_43_method_25_code 0 = .ok (.aload_n 2, 1) := by decide +kernel
theorem D49_1 : decode jdk_43_method_25_code 1 = .ok (.iconst 0, 1) := by decide +kernel
theorem D49_2 : decode jdk_43_method_25_code 2 = .ok (.baload, 1) := by decide +kernel
theorem D49_3 : decode jdk_43_method_25_code 3 = .ok (.istore 5, 2) := by decide +kernel
theorem D49_5 : decode jdk_43_method_25_code 5 = .ok (.iload_n 1, 1) := by decide +kernel
theorem D49_6 : decode jdk_43_method_25_code 6 = .ok (.iload_n 3, 1) := by decide +kernel
theorem D49_7 : decode jdk_43_method_25_code 7 = .ok (.isub, 1) := by decide +kernel
theorem D49_8 : decode jdk_43_method_25_code 8 = .ok (.istore 6, 2) := by decide +kernel
theorem D49_10 : decode jdk_43_method_25_code 10 = .ok (.iload 4, 2) := by decide +kernel
theorem D49_12 : decode jdk_43_method_25_code 12 = .ok (.istore 7, 2) := by decide +kernel
theorem D49_14 : decode jdk_43_method_25_code 14 = .ok (.iload 7, 2) := by decide +kernel
theorem D49_16 : decode jdk_43_method_25_code 16 = .ok (.iload 6, 2) := by decide +kernel
theorem D49_18 : decode jdk_43_method_25_code 18 = .ok (.if_icmp .gt 101, 3) := by decide +kernel
theorem D49_21 : decode jdk_43_method_25_code 21 = .ok (.aload_n 0, 1) := by decide +kernel
theorem D49_22 : decode jdk_43_method_25_code 22 = .ok (.iload 7, 2) := by decide +kernel
theorem D49_24 : decode jdk_43_method_25_code 24 = .ok (.baload, 1) := by decide +kernel
theorem D49_25 : decode jdk_43_method_25_code 25 = .ok (.iload 5, 2) := by decide +kernel
theorem D49_27 : decode jdk_43_method_25_code 27 = .ok (.if_icmp .eq 25, 3) := by decide +kernel
theorem D49_30 : decode jdk_43_method_25_code 30 = .ok (.iinc 7 1, 3) := by decide +kernel
theorem D49_33 : decode jdk_43_method_25_code 33 = .ok (.iload 7, 2) := by decide +kernel
theorem D49_35 : decode jdk_43_method_25_code 35 = .ok (.iload 6, 2) := by decide +kernel
theorem D49_37 : decode jdk_43_method_25_code 37 = .ok (.if_icmp .gt 15, 3) := by decide +kernel
theorem D49_40 : decode jdk_43_method_25_code 40 = .ok (.aload_n 0, 1) := by decide +kernel
theorem D49_41 : decode jdk_43_method_25_code 41 = .ok (.iload 7, 2) := by decide +kernel
theorem D49_43 : decode jdk_43_method_25_code 43 = .ok (.baload, 1) := by decide +kernel
theorem D49_44 : decode jdk_43_method_25_code 44 = .ok (.iload 5, 2) := by decide +kernel
theorem D49_46 : decode jdk_43_method_25_code 46 = .ok (.if_icmp .eq 6, 3) := by decide +kernel
theorem D49_49 : decode jdk_43_method_25_code 49 = .ok (.goto (-19), 3) := by decide +kernel
theorem D49_52 : decode jdk_43_method_25_code 52 = .ok (.iload 7, 2) := by decide +kernel
theorem D49_54 : decode jdk_43_method_25_code 54 = .ok (.iload 6, 2) := by decide +kernel
theorem D49_56 : decode jdk_43_method_25_code 56 = .ok (.if_icmp .gt 57, 3) := by decide +kernel
theorem D49_59 : decode jdk_43_method_25_code 59 = .ok (.iload 7, 2) := by decide +kernel
theorem D49_61 : decode jdk_43_method_25_code 61 = .ok (.iconst 1, 1) := by decide +kernel
theorem D49_62 : decode jdk_43_method_25_code 62 = .ok (.iadd, 1) := by decide +kernel
theorem D49_63 : decode jdk_43_method_25_code 63 = .ok (.istore 8, 2) := by decide +kernel
theorem D49_65 : decode jdk_43_method_25_code 65 = .ok (.iload 8, 2) := by decide +kernel
theorem D49_67 : decode jdk_43_method_25_code 67 = .ok (.iload_n 3, 1) := by decide +kernel
theorem D49_68 : decode jdk_43_method_25_code 68 = .ok (.iadd, 1) := by decide +kernel
theorem D49_69 : decode jdk_43_method_25_code 69 = .ok (.iconst 1, 1) := by decide +kernel
theorem D49_70 : decode jdk_43_method_25_code 70 = .ok (.isub, 1) := by decide +kernel
theorem D49_71 : decode jdk_43_method_25_code 71 = .ok (.istore 9, 2) := by decide +kernel
theorem D49_73 : decode jdk_43_method_25_code 73 = .ok (.iconst 1, 1) := by decide +kernel
theorem D49_74 : decode jdk_43_method_25_code 74 = .ok (.istore 10, 2) := by decide +kernel
theorem D49_76 : decode jdk_43_method_25_code 76 = .ok (.iload 8, 2) := by decide +kernel
theorem D49_78 : decode jdk_43_method_25_code 78 = .ok (.iload 9, 2) := by decide +kernel
theorem D49_80 : decode jdk_43_method_25_code 80 = .ok (.if_icmp .ge 23, 3) := by decide +kernel
theorem D49_103 : decode jdk_43_method_25_code 103 = .ok (.iload 8, 2) := by decide +kernel
theorem D49_105 : decode jdk_43_method_25_code 105 = .ok (.iload 9, 2) := by decide +kernel
theorem D49_107 : decode jdk_43_method_25_code 107 = .ok (.if_icmp .ne 6, 3) := by decide +kernel
theorem D49_110 : decode jdk_43_method_25_code 110 = .ok (.iload 7, 2) := by decide +kernel
theorem D49_112 : decode jdk_43_method_25_code 112 = .ok (.ireturn, 1) := by decide +kernel
theorem D49_113 : decode jdk_43_method_25_code 113 = .ok (.iinc 7 1, 3) := by decide +kernel
theorem D49_116 : decode jdk_43_method_25_code 116 = .ok (.goto (-102), 3) := by decide +kernel
theorem D49_119 : decode jdk_43_method_25_code 119 = .ok (.iconst (-1), 1) := by decide +kernel
theorem D49_120 : decode jdk_43_method_25_code 120 = .ok (.ireturn, 1) := by decide +kernel
theorem D55_0 : decode jdk_68_method_10_code 0 = .ok (.aload_n 0, 1) := by decide +kernel
theorem D55_1 : decode jdk_68_method_10_code 1 = .ok (.getfield 15, 3) := by decide +kernel
theorem D55_4 : decode jdk_68_method_10_code 4 = .ok (.arraylength, 1) := by decide +kernel
theorem D55_5 : decode jdk_68_method_10_code 5 = .ok (.istore_n 2, 1) := by decide +kernel
theorem D55_6 : decode jdk_68_method_10_code 6 = .ok (.iload_n 1, 1) := by decide +kernel
theorem D55_7 : decode jdk_68_method_10_code 7 = .ok (.aload_n 0, 1) := by decide +kernel
theorem D55_8 : decode jdk_68_method_10_code 8 = .ok (.getfield 22, 3) := by decide +kernel
theorem D55_11 : decode jdk_68_method_10_code 11 = .ok (.ishl, 1) := by decide +kernel
theorem D55_12 : decode jdk_68_method_10_code 12 = .ok (.istore_n 3, 1) := by decide +kernel
theorem D55_13 : decode jdk_68_method_10_code 13 = .ok (.iload_n 3, 1) := by decide +kernel
theorem D55_14 : decode jdk_68_method_10_code 14 = .ok (.iload_n 2, 1) := by decide +kernel
theorem D55_15 : decode jdk_68_method_10_code 15 = .ok (.isub, 1) := by decide +kernel
theorem D55_16 : decode jdk_68_method_10_code 16 = .ok (.istore 4, 2) := by decide +kernel
theorem D55_18 : decode jdk_68_method_10_code 18 = .ok (.iload_n 2, 1) := by decide +kernel
theorem D55_19 : decode jdk_68_method_10_code 19 = .ok (.iload 4, 2) := by decide +kernel
theorem D55_21 : decode jdk_68_method_10_code 21 = .ok (.iload_n 2, 1) := by decide +kernel
theorem D55_22 : decode jdk_68_method_10_code 22 = .ok (.iconst 2, 1) := by decide +kernel
theorem D55_23 : decode jdk_68_method_10_code 23 = .ok (.aload_n 0, 1) := by decide +kernel
theorem D55_24 : decode jdk_68_method_10_code 24 = .ok (.getfield 22, 3) := by decide +kernel
theorem D55_27 : decode jdk_68_method_10_code 27 = .ok (.ishl, 1) := by decide +kernel
theorem D55_28 : decode jdk_68_method_10_code 28 = .ok (.iadd, 1) := by decide +kernel
theorem D55_29 : decode jdk_68_method_10_code 29 = .ok (.invokestatic 114, 3) := by decide +kernel
theorem D55_32 : decode jdk_68_method_10_code 32 = .ok (.istore 5, 2) := by decide +kernel
theorem D55_34 : decode jdk_68_method_10_code 34 = .ok (.iload 5, 2) := by decide +kernel
theorem D55_36 : decode jdk_68_method_10_code 36 = .ok (.ldc 39, 2) := by decide +kernel
theorem D55_38 : decode jdk_68_method_10_code 38 = .ok (.if_icmp .ne 13, 3) := by decide +kernel
theorem D55_51 : decode jdk_68_method_10_code 51 = .ok (.iload 5, 2) := by decide +kernel
theorem D55_53 : decode jdk_68_method_10_code 53 = .ok (.aload_n 0, 1) := by decide +kernel
theorem D55_54 : decode jdk_68_method_10_code 54 = .ok (.getfield 22, 3) := by decide +kernel
theorem D55_57 : decode jdk_68_method_10_code 57 = .ok (.ishr, 1) := by decide +kernel
theorem D55_58 : decode jdk_68_method_10_code 58 = .ok (.ireturn, 1) := by decide +kernel
theorem D56_0 : decode jdk_48_method_27_code 0 = .ok (.iload_n 0, 1) := by decide +kernel
theorem D56_1 : decode jdk_48_method_27_code 1 = .ok (.iload_n 1, 1) := by decide +kernel
theorem D56_2 : decode jdk_48_method_27_code 2 = .ok (.iload_n 2, 1) := by decide +kernel
theorem D56_3 : decode jdk_48_method_27_code 3 = .ok (.invokestatic 194, 3) := by decide +kernel
theorem D56_6 : decode jdk_48_method_27_code 6 = .ok (.iadd, 1) := by decide +kernel
theorem D56_7 : decode jdk_48_method_27_code 7 = .ok (.istore_n 3, 1) := by decide +kernel
theorem D56_8 : decode jdk_48_method_27_code 8 = .ok (.iconst 0, 1) := by decide +kernel
theorem D56_9 : decode jdk_48_method_27_code 9 = .ok (.iload_n 3, 1) := by decide +kernel
theorem D56_10 : decode jdk_48_method_27_code 10 = .ok (.if_icmp .ge 11, 3) := by decide +kernel
theorem D56_13 : decode jdk_48_method_27_code 13 = .ok (.iload_n 3, 1) := by decide +kernel
theorem D56_14 : decode jdk_48_method_27_code 14 = .ok (.ldc 200, 2) := by decide +kernel
theorem D56_16 : decode jdk_48_method_27_code 16 = .ok (.if_icmp .gt 5, 3) := by decide +kernel
theorem D56_19 : decode jdk_48_method_27_code 19 = .ok (.iload_n 3, 1) := by decide +kernel
theorem D56_20 : decode jdk_48_method_27_code 20 = .ok (.ireturn, 1) := by decide +kernel
theorem D57_0 : decode jdk_29_method_65_code 0 = .ok (.iload_n 0, 1) := by decide +kernel
theorem D57_1 : decode jdk_29_method_65_code 1 = .ok (.iload_n 1, 1) := by decide +kernel
theorem D57_2 : decode jdk_29_method_65_code 2 = .ok (.if_icmp .lt 7, 3) := by decide +kernel
theorem D57_9 : decode jdk_29_method_65_code 9 = .ok (.iload_n 1, 1) := by decide +kernel
theorem D57_10 : decode jdk_29_method_65_code 10 = .ok (.ireturn, 1) := by decide +kernel
theorem D58_0 : decode jdk_65_method_121_code 0 = .ok (.iload_n 1, 1) := by decide +kernel
theorem D58_1 : decode jdk_65_method_121_code 1 = .ok (.aload_n 0, 1) := by decide +kernel
theorem D58_2 : decode jdk_65_method_121_code 2 = .ok (.arraylength, 1) := by decide +kernel
theorem D58_3 : decode jdk_65_method_121_code 3 = .ok (.if_icmp .ne 11, 3) := by decide +kernel
theorem D58_14 : decode jdk_65_method_121_code 14 = .ok (.iload_n 1, 1) := by decide +kernel
theorem D58_15 : decode jdk_65_method_121_code 15 = .ok (.newarray .byte, 2) := by decide +kernel
theorem D58_17 : decode jdk_65_method_121_code 17 = .ok (.astore_n 2, 1) := by decide +kernel
theorem D58_18 : decode jdk_65_method_121_code 18 = .ok (.aload_n 0, 1) := by decide +kernel
theorem D58_19 : decode jdk_65_method_121_code 19 = .ok (.iconst 0, 1) := by decide +kernel
theorem D58_20 : decode jdk_65_method_121_code 20 = .ok (.aload_n 2, 1) := by decide +kernel
theorem D58_21 : decode jdk_65_method_121_code 21 = .ok (.iconst 0, 1) := by decide +kernel
theorem D58_22 : decode jdk_65_method_121_code 22 = .ok (.aload_n 0, 1) := by decide +kernel
theorem D58_23 : decode jdk_65_method_121_code 23 = .ok (.arraylength, 1) := by decide +kernel
theorem D58_24 : decode jdk_65_method_121_code 24 = .ok (.iload_n 1, 1) := by decide +kernel
theorem D58_25 : decode jdk_65_method_121_code 25 = .ok (.invokestatic 304, 3) := by decide +kernel
theorem D58_28 : decode jdk_65_method_121_code 28 = .ok (.invokestatic 150, 3) := by decide +kernel
theorem D58_31 : decode jdk_65_method_121_code 31 = .ok (.aload_n 2, 1) := by decide +kernel
theorem D58_32 : decode jdk_65_method_121_code 32 = .ok (.areturn, 1) := by decide +kernel
abbrev own_EL : List (String × Nat) := [("com/example/per1od/per1od/StoreAddress", 77), ("com/example/per1od/per1od/StoreAddress", 85), ("com/example/per1od/per1od/StoreAddress", 87), ("com/example/per1od/per1od/StoreAddress", 89), ("com/example/per1od/per1od/StoreAddress", 91), ("com/example/per1od/per1od/StoreAddressToStringPinLaw", 42)]
theorem own_EW {a0 : Array Value} {Z : State} (hw : HW_ a0 Z) : EW Z a0 own_EL := (EW.cons (u39 hw) (by decide +kernel) (EW.cons (u270 hw) (by decide +kernel) (EW.cons (u271 hw) (by decide +kernel) (EW.cons (u94 hw) (by decide +kernel) (EW.cons (u159 hw) (by decide +kernel) (EW.cons (u4 hw) (by decide +kernel) EW.nil))))))
theorem own_mem39 : (("com/example/per1od/per1od/StoreAddress", 77) : String × Nat) ∈ own_EL := List.mem_of_getElem? (i := 0) rfl
theorem own_mem270 : (("com/example/per1od/per1od/StoreAddress", 85) : String × Nat) ∈ own_EL := List.mem_of_getElem? (i := 1) rfl
theorem own_mem271 : (("com/example/per1od/per1od/StoreAddress", 87) : String × Nat) ∈ own_EL := List.mem_of_getElem? (i := 2) rfl
theorem own_mem94 : (("com/example/per1od/per1od/StoreAddress", 89) : String × Nat) ∈ own_EL := List.mem_of_getElem? (i := 3) rfl
theorem own_mem159 : (("com/example/per1od/per1od/StoreAddress", 91) : String × Nat) ∈ own_EL := List.mem_of_getElem? (i := 4) rfl
theorem own_mem4 : (("com/example/per1od/per1od/StoreAddressToStringPinLaw", 42) : String × Nat) ∈ own_EL := List.mem_of_getElem? (i := 5) rfl
section OwnStr
variable {p : Program} {l : Launch} {e : Env} {R : Room} {s : State} {args : Array Value} {below : List Frame} {len W : Nat} {Z : State} {a0 : Array Value} {h h' : Heap} {x t a : Addr} {cs : List Int32} {ws : List Addr} {sl : Nat} {v : Value}
/-- the String at x, of the byte[] at t, spells cs (signs 0 to 255) -/
def Str (Z : State) (h : Heap) (x t : Addr) (cs : List Int32) : Prop := ∃ (kb : ClassId) (n : Int32), Exa Z h x "java/lang/String" ∧ Fld Z h x "java/lang/String" "coder" "B" (.int 0) ∧ Fld Z h x "java/lang/String" "value" "[B" (.ref t) ∧ Arv Z h t kb .byte n ((cs.map fun c => c.toInt8.toInt32).map Value.int) (.int 0) ∧ n = Int32.ofNat cs.length ∧ (∀ c ∈ cs, ¬ c < 0 ∧ ¬ (255 : Int32) < c) ∧ cs.length ≤ 4000
theorem Str.ext (F : Str Z h x t cs) (E : Ext h h') : Str Z h' x t cs := by
  obtain ⟨kb, n, q1, q2, q3, q4, r⟩ := F; exact ⟨kb, n, q1.ext E, q2.ext E, q3.ext E, q4.ext E, r⟩
theorem Str.keep (F : Str Z h x t cs) (K : Keep h h' ws) (n1 : x ∉ ws) (n2 : t ∉ ws) : Str Z h' x t cs := by
  obtain ⟨kb, n, q1, q2, q3, q4, r⟩ := F; exact ⟨kb, n, q1.keep K, q2.keep K n1, q3.keep K n1, q4.keep K n2, r⟩
theorem Str.wr (F : Str Z h x t cs) (W : Wr h h' a sl v) (n1 : x ≠ a) (n2 : t ≠ a) : Str Z h' x t cs := by
  obtain ⟨kb, n, q1, q2, q3, q4, r⟩ := F; exact ⟨kb, n, q1.wr W, q2.other W (Or.inl n1), q3.other W (Or.inl n1), q4.other W n2, r⟩
theorem Str.exa (F : Str Z h x t cs) : Exa Z h x "java/lang/String" := by obtain ⟨kb, n, q1, r⟩ := F; exact q1
theorem Str.lt (F : Str Z h x t cs) : x < h.size := F.exa.lt
theorem Str.lt2 (F : Str Z h x t cs) : t < h.size := by obtain ⟨kb, n, q1, q2, q3, q4, r⟩ := F; exact q4.lt
theorem Str.ne2 {C : String} {k : Nat} (F : Str Z h x t cs) (E : Exa Z h a C) (w : (Jvm.Cond.instantiable C k).before a0 Z = true) : t ≠ a := by obtain ⟨kb, n, q1, q2, q3, q4, r⟩ := F; exact Ne.symm (Exa.neArv E q4 w)
theorem Str.of {kb : ClassId} {n : Int32} {vs : List Value} (q1 : Exa Z h x "java/lang/String") (q2 : Fld Z h x "java/lang/String" "coder" "B" (.int 0)) (q3 : Fld Z h x "java/lang/String" "value" "[B" (.ref t)) (q4 : Arv Z h t kb .byte n vs (.int 0)) (hv : vs = (cs.map fun c => c.toInt8.toInt32).map Value.int) (hn : n = Int32.ofNat cs.length) (hp : ∀ c ∈ cs, ¬ c < 0 ∧ ¬ (255 : Int32) < c) (hl : cs.length ≤ 4000) : Str Z h x t cs := by
  subst hv; exact ⟨kb, n, q1, q2, q3, q4, hn, hp, hl⟩
theorem payNew {b : Addr} {kc : ClassId} {N z : Int32} {d v0 c0 : Value} {n0 n : Nat} {vs : List Value} (hZ : Z.Warmed39 s.vm) (hw : HW_ a0 Z) (hx0 : n0 ≤ x) (hh0 : n0 ≤ h.size) (E : Exa Z h x "java/lang/String") (V : Fld Z h x "java/lang/String" "value" "[B" v0) (C : Fld Z h x "java/lang/String" "coder" "B" c0) (K : Arv Z h b kc .char N vs d) (hv : vs = cs.map Value.int) (S : Sta Z h "java/lang/String" "COMPACT_STRINGS" "Z" (.int z)) (hz : ¬ z = 0)
    (hn : cs.length = n) (hN : N = Int32.ofNat n) (l0 : 0 < n) (l2 : n ≤ 4000) (hp : ∀ c ∈ cs, ¬ c < 0 ∧ ¬ (255 : Int32) < c) (hfr : 4 ≤ R.frames) (hlo : W + 65 ≤ R.locals) :
    Pays l R p e below s args (⟨"java/lang/String", "<init>", "([C)V"⟩ : MethodName) len W #[.ref x, .ref b] h 1 n (fun v h' L => v = none ∧ Fr n0 L ∧ Keep h h' [x] ∧ ∃ t, h.size ≤ t ∧ Str Z h' x t cs) := by
  subst hv hn
  intro m meth c A g ig mk a q1 q2 q3 q4 q5 q6 q7
  obtain ⟨v, B, X, ⟨L, ⟨g1, g2, g3, g4, g5, t, kb, g6, g7, g8, g9, g10⟩, r⟩, st⟩ := StrChars.Road.backV (W := W) (R := R) (l := l) (p := p) (e := e) (s := s) (len := len) (args := args) (below := below) hZ (own_hws hw) (kI := 4) ((u6 hw)) (cs := cs) (bs := cs.map (fun c => c.toInt8.toInt32)) hx0 hh0 E V C K S hz rfl hN l0 l2 hp rfl hfr hlo m meth c A g ig mk a q1 q2 q3 q4 q5 q6 q7
  exact ⟨v, B, X, ⟨L, ⟨g1, g2, g3, t, g7, kb, _, g4, g5, g9, g10, hN, hp, l2⟩, r⟩, st⟩
theorem payLen {z : Int32} (hZ : Z.Warmed39 s.vm) (hw : HW_ a0 Z) (F : Str Z h x t cs) (S : Sta Z h "java/lang/String" "COMPACT_STRINGS" "Z" (.int z)) (hz : ¬ z = 0) (hfr : 2 ≤ R.frames) (hlo : W + 25 ≤ R.locals) :
    Pays l R p e below s args (⟨"java/lang/String", "length", "()I"⟩ : MethodName) len W #[.ref x] h 0 0 (fun v h' L => v = some (.int (Int32.ofNat cs.length)) ∧ L = [] ∧ h' = h) := by
  obtain ⟨kb, n, q1, q2, q3, q4, hn, hp, hl⟩ := F
  subst hn
  exact StrChars.Road.lenW (W := W) hZ (own_hln hw) (kI := 4) ((u6 hw)) q1 q3 q2 q4 (StrChars.Road.codOf rfl fun c hc => (hp c hc).2) (own_up _ hp) S hz hl hfr hlo
theorem payChr {z j : Int32} {fm : Value} {i : Nat} (hZ : Z.Warmed39 s.vm) (hw : HW_ a0 Z) (F : Str Z h x t cs) (S : Sta Z h "java/lang/String" "COMPACT_STRINGS" "Z" (.int z)) (hz : ¬ z = 0) (S2 : Sta Z h "jdk/internal/util/Preconditions" "SIOOBE_FORMATTER" "Ljava/util/function/BiFunction;" fm) (rf : fm.isRef = true) (hi : i < cs.length) (hj : j = Int32.ofNat i) (hfr : 4 ≤ R.frames) (hlo : W + 53 ≤ R.locals) :
    Pays l R p e below s args (⟨"java/lang/String", "charAt", "(I)C"⟩ : MethodName) len W #[.ref x, .int j] h 0 0 (fun v h' L => v = some (.int (cs.getD i 0)) ∧ L = [] ∧ h' = h) := by
  obtain ⟨kb, n, q1, q2, q3, q4, hn, hp, hl⟩ := F
  subst hn
  exact StrChars.Road.chN (W := W) hZ (own_hch hw) (kI := 4) ((u6 hw)) q1 q3 q2 q4 (StrChars.Road.codOf rfl fun c hc => (hp c hc).2) (own_up _ hp) S hz S2 rf hl hi hj hfr hlo
end OwnStr
theorem CtP.mono {l : Launch} {y : MethodName} {bytes : ByteArray} {mx : Nat} {ret : Option FieldType} {ws : List Jvm.Cond} {rm : Room} {Z : State} {as' : Array Value} {h0 : Heap} {Q1 Q2 : Option Value → Heap → List Loc → Prop} (hQ : ∀ v h L, Q1 v h L → Q2 v h L) (h : CtP l y bytes mx ret ws rm Z as' h0 Q1) : CtP l y bytes mx ret ws rm Z as' h0 Q2 := by
  intro p e h1 h2 h3 s m args below h4 h5 h6 h7
  obtain ⟨n, o, a, b, c, v, L, e1, q, f⟩ := h p e h1 h2 h3 s m args below h4 h5 h6 h7
  exact ⟨n, o, a, b, c, v, L, e1, hQ _ _ _ q, f⟩
theorem own_insB {Z : State} {h : Heap} {t : Addr} {kb : ClassId} {n : Int32} {vs : List Value} {dv : Value} (A : Arv Z h t kb .byte n vs dv) (hk : Z.vm.findClass "[B" = some kb) : Ins Z h t "[B" true := by
  obtain ⟨c, A1, q1, -⟩ := A
  exact ⟨c, kb, A1.1, hk, by rw [A1.plain, q1]; simp [Vm.assignable_self]⟩
theorem own_ltc {a k : Nat} (h : a < k) (hk : k < 1000) : Int32.ofNat a < Int32.ofNat k := by
  rw [Int32.lt_iff_toInt_lt, Int32.toInt_ofNat_of_lt (by omega), Int32.toInt_ofNat_of_lt (by omega)]; omega
theorem own_nec {a k : Nat} (h : a < k) (hk : k < 1000) : ¬ Int32.ofNat a = Int32.ofNat k := fun e => by
  have := congrArg Int32.toInt e
  rw [Int32.toInt_ofNat_of_lt (by omega), Int32.toInt_ofNat_of_lt (by omega)] at this; omega
theorem own_eqc {a k : Nat} {z : Int32} (h : a = k) (hz : z = Int32.ofNat k) : Int32.ofNat a = z := by rw [h, hz]
theorem own_shr0 {x : Int32} : x >>> ((0 : Int32) &&& 31) = x := by
  apply Int32.toBitVec_inj.mp; simp
theorem own_shl0 {x : Int32} : x <<< ((0 : Int32) &&& 31) = x := by
  apply Int32.toBitVec_inj.mp; simp
theorem own_oadd {as bs : List Int32} : Int32.ofNat as.length + Int32.ofNat bs.length = Int32.ofNat (as ++ bs).length := by
  rw [List.length_append, Int32.ofNat_add]
theorem own_ofI {a : Nat} (h : a < 2147483648) : (Int32.ofNat a).toInt = a := by rw [Int32.toInt_ofNat_of_lt (by omega)]
theorem own_sub {a : Nat} {k : Int32} (h : a < 1000) (h1 : 0 ≤ k.toInt) (h2 : k.toInt < 1000) : (Int32.ofNat a - k).toInt = a - k.toInt := by
  rw [Int32.toInt_sub, own_ofI (by omega)]
  apply Int.bmod_eq_of_le <;> omega
theorem own_zI {z : Int32} {a : Nat} (h : a < z.toNatClampNeg) : z.toInt = z.toNatClampNeg := by
  rw [Int32.toNatClampNeg] at h ⊢; omega
theorem own_ltz {z : Int32} {a : Nat} (h : a < z.toNatClampNeg) : Int32.ofNat a < z := by
  have e := own_zI h
  have u := z.toInt_lt
  rw [Int32.lt_iff_toInt_lt, Int32.toInt_ofNat_of_lt (by omega)]; omega
theorem own_nez {z : Int32} {a : Nat} (h : a < z.toNatClampNeg) : ¬ Int32.ofNat a = z := fun e => by
  have := own_ltz h
  rw [e, Int32.lt_iff_toInt_lt] at this; omega
theorem own_ecA1 {z : Int32} {a : Nat} (h : a ≤ z.toNatClampNeg) (h2 : 0 < z.toNatClampNeg ∧ z.toNatClampNeg ≤ 34) : ¬ (0 : Int32) < (Int32.ofNat a - z) := by
  have e := own_zI h2.1
  rw [Int32.lt_iff_toInt_lt, own_sub (by omega) (by omega) (by omega), e]
  show ¬ (0 : Int) < (a : Int) - z.toNatClampNeg; omega
theorem own_ecA {z : Int32} {a b : Nat} (h : a + b ≤ z.toNatClampNeg) (h2 : 0 < z.toNatClampNeg ∧ z.toNatClampNeg ≤ 34) : ¬ (0 : Int32) < (Int32.ofNat a + Int32.ofNat b - z) := by
  rw [← Int32.ofNat_add]; exact own_ecA1 h h2
theorem own_ecB {a b : Nat} (h : 16 < a + b) (h2 : a + b ≤ 33) : (0 : Int32) < (Int32.ofNat a + Int32.ofNat b - (16 : Int32)) := by
  rw [← Int32.ofNat_add, Int32.lt_iff_toInt_lt, own_sub (by omega) (by decide) (by decide)]
  show (0 : Int) < ((a + b : Nat) : Int) - 16; omega
theorem own_ecG {a b : Nat} (h2 : a + b ≤ 33) : (Int32.ofNat a + Int32.ofNat b - (16 : Int32)) < (18 : Int32) := by
  rw [← Int32.ofNat_add, Int32.lt_iff_toInt_lt, own_sub (by omega) (by decide) (by decide)]
  show ((a + b : Nat) : Int) - 16 < 18; omega
theorem own_od {a b : Nat} (h : a + b ≤ 34) (k : Int32) : (Int32.ofNat a + Int32.ofNat b - k) = Int32.ofNat (a + b) - k := by rw [← Int32.ofNat_add]
theorem own_b58 {c : Int32} (r : ¬ c < 0 ∧ ¬ (255 : Int32) < c) : c.toInt8.toInt32 = (58 : Int32) ↔ c = (58 : Int32) := by
  have key : ∀ k : Fin 256, ((Int32.ofNat k.val).toInt8.toInt32 = (58 : Int32)) ↔ (Int32.ofNat k.val = (58 : Int32)) := by decide +kernel
  obtain ⟨r1, r2⟩ := r
  rw [Int32.lt_iff_toInt_lt] at r1 r2
  have e0 : (0 : Int32).toInt = 0 := rfl
  have e1 : (255 : Int32).toInt = 255 := rfl
  have hk : c.toInt.toNat < 256 := by omega
  have ec : c = Int32.ofNat c.toInt.toNat := by
    apply Int32.toInt_inj.mp
    rw [Int32.toInt_ofNat_of_lt (by omega)]; omega
  rw [ec]; exact key ⟨_, hk⟩
def own_host (cs : List Int32) : List Int32 := if (58 : Int32) ∈ cs then [91] ++ cs ++ [93] else cs
theorem own_hostT {cs : List Int32} (h : (58 : Int32) ∈ cs) : (([] : List Int32) ++ [91] ++ cs ++ [93]) = own_host cs := (if_pos h).symm
theorem own_hostF {cs : List Int32} (h : ¬ (58 : Int32) ∈ cs) : cs = own_host cs := (if_neg h).symm
def own_dg (n : Nat) : List Int32 := if n < 10 then [Int32.ofNat (48 + n % 10)] else own_dg (n / 10) ++ [Int32.ofNat (48 + n % 10)]
termination_by n
decreasing_by omega
theorem own_dg1 {n : Nat} (h : n < 10) : own_dg n = [Int32.ofNat (48 + n % 10)] := by rw [own_dg, if_pos h]
theorem own_dgS {n : Nat} (h : 10 ≤ n) : own_dg n = own_dg (n / 10) ++ [Int32.ofNat (48 + n % 10)] := by rw [own_dg, if_neg (by omega)]
theorem own_dg2 {n : Nat} (h1 : 10 ≤ n) (h2 : n < 100) : own_dg n = [Int32.ofNat (48 + n / 10), Int32.ofNat (48 + n % 10)] := by
  rw [own_dgS h1, own_dg1 (by omega), show n / 10 % 10 = n / 10 by omega]; rfl
theorem own_dg100 {n : Nat} (h : 100 ≤ n) : own_dg n = own_dg (n / 100) ++ [Int32.ofNat (48 + n % 100 / 10), Int32.ofNat (48 + n % 100 % 10)] := by
  rw [own_dgS (by omega), own_dgS (n := n / 10) (by omega), show n / 10 / 10 = n / 100 by omega, show n / 10 % 10 = n % 100 / 10 by omega, show n % 100 % 10 = n % 10 by omega, List.append_assoc]; rfl
theorem own_len1 {n : Nat} (h : n < 10) : (own_dg n).length = 1 := by rw [own_dg1 h]; rfl
theorem own_len2 {n : Nat} (h1 : 10 ≤ n) (h2 : n < 100) : (own_dg n).length = 2 := by rw [own_dgS (by omega), List.length_append, own_len1 (by omega)]; rfl
theorem own_len3 {n : Nat} (h1 : 100 ≤ n) (h2 : n < 1000) : (own_dg n).length = 3 := by rw [own_dgS (by omega), List.length_append, own_len2 (by omega) (by omega)]; rfl
theorem own_len4 {n : Nat} (h1 : 1000 ≤ n) (h2 : n < 10000) : (own_dg n).length = 4 := by rw [own_dgS (by omega), List.length_append, own_len3 (by omega) (by omega)]; rfl
theorem own_len5 {n : Nat} (h1 : 10000 ≤ n) (h2 : n < 100000) : (own_dg n).length = 5 := by rw [own_dgS (by omega), List.length_append, own_len4 (by omega) (by omega)]; rfl
theorem own_len6 {n : Nat} (h1 : 100000 ≤ n) (h2 : n < 1000000) : (own_dg n).length = 6 := by rw [own_dgS (by omega), List.length_append, own_len5 (by omega) (by omega)]; rfl
theorem own_len7 {n : Nat} (h1 : 1000000 ≤ n) (h2 : n < 10000000) : (own_dg n).length = 7 := by rw [own_dgS (by omega), List.length_append, own_len6 (by omega) (by omega)]; rfl
theorem own_len8 {n : Nat} (h1 : 10000000 ≤ n) (h2 : n < 100000000) : (own_dg n).length = 8 := by rw [own_dgS (by omega), List.length_append, own_len7 (by omega) (by omega)]; rfl
theorem own_len9 {n : Nat} (h1 : 100000000 ≤ n) (h2 : n < 1000000000) : (own_dg n).length = 9 := by rw [own_dgS (by omega), List.length_append, own_len8 (by omega) (by omega)]; rfl
theorem own_len10 {n : Nat} (h1 : 1000000000 ≤ n) (h2 : n < 10000000000) : (own_dg n).length = 10 := by rw [own_dgS (by omega), List.length_append, own_len9 (by omega) (by omega)]; rfl
theorem own_dgB (n : Nat) : (own_dg n).map (fun c => c.toInt8.toInt32) = own_dg n := by
  induction n using Nat.strongRecOn with
  | ind n ih =>
    have key : ∀ k, k < 10 → (Int32.ofNat (48 + k)).toInt8.toInt32 = Int32.ofNat (48 + k) := by decide
    by_cases h : n < 10
    · rw [own_dg1 h, List.map_cons, List.map_nil, key _ (by omega)]
    · rw [own_dgS (by omega), List.map_append, ih (n / 10) (by omega), List.map_cons, List.map_nil, key _ (by omega)]
theorem own_dgR (n : Nat) : ∀ c ∈ own_dg n, ¬ c < 0 ∧ ¬ (255 : Int32) < c := by
  induction n using Nat.strongRecOn with
  | ind n ih =>
    have key : ∀ k, k < 10 → ¬ Int32.ofNat (48 + k) < 0 ∧ ¬ (255 : Int32) < Int32.ofNat (48 + k) := by decide
    by_cases h : n < 10
    · rw [own_dg1 h]; intro c hc; simp only [List.mem_singleton] at hc; subst hc; exact key _ (by omega)
    · rw [own_dgS (by omega)]; intro c hc
      rcases List.mem_append.mp hc with hc | hc
      · exact ih (n / 10) (by omega) c hc
      · simp only [List.mem_singleton] at hc; subst hc; exact key _ (by omega)
theorem own_narD {k : Nat} (h : k < 10) : nar .byte (Int32.ofNat (48 + k)) = Int32.ofNat (48 + k) := by
  have key : ∀ k, k < 10 → nar .byte (Int32.ofNat (48 + k)) = Int32.ofNat (48 + k) := by decide
  exact key k h
theorem own_negI {n : Nat} (h : n < 2147483648) : (-(Int32.ofNat n)).toInt = -(n : Int) := by
  rw [Int32.toInt_neg, Int32.toInt_ofNat_of_lt (by omega)]
  apply Int.bmod_eq_of_le <;> omega
theorem own_ndiv {n : Nat} (h : n < 2147483648) : (-(Int32.ofNat n)) / (100 : Int32) = -(Int32.ofNat (n / 100)) := by
  apply Int32.toInt_inj.mp
  rw [Int32.toInt_div_of_ne_right _ _ (by decide), own_negI h, own_negI (by omega)]
  show (-(n : Int)).tdiv 100 = -((n / 100 : Nat) : Int)
  rw [Int.neg_tdiv]; congr 1
theorem own_nrem {n : Nat} (h : n < 2147483648) : (-(Int32.ofNat (n / 100))) * (100 : Int32) - (-(Int32.ofNat n)) = Int32.ofNat (n % 100) := by
  have e : Int32.ofNat n = Int32.ofNat (n / 100) * (100 : Int32) + Int32.ofNat (n % 100) := by
    have : (100 : Int32) = Int32.ofNat 100 := rfl
    rw [this, ← Int32.ofNat_mul, ← Int32.ofNat_add]; congr 1; omega
  rw [e, Int32.neg_mul]
  generalize Int32.ofNat (n / 100) * (100 : Int32) = a
  generalize Int32.ofNat (n % 100) = b
  rw [Int32.sub_eq_add_neg, Int32.neg_neg, ← Int32.add_assoc, Int32.add_left_neg, Int32.zero_add]
theorem own_nnn {n : Nat} : -(-(Int32.ofNat n)) = Int32.ofNat n := Int32.neg_neg
theorem own_ngt {n : Nat} (k : Nat) (hk : k < 2147483648) (hn : n < 2147483648) (h : n < k) : -(Int32.ofNat k) < -(Int32.ofNat n) := by
  rw [Int32.lt_iff_toInt_lt, own_negI hk, own_negI hn]; omega
theorem own_nle {n : Nat} (k : Nat) (hk : k < 2147483648) (hn : n < 2147483648) (h : k ≤ n) : ¬ -(Int32.ofNat k) < -(Int32.ofNat n) := by
  rw [Int32.lt_iff_toInt_lt, own_negI hk, own_negI hn]; omega
theorem own_plt {n : Nat} (k : Nat) (hk : k < 2147483648) (h : n < k) : Int32.ofNat n < Int32.ofNat k := by
  rw [Int32.lt_iff_toInt_lt, Int32.toInt_ofNat_of_lt (by omega), Int32.toInt_ofNat_of_lt (by omega)]; omega
theorem own_pge {n : Nat} (k : Nat) (hn : n < 2147483648) (h : k ≤ n) : ¬ Int32.ofNat n < Int32.ofNat k := by
  rw [Int32.lt_iff_toInt_lt, Int32.toInt_ofNat_of_lt (by omega), Int32.toInt_ofNat_of_lt (by omega)]; omega
theorem own_dec (a k : Nat) : Int32.ofNat (a + (k + 1)) + (-1 : Int32) = Int32.ofNat (a + k) := by
  rw [← Nat.add_assoc, Int32.ofNat_add (a + k) 1]
  generalize Int32.ofNat (a + k) = b
  show b + Int32.ofNat 1 + (-1 : Int32) = b
  rw [Int32.add_assoc]; exact Int32.add_zero b
abbrev own_ones : List Value := (List.range 100).map fun i => Value.int (Int32.ofNat (48 + i % 10))
abbrev own_tens : List Value := (List.range 100).map fun i => Value.int (Int32.ofNat (48 + i / 10))
theorem own_tab {f : Nat → Value} {r : Nat} (h : r < 100) : ((List.range 100).map f).getD (Int32.ofNat r).toNatClampNeg (.int 0) = f r := by
  rw [of_nat_clamp (by omega), List.getD_eq_getElem?_getD, List.getElem?_map, List.getElem?_range h]; rfl
theorem own_setA {bl : List Int32} {Y : List Value} {j : Nat} {v : Value} : (bl.map Value.int ++ Y).set (bl.length + j) v = bl.map Value.int ++ Y.set j v := by
  rw [List.set_append_right _ _ (by simp), List.length_map, Nat.add_sub_cancel_left]
theorem own_dig {n : Nat} (h : n < 2147483648) : n < 10 ∨ (10 ≤ n ∧ n < 100) ∨ (100 ≤ n ∧ n < 1000) ∨ (1000 ≤ n ∧ n < 10000) ∨ (10000 ≤ n ∧ n < 100000) ∨ (100000 ≤ n ∧ n < 1000000) ∨ (1000000 ≤ n ∧ n < 10000000) ∨ (10000000 ≤ n ∧ n < 100000000) ∨ (100000000 ≤ n ∧ n < 1000000000) ∨ (1000000000 ≤ n ∧ n < 10000000000) := by omega
theorem own_ngt' {n k : Nat} (hk : k < 2147483648) (hn : n < 2147483648) (h : k < n) : -(Int32.ofNat n) < -(Int32.ofNat k) := own_ngt n hn hk h
theorem own_nle' {n k : Nat} (hk : k < 2147483648) (hn : n < 2147483648) (h : n ≤ k) : ¬ -(Int32.ofNat n) < -(Int32.ofNat k) := own_nle n hn hk h
theorem own_two {A B : Prop} (h : A) (k : A → B) : B := k h
theorem own_setZ {bl : List Int32} {Y : List Value} {k : Nat} {v : Value} : (bl.map Value.int ++ (List.replicate (k + 1) (Value.int 0) ++ Y)).set (bl.length + k) v = bl.map Value.int ++ (List.replicate k (Value.int 0) ++ v :: Y) := by
  rw [List.set_append_right _ _ (by simp), List.length_map, Nat.add_sub_cancel_left, List.replicate_succ', List.append_assoc, List.set_append_right _ _ (by simp)]
  simp
theorem own_oaddB {cs ds : List Int32} : Int32.ofNat cs.length + Int32.ofNat ds.length = Int32.ofNat ((cs.map fun c => c.toInt8.toInt32).length + ds.length) := by rw [List.length_map, Int32.ofNat_add]
theorem own_cnt {cs ds : List Int32} : Int32.ofNat ((cs.map fun c => c.toInt8.toInt32).length + ds.length) = Int32.ofNat (cs ++ ds).length := by rw [List.length_map, List.length_append]
theorem own_ecB1 {a : Nat} (h : 16 < a) (h2 : a ≤ 33) : (0 : Int32) < (Int32.ofNat a - (16 : Int32)) := by
  rw [Int32.lt_iff_toInt_lt, own_sub (by omega) (by decide) (by decide)]
  show (0 : Int) < (a : Int) - 16; omega
theorem own_ecG1 {a : Nat} (h2 : a ≤ 33) : (Int32.ofNat a - (16 : Int32)) < (18 : Int32) := by
  rw [Int32.lt_iff_toInt_lt, own_sub (by omega) (by decide) (by decide)]
  show (a : Int) - 16 < 18; omega
theorem own_i2cR {c : Int32} (r : ¬ c < 0 ∧ ¬ (255 : Int32) < c) : c.toUInt32.toUInt16.toUInt32.toInt32 = c := by
  obtain ⟨h0, h1⟩ := r
  have q := c_i2c c
  have e0 : (0 : Int32).toInt = 0 := rfl
  have e1 : (255 : Int32).toInt = 255 := rfl
  rw [Int32.lt_iff_toInt_lt] at h0 h1
  apply Int32.toInt_inj.mp; omega
theorem own_narR {c : Int32} (r : ¬ c < 0 ∧ ¬ (255 : Int32) < c) : nar .char c = c := own_i2cR r
theorem own_narrowR {c : Int32} (r : ¬ c < 0 ∧ ¬ (255 : Int32) < c) : narrow .char (.int c) = .int c := congrArg Value.int (own_narR r)
theorem own_hcR {b : Int32} (h : (b &&& (511 : Int32)) < (256 : Int32)) : ¬ (b &&& (511 : Int32)) < 0 ∧ ¬ (255 : Int32) < (b &&& (511 : Int32)) := by
  have q := c_and b 511 (by decide)
  have e0 : (0 : Int32).toInt = 0 := rfl
  have e1 : (255 : Int32).toInt = 255 := rfl
  have e2 : (256 : Int32).toInt = 256 := rfl
  have e3 : (511 : Int32).toInt = 511 := rfl
  rw [Int32.lt_iff_toInt_lt] at h
  rw [Int32.lt_iff_toInt_lt, Int32.lt_iff_toInt_lt]; omega
theorem own_n4 (x : Int32) : (x &&& (3 : Int32)) = 0 ∨ (x &&& (3 : Int32)) = 1 ∨ (x &&& (3 : Int32)) = 2 ∨ (x &&& (3 : Int32)) = 3 := by
  have h := c_and x 3 (by decide)
  have k0 : (0 : Int32).toInt = 0 := rfl
  have k1 : (1 : Int32).toInt = 1 := rfl
  have k2 : (2 : Int32).toInt = 2 := rfl
  have k3 : (3 : Int32).toInt = 3 := rfl
  rw [← Int32.toInt_inj, ← Int32.toInt_inj, ← Int32.toInt_inj, ← Int32.toInt_inj]
  omega
theorem own_db (x : Int32) : ∃ nd : Nat, nd < 2147483648 ∧ (x &&& (2147483647 : Int32)) = Int32.ofNat nd := by
  have h := c_and x 2147483647 (by decide)
  have k0 : (2147483647 : Int32).toInt = 2147483647 := rfl
  refine ⟨(x &&& 2147483647).toInt.toNat, by omega, ?_⟩
  apply Int32.toInt_inj.mp
  rw [Int32.toInt_ofNat_of_lt (by omega)]; omega
theorem own_mod {a m : Nat} (ha : a < 2147483648) (hm : m < 2147483648) : Int32.ofNat a % Int32.ofNat m = Int32.ofNat (a % m) := by
  apply Int32.toInt_inj.mp
  have : a % m ≤ a := Nat.mod_le a m
  rw [Int32.toInt_mod, Int32.toInt_ofNat_of_lt (by omega), Int32.toInt_ofNat_of_lt (by omega), Int32.toInt_ofNat_of_lt (by omega)]
  exact (Int.ofNat_tmod a m).symm
theorem own_port (x : Int32) : ∃ np : Nat, np < 65536 ∧ (((x &&& (2147483647 : Int32)) % (65535 : Int32)) + (1 : Int32)) = Int32.ofNat np := by
  obtain ⟨a, ha, e⟩ := own_db x
  refine ⟨a % 65535 + 1, by omega, ?_⟩
  rw [e, show (65535 : Int32) = Int32.ofNat 65535 from rfl, own_mod ha (by decide), Int32.ofNat_add]; rfl
theorem own_le5 {n : Nat} (h : n < 65536) : (own_dg n).length ≤ 5 := by
  rcases own_dig (n := n) (by omega) with q | q | q | q | q | q | q | q | q | q
  · rw [own_len1 q]; decide
  · rw [own_len2 q.1 q.2]; decide
  · rw [own_len3 q.1 q.2]; decide
  · rw [own_len4 q.1 q.2]; decide
  · rw [own_len5 q.1 q.2]; decide
  all_goals omega
theorem own_le10 {n : Nat} (h : n < 2147483648) : (own_dg n).length ≤ 10 := by
  rcases own_dig (n := n) (by omega) with q | q | q | q | q | q | q | q | q | q
  · rw [own_len1 q]; decide
  · rw [own_len2 q.1 q.2]; decide
  · rw [own_len3 q.1 q.2]; decide
  · rw [own_len4 q.1 q.2]; decide
  · rw [own_len5 q.1 q.2]; decide
  · rw [own_len6 q.1 q.2]; decide
  · rw [own_len7 q.1 q.2]; decide
  · rw [own_len8 q.1 q.2]; decide
  · rw [own_len9 q.1 q.2]; decide
  · rw [own_len10 q.1 q.2]; decide
theorem own_jeq {kk : Int32} {j i : Nat} (hkk : kk = Int32.ofNat j) (hj9 : j ≤ 9) (hi : i ≤ 9) (h : kk = Int32.ofNat i) : j = i := by
  have e := congrArg Int32.toInt (hkk.symm.trans h)
  rw [Int32.toInt_ofNat_of_lt (by omega), Int32.toInt_ofNat_of_lt (by omega)] at e; omega
theorem own_j9 {kk : Int32} {j : Nat} (hkk : kk = Int32.ofNat j) (hj9 : j ≤ 9) (h0 : ¬ kk = (0 : Int32)) (h1 : ¬ kk = (1 : Int32)) (h2 : ¬ kk = (2 : Int32)) (h3 : ¬ kk = (3 : Int32)) (h4 : ¬ kk = (4 : Int32)) (h5 : ¬ kk = (5 : Int32)) (h6 : ¬ kk = (6 : Int32)) (h7 : ¬ kk = (7 : Int32)) (h8 : ¬ kk = (8 : Int32)) : j = 9 := by
  have key : j = 0 ∨ j = 1 ∨ j = 2 ∨ j = 3 ∨ j = 4 ∨ j = 5 ∨ j = 6 ∨ j = 7 ∨ j = 8 ∨ j = 9 := by omega
  rcases key with rfl | rfl | rfl | rfl | rfl | rfl | rfl | rfl | rfl | rfl
  · exact absurd hkk h0
  · exact absurd hkk h1
  · exact absurd hkk h2
  · exact absurd hkk h3
  · exact absurd hkk h4
  · exact absurd hkk h5
  · exact absurd hkk h6
  · exact absurd hkk h7
  · exact absurd hkk h8
  · rfl
theorem own_p10b {j : Nat} (h : j ≤ 9) : 0 < 10 ^ j ∧ 10 ^ j < 2147483648 := by
  have key : ∀ j : Fin 10, 0 < 10 ^ j.val ∧ 10 ^ j.val < 2147483648 := by decide
  exact key ⟨j, by omega⟩
theorem own_p10ne {j : Nat} (h : j ≤ 9) : Int32.ofNat (10 ^ j) ≠ 0 := fun e => by
  have q := own_p10b h
  have e := congrArg Int32.toInt e
  rw [Int32.toInt_ofNat_of_lt (by omega)] at e
  have e0 : (0 : Int32).toInt = 0 := rfl
  omega
theorem own_div {nv j : Nat} (hn : nv < 2147483648) (h : j ≤ 9) : Int32.ofNat nv / Int32.ofNat (10 ^ j) = Int32.ofNat (nv / 10 ^ j) := by
  have q := own_p10b h
  have : nv / 10 ^ j ≤ nv := Nat.div_le_self _ _
  apply Int32.toInt_inj.mp
  rw [Int32.toInt_div_of_ne_right _ _ (fun e => absurd e (by
    intro e
    have e := congrArg Int32.toInt e
    rw [Int32.toInt_ofNat_of_lt (by omega)] at e
    have e0 : (-1 : Int32).toInt = -1 := rfl
    omega)), Int32.toInt_ofNat_of_lt (by omega), Int32.toInt_ofNat_of_lt (by omega), Int32.toInt_ofNat_of_lt (by omega)]
  exact (Int.ofNat_tdiv nv (10 ^ j)).symm
theorem own_dlt {nv j : Nat} (hn : nv < 2147483648) : nv / 10 ^ j < 2147483648 := Nat.lt_of_le_of_lt (Nat.div_le_self _ _) hn
theorem own_d48 (a : Nat) : ¬ Int32.ofNat (48 + a % 10) < 0 ∧ ¬ (255 : Int32) < Int32.ofNat (48 + a % 10) := by
  have key : ∀ k, k < 10 → ¬ Int32.ofNat (48 + k) < 0 ∧ ¬ (255 : Int32) < Int32.ofNat (48 + k) := by decide
  exact key _ (Nat.mod_lt _ (by decide))
theorem own_digc {a : Nat} (h : a < 2147483648) : ((48 : Int32) + (Int32.ofNat a % (10 : Int32))).toUInt32.toUInt16.toUInt32.toInt32 = Int32.ofNat (48 + a % 10) := by
  rw [show (10 : Int32) = Int32.ofNat 10 from rfl, own_mod h (by decide), show (48 : Int32) = Int32.ofNat 48 from rfl, ← Int32.ofNat_add]
  exact own_i2cR (own_d48 a)
theorem own_atA {ii : Int32} {kk : Nat} {cs : List Int32} (hi : ii = Int32.ofNat kk) (hk : kk < cs.length) (hl : cs.length ≤ 4000) : ¬ ii < 0 := by
  rw [hi]; exact of_nat_nneg (by omega)
theorem own_atB {ii : Int32} {kk : Nat} {cs : List Int32} (hi : ii = Int32.ofNat kk) (hk : kk < cs.length) (hl : cs.length ≤ 4000) : ii < Int32.ofNat cs.length := by
  rw [hi]; exact own_plt _ (by omega) hk
theorem own_dpos (n : Nat) : 0 < (own_dg n).length := by
  by_cases h : n < 10
  · rw [own_len1 h]; decide
  · rw [own_dgS (by omega), List.length_append, List.length_singleton]; exact Nat.succ_pos _
theorem own_klt {a n : Nat} (i : Nat) (q : i < n) (h : a + n ≤ 4000) : Int32.ofNat i < Int32.ofNat n := own_plt _ (by omega) q
theorem own_kge {n : Nat} (i : Nat) (q : n ≤ i) (h : i < 1000 := by decide) : ¬ Int32.ofNat i < Int32.ofNat n := own_pge _ (by omega) q
theorem own_ix {off d : Int32} {a n i : Nat} (ho : off = Int32.ofNat a) (hd : d = Int32.ofNat n) (q : i < n) : off + d - (1 : Int32) - Int32.ofNat i = Int32.ofNat (a + (n - 1 - i)) := by
  have e : a + n = a + (n - 1 - i) + i + 1 := by omega
  rw [ho, hd, ← Int32.ofNat_add, e, Int32.ofNat_add _ 1, Int32.ofNat_add _ i]
  generalize Int32.ofNat (a + (n - 1 - i)) = b
  show b + Int32.ofNat i + (1 : Int32) - (1 : Int32) - Int32.ofNat i = b
  rw [Int32.add_sub_cancel, Int32.add_sub_cancel]
theorem own_ixl {cs pre suf : List Int32} {nv i : Nat} (hcs : cs = pre ++ own_dg nv ++ suf) (q : i < (own_dg nv).length) : pre.length + ((own_dg nv).length - 1 - i) < cs.length := by
  rw [hcs, List.length_append, List.length_append]; omega
theorem own_dgat (n : Nat) : ∀ i, i < (own_dg n).length → (own_dg n)[(own_dg n).length - 1 - i]? = some (Int32.ofNat (48 + n / 10 ^ i % 10)) := by
  induction n using Nat.strongRecOn with
  | ind n ih =>
    intro i hi
    by_cases h : n < 10
    · rw [own_len1 h] at hi
      obtain rfl : i = 0 := by omega
      rw [own_dg1 h, Nat.pow_zero, Nat.div_one]; rfl
    · rw [own_dgS (by omega)] at hi ⊢
      rw [List.length_append] at hi ⊢
      simp only [List.length_cons, List.length_nil, Nat.zero_add] at hi ⊢
      cases i with
      | zero => rw [Nat.pow_zero, Nat.div_one, List.getElem?_append_right (by omega), show (own_dg (n / 10)).length + 1 - 1 - 0 - (own_dg (n / 10)).length = 0 by omega]; rfl
      | succ i =>
        rw [List.getElem?_append_left (by omega), show (own_dg (n / 10)).length + 1 - 1 - (i + 1) = (own_dg (n / 10)).length - 1 - i by omega, ih (n / 10) (by omega) i (by omega), Nat.div_div_eq_div_mul, Nat.pow_succ, Nat.mul_comm 10]
theorem own_atd {cs pre suf : List Int32} {nv i : Nat} (hcs : cs = pre ++ own_dg nv ++ suf) (q : i < (own_dg nv).length) : cs.getD (pre.length + ((own_dg nv).length - 1 - i)) 0 = Int32.ofNat (48 + nv / 10 ^ i % 10) := by
  rw [hcs, List.getD_eq_getElem?_getD, List.getElem?_append_left (by rw [List.length_append]; omega), List.getElem?_append_right (by omega), Nat.add_sub_cancel_left, own_dgat nv i q]; rfl
abbrev own_R (hs_ : List Int32) (np nd : Nat) : List Int32 := ([114, 101, 100, 105, 115, 58, 47, 47] : List Int32) ++ hs_ ++ ([58] : List Int32) ++ own_dg np ++ ([47] : List Int32) ++ own_dg nd
theorem own_resl (hs_ : List Int32) (np nd : Nat) : (own_R hs_ np nd).length = 8 + hs_.length + 1 + (own_dg np).length + 1 + (own_dg nd).length := by
  simp only [List.length_append, List.length_cons, List.length_nil]
theorem own_getm (p s : List Int32) (c : Int32) {k : Nat} (hk : k = p.length) : (p ++ [c] ++ s).getD k 0 = c := by
  rw [hk, List.getD_eq_getElem?_getD, List.append_assoc, List.getElem?_append_right (Nat.le_refl _), Nat.sub_self]; rfl
theorem own_get1 (hs_ : List Int32) (np nd : Nat) : (own_R hs_ np nd).getD (8 + hs_.length) 0 = 58 := by
  rw [own_R, List.append_assoc, List.append_assoc]
  exact own_getm _ _ _ (by simp only [List.length_append, List.length_cons, List.length_nil])
theorem own_get2 (hs_ : List Int32) (np nd : Nat) : (own_R hs_ np nd).getD (8 + hs_.length + 1 + (own_dg np).length) 0 = 47 :=
  own_getm _ _ _ (by simp only [List.length_append, List.length_cons, List.length_nil])
theorem own_pre1 (hs_ : List Int32) : Int32.ofNat (8 + hs_.length + 1) = Int32.ofNat (([114, 101, 100, 105, 115, 58, 47, 47] : List Int32) ++ hs_ ++ ([58] : List Int32)).length := by
  simp only [List.length_append, List.length_cons, List.length_nil]
theorem own_asc1 (hs_ : List Int32) (np nd : Nat) : (own_R hs_ np nd) = (([114, 101, 100, 105, 115, 58, 47, 47] : List Int32) ++ hs_ ++ ([58] : List Int32)) ++ own_dg np ++ (([47] : List Int32) ++ own_dg nd) := by
  rw [own_R, List.append_assoc _ [47] _]
theorem own_pre2 (hs_ : List Int32) (np : Nat) : Int32.ofNat (8 + hs_.length + 1 + (own_dg np).length + 1) = Int32.ofNat (([114, 101, 100, 105, 115, 58, 47, 47] : List Int32) ++ hs_ ++ ([58] : List Int32) ++ own_dg np ++ ([47] : List Int32)).length := by
  simp only [List.length_append, List.length_cons, List.length_nil]
theorem own_lenE (hs_ : List Int32) (np nd : Nat) : Int32.ofNat (own_R hs_ np nd).length = ((((((8 : Int32) + Int32.ofNat hs_.length) + (1 : Int32)) + Int32.ofNat (own_dg np).length) + (1 : Int32)) + Int32.ofNat (own_dg nd).length) := by
  rw [own_resl, Int32.ofNat_add, Int32.ofNat_add, Int32.ofNat_add, Int32.ofNat_add, Int32.ofNat_add]; rfl
theorem own_tkl {c0 c1 c2 : Int32} {k : Nat} (h : k ≤ 3) : (([c0, c1, c2] : List Int32).take k).length ≤ 3 := by
  rw [List.length_take]; exact Nat.le_trans (Nat.min_le_left _ _) h
theorem own_tkr {c0 c1 c2 : Int32} {k : Nat} (r0 : ¬ c0 < 0 ∧ ¬ (255 : Int32) < c0) (r1 : ¬ c1 < 0 ∧ ¬ (255 : Int32) < c1) (r2 : ¬ c2 < 0 ∧ ¬ (255 : Int32) < c2) : ∀ c ∈ ([c0, c1, c2] : List Int32).take k, ¬ c < 0 ∧ ¬ (255 : Int32) < c :=
  fun c hc => (own_cS (P := fun c => ¬ c < 0 ∧ ¬ (255 : Int32) < c) r0 (own_cS r1 (own_cS r2 own_c0))) c (List.mem_of_mem_take hc)
theorem own_hostL {c0 c1 c2 : Int32} {k : Nat} (h : k ≤ 3) : (own_host (([c0, c1, c2] : List Int32).take k)).length ≤ 5 := by
  have q := own_tkl (c0 := c0) (c1 := c1) (c2 := c2) h
  rw [own_host]; split
  · simp only [List.length_append, List.length_cons, List.length_nil]; omega
  · omega
theorem own_hostR {cs : List Int32} (r : ∀ c ∈ cs, ¬ c < 0 ∧ ¬ (255 : Int32) < c) : ∀ c ∈ own_host cs, ¬ c < 0 ∧ ¬ (255 : Int32) < c := by
  intro c hc
  rw [own_host] at hc; split at hc
  · rcases List.mem_append.mp hc with hc | hc
    · rcases List.mem_append.mp hc with hc | hc
      · rw [List.mem_singleton.mp hc]; decide
      · exact r c hc
    · rw [List.mem_singleton.mp hc]; decide
  · exact r c hc
theorem own_apR {as bs : List Int32} (r : ∀ c ∈ as, ¬ c < 0 ∧ ¬ (255 : Int32) < c) (r2 : ∀ c ∈ bs, ¬ c < 0 ∧ ¬ (255 : Int32) < c) : ∀ c ∈ as ++ bs, ¬ c < 0 ∧ ¬ (255 : Int32) < c :=
  fun c hc => (List.mem_append.mp hc).elim (r c) (r2 c)
theorem own_resr (hs_ : List Int32) (np nd : Nat) (r : ∀ c ∈ hs_, ¬ c < 0 ∧ ¬ (255 : Int32) < c) : ∀ c ∈ (own_R hs_ np nd), ¬ c < 0 ∧ ¬ (255 : Int32) < c :=
  own_apR (own_apR (own_apR (own_apR (own_apR (by decide) r) (by decide)) (own_dgR np)) (by decide)) (own_dgR nd)
theorem own_tke {c0 c1 c2 : Int32} {k : Nat} (h : k ≤ 3) : (([c0, c1, c2] : List Int32).take k).length = k := by
  rw [List.length_take]; exact Nat.min_eq_left h
theorem own_hl1 {c0 c1 c2 : Int32} {k : Nat} (h : k ≤ 3) (hm : (58 : Int32) ∈ ([c0, c1, c2] : List Int32).take k) : Int32.ofNat k + (2 : Int32) = Int32.ofNat (own_host (([c0, c1, c2] : List Int32).take k)).length := by
  rw [own_host, if_pos hm, List.length_append, List.length_append, own_tke h, Nat.add_comm [91].length k, Nat.add_assoc, Int32.ofNat_add]; rfl
theorem own_hl0 {c0 c1 c2 : Int32} {k : Nat} (h : k ≤ 3) (hm : ¬ (58 : Int32) ∈ ([c0, c1, c2] : List Int32).take k) : Int32.ofNat k = Int32.ofNat (own_host (([c0, c1, c2] : List Int32).take k)).length := by
  rw [own_host, if_neg hm, own_tke h]
theorem own_gc0 {c0 c1 c2 : Int32} {k np nd : Nat} (h : k ≤ 3) : ∀ i, i < k → (own_R (([c0, c1, c2] : List Int32).take k) np nd).getD (8 + i) 0 = ([c0, c1, c2] : List Int32).getD i 0 := by
  intro i hi
  obtain rfl | rfl | rfl : k = 1 ∨ k = 2 ∨ k = 3 := by omega
  · obtain rfl : i = 0 := by omega
    rfl
  · obtain rfl | rfl : i = 0 ∨ i = 1 := by omega
    all_goals rfl
  · obtain rfl | rfl | rfl : i = 0 ∨ i = 1 ∨ i = 2 := by omega
    all_goals rfl
theorem own_gc1 {c0 c1 c2 : Int32} {k np nd : Nat} (h : k ≤ 3) : ∀ i, i < k → (own_R ([91] ++ ([c0, c1, c2] : List Int32).take k ++ [93]) np nd).getD (9 + i) 0 = ([c0, c1, c2] : List Int32).getD i 0 := by
  intro i hi
  obtain rfl | rfl | rfl : k = 1 ∨ k = 2 ∨ k = 3 := by omega
  · obtain rfl : i = 0 := by omega
    rfl
  · obtain rfl | rfl : i = 0 ∨ i = 1 := by omega
    all_goals rfl
  · obtain rfl | rfl | rfl : i = 0 ∨ i = 1 ∨ i = 2 := by omega
    all_goals rfl
theorem own_gb {c0 c1 c2 : Int32} {k : Nat} (h : k ≤ 3) : 9 + k + 1 = 8 + ([91] ++ ([c0, c1, c2] : List Int32).take k ++ [93]).length := by
  rw [List.length_append, List.length_append, own_tke h]; simp only [List.length_cons, List.length_nil]; omega
theorem own_gb0 {c0 c1 c2 : Int32} {k : Nat} (h : k ≤ 3) : 8 + k = 8 + (([c0, c1, c2] : List Int32).take k).length := by rw [own_tke h]
theorem own_gb1 {c0 c1 c2 : Int32} {k np nd : Nat} (h : k ≤ 3) : (own_R ([91] ++ ([c0, c1, c2] : List Int32).take k ++ [93]) np nd).getD (9 + k) 0 = 93 := by
  obtain rfl | rfl | rfl | rfl : k = 0 ∨ k = 1 ∨ k = 2 ∨ k = 3 := by omega
  all_goals rfl
theorem own_tbl {a : Array Value} {s : State} {name : String} {rhs : Term} {F : Nat → Nat} (w1 : (Cond.exactly (Term.static "java/lang/Integer" name "[B") "[B").before a s = true) (w2 : (Cond.eq (Term.length (Term.static "java/lang/Integer" name "[B")) (Term.int (100 : Int32))).before a s = true)
    (w3 : (Cond.all (Term.static "java/lang/Integer" name "[B") (Cond.eq (Term.elem (Term.static "java/lang/Integer" name "[B") (Term.index 0)) rhs)).before a s = true) (w4 : (Cond.initializedFor "java/lang/Integer" name "[B").before a s = true) (harr : (Cond.arrayClass .byte).before a s = true)
    (hrhs : ∀ r, r < 100 → rhs.eval a s none [r] s = some (.int (Int32.ofNat (F r)))) (hF : ∀ r, r < 100 → fits .byte (.int (Int32.ofNat (F r))) = true) :
    ∃ d k, Sta s s.heap "java/lang/Integer" name "[B" (.ref d) ∧ Arv s s.heap d k .byte (100 : Int32) ((List.range 100).map fun i => Value.int (Int32.ofNat (F i))) (.int 0) := by
  obtain ⟨d, cB, D, kB, hev, hfcB, hcellD, hkB, hstatD, hclsD, -⟩ := Cond.exactly_spec w1
  have hevAll : ∀ idx, (Term.static "java/lang/Integer" name "[B").eval a s none idx s = some (.ref d) := fun idx => by
    have : (Term.static "java/lang/Integer" name "[B").eval a s none idx s = (Term.static "java/lang/Integer" name "[B").eval a s none [] s := by simp only [Term.eval]
    rw [this]; exact hev
  have hl := Cond.eq_int w2 rfl
  obtain ⟨d', D', hev', harrAt, hlen⟩ := Term.length_spec hl
  cases hev.symm.trans hev'
  obtain ⟨hcellD', hknD, -, -⟩ := State.arrayAt?_spec harrAt
  cases hcellD.symm.trans hcellD'
  have h31 := Jvm.Free.SBG.length_lt hev harrAt hl
  have hsz : D.slots.size = 100 := by
    have h2 : Int32.ofNat D.slots.size = Int32.ofNat 100 := (Value.int.inj hlen).symm
    have := congrArg Int32.toInt h2
    rw [Int32.toInt_ofNat_of_lt (by omega), Int32.toInt_ofNat_of_lt (by omega)] at this; omega
  obtain ⟨cB', kB', comp, hnameB, hkB', hkindB⟩ := Cond.arrayClass_spec harr
  have eBA : ("[" ++ FieldType.toString .byte) = "[B" := by decide
  rw [eBA] at hnameB
  cases hfcB.symm.trans hnameB
  cases hkB.symm.trans hkB'
  have hel : ∀ r, r < 100 → D.slots[r]? = some (.int (Int32.ofNat (F r))) := fun r hr => by
    have h := Cond.all_elim (hevAll []) harrAt (Jvm.Free.AList.val_of_holds w3) r (by omega)
    rw [← Jvm.Free.SBG.elem_at (ix := .index 0) (hevAll [r]) harrAt (by omega) (by omega) rfl]
    exact Cond.eq_int (Jvm.Free.SBG.holds_of_value h) (hrhs r hr)
  have hg : ∀ r, r < 100 → ((List.range 100).map fun i => Value.int (Int32.ofNat (F i))).getD r (.int 0) = .int (Int32.ofNat (F r)) := fun r hr => by
    rw [List.getD_eq_getElem?_getD, List.getElem?_map, List.getElem?_range hr]; rfl
  refine ⟨d, _, Sta.start hev (Or.inl w4), D, ⟨hcellD, ⟨(fun q h => by rw [h] at hstatD; cases hstatD), kB, (by rw [hclsD]; exact hkB), comp, hkindB⟩, hknD⟩, rfl, by rw [hsz]; rfl, by decide, fun j hj => ?_, fun j hj => ?_⟩
  · rw [hsz] at hj; rw [hg j hj]; exact hel j hj
  · rw [hsz] at hj; rw [hg j hj]; exact hF j hj
theorem own_f1 : ∀ r, r < 100 → fits .byte (.int (Int32.ofNat (48 + r % 10))) = true := by decide +kernel
theorem own_f2 : ∀ r, r < 100 → fits .byte (.int (Int32.ofNat (48 + r / 10))) = true := by decide +kernel
theorem own_o1 : ∀ r, r < 100 → (48 : Int32) + Int32.ofNat r % 10 = Int32.ofNat (48 + r % 10) := by decide +kernel
theorem own_o2 : ∀ r, r < 100 → (48 : Int32) + Int32.ofNat r / 10 = Int32.ofNat (48 + r / 10) := by decide +kernel
theorem rmIn1 (l : Launch) (Z : State) (a0 : Array Value) (hw : HW_ a0 Z) (sb : Addr) (G1 : Int32) (h0 : Heap) (n0 : Nat) (Z0 : n0 ≤ h0.size) (ge_sb : n0 ≤ sb) (P0_Old : Old Z n0 h0) (P1_Exa : Exa Z h0 sb "java/lang/StringBuilder") (P2_Fld : Fld Z h0 sb "java/lang/AbstractStringBuilder" "value" "[B" .null) (P3_Fld : Fld Z h0 sb "java/lang/AbstractStringBuilder" "coder" "B" (.int 0)) (P4_Fld : Fld Z h0 sb "java/lang/AbstractStringBuilder" "count" "I" (.int 0)) (O2 : Sta Z Z.heap "java/lang/String" "COMPACT_STRINGS" "Z" (.int G1)) (P5 : ¬ G1 = (0 : Int32)) :
    CtP l Y8 jdk_68_method_2_code 2 none [] ({ frames := 1, cells := 1, slots := 16, locals := 12 } : Room) Z #[(.ref sb), (.int 16)] h0 (fun v h L => ∃ (va : Addr), ∃ (kv : ClassId), v = none ∧ Fr n0 L ∧ Keep h0 h [sb] ∧ h0.size ≤ va ∧ Fld Z h sb "java/lang/AbstractStringBuilder" "value" "[B" (.ref va) ∧ Fld Z h sb "java/lang/AbstractStringBuilder" "coder" "B" (.int 0) ∧ Fld Z h sb "java/lang/AbstractStringBuilder" "count" "I" (.int (Int32.ofNat ([] : List Int32).length)) ∧ Arv Z h va kv .byte (16 : Int32) ((([] : List Int32).map fun c => c.toInt8.toInt32).map Value.int) (.int 0) ∧ Z.vm.findClass "[B" = some kv) := by
  refine CtP.walk (Ls := #[.val (.ref sb), .val (.int 16)]) (plainFor_of_name own_pn0) (fun m => by first | (simp [entryFrame, mkF, argsToLocals, Value.category]; done) | rfl) ?_
  intro p e s m below meth cc_ T hx hby hml hown hnm hret hlk hZ X eT
  have N := Fr.nil n0
  have K0 := Keep.refl h0 [sb]
  have sz_h : h0.size ≤ h0.size := Nat.le_refl _
  refine galoadN (v := (.ref sb)) X hx 1 (hb hby D13_0) rfl rfl rfl ?_
  refine ginitO X hx hZ hown (u88 hw) (u26 hw) (u27 hw) eT (by rw [hml]; rfl) (by decide) 0 (Nat.le_of_eq rfl) (by decide) 4 (hb hby D13_1) rfl ?_
  clear X eT; clear T; intro T X eT
  refine ggetS X hx hZ (host := "") hown (Or.inl (u89 hw)) Via.refl eT (O2.ext P0_Old.2) 7 (hb hby D13_4) rfl ?_
  clear X eT; clear T; intro T X eT
  refine gifNo X hx 10 (hb hby D13_7) rfl ((if0 _ _).trans (feq P5).1) ?_
  refine galoadN (v := (.ref sb)) X hx 11 (hb hby D13_10) rfl rfl rfl ?_
  refine giloadN (v := (16 : Int32)) X hx 12 (hb hby D13_11) rfl rfl ?_
  refine gnewPK (aty := .byte) X hx hZ (ad := "[B") (by decide) (u7 hw) eT (n := (16 : Int32)) (by decide) 16 (by decide) (by decide) 1 16 rfl rfl (by decide) (by decide) 14 (hb hby D13_12) rfl ?_
  clear X eT; clear T; intro T h1 b2 kc5 X eT ga E3 V4 fk_b2
  have le_a := Nat.le_of_eq ga.symm
  have ne_sb_b2 : sb ≠ b2 := Nat.ne_of_lt (Nat.lt_of_lt_of_le P1_Exa.lt le_a)
  have ne_b2_sb : b2 ≠ sb := Ne.symm ne_sb_b2
  have sz_b2 : h0.size ≤ b2 := Nat.le_trans sz_h le_a
  have ge_b2 : n0 ≤ b2 := Nat.le_trans Z0 sz_b2
  clear le_a ga
  replace P0_Old := P0_Old.ext E3
  replace P1_Exa := P1_Exa.ext E3
  replace P2_Fld := P2_Fld.ext E3
  replace P3_Fld := P3_Fld.ext E3
  replace P4_Fld := P4_Fld.ext E3
  replace K0 := K0.ext E3
  replace sz_h : h0.size ≤ h1.size := Nat.le_trans sz_h E3.1
  replace V4 : Arv Z h1 b2 kc5 .byte (16 : Int32) [(.int 0), (.int 0), (.int 0), (.int 0), (.int 0), (.int 0), (.int 0), (.int 0), (.int 0), (.int 0), (.int 0), (.int 0), (.int 0), (.int 0), (.int 0), (.int 0)] (.int 0) := V4.pad (pad_rep [] _ 16)
  refine gputF X hx hZ (host := "") hown (Or.inl (u90 hw)) Via.refl eT P2_Fld P1_Exa (Or.inl (u91 hw)) (u77 hw) (ty := (.array .byte)) own_pf0 rfl rfl N ge_sb 17 (hb hby D13_14) rfl ?_
  clear X eT N; clear T; intro T h6 L X eT N W7
  replace P0_Old := P0_Old.wr W7 ge_sb
  replace P1_Exa := P1_Exa.wr W7
  replace P2_Fld := P2_Fld.same W7
  replace P3_Fld := P3_Fld.other W7 (Or.inr (slot_ne (Or.inl (u93 hw)) (Or.inl (u91 hw)) (by decide) own_pf1 own_pf0))
  replace P4_Fld := P4_Fld.other W7 (Or.inr (slot_ne (Or.inl (u111 hw)) (Or.inl (u91 hw)) (by decide) own_pf2 own_pf0))
  replace V4 := V4.other W7 ne_b2_sb
  replace K0 := K0.wr W7 (Or.inl (List.mem_of_getElem? (i := 0) rfl))
  replace sz_h : h0.size ≤ h6.size := by rw [Wr.size W7]; exact sz_h
  refine galoadN (v := (.ref sb)) X hx 18 (hb hby D13_17) rfl rfl rfl ?_
  refine giconst X hx (0 : Int32) 19 (hb hby D13_18) rfl rfl ?_
  refine gputF X hx hZ (host := "") hown (Or.inl (u92 hw)) Via.refl eT P3_Fld P1_Exa (Or.inl (u93 hw)) (u77 hw) (ty := .byte) own_pf1 rfl rfl N ge_sb 22 (hb hby D13_19) rfl ?_
  clear X eT N; clear T; intro T h8 L X eT N W9
  replace P0_Old := P0_Old.wr W9 ge_sb
  replace P1_Exa := P1_Exa.wr W9
  replace P2_Fld := P2_Fld.other W9 (Or.inr (slot_ne (Or.inl (u91 hw)) (Or.inl (u93 hw)) (by decide) own_pf0 own_pf1))
  replace P3_Fld := P3_Fld.same W9
  replace P4_Fld := P4_Fld.other W9 (Or.inr (slot_ne (Or.inl (u111 hw)) (Or.inl (u93 hw)) (by decide) own_pf2 own_pf1))
  replace V4 := V4.other W9 ne_b2_sb
  replace K0 := K0.wr W9 (Or.inl (List.mem_of_getElem? (i := 0) rfl))
  replace sz_h : h0.size ≤ h8.size := by rw [Wr.size W9]; exact sz_h
  refine ggoto X hx 38 (hb hby D13_22) (by decide) (by decide) ?_
  replace V4 : Arv Z h8 b2 kc5 .byte (16 : Int32) ((([] : List Int32).map fun c => c.toInt8.toInt32).map Value.int) (.int 0) := V4.pad (fun i => (pad_rep [] _ 16 i).symm)
  exact gRetP0 X hx hlk hret (hb hby D13_38) eT (by decide) (by decide) ⟨b2, kc5, rfl, N, K0, sz_b2, P2_Fld, P3_Fld, P4_Fld, V4, fk_b2⟩
theorem rmIn0 (l : Launch) (Z : State) (a0 : Array Value) (hw : HW_ a0 Z) (sb : Addr) (G1 : Int32) (h0 : Heap) (n0 : Nat) (Z0 : n0 ≤ h0.size) (ge_sb : n0 ≤ sb) (P0_Old : Old Z n0 h0) (P1_Exa : Exa Z h0 sb "java/lang/StringBuilder") (P2_Fld : Fld Z h0 sb "java/lang/AbstractStringBuilder" "value" "[B" .null) (P3_Fld : Fld Z h0 sb "java/lang/AbstractStringBuilder" "coder" "B" (.int 0)) (P4_Fld : Fld Z h0 sb "java/lang/AbstractStringBuilder" "count" "I" (.int 0)) (O2 : Sta Z Z.heap "java/lang/String" "COMPACT_STRINGS" "Z" (.int G1)) (P5 : ¬ G1 = (0 : Int32)) :
    CtP l Y36 jdk_67_method_1_code 1 none [] ({ frames := 2, cells := 1, slots := 16, locals := 25 } : Room) Z #[(.ref sb)] h0 (fun v h L => ∃ (va : Addr), ∃ (kv : ClassId), v = none ∧ Fr n0 L ∧ Keep h0 h [sb] ∧ h0.size ≤ va ∧ Fld Z h sb "java/lang/AbstractStringBuilder" "value" "[B" (.ref va) ∧ Fld Z h sb "java/lang/AbstractStringBuilder" "coder" "B" (.int 0) ∧ Fld Z h sb "java/lang/AbstractStringBuilder" "count" "I" (.int (Int32.ofNat ([] : List Int32).length)) ∧ Arv Z h va kv .byte (16 : Int32) ((([] : List Int32).map fun c => c.toInt8.toInt32).map Value.int) (.int 0) ∧ Z.vm.findClass "[B" = some kv) := by
  refine CtP.walk (Ls := #[.val (.ref sb)]) (plainFor_of_name own_pn1) (fun m => by first | (simp [entryFrame, mkF, argsToLocals, Value.category]; done) | rfl) ?_
  intro p e s m below meth cc_ T hx hby hml hown hnm hret hlk hZ X eT
  have N := Fr.nil n0
  have K0 := Keep.refl h0 [sb]
  have sz_h : h0.size ≤ h0.size := Nat.le_refl _
  refine galoadN (v := (.ref sb)) X hx 1 (hb hby D12_0) rfl rfl rfl ?_
  refine gbipush X hx (16 : Int32) 3 (hb hby D12_1) rfl rfl ?_
  refine gspecial (y := Y8) (a := sb) (argsL := [(.int 16)]) (st := []) X hx hZ hown rfl (u82 hw) (u83 hw) (u87 hw) (by decide) (payP (W := 0) (rmIn1 l Z a0 hw (sb) (G1) h0 n0 (Nat.le_trans Z0 sz_h) ge_sb P0_Old P1_Exa P2_Fld P3_Fld P4_Fld (O2) (P5)) hZ (u87 hw) (u86 hw) (by decide) (by decide)) eT (by rw [hml]; rfl) (lenOf own_pd0 rfl) rfl (Nat.le_of_eq rfl) 1 16 rfl rfl (by decide) (by decide) 6 (hb hby D12_3) rfl ?_
  clear X eT; clear T; intro v T h1 L2 Lc X eT hL hQ2
  obtain ⟨va_3, kv_4, rfl, Nq, K5, zz_va_3, G7, G8, G9, G10, pp11⟩ := hQ2
  replace N : Fr n0 L2 := by rw [hL]; exact Fr.app N Nq
  clear Nq hL
  have ne_sb_va_3 : sb ≠ va_3 := Nat.ne_of_lt (Nat.lt_of_lt_of_le P1_Exa.lt zz_va_3)
  have ne_va_3_sb : va_3 ≠ sb := Ne.symm ne_sb_va_3
  have sz_va_3 : h0.size ≤ va_3 := Nat.le_trans sz_h zz_va_3
  have ge_va_3 : n0 ≤ va_3 := Nat.le_trans Z0 sz_va_3
  replace P0_Old := P0_Old.keep K5 (allS ge_sb all0)
  replace P1_Exa := P1_Exa.keep K5
  replace K0 := K0.trans K5 (allS (Or.inl (List.mem_of_getElem? (i := 0) rfl)) all0)
  replace sz_h : h0.size ≤ h1.size := Nat.le_trans sz_h K5.1
  show Go p e below _ T (mkF m 6 _ [])
  exact gRetP0 X hx hlk hret (hb hby D12_6) eT (by decide) (by decide) ⟨va_3, kv_4, rfl, N, K0, sz_va_3, G7, G8, G9, G10, pp11⟩
theorem rm9 (l : Launch) (Z : State) (a0 : Array Value) (hw : HW_ a0 Z) (x : Addr) (G1 : Int32) (h0 : Heap) (n0 : Nat) (Z0 : n0 ≤ h0.size) (P0_Old : Old Z n0 h0) (P1_Fld : Fld Z h0 x "java/lang/String" "coder" "B" (.int 0)) (O2 : Sta Z Z.heap "java/lang/String" "COMPACT_STRINGS" "Z" (.int G1)) (P5 : ¬ G1 = (0 : Int32)) :
    CtP l Y28 jdk_42_method_152_code 1 (some .byte) [] ({ frames := 0, cells := 0, slots := 0, locals := 0 } : Room) Z #[(.ref x)] h0 (fun v h L => v = some (.int 0) ∧ Fr n0 L ∧ h = h0) := by
  refine CtP.walk (Ls := #[.val (.ref x)]) own_pn2 (fun m => by first | (simp [entryFrame, mkF, argsToLocals, Value.category]; done) | rfl) ?_
  intro p e s m below meth cc_ T hx hby hml hown hnm hret hlk hZ X eT
  have N := Fr.nil n0
  have sz_h : h0.size ≤ h0.size := Nat.le_refl _
  refine ggetS X hx hZ (host := "") hown (Or.inl (u64 hw)) Via.refl eT (O2.ext P0_Old.2) 3 (hb hby D9_0) rfl ?_
  clear X eT; clear T; intro T X eT
  refine gifNo X hx 6 (hb hby D9_3) rfl ((if0 _ _).trans (feq P5).1) ?_
  refine galoadN (v := (.ref x)) X hx 7 (hb hby D9_6) rfl rfl rfl ?_
  refine ggetF X hx hZ (host := "") hown (Or.inl (u65 hw)) Via.refl eT P1_Fld 10 (hb hby D9_7) rfl ?_
  clear X eT; clear T; intro T X eT
  refine ggoto X hx 14 (hb hby D9_10) (by decide) (by decide) ?_
  exact gRetP X hx hlk hret rfl (Or.inl ⟨rfl, by simp, _, rfl⟩) (hb hby D9_14) eT (by decide) (by decide) ⟨rfl, N, rfl⟩
theorem rmLnS (l : Launch) (Z : State) (a0 : Array Value) (hw : HW_ a0 Z) (x : Addr) (t : Addr) (kt : ClassId) (zz : Int32) (vs0 : List Value) (G1 : Int32) (h0 : Heap) (n0 : Nat) (Z0 : n0 ≤ h0.size) (P0_Old : Old Z n0 h0) (P1_Exa : Exa Z h0 x "java/lang/String") (P2_Fld : Fld Z h0 x "java/lang/String" "coder" "B" (.int 0)) (P3_Fld : Fld Z h0 x "java/lang/String" "value" "[B" (.ref t)) (P4_Arv : Arv Z h0 t kt .byte zz vs0 (.int 0)) (O2 : Sta Z Z.heap "java/lang/String" "COMPACT_STRINGS" "Z" (.int G1)) (P5 : ¬ G1 = (0 : Int32)) :
    CtP l Y33 jdk_42_method_54_code 1 (some .int) [] ({ frames := 1, cells := 0, slots := 0, locals := 13 } : Room) Z #[(.ref x)] h0 (fun v h L => v = some (.int zz) ∧ Fr n0 L ∧ h = h0) := by
  refine CtP.walk (Ls := #[.val (.ref x)]) own_pn3 (fun m => by first | (simp [entryFrame, mkF, argsToLocals, Value.category]; done) | rfl) ?_
  intro p e s m below meth cc_ T hx hby hml hown hnm hret hlk hZ X eT
  have N := Fr.nil n0
  have sz_h : h0.size ≤ h0.size := Nat.le_refl _
  refine galoadN (v := (.ref x)) X hx 1 (hb hby D16_0) rfl rfl rfl ?_
  refine ggetF X hx hZ (host := "") hown (Or.inl (u71 hw)) Via.refl eT P3_Fld 4 (hb hby D16_1) rfl ?_
  clear X eT; clear T; intro T X eT
  refine garrlen X hx hZ eT P4_Arv 5 (hb hby D16_4) rfl ?_
  refine galoadN (v := (.ref x)) X hx 6 (hb hby D16_5) rfl rfl rfl ?_
  refine gvirtual (y := Y28) (z := Y28) (a := x) (argsL := []) (st := [(.int zz)]) X hx hZ hown (u59 hw) (u60 hw) (notFace_of_selects (args := #[]) (mvT hZ (u62 hw))) (u62 hw) (u61 hw) (by decide) P1_Exa (payP (W := 1) (rm9 l Z a0 hw (x) (G1) h0 n0 (Nat.le_trans Z0 sz_h) P0_Old P2_Fld (O2) (P5)) hZ (u63 hw) (u5 hw) (by decide) (by decide)) eT (by rw [hml]; rfl) (lenOf own_pd1 rfl) rfl (Nat.le_of_eq rfl) 0 0 rfl rfl (by decide) (by decide) 9 (hb hby D16_6) rfl (gcut N ?_)
  clear X eT N; clear T; intro T L X eT N
  refine gishr X hx 10 (hb hby D16_9) rfl ?_
  exact gRetP X hx hlk hret rfl (Or.inl ⟨rfl, by simp, _, rfl⟩) (hb hby D16_10) eT (by decide) (by decide) ⟨(by rw [own_shr0]), N, rfl⟩
theorem rmMxS (l : Launch) (Z : State) (a0 : Array Value) (hw : HW_ a0 Z) (gg : Int32) (h0 : Heap) (n0 : Nat) (Z0 : n0 ≤ h0.size) (hG : gg < (18 : Int32)) :
    CtP l Y20 jdk_29_method_65_code 2 (some .int) [] ({ frames := 0, cells := 0, slots := 0, locals := 0 } : Room) Z #[(.int gg), (.int 18)] h0 (fun v h L => v = some (.int 18) ∧ Fr n0 L ∧ h = h0) := by
  refine CtP.walk (Ls := #[.val (.int gg), .val (.int 18)]) own_pn4 (fun m => by first | (simp [entryFrame, mkF, argsToLocals, Value.category]; done) | rfl) ?_
  intro p e s m below meth cc_ T hx hby hml hown hnm hret hlk hZ X eT
  have N := Fr.nil n0
  have sz_h : h0.size ≤ h0.size := Nat.le_refl _
  refine giloadN (v := gg) X hx 1 (hb hby D57_0) rfl rfl ?_
  refine giloadN (v := (18 : Int32)) X hx 2 (hb hby D57_1) rfl rfl ?_
  refine gicmpYes X hx 9 (hb hby D57_2) (tlt hG).1 (by decide) (by decide) ?_
  refine giloadN (v := (18 : Int32)) X hx 10 (hb hby D57_9) rfl rfl ?_
  exact gRetP X hx hlk hret rfl (Or.inl ⟨rfl, by simp, _, rfl⟩) (hb hby D57_10) eT (by decide) (by decide) ⟨rfl, N, rfl⟩
theorem rmNLS (l : Launch) (Z : State) (a0 : Array Value) (hw : HW_ a0 Z) (gg : Int32) (h0 : Heap) (n0 : Nat) (Z0 : n0 ≤ h0.size) (hG : gg < (18 : Int32)) :
    CtP l Y49 jdk_48_method_27_code 4 (some .int) [] ({ frames := 1, cells := 0, slots := 0, locals := 14 } : Room) Z #[(.int 16), (.int gg), (.int 18)] h0 (fun v h L => v = some (.int 34) ∧ Fr n0 L ∧ h = h0) := by
  refine CtP.walk (Ls := #[.val (.int 16), .val (.int gg), .val (.int 18), .unset]) (plainFor_of_name own_pn5) (fun m => by first | (simp [entryFrame, mkF, argsToLocals, Value.category]; done) | rfl) ?_
  intro p e s m below meth cc_ T hx hby hml hown hnm hret hlk hZ X eT
  have N := Fr.nil n0
  have sz_h : h0.size ≤ h0.size := Nat.le_refl _
  refine giloadN (v := (16 : Int32)) X hx 1 (hb hby D56_0) rfl rfl ?_
  refine giloadN (v := gg) X hx 2 (hb hby D56_1) rfl rfl ?_
  refine giloadN (v := (18 : Int32)) X hx 3 (hb hby D56_2) rfl rfl ?_
  refine gstatic (y := Y20) (argsL := [(.int gg), (.int 18)]) (st := [(.int 16)]) X hx hZ hown (u281 hw) (u282 hw) (u200 hw) (u283 hw) (by decide) (payP (W := 1) (rmMxS l Z a0 hw (gg) h0 n0 (Nat.le_trans Z0 sz_h) (hG)) hZ (u283 hw) (u200 hw) (by decide) (by decide)) eT (by rw [hml]; rfl) (lenOf own_pd2 rfl) rfl (Nat.le_of_eq rfl) 0 0 rfl rfl (by decide) (by decide) 6 (hb hby D56_3) rfl (gcut N ?_)
  clear X eT N; clear T; intro T L X eT N
  refine giadd X hx 7 (hb hby D56_6) rfl ?_
  rw [show ((16 : Int32) + (18 : Int32)) = (34 : Int32) from by decide]
  refine gistoreN X hx #[.val (.int 16), .val (.int gg), .val (.int 18), .val (.int 34)] 8 (hb hby D56_7) rfl rfl ?_
  refine giconst X hx (0 : Int32) 9 (hb hby D56_8) rfl rfl ?_
  refine giloadN (v := (34 : Int32)) X hx 10 (hb hby D56_9) rfl rfl ?_
  refine gicmpNo X hx 13 (hb hby D56_10) rfl (by decide) ?_
  refine giloadN (v := (34 : Int32)) X hx 14 (hb hby D56_13) rfl rfl ?_
  refine gldcI X hx hZ hown (u284 hw) 16 (hb hby D56_14) rfl ?_
  refine gicmpNo X hx 19 (hb hby D56_16) rfl (by decide) ?_
  refine giloadN (v := (34 : Int32)) X hx 20 (hb hby D56_19) rfl rfl ?_
  exact gRetP X hx hlk hret rfl (Or.inl ⟨rfl, by simp, _, rfl⟩) (hb hby D56_20) eT (by decide) (by decide) ⟨rfl, N, rfl⟩
theorem rmNCS (l : Launch) (Z : State) (a0 : Array Value) (hw : HW_ a0 Z) (sb : Addr) (va : Addr) (kv : ClassId) (vs0 : List Value) (nd : Int32) (h0 : Heap) (n0 : Nat) (Z0 : n0 ≤ h0.size) (P0_Fld : Fld Z h0 sb "java/lang/AbstractStringBuilder" "value" "[B" (.ref va)) (P1_Fld : Fld Z h0 sb "java/lang/AbstractStringBuilder" "coder" "B" (.int 0)) (P2_Arv : Arv Z h0 va kv .byte (16 : Int32) vs0 (.int 0)) (hG : (nd - (16 : Int32)) < (18 : Int32)) :
    CtP l Y16 jdk_68_method_10_code 6 (some .int) [] ({ frames := 2, cells := 0, slots := 0, locals := 29 } : Room) Z #[(.ref sb), (.int nd)] h0 (fun v h L => v = some (.int 34) ∧ Fr n0 L ∧ h = h0) := by
  refine CtP.walk (Ls := #[.val (.ref sb), .val (.int nd), .unset, .unset, .unset, .unset]) (plainFor_of_name own_pn0) (fun m => by first | (simp [entryFrame, mkF, argsToLocals, Value.category]; done) | rfl) ?_
  intro p e s m below meth cc_ T hx hby hml hown hnm hret hlk hZ X eT
  have N := Fr.nil n0
  have sz_h : h0.size ≤ h0.size := Nat.le_refl _
  refine galoadN (v := (.ref sb)) X hx 1 (hb hby D55_0) rfl rfl rfl ?_
  refine ggetF X hx hZ (host := "") hown (Or.inl (u90 hw)) Via.refl eT P0_Fld 4 (hb hby D55_1) rfl ?_
  clear X eT; clear T; intro T X eT
  refine garrlen X hx hZ eT P2_Arv 5 (hb hby D55_4) rfl ?_
  refine gistoreN X hx #[.val (.ref sb), .val (.int nd), .val (.int 16), .unset, .unset, .unset] 6 (hb hby D55_5) rfl rfl ?_
  refine giloadN (v := nd) X hx 7 (hb hby D55_6) rfl rfl ?_
  refine galoadN (v := (.ref sb)) X hx 8 (hb hby D55_7) rfl rfl rfl ?_
  refine ggetF X hx hZ (host := "") hown (Or.inl (u92 hw)) Via.refl eT P1_Fld 11 (hb hby D55_8) rfl ?_
  clear X eT; clear T; intro T X eT
  refine gishl X hx 12 (hb hby D55_11) rfl ?_
  rw [own_shl0]
  show Go p e below _ T (mkF m 12 _ [(.int nd)])
  refine gistoreN X hx #[.val (.ref sb), .val (.int nd), .val (.int 16), .val (.int nd), .unset, .unset] 13 (hb hby D55_12) rfl rfl ?_
  refine giloadN (v := nd) X hx 14 (hb hby D55_13) rfl rfl ?_
  refine giloadN (v := (16 : Int32)) X hx 15 (hb hby D55_14) rfl rfl ?_
  refine gisub X hx 16 (hb hby D55_15) rfl ?_
  refine gistore X hx #[.val (.ref sb), .val (.int nd), .val (.int 16), .val (.int nd), .val (.int (nd - (16 : Int32))), .unset] 18 (hb hby D55_16) rfl rfl ?_
  refine giloadN (v := (16 : Int32)) X hx 19 (hb hby D55_18) rfl rfl ?_
  refine giload (v := (nd - (16 : Int32))) X hx 21 (hb hby D55_19) rfl rfl ?_
  refine giloadN (v := (16 : Int32)) X hx 22 (hb hby D55_21) rfl rfl ?_
  refine giconst X hx (2 : Int32) 23 (hb hby D55_22) rfl rfl ?_
  refine galoadN (v := (.ref sb)) X hx 24 (hb hby D55_23) rfl rfl rfl ?_
  refine ggetF X hx hZ (host := "") hown (Or.inl (u92 hw)) Via.refl eT P1_Fld 27 (hb hby D55_24) rfl ?_
  clear X eT; clear T; intro T X eT
  refine gishl X hx 28 (hb hby D55_27) rfl ?_
  rw [show ((2 : Int32) <<< ((0 : Int32) &&& 31)) = (2 : Int32) from by decide]
  refine giadd X hx 29 (hb hby D55_28) rfl ?_
  rw [show ((16 : Int32) + (2 : Int32)) = (18 : Int32) from by decide]
  refine gstatic (y := Y49) (argsL := [(.int 16), (.int (nd - (16 : Int32))), (.int 18)]) (st := []) X hx hZ hown (u277 hw) (u278 hw) (u279 hw) (u280 hw) (by decide) (payP (W := 0) (rmNLS l Z a0 hw ((nd - (16 : Int32))) h0 n0 (Nat.le_trans Z0 sz_h) (hG)) hZ (u280 hw) (u279 hw) (by decide) (by decide)) eT (by rw [hml]; rfl) (lenOf own_pd3 rfl) rfl (Nat.le_of_eq rfl) 0 0 rfl rfl (by decide) (by decide) 32 (hb hby D55_29) rfl (gcut N ?_)
  clear X eT N; clear T; intro T L X eT N
  refine gistore X hx #[.val (.ref sb), .val (.int nd), .val (.int 16), .val (.int nd), .val (.int (nd - (16 : Int32))), .val (.int 34)] 34 (hb hby D55_32) rfl rfl ?_
  refine giload (v := (34 : Int32)) X hx 36 (hb hby D55_34) rfl rfl ?_
  refine gldcI X hx hZ hown (u285 hw) 38 (hb hby D55_36) rfl ?_
  refine gicmpYes X hx 51 (hb hby D55_38) (by decide) (by decide) (by decide) ?_
  refine giload (v := (34 : Int32)) X hx 53 (hb hby D55_51) rfl rfl ?_
  refine galoadN (v := (.ref sb)) X hx 54 (hb hby D55_53) rfl rfl rfl ?_
  refine ggetF X hx hZ (host := "") hown (Or.inl (u92 hw)) Via.refl eT P1_Fld 57 (hb hby D55_54) rfl ?_
  clear X eT; clear T; intro T X eT
  refine gishr X hx 58 (hb hby D55_57) rfl ?_
  rw [show ((34 : Int32) >>> ((0 : Int32) &&& 31)) = (34 : Int32) from by decide]
  exact gRetP X hx hlk hret rfl (Or.inl ⟨rfl, by simp, _, rfl⟩) (hb hby D55_58) eT (by decide) (by decide) ⟨rfl, N, rfl⟩
theorem rmMn16_34 (l : Launch) (Z : State) (a0 : Array Value) (hw : HW_ a0 Z) (h0 : Heap) (n0 : Nat) (Z0 : n0 ≤ h0.size) :
    CtP l Y21 jdk_29_method_69_code 2 (some .int) [] ({ frames := 0, cells := 0, slots := 0, locals := 0 } : Room) Z #[(.int 16), (.int 34)] h0 (fun v h L => v = some (.int 16) ∧ Fr n0 L ∧ h = h0) := by
  refine CtP.walk (Ls := #[.val (.int 16), .val (.int 34)]) own_pn6 (fun m => by first | (simp [entryFrame, mkF, argsToLocals, Value.category]; done) | rfl) ?_
  intro p e s m below meth cc_ T hx hby hml hown hnm hret hlk hZ X eT
  have N := Fr.nil n0
  have sz_h : h0.size ≤ h0.size := Nat.le_refl _
  refine giloadN (v := (16 : Int32)) X hx 1 (hb hby D35_0) rfl rfl ?_
  refine giloadN (v := (34 : Int32)) X hx 2 (hb hby D35_1) rfl rfl ?_
  refine gicmpNo X hx 5 (hb hby D35_2) rfl (by decide) ?_
  refine giloadN (v := (16 : Int32)) X hx 6 (hb hby D35_5) rfl rfl ?_
  refine ggoto X hx 10 (hb hby D35_6) (by decide) (by decide) ?_
  exact gRetP X hx hlk hret rfl (Or.inl ⟨rfl, by simp, _, rfl⟩) (hb hby D35_10) eT (by decide) (by decide) ⟨rfl, N, rfl⟩
theorem rmCOS (l : Launch) (Z : State) (a0 : Array Value) (hw : HW_ a0 Z) (va : Addr) (kv : ClassId) (bl : List Int32) (h0 : Heap) (n0 : Nat) (Z0 : n0 ≤ h0.size) (P0_Arv : Arv Z h0 va kv .byte (16 : Int32) (bl.map Value.int) (.int 0)) (hbl : bl.length ≤ 16) :
    CtP l Y46 jdk_65_method_121_code 3 (some (.array .byte)) [] ({ frames := 1, cells := 1, slots := 34, locals := 18 } : Room) Z #[(.ref va), (.int 34)] h0 (fun v h L => ∃ (vb : Addr), ∃ (kw : ClassId), v = some (.ref vb) ∧ Fr n0 L ∧ Keep h0 h [] ∧ h0.size ≤ vb ∧ Arv Z h vb kw .byte (34 : Int32) (bl.map Value.int) (.int 0)) := by
  refine CtP.walk (Ls := #[.val (.ref va), .val (.int 34), .unset]) (plainFor_of_name own_pn7) (fun m => by first | (simp [entryFrame, mkF, argsToLocals, Value.category]; done) | rfl) ?_
  intro p e s m below meth cc_ T hx hby hml hown hnm hret hlk hZ X eT
  have N := Fr.nil n0
  have K0 := Keep.refl h0 []
  have sz_h : h0.size ≤ h0.size := Nat.le_refl _
  refine giloadN (v := (34 : Int32)) X hx 1 (hb hby D58_0) rfl rfl ?_
  refine galoadN (v := (.ref va)) X hx 2 (hb hby D58_1) rfl rfl rfl ?_
  refine garrlen X hx hZ eT P0_Arv 3 (hb hby D58_2) rfl ?_
  refine gicmpYes X hx 14 (hb hby D58_3) (by decide) (by decide) (by decide) ?_
  refine giloadN (v := (34 : Int32)) X hx 15 (hb hby D58_14) rfl rfl ?_
  refine gnewP (aty := .byte) X hx hZ (u7 hw) eT (n := (34 : Int32)) (by decide) 34 (by decide) (by decide) 1 34 rfl rfl (by decide) (by decide) 17 (hb hby D58_15) rfl ?_
  clear X eT; clear T; intro T h1 b2 kc5 X eT ga E3 V4
  have le_a := Nat.le_of_eq ga.symm
  have ne_va_b2 : va ≠ b2 := Nat.ne_of_lt (Nat.lt_of_lt_of_le P0_Arv.lt le_a)
  have ne_b2_va : b2 ≠ va := Ne.symm ne_va_b2
  have sz_b2 : h0.size ≤ b2 := Nat.le_trans sz_h le_a
  have ge_b2 : n0 ≤ b2 := Nat.le_trans Z0 sz_b2
  clear le_a ga
  replace P0_Arv := P0_Arv.ext E3
  replace K0 := K0.ext E3
  replace sz_h : h0.size ≤ h1.size := Nat.le_trans sz_h E3.1
  replace V4 : Arv Z h1 b2 kc5 .byte (34 : Int32) [(.int 0), (.int 0), (.int 0), (.int 0), (.int 0), (.int 0), (.int 0), (.int 0), (.int 0), (.int 0), (.int 0), (.int 0), (.int 0), (.int 0), (.int 0), (.int 0), (.int 0), (.int 0), (.int 0), (.int 0), (.int 0), (.int 0), (.int 0), (.int 0), (.int 0), (.int 0), (.int 0), (.int 0), (.int 0), (.int 0), (.int 0), (.int 0), (.int 0), (.int 0)] (.int 0) := V4.pad (pad_rep [] _ 34)
  refine gastoreN X hx #[.val (.ref va), .val (.int 34), .val (.ref b2)] 18 (hb hby D58_17) rfl rfl rfl ?_
  refine galoadN (v := (.ref va)) X hx 19 (hb hby D58_18) rfl rfl rfl ?_
  refine giconst X hx (0 : Int32) 20 (hb hby D58_19) rfl rfl ?_
  refine galoadN (v := (.ref b2)) X hx 21 (hb hby D58_20) rfl rfl rfl ?_
  refine giconst X hx (0 : Int32) 22 (hb hby D58_21) rfl rfl ?_
  refine galoadN (v := (.ref va)) X hx 23 (hb hby D58_22) rfl rfl rfl ?_
  refine garrlen X hx hZ eT P0_Arv 24 (hb hby D58_23) rfl ?_
  refine giloadN (v := (34 : Int32)) X hx 25 (hb hby D58_24) rfl rfl ?_
  refine gstatic (y := Y21) (argsL := [(.int 16), (.int 34)]) (st := [(.int 0), (.ref b2), (.int 0), (.ref va)]) X hx hZ hown (u198 hw) (u199 hw) (u200 hw) (u201 hw) (by decide) (payP (W := 4) (rmMn16_34 l Z a0 hw h1 n0 (Nat.le_trans Z0 sz_h)) hZ (u201 hw) (u200 hw) (by decide) (by decide)) eT (by rw [hml]; rfl) (lenOf own_pd2 rfl) rfl (Nat.le_of_eq rfl) 1 34 rfl rfl (by decide) (by decide) 28 (hb hby D58_25) rfl (gcut N ?_)
  clear X eT N; clear T; intro T L X eT N
  replace V4 : Arv Z h1 b2 kc5 .byte (34 : Int32) (([] : List Int32).map Value.int) (.int 0) := V4.pad (fun i => (pad_rep [] _ 34 i).symm)
  refine gcpB (st := []) (as := bl) (bs := ([] : List Int32)) X hx hZ hown (u202 hw) (u136 hw) (u134 hw) (u135 hw) eT (by rw [hml]; rfl) P0_Arv V4 16 rfl rfl rfl (by decide) (by decide) (by decide) bl (List.take_of_length_le hbl) N ge_b2 (by decide) 0 (Nat.le_of_eq rfl) (by decide) 31 (hb hby D58_28) rfl ?_
  clear X eT N; clear T; intro T h6 L X eT N K7 V8
  replace P0_Arv := P0_Arv.keep K7 (ninS ne_va_b2 nin0)
  replace K0 := K0.trans K7 (allS (Or.inr sz_b2) all0)
  replace sz_h : h0.size ≤ h6.size := Nat.le_trans sz_h K7.1
  replace V8 : Arv Z h6 b2 kc5 .byte (34 : Int32) (bl.map Value.int) (.int 0) := by simpa only [List.map_append, List.nil_append] using V8
  show Go p e below _ T (mkF m 31 _ [])
  refine galoadN (v := (.ref b2)) X hx 32 (hb hby D58_31) rfl rfl rfl ?_
  exact gRetP X hx hlk hret rfl (Or.inr (Or.inr (Or.inr (Or.inr ⟨rfl, rfl, rfl⟩)))) (hb hby D58_32) eT (by decide) (by decide) ⟨b2, kc5, rfl, N, K0, sz_b2, V8⟩
theorem rmEB (l : Launch) (Z : State) (a0 : Array Value) (hw : HW_ a0 Z) (sb : Addr) (va : Addr) (kv : ClassId) (cs : List Int32) (nd : Int32) (h0 : Heap) (n0 : Nat) (Z0 : n0 ≤ h0.size) (ge_sb : n0 ≤ sb) (P0_Exa : Exa Z h0 sb "java/lang/StringBuilder") (P1_Fld : Fld Z h0 sb "java/lang/AbstractStringBuilder" "value" "[B" (.ref va)) (P2_Fld : Fld Z h0 sb "java/lang/AbstractStringBuilder" "coder" "B" (.int 0)) (P3_Fld : Fld Z h0 sb "java/lang/AbstractStringBuilder" "count" "I" (.int (Int32.ofNat cs.length))) (P4_Arv : Arv Z h0 va kv .byte (16 : Int32) ((cs.map fun c => c.toInt8.toInt32).map Value.int) (.int 0)) (hB : (0 : Int32) < (nd - (16 : Int32))) (hG : (nd - (16 : Int32)) < (18 : Int32)) (hcl : cs.length ≤ 16) :
    CtP l Y11 jdk_68_method_9_code 3 none [] ({ frames := 3, cells := 1, slots := 34, locals := 48 } : Room) Z #[(.ref sb), (.int nd)] h0 (fun v h L => ∃ (vb : Addr), ∃ (kw : ClassId), v = none ∧ Fr n0 L ∧ Keep h0 h [sb] ∧ h0.size ≤ vb ∧ Fld Z h sb "java/lang/AbstractStringBuilder" "value" "[B" (.ref vb) ∧ Fld Z h sb "java/lang/AbstractStringBuilder" "coder" "B" (.int 0) ∧ Fld Z h sb "java/lang/AbstractStringBuilder" "count" "I" (.int (Int32.ofNat cs.length)) ∧ Arv Z h vb kw .byte (34 : Int32) ((cs.map fun c => c.toInt8.toInt32).map Value.int) (.int 0)) := by
  refine CtP.walk (Ls := #[.val (.ref sb), .val (.int nd), .unset]) (plainFor_of_name own_pn0) (fun m => by first | (simp [entryFrame, mkF, argsToLocals, Value.category]; done) | rfl) ?_
  intro p e s m below meth cc_ T hx hby hml hown hnm hret hlk hZ X eT
  have N := Fr.nil n0
  have K0 := Keep.refl h0 [sb]
  have sz_h : h0.size ≤ h0.size := Nat.le_refl _
  refine galoadN (v := (.ref sb)) X hx 1 (hb hby D17_0) rfl rfl rfl ?_
  refine ggetF X hx hZ (host := "") hown (Or.inl (u90 hw)) Via.refl eT P1_Fld 4 (hb hby D17_1) rfl ?_
  clear X eT; clear T; intro T X eT
  refine garrlen X hx hZ eT P4_Arv 5 (hb hby D17_4) rfl ?_
  refine galoadN (v := (.ref sb)) X hx 6 (hb hby D17_5) rfl rfl rfl ?_
  refine ggetF X hx hZ (host := "") hown (Or.inl (u92 hw)) Via.refl eT P2_Fld 9 (hb hby D17_6) rfl ?_
  clear X eT; clear T; intro T X eT
  refine gishr X hx 10 (hb hby D17_9) rfl ?_
  rw [show ((16 : Int32) >>> ((0 : Int32) &&& 31)) = (16 : Int32) from by decide]
  refine gistoreN X hx #[.val (.ref sb), .val (.int nd), .val (.int 16)] 11 (hb hby D17_10) rfl rfl ?_
  refine giloadN (v := nd) X hx 12 (hb hby D17_11) rfl rfl ?_
  refine giloadN (v := (16 : Int32)) X hx 13 (hb hby D17_12) rfl rfl ?_
  refine gisub X hx 14 (hb hby D17_13) rfl ?_
  refine gifNo X hx 17 (hb hby D17_14) rfl ((if0 _ _).trans (tlt hB).2.2.2) ?_
  refine galoadN (v := (.ref sb)) X hx 18 (hb hby D17_17) rfl rfl rfl ?_
  refine galoadN (v := (.ref sb)) X hx 19 (hb hby D17_18) rfl rfl rfl ?_
  refine ggetF X hx hZ (host := "") hown (Or.inl (u90 hw)) Via.refl eT P1_Fld 22 (hb hby D17_19) rfl ?_
  clear X eT; clear T; intro T X eT
  refine galoadN (v := (.ref sb)) X hx 23 (hb hby D17_22) rfl rfl rfl ?_
  refine giloadN (v := nd) X hx 24 (hb hby D17_23) rfl rfl ?_
  refine gpriv (y := Y16) (a := sb) (argsL := [(.int nd)]) (st := [(.ref va), (.ref sb)]) X hx hZ hown (u272 hw) (u273 hw) (nf_sel (args := #[]) (mvT hZ (u115 hw)) rfl) (u274 hw) (u276 hw) (by decide) P0_Exa (payP (W := 2) (rmNCS l Z a0 hw (sb) (va) (kv) (((cs.map fun c => c.toInt8.toInt32).map Value.int)) (nd) h0 n0 (Nat.le_trans Z0 sz_h) P1_Fld P2_Fld P4_Arv (hG)) hZ (u276 hw) (u86 hw) (by decide) (by decide)) eT (by rw [hml]; rfl) (lenOf own_pd4 rfl) rfl (Nat.le_of_eq rfl) 0 0 rfl rfl (by decide) (by decide) 27 (hb hby D17_24) rfl (gcut N ?_)
  clear X eT N; clear T; intro T L X eT N
  refine galoadN (v := (.ref sb)) X hx 28 (hb hby D17_27) rfl rfl rfl ?_
  refine ggetF X hx hZ (host := "") hown (Or.inl (u92 hw)) Via.refl eT P2_Fld 31 (hb hby D17_28) rfl ?_
  clear X eT; clear T; intro T X eT
  refine gishl X hx 32 (hb hby D17_31) rfl ?_
  rw [show ((34 : Int32) <<< ((0 : Int32) &&& 31)) = (34 : Int32) from by decide]
  refine gstatic (y := Y46) (argsL := [(.ref va), (.int 34)]) (st := [(.ref sb)]) X hx hZ hown (u286 hw) (u287 hw) (u190 hw) (u288 hw) (by decide) (payP (W := 1) (rmCOS l Z a0 hw (va) (kv) ((cs.map fun c => c.toInt8.toInt32)) h0 n0 (Nat.le_trans Z0 sz_h) P4_Arv (by rw [List.length_map]; exact hcl)) hZ (u288 hw) (u190 hw) (by decide) (by decide)) eT (by rw [hml]; rfl) (lenOf own_pd5 rfl) rfl (Nat.le_of_eq rfl) 1 34 rfl rfl (by decide) (by decide) 35 (hb hby D17_32) rfl ?_
  clear X eT; clear T; intro v T h1 L2 Lc X eT hL hQ2
  obtain ⟨vb_3, kw_4, rfl, Nq, K5, zz_vb_3, G7⟩ := hQ2
  replace N : Fr n0 L2 := by rw [hL]; exact Fr.app N Nq
  clear Nq hL
  have ne_sb_vb_3 : sb ≠ vb_3 := Nat.ne_of_lt (Nat.lt_of_lt_of_le P0_Exa.lt zz_vb_3)
  have ne_vb_3_sb : vb_3 ≠ sb := Ne.symm ne_sb_vb_3
  have ne_va_vb_3 : va ≠ vb_3 := Nat.ne_of_lt (Nat.lt_of_lt_of_le P4_Arv.lt zz_vb_3)
  have ne_vb_3_va : vb_3 ≠ va := Ne.symm ne_va_vb_3
  have sz_vb_3 : h0.size ≤ vb_3 := Nat.le_trans sz_h zz_vb_3
  have ge_vb_3 : n0 ≤ vb_3 := Nat.le_trans Z0 sz_vb_3
  replace P0_Exa := P0_Exa.keep K5
  replace P1_Fld := P1_Fld.keep K5 nin0
  replace P2_Fld := P2_Fld.keep K5 nin0
  replace P3_Fld := P3_Fld.keep K5 nin0
  replace P4_Arv := P4_Arv.keep K5 nin0
  replace K0 := K0.trans K5 all0
  replace sz_h : h0.size ≤ h1.size := Nat.le_trans sz_h K5.1
  show Go p e below _ T (mkF m 35 _ [(.ref vb_3), (.ref sb)])
  refine gputF X hx hZ (host := "") hown (Or.inl (u90 hw)) Via.refl eT P1_Fld P0_Exa (Or.inl (u91 hw)) (u77 hw) (ty := (.array .byte)) own_pf0 rfl rfl N ge_sb 38 (hb hby D17_35) rfl ?_
  clear X eT N; clear T; intro T h8 L X eT N W9
  have ne_va_sb : va ≠ sb := Ne.symm (Exa.neArv P0_Exa P4_Arv (u77 hw))
  replace P0_Exa := P0_Exa.wr W9
  replace P1_Fld := P1_Fld.same W9
  replace P2_Fld := P2_Fld.other W9 (Or.inr (slot_ne (Or.inl (u93 hw)) (Or.inl (u91 hw)) (by decide) own_pf1 own_pf0))
  replace P3_Fld := P3_Fld.other W9 (Or.inr (slot_ne (Or.inl (u111 hw)) (Or.inl (u91 hw)) (by decide) own_pf2 own_pf0))
  replace P4_Arv := P4_Arv.other W9 ne_va_sb
  replace G7 := G7.other W9 ne_vb_3_sb
  replace K0 := K0.wr W9 (Or.inl (List.mem_of_getElem? (i := 0) rfl))
  replace sz_h : h0.size ≤ h8.size := by rw [Wr.size W9]; exact sz_h
  exact gRetP0 X hx hlk hret (hb hby D17_38) eT (by decide) (by decide) ⟨vb_3, kw_4, rfl, N, K0, sz_vb_3, P1_Fld, P2_Fld, P3_Fld, G7⟩
theorem rm19 (l : Launch) (Z : State) (a0 : Array Value) (hw : HW_ a0 Z) (sb : Addr) (x : Addr) (G1 : Int32) (h0 : Heap) (n0 : Nat) (Z0 : n0 ≤ h0.size) (P0_Old : Old Z n0 h0) (P1_Exa : Exa Z h0 x "java/lang/String") (P2_Fld : Fld Z h0 sb "java/lang/AbstractStringBuilder" "coder" "B" (.int 0)) (P3_Fld : Fld Z h0 x "java/lang/String" "coder" "B" (.int 0)) (O2 : Sta Z Z.heap "java/lang/String" "COMPACT_STRINGS" "Z" (.int G1)) (P5 : ¬ G1 = (0 : Int32)) :
    CtP l Y13 jdk_68_method_71_code 2 none [] ({ frames := 1, cells := 0, slots := 0, locals := 13 } : Room) Z #[(.ref sb), (.ref x)] h0 (fun v h L => v = none ∧ Fr n0 L ∧ h = h0) := by
  refine CtP.walk (Ls := #[.val (.ref sb), .val (.ref x)]) (plainFor_of_name own_pn0) (fun m => by first | (simp [entryFrame, mkF, argsToLocals, Value.category]; done) | rfl) ?_
  intro p e s m below meth cc_ T hx hby hml hown hnm hret hlk hZ X eT
  have N := Fr.nil n0
  have sz_h : h0.size ≤ h0.size := Nat.le_refl _
  refine ggetS X hx hZ (host := "") hown (Or.inl (u89 hw)) Via.refl eT (O2.ext P0_Old.2) 3 (hb hby D19_0) rfl ?_
  clear X eT; clear T; intro T X eT
  refine gifNo X hx 6 (hb hby D19_3) rfl ((if0 _ _).trans (feq P5).1) ?_
  refine galoadN (v := (.ref sb)) X hx 7 (hb hby D19_6) rfl rfl rfl ?_
  refine ggetF X hx hZ (host := "") hown (Or.inl (u92 hw)) Via.refl eT P2_Fld 10 (hb hby D19_7) rfl ?_
  clear X eT; clear T; intro T X eT
  refine galoadN (v := (.ref x)) X hx 11 (hb hby D19_10) rfl rfl rfl ?_
  refine gvirtual (y := Y28) (z := Y28) (a := x) (argsL := []) (st := [(.int 0)]) X hx hZ hown (u127 hw) (u60 hw) (notFace_of_selects (args := #[]) (mvT hZ (u62 hw))) (u62 hw) (u61 hw) (by decide) P1_Exa (payP (W := 1) (rm9 l Z a0 hw (x) (G1) h0 n0 (Nat.le_trans Z0 sz_h) P0_Old P3_Fld (O2) (P5)) hZ (u63 hw) (u5 hw) (by decide) (by decide)) eT (by rw [hml]; rfl) (lenOf own_pd1 rfl) rfl (Nat.le_of_eq rfl) 0 0 rfl rfl (by decide) (by decide) 14 (hb hby D19_11) rfl (gcut N ?_)
  clear X eT N; clear T; intro T L X eT N
  refine gicmpYes X hx 21 (hb hby D19_14) (by decide) (by decide) (by decide) ?_
  exact gRetP0 X hx hlk hret (hb hby D19_21) eT (by decide) (by decide) ⟨rfl, N, rfl⟩
theorem rmGBS (l : Launch) (Z : State) (a0 : Array Value) (hw : HW_ a0 Z) (x : Addr) (t : Addr) (va : Addr) (kt : ClassId) (kv : ClassId) (cs : List Int32) (ds : List Int32) (G1 : Int32) (zc : Int32) (h0 : Heap) (n0 : Nat) (Z0 : n0 ≤ h0.size) (ge_va : n0 ≤ va) (P0_Old : Old Z n0 h0) (P1_Exa : Exa Z h0 x "java/lang/String") (P2_Fld : Fld Z h0 x "java/lang/String" "coder" "B" (.int 0)) (P3_Fld : Fld Z h0 x "java/lang/String" "value" "[B" (.ref t)) (P4_Arv : Arv Z h0 t kt .byte (Int32.ofNat ds.length) ((ds.map fun c => c.toInt8.toInt32).map Value.int) (.int 0)) (P5_Arv : Arv Z h0 va kv .byte zc ((cs.map fun c => c.toInt8.toInt32).map Value.int) (.int 0)) (O2 : Sta Z Z.heap "java/lang/String" "COMPACT_STRINGS" "Z" (.int G1)) (P5 : ¬ G1 = (0 : Int32)) (ntv : t ≠ va) (hln : cs.length + ds.length ≤ zc.toNatClampNeg) (hz34 : 0 < zc.toNatClampNeg ∧ zc.toNatClampNeg ≤ 34) :
    CtP l Y30 jdk_42_method_147_code 4 none [] ({ frames := 1, cells := 0, slots := 0, locals := 18 } : Room) Z #[(.ref x), (.ref va), (.int (Int32.ofNat cs.length)), (.int 0)] h0 (fun v h L => v = none ∧ Fr n0 L ∧ Keep h0 h [va] ∧ Arv Z h va kv .byte zc (((cs ++ ds).map fun c => c.toInt8.toInt32).map Value.int) (.int 0)) := by
  refine CtP.walk (Ls := #[.val (.ref x), .val (.ref va), .val (.int (Int32.ofNat cs.length)), .val (.int 0)]) own_pn8 (fun m => by first | (simp [entryFrame, mkF, argsToLocals, Value.category]; done) | rfl) ?_
  intro p e s m below meth cc_ T hx hby hml hown hnm hret hlk hZ X eT
  have N := Fr.nil n0
  have K0 := Keep.refl h0 [va]
  have sz_h : h0.size ≤ h0.size := Nat.le_refl _
  refine galoadN (v := (.ref x)) X hx 1 (hb hby D20_0) rfl rfl rfl ?_
  refine gvirtual (y := Y28) (z := Y28) (a := x) (argsL := []) (st := []) X hx hZ hown (u59 hw) (u60 hw) (notFace_of_selects (args := #[]) (mvT hZ (u62 hw))) (u62 hw) (u61 hw) (by decide) P1_Exa (payP (W := 0) (rm9 l Z a0 hw (x) (G1) h0 n0 (Nat.le_trans Z0 sz_h) P0_Old P2_Fld (O2) (P5)) hZ (u63 hw) (u5 hw) (by decide) (by decide)) eT (by rw [hml]; rfl) (lenOf own_pd1 rfl) rfl (Nat.le_of_eq rfl) 0 0 rfl rfl (by decide) (by decide) 4 (hb hby D20_1) rfl (gcut N ?_)
  clear X eT N; clear T; intro T L X eT N
  refine giloadN (v := (0 : Int32)) X hx 5 (hb hby D20_4) rfl rfl ?_
  refine gicmpNo X hx 8 (hb hby D20_5) rfl (by decide) ?_
  refine galoadN (v := (.ref x)) X hx 9 (hb hby D20_8) rfl rfl rfl ?_
  refine ggetF X hx hZ (host := "") hown (Or.inl (u71 hw)) Via.refl eT P3_Fld 12 (hb hby D20_9) rfl ?_
  clear X eT; clear T; intro T X eT
  refine giconst X hx (0 : Int32) 13 (hb hby D20_12) rfl rfl ?_
  refine galoadN (v := (.ref va)) X hx 14 (hb hby D20_13) rfl rfl rfl ?_
  refine giloadN (v := (Int32.ofNat cs.length)) X hx 15 (hb hby D20_14) rfl rfl ?_
  refine giloadN (v := (0 : Int32)) X hx 16 (hb hby D20_15) rfl rfl ?_
  refine gishl X hx 17 (hb hby D20_16) rfl ?_
  rw [own_shl0]
  show Go p e below _ T (mkF m 17 _ [(.int (Int32.ofNat cs.length)), (.ref va), (.int 0), (.ref t)])
  refine galoadN (v := (.ref x)) X hx 18 (hb hby D20_17) rfl rfl rfl ?_
  refine ggetF X hx hZ (host := "") hown (Or.inl (u71 hw)) Via.refl eT P3_Fld 21 (hb hby D20_18) rfl ?_
  clear X eT; clear T; intro T X eT
  refine garrlen X hx hZ eT P4_Arv 22 (hb hby D20_21) rfl ?_
  refine gcpB (st := []) (as := (ds.map fun c => c.toInt8.toInt32)) (bs := (cs.map fun c => c.toInt8.toInt32)) X hx hZ hown (u133 hw) (u136 hw) (u134 hw) (u135 hw) eT (by rw [hml]; rfl) P4_Arv P5_Arv ds.length rfl (by rw [List.length_map]) rfl (by rw [of_nat_clamp (by omega)]; exact Nat.le_refl _) (by rw [List.length_map]; exact hln) (by omega) (ds.map fun c => c.toInt8.toInt32) (List.take_of_length_le (by rw [List.length_map]; exact Nat.le_refl _)) N ge_va (by decide) 0 (Nat.le_of_eq rfl) (by decide) 25 (hb hby D20_22) rfl ?_
  clear X eT N; clear T; intro T h1 L X eT N K2 V3
  have ne_x_va : x ≠ va := Exa.neArv P1_Exa P5_Arv (u6 hw)
  replace P0_Old := P0_Old.keep K2 (allS ge_va all0)
  replace P1_Exa := P1_Exa.keep K2
  replace P2_Fld := P2_Fld.keep K2 (ninS ne_x_va nin0)
  replace P3_Fld := P3_Fld.keep K2 (ninS ne_x_va nin0)
  replace P4_Arv := P4_Arv.keep K2 (ninS ntv nin0)
  replace K0 := K0.trans K2 (allS (Or.inl (List.mem_of_getElem? (i := 0) rfl)) all0)
  replace sz_h : h0.size ≤ h1.size := Nat.le_trans sz_h K2.1
  replace V3 : Arv Z h1 va kv .byte zc (((cs ++ ds).map fun c => c.toInt8.toInt32).map Value.int) (.int 0) := by simpa only [List.map_append, List.nil_append] using V3
  show Go p e below _ T (mkF m 25 _ [])
  refine ggoto X hx 43 (hb hby D20_25) (by decide) (by decide) ?_
  exact gRetP0 X hx hlk hret (hb hby D20_43) eT (by decide) (by decide) ⟨rfl, N, K0, V3⟩
theorem rmPAS (l : Launch) (Z : State) (a0 : Array Value) (hw : HW_ a0 Z) (sb : Addr) (x : Addr) (t : Addr) (va : Addr) (kt : ClassId) (kv : ClassId) (cs : List Int32) (ds : List Int32) (G1 : Int32) (zc : Int32) (h0 : Heap) (n0 : Nat) (Z0 : n0 ≤ h0.size) (ge_va : n0 ≤ va) (P0_Old : Old Z n0 h0) (P1_Exa : Exa Z h0 sb "java/lang/StringBuilder") (P2_Fld : Fld Z h0 sb "java/lang/AbstractStringBuilder" "value" "[B" (.ref va)) (P3_Fld : Fld Z h0 sb "java/lang/AbstractStringBuilder" "coder" "B" (.int 0)) (P4_Exa : Exa Z h0 x "java/lang/String") (P5_Fld : Fld Z h0 x "java/lang/String" "coder" "B" (.int 0)) (P6_Fld : Fld Z h0 x "java/lang/String" "value" "[B" (.ref t)) (P7_Arv : Arv Z h0 t kt .byte (Int32.ofNat ds.length) ((ds.map fun c => c.toInt8.toInt32).map Value.int) (.int 0)) (P8_Arv : Arv Z h0 va kv .byte zc ((cs.map fun c => c.toInt8.toInt32).map Value.int) (.int 0)) (O2 : Sta Z Z.heap "java/lang/String" "COMPACT_STRINGS" "Z" (.int G1)) (P5 : ¬ G1 = (0 : Int32)) (ntv : t ≠ va) (hln : cs.length + ds.length ≤ zc.toNatClampNeg) (hz34 : 0 < zc.toNatClampNeg ∧ zc.toNatClampNeg ≤ 34) :
    CtP l Y17 jdk_68_method_73_code 3 none [] ({ frames := 2, cells := 0, slots := 0, locals := 33 } : Room) Z #[(.ref sb), (.int (Int32.ofNat cs.length)), (.ref x)] h0 (fun v h L => v = none ∧ Fr n0 L ∧ Keep h0 h [va] ∧ Arv Z h va kv .byte zc (((cs ++ ds).map fun c => c.toInt8.toInt32).map Value.int) (.int 0)) := by
  refine CtP.walk (Ls := #[.val (.ref sb), .val (.int (Int32.ofNat cs.length)), .val (.ref x)]) (plainFor_of_name own_pn0) (fun m => by first | (simp [entryFrame, mkF, argsToLocals, Value.category]; done) | rfl) ?_
  intro p e s m below meth cc_ T hx hby hml hown hnm hret hlk hZ X eT
  have N := Fr.nil n0
  have K0 := Keep.refl h0 [va]
  have sz_h : h0.size ≤ h0.size := Nat.le_refl _
  refine galoadN (v := (.ref sb)) X hx 1 (hb hby D18_0) rfl rfl rfl ?_
  refine galoadN (v := (.ref x)) X hx 2 (hb hby D18_1) rfl rfl rfl ?_
  refine gpriv (y := Y13) (a := sb) (argsL := [(.ref x)]) (st := []) X hx hZ hown (u122 hw) (u123 hw) (nf_sel (args := #[]) (mvT hZ (u115 hw)) rfl) (u124 hw) (u126 hw) (by decide) P1_Exa (payP (W := 0) (rm19 l Z a0 hw (sb) (x) (G1) h0 n0 (Nat.le_trans Z0 sz_h) P0_Old P4_Exa P3_Fld P5_Fld (O2) (P5)) hZ (u126 hw) (u86 hw) (by decide) (by decide)) eT (by rw [hml]; rfl) (lenOf own_pd6 rfl) rfl (Nat.le_of_eq rfl) 0 0 rfl rfl (by decide) (by decide) 5 (hb hby D18_2) rfl (gcut0 N ?_)
  clear X eT N; clear T; intro T L X eT N
  refine galoadN (v := (.ref x)) X hx 6 (hb hby D18_5) rfl rfl rfl ?_
  refine galoadN (v := (.ref sb)) X hx 7 (hb hby D18_6) rfl rfl rfl ?_
  refine ggetF X hx hZ (host := "") hown (Or.inl (u90 hw)) Via.refl eT P2_Fld 10 (hb hby D18_7) rfl ?_
  clear X eT; clear T; intro T X eT
  refine giloadN (v := (Int32.ofNat cs.length)) X hx 11 (hb hby D18_10) rfl rfl ?_
  refine galoadN (v := (.ref sb)) X hx 12 (hb hby D18_11) rfl rfl rfl ?_
  refine ggetF X hx hZ (host := "") hown (Or.inl (u92 hw)) Via.refl eT P3_Fld 15 (hb hby D18_12) rfl ?_
  clear X eT; clear T; intro T X eT
  refine gvirtual (y := Y30) (z := Y30) (a := x) (argsL := [(.ref va), (.int (Int32.ofNat cs.length)), (.int 0)]) (st := []) X hx hZ hown (u128 hw) (u129 hw) (notFace_of_selects (args := #[]) (mvT hZ (u131 hw))) (u131 hw) (u130 hw) (by decide) P4_Exa (payP (W := 0) (rmGBS l Z a0 hw (x) (t) (va) (kt) (kv) (cs) (ds) (G1) (zc) h0 n0 (Nat.le_trans Z0 sz_h) ge_va P0_Old P4_Exa P5_Fld P6_Fld P7_Arv P8_Arv (O2) (P5) (ntv) (hln) (hz34)) hZ (u132 hw) (u5 hw) (by decide) (by decide)) eT (by rw [hml]; rfl) (lenOf own_pd7 rfl) rfl (Nat.le_of_eq rfl) 0 0 rfl rfl (by decide) (by decide) 18 (hb hby D18_15) rfl ?_
  clear X eT; clear T; intro v T h1 L2 Lc X eT hL hQ2
  obtain ⟨rfl, Nq, K3, G5⟩ := hQ2
  replace N : Fr n0 L2 := by rw [hL]; exact Fr.app N Nq
  clear Nq hL
  have ne_sb_va : sb ≠ va := Exa.neArv P1_Exa P8_Arv (u77 hw)
  have ne_x_va : x ≠ va := Exa.neArv P4_Exa P8_Arv (u6 hw)
  replace P0_Old := P0_Old.keep K3 (allS ge_va all0)
  replace P1_Exa := P1_Exa.keep K3
  replace P2_Fld := P2_Fld.keep K3 (ninS ne_sb_va nin0)
  replace P3_Fld := P3_Fld.keep K3 (ninS ne_sb_va nin0)
  replace P4_Exa := P4_Exa.keep K3
  replace P5_Fld := P5_Fld.keep K3 (ninS ne_x_va nin0)
  replace P6_Fld := P6_Fld.keep K3 (ninS ne_x_va nin0)
  replace P7_Arv := P7_Arv.keep K3 (ninS ntv nin0)
  replace K0 := K0.trans K3 (allS (Or.inl (List.mem_of_getElem? (i := 0) rfl)) all0)
  replace sz_h : h0.size ≤ h1.size := Nat.le_trans sz_h K3.1
  show Go p e below _ T (mkF m 18 _ [])
  exact gRetP0 X hx hlk hret (hb hby D18_18) eT (by decide) (by decide) ⟨rfl, N, K0, G5⟩
theorem rmAASG (l : Launch) (Z : State) (a0 : Array Value) (hw : HW_ a0 Z) (sb : Addr) (x : Addr) (t : Addr) (va : Addr) (kt : ClassId) (kv : ClassId) (cs : List Int32) (ds : List Int32) (G1 : Int32) (h0 : Heap) (n0 : Nat) (Z0 : n0 ≤ h0.size) (ge_sb : n0 ≤ sb) (P0_Old : Old Z n0 h0) (P1_Exa : Exa Z h0 sb "java/lang/StringBuilder") (P2_Fld : Fld Z h0 sb "java/lang/AbstractStringBuilder" "value" "[B" (.ref va)) (P3_Fld : Fld Z h0 sb "java/lang/AbstractStringBuilder" "coder" "B" (.int 0)) (P4_Fld : Fld Z h0 sb "java/lang/AbstractStringBuilder" "count" "I" (.int (Int32.ofNat cs.length))) (P5_Arv : Arv Z h0 va kv .byte (16 : Int32) ((cs.map fun c => c.toInt8.toInt32).map Value.int) (.int 0)) (P6_Exa : Exa Z h0 x "java/lang/String") (P7_Fld : Fld Z h0 x "java/lang/String" "coder" "B" (.int 0)) (P8_Fld : Fld Z h0 x "java/lang/String" "value" "[B" (.ref t)) (P9_Arv : Arv Z h0 t kt .byte (Int32.ofNat ds.length) ((ds.map fun c => c.toInt8.toInt32).map Value.int) (.int 0)) (O2 : Sta Z Z.heap "java/lang/String" "COMPACT_STRINGS" "Z" (.int G1)) (P5 : ¬ G1 = (0 : Int32)) (hln : cs.length + ds.length ≤ 33) (hcl : cs.length ≤ 16) (hgr : 16 < cs.length + ds.length) :
    CtP l Y10 jdk_68_method_22_code 3 (some (.object "java/lang/AbstractStringBuilder")) [] ({ frames := 4, cells := 1, slots := 34, locals := 62 } : Room) Z #[(.ref sb), (.ref x)] h0 (fun v h L => ∃ (vb : Addr), ∃ (kw : ClassId), v = some (.ref sb) ∧ Fr n0 L ∧ Keep h0 h [sb] ∧ h0.size ≤ vb ∧ Fld Z h sb "java/lang/AbstractStringBuilder" "value" "[B" (.ref vb) ∧ Fld Z h sb "java/lang/AbstractStringBuilder" "coder" "B" (.int 0) ∧ Fld Z h sb "java/lang/AbstractStringBuilder" "count" "I" (.int (Int32.ofNat (cs ++ ds).length)) ∧ Arv Z h vb kw .byte (34 : Int32) (((cs ++ ds).map fun c => c.toInt8.toInt32).map Value.int) (.int 0)) := by
  refine CtP.walk (Ls := #[.val (.ref sb), .val (.ref x), .unset]) (plainFor_of_name own_pn0) (fun m => by first | (simp [entryFrame, mkF, argsToLocals, Value.category]; done) | rfl) ?_
  intro p e s m below meth cc_ T hx hby hml hown hnm hret hlk hZ X eT
  have N := Fr.nil n0
  have K0 := Keep.refl h0 [sb]
  have sz_h : h0.size ≤ h0.size := Nat.le_refl _
  refine galoadN (v := (.ref x)) X hx 1 (hb hby D15_0) rfl rfl rfl ?_
  refine gifnonnullYes X hx 9 (hb hby D15_1) (by decide) (by decide) ?_
  refine galoadN (v := (.ref x)) X hx 10 (hb hby D15_9) rfl rfl rfl ?_
  refine gvirtual (y := Y33) (z := Y33) (a := x) (argsL := []) (st := []) X hx hZ hown (u105 hw) (u106 hw) (notFace_of_selects (args := #[]) (mvT hZ (u108 hw))) (u108 hw) (u107 hw) (by decide) P6_Exa (payP (W := 0) (rmLnS l Z a0 hw (x) (t) (kt) ((Int32.ofNat ds.length)) (((ds.map fun c => c.toInt8.toInt32).map Value.int)) (G1) h0 n0 (Nat.le_trans Z0 sz_h) P0_Old P6_Exa P7_Fld P8_Fld P9_Arv (O2) (P5)) hZ (u109 hw) (u5 hw) (by decide) (by decide)) eT (by rw [hml]; rfl) (lenOf own_pd8 rfl) rfl (Nat.le_of_eq rfl) 0 0 rfl rfl (by decide) (by decide) 13 (hb hby D15_10) rfl (gcut N ?_)
  clear X eT N; clear T; intro T L X eT N
  refine gistoreN X hx #[.val (.ref sb), .val (.ref x), .val (.int (Int32.ofNat ds.length))] 14 (hb hby D15_13) rfl rfl ?_
  refine galoadN (v := (.ref sb)) X hx 15 (hb hby D15_14) rfl rfl rfl ?_
  refine galoadN (v := (.ref sb)) X hx 16 (hb hby D15_15) rfl rfl rfl ?_
  refine ggetF X hx hZ (host := "") hown (Or.inl (u110 hw)) Via.refl eT P4_Fld 19 (hb hby D15_16) rfl ?_
  clear X eT; clear T; intro T X eT
  refine giloadN (v := (Int32.ofNat ds.length)) X hx 20 (hb hby D15_19) rfl rfl ?_
  refine giadd X hx 21 (hb hby D15_20) rfl ?_
  refine gpriv (y := Y11) (a := sb) (argsL := [(.int ((Int32.ofNat cs.length) + (Int32.ofNat ds.length)))]) (st := []) X hx hZ hown (u112 hw) (u113 hw) (nf_sel (args := #[]) (mvT hZ (u115 hw)) rfl) (u114 hw) (u116 hw) (by decide) P1_Exa (payP (W := 0) (rmEB l Z a0 hw (sb) (va) (kv) (cs) (((Int32.ofNat cs.length) + (Int32.ofNat ds.length))) h0 n0 (Nat.le_trans Z0 sz_h) ge_sb P1_Exa P2_Fld P3_Fld P4_Fld P5_Arv (own_ecB hgr hln) (own_ecG hln) (hcl)) hZ (u116 hw) (u86 hw) (by decide) (by decide)) eT (by rw [hml]; rfl) (lenOf own_pd0 rfl) rfl (Nat.le_of_eq rfl) 1 34 rfl rfl (by decide) (by decide) 24 (hb hby D15_21) rfl ?_
  clear X eT; clear T; intro v T h1 L2 Lc X eT hL hQ2
  obtain ⟨vb_3, kw_4, rfl, Nq, K5, zz_vb_3, G7, G8, G9, G10⟩ := hQ2
  replace N : Fr n0 L2 := by rw [hL]; exact Fr.app N Nq
  clear Nq hL
  have ne_sb_vb_3 : sb ≠ vb_3 := Nat.ne_of_lt (Nat.lt_of_lt_of_le P1_Exa.lt zz_vb_3)
  have ne_vb_3_sb : vb_3 ≠ sb := Ne.symm ne_sb_vb_3
  have ne_va_vb_3 : va ≠ vb_3 := Nat.ne_of_lt (Nat.lt_of_lt_of_le P5_Arv.lt zz_vb_3)
  have ne_vb_3_va : vb_3 ≠ va := Ne.symm ne_va_vb_3
  have ne_x_vb_3 : x ≠ vb_3 := Nat.ne_of_lt (Nat.lt_of_lt_of_le P6_Exa.lt zz_vb_3)
  have ne_vb_3_x : vb_3 ≠ x := Ne.symm ne_x_vb_3
  have ne_t_vb_3 : t ≠ vb_3 := Nat.ne_of_lt (Nat.lt_of_lt_of_le P9_Arv.lt zz_vb_3)
  have ne_vb_3_t : vb_3 ≠ t := Ne.symm ne_t_vb_3
  have sz_vb_3 : h0.size ≤ vb_3 := Nat.le_trans sz_h zz_vb_3
  have ge_vb_3 : n0 ≤ vb_3 := Nat.le_trans Z0 sz_vb_3
  have ne_va_sb : va ≠ sb := Ne.symm (Exa.neArv P1_Exa P5_Arv (u77 hw))
  have ne_x_sb : x ≠ sb := ne_exa P6_Exa P1_Exa (by decide)
  have ne_t_sb : t ≠ sb := Ne.symm (Exa.neArv P1_Exa P9_Arv (u77 hw))
  replace P0_Old := P0_Old.keep K5 (allS ge_sb all0)
  replace P1_Exa := P1_Exa.keep K5
  replace P5_Arv := P5_Arv.keep K5 (ninS ne_va_sb nin0)
  replace P6_Exa := P6_Exa.keep K5
  replace P7_Fld := P7_Fld.keep K5 (ninS ne_x_sb nin0)
  replace P8_Fld := P8_Fld.keep K5 (ninS ne_x_sb nin0)
  replace P9_Arv := P9_Arv.keep K5 (ninS ne_t_sb nin0)
  replace K0 := K0.trans K5 (allS (Or.inl (List.mem_of_getElem? (i := 0) rfl)) all0)
  replace sz_h : h0.size ≤ h1.size := Nat.le_trans sz_h K5.1
  show Go p e below _ T (mkF m 24 _ [])
  refine galoadN (v := (.ref sb)) X hx 25 (hb hby D15_24) rfl rfl rfl ?_
  refine galoadN (v := (.ref sb)) X hx 26 (hb hby D15_25) rfl rfl rfl ?_
  refine ggetF X hx hZ (host := "") hown (Or.inl (u110 hw)) Via.refl eT G9 29 (hb hby D15_26) rfl ?_
  clear X eT; clear T; intro T X eT
  refine galoadN (v := (.ref x)) X hx 30 (hb hby D15_29) rfl rfl rfl ?_
  refine gpriv (y := Y17) (a := sb) (argsL := [(.int (Int32.ofNat cs.length)), (.ref x)]) (st := []) X hx hZ hown (u117 hw) (u118 hw) (nf_sel (args := #[]) (mvT hZ (u115 hw)) rfl) (u119 hw) (u121 hw) (by decide) P1_Exa (payP (W := 0) (rmPAS l Z a0 hw (sb) (x) (t) (vb_3) (kt) (kw_4) (cs) (ds) (G1) ((34 : Int32)) h1 n0 (Nat.le_trans Z0 sz_h) ge_vb_3 P0_Old P1_Exa G7 G8 P6_Exa P7_Fld P8_Fld P9_Arv G10 (O2) (P5) (ne_t_vb_3) (Nat.le_trans hln (by decide)) (by decide)) hZ (u121 hw) (u86 hw) (by decide) (by decide)) eT (by rw [hml]; rfl) (lenOf own_pd9 rfl) rfl (Nat.le_of_eq rfl) 1 34 rfl rfl (by decide) (by decide) 33 (hb hby D15_30) rfl ?_
  clear X eT; clear T; intro v T h11 L2 Lc X eT hL hQ12
  obtain ⟨rfl, Nq, K13, G15⟩ := hQ12
  replace N : Fr n0 L2 := by rw [hL]; exact Fr.app N Nq
  clear Nq hL
  replace P0_Old := P0_Old.keep K13 (allS ge_vb_3 all0)
  replace P1_Exa := P1_Exa.keep K13
  replace P5_Arv := P5_Arv.keep K13 (ninS ne_va_vb_3 nin0)
  replace P6_Exa := P6_Exa.keep K13
  replace P7_Fld := P7_Fld.keep K13 (ninS ne_x_vb_3 nin0)
  replace P8_Fld := P8_Fld.keep K13 (ninS ne_x_vb_3 nin0)
  replace P9_Arv := P9_Arv.keep K13 (ninS ne_t_vb_3 nin0)
  replace G7 := G7.keep K13 (ninS ne_sb_vb_3 nin0)
  replace G8 := G8.keep K13 (ninS ne_sb_vb_3 nin0)
  replace G9 := G9.keep K13 (ninS ne_sb_vb_3 nin0)
  replace K0 := K0.trans K13 (allS (Or.inr sz_vb_3) all0)
  replace sz_h : h0.size ≤ h11.size := Nat.le_trans sz_h K13.1
  show Go p e below _ T (mkF m 33 _ [])
  refine galoadN (v := (.ref sb)) X hx 34 (hb hby D15_33) rfl rfl rfl ?_
  refine gdup X hx 35 (hb hby D15_34) rfl rfl ?_
  refine ggetF X hx hZ (host := "") hown (Or.inl (u110 hw)) Via.refl eT G9 38 (hb hby D15_35) rfl ?_
  clear X eT; clear T; intro T X eT
  refine giloadN (v := (Int32.ofNat ds.length)) X hx 39 (hb hby D15_38) rfl rfl ?_
  refine giadd X hx 40 (hb hby D15_39) rfl ?_
  rw [own_oadd (as := cs) (bs := ds)]
  show Go p e below _ T (mkF m 40 _ [(.int (Int32.ofNat (cs ++ ds).length)), (.ref sb)])
  refine gputF X hx hZ (host := "") hown (Or.inl (u110 hw)) Via.refl eT G9 P1_Exa (Or.inl (u111 hw)) (u77 hw) (ty := .int) own_pf2 rfl rfl N ge_sb 43 (hb hby D15_40) rfl ?_
  clear X eT N; clear T; intro T h16 L X eT N W17
  replace P0_Old := P0_Old.wr W17 ge_sb
  replace P1_Exa := P1_Exa.wr W17
  replace P5_Arv := P5_Arv.other W17 ne_va_sb
  replace P6_Exa := P6_Exa.wr W17
  replace P7_Fld := P7_Fld.other W17 (Or.inl ne_x_sb)
  replace P8_Fld := P8_Fld.other W17 (Or.inl ne_x_sb)
  replace P9_Arv := P9_Arv.other W17 ne_t_sb
  replace G7 := G7.other W17 (Or.inr (slot_ne (Or.inl (u91 hw)) (Or.inl (u111 hw)) (by decide) own_pf0 own_pf2))
  replace G8 := G8.other W17 (Or.inr (slot_ne (Or.inl (u93 hw)) (Or.inl (u111 hw)) (by decide) own_pf1 own_pf2))
  replace G9 := G9.same W17
  replace G15 := G15.other W17 ne_vb_3_sb
  replace K0 := K0.wr W17 (Or.inl (List.mem_of_getElem? (i := 0) rfl))
  replace sz_h : h0.size ≤ h16.size := by rw [Wr.size W17]; exact sz_h
  refine galoadN (v := (.ref sb)) X hx 44 (hb hby D15_43) rfl rfl rfl ?_
  exact gRetP X hx hlk hret rfl (Or.inr (Or.inr (Or.inr (Or.inr ⟨rfl, rfl, rfl⟩)))) (hb hby D15_44) eT (by decide) (by decide) ⟨vb_3, kw_4, rfl, N, K0, sz_vb_3, G7, G8, G9, G15⟩
theorem rmSASG (l : Launch) (Z : State) (a0 : Array Value) (hw : HW_ a0 Z) (sb : Addr) (x : Addr) (t : Addr) (va : Addr) (kt : ClassId) (kv : ClassId) (cs : List Int32) (ds : List Int32) (G1 : Int32) (h0 : Heap) (n0 : Nat) (Z0 : n0 ≤ h0.size) (ge_sb : n0 ≤ sb) (P0_Old : Old Z n0 h0) (P1_Exa : Exa Z h0 sb "java/lang/StringBuilder") (P2_Fld : Fld Z h0 sb "java/lang/AbstractStringBuilder" "value" "[B" (.ref va)) (P3_Fld : Fld Z h0 sb "java/lang/AbstractStringBuilder" "coder" "B" (.int 0)) (P4_Fld : Fld Z h0 sb "java/lang/AbstractStringBuilder" "count" "I" (.int (Int32.ofNat cs.length))) (P5_Arv : Arv Z h0 va kv .byte (16 : Int32) ((cs.map fun c => c.toInt8.toInt32).map Value.int) (.int 0)) (P6_Exa : Exa Z h0 x "java/lang/String") (P7_Fld : Fld Z h0 x "java/lang/String" "coder" "B" (.int 0)) (P8_Fld : Fld Z h0 x "java/lang/String" "value" "[B" (.ref t)) (P9_Arv : Arv Z h0 t kt .byte (Int32.ofNat ds.length) ((ds.map fun c => c.toInt8.toInt32).map Value.int) (.int 0)) (O2 : Sta Z Z.heap "java/lang/String" "COMPACT_STRINGS" "Z" (.int G1)) (P5 : ¬ G1 = (0 : Int32)) (hln : cs.length + ds.length ≤ 33) (hcl : cs.length ≤ 16) (hgr : 16 < cs.length + ds.length) :
    CtP l Y38 jdk_67_method_7_code 2 (some (.object "java/lang/StringBuilder")) [] ({ frames := 5, cells := 1, slots := 34, locals := 76 } : Room) Z #[(.ref sb), (.ref x)] h0 (fun v h L => ∃ (vb : Addr), ∃ (kw : ClassId), v = some (.ref sb) ∧ Fr n0 L ∧ Keep h0 h [sb] ∧ h0.size ≤ vb ∧ Fld Z h sb "java/lang/AbstractStringBuilder" "value" "[B" (.ref vb) ∧ Fld Z h sb "java/lang/AbstractStringBuilder" "coder" "B" (.int 0) ∧ Fld Z h sb "java/lang/AbstractStringBuilder" "count" "I" (.int (Int32.ofNat (cs ++ ds).length)) ∧ Arv Z h vb kw .byte (34 : Int32) (((cs ++ ds).map fun c => c.toInt8.toInt32).map Value.int) (.int 0)) := by
  refine CtP.walk (Ls := #[.val (.ref sb), .val (.ref x)]) (plainFor_of_name own_pn1) (fun m => by first | (simp [entryFrame, mkF, argsToLocals, Value.category]; done) | rfl) ?_
  intro p e s m below meth cc_ T hx hby hml hown hnm hret hlk hZ X eT
  have N := Fr.nil n0
  have K0 := Keep.refl h0 [sb]
  have sz_h : h0.size ≤ h0.size := Nat.le_refl _
  refine galoadN (v := (.ref sb)) X hx 1 (hb hby D14_0) rfl rfl rfl ?_
  refine galoadN (v := (.ref x)) X hx 2 (hb hby D14_1) rfl rfl rfl ?_
  refine gsuper (y := Y10) (a := sb) (argsL := [(.ref x)]) (st := []) X hx hZ hown (u100 hw) (sm_sel (u101 hw) (u115 hw) rfl (by decide)) (u101 hw) (u102 hw) (by decide) (u104 hw) (Ins.self P1_Exa) (payP (W := 0) (rmAASG l Z a0 hw (sb) (x) (t) (va) (kt) (kv) (cs) (ds) (G1) h0 n0 (Nat.le_trans Z0 sz_h) ge_sb P0_Old P1_Exa P2_Fld P3_Fld P4_Fld P5_Arv P6_Exa P7_Fld P8_Fld P9_Arv (O2) (P5) (hln) (hcl) (hgr)) hZ (u104 hw) (u86 hw) (by decide) (by decide)) eT (by rw [hml]; rfl) (lenOf own_pd10 rfl) rfl (Nat.le_of_eq rfl) 1 34 rfl rfl (by decide) (by decide) 5 (hb hby D14_2) rfl ?_
  clear X eT; clear T; intro v T h1 L2 Lc X eT hL hQ2
  obtain ⟨vb_3, kw_4, rfl, Nq, K5, zz_vb_3, G7, G8, G9, G10⟩ := hQ2
  replace N : Fr n0 L2 := by rw [hL]; exact Fr.app N Nq
  clear Nq hL
  have ne_sb_vb_3 : sb ≠ vb_3 := Nat.ne_of_lt (Nat.lt_of_lt_of_le P1_Exa.lt zz_vb_3)
  have ne_vb_3_sb : vb_3 ≠ sb := Ne.symm ne_sb_vb_3
  have ne_va_vb_3 : va ≠ vb_3 := Nat.ne_of_lt (Nat.lt_of_lt_of_le P5_Arv.lt zz_vb_3)
  have ne_vb_3_va : vb_3 ≠ va := Ne.symm ne_va_vb_3
  have ne_x_vb_3 : x ≠ vb_3 := Nat.ne_of_lt (Nat.lt_of_lt_of_le P6_Exa.lt zz_vb_3)
  have ne_vb_3_x : vb_3 ≠ x := Ne.symm ne_x_vb_3
  have ne_t_vb_3 : t ≠ vb_3 := Nat.ne_of_lt (Nat.lt_of_lt_of_le P9_Arv.lt zz_vb_3)
  have ne_vb_3_t : vb_3 ≠ t := Ne.symm ne_t_vb_3
  have sz_vb_3 : h0.size ≤ vb_3 := Nat.le_trans sz_h zz_vb_3
  have ge_vb_3 : n0 ≤ vb_3 := Nat.le_trans Z0 sz_vb_3
  have ne_va_sb : va ≠ sb := Ne.symm (Exa.neArv P1_Exa P5_Arv (u77 hw))
  have ne_x_sb : x ≠ sb := ne_exa P6_Exa P1_Exa (by decide)
  have ne_t_sb : t ≠ sb := Ne.symm (Exa.neArv P1_Exa P9_Arv (u77 hw))
  replace P0_Old := P0_Old.keep K5 (allS ge_sb all0)
  replace P1_Exa := P1_Exa.keep K5
  replace P5_Arv := P5_Arv.keep K5 (ninS ne_va_sb nin0)
  replace P6_Exa := P6_Exa.keep K5
  replace P7_Fld := P7_Fld.keep K5 (ninS ne_x_sb nin0)
  replace P8_Fld := P8_Fld.keep K5 (ninS ne_x_sb nin0)
  replace P9_Arv := P9_Arv.keep K5 (ninS ne_t_sb nin0)
  replace K0 := K0.trans K5 (allS (Or.inl (List.mem_of_getElem? (i := 0) rfl)) all0)
  replace sz_h : h0.size ≤ h1.size := Nat.le_trans sz_h K5.1
  show Go p e below _ T (mkF m 5 _ [(.ref sb)])
  refine gpop X hx 6 (hb hby D14_5) rfl rfl ?_
  refine galoadN (v := (.ref sb)) X hx 7 (hb hby D14_6) rfl rfl rfl ?_
  exact gRetP X hx hlk hret rfl (Or.inr (Or.inr (Or.inr (Or.inr ⟨rfl, rfl, rfl⟩)))) (hb hby D14_7) eT (by decide) (by decide) ⟨vb_3, kw_4, rfl, N, K0, sz_vb_3, G7, G8, G9, G10⟩
theorem rmEA (l : Launch) (Z : State) (a0 : Array Value) (hw : HW_ a0 Z) (sb : Addr) (va : Addr) (kv : ClassId) (vs0 : List Value) (nd : Int32) (zc : Int32) (h0 : Heap) (n0 : Nat) (Z0 : n0 ≤ h0.size) (P0_Fld : Fld Z h0 sb "java/lang/AbstractStringBuilder" "value" "[B" (.ref va)) (P1_Fld : Fld Z h0 sb "java/lang/AbstractStringBuilder" "coder" "B" (.int 0)) (P2_Arv : Arv Z h0 va kv .byte zc vs0 (.int 0)) (hA : ¬ (0 : Int32) < (nd - zc)) :
    CtP l Y11 jdk_68_method_9_code 3 none [] ({ frames := 0, cells := 0, slots := 0, locals := 0 } : Room) Z #[(.ref sb), (.int nd)] h0 (fun v h L => v = none ∧ Fr n0 L ∧ h = h0) := by
  refine CtP.walk (Ls := #[.val (.ref sb), .val (.int nd), .unset]) (plainFor_of_name own_pn0) (fun m => by first | (simp [entryFrame, mkF, argsToLocals, Value.category]; done) | rfl) ?_
  intro p e s m below meth cc_ T hx hby hml hown hnm hret hlk hZ X eT
  have N := Fr.nil n0
  have sz_h : h0.size ≤ h0.size := Nat.le_refl _
  refine galoadN (v := (.ref sb)) X hx 1 (hb hby D17_0) rfl rfl rfl ?_
  refine ggetF X hx hZ (host := "") hown (Or.inl (u90 hw)) Via.refl eT P0_Fld 4 (hb hby D17_1) rfl ?_
  clear X eT; clear T; intro T X eT
  refine garrlen X hx hZ eT P2_Arv 5 (hb hby D17_4) rfl ?_
  refine galoadN (v := (.ref sb)) X hx 6 (hb hby D17_5) rfl rfl rfl ?_
  refine ggetF X hx hZ (host := "") hown (Or.inl (u92 hw)) Via.refl eT P1_Fld 9 (hb hby D17_6) rfl ?_
  clear X eT; clear T; intro T X eT
  refine gishr X hx 10 (hb hby D17_9) rfl ?_
  refine gistoreN X hx #[.val (.ref sb), .val (.int nd), .val (.int (zc >>> ((0 : Int32) &&& 31)))] 11 (hb hby D17_10) rfl rfl ?_
  refine giloadN (v := nd) X hx 12 (hb hby D17_11) rfl rfl ?_
  refine giloadN (v := (zc >>> ((0 : Int32) &&& 31))) X hx 13 (hb hby D17_12) rfl rfl ?_
  refine gisub X hx 14 (hb hby D17_13) rfl ?_
  rw [own_shr0]
  show Go p e below _ T (mkF m 14 _ [(.int (nd - zc))])
  refine gifYes X hx 38 (hb hby D17_14) ((if0 _ _).trans (flt hA).2.2.2) (by decide) (by decide) ?_
  exact gRetP0 X hx hlk hret (hb hby D17_38) eT (by decide) (by decide) ⟨rfl, N, rfl⟩
theorem rmAASA (l : Launch) (Z : State) (a0 : Array Value) (hw : HW_ a0 Z) (sb : Addr) (x : Addr) (t : Addr) (va : Addr) (kt : ClassId) (kv : ClassId) (cs : List Int32) (ds : List Int32) (G1 : Int32) (zc : Int32) (h0 : Heap) (n0 : Nat) (Z0 : n0 ≤ h0.size) (ge_sb : n0 ≤ sb) (ge_va : n0 ≤ va) (P0_Old : Old Z n0 h0) (P1_Exa : Exa Z h0 sb "java/lang/StringBuilder") (P2_Fld : Fld Z h0 sb "java/lang/AbstractStringBuilder" "value" "[B" (.ref va)) (P3_Fld : Fld Z h0 sb "java/lang/AbstractStringBuilder" "coder" "B" (.int 0)) (P4_Fld : Fld Z h0 sb "java/lang/AbstractStringBuilder" "count" "I" (.int (Int32.ofNat cs.length))) (P5_Arv : Arv Z h0 va kv .byte zc ((cs.map fun c => c.toInt8.toInt32).map Value.int) (.int 0)) (P6_Exa : Exa Z h0 x "java/lang/String") (P7_Fld : Fld Z h0 x "java/lang/String" "coder" "B" (.int 0)) (P8_Fld : Fld Z h0 x "java/lang/String" "value" "[B" (.ref t)) (P9_Arv : Arv Z h0 t kt .byte (Int32.ofNat ds.length) ((ds.map fun c => c.toInt8.toInt32).map Value.int) (.int 0)) (O2 : Sta Z Z.heap "java/lang/String" "COMPACT_STRINGS" "Z" (.int G1)) (P5 : ¬ G1 = (0 : Int32)) (hln : cs.length + ds.length ≤ zc.toNatClampNeg) (hz34 : 0 < zc.toNatClampNeg ∧ zc.toNatClampNeg ≤ 34) (ntv : t ≠ va) :
    CtP l Y10 jdk_68_method_22_code 3 (some (.object "java/lang/AbstractStringBuilder")) [] ({ frames := 3, cells := 0, slots := 0, locals := 47 } : Room) Z #[(.ref sb), (.ref x)] h0 (fun v h L => v = some (.ref sb) ∧ Fr n0 L ∧ Keep h0 h [sb, va] ∧ Fld Z h sb "java/lang/AbstractStringBuilder" "value" "[B" (.ref va) ∧ Fld Z h sb "java/lang/AbstractStringBuilder" "coder" "B" (.int 0) ∧ Fld Z h sb "java/lang/AbstractStringBuilder" "count" "I" (.int (Int32.ofNat (cs ++ ds).length)) ∧ Arv Z h va kv .byte zc (((cs ++ ds).map fun c => c.toInt8.toInt32).map Value.int) (.int 0)) := by
  refine CtP.walk (Ls := #[.val (.ref sb), .val (.ref x), .unset]) (plainFor_of_name own_pn0) (fun m => by first | (simp [entryFrame, mkF, argsToLocals, Value.category]; done) | rfl) ?_
  intro p e s m below meth cc_ T hx hby hml hown hnm hret hlk hZ X eT
  have N := Fr.nil n0
  have K0 := Keep.refl h0 [sb, va]
  have sz_h : h0.size ≤ h0.size := Nat.le_refl _
  refine galoadN (v := (.ref x)) X hx 1 (hb hby D15_0) rfl rfl rfl ?_
  refine gifnonnullYes X hx 9 (hb hby D15_1) (by decide) (by decide) ?_
  refine galoadN (v := (.ref x)) X hx 10 (hb hby D15_9) rfl rfl rfl ?_
  refine gvirtual (y := Y33) (z := Y33) (a := x) (argsL := []) (st := []) X hx hZ hown (u105 hw) (u106 hw) (notFace_of_selects (args := #[]) (mvT hZ (u108 hw))) (u108 hw) (u107 hw) (by decide) P6_Exa (payP (W := 0) (rmLnS l Z a0 hw (x) (t) (kt) ((Int32.ofNat ds.length)) (((ds.map fun c => c.toInt8.toInt32).map Value.int)) (G1) h0 n0 (Nat.le_trans Z0 sz_h) P0_Old P6_Exa P7_Fld P8_Fld P9_Arv (O2) (P5)) hZ (u109 hw) (u5 hw) (by decide) (by decide)) eT (by rw [hml]; rfl) (lenOf own_pd8 rfl) rfl (Nat.le_of_eq rfl) 0 0 rfl rfl (by decide) (by decide) 13 (hb hby D15_10) rfl (gcut N ?_)
  clear X eT N; clear T; intro T L X eT N
  refine gistoreN X hx #[.val (.ref sb), .val (.ref x), .val (.int (Int32.ofNat ds.length))] 14 (hb hby D15_13) rfl rfl ?_
  refine galoadN (v := (.ref sb)) X hx 15 (hb hby D15_14) rfl rfl rfl ?_
  refine galoadN (v := (.ref sb)) X hx 16 (hb hby D15_15) rfl rfl rfl ?_
  refine ggetF X hx hZ (host := "") hown (Or.inl (u110 hw)) Via.refl eT P4_Fld 19 (hb hby D15_16) rfl ?_
  clear X eT; clear T; intro T X eT
  refine giloadN (v := (Int32.ofNat ds.length)) X hx 20 (hb hby D15_19) rfl rfl ?_
  refine giadd X hx 21 (hb hby D15_20) rfl ?_
  refine gpriv (y := Y11) (a := sb) (argsL := [(.int ((Int32.ofNat cs.length) + (Int32.ofNat ds.length)))]) (st := []) X hx hZ hown (u112 hw) (u113 hw) (nf_sel (args := #[]) (mvT hZ (u115 hw)) rfl) (u114 hw) (u116 hw) (by decide) P1_Exa (payP (W := 0) (rmEA l Z a0 hw (sb) (va) (kv) (((cs.map fun c => c.toInt8.toInt32).map Value.int)) (((Int32.ofNat cs.length) + (Int32.ofNat ds.length))) (zc) h0 n0 (Nat.le_trans Z0 sz_h) P2_Fld P3_Fld P5_Arv (own_ecA hln hz34)) hZ (u116 hw) (u86 hw) (by decide) (by decide)) eT (by rw [hml]; rfl) (lenOf own_pd0 rfl) rfl (Nat.le_of_eq rfl) 0 0 rfl rfl (by decide) (by decide) 24 (hb hby D15_21) rfl (gcut0 N ?_)
  clear X eT N; clear T; intro T L X eT N
  refine galoadN (v := (.ref sb)) X hx 25 (hb hby D15_24) rfl rfl rfl ?_
  refine galoadN (v := (.ref sb)) X hx 26 (hb hby D15_25) rfl rfl rfl ?_
  refine ggetF X hx hZ (host := "") hown (Or.inl (u110 hw)) Via.refl eT P4_Fld 29 (hb hby D15_26) rfl ?_
  clear X eT; clear T; intro T X eT
  refine galoadN (v := (.ref x)) X hx 30 (hb hby D15_29) rfl rfl rfl ?_
  refine gpriv (y := Y17) (a := sb) (argsL := [(.int (Int32.ofNat cs.length)), (.ref x)]) (st := []) X hx hZ hown (u117 hw) (u118 hw) (nf_sel (args := #[]) (mvT hZ (u115 hw)) rfl) (u119 hw) (u121 hw) (by decide) P1_Exa (payP (W := 0) (rmPAS l Z a0 hw (sb) (x) (t) (va) (kt) (kv) (cs) (ds) (G1) (zc) h0 n0 (Nat.le_trans Z0 sz_h) ge_va P0_Old P1_Exa P2_Fld P3_Fld P6_Exa P7_Fld P8_Fld P9_Arv P5_Arv (O2) (P5) (ntv) (hln) (hz34)) hZ (u121 hw) (u86 hw) (by decide) (by decide)) eT (by rw [hml]; rfl) (lenOf own_pd9 rfl) rfl (Nat.le_of_eq rfl) 0 0 rfl rfl (by decide) (by decide) 33 (hb hby D15_30) rfl ?_
  clear X eT; clear T; intro v T h1 L2 Lc X eT hL hQ2
  obtain ⟨rfl, Nq, K3, G5⟩ := hQ2
  replace N : Fr n0 L2 := by rw [hL]; exact Fr.app N Nq
  clear Nq hL
  have ne_sb_va : sb ≠ va := Exa.neArv P1_Exa P5_Arv (u77 hw)
  have ne_x_va : x ≠ va := Exa.neArv P6_Exa P5_Arv (u6 hw)
  replace P0_Old := P0_Old.keep K3 (allS ge_va all0)
  replace P1_Exa := P1_Exa.keep K3
  replace P2_Fld := P2_Fld.keep K3 (ninS ne_sb_va nin0)
  replace P3_Fld := P3_Fld.keep K3 (ninS ne_sb_va nin0)
  replace P4_Fld := P4_Fld.keep K3 (ninS ne_sb_va nin0)
  replace P6_Exa := P6_Exa.keep K3
  replace P7_Fld := P7_Fld.keep K3 (ninS ne_x_va nin0)
  replace P8_Fld := P8_Fld.keep K3 (ninS ne_x_va nin0)
  replace P9_Arv := P9_Arv.keep K3 (ninS ntv nin0)
  replace K0 := K0.trans K3 (allS (Or.inl (List.mem_of_getElem? (i := 1) rfl)) all0)
  replace sz_h : h0.size ≤ h1.size := Nat.le_trans sz_h K3.1
  show Go p e below _ T (mkF m 33 _ [])
  refine galoadN (v := (.ref sb)) X hx 34 (hb hby D15_33) rfl rfl rfl ?_
  refine gdup X hx 35 (hb hby D15_34) rfl rfl ?_
  refine ggetF X hx hZ (host := "") hown (Or.inl (u110 hw)) Via.refl eT P4_Fld 38 (hb hby D15_35) rfl ?_
  clear X eT; clear T; intro T X eT
  refine giloadN (v := (Int32.ofNat ds.length)) X hx 39 (hb hby D15_38) rfl rfl ?_
  refine giadd X hx 40 (hb hby D15_39) rfl ?_
  rw [own_oadd (as := cs) (bs := ds)]
  show Go p e below _ T (mkF m 40 _ [(.int (Int32.ofNat (cs ++ ds).length)), (.ref sb)])
  refine gputF X hx hZ (host := "") hown (Or.inl (u110 hw)) Via.refl eT P4_Fld P1_Exa (Or.inl (u111 hw)) (u77 hw) (ty := .int) own_pf2 rfl rfl N ge_sb 43 (hb hby D15_40) rfl ?_
  clear X eT N; clear T; intro T h6 L X eT N W7
  have ne_x_sb : x ≠ sb := ne_exa P6_Exa P1_Exa (by decide)
  have ne_t_sb : t ≠ sb := Ne.symm (Exa.neArv P1_Exa P9_Arv (u77 hw))
  have ne_va_sb : va ≠ sb := Ne.symm (Exa.neArv P1_Exa G5 (u77 hw))
  replace P0_Old := P0_Old.wr W7 ge_sb
  replace P1_Exa := P1_Exa.wr W7
  replace P2_Fld := P2_Fld.other W7 (Or.inr (slot_ne (Or.inl (u91 hw)) (Or.inl (u111 hw)) (by decide) own_pf0 own_pf2))
  replace P3_Fld := P3_Fld.other W7 (Or.inr (slot_ne (Or.inl (u93 hw)) (Or.inl (u111 hw)) (by decide) own_pf1 own_pf2))
  replace P4_Fld := P4_Fld.same W7
  replace P6_Exa := P6_Exa.wr W7
  replace P7_Fld := P7_Fld.other W7 (Or.inl ne_x_sb)
  replace P8_Fld := P8_Fld.other W7 (Or.inl ne_x_sb)
  replace P9_Arv := P9_Arv.other W7 ne_t_sb
  replace G5 := G5.other W7 ne_va_sb
  replace K0 := K0.wr W7 (Or.inl (List.mem_of_getElem? (i := 0) rfl))
  replace sz_h : h0.size ≤ h6.size := by rw [Wr.size W7]; exact sz_h
  refine galoadN (v := (.ref sb)) X hx 44 (hb hby D15_43) rfl rfl rfl ?_
  exact gRetP X hx hlk hret rfl (Or.inr (Or.inr (Or.inr (Or.inr ⟨rfl, rfl, rfl⟩)))) (hb hby D15_44) eT (by decide) (by decide) ⟨rfl, N, K0, P2_Fld, P3_Fld, P4_Fld, G5⟩
theorem rmSASA (l : Launch) (Z : State) (a0 : Array Value) (hw : HW_ a0 Z) (sb : Addr) (x : Addr) (t : Addr) (va : Addr) (kt : ClassId) (kv : ClassId) (cs : List Int32) (ds : List Int32) (G1 : Int32) (zc : Int32) (h0 : Heap) (n0 : Nat) (Z0 : n0 ≤ h0.size) (ge_sb : n0 ≤ sb) (ge_va : n0 ≤ va) (P0_Old : Old Z n0 h0) (P1_Exa : Exa Z h0 sb "java/lang/StringBuilder") (P2_Fld : Fld Z h0 sb "java/lang/AbstractStringBuilder" "value" "[B" (.ref va)) (P3_Fld : Fld Z h0 sb "java/lang/AbstractStringBuilder" "coder" "B" (.int 0)) (P4_Fld : Fld Z h0 sb "java/lang/AbstractStringBuilder" "count" "I" (.int (Int32.ofNat cs.length))) (P5_Arv : Arv Z h0 va kv .byte zc ((cs.map fun c => c.toInt8.toInt32).map Value.int) (.int 0)) (P6_Exa : Exa Z h0 x "java/lang/String") (P7_Fld : Fld Z h0 x "java/lang/String" "coder" "B" (.int 0)) (P8_Fld : Fld Z h0 x "java/lang/String" "value" "[B" (.ref t)) (P9_Arv : Arv Z h0 t kt .byte (Int32.ofNat ds.length) ((ds.map fun c => c.toInt8.toInt32).map Value.int) (.int 0)) (O2 : Sta Z Z.heap "java/lang/String" "COMPACT_STRINGS" "Z" (.int G1)) (P5 : ¬ G1 = (0 : Int32)) (hln : cs.length + ds.length ≤ zc.toNatClampNeg) (hz34 : 0 < zc.toNatClampNeg ∧ zc.toNatClampNeg ≤ 34) (ntv : t ≠ va) :
    CtP l Y38 jdk_67_method_7_code 2 (some (.object "java/lang/StringBuilder")) [] ({ frames := 5, cells := 1, slots := 34, locals := 76 } : Room) Z #[(.ref sb), (.ref x)] h0 (fun v h L => v = some (.ref sb) ∧ Fr n0 L ∧ Keep h0 h [sb, va] ∧ Fld Z h sb "java/lang/AbstractStringBuilder" "value" "[B" (.ref va) ∧ Fld Z h sb "java/lang/AbstractStringBuilder" "coder" "B" (.int 0) ∧ Fld Z h sb "java/lang/AbstractStringBuilder" "count" "I" (.int (Int32.ofNat (cs ++ ds).length)) ∧ Arv Z h va kv .byte zc (((cs ++ ds).map fun c => c.toInt8.toInt32).map Value.int) (.int 0)) := by
  refine CtP.walk (Ls := #[.val (.ref sb), .val (.ref x)]) (plainFor_of_name own_pn1) (fun m => by first | (simp [entryFrame, mkF, argsToLocals, Value.category]; done) | rfl) ?_
  intro p e s m below meth cc_ T hx hby hml hown hnm hret hlk hZ X eT
  have N := Fr.nil n0
  have K0 := Keep.refl h0 [sb, va]
  have sz_h : h0.size ≤ h0.size := Nat.le_refl _
  refine galoadN (v := (.ref sb)) X hx 1 (hb hby D14_0) rfl rfl rfl ?_
  refine galoadN (v := (.ref x)) X hx 2 (hb hby D14_1) rfl rfl rfl ?_
  refine gsuper (y := Y10) (a := sb) (argsL := [(.ref x)]) (st := []) X hx hZ hown (u100 hw) (sm_sel (u101 hw) (u115 hw) rfl (by decide)) (u101 hw) (u102 hw) (by decide) (u104 hw) (Ins.self P1_Exa) (payP (W := 0) (rmAASA l Z a0 hw (sb) (x) (t) (va) (kt) (kv) (cs) (ds) (G1) (zc) h0 n0 (Nat.le_trans Z0 sz_h) ge_sb ge_va P0_Old P1_Exa P2_Fld P3_Fld P4_Fld P5_Arv P6_Exa P7_Fld P8_Fld P9_Arv (O2) (P5) (hln) (hz34) (ntv)) hZ (u104 hw) (u86 hw) (by decide) (by decide)) eT (by rw [hml]; rfl) (lenOf own_pd10 rfl) rfl (Nat.le_of_eq rfl) 0 0 rfl rfl (by decide) (by decide) 5 (hb hby D14_2) rfl ?_
  clear X eT; clear T; intro v T h1 L2 Lc X eT hL hQ2
  obtain ⟨rfl, Nq, K3, G5, G6, G7, G8⟩ := hQ2
  replace N : Fr n0 L2 := by rw [hL]; exact Fr.app N Nq
  clear Nq hL
  have ne_x_sb : x ≠ sb := ne_exa P6_Exa P1_Exa (by decide)
  have ne_x_va : x ≠ va := Exa.neArv P6_Exa P5_Arv (u6 hw)
  have ne_t_sb : t ≠ sb := Ne.symm (Exa.neArv P1_Exa P9_Arv (u77 hw))
  replace P0_Old := P0_Old.keep K3 (allS ge_sb (allS ge_va all0))
  replace P1_Exa := P1_Exa.keep K3
  replace P6_Exa := P6_Exa.keep K3
  replace P7_Fld := P7_Fld.keep K3 (ninS ne_x_sb (ninS ne_x_va nin0))
  replace P8_Fld := P8_Fld.keep K3 (ninS ne_x_sb (ninS ne_x_va nin0))
  replace P9_Arv := P9_Arv.keep K3 (ninS ne_t_sb (ninS ntv nin0))
  replace K0 := K0.trans K3 (allS (Or.inl (List.mem_of_getElem? (i := 0) rfl)) (allS (Or.inl (List.mem_of_getElem? (i := 1) rfl)) all0))
  replace sz_h : h0.size ≤ h1.size := Nat.le_trans sz_h K3.1
  show Go p e below _ T (mkF m 5 _ [(.ref sb)])
  refine gpop X hx 6 (hb hby D14_5) rfl rfl ?_
  refine galoadN (v := (.ref sb)) X hx 7 (hb hby D14_6) rfl rfl rfl ?_
  exact gRetP X hx hlk hret rfl (Or.inr (Or.inr (Or.inr (Or.inr ⟨rfl, rfl, rfl⟩)))) (hb hby D14_7) eT (by decide) (by decide) ⟨rfl, N, K0, G5, G6, G7, G8⟩
theorem rmApS (l : Launch) (Z : State) (a0 : Array Value) (hw : HW_ a0 Z) (sb : Addr) (x : Addr) (t : Addr) (va : Addr) (kt : ClassId) (kv : ClassId) (cs : List Int32) (ds : List Int32) (G1 : Int32) (zc : Int32) (h0 : Heap) (n0 : Nat) (Z0 : n0 ≤ h0.size) (ge_sb : n0 ≤ sb) (ge_va : n0 ≤ va) (P0_Old : Old Z n0 h0) (P1_Exa : Exa Z h0 sb "java/lang/StringBuilder") (P2_Fld : Fld Z h0 sb "java/lang/AbstractStringBuilder" "value" "[B" (.ref va)) (P3_Fld : Fld Z h0 sb "java/lang/AbstractStringBuilder" "coder" "B" (.int 0)) (P4_Fld : Fld Z h0 sb "java/lang/AbstractStringBuilder" "count" "I" (.int (Int32.ofNat cs.length))) (P5_Arv : Arv Z h0 va kv .byte zc ((cs.map fun c => c.toInt8.toInt32).map Value.int) (.int 0)) (P6_Exa : Exa Z h0 x "java/lang/String") (P7_Fld : Fld Z h0 x "java/lang/String" "coder" "B" (.int 0)) (P8_Fld : Fld Z h0 x "java/lang/String" "value" "[B" (.ref t)) (P9_Arv : Arv Z h0 t kt .byte (Int32.ofNat ds.length) ((ds.map fun c => c.toInt8.toInt32).map Value.int) (.int 0)) (O2 : Sta Z Z.heap "java/lang/String" "COMPACT_STRINGS" "Z" (.int G1)) (P5 : ¬ G1 = (0 : Int32)) (hz : zc = (16 : Int32) ∨ zc = (34 : Int32)) (hc16 : zc = (16 : Int32) → cs.length ≤ 16) (hln : cs.length + ds.length ≤ 33) (ntv : t ≠ va) :
    CtP l Y38 jdk_67_method_7_code 2 (some (.object "java/lang/StringBuilder")) [] ({ frames := 5, cells := 1, slots := 34, locals := 76 } : Room) Z #[(.ref sb), (.ref x)] h0 (fun v h L => ∃ (vb : Addr), ∃ (kw : ClassId), ∃ (ze : Int32), v = some (.ref sb) ∧ Fr n0 L ∧ Keep h0 h [sb, va] ∧ (vb = va ∨ h0.size ≤ vb) ∧ Fld Z h sb "java/lang/AbstractStringBuilder" "value" "[B" (.ref vb) ∧ Fld Z h sb "java/lang/AbstractStringBuilder" "coder" "B" (.int 0) ∧ Fld Z h sb "java/lang/AbstractStringBuilder" "count" "I" (.int (Int32.ofNat (cs ++ ds).length)) ∧ Arv Z h vb kw .byte ze (((cs ++ ds).map fun c => c.toInt8.toInt32).map Value.int) (.int 0) ∧ (ze = (16 : Int32) ∨ ze = (34 : Int32)) ∧ (ze = (16 : Int32) → (cs ++ ds).length ≤ 16 ∧ zc = (16 : Int32) ∧ kw = kv)) := by
  rcases hz with rfl | rfl
  · rcases Nat.lt_or_ge 16 (cs.length + ds.length) with g | g
    · refine CtP.mono ?_ (rmSASG l Z a0 hw sb x t va kt kv cs ds G1 h0 n0 Z0 ge_sb P0_Old P1_Exa P2_Fld P3_Fld P4_Fld P5_Arv P6_Exa P7_Fld P8_Fld P9_Arv O2 P5 hln (hc16 rfl) g)
      rintro v h L ⟨vb, kw, e1, N, K, z1, f1, f2, f3, f4⟩
      exact ⟨vb, kw, 34, e1, N, ⟨K.1, fun a c q r => K.2.1 a c q (fun z => r (List.mem_cons.mpr (Or.inl (List.mem_singleton.mp z)))), K.2.2⟩, Or.inr z1, f1, f2, f3, f4, Or.inr rfl, fun q => absurd q (by decide)⟩
    · refine CtP.mono ?_ (rmSASA l Z a0 hw sb x t va kt kv cs ds G1 16 h0 n0 Z0 ge_sb ge_va P0_Old P1_Exa P2_Fld P3_Fld P4_Fld P5_Arv P6_Exa P7_Fld P8_Fld P9_Arv O2 P5 (Nat.le_trans g (by decide)) (by decide) ntv)
      rintro v h L ⟨e1, N, K, f1, f2, f3, f4⟩
      exact ⟨va, kv, 16, e1, N, K, Or.inl rfl, f1, f2, f3, f4, Or.inl rfl, fun _ => ⟨by rw [List.length_append]; exact g, rfl, rfl⟩⟩
  · refine CtP.mono ?_ (rmSASA l Z a0 hw sb x t va kt kv cs ds G1 34 h0 n0 Z0 ge_sb ge_va P0_Old P1_Exa P2_Fld P3_Fld P4_Fld P5_Arv P6_Exa P7_Fld P8_Fld P9_Arv O2 P5 (Nat.le_trans hln (by decide)) (by decide) ntv)
    rintro v h L ⟨e1, N, K, f1, f2, f3, f4⟩
    exact ⟨va, kv, 34, e1, N, K, Or.inl rfl, f1, f2, f3, f4, Or.inr rfl, fun q => absurd q (by decide)⟩
theorem rm29 (l : Launch) (Z : State) (a0 : Array Value) (hw : HW_ a0 Z) (sb : Addr) (va : Addr) (h0 : Heap) (n0 : Nat) (Z0 : n0 ≤ h0.size) (P0_Fld : Fld Z h0 sb "java/lang/AbstractStringBuilder" "value" "[B" (.ref va)) :
    CtP l Y12 jdk_68_method_64_code 1 (some (.array .byte)) [] ({ frames := 0, cells := 0, slots := 0, locals := 0 } : Room) Z #[(.ref sb)] h0 (fun v h L => v = some (.ref va) ∧ Fr n0 L ∧ h = h0) := by
  refine CtP.walk (Ls := #[.val (.ref sb)]) (plainFor_of_name own_pn0) (fun m => by first | (simp [entryFrame, mkF, argsToLocals, Value.category]; done) | rfl) ?_
  intro p e s m below meth cc_ T hx hby hml hown hnm hret hlk hZ X eT
  have N := Fr.nil n0
  have sz_h : h0.size ≤ h0.size := Nat.le_refl _
  refine galoadN (v := (.ref sb)) X hx 1 (hb hby D29_0) rfl rfl rfl ?_
  refine ggetF X hx hZ (host := "") hown (Or.inl (u90 hw)) Via.refl eT P0_Fld 4 (hb hby D29_1) rfl ?_
  clear X eT; clear T; intro T X eT
  exact gRetP X hx hlk hret rfl (Or.inr (Or.inr (Or.inr (Or.inr ⟨rfl, rfl, rfl⟩)))) (hb hby D29_4) eT (by decide) (by decide) ⟨rfl, N, rfl⟩
theorem rm31 (l : Launch) (Z : State) (a0 : Array Value) (hw : HW_ a0 Z) (sb : Addr) (nn : Int32) (h0 : Heap) (n0 : Nat) (Z0 : n0 ≤ h0.size) (P0_Fld : Fld Z h0 sb "java/lang/AbstractStringBuilder" "count" "I" (.int nn)) :
    CtP l Y15 jdk_68_method_6_code 1 (some .int) [] ({ frames := 0, cells := 0, slots := 0, locals := 0 } : Room) Z #[(.ref sb)] h0 (fun v h L => v = some (.int nn) ∧ Fr n0 L ∧ h = h0) := by
  refine CtP.walk (Ls := #[.val (.ref sb)]) (plainFor_of_name own_pn0) (fun m => by first | (simp [entryFrame, mkF, argsToLocals, Value.category]; done) | rfl) ?_
  intro p e s m below meth cc_ T hx hby hml hown hnm hret hlk hZ X eT
  have N := Fr.nil n0
  have sz_h : h0.size ≤ h0.size := Nat.le_refl _
  refine galoadN (v := (.ref sb)) X hx 1 (hb hby D31_0) rfl rfl rfl ?_
  refine ggetF X hx hZ (host := "") hown (Or.inl (u110 hw)) Via.refl eT P0_Fld 4 (hb hby D31_1) rfl ?_
  clear X eT; clear T; intro T X eT
  exact gRetP X hx hlk hret rfl (Or.inl ⟨rfl, by simp, _, rfl⟩) (hb hby D31_4) eT (by decide) (by decide) ⟨rfl, N, rfl⟩
theorem rm30 (l : Launch) (Z : State) (a0 : Array Value) (hw : HW_ a0 Z) (sb : Addr) (nn : Int32) (h0 : Heap) (n0 : Nat) (Z0 : n0 ≤ h0.size) (P0_Exa : Exa Z h0 sb "java/lang/StringBuilder") (P1_Fld : Fld Z h0 sb "java/lang/AbstractStringBuilder" "count" "I" (.int nn)) :
    CtP l Y39 jdk_67_method_93_code 1 (some .int) [] ({ frames := 1, cells := 0, slots := 0, locals := 12 } : Room) Z #[(.ref sb)] h0 (fun v h L => v = some (.int nn) ∧ Fr n0 L ∧ h = h0) := by
  refine CtP.walk (Ls := #[.val (.ref sb)]) (plainFor_of_name own_pn1) (fun m => by first | (simp [entryFrame, mkF, argsToLocals, Value.category]; done) | rfl) ?_
  intro p e s m below meth cc_ T hx hby hml hown hnm hret hlk hZ X eT
  have N := Fr.nil n0
  have sz_h : h0.size ≤ h0.size := Nat.le_refl _
  refine galoadN (v := (.ref sb)) X hx 1 (hb hby D30_0) rfl rfl rfl ?_
  refine gsuper (y := Y15) (a := sb) (argsL := []) (st := []) X hx hZ hown (u185 hw) (sm_sel (u181 hw) (u115 hw) rfl (by decide)) (u181 hw) (u102 hw) (by decide) (u186 hw) (Ins.self P0_Exa) (payP (W := 0) (rm31 l Z a0 hw (sb) (nn) h0 n0 (Nat.le_trans Z0 sz_h) P1_Fld) hZ (u186 hw) (u86 hw) (by decide) (by decide)) eT (by rw [hml]; rfl) (lenOf own_pd8 rfl) rfl (Nat.le_of_eq rfl) 0 0 rfl rfl (by decide) (by decide) 4 (hb hby D30_1) rfl (gcut N ?_)
  clear X eT N; clear T; intro T L X eT N
  exact gRetP X hx hlk hret rfl (Or.inl ⟨rfl, by simp, _, rfl⟩) (hb hby D30_4) eT (by decide) (by decide) ⟨rfl, N, rfl⟩
theorem rm24 (l : Launch) (Z : State) (a0 : Array Value) (hw : HW_ a0 Z) (sb : Addr) (G1 : Int32) (h0 : Heap) (n0 : Nat) (Z0 : n0 ≤ h0.size) (P0_Old : Old Z n0 h0) (P1_Fld : Fld Z h0 sb "java/lang/AbstractStringBuilder" "coder" "B" (.int 0)) (O2 : Sta Z Z.heap "java/lang/String" "COMPACT_STRINGS" "Z" (.int G1)) (P5 : ¬ G1 = (0 : Int32)) :
    CtP l Y14 jdk_68_method_68_code 1 (some .boolean) [] ({ frames := 0, cells := 0, slots := 0, locals := 0 } : Room) Z #[(.ref sb)] h0 (fun v h L => v = some (.int 1) ∧ Fr n0 L ∧ h = h0) := by
  refine CtP.walk (Ls := #[.val (.ref sb)]) (plainFor_of_name own_pn0) (fun m => by first | (simp [entryFrame, mkF, argsToLocals, Value.category]; done) | rfl) ?_
  intro p e s m below meth cc_ T hx hby hml hown hnm hret hlk hZ X eT
  have N := Fr.nil n0
  have sz_h : h0.size ≤ h0.size := Nat.le_refl _
  refine ggetS X hx hZ (host := "") hown (Or.inl (u89 hw)) Via.refl eT (O2.ext P0_Old.2) 3 (hb hby D24_0) rfl ?_
  clear X eT; clear T; intro T X eT
  refine gifNo X hx 6 (hb hby D24_3) rfl ((if0 _ _).trans (feq P5).1) ?_
  refine galoadN (v := (.ref sb)) X hx 7 (hb hby D24_6) rfl rfl rfl ?_
  refine ggetF X hx hZ (host := "") hown (Or.inl (u92 hw)) Via.refl eT P1_Fld 10 (hb hby D24_7) rfl ?_
  clear X eT; clear T; intro T X eT
  refine gifNo X hx 13 (hb hby D24_10) rfl (by decide) ?_
  refine giconst X hx (1 : Int32) 14 (hb hby D24_13) rfl rfl ?_
  refine ggoto X hx 18 (hb hby D24_14) (by decide) (by decide) ?_
  exact gRetP X hx hlk hret rfl (Or.inl ⟨rfl, by simp, _, rfl⟩) (hb hby D24_18) eT (by decide) (by decide) ⟨rfl, N, rfl⟩
theorem rmCkS (l : Launch) (Z : State) (a0 : Array Value) (hw : HW_ a0 Z) (nn : Int32) (h0 : Heap) (n0 : Nat) (Z0 : n0 ≤ h0.size) (hn0 : ¬ nn < (0 : Int32)) :
    CtP l Y45 jdk_65_method_131_code 2 none [] ({ frames := 0, cells := 0, slots := 0, locals := 0 } : Room) Z #[(.int 0), (.int nn)] h0 (fun v h L => v = none ∧ Fr n0 L ∧ h = h0) := by
  refine CtP.walk (Ls := #[.val (.int 0), .val (.int nn)]) (plainFor_of_name own_pn7) (fun m => by first | (simp [entryFrame, mkF, argsToLocals, Value.category]; done) | rfl) ?_
  intro p e s m below meth cc_ T hx hby hml hown hnm hret hlk hZ X eT
  have N := Fr.nil n0
  have sz_h : h0.size ≤ h0.size := Nat.le_refl _
  refine giloadN (v := nn) X hx 1 (hb hby D34_0) rfl rfl ?_
  refine giloadN (v := (0 : Int32)) X hx 2 (hb hby D34_1) rfl rfl ?_
  refine gicmpYes X hx 37 (hb hby D34_2) (flt hn0).2.1 (by decide) (by decide) ?_
  exact gRetP0 X hx hlk hret (hb hby D34_37) eT (by decide) (by decide) ⟨rfl, N, rfl⟩
theorem rmMnS (l : Launch) (Z : State) (a0 : Array Value) (hw : HW_ a0 Z) (zc : Int32) (nn : Int32) (h0 : Heap) (n0 : Nat) (Z0 : n0 ≤ h0.size) (hm : nn < zc) :
    CtP l Y21 jdk_29_method_69_code 2 (some .int) [] ({ frames := 0, cells := 0, slots := 0, locals := 0 } : Room) Z #[(.int zc), (.int nn)] h0 (fun v h L => v = some (.int nn) ∧ Fr n0 L ∧ h = h0) := by
  refine CtP.walk (Ls := #[.val (.int zc), .val (.int nn)]) own_pn6 (fun m => by first | (simp [entryFrame, mkF, argsToLocals, Value.category]; done) | rfl) ?_
  intro p e s m below meth cc_ T hx hby hml hown hnm hret hlk hZ X eT
  have N := Fr.nil n0
  have sz_h : h0.size ≤ h0.size := Nat.le_refl _
  refine giloadN (v := zc) X hx 1 (hb hby D35_0) rfl rfl ?_
  refine giloadN (v := nn) X hx 2 (hb hby D35_1) rfl rfl ?_
  refine gicmpYes X hx 9 (hb hby D35_2) (tlt hm).2.2.1 (by decide) (by decide) ?_
  refine giloadN (v := nn) X hx 10 (hb hby D35_9) rfl rfl ?_
  exact gRetP X hx hlk hret rfl (Or.inl ⟨rfl, by simp, _, rfl⟩) (hb hby D35_10) eT (by decide) (by decide) ⟨rfl, N, rfl⟩
theorem rmCBS (l : Launch) (Z : State) (a0 : Array Value) (hw : HW_ a0 Z) (va : Addr) (kv : ClassId) (cs : List Int32) (zc : Int32) (h0 : Heap) (n0 : Nat) (Z0 : n0 ≤ h0.size) (P0_Arv : Arv Z h0 va kv .byte zc ((cs.map fun c => c.toInt8.toInt32).map Value.int) (.int 0)) (hlt : cs.length < zc.toNatClampNeg) (hz34 : 0 < zc.toNatClampNeg ∧ zc.toNatClampNeg ≤ 34) :
    CtP l Y48 jdk_65_method_133_code 5 (some (.array .byte)) [] ({ frames := 1, cells := 1, slots := 34, locals := 18 } : Room) Z #[(.ref va), (.int 0), (.int (Int32.ofNat cs.length))] h0 (fun v h L => ∃ (tr : Addr), ∃ (kr : ClassId), v = some (.ref tr) ∧ Fr n0 L ∧ Keep h0 h [] ∧ h0.size ≤ tr ∧ Arv Z h tr kr .byte (Int32.ofNat cs.length) ((cs.map fun c => c.toInt8.toInt32).map Value.int) (.int 0)) := by
  refine CtP.walk (Ls := #[.val (.ref va), .val (.int 0), .val (.int (Int32.ofNat cs.length)), .unset, .unset]) (plainFor_of_name own_pn7) (fun m => by first | (simp [entryFrame, mkF, argsToLocals, Value.category]; done) | rfl) ?_
  intro p e s m below meth cc_ T hx hby hml hown hnm hret hlk hZ X eT
  have N := Fr.nil n0
  have K0 := Keep.refl h0 []
  have sz_h : h0.size ≤ h0.size := Nat.le_refl _
  have hl31 : cs.length < 2147483648 := by omega
  refine giloadN (v := (0 : Int32)) X hx 1 (hb hby D33_0) rfl rfl ?_
  refine giloadN (v := (Int32.ofNat cs.length)) X hx 2 (hb hby D33_1) rfl rfl ?_
  refine gstatic (y := Y45) (argsL := [(.int 0), (.int (Int32.ofNat cs.length))]) (st := []) X hx hZ hown (u195 hw) (u196 hw) (u190 hw) (u197 hw) (by decide) (payP (W := 0) (rmCkS l Z a0 hw ((Int32.ofNat cs.length)) h0 n0 (Nat.le_trans Z0 sz_h) (of_nat_nneg hl31)) hZ (u197 hw) (u190 hw) (by decide) (by decide)) eT (by rw [hml]; rfl) (lenOf own_pd11 rfl) rfl (Nat.le_of_eq rfl) 0 0 rfl rfl (by decide) (by decide) 5 (hb hby D33_2) rfl (gcut0 N ?_)
  clear X eT N; clear T; intro T L X eT N
  refine giloadN (v := (Int32.ofNat cs.length)) X hx 6 (hb hby D33_5) rfl rfl ?_
  refine giloadN (v := (0 : Int32)) X hx 7 (hb hby D33_6) rfl rfl ?_
  refine gisub X hx 8 (hb hby D33_7) rfl ?_
  rw [Int32.sub_zero]
  show Go p e below _ T (mkF m 8 _ [(.int (Int32.ofNat cs.length))])
  refine gistoreN X hx #[.val (.ref va), .val (.int 0), .val (.int (Int32.ofNat cs.length)), .val (.int (Int32.ofNat cs.length)), .unset] 9 (hb hby D33_8) rfl rfl ?_
  refine giloadN (v := (Int32.ofNat cs.length)) X hx 10 (hb hby D33_9) rfl rfl ?_
  refine gnewP (aty := .byte) X hx hZ (u7 hw) eT (n := (Int32.ofNat cs.length)) (of_nat_nneg hl31) 34 (by rw [of_nat_clamp hl31]; omega) (by decide) 1 34 rfl rfl (by decide) (by decide) 12 (hb hby D33_10) rfl ?_
  clear X eT; clear T; intro T h1 b2 kc5 X eT ga E3 V4
  have le_a := Nat.le_of_eq ga.symm
  have ne_va_b2 : va ≠ b2 := Nat.ne_of_lt (Nat.lt_of_lt_of_le P0_Arv.lt le_a)
  have ne_b2_va : b2 ≠ va := Ne.symm ne_va_b2
  have sz_b2 : h0.size ≤ b2 := Nat.le_trans sz_h le_a
  have ge_b2 : n0 ≤ b2 := Nat.le_trans Z0 sz_b2
  clear le_a ga
  replace P0_Arv := P0_Arv.ext E3
  replace K0 := K0.ext E3
  replace sz_h : h0.size ≤ h1.size := Nat.le_trans sz_h E3.1
  replace V4 : Arv Z h1 b2 kc5 .byte (Int32.ofNat cs.length) [] (.int 0) := V4
  refine gastore X hx #[.val (.ref va), .val (.int 0), .val (.int (Int32.ofNat cs.length)), .val (.int (Int32.ofNat cs.length)), .val (.ref b2)] 14 (hb hby D33_12) rfl rfl rfl ?_
  refine galoadN (v := (.ref va)) X hx 15 (hb hby D33_14) rfl rfl rfl ?_
  refine giloadN (v := (0 : Int32)) X hx 16 (hb hby D33_15) rfl rfl ?_
  refine gaload (v := (.ref b2)) X hx 18 (hb hby D33_16) rfl rfl rfl ?_
  refine giconst X hx (0 : Int32) 19 (hb hby D33_18) rfl rfl ?_
  refine galoadN (v := (.ref va)) X hx 20 (hb hby D33_19) rfl rfl rfl ?_
  refine garrlen X hx hZ eT P0_Arv 21 (hb hby D33_20) rfl ?_
  refine giloadN (v := (0 : Int32)) X hx 22 (hb hby D33_21) rfl rfl ?_
  refine gisub X hx 23 (hb hby D33_22) rfl ?_
  refine giloadN (v := (Int32.ofNat cs.length)) X hx 24 (hb hby D33_23) rfl rfl ?_
  rw [Int32.sub_zero]
  refine gstatic (y := Y21) (argsL := [(.int zc), (.int (Int32.ofNat cs.length))]) (st := [(.int 0), (.ref b2), (.int 0), (.ref va)]) X hx hZ hown (u198 hw) (u199 hw) (u200 hw) (u201 hw) (by decide) (payP (W := 4) (rmMnS l Z a0 hw (zc) ((Int32.ofNat cs.length)) h1 n0 (Nat.le_trans Z0 sz_h) (own_ltz hlt)) hZ (u201 hw) (u200 hw) (by decide) (by decide)) eT (by rw [hml]; rfl) (lenOf own_pd2 rfl) rfl (Nat.le_of_eq rfl) 1 34 rfl rfl (by decide) (by decide) 27 (hb hby D33_24) rfl (gcut N ?_)
  clear X eT N; clear T; intro T L X eT N
  refine gcpB (st := []) (as := (cs.map fun c => c.toInt8.toInt32)) (bs := ([] : List Int32)) X hx hZ hown (u202 hw) (u136 hw) (u134 hw) (u135 hw) eT (by rw [hml]; rfl) P0_Arv V4 cs.length rfl rfl rfl (by exact Nat.le_of_lt hlt) (by rw [of_nat_clamp hl31]; exact Nat.le_of_eq (Nat.zero_add _)) (by rw [of_nat_clamp hl31]; exact hl31) (cs.map fun c => c.toInt8.toInt32) (List.take_of_length_le (by rw [List.length_map]; exact Nat.le_refl _)) N ge_b2 (by decide) 0 (Nat.le_of_eq rfl) (by decide) 30 (hb hby D33_27) rfl ?_
  clear X eT N; clear T; intro T h6 L X eT N K7 V8
  replace P0_Arv := P0_Arv.keep K7 (ninS ne_va_b2 nin0)
  replace K0 := K0.trans K7 (allS (Or.inr sz_b2) all0)
  replace sz_h : h0.size ≤ h6.size := Nat.le_trans sz_h K7.1
  replace V8 : Arv Z h6 b2 kc5 .byte (Int32.ofNat cs.length) ((cs.map fun c => c.toInt8.toInt32).map Value.int) (.int 0) := by simpa only [List.map_append, List.nil_append] using V8
  show Go p e below _ T (mkF m 30 _ [])
  refine gaload (v := (.ref b2)) X hx 32 (hb hby D33_30) rfl rfl rfl ?_
  exact gRetP X hx hlk hret rfl (Or.inr (Or.inr (Or.inr (Or.inr ⟨rfl, rfl, rfl⟩)))) (hb hby D33_32) eT (by decide) (by decide) ⟨b2, kc5, rfl, N, K0, sz_b2, V8⟩
theorem rmCRSA (l : Launch) (Z : State) (a0 : Array Value) (hw : HW_ a0 Z) (va : Addr) (kv : ClassId) (cs : List Int32) (zc : Int32) (h0 : Heap) (n0 : Nat) (Z0 : n0 ≤ h0.size) (P0_Arv : Arv Z h0 va kv .byte zc ((cs.map fun c => c.toInt8.toInt32).map Value.int) (.int 0)) (hlt : cs.length < zc.toNatClampNeg) (hz34 : 0 < zc.toNatClampNeg ∧ zc.toNatClampNeg ≤ 34) :
    CtP l Y47 jdk_65_method_132_code 3 (some (.array .byte)) [] ({ frames := 2, cells := 1, slots := 34, locals := 34 } : Room) Z #[(.ref va), (.int 0), (.int (Int32.ofNat cs.length))] h0 (fun v h L => ∃ (tr : Addr), ∃ (kr : ClassId), v = some (.ref tr) ∧ Fr n0 L ∧ Keep h0 h [] ∧ h0.size ≤ tr ∧ Arv Z h tr kr .byte (Int32.ofNat cs.length) ((cs.map fun c => c.toInt8.toInt32).map Value.int) (.int 0)) := by
  refine CtP.walk (Ls := #[.val (.ref va), .val (.int 0), .val (.int (Int32.ofNat cs.length))]) (plainFor_of_name own_pn7) (fun m => by first | (simp [entryFrame, mkF, argsToLocals, Value.category]; done) | rfl) ?_
  intro p e s m below meth cc_ T hx hby hml hown hnm hret hlk hZ X eT
  have N := Fr.nil n0
  have K0 := Keep.refl h0 []
  have sz_h : h0.size ≤ h0.size := Nat.le_refl _
  refine giloadN (v := (0 : Int32)) X hx 1 (hb hby D32_0) rfl rfl ?_
  refine gifNo X hx 4 (hb hby D32_1) rfl (by decide) ?_
  refine giloadN (v := (Int32.ofNat cs.length)) X hx 5 (hb hby D32_4) rfl rfl ?_
  refine galoadN (v := (.ref va)) X hx 6 (hb hby D32_5) rfl rfl rfl ?_
  refine garrlen X hx hZ eT P0_Arv 7 (hb hby D32_6) rfl ?_
  refine gicmpNo X hx 10 (hb hby D32_7) rfl (feq (own_nez hlt)).1 ?_
  refine galoadN (v := (.ref va)) X hx 11 (hb hby D32_10) rfl rfl rfl ?_
  refine giloadN (v := (0 : Int32)) X hx 12 (hb hby D32_11) rfl rfl ?_
  refine giloadN (v := (Int32.ofNat cs.length)) X hx 13 (hb hby D32_12) rfl rfl ?_
  refine gstatic (y := Y48) (argsL := [(.ref va), (.int 0), (.int (Int32.ofNat cs.length))]) (st := []) X hx hZ hown (u192 hw) (u193 hw) (u190 hw) (u194 hw) (by decide) (payP (W := 0) (rmCBS l Z a0 hw (va) (kv) (cs) (zc) h0 n0 (Nat.le_trans Z0 sz_h) P0_Arv (hlt) (hz34)) hZ (u194 hw) (u190 hw) (by decide) (by decide)) eT (by rw [hml]; rfl) (lenOf own_pd12 rfl) rfl (Nat.le_of_eq rfl) 1 34 rfl rfl (by decide) (by decide) 16 (hb hby D32_13) rfl ?_
  clear X eT; clear T; intro v T h1 L2 Lc X eT hL hQ2
  obtain ⟨tr_3, kr_4, rfl, Nq, K5, zz_tr_3, G7⟩ := hQ2
  replace N : Fr n0 L2 := by rw [hL]; exact Fr.app N Nq
  clear Nq hL
  have ne_va_tr_3 : va ≠ tr_3 := Nat.ne_of_lt (Nat.lt_of_lt_of_le P0_Arv.lt zz_tr_3)
  have ne_tr_3_va : tr_3 ≠ va := Ne.symm ne_va_tr_3
  have sz_tr_3 : h0.size ≤ tr_3 := Nat.le_trans sz_h zz_tr_3
  have ge_tr_3 : n0 ≤ tr_3 := Nat.le_trans Z0 sz_tr_3
  replace P0_Arv := P0_Arv.keep K5 nin0
  replace K0 := K0.trans K5 all0
  replace sz_h : h0.size ≤ h1.size := Nat.le_trans sz_h K5.1
  show Go p e below _ T (mkF m 16 _ [(.ref tr_3)])
  exact gRetP X hx hlk hret rfl (Or.inr (Or.inr (Or.inr (Or.inr ⟨rfl, rfl, rfl⟩)))) (hb hby D32_16) eT (by decide) (by decide) ⟨tr_3, kr_4, rfl, N, K0, sz_tr_3, G7⟩
theorem rmIASA (l : Launch) (Z : State) (a0 : Array Value) (hw : HW_ a0 Z) (x : Addr) (sb : Addr) (va : Addr) (kv : ClassId) (G1 : Int32) (cs : List Int32) (zc : Int32) (h0 : Heap) (n0 : Nat) (Z0 : n0 ≤ h0.size) (ge_x : n0 ≤ x) (P0_Old : Old Z n0 h0) (P1_Exa : Exa Z h0 x "java/lang/String") (P2_Fld : Fld Z h0 x "java/lang/String" "value" "[B" .null) (P3_Fld : Fld Z h0 x "java/lang/String" "coder" "B" (.int 0)) (P4_Exa : Exa Z h0 sb "java/lang/StringBuilder") (P5_Fld : Fld Z h0 sb "java/lang/AbstractStringBuilder" "value" "[B" (.ref va)) (P6_Fld : Fld Z h0 sb "java/lang/AbstractStringBuilder" "coder" "B" (.int 0)) (P7_Fld : Fld Z h0 sb "java/lang/AbstractStringBuilder" "count" "I" (.int (Int32.ofNat cs.length))) (P8_Arv : Arv Z h0 va kv .byte zc ((cs.map fun c => c.toInt8.toInt32).map Value.int) (.int 0)) (O2 : Sta Z Z.heap "java/lang/String" "COMPACT_STRINGS" "Z" (.int G1)) (P5 : ¬ G1 = (0 : Int32)) (hlt : cs.length < zc.toNatClampNeg) (hz34 : 0 < zc.toNatClampNeg ∧ zc.toNatClampNeg ≤ 34) :
    CtP l Y23 jdk_42_method_150_code 5 none [] ({ frames := 3, cells := 1, slots := 34, locals := 49 } : Room) Z #[(.ref x), (.ref sb), .null] h0 (fun v h L => ∃ (tr : Addr), ∃ (kr : ClassId), v = none ∧ Fr n0 L ∧ Keep h0 h [x] ∧ h0.size ≤ tr ∧ Fld Z h x "java/lang/String" "coder" "B" (.int 0) ∧ Fld Z h x "java/lang/String" "value" "[B" (.ref tr) ∧ Arv Z h tr kr .byte (Int32.ofNat cs.length) ((cs.map fun c => c.toInt8.toInt32).map Value.int) (.int 0)) := by
  refine CtP.walk (Ls := #[.val (.ref x), .val (.ref sb), .val .null, .unset, .unset]) own_pn9 (fun m => by first | (simp [entryFrame, mkF, argsToLocals, Value.category]; done) | rfl) ?_
  intro p e s m below meth cc_ T hx hby hml hown hnm hret hlk hZ X eT
  have N := Fr.nil n0
  have K0 := Keep.refl h0 [x]
  have sz_h : h0.size ≤ h0.size := Nat.le_refl _
  refine galoadN (v := (.ref x)) X hx 1 (hb hby D28_0) rfl rfl rfl ?_
  refine ginitO X hx hZ hown (u173 hw) (u26 hw) (u27 hw) eT (by rw [hml]; rfl) (by decide) 0 (Nat.le_of_eq rfl) (by decide) 4 (hb hby D28_1) rfl ?_
  clear X eT; clear T; intro T X eT
  refine galoadN (v := (.ref sb)) X hx 5 (hb hby D28_4) rfl rfl rfl ?_
  refine gvirtual (y := Y12) (z := Y12) (a := sb) (argsL := []) (st := []) X hx hZ hown (u174 hw) (u175 hw) (notFace_of_selects (args := #[]) (mvT hZ (u177 hw))) (u177 hw) (u176 hw) (by decide) P4_Exa (payP (W := 0) (rm29 l Z a0 hw (sb) (va) h0 n0 (Nat.le_trans Z0 sz_h) P5_Fld) hZ (u178 hw) (u86 hw) (by decide) (by decide)) eT (by rw [hml]; rfl) (lenOf own_pd13 rfl) rfl (Nat.le_of_eq rfl) 0 0 rfl rfl (by decide) (by decide) 8 (hb hby D28_5) rfl (gcut N ?_)
  clear X eT N; clear T; intro T L X eT N
  refine gastoreN X hx #[.val (.ref x), .val (.ref sb), .val .null, .val (.ref va), .unset] 9 (hb hby D28_8) rfl rfl rfl ?_
  refine galoadN (v := (.ref sb)) X hx 10 (hb hby D28_9) rfl rfl rfl ?_
  refine gvirtual (y := Y15) (z := Y39) (a := sb) (argsL := []) (st := []) X hx hZ hown (u179 hw) (u180 hw) (nf_sel (args := #[]) (mvT hZ (u115 hw)) rfl) (u182 hw) (u183 hw) (by decide) P4_Exa (payP (W := 0) (rm30 l Z a0 hw (sb) ((Int32.ofNat cs.length)) h0 n0 (Nat.le_trans Z0 sz_h) P4_Exa P7_Fld) hZ (u184 hw) (u78 hw) (by decide) (by decide)) eT (by rw [hml]; rfl) (lenOf own_pd8 rfl) rfl (Nat.le_of_eq rfl) 0 0 rfl rfl (by decide) (by decide) 13 (hb hby D28_10) rfl (gcut N ?_)
  clear X eT N; clear T; intro T L X eT N
  refine gistore X hx #[.val (.ref x), .val (.ref sb), .val .null, .val (.ref va), .val (.int (Int32.ofNat cs.length))] 15 (hb hby D28_13) rfl rfl ?_
  refine galoadN (v := (.ref sb)) X hx 16 (hb hby D28_15) rfl rfl rfl ?_
  refine gvirtual (y := Y14) (z := Y14) (a := sb) (argsL := []) (st := []) X hx hZ hown (u187 hw) (u151 hw) (notFace_of_selects (args := #[]) (mvT hZ (u153 hw))) (u153 hw) (u152 hw) (by decide) P4_Exa (payP (W := 0) (rm24 l Z a0 hw (sb) (G1) h0 n0 (Nat.le_trans Z0 sz_h) P0_Old P6_Fld (O2) (P5)) hZ (u154 hw) (u86 hw) (by decide) (by decide)) eT (by rw [hml]; rfl) (lenOf own_pd14 rfl) rfl (Nat.le_of_eq rfl) 0 0 rfl rfl (by decide) (by decide) 19 (hb hby D28_16) rfl (gcut N ?_)
  clear X eT N; clear T; intro T L X eT N
  refine gifNo X hx 22 (hb hby D28_19) rfl (by decide) ?_
  refine galoadN (v := (.ref x)) X hx 23 (hb hby D28_22) rfl rfl rfl ?_
  refine giconst X hx (0 : Int32) 24 (hb hby D28_23) rfl rfl ?_
  refine gputF X hx hZ (host := "") hown (Or.inl (u65 hw)) Via.refl eT P3_Fld P1_Exa (Or.inr ⟨(u9 hw), rfl, hnm⟩) (u6 hw) (ty := .byte) own_pf1 rfl rfl N ge_x 27 (hb hby D28_24) rfl ?_
  clear X eT N; clear T; intro T h1 L X eT N W2
  have ne_sb_x : sb ≠ x := ne_exa P4_Exa P1_Exa (by decide)
  have ne_va_x : va ≠ x := Ne.symm (Exa.neArv P1_Exa P8_Arv (u6 hw))
  replace P0_Old := P0_Old.wr W2 ge_x
  replace P1_Exa := P1_Exa.wr W2
  replace P2_Fld := P2_Fld.other W2 (Or.inr (slot_ne (Or.inr (u8 hw)) (Or.inr (u9 hw)) (by decide) own_pf0 own_pf1))
  replace P3_Fld := P3_Fld.same W2
  replace P4_Exa := P4_Exa.wr W2
  replace P5_Fld := P5_Fld.other W2 (Or.inl ne_sb_x)
  replace P6_Fld := P6_Fld.other W2 (Or.inl ne_sb_x)
  replace P7_Fld := P7_Fld.other W2 (Or.inl ne_sb_x)
  replace P8_Arv := P8_Arv.other W2 ne_va_x
  replace K0 := K0.wr W2 (Or.inl (List.mem_of_getElem? (i := 0) rfl))
  replace sz_h : h0.size ≤ h1.size := by rw [Wr.size W2]; exact sz_h
  refine galoadN (v := (.ref x)) X hx 28 (hb hby D28_27) rfl rfl rfl ?_
  refine galoadN (v := (.ref va)) X hx 29 (hb hby D28_28) rfl rfl rfl ?_
  refine giconst X hx (0 : Int32) 30 (hb hby D28_29) rfl rfl ?_
  refine giload (v := (Int32.ofNat cs.length)) X hx 32 (hb hby D28_30) rfl rfl ?_
  refine gstatic (y := Y47) (argsL := [(.ref va), (.int 0), (.int (Int32.ofNat cs.length))]) (st := [(.ref x)]) X hx hZ hown (u188 hw) (u189 hw) (u190 hw) (u191 hw) (by decide) (payP (W := 1) (rmCRSA l Z a0 hw (va) (kv) (cs) (zc) h1 n0 (Nat.le_trans Z0 sz_h) P8_Arv (hlt) (hz34)) hZ (u191 hw) (u190 hw) (by decide) (by decide)) eT (by rw [hml]; rfl) (lenOf own_pd12 rfl) rfl (Nat.le_of_eq rfl) 1 34 rfl rfl (by decide) (by decide) 35 (hb hby D28_32) rfl ?_
  clear X eT; clear T; intro v T h3 L2 Lc X eT hL hQ4
  obtain ⟨tr_5, kr_6, rfl, Nq, K7, zz_tr_5, G9⟩ := hQ4
  replace N : Fr n0 L2 := by rw [hL]; exact Fr.app N Nq
  clear Nq hL
  have ne_x_tr_5 : x ≠ tr_5 := Nat.ne_of_lt (Nat.lt_of_lt_of_le P1_Exa.lt zz_tr_5)
  have ne_tr_5_x : tr_5 ≠ x := Ne.symm ne_x_tr_5
  have ne_sb_tr_5 : sb ≠ tr_5 := Nat.ne_of_lt (Nat.lt_of_lt_of_le P4_Exa.lt zz_tr_5)
  have ne_tr_5_sb : tr_5 ≠ sb := Ne.symm ne_sb_tr_5
  have ne_va_tr_5 : va ≠ tr_5 := Nat.ne_of_lt (Nat.lt_of_lt_of_le P8_Arv.lt zz_tr_5)
  have ne_tr_5_va : tr_5 ≠ va := Ne.symm ne_va_tr_5
  have sz_tr_5 : h0.size ≤ tr_5 := Nat.le_trans sz_h zz_tr_5
  have ge_tr_5 : n0 ≤ tr_5 := Nat.le_trans Z0 sz_tr_5
  replace P0_Old := P0_Old.keep K7 all0
  replace P1_Exa := P1_Exa.keep K7
  replace P2_Fld := P2_Fld.keep K7 nin0
  replace P3_Fld := P3_Fld.keep K7 nin0
  replace P4_Exa := P4_Exa.keep K7
  replace P5_Fld := P5_Fld.keep K7 nin0
  replace P6_Fld := P6_Fld.keep K7 nin0
  replace P7_Fld := P7_Fld.keep K7 nin0
  replace P8_Arv := P8_Arv.keep K7 nin0
  replace K0 := K0.trans K7 all0
  replace sz_h : h0.size ≤ h3.size := Nat.le_trans sz_h K7.1
  show Go p e below _ T (mkF m 35 _ [(.ref tr_5), (.ref x)])
  refine gputF X hx hZ (host := "") hown (Or.inl (u71 hw)) Via.refl eT P2_Fld P1_Exa (Or.inr ⟨(u8 hw), rfl, hnm⟩) (u6 hw) (ty := (.array .byte)) own_pf0 rfl rfl N ge_x 38 (hb hby D28_35) rfl ?_
  clear X eT N; clear T; intro T h10 L X eT N W11
  replace P0_Old := P0_Old.wr W11 ge_x
  replace P1_Exa := P1_Exa.wr W11
  replace P2_Fld := P2_Fld.same W11
  replace P3_Fld := P3_Fld.other W11 (Or.inr (slot_ne (Or.inr (u9 hw)) (Or.inr (u8 hw)) (by decide) own_pf1 own_pf0))
  replace P4_Exa := P4_Exa.wr W11
  replace P5_Fld := P5_Fld.other W11 (Or.inl ne_sb_x)
  replace P6_Fld := P6_Fld.other W11 (Or.inl ne_sb_x)
  replace P7_Fld := P7_Fld.other W11 (Or.inl ne_sb_x)
  replace P8_Arv := P8_Arv.other W11 ne_va_x
  replace G9 := G9.other W11 ne_tr_5_x
  replace K0 := K0.wr W11 (Or.inl (List.mem_of_getElem? (i := 0) rfl))
  replace sz_h : h0.size ≤ h10.size := by rw [Wr.size W11]; exact sz_h
  refine ggoto X hx 97 (hb hby D28_38) (by decide) (by decide) ?_
  exact gRetP0 X hx hlk hret (hb hby D28_97) eT (by decide) (by decide) ⟨tr_5, kr_6, rfl, N, K0, sz_tr_5, P3_Fld, P2_Fld, G9⟩
theorem rmISSA (l : Launch) (Z : State) (a0 : Array Value) (hw : HW_ a0 Z) (x : Addr) (sb : Addr) (va : Addr) (kv : ClassId) (G1 : Int32) (cs : List Int32) (zc : Int32) (h0 : Heap) (n0 : Nat) (Z0 : n0 ≤ h0.size) (ge_x : n0 ≤ x) (P0_Old : Old Z n0 h0) (P1_Exa : Exa Z h0 x "java/lang/String") (P2_Fld : Fld Z h0 x "java/lang/String" "value" "[B" .null) (P3_Fld : Fld Z h0 x "java/lang/String" "coder" "B" (.int 0)) (P4_Exa : Exa Z h0 sb "java/lang/StringBuilder") (P5_Fld : Fld Z h0 sb "java/lang/AbstractStringBuilder" "value" "[B" (.ref va)) (P6_Fld : Fld Z h0 sb "java/lang/AbstractStringBuilder" "coder" "B" (.int 0)) (P7_Fld : Fld Z h0 sb "java/lang/AbstractStringBuilder" "count" "I" (.int (Int32.ofNat cs.length))) (P8_Arv : Arv Z h0 va kv .byte zc ((cs.map fun c => c.toInt8.toInt32).map Value.int) (.int 0)) (O2 : Sta Z Z.heap "java/lang/String" "COMPACT_STRINGS" "Z" (.int G1)) (P5 : ¬ G1 = (0 : Int32)) (hlt : cs.length < zc.toNatClampNeg) (hz34 : 0 < zc.toNatClampNeg ∧ zc.toNatClampNeg ≤ 34) :
    CtP l Y24 jdk_42_method_53_code 2 none [] ({ frames := 4, cells := 1, slots := 34, locals := 65 } : Room) Z #[(.ref x), (.ref sb)] h0 (fun v h L => ∃ (tr : Addr), ∃ (kr : ClassId), v = none ∧ Fr n0 L ∧ Keep h0 h [x] ∧ h0.size ≤ tr ∧ Fld Z h x "java/lang/String" "coder" "B" (.int 0) ∧ Fld Z h x "java/lang/String" "value" "[B" (.ref tr) ∧ Arv Z h tr kr .byte (Int32.ofNat cs.length) ((cs.map fun c => c.toInt8.toInt32).map Value.int) (.int 0)) := by
  refine CtP.walk (Ls := #[.val (.ref x), .val (.ref sb)]) own_pn10 (fun m => by first | (simp [entryFrame, mkF, argsToLocals, Value.category]; done) | rfl) ?_
  intro p e s m below meth cc_ T hx hby hml hown hnm hret hlk hZ X eT
  have N := Fr.nil n0
  have K0 := Keep.refl h0 [x]
  have sz_h : h0.size ≤ h0.size := Nat.le_refl _
  refine galoadN (v := (.ref x)) X hx 1 (hb hby D27_0) rfl rfl rfl ?_
  refine galoadN (v := (.ref sb)) X hx 2 (hb hby D27_1) rfl rfl rfl ?_
  refine gaconstNull X hx 3 (hb hby D27_2) rfl ?_
  refine gspecial (y := Y23) (a := x) (argsL := [(.ref sb), .null]) (st := []) X hx hZ hown rfl (u170 hw) (u171 hw) (u172 hw) (by decide) (payP (W := 0) (rmIASA l Z a0 hw (x) (sb) (va) (kv) (G1) (cs) (zc) h0 n0 (Nat.le_trans Z0 sz_h) ge_x P0_Old P1_Exa P2_Fld P3_Fld P4_Exa P5_Fld P6_Fld P7_Fld P8_Arv (O2) (P5) (hlt) (hz34)) hZ (u172 hw) (u5 hw) (by decide) (by decide)) eT (by rw [hml]; rfl) (lenOf own_pd15 rfl) rfl (Nat.le_of_eq rfl) 1 34 rfl rfl (by decide) (by decide) 6 (hb hby D27_3) rfl ?_
  clear X eT; clear T; intro v T h1 L2 Lc X eT hL hQ2
  obtain ⟨tr_3, kr_4, rfl, Nq, K5, zz_tr_3, G7, G8, G9⟩ := hQ2
  replace N : Fr n0 L2 := by rw [hL]; exact Fr.app N Nq
  clear Nq hL
  have ne_x_tr_3 : x ≠ tr_3 := Nat.ne_of_lt (Nat.lt_of_lt_of_le P1_Exa.lt zz_tr_3)
  have ne_tr_3_x : tr_3 ≠ x := Ne.symm ne_x_tr_3
  have ne_sb_tr_3 : sb ≠ tr_3 := Nat.ne_of_lt (Nat.lt_of_lt_of_le P4_Exa.lt zz_tr_3)
  have ne_tr_3_sb : tr_3 ≠ sb := Ne.symm ne_sb_tr_3
  have ne_va_tr_3 : va ≠ tr_3 := Nat.ne_of_lt (Nat.lt_of_lt_of_le P8_Arv.lt zz_tr_3)
  have ne_tr_3_va : tr_3 ≠ va := Ne.symm ne_va_tr_3
  have sz_tr_3 : h0.size ≤ tr_3 := Nat.le_trans sz_h zz_tr_3
  have ge_tr_3 : n0 ≤ tr_3 := Nat.le_trans Z0 sz_tr_3
  have ne_sb_x : sb ≠ x := ne_exa P4_Exa P1_Exa (by decide)
  have ne_va_x : va ≠ x := Ne.symm (Exa.neArv P1_Exa P8_Arv (u6 hw))
  replace P0_Old := P0_Old.keep K5 (allS ge_x all0)
  replace P1_Exa := P1_Exa.keep K5
  replace P4_Exa := P4_Exa.keep K5
  replace P5_Fld := P5_Fld.keep K5 (ninS ne_sb_x nin0)
  replace P6_Fld := P6_Fld.keep K5 (ninS ne_sb_x nin0)
  replace P7_Fld := P7_Fld.keep K5 (ninS ne_sb_x nin0)
  replace P8_Arv := P8_Arv.keep K5 (ninS ne_va_x nin0)
  replace K0 := K0.trans K5 (allS (Or.inl (List.mem_of_getElem? (i := 0) rfl)) all0)
  replace sz_h : h0.size ≤ h1.size := Nat.le_trans sz_h K5.1
  show Go p e below _ T (mkF m 6 _ [])
  exact gRetP0 X hx hlk hret (hb hby D27_6) eT (by decide) (by decide) ⟨tr_3, kr_4, rfl, N, K0, sz_tr_3, G7, G8, G9⟩
theorem rmTSSA (l : Launch) (Z : State) (a0 : Array Value) (hw : HW_ a0 Z) (sb : Addr) (va : Addr) (kv : ClassId) (G1 : Int32) (cs : List Int32) (zc : Int32) (h0 : Heap) (n0 : Nat) (Z0 : n0 ≤ h0.size) (P0_Old : Old Z n0 h0) (P1_Exa : Exa Z h0 sb "java/lang/StringBuilder") (P2_Fld : Fld Z h0 sb "java/lang/AbstractStringBuilder" "value" "[B" (.ref va)) (P3_Fld : Fld Z h0 sb "java/lang/AbstractStringBuilder" "coder" "B" (.int 0)) (P4_Fld : Fld Z h0 sb "java/lang/AbstractStringBuilder" "count" "I" (.int (Int32.ofNat cs.length))) (P5_Arv : Arv Z h0 va kv .byte zc ((cs.map fun c => c.toInt8.toInt32).map Value.int) (.int 0)) (O2 : Sta Z Z.heap "java/lang/String" "COMPACT_STRINGS" "Z" (.int G1)) (P5 : ¬ G1 = (0 : Int32)) (hlt : cs.length < zc.toNatClampNeg) (hz34 : 0 < zc.toNatClampNeg ∧ zc.toNatClampNeg ≤ 34) :
    CtP l Y40 jdk_67_method_42_code 1 (some (.object "java/lang/String")) [] ({ frames := 5, cells := 2, slots := 38, locals := 79 } : Room) Z #[(.ref sb)] h0 (fun v h L => ∃ (x : Addr), ∃ (tr : Addr), ∃ (kr : ClassId), v = some (.ref x) ∧ Fr n0 L ∧ Keep h0 h [] ∧ h0.size ≤ x ∧ h0.size ≤ tr ∧ Exa Z h x "java/lang/String" ∧ Fld Z h x "java/lang/String" "coder" "B" (.int 0) ∧ Fld Z h x "java/lang/String" "value" "[B" (.ref tr) ∧ Arv Z h tr kr .byte (Int32.ofNat cs.length) ((cs.map fun c => c.toInt8.toInt32).map Value.int) (.int 0)) := by
  refine CtP.walk (Ls := #[.val (.ref sb)]) (plainFor_of_name own_pn1) (fun m => by first | (simp [entryFrame, mkF, argsToLocals, Value.category]; done) | rfl) ?_
  intro p e s m below meth cc_ T hx hby hml hown hnm hret hlk hZ X eT
  have N := Fr.nil n0
  have K0 := Keep.refl h0 []
  have sz_h : h0.size ≤ h0.size := Nat.le_refl _
  refine gnewO X hx hZ hown (u165 hw) (u6 hw) (u5 hw) eT 1 4 rfl rfl (by decide) (by decide) 3 (hb hby D26_0) rfl ?_
  clear X eT; clear T; intro T h1 b2 X eT ga E3 A4 D5
  have le_a := Nat.le_of_eq ga.symm
  have ne_sb_b2 : sb ≠ b2 := Nat.ne_of_lt (Nat.lt_of_lt_of_le P1_Exa.lt le_a)
  have ne_b2_sb : b2 ≠ sb := Ne.symm ne_sb_b2
  have ne_va_b2 : va ≠ b2 := Nat.ne_of_lt (Nat.lt_of_lt_of_le P5_Arv.lt le_a)
  have ne_b2_va : b2 ≠ va := Ne.symm ne_va_b2
  have sz_b2 : h0.size ≤ b2 := Nat.le_trans sz_h le_a
  have ge_b2 : n0 ≤ b2 := Nat.le_trans Z0 sz_b2
  clear le_a ga
  replace P0_Old := P0_Old.ext E3
  replace P1_Exa := P1_Exa.ext E3
  replace P2_Fld := P2_Fld.ext E3
  replace P3_Fld := P3_Fld.ext E3
  replace P4_Fld := P4_Fld.ext E3
  replace P5_Arv := P5_Arv.ext E3
  replace K0 := K0.ext E3
  replace sz_h : h0.size ≤ h1.size := Nat.le_trans sz_h E3.1
  have F_value_b2 : Fld Z h1 b2 "java/lang/String" "value" "[B" .null := D5 (Or.inr (u8 hw)) (ty := (.array .byte)) own_pf0
  have F_coder_b2 : Fld Z h1 b2 "java/lang/String" "coder" "B" (.int 0) := D5 (Or.inr (u9 hw)) (ty := .byte) own_pf1
  clear D5
  refine gdup X hx 4 (hb hby D26_3) rfl rfl ?_
  refine galoadN (v := (.ref sb)) X hx 5 (hb hby D26_4) rfl rfl rfl ?_
  refine gspecial (y := Y24) (a := b2) (argsL := [(.ref sb)]) (st := [(.ref b2)]) X hx hZ hown rfl (u166 hw) (u167 hw) (u169 hw) (by decide) (payP (W := 1) (rmISSA l Z a0 hw (b2) (sb) (va) (kv) (G1) (cs) (zc) h1 n0 (Nat.le_trans Z0 sz_h) ge_b2 P0_Old A4 F_value_b2 F_coder_b2 P1_Exa P2_Fld P3_Fld P4_Fld P5_Arv (O2) (P5) (hlt) (hz34)) hZ (u169 hw) (u5 hw) (by decide) (by decide)) eT (by rw [hml]; rfl) (lenOf own_pd16 rfl) rfl (Nat.le_of_eq rfl) 2 38 rfl rfl (by decide) (by decide) 8 (hb hby D26_5) rfl ?_
  clear X eT; clear T; intro v T h6 L2 Lc X eT hL hQ7
  obtain ⟨tr_8, kr_9, rfl, Nq, K10, zz_tr_8, G12, G13, G14⟩ := hQ7
  replace N : Fr n0 L2 := by rw [hL]; exact Fr.app N Nq
  clear Nq hL
  have ne_sb_tr_8 : sb ≠ tr_8 := Nat.ne_of_lt (Nat.lt_of_lt_of_le P1_Exa.lt zz_tr_8)
  have ne_tr_8_sb : tr_8 ≠ sb := Ne.symm ne_sb_tr_8
  have ne_va_tr_8 : va ≠ tr_8 := Nat.ne_of_lt (Nat.lt_of_lt_of_le P5_Arv.lt zz_tr_8)
  have ne_tr_8_va : tr_8 ≠ va := Ne.symm ne_va_tr_8
  have ne_b2_tr_8 : b2 ≠ tr_8 := Nat.ne_of_lt (Nat.lt_of_lt_of_le A4.lt zz_tr_8)
  have ne_tr_8_b2 : tr_8 ≠ b2 := Ne.symm ne_b2_tr_8
  have sz_tr_8 : h0.size ≤ tr_8 := Nat.le_trans sz_h zz_tr_8
  have ge_tr_8 : n0 ≤ tr_8 := Nat.le_trans Z0 sz_tr_8
  replace P0_Old := P0_Old.keep K10 (allS ge_b2 all0)
  replace P1_Exa := P1_Exa.keep K10
  replace P2_Fld := P2_Fld.keep K10 (ninS ne_sb_b2 nin0)
  replace P3_Fld := P3_Fld.keep K10 (ninS ne_sb_b2 nin0)
  replace P4_Fld := P4_Fld.keep K10 (ninS ne_sb_b2 nin0)
  replace P5_Arv := P5_Arv.keep K10 (ninS ne_va_b2 nin0)
  replace A4 := A4.keep K10
  replace K0 := K0.trans K10 (allS (Or.inr sz_b2) all0)
  replace sz_h : h0.size ≤ h6.size := Nat.le_trans sz_h K10.1
  show Go p e below _ T (mkF m 8 _ [(.ref b2)])
  exact gRetP X hx hlk hret rfl (Or.inr (Or.inr (Or.inr (Or.inr ⟨rfl, rfl, rfl⟩)))) (hb hby D26_8) eT (by decide) (by decide) ⟨b2, tr_8, kr_9, rfl, N, K0, sz_b2, sz_tr_8, A4, G12, G13, G14⟩
theorem rmCRSC (l : Launch) (Z : State) (a0 : Array Value) (hw : HW_ a0 Z) (va : Addr) (kv : ClassId) (cs : List Int32) (h0 : Heap) (n0 : Nat) (Z0 : n0 ≤ h0.size) (P0_Arv : Arv Z h0 va kv .byte (16 : Int32) ((cs.map fun c => c.toInt8.toInt32).map Value.int) (.int 0)) (hlt : cs.length = 16) (hkb : Z.vm.findClass "[B" = some kv) :
    CtP l Y47 jdk_65_method_132_code 3 (some (.array .byte)) [] ({ frames := 1, cells := 1, slots := 16, locals := 14 } : Room) Z #[(.ref va), (.int 0), (.int (Int32.ofNat cs.length))] h0 (fun v h L => ∃ (tr : Addr), ∃ (kr : ClassId), v = some (.ref tr) ∧ Fr n0 L ∧ Keep h0 h [] ∧ h0.size ≤ tr ∧ Arv Z h tr kr .byte (Int32.ofNat cs.length) ((cs.map fun c => c.toInt8.toInt32).map Value.int) (.int 0)) := by
  refine CtP.walk (Ls := #[.val (.ref va), .val (.int 0), .val (.int (Int32.ofNat cs.length))]) (plainFor_of_name own_pn7) (fun m => by first | (simp [entryFrame, mkF, argsToLocals, Value.category]; done) | rfl) ?_
  intro p e s m below meth cc_ T hx hby hml hown hnm hret hlk hZ X eT
  have N := Fr.nil n0
  have K0 := Keep.refl h0 []
  have sz_h : h0.size ≤ h0.size := Nat.le_refl _
  refine giloadN (v := (0 : Int32)) X hx 1 (hb hby D32_0) rfl rfl ?_
  refine gifNo X hx 4 (hb hby D32_1) rfl (by decide) ?_
  refine giloadN (v := (Int32.ofNat cs.length)) X hx 5 (hb hby D32_4) rfl rfl ?_
  refine galoadN (v := (.ref va)) X hx 6 (hb hby D32_5) rfl rfl rfl ?_
  refine garrlen X hx hZ eT P0_Arv 7 (hb hby D32_6) rfl ?_
  refine gicmpYes X hx 17 (hb hby D32_7) (teq (own_eqc hlt rfl)).1 (by decide) (by decide) ?_
  refine galoadN (v := (.ref va)) X hx 18 (hb hby D32_17) rfl rfl rfl ?_
  refine gclone (st := []) X hx hZ hown (u294 hw) (u295 hw) (u299 hw) (u297 hw) (u298 hw) (u300 hw) eT (by rw [hml]; rfl) P0_Arv hkb (by decide) 0 (Nat.le_of_eq rfl) (by decide) 16 (by decide) 1 16 rfl rfl (by decide) (by decide) 21 (hb hby D32_18) rfl ?_
  clear X eT; clear T; intro T h1 b2 X eT ga E3 V4
  have le_a := Nat.le_of_eq ga.symm
  have ne_va_b2 : va ≠ b2 := Nat.ne_of_lt (Nat.lt_of_lt_of_le P0_Arv.lt le_a)
  have ne_b2_va : b2 ≠ va := Ne.symm ne_va_b2
  have sz_b2 : h0.size ≤ b2 := Nat.le_trans sz_h le_a
  have ge_b2 : n0 ≤ b2 := Nat.le_trans Z0 sz_b2
  clear le_a ga
  replace P0_Arv := P0_Arv.ext E3
  replace K0 := K0.ext E3
  replace sz_h : h0.size ≤ h1.size := Nat.le_trans sz_h E3.1
  show Go p e below _ T (mkF m 21 _ [(.ref b2)])
  refine gcast X hx hZ hown (u301 hw) eT (own_insB V4 hkb) 24 (hb hby D32_21) rfl ?_
  clear X eT; clear T; intro T X eT
  replace V4 : Arv Z h1 b2 kv .byte (Int32.ofNat cs.length) ((cs.map fun c => c.toInt8.toInt32).map Value.int) (.int 0) := by rw [own_eqc hlt rfl]; exact V4
  exact gRetP X hx hlk hret rfl (Or.inr (Or.inr (Or.inr (Or.inr ⟨rfl, rfl, rfl⟩)))) (hb hby D32_24) eT (by decide) (by decide) ⟨b2, kv, rfl, N, K0, sz_b2, V4⟩
theorem rmIASC (l : Launch) (Z : State) (a0 : Array Value) (hw : HW_ a0 Z) (x : Addr) (sb : Addr) (va : Addr) (kv : ClassId) (G1 : Int32) (cs : List Int32) (h0 : Heap) (n0 : Nat) (Z0 : n0 ≤ h0.size) (ge_x : n0 ≤ x) (P0_Old : Old Z n0 h0) (P1_Exa : Exa Z h0 x "java/lang/String") (P2_Fld : Fld Z h0 x "java/lang/String" "value" "[B" .null) (P3_Fld : Fld Z h0 x "java/lang/String" "coder" "B" (.int 0)) (P4_Exa : Exa Z h0 sb "java/lang/StringBuilder") (P5_Fld : Fld Z h0 sb "java/lang/AbstractStringBuilder" "value" "[B" (.ref va)) (P6_Fld : Fld Z h0 sb "java/lang/AbstractStringBuilder" "coder" "B" (.int 0)) (P7_Fld : Fld Z h0 sb "java/lang/AbstractStringBuilder" "count" "I" (.int (Int32.ofNat cs.length))) (P8_Arv : Arv Z h0 va kv .byte (16 : Int32) ((cs.map fun c => c.toInt8.toInt32).map Value.int) (.int 0)) (O2 : Sta Z Z.heap "java/lang/String" "COMPACT_STRINGS" "Z" (.int G1)) (P5 : ¬ G1 = (0 : Int32)) (hlt : cs.length = 16) (hkb : Z.vm.findClass "[B" = some kv) :
    CtP l Y23 jdk_42_method_150_code 5 none [] ({ frames := 2, cells := 1, slots := 16, locals := 29 } : Room) Z #[(.ref x), (.ref sb), .null] h0 (fun v h L => ∃ (tr : Addr), ∃ (kr : ClassId), v = none ∧ Fr n0 L ∧ Keep h0 h [x] ∧ h0.size ≤ tr ∧ Fld Z h x "java/lang/String" "coder" "B" (.int 0) ∧ Fld Z h x "java/lang/String" "value" "[B" (.ref tr) ∧ Arv Z h tr kr .byte (Int32.ofNat cs.length) ((cs.map fun c => c.toInt8.toInt32).map Value.int) (.int 0)) := by
  refine CtP.walk (Ls := #[.val (.ref x), .val (.ref sb), .val .null, .unset, .unset]) own_pn9 (fun m => by first | (simp [entryFrame, mkF, argsToLocals, Value.category]; done) | rfl) ?_
  intro p e s m below meth cc_ T hx hby hml hown hnm hret hlk hZ X eT
  have N := Fr.nil n0
  have K0 := Keep.refl h0 [x]
  have sz_h : h0.size ≤ h0.size := Nat.le_refl _
  refine galoadN (v := (.ref x)) X hx 1 (hb hby D28_0) rfl rfl rfl ?_
  refine ginitO X hx hZ hown (u173 hw) (u26 hw) (u27 hw) eT (by rw [hml]; rfl) (by decide) 0 (Nat.le_of_eq rfl) (by decide) 4 (hb hby D28_1) rfl ?_
  clear X eT; clear T; intro T X eT
  refine galoadN (v := (.ref sb)) X hx 5 (hb hby D28_4) rfl rfl rfl ?_
  refine gvirtual (y := Y12) (z := Y12) (a := sb) (argsL := []) (st := []) X hx hZ hown (u174 hw) (u175 hw) (notFace_of_selects (args := #[]) (mvT hZ (u177 hw))) (u177 hw) (u176 hw) (by decide) P4_Exa (payP (W := 0) (rm29 l Z a0 hw (sb) (va) h0 n0 (Nat.le_trans Z0 sz_h) P5_Fld) hZ (u178 hw) (u86 hw) (by decide) (by decide)) eT (by rw [hml]; rfl) (lenOf own_pd13 rfl) rfl (Nat.le_of_eq rfl) 0 0 rfl rfl (by decide) (by decide) 8 (hb hby D28_5) rfl (gcut N ?_)
  clear X eT N; clear T; intro T L X eT N
  refine gastoreN X hx #[.val (.ref x), .val (.ref sb), .val .null, .val (.ref va), .unset] 9 (hb hby D28_8) rfl rfl rfl ?_
  refine galoadN (v := (.ref sb)) X hx 10 (hb hby D28_9) rfl rfl rfl ?_
  refine gvirtual (y := Y15) (z := Y39) (a := sb) (argsL := []) (st := []) X hx hZ hown (u179 hw) (u180 hw) (nf_sel (args := #[]) (mvT hZ (u115 hw)) rfl) (u182 hw) (u183 hw) (by decide) P4_Exa (payP (W := 0) (rm30 l Z a0 hw (sb) ((Int32.ofNat cs.length)) h0 n0 (Nat.le_trans Z0 sz_h) P4_Exa P7_Fld) hZ (u184 hw) (u78 hw) (by decide) (by decide)) eT (by rw [hml]; rfl) (lenOf own_pd8 rfl) rfl (Nat.le_of_eq rfl) 0 0 rfl rfl (by decide) (by decide) 13 (hb hby D28_10) rfl (gcut N ?_)
  clear X eT N; clear T; intro T L X eT N
  refine gistore X hx #[.val (.ref x), .val (.ref sb), .val .null, .val (.ref va), .val (.int (Int32.ofNat cs.length))] 15 (hb hby D28_13) rfl rfl ?_
  refine galoadN (v := (.ref sb)) X hx 16 (hb hby D28_15) rfl rfl rfl ?_
  refine gvirtual (y := Y14) (z := Y14) (a := sb) (argsL := []) (st := []) X hx hZ hown (u187 hw) (u151 hw) (notFace_of_selects (args := #[]) (mvT hZ (u153 hw))) (u153 hw) (u152 hw) (by decide) P4_Exa (payP (W := 0) (rm24 l Z a0 hw (sb) (G1) h0 n0 (Nat.le_trans Z0 sz_h) P0_Old P6_Fld (O2) (P5)) hZ (u154 hw) (u86 hw) (by decide) (by decide)) eT (by rw [hml]; rfl) (lenOf own_pd14 rfl) rfl (Nat.le_of_eq rfl) 0 0 rfl rfl (by decide) (by decide) 19 (hb hby D28_16) rfl (gcut N ?_)
  clear X eT N; clear T; intro T L X eT N
  refine gifNo X hx 22 (hb hby D28_19) rfl (by decide) ?_
  refine galoadN (v := (.ref x)) X hx 23 (hb hby D28_22) rfl rfl rfl ?_
  refine giconst X hx (0 : Int32) 24 (hb hby D28_23) rfl rfl ?_
  refine gputF X hx hZ (host := "") hown (Or.inl (u65 hw)) Via.refl eT P3_Fld P1_Exa (Or.inr ⟨(u9 hw), rfl, hnm⟩) (u6 hw) (ty := .byte) own_pf1 rfl rfl N ge_x 27 (hb hby D28_24) rfl ?_
  clear X eT N; clear T; intro T h1 L X eT N W2
  have ne_sb_x : sb ≠ x := ne_exa P4_Exa P1_Exa (by decide)
  have ne_va_x : va ≠ x := Ne.symm (Exa.neArv P1_Exa P8_Arv (u6 hw))
  replace P0_Old := P0_Old.wr W2 ge_x
  replace P1_Exa := P1_Exa.wr W2
  replace P2_Fld := P2_Fld.other W2 (Or.inr (slot_ne (Or.inr (u8 hw)) (Or.inr (u9 hw)) (by decide) own_pf0 own_pf1))
  replace P3_Fld := P3_Fld.same W2
  replace P4_Exa := P4_Exa.wr W2
  replace P5_Fld := P5_Fld.other W2 (Or.inl ne_sb_x)
  replace P6_Fld := P6_Fld.other W2 (Or.inl ne_sb_x)
  replace P7_Fld := P7_Fld.other W2 (Or.inl ne_sb_x)
  replace P8_Arv := P8_Arv.other W2 ne_va_x
  replace K0 := K0.wr W2 (Or.inl (List.mem_of_getElem? (i := 0) rfl))
  replace sz_h : h0.size ≤ h1.size := by rw [Wr.size W2]; exact sz_h
  refine galoadN (v := (.ref x)) X hx 28 (hb hby D28_27) rfl rfl rfl ?_
  refine galoadN (v := (.ref va)) X hx 29 (hb hby D28_28) rfl rfl rfl ?_
  refine giconst X hx (0 : Int32) 30 (hb hby D28_29) rfl rfl ?_
  refine giload (v := (Int32.ofNat cs.length)) X hx 32 (hb hby D28_30) rfl rfl ?_
  refine gstatic (y := Y47) (argsL := [(.ref va), (.int 0), (.int (Int32.ofNat cs.length))]) (st := [(.ref x)]) X hx hZ hown (u188 hw) (u189 hw) (u190 hw) (u191 hw) (by decide) (payP (W := 1) (rmCRSC l Z a0 hw (va) (kv) (cs) h1 n0 (Nat.le_trans Z0 sz_h) P8_Arv (hlt) (hkb)) hZ (u191 hw) (u190 hw) (by decide) (by decide)) eT (by rw [hml]; rfl) (lenOf own_pd12 rfl) rfl (Nat.le_of_eq rfl) 1 16 rfl rfl (by decide) (by decide) 35 (hb hby D28_32) rfl ?_
  clear X eT; clear T; intro v T h3 L2 Lc X eT hL hQ4
  obtain ⟨tr_5, kr_6, rfl, Nq, K7, zz_tr_5, G9⟩ := hQ4
  replace N : Fr n0 L2 := by rw [hL]; exact Fr.app N Nq
  clear Nq hL
  have ne_x_tr_5 : x ≠ tr_5 := Nat.ne_of_lt (Nat.lt_of_lt_of_le P1_Exa.lt zz_tr_5)
  have ne_tr_5_x : tr_5 ≠ x := Ne.symm ne_x_tr_5
  have ne_sb_tr_5 : sb ≠ tr_5 := Nat.ne_of_lt (Nat.lt_of_lt_of_le P4_Exa.lt zz_tr_5)
  have ne_tr_5_sb : tr_5 ≠ sb := Ne.symm ne_sb_tr_5
  have ne_va_tr_5 : va ≠ tr_5 := Nat.ne_of_lt (Nat.lt_of_lt_of_le P8_Arv.lt zz_tr_5)
  have ne_tr_5_va : tr_5 ≠ va := Ne.symm ne_va_tr_5
  have sz_tr_5 : h0.size ≤ tr_5 := Nat.le_trans sz_h zz_tr_5
  have ge_tr_5 : n0 ≤ tr_5 := Nat.le_trans Z0 sz_tr_5
  replace P0_Old := P0_Old.keep K7 all0
  replace P1_Exa := P1_Exa.keep K7
  replace P2_Fld := P2_Fld.keep K7 nin0
  replace P3_Fld := P3_Fld.keep K7 nin0
  replace P4_Exa := P4_Exa.keep K7
  replace P5_Fld := P5_Fld.keep K7 nin0
  replace P6_Fld := P6_Fld.keep K7 nin0
  replace P7_Fld := P7_Fld.keep K7 nin0
  replace P8_Arv := P8_Arv.keep K7 nin0
  replace K0 := K0.trans K7 all0
  replace sz_h : h0.size ≤ h3.size := Nat.le_trans sz_h K7.1
  show Go p e below _ T (mkF m 35 _ [(.ref tr_5), (.ref x)])
  refine gputF X hx hZ (host := "") hown (Or.inl (u71 hw)) Via.refl eT P2_Fld P1_Exa (Or.inr ⟨(u8 hw), rfl, hnm⟩) (u6 hw) (ty := (.array .byte)) own_pf0 rfl rfl N ge_x 38 (hb hby D28_35) rfl ?_
  clear X eT N; clear T; intro T h10 L X eT N W11
  replace P0_Old := P0_Old.wr W11 ge_x
  replace P1_Exa := P1_Exa.wr W11
  replace P2_Fld := P2_Fld.same W11
  replace P3_Fld := P3_Fld.other W11 (Or.inr (slot_ne (Or.inr (u9 hw)) (Or.inr (u8 hw)) (by decide) own_pf1 own_pf0))
  replace P4_Exa := P4_Exa.wr W11
  replace P5_Fld := P5_Fld.other W11 (Or.inl ne_sb_x)
  replace P6_Fld := P6_Fld.other W11 (Or.inl ne_sb_x)
  replace P7_Fld := P7_Fld.other W11 (Or.inl ne_sb_x)
  replace P8_Arv := P8_Arv.other W11 ne_va_x
  replace G9 := G9.other W11 ne_tr_5_x
  replace K0 := K0.wr W11 (Or.inl (List.mem_of_getElem? (i := 0) rfl))
  replace sz_h : h0.size ≤ h10.size := by rw [Wr.size W11]; exact sz_h
  refine ggoto X hx 97 (hb hby D28_38) (by decide) (by decide) ?_
  exact gRetP0 X hx hlk hret (hb hby D28_97) eT (by decide) (by decide) ⟨tr_5, kr_6, rfl, N, K0, sz_tr_5, P3_Fld, P2_Fld, G9⟩
theorem rmISSC (l : Launch) (Z : State) (a0 : Array Value) (hw : HW_ a0 Z) (x : Addr) (sb : Addr) (va : Addr) (kv : ClassId) (G1 : Int32) (cs : List Int32) (h0 : Heap) (n0 : Nat) (Z0 : n0 ≤ h0.size) (ge_x : n0 ≤ x) (P0_Old : Old Z n0 h0) (P1_Exa : Exa Z h0 x "java/lang/String") (P2_Fld : Fld Z h0 x "java/lang/String" "value" "[B" .null) (P3_Fld : Fld Z h0 x "java/lang/String" "coder" "B" (.int 0)) (P4_Exa : Exa Z h0 sb "java/lang/StringBuilder") (P5_Fld : Fld Z h0 sb "java/lang/AbstractStringBuilder" "value" "[B" (.ref va)) (P6_Fld : Fld Z h0 sb "java/lang/AbstractStringBuilder" "coder" "B" (.int 0)) (P7_Fld : Fld Z h0 sb "java/lang/AbstractStringBuilder" "count" "I" (.int (Int32.ofNat cs.length))) (P8_Arv : Arv Z h0 va kv .byte (16 : Int32) ((cs.map fun c => c.toInt8.toInt32).map Value.int) (.int 0)) (O2 : Sta Z Z.heap "java/lang/String" "COMPACT_STRINGS" "Z" (.int G1)) (P5 : ¬ G1 = (0 : Int32)) (hlt : cs.length = 16) (hkb : Z.vm.findClass "[B" = some kv) :
    CtP l Y24 jdk_42_method_53_code 2 none [] ({ frames := 3, cells := 1, slots := 16, locals := 45 } : Room) Z #[(.ref x), (.ref sb)] h0 (fun v h L => ∃ (tr : Addr), ∃ (kr : ClassId), v = none ∧ Fr n0 L ∧ Keep h0 h [x] ∧ h0.size ≤ tr ∧ Fld Z h x "java/lang/String" "coder" "B" (.int 0) ∧ Fld Z h x "java/lang/String" "value" "[B" (.ref tr) ∧ Arv Z h tr kr .byte (Int32.ofNat cs.length) ((cs.map fun c => c.toInt8.toInt32).map Value.int) (.int 0)) := by
  refine CtP.walk (Ls := #[.val (.ref x), .val (.ref sb)]) own_pn10 (fun m => by first | (simp [entryFrame, mkF, argsToLocals, Value.category]; done) | rfl) ?_
  intro p e s m below meth cc_ T hx hby hml hown hnm hret hlk hZ X eT
  have N := Fr.nil n0
  have K0 := Keep.refl h0 [x]
  have sz_h : h0.size ≤ h0.size := Nat.le_refl _
  refine galoadN (v := (.ref x)) X hx 1 (hb hby D27_0) rfl rfl rfl ?_
  refine galoadN (v := (.ref sb)) X hx 2 (hb hby D27_1) rfl rfl rfl ?_
  refine gaconstNull X hx 3 (hb hby D27_2) rfl ?_
  refine gspecial (y := Y23) (a := x) (argsL := [(.ref sb), .null]) (st := []) X hx hZ hown rfl (u170 hw) (u171 hw) (u172 hw) (by decide) (payP (W := 0) (rmIASC l Z a0 hw (x) (sb) (va) (kv) (G1) (cs) h0 n0 (Nat.le_trans Z0 sz_h) ge_x P0_Old P1_Exa P2_Fld P3_Fld P4_Exa P5_Fld P6_Fld P7_Fld P8_Arv (O2) (P5) (hlt) (hkb)) hZ (u172 hw) (u5 hw) (by decide) (by decide)) eT (by rw [hml]; rfl) (lenOf own_pd15 rfl) rfl (Nat.le_of_eq rfl) 1 16 rfl rfl (by decide) (by decide) 6 (hb hby D27_3) rfl ?_
  clear X eT; clear T; intro v T h1 L2 Lc X eT hL hQ2
  obtain ⟨tr_3, kr_4, rfl, Nq, K5, zz_tr_3, G7, G8, G9⟩ := hQ2
  replace N : Fr n0 L2 := by rw [hL]; exact Fr.app N Nq
  clear Nq hL
  have ne_x_tr_3 : x ≠ tr_3 := Nat.ne_of_lt (Nat.lt_of_lt_of_le P1_Exa.lt zz_tr_3)
  have ne_tr_3_x : tr_3 ≠ x := Ne.symm ne_x_tr_3
  have ne_sb_tr_3 : sb ≠ tr_3 := Nat.ne_of_lt (Nat.lt_of_lt_of_le P4_Exa.lt zz_tr_3)
  have ne_tr_3_sb : tr_3 ≠ sb := Ne.symm ne_sb_tr_3
  have ne_va_tr_3 : va ≠ tr_3 := Nat.ne_of_lt (Nat.lt_of_lt_of_le P8_Arv.lt zz_tr_3)
  have ne_tr_3_va : tr_3 ≠ va := Ne.symm ne_va_tr_3
  have sz_tr_3 : h0.size ≤ tr_3 := Nat.le_trans sz_h zz_tr_3
  have ge_tr_3 : n0 ≤ tr_3 := Nat.le_trans Z0 sz_tr_3
  have ne_sb_x : sb ≠ x := ne_exa P4_Exa P1_Exa (by decide)
  have ne_va_x : va ≠ x := Ne.symm (Exa.neArv P1_Exa P8_Arv (u6 hw))
  replace P0_Old := P0_Old.keep K5 (allS ge_x all0)
  replace P1_Exa := P1_Exa.keep K5
  replace P4_Exa := P4_Exa.keep K5
  replace P5_Fld := P5_Fld.keep K5 (ninS ne_sb_x nin0)
  replace P6_Fld := P6_Fld.keep K5 (ninS ne_sb_x nin0)
  replace P7_Fld := P7_Fld.keep K5 (ninS ne_sb_x nin0)
  replace P8_Arv := P8_Arv.keep K5 (ninS ne_va_x nin0)
  replace K0 := K0.trans K5 (allS (Or.inl (List.mem_of_getElem? (i := 0) rfl)) all0)
  replace sz_h : h0.size ≤ h1.size := Nat.le_trans sz_h K5.1
  show Go p e below _ T (mkF m 6 _ [])
  exact gRetP0 X hx hlk hret (hb hby D27_6) eT (by decide) (by decide) ⟨tr_3, kr_4, rfl, N, K0, sz_tr_3, G7, G8, G9⟩
theorem rmTSSC (l : Launch) (Z : State) (a0 : Array Value) (hw : HW_ a0 Z) (sb : Addr) (va : Addr) (kv : ClassId) (G1 : Int32) (cs : List Int32) (h0 : Heap) (n0 : Nat) (Z0 : n0 ≤ h0.size) (P0_Old : Old Z n0 h0) (P1_Exa : Exa Z h0 sb "java/lang/StringBuilder") (P2_Fld : Fld Z h0 sb "java/lang/AbstractStringBuilder" "value" "[B" (.ref va)) (P3_Fld : Fld Z h0 sb "java/lang/AbstractStringBuilder" "coder" "B" (.int 0)) (P4_Fld : Fld Z h0 sb "java/lang/AbstractStringBuilder" "count" "I" (.int (Int32.ofNat cs.length))) (P5_Arv : Arv Z h0 va kv .byte (16 : Int32) ((cs.map fun c => c.toInt8.toInt32).map Value.int) (.int 0)) (O2 : Sta Z Z.heap "java/lang/String" "COMPACT_STRINGS" "Z" (.int G1)) (P5 : ¬ G1 = (0 : Int32)) (hlt : cs.length = 16) (hkb : Z.vm.findClass "[B" = some kv) :
    CtP l Y40 jdk_67_method_42_code 1 (some (.object "java/lang/String")) [] ({ frames := 5, cells := 2, slots := 38, locals := 79 } : Room) Z #[(.ref sb)] h0 (fun v h L => ∃ (x : Addr), ∃ (tr : Addr), ∃ (kr : ClassId), v = some (.ref x) ∧ Fr n0 L ∧ Keep h0 h [] ∧ h0.size ≤ x ∧ h0.size ≤ tr ∧ Exa Z h x "java/lang/String" ∧ Fld Z h x "java/lang/String" "coder" "B" (.int 0) ∧ Fld Z h x "java/lang/String" "value" "[B" (.ref tr) ∧ Arv Z h tr kr .byte (Int32.ofNat cs.length) ((cs.map fun c => c.toInt8.toInt32).map Value.int) (.int 0)) := by
  refine CtP.walk (Ls := #[.val (.ref sb)]) (plainFor_of_name own_pn1) (fun m => by first | (simp [entryFrame, mkF, argsToLocals, Value.category]; done) | rfl) ?_
  intro p e s m below meth cc_ T hx hby hml hown hnm hret hlk hZ X eT
  have N := Fr.nil n0
  have K0 := Keep.refl h0 []
  have sz_h : h0.size ≤ h0.size := Nat.le_refl _
  refine gnewO X hx hZ hown (u165 hw) (u6 hw) (u5 hw) eT 1 4 rfl rfl (by decide) (by decide) 3 (hb hby D26_0) rfl ?_
  clear X eT; clear T; intro T h1 b2 X eT ga E3 A4 D5
  have le_a := Nat.le_of_eq ga.symm
  have ne_sb_b2 : sb ≠ b2 := Nat.ne_of_lt (Nat.lt_of_lt_of_le P1_Exa.lt le_a)
  have ne_b2_sb : b2 ≠ sb := Ne.symm ne_sb_b2
  have ne_va_b2 : va ≠ b2 := Nat.ne_of_lt (Nat.lt_of_lt_of_le P5_Arv.lt le_a)
  have ne_b2_va : b2 ≠ va := Ne.symm ne_va_b2
  have sz_b2 : h0.size ≤ b2 := Nat.le_trans sz_h le_a
  have ge_b2 : n0 ≤ b2 := Nat.le_trans Z0 sz_b2
  clear le_a ga
  replace P0_Old := P0_Old.ext E3
  replace P1_Exa := P1_Exa.ext E3
  replace P2_Fld := P2_Fld.ext E3
  replace P3_Fld := P3_Fld.ext E3
  replace P4_Fld := P4_Fld.ext E3
  replace P5_Arv := P5_Arv.ext E3
  replace K0 := K0.ext E3
  replace sz_h : h0.size ≤ h1.size := Nat.le_trans sz_h E3.1
  have F_value_b2 : Fld Z h1 b2 "java/lang/String" "value" "[B" .null := D5 (Or.inr (u8 hw)) (ty := (.array .byte)) own_pf0
  have F_coder_b2 : Fld Z h1 b2 "java/lang/String" "coder" "B" (.int 0) := D5 (Or.inr (u9 hw)) (ty := .byte) own_pf1
  clear D5
  refine gdup X hx 4 (hb hby D26_3) rfl rfl ?_
  refine galoadN (v := (.ref sb)) X hx 5 (hb hby D26_4) rfl rfl rfl ?_
  refine gspecial (y := Y24) (a := b2) (argsL := [(.ref sb)]) (st := [(.ref b2)]) X hx hZ hown rfl (u166 hw) (u167 hw) (u169 hw) (by decide) (payP (W := 1) (rmISSC l Z a0 hw (b2) (sb) (va) (kv) (G1) (cs) h1 n0 (Nat.le_trans Z0 sz_h) ge_b2 P0_Old A4 F_value_b2 F_coder_b2 P1_Exa P2_Fld P3_Fld P4_Fld P5_Arv (O2) (P5) (hlt) (hkb)) hZ (u169 hw) (u5 hw) (by decide) (by decide)) eT (by rw [hml]; rfl) (lenOf own_pd16 rfl) rfl (Nat.le_of_eq rfl) 2 20 rfl rfl (by decide) (by decide) 8 (hb hby D26_5) rfl ?_
  clear X eT; clear T; intro v T h6 L2 Lc X eT hL hQ7
  obtain ⟨tr_8, kr_9, rfl, Nq, K10, zz_tr_8, G12, G13, G14⟩ := hQ7
  replace N : Fr n0 L2 := by rw [hL]; exact Fr.app N Nq
  clear Nq hL
  have ne_sb_tr_8 : sb ≠ tr_8 := Nat.ne_of_lt (Nat.lt_of_lt_of_le P1_Exa.lt zz_tr_8)
  have ne_tr_8_sb : tr_8 ≠ sb := Ne.symm ne_sb_tr_8
  have ne_va_tr_8 : va ≠ tr_8 := Nat.ne_of_lt (Nat.lt_of_lt_of_le P5_Arv.lt zz_tr_8)
  have ne_tr_8_va : tr_8 ≠ va := Ne.symm ne_va_tr_8
  have ne_b2_tr_8 : b2 ≠ tr_8 := Nat.ne_of_lt (Nat.lt_of_lt_of_le A4.lt zz_tr_8)
  have ne_tr_8_b2 : tr_8 ≠ b2 := Ne.symm ne_b2_tr_8
  have sz_tr_8 : h0.size ≤ tr_8 := Nat.le_trans sz_h zz_tr_8
  have ge_tr_8 : n0 ≤ tr_8 := Nat.le_trans Z0 sz_tr_8
  replace P0_Old := P0_Old.keep K10 (allS ge_b2 all0)
  replace P1_Exa := P1_Exa.keep K10
  replace P2_Fld := P2_Fld.keep K10 (ninS ne_sb_b2 nin0)
  replace P3_Fld := P3_Fld.keep K10 (ninS ne_sb_b2 nin0)
  replace P4_Fld := P4_Fld.keep K10 (ninS ne_sb_b2 nin0)
  replace P5_Arv := P5_Arv.keep K10 (ninS ne_va_b2 nin0)
  replace A4 := A4.keep K10
  replace K0 := K0.trans K10 (allS (Or.inr sz_b2) all0)
  replace sz_h : h0.size ≤ h6.size := Nat.le_trans sz_h K10.1
  show Go p e below _ T (mkF m 8 _ [(.ref b2)])
  exact gRetP X hx hlk hret rfl (Or.inr (Or.inr (Or.inr (Or.inr ⟨rfl, rfl, rfl⟩)))) (hb hby D26_8) eT (by decide) (by decide) ⟨b2, tr_8, kr_9, rfl, N, K0, sz_b2, sz_tr_8, A4, G12, G13, G14⟩
theorem rmTsA (l : Launch) (Z : State) (a0 : Array Value) (hw : HW_ a0 Z) (sb : Addr) (va : Addr) (kv : ClassId) (G1 : Int32) (cs : List Int32) (zc : Int32) (h0 : Heap) (n0 : Nat) (Z0 : n0 ≤ h0.size) (P0_Old : Old Z n0 h0) (P1_Exa : Exa Z h0 sb "java/lang/StringBuilder") (P2_Fld : Fld Z h0 sb "java/lang/AbstractStringBuilder" "value" "[B" (.ref va)) (P3_Fld : Fld Z h0 sb "java/lang/AbstractStringBuilder" "coder" "B" (.int 0)) (P4_Fld : Fld Z h0 sb "java/lang/AbstractStringBuilder" "count" "I" (.int (Int32.ofNat cs.length))) (P5_Arv : Arv Z h0 va kv .byte zc ((cs.map fun c => c.toInt8.toInt32).map Value.int) (.int 0)) (O2 : Sta Z Z.heap "java/lang/String" "COMPACT_STRINGS" "Z" (.int G1)) (P5 : ¬ G1 = (0 : Int32)) (hz : zc = (16 : Int32) ∨ zc = (34 : Int32)) (hc16 : zc = (16 : Int32) → cs.length ≤ 16 ∧ Z.vm.findClass "[B" = some kv) (hln : cs.length ≤ 33) :
    CtP l Y40 jdk_67_method_42_code 1 (some (.object "java/lang/String")) [] ({ frames := 5, cells := 2, slots := 38, locals := 79 } : Room) Z #[(.ref sb)] h0 (fun v h L => ∃ (x : Addr), ∃ (tr : Addr), ∃ (kr : ClassId), v = some (.ref x) ∧ Fr n0 L ∧ Keep h0 h [] ∧ h0.size ≤ x ∧ h0.size ≤ tr ∧ Exa Z h x "java/lang/String" ∧ Fld Z h x "java/lang/String" "coder" "B" (.int 0) ∧ Fld Z h x "java/lang/String" "value" "[B" (.ref tr) ∧ Arv Z h tr kr .byte (Int32.ofNat cs.length) ((cs.map fun c => c.toInt8.toInt32).map Value.int) (.int 0)) := by
  rcases hz with rfl | rfl
  · rcases Nat.lt_or_ge cs.length 16 with g | g
    · exact rmTSSA l Z a0 hw sb va kv G1 cs 16 h0 n0 Z0 P0_Old P1_Exa P2_Fld P3_Fld P4_Fld P5_Arv O2 P5 (Nat.lt_of_lt_of_le g (by decide)) (by decide)
    · exact rmTSSC l Z a0 hw sb va kv G1 cs h0 n0 Z0 P0_Old P1_Exa P2_Fld P3_Fld P4_Fld P5_Arv O2 P5 (Nat.le_antisymm (hc16 rfl).1 g) (hc16 rfl).2
  · exact rmTSSA l Z a0 hw sb va kv G1 cs 34 h0 n0 Z0 P0_Old P1_Exa P2_Fld P3_Fld P4_Fld P5_Arv O2 P5 (Nat.lt_of_le_of_lt hln (by decide)) (by decide)
theorem rmSS (l : Launch) (Z : State) (a0 : Array Value) (hw : HW_ a0 Z) (nv : Nat) (h0 : Heap) (n0 : Nat) (Z0 : n0 ≤ h0.size) (hnv : nv < 2147483648) :
    CtP l Y19 jdk_33_method_13_code 4 (some .int) [] ({ frames := 0, cells := 0, slots := 0, locals := 0 } : Room) Z #[(.int (Int32.ofNat nv))] h0 (fun v h L => v = some (.int (Int32.ofNat (own_dg nv).length)) ∧ Fr n0 L ∧ h = h0) := by
  refine CtP.walk (Ls := #[.val (.int (Int32.ofNat nv)), .unset, .unset, .unset]) own_pn11 (fun m => by first | (simp [entryFrame, mkF, argsToLocals, Value.category]; done) | rfl) ?_
  intro p e s m below meth cc_ T hx hby hml hown hnm hret hlk hZ X eT
  have N := Fr.nil n0
  have sz_h : h0.size ≤ h0.size := Nat.le_refl _
  refine giconst X hx (1 : Int32) 1 (hb hby D23_0) rfl rfl ?_
  refine gistoreN X hx #[.val (.int (Int32.ofNat nv)), .val (.int 1), .unset, .unset] 2 (hb hby D23_1) rfl rfl ?_
  refine giloadN (v := (Int32.ofNat nv)) X hx 3 (hb hby D23_2) rfl rfl ?_
  refine gifNo X hx 6 (hb hby D23_3) rfl ((if0 _ _).trans (flt (of_nat_nneg hnv)).1) ?_
  refine giconst X hx (0 : Int32) 7 (hb hby D23_6) rfl rfl ?_
  refine gistoreN X hx #[.val (.int (Int32.ofNat nv)), .val (.int 0), .unset, .unset] 8 (hb hby D23_7) rfl rfl ?_
  refine giloadN (v := (Int32.ofNat nv)) X hx 9 (hb hby D23_8) rfl rfl ?_
  refine gineg X hx 10 (hb hby D23_9) rfl ?_
  refine gistoreN X hx #[.val (.int (-(Int32.ofNat nv))), .val (.int 0), .unset, .unset] 11 (hb hby D23_10) rfl rfl ?_
  refine gbipush X hx (-10 : Int32) 13 (hb hby D23_11) rfl rfl ?_
  refine gistoreN X hx #[.val (.int (-(Int32.ofNat nv))), .val (.int 0), .val (.int (-10 : Int32)), .unset] 14 (hb hby D23_13) rfl rfl ?_
  refine giconst X hx (1 : Int32) 15 (hb hby D23_14) rfl rfl ?_
  refine gistoreN X hx #[.val (.int (-(Int32.ofNat nv))), .val (.int 0), .val (.int (-10 : Int32)), .val (.int 1)] 16 (hb hby D23_15) rfl rfl ?_
  refine giloadN (v := (1 : Int32)) X hx 17 (hb hby D23_16) rfl rfl ?_
  refine gbipush X hx (10 : Int32) 19 (hb hby D23_17) rfl rfl ?_
  refine gicmpNo X hx 22 (hb hby D23_19) rfl (by decide) ?_
  refine giloadN (v := (-(Int32.ofNat nv))) X hx 23 (hb hby D23_22) rfl rfl ?_
  refine giloadN (v := (-10 : Int32)) X hx 24 (hb hby D23_23) rfl rfl ?_
  rcases Nat.lt_or_ge nv 10 with k1 | k1
  · refine gicmpNo X hx 27 (hb hby D23_24) rfl (tlt (own_ngt 10 (by decide) hnv k1)).2.2.2 ?_
    refine giloadN (v := (1 : Int32)) X hx 28 (hb hby D23_27) rfl rfl ?_
    refine giloadN (v := (0 : Int32)) X hx 29 (hb hby D23_28) rfl rfl ?_
    refine giadd X hx 30 (hb hby D23_29) rfl ?_
    rw [show ((1 : Int32) + (0 : Int32)) = (1 : Int32) from by decide]
    exact gRetP X hx hlk hret rfl (Or.inl ⟨rfl, by simp, _, rfl⟩) (hb hby D23_30) eT (by decide) (by decide) ⟨(congrArg (fun z => some (Value.int (Int32.ofNat z))) (own_len1 k1).symm), N, rfl⟩
  · refine gicmpYes X hx 31 (hb hby D23_24) (flt (own_nle 10 (by decide) hnv k1)).2.2.2 (by decide) (by decide) ?_
    refine gbipush X hx (10 : Int32) 33 (hb hby D23_31) rfl rfl ?_
    refine giloadN (v := (-10 : Int32)) X hx 34 (hb hby D23_33) rfl rfl ?_
    refine gimul X hx 35 (hb hby D23_34) rfl ?_
    rw [show ((10 : Int32) * (-10 : Int32)) = (-100 : Int32) from by decide]
    refine gistoreN X hx #[.val (.int (-(Int32.ofNat nv))), .val (.int 0), .val (.int (-100 : Int32)), .val (.int 1)] 36 (hb hby D23_35) rfl rfl ?_
    refine giinc X hx #[.val (.int (-(Int32.ofNat nv))), .val (.int 0), .val (.int (-100 : Int32)), .val (.int 2)] 39 (hb hby D23_36) rfl rfl rfl ?_
    refine ggoto X hx 16 (hb hby D23_39) (by decide) (by decide) ?_
    refine giloadN (v := (2 : Int32)) X hx 17 (hb hby D23_16) rfl rfl ?_
    refine gbipush X hx (10 : Int32) 19 (hb hby D23_17) rfl rfl ?_
    refine gicmpNo X hx 22 (hb hby D23_19) rfl (by decide) ?_
    refine giloadN (v := (-(Int32.ofNat nv))) X hx 23 (hb hby D23_22) rfl rfl ?_
    refine giloadN (v := (-100 : Int32)) X hx 24 (hb hby D23_23) rfl rfl ?_
    rcases Nat.lt_or_ge nv 100 with k2 | k2
    · refine gicmpNo X hx 27 (hb hby D23_24) rfl (tlt (own_ngt 100 (by decide) hnv k2)).2.2.2 ?_
      refine giloadN (v := (2 : Int32)) X hx 28 (hb hby D23_27) rfl rfl ?_
      refine giloadN (v := (0 : Int32)) X hx 29 (hb hby D23_28) rfl rfl ?_
      refine giadd X hx 30 (hb hby D23_29) rfl ?_
      rw [show ((2 : Int32) + (0 : Int32)) = (2 : Int32) from by decide]
      exact gRetP X hx hlk hret rfl (Or.inl ⟨rfl, by simp, _, rfl⟩) (hb hby D23_30) eT (by decide) (by decide) ⟨(congrArg (fun z => some (Value.int (Int32.ofNat z))) (own_len2 k1 k2).symm), N, rfl⟩
    · refine gicmpYes X hx 31 (hb hby D23_24) (flt (own_nle 100 (by decide) hnv k2)).2.2.2 (by decide) (by decide) ?_
      refine gbipush X hx (10 : Int32) 33 (hb hby D23_31) rfl rfl ?_
      refine giloadN (v := (-100 : Int32)) X hx 34 (hb hby D23_33) rfl rfl ?_
      refine gimul X hx 35 (hb hby D23_34) rfl ?_
      rw [show ((10 : Int32) * (-100 : Int32)) = (-1000 : Int32) from by decide]
      refine gistoreN X hx #[.val (.int (-(Int32.ofNat nv))), .val (.int 0), .val (.int (-1000 : Int32)), .val (.int 2)] 36 (hb hby D23_35) rfl rfl ?_
      refine giinc X hx #[.val (.int (-(Int32.ofNat nv))), .val (.int 0), .val (.int (-1000 : Int32)), .val (.int 3)] 39 (hb hby D23_36) rfl rfl rfl ?_
      refine ggoto X hx 16 (hb hby D23_39) (by decide) (by decide) ?_
      refine giloadN (v := (3 : Int32)) X hx 17 (hb hby D23_16) rfl rfl ?_
      refine gbipush X hx (10 : Int32) 19 (hb hby D23_17) rfl rfl ?_
      refine gicmpNo X hx 22 (hb hby D23_19) rfl (by decide) ?_
      refine giloadN (v := (-(Int32.ofNat nv))) X hx 23 (hb hby D23_22) rfl rfl ?_
      refine giloadN (v := (-1000 : Int32)) X hx 24 (hb hby D23_23) rfl rfl ?_
      rcases Nat.lt_or_ge nv 1000 with k3 | k3
      · refine gicmpNo X hx 27 (hb hby D23_24) rfl (tlt (own_ngt 1000 (by decide) hnv k3)).2.2.2 ?_
        refine giloadN (v := (3 : Int32)) X hx 28 (hb hby D23_27) rfl rfl ?_
        refine giloadN (v := (0 : Int32)) X hx 29 (hb hby D23_28) rfl rfl ?_
        refine giadd X hx 30 (hb hby D23_29) rfl ?_
        rw [show ((3 : Int32) + (0 : Int32)) = (3 : Int32) from by decide]
        exact gRetP X hx hlk hret rfl (Or.inl ⟨rfl, by simp, _, rfl⟩) (hb hby D23_30) eT (by decide) (by decide) ⟨(congrArg (fun z => some (Value.int (Int32.ofNat z))) (own_len3 k2 k3).symm), N, rfl⟩
      · refine gicmpYes X hx 31 (hb hby D23_24) (flt (own_nle 1000 (by decide) hnv k3)).2.2.2 (by decide) (by decide) ?_
        refine gbipush X hx (10 : Int32) 33 (hb hby D23_31) rfl rfl ?_
        refine giloadN (v := (-1000 : Int32)) X hx 34 (hb hby D23_33) rfl rfl ?_
        refine gimul X hx 35 (hb hby D23_34) rfl ?_
        rw [show ((10 : Int32) * (-1000 : Int32)) = (-10000 : Int32) from by decide]
        refine gistoreN X hx #[.val (.int (-(Int32.ofNat nv))), .val (.int 0), .val (.int (-10000 : Int32)), .val (.int 3)] 36 (hb hby D23_35) rfl rfl ?_
        refine giinc X hx #[.val (.int (-(Int32.ofNat nv))), .val (.int 0), .val (.int (-10000 : Int32)), .val (.int 4)] 39 (hb hby D23_36) rfl rfl rfl ?_
        refine ggoto X hx 16 (hb hby D23_39) (by decide) (by decide) ?_
        refine giloadN (v := (4 : Int32)) X hx 17 (hb hby D23_16) rfl rfl ?_
        refine gbipush X hx (10 : Int32) 19 (hb hby D23_17) rfl rfl ?_
        refine gicmpNo X hx 22 (hb hby D23_19) rfl (by decide) ?_
        refine giloadN (v := (-(Int32.ofNat nv))) X hx 23 (hb hby D23_22) rfl rfl ?_
        refine giloadN (v := (-10000 : Int32)) X hx 24 (hb hby D23_23) rfl rfl ?_
        rcases Nat.lt_or_ge nv 10000 with k4 | k4
        · refine gicmpNo X hx 27 (hb hby D23_24) rfl (tlt (own_ngt 10000 (by decide) hnv k4)).2.2.2 ?_
          refine giloadN (v := (4 : Int32)) X hx 28 (hb hby D23_27) rfl rfl ?_
          refine giloadN (v := (0 : Int32)) X hx 29 (hb hby D23_28) rfl rfl ?_
          refine giadd X hx 30 (hb hby D23_29) rfl ?_
          rw [show ((4 : Int32) + (0 : Int32)) = (4 : Int32) from by decide]
          exact gRetP X hx hlk hret rfl (Or.inl ⟨rfl, by simp, _, rfl⟩) (hb hby D23_30) eT (by decide) (by decide) ⟨(congrArg (fun z => some (Value.int (Int32.ofNat z))) (own_len4 k3 k4).symm), N, rfl⟩
        · refine gicmpYes X hx 31 (hb hby D23_24) (flt (own_nle 10000 (by decide) hnv k4)).2.2.2 (by decide) (by decide) ?_
          refine gbipush X hx (10 : Int32) 33 (hb hby D23_31) rfl rfl ?_
          refine giloadN (v := (-10000 : Int32)) X hx 34 (hb hby D23_33) rfl rfl ?_
          refine gimul X hx 35 (hb hby D23_34) rfl ?_
          rw [show ((10 : Int32) * (-10000 : Int32)) = (-100000 : Int32) from by decide]
          refine gistoreN X hx #[.val (.int (-(Int32.ofNat nv))), .val (.int 0), .val (.int (-100000 : Int32)), .val (.int 4)] 36 (hb hby D23_35) rfl rfl ?_
          refine giinc X hx #[.val (.int (-(Int32.ofNat nv))), .val (.int 0), .val (.int (-100000 : Int32)), .val (.int 5)] 39 (hb hby D23_36) rfl rfl rfl ?_
          refine ggoto X hx 16 (hb hby D23_39) (by decide) (by decide) ?_
          refine giloadN (v := (5 : Int32)) X hx 17 (hb hby D23_16) rfl rfl ?_
          refine gbipush X hx (10 : Int32) 19 (hb hby D23_17) rfl rfl ?_
          refine gicmpNo X hx 22 (hb hby D23_19) rfl (by decide) ?_
          refine giloadN (v := (-(Int32.ofNat nv))) X hx 23 (hb hby D23_22) rfl rfl ?_
          refine giloadN (v := (-100000 : Int32)) X hx 24 (hb hby D23_23) rfl rfl ?_
          rcases Nat.lt_or_ge nv 100000 with k5 | k5
          · refine gicmpNo X hx 27 (hb hby D23_24) rfl (tlt (own_ngt 100000 (by decide) hnv k5)).2.2.2 ?_
            refine giloadN (v := (5 : Int32)) X hx 28 (hb hby D23_27) rfl rfl ?_
            refine giloadN (v := (0 : Int32)) X hx 29 (hb hby D23_28) rfl rfl ?_
            refine giadd X hx 30 (hb hby D23_29) rfl ?_
            rw [show ((5 : Int32) + (0 : Int32)) = (5 : Int32) from by decide]
            exact gRetP X hx hlk hret rfl (Or.inl ⟨rfl, by simp, _, rfl⟩) (hb hby D23_30) eT (by decide) (by decide) ⟨(congrArg (fun z => some (Value.int (Int32.ofNat z))) (own_len5 k4 k5).symm), N, rfl⟩
          · refine gicmpYes X hx 31 (hb hby D23_24) (flt (own_nle 100000 (by decide) hnv k5)).2.2.2 (by decide) (by decide) ?_
            refine gbipush X hx (10 : Int32) 33 (hb hby D23_31) rfl rfl ?_
            refine giloadN (v := (-100000 : Int32)) X hx 34 (hb hby D23_33) rfl rfl ?_
            refine gimul X hx 35 (hb hby D23_34) rfl ?_
            rw [show ((10 : Int32) * (-100000 : Int32)) = (-1000000 : Int32) from by decide]
            refine gistoreN X hx #[.val (.int (-(Int32.ofNat nv))), .val (.int 0), .val (.int (-1000000 : Int32)), .val (.int 5)] 36 (hb hby D23_35) rfl rfl ?_
            refine giinc X hx #[.val (.int (-(Int32.ofNat nv))), .val (.int 0), .val (.int (-1000000 : Int32)), .val (.int 6)] 39 (hb hby D23_36) rfl rfl rfl ?_
            refine ggoto X hx 16 (hb hby D23_39) (by decide) (by decide) ?_
            refine giloadN (v := (6 : Int32)) X hx 17 (hb hby D23_16) rfl rfl ?_
            refine gbipush X hx (10 : Int32) 19 (hb hby D23_17) rfl rfl ?_
            refine gicmpNo X hx 22 (hb hby D23_19) rfl (by decide) ?_
            refine giloadN (v := (-(Int32.ofNat nv))) X hx 23 (hb hby D23_22) rfl rfl ?_
            refine giloadN (v := (-1000000 : Int32)) X hx 24 (hb hby D23_23) rfl rfl ?_
            rcases Nat.lt_or_ge nv 1000000 with k6 | k6
            · refine gicmpNo X hx 27 (hb hby D23_24) rfl (tlt (own_ngt 1000000 (by decide) hnv k6)).2.2.2 ?_
              refine giloadN (v := (6 : Int32)) X hx 28 (hb hby D23_27) rfl rfl ?_
              refine giloadN (v := (0 : Int32)) X hx 29 (hb hby D23_28) rfl rfl ?_
              refine giadd X hx 30 (hb hby D23_29) rfl ?_
              rw [show ((6 : Int32) + (0 : Int32)) = (6 : Int32) from by decide]
              exact gRetP X hx hlk hret rfl (Or.inl ⟨rfl, by simp, _, rfl⟩) (hb hby D23_30) eT (by decide) (by decide) ⟨(congrArg (fun z => some (Value.int (Int32.ofNat z))) (own_len6 k5 k6).symm), N, rfl⟩
            · refine gicmpYes X hx 31 (hb hby D23_24) (flt (own_nle 1000000 (by decide) hnv k6)).2.2.2 (by decide) (by decide) ?_
              refine gbipush X hx (10 : Int32) 33 (hb hby D23_31) rfl rfl ?_
              refine giloadN (v := (-1000000 : Int32)) X hx 34 (hb hby D23_33) rfl rfl ?_
              refine gimul X hx 35 (hb hby D23_34) rfl ?_
              rw [show ((10 : Int32) * (-1000000 : Int32)) = (-10000000 : Int32) from by decide]
              refine gistoreN X hx #[.val (.int (-(Int32.ofNat nv))), .val (.int 0), .val (.int (-10000000 : Int32)), .val (.int 6)] 36 (hb hby D23_35) rfl rfl ?_
              refine giinc X hx #[.val (.int (-(Int32.ofNat nv))), .val (.int 0), .val (.int (-10000000 : Int32)), .val (.int 7)] 39 (hb hby D23_36) rfl rfl rfl ?_
              refine ggoto X hx 16 (hb hby D23_39) (by decide) (by decide) ?_
              refine giloadN (v := (7 : Int32)) X hx 17 (hb hby D23_16) rfl rfl ?_
              refine gbipush X hx (10 : Int32) 19 (hb hby D23_17) rfl rfl ?_
              refine gicmpNo X hx 22 (hb hby D23_19) rfl (by decide) ?_
              refine giloadN (v := (-(Int32.ofNat nv))) X hx 23 (hb hby D23_22) rfl rfl ?_
              refine giloadN (v := (-10000000 : Int32)) X hx 24 (hb hby D23_23) rfl rfl ?_
              rcases Nat.lt_or_ge nv 10000000 with k7 | k7
              · refine gicmpNo X hx 27 (hb hby D23_24) rfl (tlt (own_ngt 10000000 (by decide) hnv k7)).2.2.2 ?_
                refine giloadN (v := (7 : Int32)) X hx 28 (hb hby D23_27) rfl rfl ?_
                refine giloadN (v := (0 : Int32)) X hx 29 (hb hby D23_28) rfl rfl ?_
                refine giadd X hx 30 (hb hby D23_29) rfl ?_
                rw [show ((7 : Int32) + (0 : Int32)) = (7 : Int32) from by decide]
                exact gRetP X hx hlk hret rfl (Or.inl ⟨rfl, by simp, _, rfl⟩) (hb hby D23_30) eT (by decide) (by decide) ⟨(congrArg (fun z => some (Value.int (Int32.ofNat z))) (own_len7 k6 k7).symm), N, rfl⟩
              · refine gicmpYes X hx 31 (hb hby D23_24) (flt (own_nle 10000000 (by decide) hnv k7)).2.2.2 (by decide) (by decide) ?_
                refine gbipush X hx (10 : Int32) 33 (hb hby D23_31) rfl rfl ?_
                refine giloadN (v := (-10000000 : Int32)) X hx 34 (hb hby D23_33) rfl rfl ?_
                refine gimul X hx 35 (hb hby D23_34) rfl ?_
                rw [show ((10 : Int32) * (-10000000 : Int32)) = (-100000000 : Int32) from by decide]
                refine gistoreN X hx #[.val (.int (-(Int32.ofNat nv))), .val (.int 0), .val (.int (-100000000 : Int32)), .val (.int 7)] 36 (hb hby D23_35) rfl rfl ?_
                refine giinc X hx #[.val (.int (-(Int32.ofNat nv))), .val (.int 0), .val (.int (-100000000 : Int32)), .val (.int 8)] 39 (hb hby D23_36) rfl rfl rfl ?_
                refine ggoto X hx 16 (hb hby D23_39) (by decide) (by decide) ?_
                refine giloadN (v := (8 : Int32)) X hx 17 (hb hby D23_16) rfl rfl ?_
                refine gbipush X hx (10 : Int32) 19 (hb hby D23_17) rfl rfl ?_
                refine gicmpNo X hx 22 (hb hby D23_19) rfl (by decide) ?_
                refine giloadN (v := (-(Int32.ofNat nv))) X hx 23 (hb hby D23_22) rfl rfl ?_
                refine giloadN (v := (-100000000 : Int32)) X hx 24 (hb hby D23_23) rfl rfl ?_
                rcases Nat.lt_or_ge nv 100000000 with k8 | k8
                · refine gicmpNo X hx 27 (hb hby D23_24) rfl (tlt (own_ngt 100000000 (by decide) hnv k8)).2.2.2 ?_
                  refine giloadN (v := (8 : Int32)) X hx 28 (hb hby D23_27) rfl rfl ?_
                  refine giloadN (v := (0 : Int32)) X hx 29 (hb hby D23_28) rfl rfl ?_
                  refine giadd X hx 30 (hb hby D23_29) rfl ?_
                  rw [show ((8 : Int32) + (0 : Int32)) = (8 : Int32) from by decide]
                  exact gRetP X hx hlk hret rfl (Or.inl ⟨rfl, by simp, _, rfl⟩) (hb hby D23_30) eT (by decide) (by decide) ⟨(congrArg (fun z => some (Value.int (Int32.ofNat z))) (own_len8 k7 k8).symm), N, rfl⟩
                · refine gicmpYes X hx 31 (hb hby D23_24) (flt (own_nle 100000000 (by decide) hnv k8)).2.2.2 (by decide) (by decide) ?_
                  refine gbipush X hx (10 : Int32) 33 (hb hby D23_31) rfl rfl ?_
                  refine giloadN (v := (-100000000 : Int32)) X hx 34 (hb hby D23_33) rfl rfl ?_
                  refine gimul X hx 35 (hb hby D23_34) rfl ?_
                  rw [show ((10 : Int32) * (-100000000 : Int32)) = (-1000000000 : Int32) from by decide]
                  refine gistoreN X hx #[.val (.int (-(Int32.ofNat nv))), .val (.int 0), .val (.int (-1000000000 : Int32)), .val (.int 8)] 36 (hb hby D23_35) rfl rfl ?_
                  refine giinc X hx #[.val (.int (-(Int32.ofNat nv))), .val (.int 0), .val (.int (-1000000000 : Int32)), .val (.int 9)] 39 (hb hby D23_36) rfl rfl rfl ?_
                  refine ggoto X hx 16 (hb hby D23_39) (by decide) (by decide) ?_
                  refine giloadN (v := (9 : Int32)) X hx 17 (hb hby D23_16) rfl rfl ?_
                  refine gbipush X hx (10 : Int32) 19 (hb hby D23_17) rfl rfl ?_
                  refine gicmpNo X hx 22 (hb hby D23_19) rfl (by decide) ?_
                  refine giloadN (v := (-(Int32.ofNat nv))) X hx 23 (hb hby D23_22) rfl rfl ?_
                  refine giloadN (v := (-1000000000 : Int32)) X hx 24 (hb hby D23_23) rfl rfl ?_
                  rcases Nat.lt_or_ge nv 1000000000 with k9 | k9
                  · refine gicmpNo X hx 27 (hb hby D23_24) rfl (tlt (own_ngt 1000000000 (by decide) hnv k9)).2.2.2 ?_
                    refine giloadN (v := (9 : Int32)) X hx 28 (hb hby D23_27) rfl rfl ?_
                    refine giloadN (v := (0 : Int32)) X hx 29 (hb hby D23_28) rfl rfl ?_
                    refine giadd X hx 30 (hb hby D23_29) rfl ?_
                    rw [show ((9 : Int32) + (0 : Int32)) = (9 : Int32) from by decide]
                    exact gRetP X hx hlk hret rfl (Or.inl ⟨rfl, by simp, _, rfl⟩) (hb hby D23_30) eT (by decide) (by decide) ⟨(congrArg (fun z => some (Value.int (Int32.ofNat z))) (own_len9 k8 k9).symm), N, rfl⟩
                  · refine gicmpYes X hx 31 (hb hby D23_24) (flt (own_nle 1000000000 (by decide) hnv k9)).2.2.2 (by decide) (by decide) ?_
                    refine gbipush X hx (10 : Int32) 33 (hb hby D23_31) rfl rfl ?_
                    refine giloadN (v := (-1000000000 : Int32)) X hx 34 (hb hby D23_33) rfl rfl ?_
                    refine gimul X hx 35 (hb hby D23_34) rfl ?_
                    rw [show ((10 : Int32) * (-1000000000 : Int32)) = (-1410065408 : Int32) from by decide]
                    refine gistoreN X hx #[.val (.int (-(Int32.ofNat nv))), .val (.int 0), .val (.int (-1410065408 : Int32)), .val (.int 9)] 36 (hb hby D23_35) rfl rfl ?_
                    refine giinc X hx #[.val (.int (-(Int32.ofNat nv))), .val (.int 0), .val (.int (-1410065408 : Int32)), .val (.int 10)] 39 (hb hby D23_36) rfl rfl rfl ?_
                    refine ggoto X hx 16 (hb hby D23_39) (by decide) (by decide) ?_
                    refine giloadN (v := (10 : Int32)) X hx 17 (hb hby D23_16) rfl rfl ?_
                    refine gbipush X hx (10 : Int32) 19 (hb hby D23_17) rfl rfl ?_
                    refine gicmpYes X hx 42 (hb hby D23_19) (by decide) (by decide) (by decide) ?_
                    refine gbipush X hx (10 : Int32) 44 (hb hby D23_42) rfl rfl ?_
                    refine giloadN (v := (0 : Int32)) X hx 45 (hb hby D23_44) rfl rfl ?_
                    refine giadd X hx 46 (hb hby D23_45) rfl ?_
                    rw [show ((10 : Int32) + (0 : Int32)) = (10 : Int32) from by decide]
                    exact gRetP X hx hlk hret rfl (Or.inl ⟨rfl, by simp, _, rfl⟩) (hb hby D23_46) eT (by decide) (by decide) ⟨(congrArg (fun z => some (Value.int (Int32.ofNat z))) (own_len10 k9 (Nat.lt_trans hnv (by decide))).symm), N, rfl⟩
theorem rmND (l : Launch) (Z : State) (a0 : Array Value) (hw : HW_ a0 Z) (nv : Nat) (h0 : Heap) (n0 : Nat) (Z0 : n0 ≤ h0.size) (hnv : nv < 2147483648) :
    CtP l Y5 method_4_code 1 (some .int) [] ({ frames := 0, cells := 0, slots := 0, locals := 0 } : Room) Z #[(.int (Int32.ofNat nv))] h0 (fun v h L => v = some (.int (Int32.ofNat (own_dg nv).length)) ∧ Fr n0 L ∧ h = h0) := by
  refine CtP.walk (Ls := #[.val (.int (Int32.ofNat nv))]) (plainFor_of_name own_pn12) (fun m => by first | (simp [entryFrame, mkF, argsToLocals, Value.category]; done) | rfl) ?_
  intro p e s m below meth cc_ T hx hby hml hown hnm hret hlk hZ X eT
  have N := Fr.nil n0
  have sz_h : h0.size ≤ h0.size := Nat.le_refl _
  refine giloadN (v := (Int32.ofNat nv)) X hx 1 (hb hby D36_0) rfl rfl ?_
  refine gbipush X hx (10 : Int32) 3 (hb hby D36_1) rfl rfl ?_
  rcases Nat.lt_or_ge nv 10 with k1 | k1
  · refine gicmpNo X hx 6 (hb hby D36_3) rfl (tlt (own_plt 10 (by decide) k1)).2.1 ?_
    refine giconst X hx (1 : Int32) 7 (hb hby D36_6) rfl rfl ?_
    exact gRetP X hx hlk hret rfl (Or.inl ⟨rfl, by simp, _, rfl⟩) (hb hby D36_7) eT (by decide) (by decide) ⟨(congrArg (fun z => some (Value.int (Int32.ofNat z))) (own_len1 k1).symm), N, rfl⟩
  · refine gicmpYes X hx 8 (hb hby D36_3) (flt (own_pge 10 hnv k1)).2.1 (by decide) (by decide) ?_
    refine giloadN (v := (Int32.ofNat nv)) X hx 9 (hb hby D36_8) rfl rfl ?_
    refine gbipush X hx (100 : Int32) 11 (hb hby D36_9) rfl rfl ?_
    rcases Nat.lt_or_ge nv 100 with k2 | k2
    · refine gicmpNo X hx 14 (hb hby D36_11) rfl (tlt (own_plt 100 (by decide) k2)).2.1 ?_
      refine giconst X hx (2 : Int32) 15 (hb hby D36_14) rfl rfl ?_
      exact gRetP X hx hlk hret rfl (Or.inl ⟨rfl, by simp, _, rfl⟩) (hb hby D36_15) eT (by decide) (by decide) ⟨(congrArg (fun z => some (Value.int (Int32.ofNat z))) (own_len2 k1 k2).symm), N, rfl⟩
    · refine gicmpYes X hx 16 (hb hby D36_11) (flt (own_pge 100 hnv k2)).2.1 (by decide) (by decide) ?_
      refine giloadN (v := (Int32.ofNat nv)) X hx 17 (hb hby D36_16) rfl rfl ?_
      refine gsipush X hx (1000 : Int32) 20 (hb hby D36_17) rfl rfl ?_
      rcases Nat.lt_or_ge nv 1000 with k3 | k3
      · refine gicmpNo X hx 23 (hb hby D36_20) rfl (tlt (own_plt 1000 (by decide) k3)).2.1 ?_
        refine giconst X hx (3 : Int32) 24 (hb hby D36_23) rfl rfl ?_
        exact gRetP X hx hlk hret rfl (Or.inl ⟨rfl, by simp, _, rfl⟩) (hb hby D36_24) eT (by decide) (by decide) ⟨(congrArg (fun z => some (Value.int (Int32.ofNat z))) (own_len3 k2 k3).symm), N, rfl⟩
      · refine gicmpYes X hx 25 (hb hby D36_20) (flt (own_pge 1000 hnv k3)).2.1 (by decide) (by decide) ?_
        refine giloadN (v := (Int32.ofNat nv)) X hx 26 (hb hby D36_25) rfl rfl ?_
        refine gsipush X hx (10000 : Int32) 29 (hb hby D36_26) rfl rfl ?_
        rcases Nat.lt_or_ge nv 10000 with k4 | k4
        · refine gicmpNo X hx 32 (hb hby D36_29) rfl (tlt (own_plt 10000 (by decide) k4)).2.1 ?_
          refine giconst X hx (4 : Int32) 33 (hb hby D36_32) rfl rfl ?_
          exact gRetP X hx hlk hret rfl (Or.inl ⟨rfl, by simp, _, rfl⟩) (hb hby D36_33) eT (by decide) (by decide) ⟨(congrArg (fun z => some (Value.int (Int32.ofNat z))) (own_len4 k3 k4).symm), N, rfl⟩
        · refine gicmpYes X hx 34 (hb hby D36_29) (flt (own_pge 10000 hnv k4)).2.1 (by decide) (by decide) ?_
          refine giloadN (v := (Int32.ofNat nv)) X hx 35 (hb hby D36_34) rfl rfl ?_
          refine gldcI X hx hZ hown (u289 hw) 37 (hb hby D36_35) rfl ?_
          rcases Nat.lt_or_ge nv 100000 with k5 | k5
          · refine gicmpNo X hx 40 (hb hby D36_37) rfl (tlt (own_plt 100000 (by decide) k5)).2.1 ?_
            refine giconst X hx (5 : Int32) 41 (hb hby D36_40) rfl rfl ?_
            exact gRetP X hx hlk hret rfl (Or.inl ⟨rfl, by simp, _, rfl⟩) (hb hby D36_41) eT (by decide) (by decide) ⟨(congrArg (fun z => some (Value.int (Int32.ofNat z))) (own_len5 k4 k5).symm), N, rfl⟩
          · refine gicmpYes X hx 42 (hb hby D36_37) (flt (own_pge 100000 hnv k5)).2.1 (by decide) (by decide) ?_
            refine giloadN (v := (Int32.ofNat nv)) X hx 43 (hb hby D36_42) rfl rfl ?_
            refine gldcI X hx hZ hown (u290 hw) 45 (hb hby D36_43) rfl ?_
            rcases Nat.lt_or_ge nv 1000000 with k6 | k6
            · refine gicmpNo X hx 48 (hb hby D36_45) rfl (tlt (own_plt 1000000 (by decide) k6)).2.1 ?_
              refine gbipush X hx (6 : Int32) 50 (hb hby D36_48) rfl rfl ?_
              exact gRetP X hx hlk hret rfl (Or.inl ⟨rfl, by simp, _, rfl⟩) (hb hby D36_50) eT (by decide) (by decide) ⟨(congrArg (fun z => some (Value.int (Int32.ofNat z))) (own_len6 k5 k6).symm), N, rfl⟩
            · refine gicmpYes X hx 51 (hb hby D36_45) (flt (own_pge 1000000 hnv k6)).2.1 (by decide) (by decide) ?_
              refine giloadN (v := (Int32.ofNat nv)) X hx 52 (hb hby D36_51) rfl rfl ?_
              refine gldcI X hx hZ hown (u291 hw) 54 (hb hby D36_52) rfl ?_
              rcases Nat.lt_or_ge nv 10000000 with k7 | k7
              · refine gicmpNo X hx 57 (hb hby D36_54) rfl (tlt (own_plt 10000000 (by decide) k7)).2.1 ?_
                refine gbipush X hx (7 : Int32) 59 (hb hby D36_57) rfl rfl ?_
                exact gRetP X hx hlk hret rfl (Or.inl ⟨rfl, by simp, _, rfl⟩) (hb hby D36_59) eT (by decide) (by decide) ⟨(congrArg (fun z => some (Value.int (Int32.ofNat z))) (own_len7 k6 k7).symm), N, rfl⟩
              · refine gicmpYes X hx 60 (hb hby D36_54) (flt (own_pge 10000000 hnv k7)).2.1 (by decide) (by decide) ?_
                refine giloadN (v := (Int32.ofNat nv)) X hx 61 (hb hby D36_60) rfl rfl ?_
                refine gldcI X hx hZ hown (u292 hw) 63 (hb hby D36_61) rfl ?_
                rcases Nat.lt_or_ge nv 100000000 with k8 | k8
                · refine gicmpNo X hx 66 (hb hby D36_63) rfl (tlt (own_plt 100000000 (by decide) k8)).2.1 ?_
                  refine gbipush X hx (8 : Int32) 68 (hb hby D36_66) rfl rfl ?_
                  exact gRetP X hx hlk hret rfl (Or.inl ⟨rfl, by simp, _, rfl⟩) (hb hby D36_68) eT (by decide) (by decide) ⟨(congrArg (fun z => some (Value.int (Int32.ofNat z))) (own_len8 k7 k8).symm), N, rfl⟩
                · refine gicmpYes X hx 69 (hb hby D36_63) (flt (own_pge 100000000 hnv k8)).2.1 (by decide) (by decide) ?_
                  refine giloadN (v := (Int32.ofNat nv)) X hx 70 (hb hby D36_69) rfl rfl ?_
                  refine gldcI X hx hZ hown (u293 hw) 72 (hb hby D36_70) rfl ?_
                  rcases Nat.lt_or_ge nv 1000000000 with k9 | k9
                  · refine gicmpNo X hx 75 (hb hby D36_72) rfl (tlt (own_plt 1000000000 (by decide) k9)).2.1 ?_
                    refine gbipush X hx (9 : Int32) 77 (hb hby D36_75) rfl rfl ?_
                    exact gRetP X hx hlk hret rfl (Or.inl ⟨rfl, by simp, _, rfl⟩) (hb hby D36_77) eT (by decide) (by decide) ⟨(congrArg (fun z => some (Value.int (Int32.ofNat z))) (own_len9 k8 k9).symm), N, rfl⟩
                  · refine gicmpYes X hx 78 (hb hby D36_72) (flt (own_pge 1000000000 hnv k9)).2.1 (by decide) (by decide) ?_
                    refine gbipush X hx (10 : Int32) 80 (hb hby D36_78) rfl rfl ?_
                    exact gRetP X hx hlk hret rfl (Or.inl ⟨rfl, by simp, _, rfl⟩) (hb hby D36_80) eT (by decide) (by decide) ⟨(congrArg (fun z => some (Value.int (Int32.ofNat z))) (own_len10 k9 (Nat.lt_trans hnv (by decide))).symm), N, rfl⟩
theorem rmGC (l : Launch) (Z : State) (a0 : Array Value) (hw : HW_ a0 Z) (nv : Nat) (va : Addr) (kv : ClassId) (bl : List Int32) (zc : Int32) (d1 : Addr) (d2 : Addr) (k1 : ClassId) (k2 : ClassId) (h0 : Heap) (n0 : Nat) (Z0 : n0 ≤ h0.size) (ge_va : n0 ≤ va) (P0_Old : Old Z n0 h0) (P1_Arv : Arv Z h0 va kv .byte zc (bl.map Value.int) (.int 0)) (hnv : nv < 2147483648) (D1 : Sta Z Z.heap "java/lang/Integer" "DigitOnes" "[B" (.ref d1)) (D2 : Sta Z Z.heap "java/lang/Integer" "DigitTens" "[B" (.ref d2)) (T1 : Arv Z Z.heap d1 k1 .byte (100 : Int32) own_ones (.int 0)) (T2 : Arv Z Z.heap d2 k2 .byte (100 : Int32) own_tens (.int 0)) (hln : bl.length + (own_dg nv).length ≤ zc.toNatClampNeg) (hcp : zc.toNatClampNeg < 1000) :
    CtP l Y18 jdk_33_method_12_code 7 (some .int) [] ({ frames := 0, cells := 0, slots := 0, locals := 0 } : Room) Z #[(.int (Int32.ofNat nv)), (.int (Int32.ofNat (bl.length + (own_dg nv).length))), (.ref va)] h0 (fun v h L => v = some (.int (Int32.ofNat (bl.length + 0))) ∧ Fr n0 L ∧ Keep h0 h [va] ∧ Arv Z h va kv .byte zc ((bl ++ own_dg nv).map Value.int) (.int 0)) := by
  refine CtP.walk (Ls := #[.val (.int (Int32.ofNat nv)), .val (.int (Int32.ofNat (bl.length + (own_dg nv).length))), .val (.ref va), .unset, .unset, .unset, .unset]) own_pn13 (fun m => by first | (simp [entryFrame, mkF, argsToLocals, Value.category]; done) | rfl) ?_
  intro p e s m below meth cc_ T hx hby hml hown hnm hret hlk hZ X eT
  have N := Fr.nil n0
  have K0 := Keep.refl h0 [va]
  have sz_h : h0.size ≤ h0.size := Nat.le_refl _
  refine giloadN (v := (Int32.ofNat (bl.length + (own_dg nv).length))) X hx 1 (hb hby D25_0) rfl rfl ?_
  refine gistore X hx #[.val (.int (Int32.ofNat nv)), .val (.int (Int32.ofNat (bl.length + (own_dg nv).length))), .val (.ref va), .unset, .unset, .val (.int (Int32.ofNat (bl.length + (own_dg nv).length))), .unset] 3 (hb hby D25_1) rfl rfl ?_
  refine giloadN (v := (Int32.ofNat nv)) X hx 4 (hb hby D25_3) rfl rfl ?_
  refine gifYes X hx 11 (hb hby D25_4) ((if0 _ _).trans (flt (of_nat_nneg hnv)).2.1) (by decide) (by decide) ?_
  refine giconst X hx (0 : Int32) 12 (hb hby D25_11) rfl rfl ?_
  refine gistore X hx #[.val (.int (Int32.ofNat nv)), .val (.int (Int32.ofNat (bl.length + (own_dg nv).length))), .val (.ref va), .unset, .unset, .val (.int (Int32.ofNat (bl.length + (own_dg nv).length))), .val (.int 0)] 14 (hb hby D25_12) rfl rfl ?_
  refine giload (v := (0 : Int32)) X hx 16 (hb hby D25_14) rfl rfl ?_
  refine gifNo X hx 19 (hb hby D25_16) rfl (by decide) ?_
  refine giloadN (v := (Int32.ofNat nv)) X hx 20 (hb hby D25_19) rfl rfl ?_
  refine gineg X hx 21 (hb hby D25_20) rfl ?_
  refine gistoreN X hx #[.val (.int (-(Int32.ofNat nv))), .val (.int (Int32.ofNat (bl.length + (own_dg nv).length))), .val (.ref va), .unset, .unset, .val (.int (Int32.ofNat (bl.length + (own_dg nv).length))), .val (.int 0)] 22 (hb hby D25_21) rfl rfl ?_
  replace P1_Arv : Arv Z h0 va kv .byte zc (bl.map Value.int ++ (List.replicate (own_dg nv).length (Value.int 0) ++ (([] : List Int32).map Value.int))) (.int 0) := P1_Arv.pad (fun i => by rw [List.map_nil, List.append_nil]; exact pad_rep _ _ _ i)
  refine own_two (A := ∀ (fu NN : Nat) (sf : List Int32) (a3 a4 ix : Int32) (h : Heap) (L : List Loc) (T : State), NN < fu → NN < 2147483648 → own_dg nv = own_dg NN ++ sf → Stand p l e ({ frames := 0, cells := 0, slots := 0, locals := 0 } : Room) s m #[(.int (Int32.ofNat nv)), (.int (Int32.ofNat (bl.length + (own_dg nv).length))), (.ref va)] below meth cc_ T L 0 0 → T.heap = h → Fr n0 L → Keep h0 h [va] → h0.size ≤ h.size → Old Z n0 h → Arv Z h va kv .byte zc (bl.map Value.int ++ (List.replicate (own_dg NN).length (Value.int 0) ++ (sf.map Value.int))) (.int 0) → Go p e below (PP s (fun v h L => v = some (.int (Int32.ofNat (bl.length + 0))) ∧ Fr n0 L ∧ Keep h0 h [va] ∧ Arv Z h va kv .byte zc ((bl ++ own_dg nv).map Value.int) (.int 0)) 0 0) T (mkF m 22 #[.val (.int (-(Int32.ofNat NN))), .val (.int ix), .val (.ref va), .val (.int a3), .val (.int a4), .val (.int (Int32.ofNat (bl.length + (own_dg NN).length))), .val (.int 0)] [])) ?_ ?_
  · clear X eT N K0 sz_h P0_Old P1_Arv; clear T; intro fu; induction fu
    · intro NN sf a3 a4 ix h L T hf hN0 hsf X eT N K0 sz_h P0_Old P1_Arv
      exact absurd hf (Nat.not_lt_zero _)
    · rename_i fu ih
      intro NN sf a3 a4 ix h L T hf hN0 hsf X eT N K0 sz_h P0_Old P1_Arv
      have hls : (own_dg nv).length = (own_dg NN).length + sf.length := by rw [hsf, List.length_append]
      rcases Nat.lt_or_ge NN 100 with g9_ | g9_
      · refine giloadN (v := (-(Int32.ofNat NN))) X hx 23 (hb hby D25_22) rfl rfl ?_
        refine gbipush X hx (-100 : Int32) 25 (hb hby D25_23) rfl rfl ?_
        refine gicmpYes X hx 72 (hb hby D25_25) (tlt (own_ngt 100 (by decide) hN0 g9_)).2.2.1 (by decide) (by decide) ?_
        rcases Nat.lt_or_ge NN 10 with g8_ | g8_
        · have e9 := own_len1 g8_
          rw [e9] at P1_Arv ⊢
          show Go p e below _ T (mkF m 72 _ [])
          replace P1_Arv : Arv Z h va kv .byte zc (bl.map Value.int ++ (List.replicate (0 + 1) (Value.int 0) ++ (sf.map Value.int))) (.int 0) := P1_Arv
          refine galoadN (v := (.ref va)) X hx 73 (hb hby D25_72) rfl rfl rfl ?_
          refine giinc X hx #[.val (.int (-(Int32.ofNat NN))), .val (.int ix), .val (.ref va), .val (.int a3), .val (.int a4), .val (.int ((Int32.ofNat (bl.length + (0 + 1))) + (-1 : Int32))), .val (.int 0)] 76 (hb hby D25_73) rfl rfl rfl ?_
          rw [show Int32.ofNat (bl.length + (0 + 1)) + (-1 : Int32) = Int32.ofNat (bl.length + 0) from own_dec _ _]
          show Go p e below _ T (mkF m 76 _ [(.ref va)])
          refine giload (v := (Int32.ofNat (bl.length + 0))) X hx 78 (hb hby D25_76) rfl rfl ?_
          refine ggetS X hx hZ (host := "") hown (Or.inl (u158 hw)) Via.refl eT (D1.ext P0_Old.2) 81 (hb hby D25_78) rfl ?_
          clear X eT; clear T; intro T X eT
          refine giloadN (v := (-(Int32.ofNat NN))) X hx 82 (hb hby D25_81) rfl rfl ?_
          refine gineg X hx 83 (hb hby D25_82) rfl ?_
          rw [own_nnn]
          show Go p e below _ T (mkF m 83 _ [(.int (Int32.ofNat NN)), (.ref d1), (.int (Int32.ofNat (bl.length + 0))), (.ref va)])
          refine gbaload X hx hZ eT (T1.ext P0_Old.2) (.int (Int32.ofNat (48 + NN % 10))) (of_nat_nneg (by omega)) (own_plt 100 (by decide) g9_) (own_tab g9_) 84 (hb hby D25_83) rfl ?_
          refine gbastore X hx hZ eT P1_Arv (of_nat_nneg (by omega)) (own_ltz (by omega)) (bl.length + 0) (of_nat_clamp (by omega)) (by simp only [List.length_append, List.length_map, List.length_replicate, List.length_cons]; omega) N ge_va 85 (hb hby D25_84) rfl ?_
          clear X eT N; clear T; intro T h2 L X eT N W1 V3
          replace P0_Old := P0_Old.wr W1 ge_va
          replace K0 := K0.wr W1 (Or.inl (List.mem_of_getElem? (i := 0) rfl))
          replace sz_h : h0.size ≤ h2.size := by rw [Wr.size W1]; exact sz_h
          rw [own_narD (by omega), own_setZ] at V3
          refine giloadN (v := (-(Int32.ofNat NN))) X hx 86 (hb hby D25_85) rfl rfl ?_
          refine gbipush X hx (-9 : Int32) 88 (hb hby D25_86) rfl rfl ?_
          refine gicmpYes X hx 104 (hb hby D25_88) (flt (own_nle' (k := 9) (by decide) hN0 (by omega))).2.1 (by decide) (by decide) ?_
          refine giload (v := (0 : Int32)) X hx 106 (hb hby D25_104) rfl rfl ?_
          refine gifYes X hx 118 (hb hby D25_106) (by decide) (by decide) (by decide) ?_
          refine giload (v := (Int32.ofNat (bl.length + 0))) X hx 120 (hb hby D25_118) rfl rfl ?_
          replace V3 : Arv Z h2 va kv .byte zc ((bl ++ own_dg nv).map Value.int) (.int 0) := by rw [hsf, own_dg1 g8_, List.map_append]; exact V3
          exact gRetP X hx hlk hret rfl (Or.inl ⟨rfl, by simp, _, rfl⟩) (hb hby D25_120) eT (by decide) (by decide) ⟨rfl, N, K0, V3⟩
        · have e9 := own_len2 g8_ g9_
          rw [e9] at P1_Arv ⊢
          show Go p e below _ T (mkF m 72 _ [])
          replace P1_Arv : Arv Z h va kv .byte zc (bl.map Value.int ++ (List.replicate (1 + 1) (Value.int 0) ++ (sf.map Value.int))) (.int 0) := P1_Arv
          refine galoadN (v := (.ref va)) X hx 73 (hb hby D25_72) rfl rfl rfl ?_
          refine giinc X hx #[.val (.int (-(Int32.ofNat NN))), .val (.int ix), .val (.ref va), .val (.int a3), .val (.int a4), .val (.int ((Int32.ofNat (bl.length + (1 + 1))) + (-1 : Int32))), .val (.int 0)] 76 (hb hby D25_73) rfl rfl rfl ?_
          rw [show Int32.ofNat (bl.length + (1 + 1)) + (-1 : Int32) = Int32.ofNat (bl.length + 1) from own_dec _ _]
          show Go p e below _ T (mkF m 76 _ [(.ref va)])
          refine giload (v := (Int32.ofNat (bl.length + 1))) X hx 78 (hb hby D25_76) rfl rfl ?_
          refine ggetS X hx hZ (host := "") hown (Or.inl (u158 hw)) Via.refl eT (D1.ext P0_Old.2) 81 (hb hby D25_78) rfl ?_
          clear X eT; clear T; intro T X eT
          refine giloadN (v := (-(Int32.ofNat NN))) X hx 82 (hb hby D25_81) rfl rfl ?_
          refine gineg X hx 83 (hb hby D25_82) rfl ?_
          rw [own_nnn]
          show Go p e below _ T (mkF m 83 _ [(.int (Int32.ofNat NN)), (.ref d1), (.int (Int32.ofNat (bl.length + 1))), (.ref va)])
          refine gbaload X hx hZ eT (T1.ext P0_Old.2) (.int (Int32.ofNat (48 + NN % 10))) (of_nat_nneg (by omega)) (own_plt 100 (by decide) g9_) (own_tab g9_) 84 (hb hby D25_83) rfl ?_
          refine gbastore X hx hZ eT P1_Arv (of_nat_nneg (by omega)) (own_ltz (by omega)) (bl.length + 1) (of_nat_clamp (by omega)) (by simp only [List.length_append, List.length_map, List.length_replicate, List.length_cons]; omega) N ge_va 85 (hb hby D25_84) rfl ?_
          clear X eT N; clear T; intro T h5 L X eT N W4 V6
          replace P0_Old := P0_Old.wr W4 ge_va
          replace K0 := K0.wr W4 (Or.inl (List.mem_of_getElem? (i := 0) rfl))
          replace sz_h : h0.size ≤ h5.size := by rw [Wr.size W4]; exact sz_h
          rw [own_narD (by omega), own_setZ] at V6
          refine giloadN (v := (-(Int32.ofNat NN))) X hx 86 (hb hby D25_85) rfl rfl ?_
          refine gbipush X hx (-9 : Int32) 88 (hb hby D25_86) rfl rfl ?_
          rw [show Int32.ofNat (bl.length + 1) = Int32.ofNat (bl.length + (0 + 1)) from rfl]
          replace V6 : Arv Z h5 va kv .byte zc (bl.map Value.int ++ (List.replicate (0 + 1) (Value.int 0) ++ ((.int (Int32.ofNat (48 + NN % 10)) : Value) :: (sf.map Value.int)))) (.int 0) := V6
          show Go p e below _ T (mkF m 88 _ [(.int (-9 : Int32)), (.int (-(Int32.ofNat NN)))])
          refine gicmpNo X hx 91 (hb hby D25_88) rfl (tlt (own_ngt' (k := 9) (by decide) hN0 (by omega))).2.1 ?_
          refine galoadN (v := (.ref va)) X hx 92 (hb hby D25_91) rfl rfl rfl ?_
          refine giinc X hx #[.val (.int (-(Int32.ofNat NN))), .val (.int ix), .val (.ref va), .val (.int a3), .val (.int a4), .val (.int ((Int32.ofNat (bl.length + (0 + 1))) + (-1 : Int32))), .val (.int 0)] 95 (hb hby D25_92) rfl rfl rfl ?_
          rw [show Int32.ofNat (bl.length + (0 + 1)) + (-1 : Int32) = Int32.ofNat (bl.length + 0) from own_dec _ _]
          show Go p e below _ T (mkF m 95 _ [(.ref va)])
          refine giload (v := (Int32.ofNat (bl.length + 0))) X hx 97 (hb hby D25_95) rfl rfl ?_
          refine ggetS X hx hZ (host := "") hown (Or.inl (u251 hw)) Via.refl eT (D2.ext P0_Old.2) 100 (hb hby D25_97) rfl ?_
          clear X eT; clear T; intro T X eT
          refine giloadN (v := (-(Int32.ofNat NN))) X hx 101 (hb hby D25_100) rfl rfl ?_
          refine gineg X hx 102 (hb hby D25_101) rfl ?_
          rw [own_nnn]
          show Go p e below _ T (mkF m 102 _ [(.int (Int32.ofNat NN)), (.ref d2), (.int (Int32.ofNat (bl.length + 0))), (.ref va)])
          refine gbaload X hx hZ eT (T2.ext P0_Old.2) (.int (Int32.ofNat (48 + NN / 10))) (of_nat_nneg (by omega)) (own_plt 100 (by decide) g9_) (own_tab g9_) 103 (hb hby D25_102) rfl ?_
          refine gbastore X hx hZ eT V6 (of_nat_nneg (by omega)) (own_ltz (by omega)) (bl.length + 0) (of_nat_clamp (by omega)) (by simp only [List.length_append, List.length_map, List.length_replicate, List.length_cons]; omega) N ge_va 104 (hb hby D25_103) rfl ?_
          clear X eT N; clear T; intro T h8 L X eT N W7 V9
          replace P0_Old := P0_Old.wr W7 ge_va
          replace K0 := K0.wr W7 (Or.inl (List.mem_of_getElem? (i := 0) rfl))
          replace sz_h : h0.size ≤ h8.size := by rw [Wr.size W7]; exact sz_h
          rw [own_narD (by omega), own_setZ] at V9
          refine giload (v := (0 : Int32)) X hx 106 (hb hby D25_104) rfl rfl ?_
          refine gifYes X hx 118 (hb hby D25_106) (by decide) (by decide) (by decide) ?_
          refine giload (v := (Int32.ofNat (bl.length + 0))) X hx 120 (hb hby D25_118) rfl rfl ?_
          replace V9 : Arv Z h8 va kv .byte zc ((bl ++ own_dg nv).map Value.int) (.int 0) := by rw [hsf, own_dg2 g8_ g9_, List.map_append]; exact V9
          exact gRetP X hx hlk hret rfl (Or.inl ⟨rfl, by simp, _, rfl⟩) (hb hby D25_120) eT (by decide) (by decide) ⟨rfl, N, K0, V9⟩
      · refine giloadN (v := (-(Int32.ofNat NN))) X hx 23 (hb hby D25_22) rfl rfl ?_
        refine gbipush X hx (-100 : Int32) 25 (hb hby D25_23) rfl rfl ?_
        refine gicmpNo X hx 28 (hb hby D25_25) rfl (flt (own_nle 100 (by decide) hN0 g9_)).2.2.1 ?_
        have hk9 : (own_dg NN).length = (own_dg (NN / 100)).length + 1 + 1 := by rw [own_dg100 g9_, List.length_append]; rfl
        rw [hk9] at P1_Arv ⊢
        show Go p e below _ T (mkF m 28 _ [])
        refine giloadN (v := (-(Int32.ofNat NN))) X hx 29 (hb hby D25_28) rfl rfl ?_
        refine gbipush X hx (100 : Int32) 31 (hb hby D25_29) rfl rfl ?_
        refine gidiv X hx 32 (hb hby D25_31) rfl (by decide) ?_
        rw [own_ndiv hN0]
        show Go p e below _ T (mkF m 32 _ [(.int (-(Int32.ofNat (NN / 100))))])
        refine gistoreN X hx #[.val (.int (-(Int32.ofNat NN))), .val (.int ix), .val (.ref va), .val (.int (-(Int32.ofNat (NN / 100)))), .val (.int a4), .val (.int (Int32.ofNat (bl.length + ((own_dg (NN / 100)).length + 1 + 1)))), .val (.int 0)] 33 (hb hby D25_32) rfl rfl ?_
        refine giloadN (v := (-(Int32.ofNat (NN / 100)))) X hx 34 (hb hby D25_33) rfl rfl ?_
        refine gbipush X hx (100 : Int32) 36 (hb hby D25_34) rfl rfl ?_
        refine gimul X hx 37 (hb hby D25_36) rfl ?_
        refine giloadN (v := (-(Int32.ofNat NN))) X hx 38 (hb hby D25_37) rfl rfl ?_
        refine gisub X hx 39 (hb hby D25_38) rfl ?_
        rw [own_nrem hN0]
        show Go p e below _ T (mkF m 39 _ [(.int (Int32.ofNat (NN % 100)))])
        refine gistore X hx #[.val (.int (-(Int32.ofNat NN))), .val (.int ix), .val (.ref va), .val (.int (-(Int32.ofNat (NN / 100)))), .val (.int (Int32.ofNat (NN % 100))), .val (.int (Int32.ofNat (bl.length + ((own_dg (NN / 100)).length + 1 + 1)))), .val (.int 0)] 41 (hb hby D25_39) rfl rfl ?_
        refine giloadN (v := (-(Int32.ofNat (NN / 100)))) X hx 42 (hb hby D25_41) rfl rfl ?_
        refine gistoreN X hx #[.val (.int (-(Int32.ofNat (NN / 100)))), .val (.int ix), .val (.ref va), .val (.int (-(Int32.ofNat (NN / 100)))), .val (.int (Int32.ofNat (NN % 100))), .val (.int (Int32.ofNat (bl.length + ((own_dg (NN / 100)).length + 1 + 1)))), .val (.int 0)] 43 (hb hby D25_42) rfl rfl ?_
        refine galoadN (v := (.ref va)) X hx 44 (hb hby D25_43) rfl rfl rfl ?_
        refine giinc X hx #[.val (.int (-(Int32.ofNat (NN / 100)))), .val (.int ix), .val (.ref va), .val (.int (-(Int32.ofNat (NN / 100)))), .val (.int (Int32.ofNat (NN % 100))), .val (.int ((Int32.ofNat (bl.length + ((own_dg (NN / 100)).length + 1 + 1))) + (-1 : Int32))), .val (.int 0)] 47 (hb hby D25_44) rfl rfl rfl ?_
        rw [show Int32.ofNat (bl.length + (((own_dg (NN / 100)).length + 1) + 1)) + (-1 : Int32) = Int32.ofNat (bl.length + ((own_dg (NN / 100)).length + 1)) from own_dec _ _]
        show Go p e below _ T (mkF m 47 _ [(.ref va)])
        refine giload (v := (Int32.ofNat (bl.length + ((own_dg (NN / 100)).length + 1)))) X hx 49 (hb hby D25_47) rfl rfl ?_
        refine ggetS X hx hZ (host := "") hown (Or.inl (u158 hw)) Via.refl eT (D1.ext P0_Old.2) 52 (hb hby D25_49) rfl ?_
        clear X eT; clear T; intro T X eT
        refine giload (v := (Int32.ofNat (NN % 100))) X hx 54 (hb hby D25_52) rfl rfl ?_
        refine gbaload X hx hZ eT (T1.ext P0_Old.2) (.int (Int32.ofNat (48 + NN % 100 % 10))) (of_nat_nneg (by omega)) (own_plt 100 (by decide) (Nat.mod_lt _ (by decide))) (own_tab (Nat.mod_lt _ (by decide))) 55 (hb hby D25_54) rfl ?_
        refine gbastore X hx hZ eT P1_Arv (of_nat_nneg (by omega)) (own_ltz (by omega)) (bl.length + ((own_dg (NN / 100)).length + 1)) (of_nat_clamp (by omega)) (by simp only [List.length_append, List.length_map, List.length_replicate, List.length_cons]; omega) N ge_va 56 (hb hby D25_55) rfl ?_
        clear X eT N; clear T; intro T h11 L X eT N W10 V12
        replace P0_Old := P0_Old.wr W10 ge_va
        replace K0 := K0.wr W10 (Or.inl (List.mem_of_getElem? (i := 0) rfl))
        replace sz_h : h0.size ≤ h11.size := by rw [Wr.size W10]; exact sz_h
        rw [own_narD (by omega), own_setZ] at V12
        refine galoadN (v := (.ref va)) X hx 57 (hb hby D25_56) rfl rfl rfl ?_
        refine giinc X hx #[.val (.int (-(Int32.ofNat (NN / 100)))), .val (.int ix), .val (.ref va), .val (.int (-(Int32.ofNat (NN / 100)))), .val (.int (Int32.ofNat (NN % 100))), .val (.int ((Int32.ofNat (bl.length + ((own_dg (NN / 100)).length + 1))) + (-1 : Int32))), .val (.int 0)] 60 (hb hby D25_57) rfl rfl rfl ?_
        rw [show Int32.ofNat (bl.length + ((own_dg (NN / 100)).length + 1)) + (-1 : Int32) = Int32.ofNat (bl.length + (own_dg (NN / 100)).length) from own_dec _ _]
        show Go p e below _ T (mkF m 60 _ [(.ref va)])
        refine giload (v := (Int32.ofNat (bl.length + (own_dg (NN / 100)).length))) X hx 62 (hb hby D25_60) rfl rfl ?_
        refine ggetS X hx hZ (host := "") hown (Or.inl (u251 hw)) Via.refl eT (D2.ext P0_Old.2) 65 (hb hby D25_62) rfl ?_
        clear X eT; clear T; intro T X eT
        refine giload (v := (Int32.ofNat (NN % 100))) X hx 67 (hb hby D25_65) rfl rfl ?_
        refine gbaload X hx hZ eT (T2.ext P0_Old.2) (.int (Int32.ofNat (48 + NN % 100 / 10))) (of_nat_nneg (by omega)) (own_plt 100 (by decide) (Nat.mod_lt _ (by decide))) (own_tab (Nat.mod_lt _ (by decide))) 68 (hb hby D25_67) rfl ?_
        refine gbastore X hx hZ eT V12 (of_nat_nneg (by omega)) (own_ltz (by omega)) (bl.length + (own_dg (NN / 100)).length) (of_nat_clamp (by omega)) (by simp only [List.length_append, List.length_map, List.length_replicate, List.length_cons]; omega) N ge_va 69 (hb hby D25_68) rfl ?_
        clear X eT N; clear T; intro T h14 L X eT N W13 V15
        replace P0_Old := P0_Old.wr W13 ge_va
        replace K0 := K0.wr W13 (Or.inl (List.mem_of_getElem? (i := 0) rfl))
        replace sz_h : h0.size ≤ h14.size := by rw [Wr.size W13]; exact sz_h
        rw [own_narD (by omega), own_setZ] at V15
        refine ggoto X hx 22 (hb hby D25_69) (by decide) (by decide) ?_
        exact ih (NN / 100) (Int32.ofNat (48 + NN % 100 / 10) :: Int32.ofNat (48 + NN % 100 % 10) :: sf) _ _ _ _ _ T (by omega) (by omega) (by rw [hsf, own_dg100 g9_, List.append_assoc]; rfl) X eT N K0 sz_h P0_Old V15
  · intro main
    rcases Nat.lt_or_ge nv 100 with g9_ | g9_
    · refine giloadN (v := (-(Int32.ofNat nv))) X hx 23 (hb hby D25_22) rfl rfl ?_
      refine gbipush X hx (-100 : Int32) 25 (hb hby D25_23) rfl rfl ?_
      refine gicmpYes X hx 72 (hb hby D25_25) (tlt (own_ngt 100 (by decide) hnv g9_)).2.2.1 (by decide) (by decide) ?_
      rcases Nat.lt_or_ge nv 10 with g8_ | g8_
      · have e9 := own_len1 g8_
        rw [e9] at P1_Arv ⊢
        show Go p e below _ T (mkF m 72 _ [])
        replace P1_Arv : Arv Z h0 va kv .byte zc (bl.map Value.int ++ (List.replicate (0 + 1) (Value.int 0) ++ (([] : List Int32).map Value.int))) (.int 0) := P1_Arv
        refine galoadN (v := (.ref va)) X hx 73 (hb hby D25_72) rfl rfl rfl ?_
        refine giinc X hx #[.val (.int (-(Int32.ofNat nv))), .val (.int (Int32.ofNat (bl.length + (0 + 1)))), .val (.ref va), .unset, .unset, .val (.int ((Int32.ofNat (bl.length + (0 + 1))) + (-1 : Int32))), .val (.int 0)] 76 (hb hby D25_73) rfl rfl rfl ?_
        rw [show Int32.ofNat (bl.length + (0 + 1)) + (-1 : Int32) = Int32.ofNat (bl.length + 0) from own_dec _ _]
        show Go p e below _ T (mkF m 76 _ [(.ref va)])
        refine giload (v := (Int32.ofNat (bl.length + 0))) X hx 78 (hb hby D25_76) rfl rfl ?_
        refine ggetS X hx hZ (host := "") hown (Or.inl (u158 hw)) Via.refl eT (D1.ext P0_Old.2) 81 (hb hby D25_78) rfl ?_
        clear X eT; clear T; intro T X eT
        refine giloadN (v := (-(Int32.ofNat nv))) X hx 82 (hb hby D25_81) rfl rfl ?_
        refine gineg X hx 83 (hb hby D25_82) rfl ?_
        rw [own_nnn]
        show Go p e below _ T (mkF m 83 _ [(.int (Int32.ofNat nv)), (.ref d1), (.int (Int32.ofNat (bl.length + 0))), (.ref va)])
        refine gbaload X hx hZ eT (T1.ext P0_Old.2) (.int (Int32.ofNat (48 + nv % 10))) (of_nat_nneg (by omega)) (own_plt 100 (by decide) g9_) (own_tab g9_) 84 (hb hby D25_83) rfl ?_
        refine gbastore X hx hZ eT P1_Arv (of_nat_nneg (by omega)) (own_ltz (by omega)) (bl.length + 0) (of_nat_clamp (by omega)) (by simp only [List.length_append, List.length_map, List.length_replicate, List.length_cons]; omega) N ge_va 85 (hb hby D25_84) rfl ?_
        clear X eT N; clear T; intro T h17 L X eT N W16 V18
        replace P0_Old := P0_Old.wr W16 ge_va
        replace K0 := K0.wr W16 (Or.inl (List.mem_of_getElem? (i := 0) rfl))
        replace sz_h : h0.size ≤ h17.size := by rw [Wr.size W16]; exact sz_h
        rw [own_narD (by omega), own_setZ] at V18
        refine giloadN (v := (-(Int32.ofNat nv))) X hx 86 (hb hby D25_85) rfl rfl ?_
        refine gbipush X hx (-9 : Int32) 88 (hb hby D25_86) rfl rfl ?_
        refine gicmpYes X hx 104 (hb hby D25_88) (flt (own_nle' (k := 9) (by decide) hnv (by omega))).2.1 (by decide) (by decide) ?_
        refine giload (v := (0 : Int32)) X hx 106 (hb hby D25_104) rfl rfl ?_
        refine gifYes X hx 118 (hb hby D25_106) (by decide) (by decide) (by decide) ?_
        refine giload (v := (Int32.ofNat (bl.length + 0))) X hx 120 (hb hby D25_118) rfl rfl ?_
        replace V18 : Arv Z h17 va kv .byte zc ((bl ++ own_dg nv).map Value.int) (.int 0) := by rw [show own_dg nv = own_dg nv ++ ([] : List Int32) from (List.append_nil _).symm, own_dg1 g8_, List.map_append]; exact V18
        exact gRetP X hx hlk hret rfl (Or.inl ⟨rfl, by simp, _, rfl⟩) (hb hby D25_120) eT (by decide) (by decide) ⟨rfl, N, K0, V18⟩
      · have e9 := own_len2 g8_ g9_
        rw [e9] at P1_Arv ⊢
        show Go p e below _ T (mkF m 72 _ [])
        replace P1_Arv : Arv Z h0 va kv .byte zc (bl.map Value.int ++ (List.replicate (1 + 1) (Value.int 0) ++ (([] : List Int32).map Value.int))) (.int 0) := P1_Arv
        refine galoadN (v := (.ref va)) X hx 73 (hb hby D25_72) rfl rfl rfl ?_
        refine giinc X hx #[.val (.int (-(Int32.ofNat nv))), .val (.int (Int32.ofNat (bl.length + (1 + 1)))), .val (.ref va), .unset, .unset, .val (.int ((Int32.ofNat (bl.length + (1 + 1))) + (-1 : Int32))), .val (.int 0)] 76 (hb hby D25_73) rfl rfl rfl ?_
        rw [show Int32.ofNat (bl.length + (1 + 1)) + (-1 : Int32) = Int32.ofNat (bl.length + 1) from own_dec _ _]
        show Go p e below _ T (mkF m 76 _ [(.ref va)])
        refine giload (v := (Int32.ofNat (bl.length + 1))) X hx 78 (hb hby D25_76) rfl rfl ?_
        refine ggetS X hx hZ (host := "") hown (Or.inl (u158 hw)) Via.refl eT (D1.ext P0_Old.2) 81 (hb hby D25_78) rfl ?_
        clear X eT; clear T; intro T X eT
        refine giloadN (v := (-(Int32.ofNat nv))) X hx 82 (hb hby D25_81) rfl rfl ?_
        refine gineg X hx 83 (hb hby D25_82) rfl ?_
        rw [own_nnn]
        show Go p e below _ T (mkF m 83 _ [(.int (Int32.ofNat nv)), (.ref d1), (.int (Int32.ofNat (bl.length + 1))), (.ref va)])
        refine gbaload X hx hZ eT (T1.ext P0_Old.2) (.int (Int32.ofNat (48 + nv % 10))) (of_nat_nneg (by omega)) (own_plt 100 (by decide) g9_) (own_tab g9_) 84 (hb hby D25_83) rfl ?_
        refine gbastore X hx hZ eT P1_Arv (of_nat_nneg (by omega)) (own_ltz (by omega)) (bl.length + 1) (of_nat_clamp (by omega)) (by simp only [List.length_append, List.length_map, List.length_replicate, List.length_cons]; omega) N ge_va 85 (hb hby D25_84) rfl ?_
        clear X eT N; clear T; intro T h20 L X eT N W19 V21
        replace P0_Old := P0_Old.wr W19 ge_va
        replace K0 := K0.wr W19 (Or.inl (List.mem_of_getElem? (i := 0) rfl))
        replace sz_h : h0.size ≤ h20.size := by rw [Wr.size W19]; exact sz_h
        rw [own_narD (by omega), own_setZ] at V21
        refine giloadN (v := (-(Int32.ofNat nv))) X hx 86 (hb hby D25_85) rfl rfl ?_
        refine gbipush X hx (-9 : Int32) 88 (hb hby D25_86) rfl rfl ?_
        rw [show Int32.ofNat (bl.length + 1) = Int32.ofNat (bl.length + (0 + 1)) from rfl]
        replace V21 : Arv Z h20 va kv .byte zc (bl.map Value.int ++ (List.replicate (0 + 1) (Value.int 0) ++ ((.int (Int32.ofNat (48 + nv % 10)) : Value) :: (([] : List Int32).map Value.int)))) (.int 0) := V21
        show Go p e below _ T (mkF m 88 _ [(.int (-9 : Int32)), (.int (-(Int32.ofNat nv)))])
        refine gicmpNo X hx 91 (hb hby D25_88) rfl (tlt (own_ngt' (k := 9) (by decide) hnv (by omega))).2.1 ?_
        refine galoadN (v := (.ref va)) X hx 92 (hb hby D25_91) rfl rfl rfl ?_
        refine giinc X hx #[.val (.int (-(Int32.ofNat nv))), .val (.int (Int32.ofNat (bl.length + (1 + 1)))), .val (.ref va), .unset, .unset, .val (.int ((Int32.ofNat (bl.length + (0 + 1))) + (-1 : Int32))), .val (.int 0)] 95 (hb hby D25_92) rfl rfl rfl ?_
        rw [show Int32.ofNat (bl.length + (0 + 1)) + (-1 : Int32) = Int32.ofNat (bl.length + 0) from own_dec _ _]
        show Go p e below _ T (mkF m 95 _ [(.ref va)])
        refine giload (v := (Int32.ofNat (bl.length + 0))) X hx 97 (hb hby D25_95) rfl rfl ?_
        refine ggetS X hx hZ (host := "") hown (Or.inl (u251 hw)) Via.refl eT (D2.ext P0_Old.2) 100 (hb hby D25_97) rfl ?_
        clear X eT; clear T; intro T X eT
        refine giloadN (v := (-(Int32.ofNat nv))) X hx 101 (hb hby D25_100) rfl rfl ?_
        refine gineg X hx 102 (hb hby D25_101) rfl ?_
        rw [own_nnn]
        show Go p e below _ T (mkF m 102 _ [(.int (Int32.ofNat nv)), (.ref d2), (.int (Int32.ofNat (bl.length + 0))), (.ref va)])
        refine gbaload X hx hZ eT (T2.ext P0_Old.2) (.int (Int32.ofNat (48 + nv / 10))) (of_nat_nneg (by omega)) (own_plt 100 (by decide) g9_) (own_tab g9_) 103 (hb hby D25_102) rfl ?_
        refine gbastore X hx hZ eT V21 (of_nat_nneg (by omega)) (own_ltz (by omega)) (bl.length + 0) (of_nat_clamp (by omega)) (by simp only [List.length_append, List.length_map, List.length_replicate, List.length_cons]; omega) N ge_va 104 (hb hby D25_103) rfl ?_
        clear X eT N; clear T; intro T h23 L X eT N W22 V24
        replace P0_Old := P0_Old.wr W22 ge_va
        replace K0 := K0.wr W22 (Or.inl (List.mem_of_getElem? (i := 0) rfl))
        replace sz_h : h0.size ≤ h23.size := by rw [Wr.size W22]; exact sz_h
        rw [own_narD (by omega), own_setZ] at V24
        refine giload (v := (0 : Int32)) X hx 106 (hb hby D25_104) rfl rfl ?_
        refine gifYes X hx 118 (hb hby D25_106) (by decide) (by decide) (by decide) ?_
        refine giload (v := (Int32.ofNat (bl.length + 0))) X hx 120 (hb hby D25_118) rfl rfl ?_
        replace V24 : Arv Z h23 va kv .byte zc ((bl ++ own_dg nv).map Value.int) (.int 0) := by rw [show own_dg nv = own_dg nv ++ ([] : List Int32) from (List.append_nil _).symm, own_dg2 g8_ g9_, List.map_append]; exact V24
        exact gRetP X hx hlk hret rfl (Or.inl ⟨rfl, by simp, _, rfl⟩) (hb hby D25_120) eT (by decide) (by decide) ⟨rfl, N, K0, V24⟩
    · refine giloadN (v := (-(Int32.ofNat nv))) X hx 23 (hb hby D25_22) rfl rfl ?_
      refine gbipush X hx (-100 : Int32) 25 (hb hby D25_23) rfl rfl ?_
      refine gicmpNo X hx 28 (hb hby D25_25) rfl (flt (own_nle 100 (by decide) hnv g9_)).2.2.1 ?_
      have hk9 : (own_dg nv).length = (own_dg (nv / 100)).length + 1 + 1 := by rw [own_dg100 g9_, List.length_append]; rfl
      rw [hk9] at P1_Arv ⊢
      show Go p e below _ T (mkF m 28 _ [])
      refine giloadN (v := (-(Int32.ofNat nv))) X hx 29 (hb hby D25_28) rfl rfl ?_
      refine gbipush X hx (100 : Int32) 31 (hb hby D25_29) rfl rfl ?_
      refine gidiv X hx 32 (hb hby D25_31) rfl (by decide) ?_
      rw [own_ndiv hnv]
      show Go p e below _ T (mkF m 32 _ [(.int (-(Int32.ofNat (nv / 100))))])
      refine gistoreN X hx #[.val (.int (-(Int32.ofNat nv))), .val (.int (Int32.ofNat (bl.length + ((own_dg (nv / 100)).length + 1 + 1)))), .val (.ref va), .val (.int (-(Int32.ofNat (nv / 100)))), .unset, .val (.int (Int32.ofNat (bl.length + ((own_dg (nv / 100)).length + 1 + 1)))), .val (.int 0)] 33 (hb hby D25_32) rfl rfl ?_
      refine giloadN (v := (-(Int32.ofNat (nv / 100)))) X hx 34 (hb hby D25_33) rfl rfl ?_
      refine gbipush X hx (100 : Int32) 36 (hb hby D25_34) rfl rfl ?_
      refine gimul X hx 37 (hb hby D25_36) rfl ?_
      refine giloadN (v := (-(Int32.ofNat nv))) X hx 38 (hb hby D25_37) rfl rfl ?_
      refine gisub X hx 39 (hb hby D25_38) rfl ?_
      rw [own_nrem hnv]
      show Go p e below _ T (mkF m 39 _ [(.int (Int32.ofNat (nv % 100)))])
      refine gistore X hx #[.val (.int (-(Int32.ofNat nv))), .val (.int (Int32.ofNat (bl.length + ((own_dg (nv / 100)).length + 1 + 1)))), .val (.ref va), .val (.int (-(Int32.ofNat (nv / 100)))), .val (.int (Int32.ofNat (nv % 100))), .val (.int (Int32.ofNat (bl.length + ((own_dg (nv / 100)).length + 1 + 1)))), .val (.int 0)] 41 (hb hby D25_39) rfl rfl ?_
      refine giloadN (v := (-(Int32.ofNat (nv / 100)))) X hx 42 (hb hby D25_41) rfl rfl ?_
      refine gistoreN X hx #[.val (.int (-(Int32.ofNat (nv / 100)))), .val (.int (Int32.ofNat (bl.length + ((own_dg (nv / 100)).length + 1 + 1)))), .val (.ref va), .val (.int (-(Int32.ofNat (nv / 100)))), .val (.int (Int32.ofNat (nv % 100))), .val (.int (Int32.ofNat (bl.length + ((own_dg (nv / 100)).length + 1 + 1)))), .val (.int 0)] 43 (hb hby D25_42) rfl rfl ?_
      refine galoadN (v := (.ref va)) X hx 44 (hb hby D25_43) rfl rfl rfl ?_
      refine giinc X hx #[.val (.int (-(Int32.ofNat (nv / 100)))), .val (.int (Int32.ofNat (bl.length + ((own_dg (nv / 100)).length + 1 + 1)))), .val (.ref va), .val (.int (-(Int32.ofNat (nv / 100)))), .val (.int (Int32.ofNat (nv % 100))), .val (.int ((Int32.ofNat (bl.length + ((own_dg (nv / 100)).length + 1 + 1))) + (-1 : Int32))), .val (.int 0)] 47 (hb hby D25_44) rfl rfl rfl ?_
      rw [show Int32.ofNat (bl.length + (((own_dg (nv / 100)).length + 1) + 1)) + (-1 : Int32) = Int32.ofNat (bl.length + ((own_dg (nv / 100)).length + 1)) from own_dec _ _]
      show Go p e below _ T (mkF m 47 _ [(.ref va)])
      refine giload (v := (Int32.ofNat (bl.length + ((own_dg (nv / 100)).length + 1)))) X hx 49 (hb hby D25_47) rfl rfl ?_
      refine ggetS X hx hZ (host := "") hown (Or.inl (u158 hw)) Via.refl eT (D1.ext P0_Old.2) 52 (hb hby D25_49) rfl ?_
      clear X eT; clear T; intro T X eT
      refine giload (v := (Int32.ofNat (nv % 100))) X hx 54 (hb hby D25_52) rfl rfl ?_
      refine gbaload X hx hZ eT (T1.ext P0_Old.2) (.int (Int32.ofNat (48 + nv % 100 % 10))) (of_nat_nneg (by omega)) (own_plt 100 (by decide) (Nat.mod_lt _ (by decide))) (own_tab (Nat.mod_lt _ (by decide))) 55 (hb hby D25_54) rfl ?_
      refine gbastore X hx hZ eT P1_Arv (of_nat_nneg (by omega)) (own_ltz (by omega)) (bl.length + ((own_dg (nv / 100)).length + 1)) (of_nat_clamp (by omega)) (by simp only [List.length_append, List.length_map, List.length_replicate, List.length_cons]; omega) N ge_va 56 (hb hby D25_55) rfl ?_
      clear X eT N; clear T; intro T h26 L X eT N W25 V27
      replace P0_Old := P0_Old.wr W25 ge_va
      replace K0 := K0.wr W25 (Or.inl (List.mem_of_getElem? (i := 0) rfl))
      replace sz_h : h0.size ≤ h26.size := by rw [Wr.size W25]; exact sz_h
      rw [own_narD (by omega), own_setZ] at V27
      refine galoadN (v := (.ref va)) X hx 57 (hb hby D25_56) rfl rfl rfl ?_
      refine giinc X hx #[.val (.int (-(Int32.ofNat (nv / 100)))), .val (.int (Int32.ofNat (bl.length + ((own_dg (nv / 100)).length + 1 + 1)))), .val (.ref va), .val (.int (-(Int32.ofNat (nv / 100)))), .val (.int (Int32.ofNat (nv % 100))), .val (.int ((Int32.ofNat (bl.length + ((own_dg (nv / 100)).length + 1))) + (-1 : Int32))), .val (.int 0)] 60 (hb hby D25_57) rfl rfl rfl ?_
      rw [show Int32.ofNat (bl.length + ((own_dg (nv / 100)).length + 1)) + (-1 : Int32) = Int32.ofNat (bl.length + (own_dg (nv / 100)).length) from own_dec _ _]
      show Go p e below _ T (mkF m 60 _ [(.ref va)])
      refine giload (v := (Int32.ofNat (bl.length + (own_dg (nv / 100)).length))) X hx 62 (hb hby D25_60) rfl rfl ?_
      refine ggetS X hx hZ (host := "") hown (Or.inl (u251 hw)) Via.refl eT (D2.ext P0_Old.2) 65 (hb hby D25_62) rfl ?_
      clear X eT; clear T; intro T X eT
      refine giload (v := (Int32.ofNat (nv % 100))) X hx 67 (hb hby D25_65) rfl rfl ?_
      refine gbaload X hx hZ eT (T2.ext P0_Old.2) (.int (Int32.ofNat (48 + nv % 100 / 10))) (of_nat_nneg (by omega)) (own_plt 100 (by decide) (Nat.mod_lt _ (by decide))) (own_tab (Nat.mod_lt _ (by decide))) 68 (hb hby D25_67) rfl ?_
      refine gbastore X hx hZ eT V27 (of_nat_nneg (by omega)) (own_ltz (by omega)) (bl.length + (own_dg (nv / 100)).length) (of_nat_clamp (by omega)) (by simp only [List.length_append, List.length_map, List.length_replicate, List.length_cons]; omega) N ge_va 69 (hb hby D25_68) rfl ?_
      clear X eT N; clear T; intro T h29 L X eT N W28 V30
      replace P0_Old := P0_Old.wr W28 ge_va
      replace K0 := K0.wr W28 (Or.inl (List.mem_of_getElem? (i := 0) rfl))
      replace sz_h : h0.size ≤ h29.size := by rw [Wr.size W28]; exact sz_h
      rw [own_narD (by omega), own_setZ] at V30
      refine ggoto X hx 22 (hb hby D25_69) (by decide) (by decide) ?_
      exact main (nv / 100 + 1) (nv / 100) [Int32.ofNat (48 + nv % 100 / 10), Int32.ofNat (48 + nv % 100 % 10)] _ _ _ _ _ T (Nat.lt_succ_self _) (by omega) (own_dg100 g9_) X eT N K0 sz_h P0_Old V30
theorem rmAIG (l : Launch) (Z : State) (a0 : Array Value) (hw : HW_ a0 Z) (sb : Addr) (va : Addr) (kv : ClassId) (cs : List Int32) (nv : Nat) (G1 : Int32) (d1 : Addr) (d2 : Addr) (k1 : ClassId) (k2 : ClassId) (h0 : Heap) (n0 : Nat) (Z0 : n0 ≤ h0.size) (ge_sb : n0 ≤ sb) (P0_Old : Old Z n0 h0) (P1_Exa : Exa Z h0 sb "java/lang/StringBuilder") (P2_Fld : Fld Z h0 sb "java/lang/AbstractStringBuilder" "value" "[B" (.ref va)) (P3_Fld : Fld Z h0 sb "java/lang/AbstractStringBuilder" "coder" "B" (.int 0)) (P4_Fld : Fld Z h0 sb "java/lang/AbstractStringBuilder" "count" "I" (.int (Int32.ofNat cs.length))) (P5_Arv : Arv Z h0 va kv .byte (16 : Int32) ((cs.map fun c => c.toInt8.toInt32).map Value.int) (.int 0)) (O2 : Sta Z Z.heap "java/lang/String" "COMPACT_STRINGS" "Z" (.int G1)) (P5 : ¬ G1 = (0 : Int32)) (hnv : nv < 2147483648) (D1 : Sta Z Z.heap "java/lang/Integer" "DigitOnes" "[B" (.ref d1)) (D2 : Sta Z Z.heap "java/lang/Integer" "DigitTens" "[B" (.ref d2)) (T1 : Arv Z Z.heap d1 k1 .byte (100 : Int32) own_ones (.int 0)) (T2 : Arv Z Z.heap d2 k2 .byte (100 : Int32) own_tens (.int 0)) (hln : cs.length + (own_dg nv).length ≤ 33) (hcl : cs.length ≤ 16) (hgr : 16 < cs.length + (own_dg nv).length) :
    CtP l Y9 jdk_68_method_32_code 4 (some (.object "java/lang/AbstractStringBuilder")) [] ({ frames := 4, cells := 1, slots := 34, locals := 62 } : Room) Z #[(.ref sb), (.int (Int32.ofNat nv))] h0 (fun v h L => ∃ (vb : Addr), ∃ (kw : ClassId), v = some (.ref sb) ∧ Fr n0 L ∧ Keep h0 h [sb] ∧ h0.size ≤ vb ∧ Fld Z h sb "java/lang/AbstractStringBuilder" "value" "[B" (.ref vb) ∧ Fld Z h sb "java/lang/AbstractStringBuilder" "coder" "B" (.int 0) ∧ Fld Z h sb "java/lang/AbstractStringBuilder" "count" "I" (.int (Int32.ofNat (cs ++ own_dg nv).length)) ∧ Arv Z h vb kw .byte (34 : Int32) (((cs ++ own_dg nv).map fun c => c.toInt8.toInt32).map Value.int) (.int 0)) := by
  refine CtP.walk (Ls := #[.val (.ref sb), .val (.int (Int32.ofNat nv)), .unset, .unset]) (plainFor_of_name own_pn0) (fun m => by first | (simp [entryFrame, mkF, argsToLocals, Value.category]; done) | rfl) ?_
  intro p e s m below meth cc_ T hx hby hml hown hnm hret hlk hZ X eT
  have N := Fr.nil n0
  have K0 := Keep.refl h0 [sb]
  have sz_h : h0.size ≤ h0.size := Nat.le_refl _
  refine galoadN (v := (.ref sb)) X hx 1 (hb hby D22_0) rfl rfl rfl ?_
  refine ggetF X hx hZ (host := "") hown (Or.inl (u110 hw)) Via.refl eT P4_Fld 4 (hb hby D22_1) rfl ?_
  clear X eT; clear T; intro T X eT
  refine gistoreN X hx #[.val (.ref sb), .val (.int (Int32.ofNat nv)), .val (.int (Int32.ofNat cs.length)), .unset] 5 (hb hby D22_4) rfl rfl ?_
  refine giloadN (v := (Int32.ofNat cs.length)) X hx 6 (hb hby D22_5) rfl rfl ?_
  refine giloadN (v := (Int32.ofNat nv)) X hx 7 (hb hby D22_6) rfl rfl ?_
  refine gstatic (y := Y19) (argsL := [(.int (Int32.ofNat nv))]) (st := [(.int (Int32.ofNat cs.length))]) X hx hZ hown (u146 hw) (u147 hw) (u148 hw) (u149 hw) (by decide) (payP (W := 1) (rmSS l Z a0 hw (nv) h0 n0 (Nat.le_trans Z0 sz_h) (hnv)) hZ (u149 hw) (u148 hw) (by decide) (by decide)) eT (by rw [hml]; rfl) (lenOf own_pd4 rfl) rfl (Nat.le_of_eq rfl) 0 0 rfl rfl (by decide) (by decide) 10 (hb hby D22_7) rfl (gcut N ?_)
  clear X eT N; clear T; intro T L X eT N
  refine giadd X hx 11 (hb hby D22_10) rfl ?_
  rw [own_oaddB]
  show Go p e below _ T (mkF m 11 _ [(.int (Int32.ofNat ((cs.map fun c => c.toInt8.toInt32).length + (own_dg nv).length)))])
  refine gistoreN X hx #[.val (.ref sb), .val (.int (Int32.ofNat nv)), .val (.int (Int32.ofNat cs.length)), .val (.int (Int32.ofNat ((cs.map fun c => c.toInt8.toInt32).length + (own_dg nv).length)))] 12 (hb hby D22_11) rfl rfl ?_
  refine galoadN (v := (.ref sb)) X hx 13 (hb hby D22_12) rfl rfl rfl ?_
  refine giloadN (v := (Int32.ofNat ((cs.map fun c => c.toInt8.toInt32).length + (own_dg nv).length))) X hx 14 (hb hby D22_13) rfl rfl ?_
  refine gpriv (y := Y11) (a := sb) (argsL := [(.int (Int32.ofNat ((cs.map fun c => c.toInt8.toInt32).length + (own_dg nv).length)))]) (st := []) X hx hZ hown (u112 hw) (u113 hw) (nf_sel (args := #[]) (mvT hZ (u115 hw)) rfl) (u114 hw) (u116 hw) (by decide) P1_Exa (payP (W := 0) (rmEB l Z a0 hw (sb) (va) (kv) (cs) ((Int32.ofNat ((cs.map fun c => c.toInt8.toInt32).length + (own_dg nv).length))) h0 n0 (Nat.le_trans Z0 sz_h) ge_sb P1_Exa P2_Fld P3_Fld P4_Fld P5_Arv (own_ecB1 (by rw [List.length_map]; exact hgr) (by rw [List.length_map]; exact hln)) (own_ecG1 (by rw [List.length_map]; exact hln)) (hcl)) hZ (u116 hw) (u86 hw) (by decide) (by decide)) eT (by rw [hml]; rfl) (lenOf own_pd0 rfl) rfl (Nat.le_of_eq rfl) 1 34 rfl rfl (by decide) (by decide) 17 (hb hby D22_14) rfl ?_
  clear X eT; clear T; intro v T h1 L2 Lc X eT hL hQ2
  obtain ⟨vb_3, kw_4, rfl, Nq, K5, zz_vb_3, G7, G8, G9, G10⟩ := hQ2
  replace N : Fr n0 L2 := by rw [hL]; exact Fr.app N Nq
  clear Nq hL
  have ne_sb_vb_3 : sb ≠ vb_3 := Nat.ne_of_lt (Nat.lt_of_lt_of_le P1_Exa.lt zz_vb_3)
  have ne_vb_3_sb : vb_3 ≠ sb := Ne.symm ne_sb_vb_3
  have ne_va_vb_3 : va ≠ vb_3 := Nat.ne_of_lt (Nat.lt_of_lt_of_le P5_Arv.lt zz_vb_3)
  have ne_vb_3_va : vb_3 ≠ va := Ne.symm ne_va_vb_3
  have sz_vb_3 : h0.size ≤ vb_3 := Nat.le_trans sz_h zz_vb_3
  have ge_vb_3 : n0 ≤ vb_3 := Nat.le_trans Z0 sz_vb_3
  have ne_va_sb : va ≠ sb := Ne.symm (Exa.neArv P1_Exa P5_Arv (u77 hw))
  replace P0_Old := P0_Old.keep K5 (allS ge_sb all0)
  replace P1_Exa := P1_Exa.keep K5
  replace P5_Arv := P5_Arv.keep K5 (ninS ne_va_sb nin0)
  replace K0 := K0.trans K5 (allS (Or.inl (List.mem_of_getElem? (i := 0) rfl)) all0)
  replace sz_h : h0.size ≤ h1.size := Nat.le_trans sz_h K5.1
  show Go p e below _ T (mkF m 17 _ [])
  refine galoadN (v := (.ref sb)) X hx 18 (hb hby D22_17) rfl rfl rfl ?_
  refine gvirtual (y := Y14) (z := Y14) (a := sb) (argsL := []) (st := []) X hx hZ hown (u150 hw) (u151 hw) (notFace_of_selects (args := #[]) (mvT hZ (u153 hw))) (u153 hw) (u152 hw) (by decide) P1_Exa (payP (W := 0) (rm24 l Z a0 hw (sb) (G1) h1 n0 (Nat.le_trans Z0 sz_h) P0_Old G8 (O2) (P5)) hZ (u154 hw) (u86 hw) (by decide) (by decide)) eT (by rw [hml]; rfl) (lenOf own_pd14 rfl) rfl (Nat.le_of_eq rfl) 1 34 rfl rfl (by decide) (by decide) 21 (hb hby D22_18) rfl (gcut N ?_)
  clear X eT N; clear T; intro T L X eT N
  refine gifNo X hx 24 (hb hby D22_21) rfl (by decide) ?_
  refine giloadN (v := (Int32.ofNat nv)) X hx 25 (hb hby D22_24) rfl rfl ?_
  refine giloadN (v := (Int32.ofNat ((cs.map fun c => c.toInt8.toInt32).length + (own_dg nv).length))) X hx 26 (hb hby D22_25) rfl rfl ?_
  refine galoadN (v := (.ref sb)) X hx 27 (hb hby D22_26) rfl rfl rfl ?_
  refine ggetF X hx hZ (host := "") hown (Or.inl (u90 hw)) Via.refl eT G7 30 (hb hby D22_27) rfl ?_
  clear X eT; clear T; intro T X eT
  refine gstatic (y := Y18) (argsL := [(.int (Int32.ofNat nv)), (.int (Int32.ofNat ((cs.map fun c => c.toInt8.toInt32).length + (own_dg nv).length))), (.ref vb_3)]) (st := []) X hx hZ hown (u155 hw) (u156 hw) (u148 hw) (u157 hw) (by decide) (payP (W := 0) (rmGC l Z a0 hw (nv) (vb_3) (kw_4) ((cs.map fun c => c.toInt8.toInt32)) ((34 : Int32)) (d1) (d2) (k1) (k2) h1 n0 (Nat.le_trans Z0 sz_h) ge_vb_3 P0_Old G10 (hnv) (D1) (D2) (T1) (T2) (by rw [List.length_map]; exact Nat.le_trans hln (by decide)) (by decide)) hZ (u157 hw) (u148 hw) (by decide) (by decide)) eT (by rw [hml]; rfl) (lenOf own_pd17 rfl) rfl (Nat.le_of_eq rfl) 1 34 rfl rfl (by decide) (by decide) 33 (hb hby D22_30) rfl ?_
  clear X eT; clear T; intro v T h11 L2 Lc X eT hL hQ12
  obtain ⟨rfl, Nq, K13, G15⟩ := hQ12
  replace N : Fr n0 L2 := by rw [hL]; exact Fr.app N Nq
  clear Nq hL
  replace P0_Old := P0_Old.keep K13 (allS ge_vb_3 all0)
  replace P1_Exa := P1_Exa.keep K13
  replace P5_Arv := P5_Arv.keep K13 (ninS ne_va_vb_3 nin0)
  replace G7 := G7.keep K13 (ninS ne_sb_vb_3 nin0)
  replace G8 := G8.keep K13 (ninS ne_sb_vb_3 nin0)
  replace G9 := G9.keep K13 (ninS ne_sb_vb_3 nin0)
  replace K0 := K0.trans K13 (allS (Or.inr sz_vb_3) all0)
  replace sz_h : h0.size ≤ h11.size := Nat.le_trans sz_h K13.1
  show Go p e below _ T (mkF m 33 _ [(.int (Int32.ofNat ((cs.map fun c => c.toInt8.toInt32).length + 0)))])
  replace G15 : Arv Z h11 vb_3 kw_4 .byte (34 : Int32) (((cs ++ own_dg nv).map fun c => c.toInt8.toInt32).map Value.int) (.int 0) := by rw [List.map_append, own_dgB]; exact G15
  refine gpop X hx 34 (hb hby D22_33) rfl rfl ?_
  refine ggoto X hx 48 (hb hby D22_34) (by decide) (by decide) ?_
  refine galoadN (v := (.ref sb)) X hx 49 (hb hby D22_48) rfl rfl rfl ?_
  refine giloadN (v := (Int32.ofNat ((cs.map fun c => c.toInt8.toInt32).length + (own_dg nv).length))) X hx 50 (hb hby D22_49) rfl rfl ?_
  rw [own_cnt]
  show Go p e below _ T (mkF m 50 _ [(.int (Int32.ofNat (cs ++ own_dg nv).length)), (.ref sb)])
  refine gputF X hx hZ (host := "") hown (Or.inl (u110 hw)) Via.refl eT G9 P1_Exa (Or.inl (u111 hw)) (u77 hw) (ty := .int) own_pf2 rfl rfl N ge_sb 53 (hb hby D22_50) rfl ?_
  clear X eT N; clear T; intro T h16 L X eT N W17
  replace P0_Old := P0_Old.wr W17 ge_sb
  replace P1_Exa := P1_Exa.wr W17
  replace P5_Arv := P5_Arv.other W17 ne_va_sb
  replace G7 := G7.other W17 (Or.inr (slot_ne (Or.inl (u91 hw)) (Or.inl (u111 hw)) (by decide) own_pf0 own_pf2))
  replace G8 := G8.other W17 (Or.inr (slot_ne (Or.inl (u93 hw)) (Or.inl (u111 hw)) (by decide) own_pf1 own_pf2))
  replace G9 := G9.same W17
  replace G15 := G15.other W17 ne_vb_3_sb
  replace K0 := K0.wr W17 (Or.inl (List.mem_of_getElem? (i := 0) rfl))
  replace sz_h : h0.size ≤ h16.size := by rw [Wr.size W17]; exact sz_h
  refine galoadN (v := (.ref sb)) X hx 54 (hb hby D22_53) rfl rfl rfl ?_
  exact gRetP X hx hlk hret rfl (Or.inr (Or.inr (Or.inr (Or.inr ⟨rfl, rfl, rfl⟩)))) (hb hby D22_54) eT (by decide) (by decide) ⟨vb_3, kw_4, rfl, N, K0, sz_vb_3, G7, G8, G9, G15⟩
theorem rmSIG (l : Launch) (Z : State) (a0 : Array Value) (hw : HW_ a0 Z) (sb : Addr) (va : Addr) (kv : ClassId) (cs : List Int32) (nv : Nat) (G1 : Int32) (d1 : Addr) (d2 : Addr) (k1 : ClassId) (k2 : ClassId) (h0 : Heap) (n0 : Nat) (Z0 : n0 ≤ h0.size) (ge_sb : n0 ≤ sb) (P0_Old : Old Z n0 h0) (P1_Exa : Exa Z h0 sb "java/lang/StringBuilder") (P2_Fld : Fld Z h0 sb "java/lang/AbstractStringBuilder" "value" "[B" (.ref va)) (P3_Fld : Fld Z h0 sb "java/lang/AbstractStringBuilder" "coder" "B" (.int 0)) (P4_Fld : Fld Z h0 sb "java/lang/AbstractStringBuilder" "count" "I" (.int (Int32.ofNat cs.length))) (P5_Arv : Arv Z h0 va kv .byte (16 : Int32) ((cs.map fun c => c.toInt8.toInt32).map Value.int) (.int 0)) (O2 : Sta Z Z.heap "java/lang/String" "COMPACT_STRINGS" "Z" (.int G1)) (P5 : ¬ G1 = (0 : Int32)) (hnv : nv < 2147483648) (D1 : Sta Z Z.heap "java/lang/Integer" "DigitOnes" "[B" (.ref d1)) (D2 : Sta Z Z.heap "java/lang/Integer" "DigitTens" "[B" (.ref d2)) (T1 : Arv Z Z.heap d1 k1 .byte (100 : Int32) own_ones (.int 0)) (T2 : Arv Z Z.heap d2 k2 .byte (100 : Int32) own_tens (.int 0)) (hln : cs.length + (own_dg nv).length ≤ 33) (hcl : cs.length ≤ 16) (hgr : 16 < cs.length + (own_dg nv).length) :
    CtP l Y37 jdk_67_method_15_code 2 (some (.object "java/lang/StringBuilder")) [] ({ frames := 5, cells := 1, slots := 34, locals := 77 } : Room) Z #[(.ref sb), (.int (Int32.ofNat nv))] h0 (fun v h L => ∃ (vb : Addr), ∃ (kw : ClassId), v = some (.ref sb) ∧ Fr n0 L ∧ Keep h0 h [sb] ∧ h0.size ≤ vb ∧ Fld Z h sb "java/lang/AbstractStringBuilder" "value" "[B" (.ref vb) ∧ Fld Z h sb "java/lang/AbstractStringBuilder" "coder" "B" (.int 0) ∧ Fld Z h sb "java/lang/AbstractStringBuilder" "count" "I" (.int (Int32.ofNat (cs ++ own_dg nv).length)) ∧ Arv Z h vb kw .byte (34 : Int32) (((cs ++ own_dg nv).map fun c => c.toInt8.toInt32).map Value.int) (.int 0)) := by
  refine CtP.walk (Ls := #[.val (.ref sb), .val (.int (Int32.ofNat nv))]) (plainFor_of_name own_pn1) (fun m => by first | (simp [entryFrame, mkF, argsToLocals, Value.category]; done) | rfl) ?_
  intro p e s m below meth cc_ T hx hby hml hown hnm hret hlk hZ X eT
  have N := Fr.nil n0
  have K0 := Keep.refl h0 [sb]
  have sz_h : h0.size ≤ h0.size := Nat.le_refl _
  refine galoadN (v := (.ref sb)) X hx 1 (hb hby D21_0) rfl rfl rfl ?_
  refine giloadN (v := (Int32.ofNat nv)) X hx 2 (hb hby D21_1) rfl rfl ?_
  refine gsuper (y := Y9) (a := sb) (argsL := [(.int (Int32.ofNat nv))]) (st := []) X hx hZ hown (u142 hw) (sm_sel (u143 hw) (u115 hw) rfl (by decide)) (u143 hw) (u102 hw) (by decide) (u145 hw) (Ins.self P1_Exa) (payP (W := 0) (rmAIG l Z a0 hw (sb) (va) (kv) (cs) (nv) (G1) (d1) (d2) (k1) (k2) h0 n0 (Nat.le_trans Z0 sz_h) ge_sb P0_Old P1_Exa P2_Fld P3_Fld P4_Fld P5_Arv (O2) (P5) (hnv) (D1) (D2) (T1) (T2) (hln) (hcl) (hgr)) hZ (u145 hw) (u86 hw) (by decide) (by decide)) eT (by rw [hml]; rfl) (lenOf own_pd18 rfl) rfl (Nat.le_of_eq rfl) 1 34 rfl rfl (by decide) (by decide) 5 (hb hby D21_2) rfl ?_
  clear X eT; clear T; intro v T h1 L2 Lc X eT hL hQ2
  obtain ⟨vb_3, kw_4, rfl, Nq, K5, zz_vb_3, G7, G8, G9, G10⟩ := hQ2
  replace N : Fr n0 L2 := by rw [hL]; exact Fr.app N Nq
  clear Nq hL
  have ne_sb_vb_3 : sb ≠ vb_3 := Nat.ne_of_lt (Nat.lt_of_lt_of_le P1_Exa.lt zz_vb_3)
  have ne_vb_3_sb : vb_3 ≠ sb := Ne.symm ne_sb_vb_3
  have ne_va_vb_3 : va ≠ vb_3 := Nat.ne_of_lt (Nat.lt_of_lt_of_le P5_Arv.lt zz_vb_3)
  have ne_vb_3_va : vb_3 ≠ va := Ne.symm ne_va_vb_3
  have sz_vb_3 : h0.size ≤ vb_3 := Nat.le_trans sz_h zz_vb_3
  have ge_vb_3 : n0 ≤ vb_3 := Nat.le_trans Z0 sz_vb_3
  have ne_va_sb : va ≠ sb := Ne.symm (Exa.neArv P1_Exa P5_Arv (u77 hw))
  replace P0_Old := P0_Old.keep K5 (allS ge_sb all0)
  replace P1_Exa := P1_Exa.keep K5
  replace P5_Arv := P5_Arv.keep K5 (ninS ne_va_sb nin0)
  replace K0 := K0.trans K5 (allS (Or.inl (List.mem_of_getElem? (i := 0) rfl)) all0)
  replace sz_h : h0.size ≤ h1.size := Nat.le_trans sz_h K5.1
  show Go p e below _ T (mkF m 5 _ [(.ref sb)])
  refine gpop X hx 6 (hb hby D21_5) rfl rfl ?_
  refine galoadN (v := (.ref sb)) X hx 7 (hb hby D21_6) rfl rfl rfl ?_
  exact gRetP X hx hlk hret rfl (Or.inr (Or.inr (Or.inr (Or.inr ⟨rfl, rfl, rfl⟩)))) (hb hby D21_7) eT (by decide) (by decide) ⟨vb_3, kw_4, rfl, N, K0, sz_vb_3, G7, G8, G9, G10⟩
theorem rmAIA (l : Launch) (Z : State) (a0 : Array Value) (hw : HW_ a0 Z) (sb : Addr) (va : Addr) (kv : ClassId) (cs : List Int32) (nv : Nat) (G1 : Int32) (d1 : Addr) (d2 : Addr) (k1 : ClassId) (k2 : ClassId) (zc : Int32) (h0 : Heap) (n0 : Nat) (Z0 : n0 ≤ h0.size) (ge_sb : n0 ≤ sb) (ge_va : n0 ≤ va) (P0_Old : Old Z n0 h0) (P1_Exa : Exa Z h0 sb "java/lang/StringBuilder") (P2_Fld : Fld Z h0 sb "java/lang/AbstractStringBuilder" "value" "[B" (.ref va)) (P3_Fld : Fld Z h0 sb "java/lang/AbstractStringBuilder" "coder" "B" (.int 0)) (P4_Fld : Fld Z h0 sb "java/lang/AbstractStringBuilder" "count" "I" (.int (Int32.ofNat cs.length))) (P5_Arv : Arv Z h0 va kv .byte zc ((cs.map fun c => c.toInt8.toInt32).map Value.int) (.int 0)) (O2 : Sta Z Z.heap "java/lang/String" "COMPACT_STRINGS" "Z" (.int G1)) (P5 : ¬ G1 = (0 : Int32)) (hnv : nv < 2147483648) (D1 : Sta Z Z.heap "java/lang/Integer" "DigitOnes" "[B" (.ref d1)) (D2 : Sta Z Z.heap "java/lang/Integer" "DigitTens" "[B" (.ref d2)) (T1 : Arv Z Z.heap d1 k1 .byte (100 : Int32) own_ones (.int 0)) (T2 : Arv Z Z.heap d2 k2 .byte (100 : Int32) own_tens (.int 0)) (hln : cs.length + (own_dg nv).length ≤ zc.toNatClampNeg) (hz34 : 0 < zc.toNatClampNeg ∧ zc.toNatClampNeg ≤ 34) :
    CtP l Y9 jdk_68_method_32_code 4 (some (.object "java/lang/AbstractStringBuilder")) [] ({ frames := 1, cells := 0, slots := 0, locals := 18 } : Room) Z #[(.ref sb), (.int (Int32.ofNat nv))] h0 (fun v h L => v = some (.ref sb) ∧ Fr n0 L ∧ Keep h0 h [sb, va] ∧ Fld Z h sb "java/lang/AbstractStringBuilder" "value" "[B" (.ref va) ∧ Fld Z h sb "java/lang/AbstractStringBuilder" "coder" "B" (.int 0) ∧ Fld Z h sb "java/lang/AbstractStringBuilder" "count" "I" (.int (Int32.ofNat (cs ++ own_dg nv).length)) ∧ Arv Z h va kv .byte zc (((cs ++ own_dg nv).map fun c => c.toInt8.toInt32).map Value.int) (.int 0)) := by
  refine CtP.walk (Ls := #[.val (.ref sb), .val (.int (Int32.ofNat nv)), .unset, .unset]) (plainFor_of_name own_pn0) (fun m => by first | (simp [entryFrame, mkF, argsToLocals, Value.category]; done) | rfl) ?_
  intro p e s m below meth cc_ T hx hby hml hown hnm hret hlk hZ X eT
  have N := Fr.nil n0
  have K0 := Keep.refl h0 [sb, va]
  have sz_h : h0.size ≤ h0.size := Nat.le_refl _
  refine galoadN (v := (.ref sb)) X hx 1 (hb hby D22_0) rfl rfl rfl ?_
  refine ggetF X hx hZ (host := "") hown (Or.inl (u110 hw)) Via.refl eT P4_Fld 4 (hb hby D22_1) rfl ?_
  clear X eT; clear T; intro T X eT
  refine gistoreN X hx #[.val (.ref sb), .val (.int (Int32.ofNat nv)), .val (.int (Int32.ofNat cs.length)), .unset] 5 (hb hby D22_4) rfl rfl ?_
  refine giloadN (v := (Int32.ofNat cs.length)) X hx 6 (hb hby D22_5) rfl rfl ?_
  refine giloadN (v := (Int32.ofNat nv)) X hx 7 (hb hby D22_6) rfl rfl ?_
  refine gstatic (y := Y19) (argsL := [(.int (Int32.ofNat nv))]) (st := [(.int (Int32.ofNat cs.length))]) X hx hZ hown (u146 hw) (u147 hw) (u148 hw) (u149 hw) (by decide) (payP (W := 1) (rmSS l Z a0 hw (nv) h0 n0 (Nat.le_trans Z0 sz_h) (hnv)) hZ (u149 hw) (u148 hw) (by decide) (by decide)) eT (by rw [hml]; rfl) (lenOf own_pd4 rfl) rfl (Nat.le_of_eq rfl) 0 0 rfl rfl (by decide) (by decide) 10 (hb hby D22_7) rfl (gcut N ?_)
  clear X eT N; clear T; intro T L X eT N
  refine giadd X hx 11 (hb hby D22_10) rfl ?_
  rw [own_oaddB]
  show Go p e below _ T (mkF m 11 _ [(.int (Int32.ofNat ((cs.map fun c => c.toInt8.toInt32).length + (own_dg nv).length)))])
  refine gistoreN X hx #[.val (.ref sb), .val (.int (Int32.ofNat nv)), .val (.int (Int32.ofNat cs.length)), .val (.int (Int32.ofNat ((cs.map fun c => c.toInt8.toInt32).length + (own_dg nv).length)))] 12 (hb hby D22_11) rfl rfl ?_
  refine galoadN (v := (.ref sb)) X hx 13 (hb hby D22_12) rfl rfl rfl ?_
  refine giloadN (v := (Int32.ofNat ((cs.map fun c => c.toInt8.toInt32).length + (own_dg nv).length))) X hx 14 (hb hby D22_13) rfl rfl ?_
  refine gpriv (y := Y11) (a := sb) (argsL := [(.int (Int32.ofNat ((cs.map fun c => c.toInt8.toInt32).length + (own_dg nv).length)))]) (st := []) X hx hZ hown (u112 hw) (u113 hw) (nf_sel (args := #[]) (mvT hZ (u115 hw)) rfl) (u114 hw) (u116 hw) (by decide) P1_Exa (payP (W := 0) (rmEA l Z a0 hw (sb) (va) (kv) (((cs.map fun c => c.toInt8.toInt32).map Value.int)) ((Int32.ofNat ((cs.map fun c => c.toInt8.toInt32).length + (own_dg nv).length))) (zc) h0 n0 (Nat.le_trans Z0 sz_h) P2_Fld P3_Fld P5_Arv (own_ecA1 (by rw [List.length_map]; exact hln) hz34)) hZ (u116 hw) (u86 hw) (by decide) (by decide)) eT (by rw [hml]; rfl) (lenOf own_pd0 rfl) rfl (Nat.le_of_eq rfl) 0 0 rfl rfl (by decide) (by decide) 17 (hb hby D22_14) rfl (gcut0 N ?_)
  clear X eT N; clear T; intro T L X eT N
  refine galoadN (v := (.ref sb)) X hx 18 (hb hby D22_17) rfl rfl rfl ?_
  refine gvirtual (y := Y14) (z := Y14) (a := sb) (argsL := []) (st := []) X hx hZ hown (u150 hw) (u151 hw) (notFace_of_selects (args := #[]) (mvT hZ (u153 hw))) (u153 hw) (u152 hw) (by decide) P1_Exa (payP (W := 0) (rm24 l Z a0 hw (sb) (G1) h0 n0 (Nat.le_trans Z0 sz_h) P0_Old P3_Fld (O2) (P5)) hZ (u154 hw) (u86 hw) (by decide) (by decide)) eT (by rw [hml]; rfl) (lenOf own_pd14 rfl) rfl (Nat.le_of_eq rfl) 0 0 rfl rfl (by decide) (by decide) 21 (hb hby D22_18) rfl (gcut N ?_)
  clear X eT N; clear T; intro T L X eT N
  refine gifNo X hx 24 (hb hby D22_21) rfl (by decide) ?_
  refine giloadN (v := (Int32.ofNat nv)) X hx 25 (hb hby D22_24) rfl rfl ?_
  refine giloadN (v := (Int32.ofNat ((cs.map fun c => c.toInt8.toInt32).length + (own_dg nv).length))) X hx 26 (hb hby D22_25) rfl rfl ?_
  refine galoadN (v := (.ref sb)) X hx 27 (hb hby D22_26) rfl rfl rfl ?_
  refine ggetF X hx hZ (host := "") hown (Or.inl (u90 hw)) Via.refl eT P2_Fld 30 (hb hby D22_27) rfl ?_
  clear X eT; clear T; intro T X eT
  refine gstatic (y := Y18) (argsL := [(.int (Int32.ofNat nv)), (.int (Int32.ofNat ((cs.map fun c => c.toInt8.toInt32).length + (own_dg nv).length))), (.ref va)]) (st := []) X hx hZ hown (u155 hw) (u156 hw) (u148 hw) (u157 hw) (by decide) (payP (W := 0) (rmGC l Z a0 hw (nv) (va) (kv) ((cs.map fun c => c.toInt8.toInt32)) (zc) (d1) (d2) (k1) (k2) h0 n0 (Nat.le_trans Z0 sz_h) ge_va P0_Old P5_Arv (hnv) (D1) (D2) (T1) (T2) (by rw [List.length_map]; exact hln) (by omega)) hZ (u157 hw) (u148 hw) (by decide) (by decide)) eT (by rw [hml]; rfl) (lenOf own_pd17 rfl) rfl (Nat.le_of_eq rfl) 0 0 rfl rfl (by decide) (by decide) 33 (hb hby D22_30) rfl ?_
  clear X eT; clear T; intro v T h1 L2 Lc X eT hL hQ2
  obtain ⟨rfl, Nq, K3, G5⟩ := hQ2
  replace N : Fr n0 L2 := by rw [hL]; exact Fr.app N Nq
  clear Nq hL
  have ne_sb_va : sb ≠ va := Exa.neArv P1_Exa P5_Arv (u77 hw)
  replace P0_Old := P0_Old.keep K3 (allS ge_va all0)
  replace P1_Exa := P1_Exa.keep K3
  replace P2_Fld := P2_Fld.keep K3 (ninS ne_sb_va nin0)
  replace P3_Fld := P3_Fld.keep K3 (ninS ne_sb_va nin0)
  replace P4_Fld := P4_Fld.keep K3 (ninS ne_sb_va nin0)
  replace K0 := K0.trans K3 (allS (Or.inl (List.mem_of_getElem? (i := 1) rfl)) all0)
  replace sz_h : h0.size ≤ h1.size := Nat.le_trans sz_h K3.1
  show Go p e below _ T (mkF m 33 _ [(.int (Int32.ofNat ((cs.map fun c => c.toInt8.toInt32).length + 0)))])
  replace G5 : Arv Z h1 va kv .byte zc (((cs ++ own_dg nv).map fun c => c.toInt8.toInt32).map Value.int) (.int 0) := by rw [List.map_append, own_dgB]; exact G5
  refine gpop X hx 34 (hb hby D22_33) rfl rfl ?_
  refine ggoto X hx 48 (hb hby D22_34) (by decide) (by decide) ?_
  refine galoadN (v := (.ref sb)) X hx 49 (hb hby D22_48) rfl rfl rfl ?_
  refine giloadN (v := (Int32.ofNat ((cs.map fun c => c.toInt8.toInt32).length + (own_dg nv).length))) X hx 50 (hb hby D22_49) rfl rfl ?_
  rw [own_cnt]
  show Go p e below _ T (mkF m 50 _ [(.int (Int32.ofNat (cs ++ own_dg nv).length)), (.ref sb)])
  refine gputF X hx hZ (host := "") hown (Or.inl (u110 hw)) Via.refl eT P4_Fld P1_Exa (Or.inl (u111 hw)) (u77 hw) (ty := .int) own_pf2 rfl rfl N ge_sb 53 (hb hby D22_50) rfl ?_
  clear X eT N; clear T; intro T h6 L X eT N W7
  have ne_va_sb : va ≠ sb := Ne.symm (Exa.neArv P1_Exa G5 (u77 hw))
  replace P0_Old := P0_Old.wr W7 ge_sb
  replace P1_Exa := P1_Exa.wr W7
  replace P2_Fld := P2_Fld.other W7 (Or.inr (slot_ne (Or.inl (u91 hw)) (Or.inl (u111 hw)) (by decide) own_pf0 own_pf2))
  replace P3_Fld := P3_Fld.other W7 (Or.inr (slot_ne (Or.inl (u93 hw)) (Or.inl (u111 hw)) (by decide) own_pf1 own_pf2))
  replace P4_Fld := P4_Fld.same W7
  replace G5 := G5.other W7 ne_va_sb
  replace K0 := K0.wr W7 (Or.inl (List.mem_of_getElem? (i := 0) rfl))
  replace sz_h : h0.size ≤ h6.size := by rw [Wr.size W7]; exact sz_h
  refine galoadN (v := (.ref sb)) X hx 54 (hb hby D22_53) rfl rfl rfl ?_
  exact gRetP X hx hlk hret rfl (Or.inr (Or.inr (Or.inr (Or.inr ⟨rfl, rfl, rfl⟩)))) (hb hby D22_54) eT (by decide) (by decide) ⟨rfl, N, K0, P2_Fld, P3_Fld, P4_Fld, G5⟩
theorem rmSIA (l : Launch) (Z : State) (a0 : Array Value) (hw : HW_ a0 Z) (sb : Addr) (va : Addr) (kv : ClassId) (cs : List Int32) (nv : Nat) (G1 : Int32) (d1 : Addr) (d2 : Addr) (k1 : ClassId) (k2 : ClassId) (zc : Int32) (h0 : Heap) (n0 : Nat) (Z0 : n0 ≤ h0.size) (ge_sb : n0 ≤ sb) (ge_va : n0 ≤ va) (P0_Old : Old Z n0 h0) (P1_Exa : Exa Z h0 sb "java/lang/StringBuilder") (P2_Fld : Fld Z h0 sb "java/lang/AbstractStringBuilder" "value" "[B" (.ref va)) (P3_Fld : Fld Z h0 sb "java/lang/AbstractStringBuilder" "coder" "B" (.int 0)) (P4_Fld : Fld Z h0 sb "java/lang/AbstractStringBuilder" "count" "I" (.int (Int32.ofNat cs.length))) (P5_Arv : Arv Z h0 va kv .byte zc ((cs.map fun c => c.toInt8.toInt32).map Value.int) (.int 0)) (O2 : Sta Z Z.heap "java/lang/String" "COMPACT_STRINGS" "Z" (.int G1)) (P5 : ¬ G1 = (0 : Int32)) (hnv : nv < 2147483648) (D1 : Sta Z Z.heap "java/lang/Integer" "DigitOnes" "[B" (.ref d1)) (D2 : Sta Z Z.heap "java/lang/Integer" "DigitTens" "[B" (.ref d2)) (T1 : Arv Z Z.heap d1 k1 .byte (100 : Int32) own_ones (.int 0)) (T2 : Arv Z Z.heap d2 k2 .byte (100 : Int32) own_tens (.int 0)) (hln : cs.length + (own_dg nv).length ≤ zc.toNatClampNeg) (hz34 : 0 < zc.toNatClampNeg ∧ zc.toNatClampNeg ≤ 34) :
    CtP l Y37 jdk_67_method_15_code 2 (some (.object "java/lang/StringBuilder")) [] ({ frames := 5, cells := 1, slots := 34, locals := 77 } : Room) Z #[(.ref sb), (.int (Int32.ofNat nv))] h0 (fun v h L => v = some (.ref sb) ∧ Fr n0 L ∧ Keep h0 h [sb, va] ∧ Fld Z h sb "java/lang/AbstractStringBuilder" "value" "[B" (.ref va) ∧ Fld Z h sb "java/lang/AbstractStringBuilder" "coder" "B" (.int 0) ∧ Fld Z h sb "java/lang/AbstractStringBuilder" "count" "I" (.int (Int32.ofNat (cs ++ own_dg nv).length)) ∧ Arv Z h va kv .byte zc (((cs ++ own_dg nv).map fun c => c.toInt8.toInt32).map Value.int) (.int 0)) := by
  refine CtP.walk (Ls := #[.val (.ref sb), .val (.int (Int32.ofNat nv))]) (plainFor_of_name own_pn1) (fun m => by first | (simp [entryFrame, mkF, argsToLocals, Value.category]; done) | rfl) ?_
  intro p e s m below meth cc_ T hx hby hml hown hnm hret hlk hZ X eT
  have N := Fr.nil n0
  have K0 := Keep.refl h0 [sb, va]
  have sz_h : h0.size ≤ h0.size := Nat.le_refl _
  refine galoadN (v := (.ref sb)) X hx 1 (hb hby D21_0) rfl rfl rfl ?_
  refine giloadN (v := (Int32.ofNat nv)) X hx 2 (hb hby D21_1) rfl rfl ?_
  refine gsuper (y := Y9) (a := sb) (argsL := [(.int (Int32.ofNat nv))]) (st := []) X hx hZ hown (u142 hw) (sm_sel (u143 hw) (u115 hw) rfl (by decide)) (u143 hw) (u102 hw) (by decide) (u145 hw) (Ins.self P1_Exa) (payP (W := 0) (rmAIA l Z a0 hw (sb) (va) (kv) (cs) (nv) (G1) (d1) (d2) (k1) (k2) (zc) h0 n0 (Nat.le_trans Z0 sz_h) ge_sb ge_va P0_Old P1_Exa P2_Fld P3_Fld P4_Fld P5_Arv (O2) (P5) (hnv) (D1) (D2) (T1) (T2) (hln) (hz34)) hZ (u145 hw) (u86 hw) (by decide) (by decide)) eT (by rw [hml]; rfl) (lenOf own_pd18 rfl) rfl (Nat.le_of_eq rfl) 0 0 rfl rfl (by decide) (by decide) 5 (hb hby D21_2) rfl ?_
  clear X eT; clear T; intro v T h1 L2 Lc X eT hL hQ2
  obtain ⟨rfl, Nq, K3, G5, G6, G7, G8⟩ := hQ2
  replace N : Fr n0 L2 := by rw [hL]; exact Fr.app N Nq
  clear Nq hL
  replace P0_Old := P0_Old.keep K3 (allS ge_sb (allS ge_va all0))
  replace P1_Exa := P1_Exa.keep K3
  replace K0 := K0.trans K3 (allS (Or.inl (List.mem_of_getElem? (i := 0) rfl)) (allS (Or.inl (List.mem_of_getElem? (i := 1) rfl)) all0))
  replace sz_h : h0.size ≤ h1.size := Nat.le_trans sz_h K3.1
  show Go p e below _ T (mkF m 5 _ [(.ref sb)])
  refine gpop X hx 6 (hb hby D21_5) rfl rfl ?_
  refine galoadN (v := (.ref sb)) X hx 7 (hb hby D21_6) rfl rfl rfl ?_
  exact gRetP X hx hlk hret rfl (Or.inr (Or.inr (Or.inr (Or.inr ⟨rfl, rfl, rfl⟩)))) (hb hby D21_7) eT (by decide) (by decide) ⟨rfl, N, K0, G5, G6, G7, G8⟩
theorem rmApI (l : Launch) (Z : State) (a0 : Array Value) (hw : HW_ a0 Z) (sb : Addr) (va : Addr) (kv : ClassId) (cs : List Int32) (nv : Nat) (G1 : Int32) (d1 : Addr) (d2 : Addr) (k1 : ClassId) (k2 : ClassId) (zc : Int32) (h0 : Heap) (n0 : Nat) (Z0 : n0 ≤ h0.size) (ge_sb : n0 ≤ sb) (ge_va : n0 ≤ va) (P0_Old : Old Z n0 h0) (P1_Exa : Exa Z h0 sb "java/lang/StringBuilder") (P2_Fld : Fld Z h0 sb "java/lang/AbstractStringBuilder" "value" "[B" (.ref va)) (P3_Fld : Fld Z h0 sb "java/lang/AbstractStringBuilder" "coder" "B" (.int 0)) (P4_Fld : Fld Z h0 sb "java/lang/AbstractStringBuilder" "count" "I" (.int (Int32.ofNat cs.length))) (P5_Arv : Arv Z h0 va kv .byte zc ((cs.map fun c => c.toInt8.toInt32).map Value.int) (.int 0)) (O2 : Sta Z Z.heap "java/lang/String" "COMPACT_STRINGS" "Z" (.int G1)) (P5 : ¬ G1 = (0 : Int32)) (hnv : nv < 2147483648) (D1 : Sta Z Z.heap "java/lang/Integer" "DigitOnes" "[B" (.ref d1)) (D2 : Sta Z Z.heap "java/lang/Integer" "DigitTens" "[B" (.ref d2)) (T1 : Arv Z Z.heap d1 k1 .byte (100 : Int32) own_ones (.int 0)) (T2 : Arv Z Z.heap d2 k2 .byte (100 : Int32) own_tens (.int 0)) (hz : zc = (16 : Int32) ∨ zc = (34 : Int32)) (hc16 : zc = (16 : Int32) → cs.length ≤ 16) (hln : cs.length + (own_dg nv).length ≤ 33) :
    CtP l Y37 jdk_67_method_15_code 2 (some (.object "java/lang/StringBuilder")) [] ({ frames := 5, cells := 1, slots := 34, locals := 77 } : Room) Z #[(.ref sb), (.int (Int32.ofNat nv))] h0 (fun v h L => ∃ (vb : Addr), ∃ (kw : ClassId), ∃ (ze : Int32), v = some (.ref sb) ∧ Fr n0 L ∧ Keep h0 h [sb, va] ∧ (vb = va ∨ h0.size ≤ vb) ∧ Fld Z h sb "java/lang/AbstractStringBuilder" "value" "[B" (.ref vb) ∧ Fld Z h sb "java/lang/AbstractStringBuilder" "coder" "B" (.int 0) ∧ Fld Z h sb "java/lang/AbstractStringBuilder" "count" "I" (.int (Int32.ofNat (cs ++ own_dg nv).length)) ∧ Arv Z h vb kw .byte ze (((cs ++ own_dg nv).map fun c => c.toInt8.toInt32).map Value.int) (.int 0) ∧ (ze = (16 : Int32) ∨ ze = (34 : Int32)) ∧ (ze = (16 : Int32) → (cs ++ own_dg nv).length ≤ 16 ∧ zc = (16 : Int32) ∧ kw = kv)) := by
  rcases hz with rfl | rfl
  · rcases Nat.lt_or_ge 16 (cs.length + (own_dg nv).length) with g | g
    · refine CtP.mono ?_ (rmSIG l Z a0 hw sb va kv cs nv G1 d1 d2 k1 k2 h0 n0 Z0 ge_sb P0_Old P1_Exa P2_Fld P3_Fld P4_Fld P5_Arv O2 P5 hnv D1 D2 T1 T2 hln (hc16 rfl) g)
      rintro v h L ⟨vb, kw, e1, N, K, z1, f1, f2, f3, f4⟩
      exact ⟨vb, kw, 34, e1, N, ⟨K.1, fun a c q r => K.2.1 a c q (fun z => r (List.mem_cons.mpr (Or.inl (List.mem_singleton.mp z)))), K.2.2⟩, Or.inr z1, f1, f2, f3, f4, Or.inr rfl, fun q => absurd q (by decide)⟩
    · refine CtP.mono ?_ (rmSIA l Z a0 hw sb va kv cs nv G1 d1 d2 k1 k2 16 h0 n0 Z0 ge_sb ge_va P0_Old P1_Exa P2_Fld P3_Fld P4_Fld P5_Arv O2 P5 hnv D1 D2 T1 T2 (Nat.le_trans g (by decide)) (by decide))
      rintro v h L ⟨e1, N, K, f1, f2, f3, f4⟩
      exact ⟨va, kv, 16, e1, N, K, Or.inl rfl, f1, f2, f3, f4, Or.inl rfl, fun _ => ⟨by rw [List.length_append]; exact g, rfl, rfl⟩⟩
  · refine CtP.mono ?_ (rmSIA l Z a0 hw sb va kv cs nv G1 d1 d2 k1 k2 34 h0 n0 Z0 ge_sb ge_va P0_Old P1_Exa P2_Fld P3_Fld P4_Fld P5_Arv O2 P5 hnv D1 D2 T1 T2 (Nat.le_trans hln (by decide)) (by decide))
    rintro v h L ⟨e1, N, K, f1, f2, f3, f4⟩
    exact ⟨va, kv, 34, e1, N, K, Or.inl rfl, f1, f2, f3, f4, Or.inr rfl, fun q => absurd q (by decide)⟩
theorem rm10 (l : Launch) (Z : State) (a0 : Array Value) (hw : HW_ a0 Z) (x : Addr) (G1 : Int32) (h0 : Heap) (n0 : Nat) (Z0 : n0 ≤ h0.size) (P0_Old : Old Z n0 h0) (P1_Fld : Fld Z h0 x "java/lang/String" "coder" "B" (.int 0)) (O2 : Sta Z Z.heap "java/lang/String" "COMPACT_STRINGS" "Z" (.int G1)) (P5 : ¬ G1 = (0 : Int32)) :
    CtP l Y32 jdk_42_method_154_code 1 (some .boolean) [] ({ frames := 0, cells := 0, slots := 0, locals := 0 } : Room) Z #[(.ref x)] h0 (fun v h L => v = some (.int 1) ∧ Fr n0 L ∧ h = h0) := by
  refine CtP.walk (Ls := #[.val (.ref x)]) own_pn14 (fun m => by first | (simp [entryFrame, mkF, argsToLocals, Value.category]; done) | rfl) ?_
  intro p e s m below meth cc_ T hx hby hml hown hnm hret hlk hZ X eT
  have N := Fr.nil n0
  have sz_h : h0.size ≤ h0.size := Nat.le_refl _
  refine ggetS X hx hZ (host := "") hown (Or.inl (u64 hw)) Via.refl eT (O2.ext P0_Old.2) 3 (hb hby D10_0) rfl ?_
  clear X eT; clear T; intro T X eT
  refine gifNo X hx 6 (hb hby D10_3) rfl ((if0 _ _).trans (feq P5).1) ?_
  refine galoadN (v := (.ref x)) X hx 7 (hb hby D10_6) rfl rfl rfl ?_
  refine ggetF X hx hZ (host := "") hown (Or.inl (u65 hw)) Via.refl eT P1_Fld 10 (hb hby D10_7) rfl ?_
  clear X eT; clear T; intro T X eT
  refine gifNo X hx 13 (hb hby D10_10) rfl (by decide) ?_
  refine giconst X hx (1 : Int32) 14 (hb hby D10_13) rfl rfl ?_
  refine ggoto X hx 18 (hb hby D10_14) (by decide) (by decide) ?_
  exact gRetP X hx hlk hret rfl (Or.inl ⟨rfl, by simp, _, rfl⟩) (hb hby D10_18) eT (by decide) (by decide) ⟨rfl, N, rfl⟩
theorem rm7 (l : Launch) (Z : State) (a0 : Array Value) (hw : HW_ a0 Z) (x : Addr) (h0 : Heap) (n0 : Nat) (Z0 : n0 ≤ h0.size) :
    CtP l Y34 jdk_42_method_126_code 1 (some (.object "java/lang/String")) [] ({ frames := 0, cells := 0, slots := 0, locals := 0 } : Room) Z #[(.ref x)] h0 (fun v h L => v = some (.ref x) ∧ Fr n0 L ∧ h = h0) := by
  refine CtP.walk (Ls := #[.val (.ref x)]) own_pn15 (fun m => by first | (simp [entryFrame, mkF, argsToLocals, Value.category]; done) | rfl) ?_
  intro p e s m below meth cc_ T hx hby hml hown hnm hret hlk hZ X eT
  have N := Fr.nil n0
  have sz_h : h0.size ≤ h0.size := Nat.le_refl _
  refine galoadN (v := (.ref x)) X hx 1 (hb hby D7_0) rfl rfl rfl ?_
  exact gRetP X hx hlk hret rfl (Or.inr (Or.inr (Or.inr (Or.inr ⟨rfl, rfl, rfl⟩)))) (hb hby D7_1) eT (by decide) (by decide) ⟨rfl, N, rfl⟩
theorem rmX5_3 (l : Launch) (Z : State) (a0 : Array Value) (hw : HW_ a0 Z) (t : Addr) (ty : Addr) (kt : ClassId) (ky : ClassId) (c0 : Int32) (c1 : Int32) (c2 : Int32) (h0 : Heap) (n0 : Nat) (Z0 : n0 ≤ h0.size) (P0_Arv : Arv Z h0 t kt .byte (3 : Int32) [(.int (c0.toInt8.toInt32)), (.int (c1.toInt8.toInt32)), (.int (c2.toInt8.toInt32))] (.int 0)) (P1_Arv : Arv Z h0 ty ky .byte (1 : Int32) [(.int 58)] (.int 0)) (r0 : ¬ c0 < 0 ∧ ¬ (255 : Int32) < c0) (r1 : ¬ c1 < 0 ∧ ¬ (255 : Int32) < c1) (r2 : ¬ c2 < 0 ∧ ¬ (255 : Int32) < c2) :
    CtP l Y42 jdk_43_method_25_code 11 (some .int) [] ({ frames := 0, cells := 0, slots := 0, locals := 0 } : Room) Z #[(.ref t), (.int 3), (.ref ty), (.int 1), (.int 0)] h0 (fun v h L => ∃ (ri : Int32), v = some (.int ri) ∧ Fr n0 L ∧ h = h0 ∧ ((¬ ri < 0 ∧ (58 : Int32) ∈ ([c0, c1, c2] : List Int32)) ∨ (ri < 0 ∧ ¬ (58 : Int32) ∈ ([c0, c1, c2] : List Int32)))) := by
  refine CtP.walk (Ls := #[.val (.ref t), .val (.int 3), .val (.ref ty), .val (.int 1), .val (.int 0), .unset, .unset, .unset, .unset, .unset, .unset]) (plainFor_of_name own_pn16) (fun m => by first | (simp [entryFrame, mkF, argsToLocals, Value.category]; done) | rfl) ?_
  intro p e s m below meth cc_ T hx hby hml hown hnm hret hlk hZ X eT
  have N := Fr.nil n0
  have sz_h : h0.size ≤ h0.size := Nat.le_refl _
  refine galoadN (v := (.ref ty)) X hx 1 (hb hby D49_0) rfl rfl rfl ?_
  refine giconst X hx (0 : Int32) 2 (hb hby D49_1) rfl rfl ?_
  refine gbaload X hx hZ eT P1_Arv (.int 58) (by decide) (by decide) rfl 3 (hb hby D49_2) rfl ?_
  refine gistore X hx #[.val (.ref t), .val (.int 3), .val (.ref ty), .val (.int 1), .val (.int 0), .val (.int 58), .unset, .unset, .unset, .unset, .unset] 5 (hb hby D49_3) rfl rfl ?_
  refine giloadN (v := (3 : Int32)) X hx 6 (hb hby D49_5) rfl rfl ?_
  refine giloadN (v := (1 : Int32)) X hx 7 (hb hby D49_6) rfl rfl ?_
  refine gisub X hx 8 (hb hby D49_7) rfl ?_
  rw [show ((3 : Int32) - (1 : Int32)) = (2 : Int32) from by decide]
  refine gistore X hx #[.val (.ref t), .val (.int 3), .val (.ref ty), .val (.int 1), .val (.int 0), .val (.int 58), .val (.int 2), .unset, .unset, .unset, .unset] 10 (hb hby D49_8) rfl rfl ?_
  refine giload (v := (0 : Int32)) X hx 12 (hb hby D49_10) rfl rfl ?_
  refine gistore X hx #[.val (.ref t), .val (.int 3), .val (.ref ty), .val (.int 1), .val (.int 0), .val (.int 58), .val (.int 2), .val (.int 0), .unset, .unset, .unset] 14 (hb hby D49_12) rfl rfl ?_
  refine giload (v := (0 : Int32)) X hx 16 (hb hby D49_14) rfl rfl ?_
  refine giload (v := (2 : Int32)) X hx 18 (hb hby D49_16) rfl rfl ?_
  refine gicmpNo X hx 21 (hb hby D49_18) rfl (by decide) ?_
  refine galoadN (v := (.ref t)) X hx 22 (hb hby D49_21) rfl rfl rfl ?_
  refine giload (v := (0 : Int32)) X hx 24 (hb hby D49_22) rfl rfl ?_
  refine gbaload X hx hZ eT P0_Arv (.int (c0.toInt8.toInt32)) (by decide) (by decide) rfl 25 (hb hby D49_24) rfl ?_
  refine giload (v := (58 : Int32)) X hx 27 (hb hby D49_25) rfl rfl ?_
  rcases Decidable.em ((c0.toInt8.toInt32) = (58 : Int32)) with s0 | s0
  · refine gicmpYes X hx 52 (hb hby D49_27) (teq s0).1 (by decide) (by decide) ?_
    refine giload (v := (0 : Int32)) X hx 54 (hb hby D49_52) rfl rfl ?_
    refine giload (v := (2 : Int32)) X hx 56 (hb hby D49_54) rfl rfl ?_
    refine gicmpNo X hx 59 (hb hby D49_56) rfl (by decide) ?_
    refine giload (v := (0 : Int32)) X hx 61 (hb hby D49_59) rfl rfl ?_
    refine giconst X hx (1 : Int32) 62 (hb hby D49_61) rfl rfl ?_
    refine giadd X hx 63 (hb hby D49_62) rfl ?_
    rw [show ((0 : Int32) + (1 : Int32)) = (1 : Int32) from by decide]
    refine gistore X hx #[.val (.ref t), .val (.int 3), .val (.ref ty), .val (.int 1), .val (.int 0), .val (.int 58), .val (.int 2), .val (.int 0), .val (.int 1), .unset, .unset] 65 (hb hby D49_63) rfl rfl ?_
    refine giload (v := (1 : Int32)) X hx 67 (hb hby D49_65) rfl rfl ?_
    refine giloadN (v := (1 : Int32)) X hx 68 (hb hby D49_67) rfl rfl ?_
    refine giadd X hx 69 (hb hby D49_68) rfl ?_
    rw [show ((1 : Int32) + (1 : Int32)) = (2 : Int32) from by decide]
    refine giconst X hx (1 : Int32) 70 (hb hby D49_69) rfl rfl ?_
    refine gisub X hx 71 (hb hby D49_70) rfl ?_
    rw [show ((2 : Int32) - (1 : Int32)) = (1 : Int32) from by decide]
    refine gistore X hx #[.val (.ref t), .val (.int 3), .val (.ref ty), .val (.int 1), .val (.int 0), .val (.int 58), .val (.int 2), .val (.int 0), .val (.int 1), .val (.int 1), .unset] 73 (hb hby D49_71) rfl rfl ?_
    refine giconst X hx (1 : Int32) 74 (hb hby D49_73) rfl rfl ?_
    refine gistore X hx #[.val (.ref t), .val (.int 3), .val (.ref ty), .val (.int 1), .val (.int 0), .val (.int 58), .val (.int 2), .val (.int 0), .val (.int 1), .val (.int 1), .val (.int 1)] 76 (hb hby D49_74) rfl rfl ?_
    refine giload (v := (1 : Int32)) X hx 78 (hb hby D49_76) rfl rfl ?_
    refine giload (v := (1 : Int32)) X hx 80 (hb hby D49_78) rfl rfl ?_
    refine gicmpYes X hx 103 (hb hby D49_80) (by decide) (by decide) (by decide) ?_
    refine giload (v := (1 : Int32)) X hx 105 (hb hby D49_103) rfl rfl ?_
    refine giload (v := (1 : Int32)) X hx 107 (hb hby D49_105) rfl rfl ?_
    refine gicmpNo X hx 110 (hb hby D49_107) rfl (by decide) ?_
    refine giload (v := (0 : Int32)) X hx 112 (hb hby D49_110) rfl rfl ?_
    exact gRetP X hx hlk hret rfl (Or.inl ⟨rfl, by simp, _, rfl⟩) (hb hby D49_112) eT (by decide) (by decide) ⟨(0 : Int32), rfl, N, rfl, Or.inl ⟨by decide, by have e := (own_b58 r0).mp s0; subst e; simp⟩⟩
  · refine gicmpNo X hx 30 (hb hby D49_27) rfl (feq s0).1 ?_
    refine giinc X hx #[.val (.ref t), .val (.int 3), .val (.ref ty), .val (.int 1), .val (.int 0), .val (.int 58), .val (.int 2), .val (.int 1), .unset, .unset, .unset] 33 (hb hby D49_30) rfl rfl rfl ?_
    refine giload (v := (1 : Int32)) X hx 35 (hb hby D49_33) rfl rfl ?_
    refine giload (v := (2 : Int32)) X hx 37 (hb hby D49_35) rfl rfl ?_
    refine gicmpNo X hx 40 (hb hby D49_37) rfl (by decide) ?_
    refine galoadN (v := (.ref t)) X hx 41 (hb hby D49_40) rfl rfl rfl ?_
    refine giload (v := (1 : Int32)) X hx 43 (hb hby D49_41) rfl rfl ?_
    refine gbaload X hx hZ eT P0_Arv (.int (c1.toInt8.toInt32)) (by decide) (by decide) rfl 44 (hb hby D49_43) rfl ?_
    refine giload (v := (58 : Int32)) X hx 46 (hb hby D49_44) rfl rfl ?_
    rcases Decidable.em ((c1.toInt8.toInt32) = (58 : Int32)) with s1 | s1
    · refine gicmpYes X hx 52 (hb hby D49_46) (teq s1).1 (by decide) (by decide) ?_
      refine giload (v := (1 : Int32)) X hx 54 (hb hby D49_52) rfl rfl ?_
      refine giload (v := (2 : Int32)) X hx 56 (hb hby D49_54) rfl rfl ?_
      refine gicmpNo X hx 59 (hb hby D49_56) rfl (by decide) ?_
      refine giload (v := (1 : Int32)) X hx 61 (hb hby D49_59) rfl rfl ?_
      refine giconst X hx (1 : Int32) 62 (hb hby D49_61) rfl rfl ?_
      refine giadd X hx 63 (hb hby D49_62) rfl ?_
      rw [show ((1 : Int32) + (1 : Int32)) = (2 : Int32) from by decide]
      refine gistore X hx #[.val (.ref t), .val (.int 3), .val (.ref ty), .val (.int 1), .val (.int 0), .val (.int 58), .val (.int 2), .val (.int 1), .val (.int 2), .unset, .unset] 65 (hb hby D49_63) rfl rfl ?_
      refine giload (v := (2 : Int32)) X hx 67 (hb hby D49_65) rfl rfl ?_
      refine giloadN (v := (1 : Int32)) X hx 68 (hb hby D49_67) rfl rfl ?_
      refine giadd X hx 69 (hb hby D49_68) rfl ?_
      rw [show ((2 : Int32) + (1 : Int32)) = (3 : Int32) from by decide]
      refine giconst X hx (1 : Int32) 70 (hb hby D49_69) rfl rfl ?_
      refine gisub X hx 71 (hb hby D49_70) rfl ?_
      rw [show ((3 : Int32) - (1 : Int32)) = (2 : Int32) from by decide]
      refine gistore X hx #[.val (.ref t), .val (.int 3), .val (.ref ty), .val (.int 1), .val (.int 0), .val (.int 58), .val (.int 2), .val (.int 1), .val (.int 2), .val (.int 2), .unset] 73 (hb hby D49_71) rfl rfl ?_
      refine giconst X hx (1 : Int32) 74 (hb hby D49_73) rfl rfl ?_
      refine gistore X hx #[.val (.ref t), .val (.int 3), .val (.ref ty), .val (.int 1), .val (.int 0), .val (.int 58), .val (.int 2), .val (.int 1), .val (.int 2), .val (.int 2), .val (.int 1)] 76 (hb hby D49_74) rfl rfl ?_
      refine giload (v := (2 : Int32)) X hx 78 (hb hby D49_76) rfl rfl ?_
      refine giload (v := (2 : Int32)) X hx 80 (hb hby D49_78) rfl rfl ?_
      refine gicmpYes X hx 103 (hb hby D49_80) (by decide) (by decide) (by decide) ?_
      refine giload (v := (2 : Int32)) X hx 105 (hb hby D49_103) rfl rfl ?_
      refine giload (v := (2 : Int32)) X hx 107 (hb hby D49_105) rfl rfl ?_
      refine gicmpNo X hx 110 (hb hby D49_107) rfl (by decide) ?_
      refine giload (v := (1 : Int32)) X hx 112 (hb hby D49_110) rfl rfl ?_
      exact gRetP X hx hlk hret rfl (Or.inl ⟨rfl, by simp, _, rfl⟩) (hb hby D49_112) eT (by decide) (by decide) ⟨(1 : Int32), rfl, N, rfl, Or.inl ⟨by decide, by have e := (own_b58 r1).mp s1; subst e; simp⟩⟩
    · refine gicmpNo X hx 49 (hb hby D49_46) rfl (feq s1).1 ?_
      refine ggoto X hx 30 (hb hby D49_49) (by decide) (by decide) ?_
      refine giinc X hx #[.val (.ref t), .val (.int 3), .val (.ref ty), .val (.int 1), .val (.int 0), .val (.int 58), .val (.int 2), .val (.int 2), .unset, .unset, .unset] 33 (hb hby D49_30) rfl rfl rfl ?_
      refine giload (v := (2 : Int32)) X hx 35 (hb hby D49_33) rfl rfl ?_
      refine giload (v := (2 : Int32)) X hx 37 (hb hby D49_35) rfl rfl ?_
      refine gicmpNo X hx 40 (hb hby D49_37) rfl (by decide) ?_
      refine galoadN (v := (.ref t)) X hx 41 (hb hby D49_40) rfl rfl rfl ?_
      refine giload (v := (2 : Int32)) X hx 43 (hb hby D49_41) rfl rfl ?_
      refine gbaload X hx hZ eT P0_Arv (.int (c2.toInt8.toInt32)) (by decide) (by decide) rfl 44 (hb hby D49_43) rfl ?_
      refine giload (v := (58 : Int32)) X hx 46 (hb hby D49_44) rfl rfl ?_
      rcases Decidable.em ((c2.toInt8.toInt32) = (58 : Int32)) with s2 | s2
      · refine gicmpYes X hx 52 (hb hby D49_46) (teq s2).1 (by decide) (by decide) ?_
        refine giload (v := (2 : Int32)) X hx 54 (hb hby D49_52) rfl rfl ?_
        refine giload (v := (2 : Int32)) X hx 56 (hb hby D49_54) rfl rfl ?_
        refine gicmpNo X hx 59 (hb hby D49_56) rfl (by decide) ?_
        refine giload (v := (2 : Int32)) X hx 61 (hb hby D49_59) rfl rfl ?_
        refine giconst X hx (1 : Int32) 62 (hb hby D49_61) rfl rfl ?_
        refine giadd X hx 63 (hb hby D49_62) rfl ?_
        rw [show ((2 : Int32) + (1 : Int32)) = (3 : Int32) from by decide]
        refine gistore X hx #[.val (.ref t), .val (.int 3), .val (.ref ty), .val (.int 1), .val (.int 0), .val (.int 58), .val (.int 2), .val (.int 2), .val (.int 3), .unset, .unset] 65 (hb hby D49_63) rfl rfl ?_
        refine giload (v := (3 : Int32)) X hx 67 (hb hby D49_65) rfl rfl ?_
        refine giloadN (v := (1 : Int32)) X hx 68 (hb hby D49_67) rfl rfl ?_
        refine giadd X hx 69 (hb hby D49_68) rfl ?_
        rw [show ((3 : Int32) + (1 : Int32)) = (4 : Int32) from by decide]
        refine giconst X hx (1 : Int32) 70 (hb hby D49_69) rfl rfl ?_
        refine gisub X hx 71 (hb hby D49_70) rfl ?_
        rw [show ((4 : Int32) - (1 : Int32)) = (3 : Int32) from by decide]
        refine gistore X hx #[.val (.ref t), .val (.int 3), .val (.ref ty), .val (.int 1), .val (.int 0), .val (.int 58), .val (.int 2), .val (.int 2), .val (.int 3), .val (.int 3), .unset] 73 (hb hby D49_71) rfl rfl ?_
        refine giconst X hx (1 : Int32) 74 (hb hby D49_73) rfl rfl ?_
        refine gistore X hx #[.val (.ref t), .val (.int 3), .val (.ref ty), .val (.int 1), .val (.int 0), .val (.int 58), .val (.int 2), .val (.int 2), .val (.int 3), .val (.int 3), .val (.int 1)] 76 (hb hby D49_74) rfl rfl ?_
        refine giload (v := (3 : Int32)) X hx 78 (hb hby D49_76) rfl rfl ?_
        refine giload (v := (3 : Int32)) X hx 80 (hb hby D49_78) rfl rfl ?_
        refine gicmpYes X hx 103 (hb hby D49_80) (by decide) (by decide) (by decide) ?_
        refine giload (v := (3 : Int32)) X hx 105 (hb hby D49_103) rfl rfl ?_
        refine giload (v := (3 : Int32)) X hx 107 (hb hby D49_105) rfl rfl ?_
        refine gicmpNo X hx 110 (hb hby D49_107) rfl (by decide) ?_
        refine giload (v := (2 : Int32)) X hx 112 (hb hby D49_110) rfl rfl ?_
        exact gRetP X hx hlk hret rfl (Or.inl ⟨rfl, by simp, _, rfl⟩) (hb hby D49_112) eT (by decide) (by decide) ⟨(2 : Int32), rfl, N, rfl, Or.inl ⟨by decide, by have e := (own_b58 r2).mp s2; subst e; simp⟩⟩
      · refine gicmpNo X hx 49 (hb hby D49_46) rfl (feq s2).1 ?_
        refine ggoto X hx 30 (hb hby D49_49) (by decide) (by decide) ?_
        refine giinc X hx #[.val (.ref t), .val (.int 3), .val (.ref ty), .val (.int 1), .val (.int 0), .val (.int 58), .val (.int 2), .val (.int 3), .unset, .unset, .unset] 33 (hb hby D49_30) rfl rfl rfl ?_
        refine giload (v := (3 : Int32)) X hx 35 (hb hby D49_33) rfl rfl ?_
        refine giload (v := (2 : Int32)) X hx 37 (hb hby D49_35) rfl rfl ?_
        refine gicmpYes X hx 52 (hb hby D49_37) (by decide) (by decide) (by decide) ?_
        refine giload (v := (3 : Int32)) X hx 54 (hb hby D49_52) rfl rfl ?_
        refine giload (v := (2 : Int32)) X hx 56 (hb hby D49_54) rfl rfl ?_
        refine gicmpYes X hx 113 (hb hby D49_56) (by decide) (by decide) (by decide) ?_
        refine giinc X hx #[.val (.ref t), .val (.int 3), .val (.ref ty), .val (.int 1), .val (.int 0), .val (.int 58), .val (.int 2), .val (.int 4), .unset, .unset, .unset] 116 (hb hby D49_113) rfl rfl rfl ?_
        refine ggoto X hx 14 (hb hby D49_116) (by decide) (by decide) ?_
        refine giload (v := (4 : Int32)) X hx 16 (hb hby D49_14) rfl rfl ?_
        refine giload (v := (2 : Int32)) X hx 18 (hb hby D49_16) rfl rfl ?_
        refine gicmpYes X hx 119 (hb hby D49_18) (by decide) (by decide) (by decide) ?_
        refine giconst X hx (-1 : Int32) 120 (hb hby D49_119) rfl rfl ?_
        exact gRetP X hx hlk hret rfl (Or.inl ⟨rfl, by simp, _, rfl⟩) (hb hby D49_120) eT (by decide) (by decide) ⟨(-1 : Int32), rfl, N, rfl, Or.inr ⟨by decide, by intro hm; simp only [List.mem_cons, List.not_mem_nil, or_false] at hm; rcases hm with e | hm; exact s0 ((own_b58 r0).mpr e.symm); rcases hm with e | hm; exact s1 ((own_b58 r1).mpr e.symm); exact s2 ((own_b58 r2).mpr hm.symm)⟩⟩
theorem rmX2_3 (l : Launch) (Z : State) (a0 : Array Value) (hw : HW_ a0 Z) (t : Addr) (ty : Addr) (kt : ClassId) (ky : ClassId) (c0 : Int32) (c1 : Int32) (c2 : Int32) (h0 : Heap) (n0 : Nat) (Z0 : n0 ≤ h0.size) (P0_Arv : Arv Z h0 t kt .byte (3 : Int32) [(.int (c0.toInt8.toInt32)), (.int (c1.toInt8.toInt32)), (.int (c2.toInt8.toInt32))] (.int 0)) (P1_Arv : Arv Z h0 ty ky .byte (1 : Int32) [(.int 58)] (.int 0)) (r0 : ¬ c0 < 0 ∧ ¬ (255 : Int32) < c0) (r1 : ¬ c1 < 0 ∧ ¬ (255 : Int32) < c1) (r2 : ¬ c2 < 0 ∧ ¬ (255 : Int32) < c2) :
    CtP l Y43 jdk_43_method_24_code 2 (some .int) [] ({ frames := 1, cells := 0, slots := 0, locals := 22 } : Room) Z #[(.ref t), (.ref ty)] h0 (fun v h L => ∃ (ri : Int32), v = some (.int ri) ∧ Fr n0 L ∧ h = h0 ∧ ((¬ ri < 0 ∧ (58 : Int32) ∈ ([c0, c1, c2] : List Int32)) ∨ (ri < 0 ∧ ¬ (58 : Int32) ∈ ([c0, c1, c2] : List Int32)))) := by
  refine CtP.walk (Ls := #[.val (.ref t), .val (.ref ty)]) (plainFor_of_name own_pn16) (fun m => by first | (simp [entryFrame, mkF, argsToLocals, Value.category]; done) | rfl) ?_
  intro p e s m below meth cc_ T hx hby hml hown hnm hret hlk hZ X eT
  have N := Fr.nil n0
  have sz_h : h0.size ≤ h0.size := Nat.le_refl _
  refine galoadN (v := (.ref ty)) X hx 1 (hb hby D11_0) rfl rfl rfl ?_
  refine garrlen X hx hZ eT P1_Arv 2 (hb hby D11_1) rfl ?_
  refine gifYes X hx 7 (hb hby D11_2) (by decide) (by decide) (by decide) ?_
  refine galoadN (v := (.ref t)) X hx 8 (hb hby D11_7) rfl rfl rfl ?_
  refine garrlen X hx hZ eT P0_Arv 9 (hb hby D11_8) rfl ?_
  refine gifYes X hx 14 (hb hby D11_9) (by decide) (by decide) (by decide) ?_
  refine galoadN (v := (.ref t)) X hx 15 (hb hby D11_14) rfl rfl rfl ?_
  refine galoadN (v := (.ref t)) X hx 16 (hb hby D11_15) rfl rfl rfl ?_
  refine garrlen X hx hZ eT P0_Arv 17 (hb hby D11_16) rfl ?_
  refine galoadN (v := (.ref ty)) X hx 18 (hb hby D11_17) rfl rfl rfl ?_
  refine galoadN (v := (.ref ty)) X hx 19 (hb hby D11_18) rfl rfl rfl ?_
  refine garrlen X hx hZ eT P1_Arv 20 (hb hby D11_19) rfl ?_
  refine giconst X hx (0 : Int32) 21 (hb hby D11_20) rfl rfl ?_
  refine gstatic (y := Y42) (argsL := [(.ref t), (.int 3), (.ref ty), (.int 1), (.int 0)]) (st := []) X hx hZ hown (u248 hw) (u249 hw) (u74 hw) (u250 hw) (by decide) (payP (W := 0) (rmX5_3 l Z a0 hw (t) (ty) (kt) (ky) _ _ _ h0 n0 (Nat.le_trans Z0 sz_h) P0_Arv P1_Arv (r0) (r1) (r2)) hZ (u250 hw) (u74 hw) (by decide) (by decide)) eT (by rw [hml]; rfl) (lenOf own_pd19 rfl) rfl (Nat.le_of_eq rfl) 0 0 rfl rfl (by decide) (by decide) 24 (hb hby D11_21) rfl ?_
  clear X eT; clear T; intro v T h1 L2 Lc X eT hL hQ2
  obtain ⟨ri_3, rfl, Nq, hh, pp6⟩ := hQ2
  replace N : Fr n0 L2 := by rw [hL]; exact Fr.app N Nq
  clear Nq hL
  replace hh := hh.symm; subst hh
  show Go p e below _ T (mkF m 24 _ [(.int ri_3)])
  exact gRetP X hx hlk hret rfl (Or.inl ⟨rfl, by simp, _, rfl⟩) (hb hby D11_24) eT (by decide) (by decide) ⟨ri_3, rfl, N, rfl, pp6⟩
theorem rmX5_2 (l : Launch) (Z : State) (a0 : Array Value) (hw : HW_ a0 Z) (t : Addr) (ty : Addr) (kt : ClassId) (ky : ClassId) (c0 : Int32) (c1 : Int32) (h0 : Heap) (n0 : Nat) (Z0 : n0 ≤ h0.size) (P0_Arv : Arv Z h0 t kt .byte (2 : Int32) [(.int (c0.toInt8.toInt32)), (.int (c1.toInt8.toInt32))] (.int 0)) (P1_Arv : Arv Z h0 ty ky .byte (1 : Int32) [(.int 58)] (.int 0)) (r0 : ¬ c0 < 0 ∧ ¬ (255 : Int32) < c0) (r1 : ¬ c1 < 0 ∧ ¬ (255 : Int32) < c1) :
    CtP l Y42 jdk_43_method_25_code 11 (some .int) [] ({ frames := 0, cells := 0, slots := 0, locals := 0 } : Room) Z #[(.ref t), (.int 2), (.ref ty), (.int 1), (.int 0)] h0 (fun v h L => ∃ (ri : Int32), v = some (.int ri) ∧ Fr n0 L ∧ h = h0 ∧ ((¬ ri < 0 ∧ (58 : Int32) ∈ ([c0, c1] : List Int32)) ∨ (ri < 0 ∧ ¬ (58 : Int32) ∈ ([c0, c1] : List Int32)))) := by
  refine CtP.walk (Ls := #[.val (.ref t), .val (.int 2), .val (.ref ty), .val (.int 1), .val (.int 0), .unset, .unset, .unset, .unset, .unset, .unset]) (plainFor_of_name own_pn16) (fun m => by first | (simp [entryFrame, mkF, argsToLocals, Value.category]; done) | rfl) ?_
  intro p e s m below meth cc_ T hx hby hml hown hnm hret hlk hZ X eT
  have N := Fr.nil n0
  have sz_h : h0.size ≤ h0.size := Nat.le_refl _
  refine galoadN (v := (.ref ty)) X hx 1 (hb hby D49_0) rfl rfl rfl ?_
  refine giconst X hx (0 : Int32) 2 (hb hby D49_1) rfl rfl ?_
  refine gbaload X hx hZ eT P1_Arv (.int 58) (by decide) (by decide) rfl 3 (hb hby D49_2) rfl ?_
  refine gistore X hx #[.val (.ref t), .val (.int 2), .val (.ref ty), .val (.int 1), .val (.int 0), .val (.int 58), .unset, .unset, .unset, .unset, .unset] 5 (hb hby D49_3) rfl rfl ?_
  refine giloadN (v := (2 : Int32)) X hx 6 (hb hby D49_5) rfl rfl ?_
  refine giloadN (v := (1 : Int32)) X hx 7 (hb hby D49_6) rfl rfl ?_
  refine gisub X hx 8 (hb hby D49_7) rfl ?_
  rw [show ((2 : Int32) - (1 : Int32)) = (1 : Int32) from by decide]
  refine gistore X hx #[.val (.ref t), .val (.int 2), .val (.ref ty), .val (.int 1), .val (.int 0), .val (.int 58), .val (.int 1), .unset, .unset, .unset, .unset] 10 (hb hby D49_8) rfl rfl ?_
  refine giload (v := (0 : Int32)) X hx 12 (hb hby D49_10) rfl rfl ?_
  refine gistore X hx #[.val (.ref t), .val (.int 2), .val (.ref ty), .val (.int 1), .val (.int 0), .val (.int 58), .val (.int 1), .val (.int 0), .unset, .unset, .unset] 14 (hb hby D49_12) rfl rfl ?_
  refine giload (v := (0 : Int32)) X hx 16 (hb hby D49_14) rfl rfl ?_
  refine giload (v := (1 : Int32)) X hx 18 (hb hby D49_16) rfl rfl ?_
  refine gicmpNo X hx 21 (hb hby D49_18) rfl (by decide) ?_
  refine galoadN (v := (.ref t)) X hx 22 (hb hby D49_21) rfl rfl rfl ?_
  refine giload (v := (0 : Int32)) X hx 24 (hb hby D49_22) rfl rfl ?_
  refine gbaload X hx hZ eT P0_Arv (.int (c0.toInt8.toInt32)) (by decide) (by decide) rfl 25 (hb hby D49_24) rfl ?_
  refine giload (v := (58 : Int32)) X hx 27 (hb hby D49_25) rfl rfl ?_
  rcases Decidable.em ((c0.toInt8.toInt32) = (58 : Int32)) with s0 | s0
  · refine gicmpYes X hx 52 (hb hby D49_27) (teq s0).1 (by decide) (by decide) ?_
    refine giload (v := (0 : Int32)) X hx 54 (hb hby D49_52) rfl rfl ?_
    refine giload (v := (1 : Int32)) X hx 56 (hb hby D49_54) rfl rfl ?_
    refine gicmpNo X hx 59 (hb hby D49_56) rfl (by decide) ?_
    refine giload (v := (0 : Int32)) X hx 61 (hb hby D49_59) rfl rfl ?_
    refine giconst X hx (1 : Int32) 62 (hb hby D49_61) rfl rfl ?_
    refine giadd X hx 63 (hb hby D49_62) rfl ?_
    rw [show ((0 : Int32) + (1 : Int32)) = (1 : Int32) from by decide]
    refine gistore X hx #[.val (.ref t), .val (.int 2), .val (.ref ty), .val (.int 1), .val (.int 0), .val (.int 58), .val (.int 1), .val (.int 0), .val (.int 1), .unset, .unset] 65 (hb hby D49_63) rfl rfl ?_
    refine giload (v := (1 : Int32)) X hx 67 (hb hby D49_65) rfl rfl ?_
    refine giloadN (v := (1 : Int32)) X hx 68 (hb hby D49_67) rfl rfl ?_
    refine giadd X hx 69 (hb hby D49_68) rfl ?_
    rw [show ((1 : Int32) + (1 : Int32)) = (2 : Int32) from by decide]
    refine giconst X hx (1 : Int32) 70 (hb hby D49_69) rfl rfl ?_
    refine gisub X hx 71 (hb hby D49_70) rfl ?_
    rw [show ((2 : Int32) - (1 : Int32)) = (1 : Int32) from by decide]
    refine gistore X hx #[.val (.ref t), .val (.int 2), .val (.ref ty), .val (.int 1), .val (.int 0), .val (.int 58), .val (.int 1), .val (.int 0), .val (.int 1), .val (.int 1), .unset] 73 (hb hby D49_71) rfl rfl ?_
    refine giconst X hx (1 : Int32) 74 (hb hby D49_73) rfl rfl ?_
    refine gistore X hx #[.val (.ref t), .val (.int 2), .val (.ref ty), .val (.int 1), .val (.int 0), .val (.int 58), .val (.int 1), .val (.int 0), .val (.int 1), .val (.int 1), .val (.int 1)] 76 (hb hby D49_74) rfl rfl ?_
    refine giload (v := (1 : Int32)) X hx 78 (hb hby D49_76) rfl rfl ?_
    refine giload (v := (1 : Int32)) X hx 80 (hb hby D49_78) rfl rfl ?_
    refine gicmpYes X hx 103 (hb hby D49_80) (by decide) (by decide) (by decide) ?_
    refine giload (v := (1 : Int32)) X hx 105 (hb hby D49_103) rfl rfl ?_
    refine giload (v := (1 : Int32)) X hx 107 (hb hby D49_105) rfl rfl ?_
    refine gicmpNo X hx 110 (hb hby D49_107) rfl (by decide) ?_
    refine giload (v := (0 : Int32)) X hx 112 (hb hby D49_110) rfl rfl ?_
    exact gRetP X hx hlk hret rfl (Or.inl ⟨rfl, by simp, _, rfl⟩) (hb hby D49_112) eT (by decide) (by decide) ⟨(0 : Int32), rfl, N, rfl, Or.inl ⟨by decide, by have e := (own_b58 r0).mp s0; subst e; simp⟩⟩
  · refine gicmpNo X hx 30 (hb hby D49_27) rfl (feq s0).1 ?_
    refine giinc X hx #[.val (.ref t), .val (.int 2), .val (.ref ty), .val (.int 1), .val (.int 0), .val (.int 58), .val (.int 1), .val (.int 1), .unset, .unset, .unset] 33 (hb hby D49_30) rfl rfl rfl ?_
    refine giload (v := (1 : Int32)) X hx 35 (hb hby D49_33) rfl rfl ?_
    refine giload (v := (1 : Int32)) X hx 37 (hb hby D49_35) rfl rfl ?_
    refine gicmpNo X hx 40 (hb hby D49_37) rfl (by decide) ?_
    refine galoadN (v := (.ref t)) X hx 41 (hb hby D49_40) rfl rfl rfl ?_
    refine giload (v := (1 : Int32)) X hx 43 (hb hby D49_41) rfl rfl ?_
    refine gbaload X hx hZ eT P0_Arv (.int (c1.toInt8.toInt32)) (by decide) (by decide) rfl 44 (hb hby D49_43) rfl ?_
    refine giload (v := (58 : Int32)) X hx 46 (hb hby D49_44) rfl rfl ?_
    rcases Decidable.em ((c1.toInt8.toInt32) = (58 : Int32)) with s1 | s1
    · refine gicmpYes X hx 52 (hb hby D49_46) (teq s1).1 (by decide) (by decide) ?_
      refine giload (v := (1 : Int32)) X hx 54 (hb hby D49_52) rfl rfl ?_
      refine giload (v := (1 : Int32)) X hx 56 (hb hby D49_54) rfl rfl ?_
      refine gicmpNo X hx 59 (hb hby D49_56) rfl (by decide) ?_
      refine giload (v := (1 : Int32)) X hx 61 (hb hby D49_59) rfl rfl ?_
      refine giconst X hx (1 : Int32) 62 (hb hby D49_61) rfl rfl ?_
      refine giadd X hx 63 (hb hby D49_62) rfl ?_
      rw [show ((1 : Int32) + (1 : Int32)) = (2 : Int32) from by decide]
      refine gistore X hx #[.val (.ref t), .val (.int 2), .val (.ref ty), .val (.int 1), .val (.int 0), .val (.int 58), .val (.int 1), .val (.int 1), .val (.int 2), .unset, .unset] 65 (hb hby D49_63) rfl rfl ?_
      refine giload (v := (2 : Int32)) X hx 67 (hb hby D49_65) rfl rfl ?_
      refine giloadN (v := (1 : Int32)) X hx 68 (hb hby D49_67) rfl rfl ?_
      refine giadd X hx 69 (hb hby D49_68) rfl ?_
      rw [show ((2 : Int32) + (1 : Int32)) = (3 : Int32) from by decide]
      refine giconst X hx (1 : Int32) 70 (hb hby D49_69) rfl rfl ?_
      refine gisub X hx 71 (hb hby D49_70) rfl ?_
      rw [show ((3 : Int32) - (1 : Int32)) = (2 : Int32) from by decide]
      refine gistore X hx #[.val (.ref t), .val (.int 2), .val (.ref ty), .val (.int 1), .val (.int 0), .val (.int 58), .val (.int 1), .val (.int 1), .val (.int 2), .val (.int 2), .unset] 73 (hb hby D49_71) rfl rfl ?_
      refine giconst X hx (1 : Int32) 74 (hb hby D49_73) rfl rfl ?_
      refine gistore X hx #[.val (.ref t), .val (.int 2), .val (.ref ty), .val (.int 1), .val (.int 0), .val (.int 58), .val (.int 1), .val (.int 1), .val (.int 2), .val (.int 2), .val (.int 1)] 76 (hb hby D49_74) rfl rfl ?_
      refine giload (v := (2 : Int32)) X hx 78 (hb hby D49_76) rfl rfl ?_
      refine giload (v := (2 : Int32)) X hx 80 (hb hby D49_78) rfl rfl ?_
      refine gicmpYes X hx 103 (hb hby D49_80) (by decide) (by decide) (by decide) ?_
      refine giload (v := (2 : Int32)) X hx 105 (hb hby D49_103) rfl rfl ?_
      refine giload (v := (2 : Int32)) X hx 107 (hb hby D49_105) rfl rfl ?_
      refine gicmpNo X hx 110 (hb hby D49_107) rfl (by decide) ?_
      refine giload (v := (1 : Int32)) X hx 112 (hb hby D49_110) rfl rfl ?_
      exact gRetP X hx hlk hret rfl (Or.inl ⟨rfl, by simp, _, rfl⟩) (hb hby D49_112) eT (by decide) (by decide) ⟨(1 : Int32), rfl, N, rfl, Or.inl ⟨by decide, by have e := (own_b58 r1).mp s1; subst e; simp⟩⟩
    · refine gicmpNo X hx 49 (hb hby D49_46) rfl (feq s1).1 ?_
      refine ggoto X hx 30 (hb hby D49_49) (by decide) (by decide) ?_
      refine giinc X hx #[.val (.ref t), .val (.int 2), .val (.ref ty), .val (.int 1), .val (.int 0), .val (.int 58), .val (.int 1), .val (.int 2), .unset, .unset, .unset] 33 (hb hby D49_30) rfl rfl rfl ?_
      refine giload (v := (2 : Int32)) X hx 35 (hb hby D49_33) rfl rfl ?_
      refine giload (v := (1 : Int32)) X hx 37 (hb hby D49_35) rfl rfl ?_
      refine gicmpYes X hx 52 (hb hby D49_37) (by decide) (by decide) (by decide) ?_
      refine giload (v := (2 : Int32)) X hx 54 (hb hby D49_52) rfl rfl ?_
      refine giload (v := (1 : Int32)) X hx 56 (hb hby D49_54) rfl rfl ?_
      refine gicmpYes X hx 113 (hb hby D49_56) (by decide) (by decide) (by decide) ?_
      refine giinc X hx #[.val (.ref t), .val (.int 2), .val (.ref ty), .val (.int 1), .val (.int 0), .val (.int 58), .val (.int 1), .val (.int 3), .unset, .unset, .unset] 116 (hb hby D49_113) rfl rfl rfl ?_
      refine ggoto X hx 14 (hb hby D49_116) (by decide) (by decide) ?_
      refine giload (v := (3 : Int32)) X hx 16 (hb hby D49_14) rfl rfl ?_
      refine giload (v := (1 : Int32)) X hx 18 (hb hby D49_16) rfl rfl ?_
      refine gicmpYes X hx 119 (hb hby D49_18) (by decide) (by decide) (by decide) ?_
      refine giconst X hx (-1 : Int32) 120 (hb hby D49_119) rfl rfl ?_
      exact gRetP X hx hlk hret rfl (Or.inl ⟨rfl, by simp, _, rfl⟩) (hb hby D49_120) eT (by decide) (by decide) ⟨(-1 : Int32), rfl, N, rfl, Or.inr ⟨by decide, by intro hm; simp only [List.mem_cons, List.not_mem_nil, or_false] at hm; rcases hm with e | hm; exact s0 ((own_b58 r0).mpr e.symm); exact s1 ((own_b58 r1).mpr hm.symm)⟩⟩
theorem rmX2_2 (l : Launch) (Z : State) (a0 : Array Value) (hw : HW_ a0 Z) (t : Addr) (ty : Addr) (kt : ClassId) (ky : ClassId) (c0 : Int32) (c1 : Int32) (h0 : Heap) (n0 : Nat) (Z0 : n0 ≤ h0.size) (P0_Arv : Arv Z h0 t kt .byte (2 : Int32) [(.int (c0.toInt8.toInt32)), (.int (c1.toInt8.toInt32))] (.int 0)) (P1_Arv : Arv Z h0 ty ky .byte (1 : Int32) [(.int 58)] (.int 0)) (r0 : ¬ c0 < 0 ∧ ¬ (255 : Int32) < c0) (r1 : ¬ c1 < 0 ∧ ¬ (255 : Int32) < c1) :
    CtP l Y43 jdk_43_method_24_code 2 (some .int) [] ({ frames := 1, cells := 0, slots := 0, locals := 22 } : Room) Z #[(.ref t), (.ref ty)] h0 (fun v h L => ∃ (ri : Int32), v = some (.int ri) ∧ Fr n0 L ∧ h = h0 ∧ ((¬ ri < 0 ∧ (58 : Int32) ∈ ([c0, c1] : List Int32)) ∨ (ri < 0 ∧ ¬ (58 : Int32) ∈ ([c0, c1] : List Int32)))) := by
  refine CtP.walk (Ls := #[.val (.ref t), .val (.ref ty)]) (plainFor_of_name own_pn16) (fun m => by first | (simp [entryFrame, mkF, argsToLocals, Value.category]; done) | rfl) ?_
  intro p e s m below meth cc_ T hx hby hml hown hnm hret hlk hZ X eT
  have N := Fr.nil n0
  have sz_h : h0.size ≤ h0.size := Nat.le_refl _
  refine galoadN (v := (.ref ty)) X hx 1 (hb hby D11_0) rfl rfl rfl ?_
  refine garrlen X hx hZ eT P1_Arv 2 (hb hby D11_1) rfl ?_
  refine gifYes X hx 7 (hb hby D11_2) (by decide) (by decide) (by decide) ?_
  refine galoadN (v := (.ref t)) X hx 8 (hb hby D11_7) rfl rfl rfl ?_
  refine garrlen X hx hZ eT P0_Arv 9 (hb hby D11_8) rfl ?_
  refine gifYes X hx 14 (hb hby D11_9) (by decide) (by decide) (by decide) ?_
  refine galoadN (v := (.ref t)) X hx 15 (hb hby D11_14) rfl rfl rfl ?_
  refine galoadN (v := (.ref t)) X hx 16 (hb hby D11_15) rfl rfl rfl ?_
  refine garrlen X hx hZ eT P0_Arv 17 (hb hby D11_16) rfl ?_
  refine galoadN (v := (.ref ty)) X hx 18 (hb hby D11_17) rfl rfl rfl ?_
  refine galoadN (v := (.ref ty)) X hx 19 (hb hby D11_18) rfl rfl rfl ?_
  refine garrlen X hx hZ eT P1_Arv 20 (hb hby D11_19) rfl ?_
  refine giconst X hx (0 : Int32) 21 (hb hby D11_20) rfl rfl ?_
  refine gstatic (y := Y42) (argsL := [(.ref t), (.int 2), (.ref ty), (.int 1), (.int 0)]) (st := []) X hx hZ hown (u248 hw) (u249 hw) (u74 hw) (u250 hw) (by decide) (payP (W := 0) (rmX5_2 l Z a0 hw (t) (ty) (kt) (ky) _ _ h0 n0 (Nat.le_trans Z0 sz_h) P0_Arv P1_Arv (r0) (r1)) hZ (u250 hw) (u74 hw) (by decide) (by decide)) eT (by rw [hml]; rfl) (lenOf own_pd19 rfl) rfl (Nat.le_of_eq rfl) 0 0 rfl rfl (by decide) (by decide) 24 (hb hby D11_21) rfl ?_
  clear X eT; clear T; intro v T h1 L2 Lc X eT hL hQ2
  obtain ⟨ri_3, rfl, Nq, hh, pp6⟩ := hQ2
  replace N : Fr n0 L2 := by rw [hL]; exact Fr.app N Nq
  clear Nq hL
  replace hh := hh.symm; subst hh
  show Go p e below _ T (mkF m 24 _ [(.int ri_3)])
  exact gRetP X hx hlk hret rfl (Or.inl ⟨rfl, by simp, _, rfl⟩) (hb hby D11_24) eT (by decide) (by decide) ⟨ri_3, rfl, N, rfl, pp6⟩
theorem rmX5_1 (l : Launch) (Z : State) (a0 : Array Value) (hw : HW_ a0 Z) (t : Addr) (ty : Addr) (kt : ClassId) (ky : ClassId) (c0 : Int32) (h0 : Heap) (n0 : Nat) (Z0 : n0 ≤ h0.size) (P0_Arv : Arv Z h0 t kt .byte (1 : Int32) [(.int (c0.toInt8.toInt32))] (.int 0)) (P1_Arv : Arv Z h0 ty ky .byte (1 : Int32) [(.int 58)] (.int 0)) (r0 : ¬ c0 < 0 ∧ ¬ (255 : Int32) < c0) :
    CtP l Y42 jdk_43_method_25_code 11 (some .int) [] ({ frames := 0, cells := 0, slots := 0, locals := 0 } : Room) Z #[(.ref t), (.int 1), (.ref ty), (.int 1), (.int 0)] h0 (fun v h L => ∃ (ri : Int32), v = some (.int ri) ∧ Fr n0 L ∧ h = h0 ∧ ((¬ ri < 0 ∧ (58 : Int32) ∈ ([c0] : List Int32)) ∨ (ri < 0 ∧ ¬ (58 : Int32) ∈ ([c0] : List Int32)))) := by
  refine CtP.walk (Ls := #[.val (.ref t), .val (.int 1), .val (.ref ty), .val (.int 1), .val (.int 0), .unset, .unset, .unset, .unset, .unset, .unset]) (plainFor_of_name own_pn16) (fun m => by first | (simp [entryFrame, mkF, argsToLocals, Value.category]; done) | rfl) ?_
  intro p e s m below meth cc_ T hx hby hml hown hnm hret hlk hZ X eT
  have N := Fr.nil n0
  have sz_h : h0.size ≤ h0.size := Nat.le_refl _
  refine galoadN (v := (.ref ty)) X hx 1 (hb hby D49_0) rfl rfl rfl ?_
  refine giconst X hx (0 : Int32) 2 (hb hby D49_1) rfl rfl ?_
  refine gbaload X hx hZ eT P1_Arv (.int 58) (by decide) (by decide) rfl 3 (hb hby D49_2) rfl ?_
  refine gistore X hx #[.val (.ref t), .val (.int 1), .val (.ref ty), .val (.int 1), .val (.int 0), .val (.int 58), .unset, .unset, .unset, .unset, .unset] 5 (hb hby D49_3) rfl rfl ?_
  refine giloadN (v := (1 : Int32)) X hx 6 (hb hby D49_5) rfl rfl ?_
  refine giloadN (v := (1 : Int32)) X hx 7 (hb hby D49_6) rfl rfl ?_
  refine gisub X hx 8 (hb hby D49_7) rfl ?_
  rw [show ((1 : Int32) - (1 : Int32)) = (0 : Int32) from by decide]
  refine gistore X hx #[.val (.ref t), .val (.int 1), .val (.ref ty), .val (.int 1), .val (.int 0), .val (.int 58), .val (.int 0), .unset, .unset, .unset, .unset] 10 (hb hby D49_8) rfl rfl ?_
  refine giload (v := (0 : Int32)) X hx 12 (hb hby D49_10) rfl rfl ?_
  refine gistore X hx #[.val (.ref t), .val (.int 1), .val (.ref ty), .val (.int 1), .val (.int 0), .val (.int 58), .val (.int 0), .val (.int 0), .unset, .unset, .unset] 14 (hb hby D49_12) rfl rfl ?_
  refine giload (v := (0 : Int32)) X hx 16 (hb hby D49_14) rfl rfl ?_
  refine giload (v := (0 : Int32)) X hx 18 (hb hby D49_16) rfl rfl ?_
  refine gicmpNo X hx 21 (hb hby D49_18) rfl (by decide) ?_
  refine galoadN (v := (.ref t)) X hx 22 (hb hby D49_21) rfl rfl rfl ?_
  refine giload (v := (0 : Int32)) X hx 24 (hb hby D49_22) rfl rfl ?_
  refine gbaload X hx hZ eT P0_Arv (.int (c0.toInt8.toInt32)) (by decide) (by decide) rfl 25 (hb hby D49_24) rfl ?_
  refine giload (v := (58 : Int32)) X hx 27 (hb hby D49_25) rfl rfl ?_
  rcases Decidable.em ((c0.toInt8.toInt32) = (58 : Int32)) with s0 | s0
  · refine gicmpYes X hx 52 (hb hby D49_27) (teq s0).1 (by decide) (by decide) ?_
    refine giload (v := (0 : Int32)) X hx 54 (hb hby D49_52) rfl rfl ?_
    refine giload (v := (0 : Int32)) X hx 56 (hb hby D49_54) rfl rfl ?_
    refine gicmpNo X hx 59 (hb hby D49_56) rfl (by decide) ?_
    refine giload (v := (0 : Int32)) X hx 61 (hb hby D49_59) rfl rfl ?_
    refine giconst X hx (1 : Int32) 62 (hb hby D49_61) rfl rfl ?_
    refine giadd X hx 63 (hb hby D49_62) rfl ?_
    rw [show ((0 : Int32) + (1 : Int32)) = (1 : Int32) from by decide]
    refine gistore X hx #[.val (.ref t), .val (.int 1), .val (.ref ty), .val (.int 1), .val (.int 0), .val (.int 58), .val (.int 0), .val (.int 0), .val (.int 1), .unset, .unset] 65 (hb hby D49_63) rfl rfl ?_
    refine giload (v := (1 : Int32)) X hx 67 (hb hby D49_65) rfl rfl ?_
    refine giloadN (v := (1 : Int32)) X hx 68 (hb hby D49_67) rfl rfl ?_
    refine giadd X hx 69 (hb hby D49_68) rfl ?_
    rw [show ((1 : Int32) + (1 : Int32)) = (2 : Int32) from by decide]
    refine giconst X hx (1 : Int32) 70 (hb hby D49_69) rfl rfl ?_
    refine gisub X hx 71 (hb hby D49_70) rfl ?_
    rw [show ((2 : Int32) - (1 : Int32)) = (1 : Int32) from by decide]
    refine gistore X hx #[.val (.ref t), .val (.int 1), .val (.ref ty), .val (.int 1), .val (.int 0), .val (.int 58), .val (.int 0), .val (.int 0), .val (.int 1), .val (.int 1), .unset] 73 (hb hby D49_71) rfl rfl ?_
    refine giconst X hx (1 : Int32) 74 (hb hby D49_73) rfl rfl ?_
    refine gistore X hx #[.val (.ref t), .val (.int 1), .val (.ref ty), .val (.int 1), .val (.int 0), .val (.int 58), .val (.int 0), .val (.int 0), .val (.int 1), .val (.int 1), .val (.int 1)] 76 (hb hby D49_74) rfl rfl ?_
    refine giload (v := (1 : Int32)) X hx 78 (hb hby D49_76) rfl rfl ?_
    refine giload (v := (1 : Int32)) X hx 80 (hb hby D49_78) rfl rfl ?_
    refine gicmpYes X hx 103 (hb hby D49_80) (by decide) (by decide) (by decide) ?_
    refine giload (v := (1 : Int32)) X hx 105 (hb hby D49_103) rfl rfl ?_
    refine giload (v := (1 : Int32)) X hx 107 (hb hby D49_105) rfl rfl ?_
    refine gicmpNo X hx 110 (hb hby D49_107) rfl (by decide) ?_
    refine giload (v := (0 : Int32)) X hx 112 (hb hby D49_110) rfl rfl ?_
    exact gRetP X hx hlk hret rfl (Or.inl ⟨rfl, by simp, _, rfl⟩) (hb hby D49_112) eT (by decide) (by decide) ⟨(0 : Int32), rfl, N, rfl, Or.inl ⟨by decide, by have e := (own_b58 r0).mp s0; subst e; simp⟩⟩
  · refine gicmpNo X hx 30 (hb hby D49_27) rfl (feq s0).1 ?_
    refine giinc X hx #[.val (.ref t), .val (.int 1), .val (.ref ty), .val (.int 1), .val (.int 0), .val (.int 58), .val (.int 0), .val (.int 1), .unset, .unset, .unset] 33 (hb hby D49_30) rfl rfl rfl ?_
    refine giload (v := (1 : Int32)) X hx 35 (hb hby D49_33) rfl rfl ?_
    refine giload (v := (0 : Int32)) X hx 37 (hb hby D49_35) rfl rfl ?_
    refine gicmpYes X hx 52 (hb hby D49_37) (by decide) (by decide) (by decide) ?_
    refine giload (v := (1 : Int32)) X hx 54 (hb hby D49_52) rfl rfl ?_
    refine giload (v := (0 : Int32)) X hx 56 (hb hby D49_54) rfl rfl ?_
    refine gicmpYes X hx 113 (hb hby D49_56) (by decide) (by decide) (by decide) ?_
    refine giinc X hx #[.val (.ref t), .val (.int 1), .val (.ref ty), .val (.int 1), .val (.int 0), .val (.int 58), .val (.int 0), .val (.int 2), .unset, .unset, .unset] 116 (hb hby D49_113) rfl rfl rfl ?_
    refine ggoto X hx 14 (hb hby D49_116) (by decide) (by decide) ?_
    refine giload (v := (2 : Int32)) X hx 16 (hb hby D49_14) rfl rfl ?_
    refine giload (v := (0 : Int32)) X hx 18 (hb hby D49_16) rfl rfl ?_
    refine gicmpYes X hx 119 (hb hby D49_18) (by decide) (by decide) (by decide) ?_
    refine giconst X hx (-1 : Int32) 120 (hb hby D49_119) rfl rfl ?_
    exact gRetP X hx hlk hret rfl (Or.inl ⟨rfl, by simp, _, rfl⟩) (hb hby D49_120) eT (by decide) (by decide) ⟨(-1 : Int32), rfl, N, rfl, Or.inr ⟨by decide, by intro hm; simp only [List.mem_cons, List.not_mem_nil, or_false] at hm; exact s0 ((own_b58 r0).mpr hm.symm)⟩⟩
theorem rmX2_1 (l : Launch) (Z : State) (a0 : Array Value) (hw : HW_ a0 Z) (t : Addr) (ty : Addr) (kt : ClassId) (ky : ClassId) (c0 : Int32) (h0 : Heap) (n0 : Nat) (Z0 : n0 ≤ h0.size) (P0_Arv : Arv Z h0 t kt .byte (1 : Int32) [(.int (c0.toInt8.toInt32))] (.int 0)) (P1_Arv : Arv Z h0 ty ky .byte (1 : Int32) [(.int 58)] (.int 0)) (r0 : ¬ c0 < 0 ∧ ¬ (255 : Int32) < c0) :
    CtP l Y43 jdk_43_method_24_code 2 (some .int) [] ({ frames := 1, cells := 0, slots := 0, locals := 22 } : Room) Z #[(.ref t), (.ref ty)] h0 (fun v h L => ∃ (ri : Int32), v = some (.int ri) ∧ Fr n0 L ∧ h = h0 ∧ ((¬ ri < 0 ∧ (58 : Int32) ∈ ([c0] : List Int32)) ∨ (ri < 0 ∧ ¬ (58 : Int32) ∈ ([c0] : List Int32)))) := by
  refine CtP.walk (Ls := #[.val (.ref t), .val (.ref ty)]) (plainFor_of_name own_pn16) (fun m => by first | (simp [entryFrame, mkF, argsToLocals, Value.category]; done) | rfl) ?_
  intro p e s m below meth cc_ T hx hby hml hown hnm hret hlk hZ X eT
  have N := Fr.nil n0
  have sz_h : h0.size ≤ h0.size := Nat.le_refl _
  refine galoadN (v := (.ref ty)) X hx 1 (hb hby D11_0) rfl rfl rfl ?_
  refine garrlen X hx hZ eT P1_Arv 2 (hb hby D11_1) rfl ?_
  refine gifYes X hx 7 (hb hby D11_2) (by decide) (by decide) (by decide) ?_
  refine galoadN (v := (.ref t)) X hx 8 (hb hby D11_7) rfl rfl rfl ?_
  refine garrlen X hx hZ eT P0_Arv 9 (hb hby D11_8) rfl ?_
  refine gifYes X hx 14 (hb hby D11_9) (by decide) (by decide) (by decide) ?_
  refine galoadN (v := (.ref t)) X hx 15 (hb hby D11_14) rfl rfl rfl ?_
  refine galoadN (v := (.ref t)) X hx 16 (hb hby D11_15) rfl rfl rfl ?_
  refine garrlen X hx hZ eT P0_Arv 17 (hb hby D11_16) rfl ?_
  refine galoadN (v := (.ref ty)) X hx 18 (hb hby D11_17) rfl rfl rfl ?_
  refine galoadN (v := (.ref ty)) X hx 19 (hb hby D11_18) rfl rfl rfl ?_
  refine garrlen X hx hZ eT P1_Arv 20 (hb hby D11_19) rfl ?_
  refine giconst X hx (0 : Int32) 21 (hb hby D11_20) rfl rfl ?_
  refine gstatic (y := Y42) (argsL := [(.ref t), (.int 1), (.ref ty), (.int 1), (.int 0)]) (st := []) X hx hZ hown (u248 hw) (u249 hw) (u74 hw) (u250 hw) (by decide) (payP (W := 0) (rmX5_1 l Z a0 hw (t) (ty) (kt) (ky) _ h0 n0 (Nat.le_trans Z0 sz_h) P0_Arv P1_Arv (r0)) hZ (u250 hw) (u74 hw) (by decide) (by decide)) eT (by rw [hml]; rfl) (lenOf own_pd19 rfl) rfl (Nat.le_of_eq rfl) 0 0 rfl rfl (by decide) (by decide) 24 (hb hby D11_21) rfl ?_
  clear X eT; clear T; intro v T h1 L2 Lc X eT hL hQ2
  obtain ⟨ri_3, rfl, Nq, hh, pp6⟩ := hQ2
  replace N : Fr n0 L2 := by rw [hL]; exact Fr.app N Nq
  clear Nq hL
  replace hh := hh.symm; subst hh
  show Go p e below _ T (mkF m 24 _ [(.int ri_3)])
  exact gRetP X hx hlk hret rfl (Or.inl ⟨rfl, by simp, _, rfl⟩) (hb hby D11_24) eT (by decide) (by decide) ⟨ri_3, rfl, N, rfl, pp6⟩
theorem rmX2_0 (l : Launch) (Z : State) (a0 : Array Value) (hw : HW_ a0 Z) (t : Addr) (ty : Addr) (kt : ClassId) (ky : ClassId) (h0 : Heap) (n0 : Nat) (Z0 : n0 ≤ h0.size) (P0_Arv : Arv Z h0 t kt .byte (0 : Int32) [] (.int 0)) (P1_Arv : Arv Z h0 ty ky .byte (1 : Int32) [(.int 58)] (.int 0)) :
    CtP l Y43 jdk_43_method_24_code 2 (some .int) [] ({ frames := 1, cells := 0, slots := 0, locals := 22 } : Room) Z #[(.ref t), (.ref ty)] h0 (fun v h L => ∃ (ri : Int32), v = some (.int ri) ∧ Fr n0 L ∧ h = h0 ∧ ((¬ ri < 0 ∧ (58 : Int32) ∈ ([] : List Int32)) ∨ (ri < 0 ∧ ¬ (58 : Int32) ∈ ([] : List Int32)))) := by
  refine CtP.walk (Ls := #[.val (.ref t), .val (.ref ty)]) (plainFor_of_name own_pn16) (fun m => by first | (simp [entryFrame, mkF, argsToLocals, Value.category]; done) | rfl) ?_
  intro p e s m below meth cc_ T hx hby hml hown hnm hret hlk hZ X eT
  have N := Fr.nil n0
  have sz_h : h0.size ≤ h0.size := Nat.le_refl _
  refine galoadN (v := (.ref ty)) X hx 1 (hb hby D11_0) rfl rfl rfl ?_
  refine garrlen X hx hZ eT P1_Arv 2 (hb hby D11_1) rfl ?_
  refine gifYes X hx 7 (hb hby D11_2) (by decide) (by decide) (by decide) ?_
  refine galoadN (v := (.ref t)) X hx 8 (hb hby D11_7) rfl rfl rfl ?_
  refine garrlen X hx hZ eT P0_Arv 9 (hb hby D11_8) rfl ?_
  refine gifNo X hx 12 (hb hby D11_9) rfl (by decide) ?_
  refine giconst X hx (-1 : Int32) 13 (hb hby D11_12) rfl rfl ?_
  exact gRetP X hx hlk hret rfl (Or.inl ⟨rfl, by simp, _, rfl⟩) (hb hby D11_13) eT (by decide) (by decide) ⟨(-1 : Int32), rfl, N, rfl, Or.inr ⟨by decide, by simp⟩⟩
theorem rmX2 (l : Launch) (Z : State) (a0 : Array Value) (hw : HW_ a0 Z) (t : Addr) (ty : Addr) (kt : ClassId) (ky : ClassId) (cs : List Int32) (h0 : Heap) (n0 : Nat) (Z0 : n0 ≤ h0.size) (P0_Arv : Arv Z h0 t kt .byte (Int32.ofNat cs.length) ((cs.map fun c => c.toInt8.toInt32).map Value.int) (.int 0)) (P1_Arv : Arv Z h0 ty ky .byte (1 : Int32) [(.int 58)] (.int 0)) (hl3 : cs.length ≤ 3) (hrg : ∀ c ∈ cs, ¬ c < 0 ∧ ¬ (255 : Int32) < c) :
    CtP l Y43 jdk_43_method_24_code 2 (some .int) [] ({ frames := 1, cells := 0, slots := 0, locals := 22 } : Room) Z #[(.ref t), (.ref ty)] h0 (fun v h L => ∃ (ri : Int32), v = some (.int ri) ∧ Fr n0 L ∧ h = h0 ∧ ((¬ ri < 0 ∧ (58 : Int32) ∈ cs) ∨ (ri < 0 ∧ ¬ (58 : Int32) ∈ cs))) := by
  match cs, hl3, hrg, P0_Arv with
  | [], _, hrg, P0_Arv => exact rmX2_0 l Z a0 hw t ty kt ky h0 n0 Z0 P0_Arv P1_Arv
  | [c0], _, hrg, P0_Arv => exact rmX2_1 l Z a0 hw t ty kt ky c0 h0 n0 Z0 P0_Arv P1_Arv (hrg _ (List.mem_of_getElem? (i := 0) rfl))
  | [c0, c1], _, hrg, P0_Arv => exact rmX2_2 l Z a0 hw t ty kt ky c0 c1 h0 n0 Z0 P0_Arv P1_Arv (hrg _ (List.mem_of_getElem? (i := 0) rfl)) (hrg _ (List.mem_of_getElem? (i := 1) rfl))
  | [c0, c1, c2], _, hrg, P0_Arv => exact rmX2_3 l Z a0 hw t ty kt ky c0 c1 c2 h0 n0 Z0 P0_Arv P1_Arv (hrg _ (List.mem_of_getElem? (i := 0) rfl)) (hrg _ (List.mem_of_getElem? (i := 1) rfl)) (hrg _ (List.mem_of_getElem? (i := 2) rfl))
  | _ :: _ :: _ :: _ :: _, hl3, _, _ => exact absurd hl3 (by simp)
theorem rmX1 (l : Launch) (Z : State) (a0 : Array Value) (hw : HW_ a0 Z) (x : Addr) (y : Addr) (t : Addr) (ty : Addr) (kt : ClassId) (ky : ClassId) (cs : List Int32) (G1 : Int32) (h0 : Heap) (n0 : Nat) (Z0 : n0 ≤ h0.size) (P0_Old : Old Z n0 h0) (P1_Exa : Exa Z h0 x "java/lang/String") (P2_Fld : Fld Z h0 x "java/lang/String" "coder" "B" (.int 0)) (P3_Fld : Fld Z h0 x "java/lang/String" "value" "[B" (.ref t)) (P4_Arv : Arv Z h0 t kt .byte (Int32.ofNat cs.length) ((cs.map fun c => c.toInt8.toInt32).map Value.int) (.int 0)) (P5_Exa : Exa Z h0 y "java/lang/String") (P6_Fld : Fld Z h0 y "java/lang/String" "coder" "B" (.int 0)) (P7_Fld : Fld Z h0 y "java/lang/String" "value" "[B" (.ref ty)) (P8_Arv : Arv Z h0 ty ky .byte (1 : Int32) [(.int 58)] (.int 0)) (O2 : Sta Z Z.heap "java/lang/String" "COMPACT_STRINGS" "Z" (.int G1)) (P5 : ¬ G1 = (0 : Int32)) (hl3 : cs.length ≤ 3) (hrg : ∀ c ∈ cs, ¬ c < 0 ∧ ¬ (255 : Int32) < c) :
    CtP l Y31 jdk_42_method_84_code 3 (some .int) [] ({ frames := 2, cells := 0, slots := 0, locals := 35 } : Room) Z #[(.ref x), (.ref y)] h0 (fun v h L => ∃ (ri : Int32), v = some (.int ri) ∧ Fr n0 L ∧ h = h0 ∧ ((¬ ri < 0 ∧ (58 : Int32) ∈ cs) ∨ (ri < 0 ∧ ¬ (58 : Int32) ∈ cs))) := by
  refine CtP.walk (Ls := #[.val (.ref x), .val (.ref y), .unset]) own_pn17 (fun m => by first | (simp [entryFrame, mkF, argsToLocals, Value.category]; done) | rfl) ?_
  intro p e s m below meth cc_ T hx hby hml hown hnm hret hlk hZ X eT
  have N := Fr.nil n0
  have sz_h : h0.size ≤ h0.size := Nat.le_refl _
  refine galoadN (v := (.ref x)) X hx 1 (hb hby D8_0) rfl rfl rfl ?_
  refine gvirtual (y := Y28) (z := Y28) (a := x) (argsL := []) (st := []) X hx hZ hown (u59 hw) (u60 hw) (notFace_of_selects (args := #[]) (mvT hZ (u62 hw))) (u62 hw) (u61 hw) (by decide) P1_Exa (payP (W := 0) (rm9 l Z a0 hw (x) (G1) h0 n0 (Nat.le_trans Z0 sz_h) P0_Old P2_Fld (O2) (P5)) hZ (u63 hw) (u5 hw) (by decide) (by decide)) eT (by rw [hml]; rfl) (lenOf own_pd1 rfl) rfl (Nat.le_of_eq rfl) 0 0 rfl rfl (by decide) (by decide) 4 (hb hby D8_1) rfl (gcut N ?_)
  clear X eT N; clear T; intro T L X eT N
  refine gistoreN X hx #[.val (.ref x), .val (.ref y), .val (.int 0)] 5 (hb hby D8_4) rfl rfl ?_
  refine giloadN (v := (0 : Int32)) X hx 6 (hb hby D8_5) rfl rfl ?_
  refine galoadN (v := (.ref y)) X hx 7 (hb hby D8_6) rfl rfl rfl ?_
  refine gvirtual (y := Y28) (z := Y28) (a := y) (argsL := []) (st := [(.int 0)]) X hx hZ hown (u59 hw) (u60 hw) (notFace_of_selects (args := #[]) (mvT hZ (u62 hw))) (u62 hw) (u61 hw) (by decide) P5_Exa (payP (W := 1) (rm9 l Z a0 hw (y) (G1) h0 n0 (Nat.le_trans Z0 sz_h) P0_Old P6_Fld (O2) (P5)) hZ (u63 hw) (u5 hw) (by decide) (by decide)) eT (by rw [hml]; rfl) (lenOf own_pd1 rfl) rfl (Nat.le_of_eq rfl) 0 0 rfl rfl (by decide) (by decide) 10 (hb hby D8_7) rfl (gcut N ?_)
  clear X eT N; clear T; intro T L X eT N
  refine gicmpNo X hx 13 (hb hby D8_10) rfl (by decide) ?_
  refine galoadN (v := (.ref x)) X hx 14 (hb hby D8_13) rfl rfl rfl ?_
  refine gvirtual (y := Y32) (z := Y32) (a := x) (argsL := []) (st := []) X hx hZ hown (u66 hw) (u67 hw) (notFace_of_selects (args := #[]) (mvT hZ (u69 hw))) (u69 hw) (u68 hw) (by decide) P1_Exa (payP (W := 0) (rm10 l Z a0 hw (x) (G1) h0 n0 (Nat.le_trans Z0 sz_h) P0_Old P2_Fld (O2) (P5)) hZ (u70 hw) (u5 hw) (by decide) (by decide)) eT (by rw [hml]; rfl) (lenOf own_pd14 rfl) rfl (Nat.le_of_eq rfl) 0 0 rfl rfl (by decide) (by decide) 17 (hb hby D8_14) rfl (gcut N ?_)
  clear X eT N; clear T; intro T L X eT N
  refine gifNo X hx 20 (hb hby D8_17) rfl (by decide) ?_
  refine galoadN (v := (.ref x)) X hx 21 (hb hby D8_20) rfl rfl rfl ?_
  refine ggetF X hx hZ (host := "") hown (Or.inl (u71 hw)) Via.refl eT P3_Fld 24 (hb hby D8_21) rfl ?_
  clear X eT; clear T; intro T X eT
  refine galoadN (v := (.ref y)) X hx 25 (hb hby D8_24) rfl rfl rfl ?_
  refine ggetF X hx hZ (host := "") hown (Or.inl (u71 hw)) Via.refl eT P7_Fld 28 (hb hby D8_25) rfl ?_
  clear X eT; clear T; intro T X eT
  refine gstatic (y := Y43) (argsL := [(.ref t), (.ref ty)]) (st := []) X hx hZ hown (u72 hw) (u73 hw) (u74 hw) (u75 hw) (by decide) (payP (W := 0) (rmX2 l Z a0 hw (t) (ty) (kt) (ky) (cs) h0 n0 (Nat.le_trans Z0 sz_h) P4_Arv P8_Arv (hl3) (hrg)) hZ (u75 hw) (u74 hw) (by decide) (by decide)) eT (by rw [hml]; rfl) (lenOf own_pd20 rfl) rfl (Nat.le_of_eq rfl) 0 0 rfl rfl (by decide) (by decide) 31 (hb hby D8_28) rfl ?_
  clear X eT; clear T; intro v T h1 L2 Lc X eT hL hQ2
  obtain ⟨ri_3, rfl, Nq, hh, pp6⟩ := hQ2
  replace N : Fr n0 L2 := by rw [hL]; exact Fr.app N Nq
  clear Nq hL
  replace hh := hh.symm; subst hh
  show Go p e below _ T (mkF m 31 _ [(.int ri_3)])
  refine ggoto X hx 45 (hb hby D8_31) (by decide) (by decide) ?_
  exact gRetP X hx hlk hret rfl (Or.inl ⟨rfl, by simp, _, rfl⟩) (hb hby D8_45) eT (by decide) (by decide) ⟨ri_3, rfl, N, rfl, pp6⟩
theorem rmCt (l : Launch) (Z : State) (a0 : Array Value) (hw : HW_ a0 Z) (x : Addr) (y : Addr) (t : Addr) (ty : Addr) (kt : ClassId) (ky : ClassId) (cs : List Int32) (G1 : Int32) (h0 : Heap) (n0 : Nat) (Z0 : n0 ≤ h0.size) (P0_Old : Old Z n0 h0) (P1_Exa : Exa Z h0 x "java/lang/String") (P2_Fld : Fld Z h0 x "java/lang/String" "coder" "B" (.int 0)) (P3_Fld : Fld Z h0 x "java/lang/String" "value" "[B" (.ref t)) (P4_Arv : Arv Z h0 t kt .byte (Int32.ofNat cs.length) ((cs.map fun c => c.toInt8.toInt32).map Value.int) (.int 0)) (P5_Exa : Exa Z h0 y "java/lang/String") (P6_Fld : Fld Z h0 y "java/lang/String" "coder" "B" (.int 0)) (P7_Fld : Fld Z h0 y "java/lang/String" "value" "[B" (.ref ty)) (P8_Arv : Arv Z h0 ty ky .byte (1 : Int32) [(.int 58)] (.int 0)) (O2 : Sta Z Z.heap "java/lang/String" "COMPACT_STRINGS" "Z" (.int G1)) (P5 : ¬ G1 = (0 : Int32)) (hl3 : cs.length ≤ 3) (hrg : ∀ c ∈ cs, ¬ c < 0 ∧ ¬ (255 : Int32) < c) :
    CtP l Y29 jdk_42_method_97_code 2 (some .boolean) [] ({ frames := 3, cells := 0, slots := 0, locals := 49 } : Room) Z #[(.ref x), (.ref y)] h0 (fun v h L => ∃ (rb : Int32), v = some (.int rb) ∧ Fr n0 L ∧ h = h0 ∧ ((rb = 1 ∧ (58 : Int32) ∈ cs) ∨ (rb = 0 ∧ ¬ (58 : Int32) ∈ cs))) := by
  refine CtP.walk (Ls := #[.val (.ref x), .val (.ref y)]) own_pn18 (fun m => by first | (simp [entryFrame, mkF, argsToLocals, Value.category]; done) | rfl) ?_
  intro p e s m below meth cc_ T hx hby hml hown hnm hret hlk hZ X eT
  have N := Fr.nil n0
  have sz_h : h0.size ≤ h0.size := Nat.le_refl _
  refine galoadN (v := (.ref x)) X hx 1 (hb hby D6_0) rfl rfl rfl ?_
  refine galoadN (v := (.ref y)) X hx 2 (hb hby D6_1) rfl rfl rfl ?_
  refine giface (y := (⟨"java/lang/CharSequence", "toString", "()Ljava/lang/String;"⟩ : MethodName)) (z := Y34) (a := y) (argsL := []) (st := [(.ref x)]) X hx hZ hown (u45 hw) (u46 hw) (mvT hZ (u47 hw)) (u48 hw) (u49 hw) (u50 hw) (u51 hw) (u52 hw) (by decide) P5_Exa (payP (W := 1) (rm7 l Z a0 hw (y) h0 n0 (Nat.le_trans Z0 sz_h)) hZ (u53 hw) (u5 hw) (by decide) (by decide)) eT (by rw [hml]; rfl) (lenOf own_pd21 rfl) rfl (Nat.le_of_eq rfl) 0 0 rfl rfl (by decide) (by decide) 7 (hb hby D6_2) rfl (gcut N ?_)
  clear X eT N; clear T; intro T L X eT N
  refine gvirtual (y := Y31) (z := Y31) (a := x) (argsL := [(.ref y)]) (st := []) X hx hZ hown (u54 hw) (u55 hw) (notFace_of_selects (args := #[]) (mvT hZ (u57 hw))) (u57 hw) (u56 hw) (by decide) P1_Exa (payP (W := 0) (rmX1 l Z a0 hw (x) (y) (t) (ty) (kt) (ky) (cs) (G1) h0 n0 (Nat.le_trans Z0 sz_h) P0_Old P1_Exa P2_Fld P3_Fld P4_Arv P5_Exa P6_Fld P7_Fld P8_Arv (O2) (P5) (hl3) (hrg)) hZ (u58 hw) (u5 hw) (by decide) (by decide)) eT (by rw [hml]; rfl) (lenOf own_pd22 rfl) rfl (Nat.le_of_eq rfl) 0 0 rfl rfl (by decide) (by decide) 10 (hb hby D6_7) rfl ?_
  clear X eT; clear T; intro v T h1 L2 Lc X eT hL hQ2
  obtain ⟨ri_3, rfl, Nq, hh, pp6⟩ := hQ2
  replace N : Fr n0 L2 := by rw [hL]; exact Fr.app N Nq
  clear Nq hL
  replace hh := hh.symm; subst hh
  show Go p e below _ T (mkF m 10 _ [(.int ri_3)])
  rcases Decidable.em (ri_3 < (0 : Int32)) with g0 | g0
  · refine gifYes X hx 17 (hb hby D6_10) ((if0 _ _).trans (tlt g0).1) (by decide) (by decide) ?_
    refine giconst X hx (0 : Int32) 18 (hb hby D6_17) rfl rfl ?_
    exact gRetP X hx hlk hret rfl (Or.inl ⟨rfl, by simp, _, rfl⟩) (hb hby D6_18) eT (by decide) (by decide) ⟨(0 : Int32), rfl, N, rfl, pp6.elim (fun q => absurd g0 q.1) (fun q => Or.inr ⟨rfl, q.2⟩)⟩
  · refine gifNo X hx 13 (hb hby D6_10) rfl ((if0 _ _).trans (flt g0).1) ?_
    refine giconst X hx (1 : Int32) 14 (hb hby D6_13) rfl rfl ?_
    refine ggoto X hx 18 (hb hby D6_14) (by decide) (by decide) ?_
    exact gRetP X hx hlk hret rfl (Or.inl ⟨rfl, by simp, _, rfl⟩) (hb hby D6_18) eT (by decide) (by decide) ⟨(1 : Int32), rfl, N, rfl, pp6.elim (fun q => Or.inl ⟨rfl, q.2⟩) (fun q => absurd q.1 g0)⟩
theorem rm3 (l : Launch) (Z : State) (a0 : Array Value) (hw : HW_ a0 Z) (q0 : Addr) (h0 : Heap) (n0 : Nat) (Z0 : n0 ≤ h0.size) :
    CtP l Y22 jdk_30_method_1_code 1 none [] ({ frames := 1, cells := 0, slots := 0, locals := 12 } : Room) Z #[(.ref q0)] h0 (fun v h L => v = none ∧ Fr n0 L ∧ h = h0) := by
  refine CtP.walk (Ls := #[.val (.ref q0)]) (plainFor_of_name own_pn19) (fun m => by first | (simp [entryFrame, mkF, argsToLocals, Value.category]; done) | rfl) ?_
  intro p e s m below meth cc_ T hx hby hml hown hnm hret hlk hZ X eT
  have N := Fr.nil n0
  have sz_h : h0.size ≤ h0.size := Nat.le_refl _
  refine galoadN (v := (.ref q0)) X hx 1 (hb hby D3_0) rfl rfl rfl ?_
  refine ginitO X hx hZ hown (u25 hw) (u26 hw) (u27 hw) eT (by rw [hml]; rfl) (by decide) 0 (Nat.le_of_eq rfl) (by decide) 4 (hb hby D3_1) rfl ?_
  clear X eT; clear T; intro T X eT
  exact gRetP0 X hx hlk hret (hb hby D3_4) eT (by decide) (by decide) ⟨rfl, N, rfl⟩
theorem rmSAi (l : Launch) (Z : State) (a0 : Array Value) (hw : HW_ a0 Z) (q0 : Addr) (x : Addr) (v1 : Int32) (v2 : Int32) (h0 : Heap) (n0 : Nat) (Z0 : n0 ≤ h0.size) (ge_q0 : n0 ≤ q0) (P0_Exa : Exa Z h0 q0 "com/example/per1od/per1od/StoreAddress") (P1_Fld : Fld Z h0 q0 "com/example/per1od/per1od/StoreAddress" "host" "Ljava/lang/String;" .null) (P2_Fld : Fld Z h0 q0 "com/example/per1od/per1od/StoreAddress" "port" "I" (.int 0)) (P3_Fld : Fld Z h0 q0 "com/example/per1od/per1od/StoreAddress" "database" "I" (.int 0)) :
    CtP l Y0 prog_23_method_1_code 4 none [] ({ frames := 2, cells := 0, slots := 0, locals := 24 } : Room) Z #[(.ref q0), (.ref x), (.int v1), (.int v2)] h0 (fun v h L => v = none ∧ Fr n0 L ∧ Keep h0 h [q0] ∧ Fld Z h q0 "com/example/per1od/per1od/StoreAddress" "host" "Ljava/lang/String;" (.ref x) ∧ Fld Z h q0 "com/example/per1od/per1od/StoreAddress" "port" "I" (.int v1) ∧ Fld Z h q0 "com/example/per1od/per1od/StoreAddress" "database" "I" (.int v2)) := by
  refine CtP.walk (Ls := #[.val (.ref q0), .val (.ref x), .val (.int v1), .val (.int v2)]) (plainFor_of_name own_pn20) (fun m => by first | (simp [entryFrame, mkF, argsToLocals, Value.category]; done) | rfl) ?_
  intro p e s m below meth cc_ T hx hby hml hown hnm hret hlk hZ X eT
  have N := Fr.nil n0
  have K0 := Keep.refl h0 [q0]
  have sz_h : h0.size ≤ h0.size := Nat.le_refl _
  refine galoadN (v := (.ref q0)) X hx 1 (hb hby D2_0) rfl rfl rfl ?_
  refine gspecial (y := Y22) (a := q0) (argsL := []) (st := []) X hx hZ hown rfl (u20 hw) (u21 hw) (u24 hw) (by decide) (payP (W := 0) (rm3 l Z a0 hw (q0) h0 n0 (Nat.le_trans Z0 sz_h)) hZ (u24 hw) (u23 hw) (by decide) (by decide)) eT (by rw [hml]; rfl) (lenOf own_pd23 rfl) rfl (Nat.le_of_eq rfl) 0 0 rfl rfl (by decide) (by decide) 4 (hb hby D2_1) rfl (gcut0 N ?_)
  clear X eT N; clear T; intro T L X eT N
  refine galoadN (v := (.ref q0)) X hx 5 (hb hby D2_4) rfl rfl rfl ?_
  refine galoadN (v := (.ref x)) X hx 6 (hb hby D2_5) rfl rfl rfl ?_
  refine gputF X hx hZ (host := "") hown (Or.inl (u28 hw)) Via.refl eT P1_Fld P0_Exa (Or.inr ⟨(u29 hw), rfl, hnm⟩) (u15 hw) (ty := (.object "java/lang/String")) own_pf3 rfl rfl N ge_q0 9 (hb hby D2_6) rfl ?_
  clear X eT N; clear T; intro T h1 L X eT N W2
  replace P0_Exa := P0_Exa.wr W2
  replace P1_Fld := P1_Fld.same W2
  replace P2_Fld := P2_Fld.other W2 (Or.inr (slot_ne (Or.inr (u31 hw)) (Or.inr (u29 hw)) (by decide) own_pf2 own_pf3))
  replace P3_Fld := P3_Fld.other W2 (Or.inr (slot_ne (Or.inr (u33 hw)) (Or.inr (u29 hw)) (by decide) own_pf2 own_pf3))
  replace K0 := K0.wr W2 (Or.inl (List.mem_of_getElem? (i := 0) rfl))
  replace sz_h : h0.size ≤ h1.size := by rw [Wr.size W2]; exact sz_h
  refine galoadN (v := (.ref q0)) X hx 10 (hb hby D2_9) rfl rfl rfl ?_
  refine giloadN (v := v1) X hx 11 (hb hby D2_10) rfl rfl ?_
  refine gputF X hx hZ (host := "") hown (Or.inl (u30 hw)) Via.refl eT P2_Fld P0_Exa (Or.inr ⟨(u31 hw), rfl, hnm⟩) (u15 hw) (ty := .int) own_pf2 rfl rfl N ge_q0 14 (hb hby D2_11) rfl ?_
  clear X eT N; clear T; intro T h3 L X eT N W4
  replace P0_Exa := P0_Exa.wr W4
  replace P1_Fld := P1_Fld.other W4 (Or.inr (slot_ne (Or.inr (u29 hw)) (Or.inr (u31 hw)) (by decide) own_pf3 own_pf2))
  replace P2_Fld := P2_Fld.same W4
  replace P3_Fld := P3_Fld.other W4 (Or.inr (slot_ne (Or.inr (u33 hw)) (Or.inr (u31 hw)) (by decide) own_pf2 own_pf2))
  replace K0 := K0.wr W4 (Or.inl (List.mem_of_getElem? (i := 0) rfl))
  replace sz_h : h0.size ≤ h3.size := by rw [Wr.size W4]; exact sz_h
  refine galoadN (v := (.ref q0)) X hx 15 (hb hby D2_14) rfl rfl rfl ?_
  refine giloadN (v := v2) X hx 16 (hb hby D2_15) rfl rfl ?_
  refine gputF X hx hZ (host := "") hown (Or.inl (u32 hw)) Via.refl eT P3_Fld P0_Exa (Or.inr ⟨(u33 hw), rfl, hnm⟩) (u15 hw) (ty := .int) own_pf2 rfl rfl N ge_q0 19 (hb hby D2_16) rfl ?_
  clear X eT N; clear T; intro T h5 L X eT N W6
  replace P0_Exa := P0_Exa.wr W6
  replace P1_Fld := P1_Fld.other W6 (Or.inr (slot_ne (Or.inr (u29 hw)) (Or.inr (u33 hw)) (by decide) own_pf3 own_pf2))
  replace P2_Fld := P2_Fld.other W6 (Or.inr (slot_ne (Or.inr (u31 hw)) (Or.inr (u33 hw)) (by decide) own_pf2 own_pf2))
  replace P3_Fld := P3_Fld.same W6
  replace K0 := K0.wr W6 (Or.inl (List.mem_of_getElem? (i := 0) rfl))
  replace sz_h : h0.size ≤ h5.size := by rw [Wr.size W6]; exact sz_h
  exact gRetP0 X hx hlk hret (hb hby D2_19) eT (by decide) (by decide) ⟨rfl, N, K0, P1_Fld, P2_Fld, P3_Fld⟩
theorem rmSAm {p : Program} {e : Env} {s : State} {m : MethodId} {args : Array Value} {below : List Frame} {meth : Method} {cc_ : Code} {T : State} {L2 : List Loc} {vm : Vm} {k0 : Nat} (l : Launch) (Z : State) (a0 : Array Value) (hw : HW_ a0 Z) (q0 : Addr) (x : Addr) (t : Addr) (kt : ClassId) (cs : List Int32) (H : List Int32) (np : Nat) (nd : Nat) (d1 : Addr) (d2 : Addr) (k1 : ClassId) (k2 : ClassId) (G1 : Int32) (h0 hS_ : Heap) (n0 : Nat) (Z0 : n0 ≤ h0.size) (sz_h : h0.size ≤ hS_.size) (K0 : Keep h0 hS_ []) (P0_Old : Old Z n0 hS_) (P1_Exa : Exa Z hS_ q0 "com/example/per1od/per1od/StoreAddress") (P2_Fld : Fld Z hS_ q0 "com/example/per1od/per1od/StoreAddress" "port" "I" (.int (Int32.ofNat np))) (P3_Fld : Fld Z hS_ q0 "com/example/per1od/per1od/StoreAddress" "database" "I" (.int (Int32.ofNat nd))) (P4_Exa : Exa Z hS_ x "java/lang/String") (P5_Fld : Fld Z hS_ x "java/lang/String" "coder" "B" (.int 0)) (P6_Fld : Fld Z hS_ x "java/lang/String" "value" "[B" (.ref t)) (P7_Arv : Arv Z hS_ t kt .byte (Int32.ofNat H.length) ((H.map fun c => c.toInt8.toInt32).map Value.int) (.int 0)) (O2 : Sta Z Z.heap "java/lang/String" "COMPACT_STRINGS" "Z" (.int G1)) (P5 : ¬ G1 = (0 : Int32)) (D1 : Sta Z Z.heap "java/lang/Integer" "DigitOnes" "[B" (.ref d1)) (D2 : Sta Z Z.heap "java/lang/Integer" "DigitTens" "[B" (.ref d2)) (T1 : Arv Z Z.heap d1 k1 .byte (100 : Int32) own_ones (.int 0)) (T2 : Arv Z Z.heap d2 k2 .byte (100 : Int32) own_tens (.int 0)) (hH5 : H.length ≤ 5) (hH : H = own_host cs) (hnp : np < 2147483648) (hp5 : (own_dg np).length ≤ 5) (hnd : nd < 2147483648) (hd10 : (own_dg nd).length ≤ 10) (hx : p.tables.exec = Jvm.exec) (hby : cc_.code = prog_23_method_3_code) (hml : cc_.maxLocals = 2) (hown : vm.findClass Y1.cls = some m.cls) (hnm : meth.name = Y1.name) (hret : meth.sig.returnType = some (.object "java/lang/String")) (hlk : meth.locks = false) (hZ : Z.Warmed39 vm) (X : Stand p l e ({ frames := 6, cells := 29, slots := 498, locals := 91 } : Room) (s.setVm vm) m args below meth cc_ T L2 13 184) (eT : T.heap = hS_) (hS : s.Since vm k0) (hk : k0 ≤ hS_.size) (C : CHr Z own_EL s.vm s.heap vm hS_) (N : Fr n0 L2) :
    Go p e below (PS Z own_EL s (fun v h L => ∃ (xr : Addr), ∃ (tr : Addr), ∃ (kr : ClassId), ∃ (hh : List Int32), v = some (.ref xr) ∧ Fr n0 L ∧ Keep h0 h [] ∧ h0.size ≤ xr ∧ h0.size ≤ tr ∧ Exa Z h xr "java/lang/String" ∧ Fld Z h xr "java/lang/String" "coder" "B" (.int 0) ∧ Fld Z h xr "java/lang/String" "value" "[B" (.ref tr) ∧ Arv Z h tr kr .byte (Int32.ofNat (([114, 101, 100, 105, 115, 58, 47, 47] : List Int32) ++ hh ++ ([58] : List Int32) ++ own_dg np ++ ([47] : List Int32) ++ own_dg nd).length) (((([114, 101, 100, 105, 115, 58, 47, 47] : List Int32) ++ hh ++ ([58] : List Int32) ++ own_dg np ++ ([47] : List Int32) ++ own_dg nd).map fun c => c.toInt8.toInt32).map Value.int) (.int 0) ∧ hh = own_host cs) ({ frames := 6, cells := 29, slots := 498, locals := 91 } : Room).cells ({ frames := 6, cells := 29, slots := 498, locals := 91 } : Room).slots) T (mkF m 47 #[.val (.ref q0), .val (.ref x)] []) := by
  refine gnewO X hx hZ hown (u76 hw) (u77 hw) (u78 hw) eT 14 188 rfl rfl (by decide) (by decide) 50 (hb hby D5_47) rfl ?_
  clear X eT; clear T; intro T h1 b2 X eT ga E3 A4 D5
  have le_a := Nat.le_of_eq ga.symm
  have ne_q0_b2 : q0 ≠ b2 := Nat.ne_of_lt (Nat.lt_of_lt_of_le P1_Exa.lt le_a)
  have ne_b2_q0 : b2 ≠ q0 := Ne.symm ne_q0_b2
  have ne_x_b2 : x ≠ b2 := Nat.ne_of_lt (Nat.lt_of_lt_of_le P4_Exa.lt le_a)
  have ne_b2_x : b2 ≠ x := Ne.symm ne_x_b2
  have ne_t_b2 : t ≠ b2 := Nat.ne_of_lt (Nat.lt_of_lt_of_le P7_Arv.lt le_a)
  have ne_b2_t : b2 ≠ t := Ne.symm ne_t_b2
  have sz_b2 : h0.size ≤ b2 := Nat.le_trans sz_h le_a
  have ge_b2 : n0 ≤ b2 := Nat.le_trans Z0 sz_b2
  clear le_a ga
  replace P0_Old := P0_Old.ext E3
  replace P1_Exa := P1_Exa.ext E3
  replace P2_Fld := P2_Fld.ext E3
  replace P3_Fld := P3_Fld.ext E3
  replace P4_Exa := P4_Exa.ext E3
  replace P5_Fld := P5_Fld.ext E3
  replace P6_Fld := P6_Fld.ext E3
  replace P7_Arv := P7_Arv.ext E3
  replace K0 := K0.ext E3
  replace C := C.trans (CHr.ext E3 C.1)
  replace hk := Nat.le_trans hk E3.1
  replace sz_h : h0.size ≤ h1.size := Nat.le_trans sz_h E3.1
  have F_value_b2 : Fld Z h1 b2 "java/lang/AbstractStringBuilder" "value" "[B" .null := D5 (Or.inl (u91 hw)) (ty := (.array .byte)) own_pf0
  have F_coder_b2 : Fld Z h1 b2 "java/lang/AbstractStringBuilder" "coder" "B" (.int 0) := D5 (Or.inl (u93 hw)) (ty := .byte) own_pf1
  have F_count_b2 : Fld Z h1 b2 "java/lang/AbstractStringBuilder" "count" "I" (.int 0) := D5 (Or.inl (u111 hw)) (ty := .int) own_pf2
  clear D5
  refine gdup X hx 51 (hb hby D5_50) rfl rfl ?_
  refine gspecial (y := Y36) (a := b2) (argsL := []) (st := [(.ref b2)]) X hx hZ hown rfl (u79 hw) (u80 hw) (u81 hw) (by decide) (payP (W := 1) (rmIn0 l Z a0 hw (b2) (G1) h1 n0 (Nat.le_trans Z0 sz_h) ge_b2 P0_Old A4 F_value_b2 F_coder_b2 F_count_b2 (O2) (P5)) hZ (u81 hw) (u78 hw) (by decide) (by decide)) eT (by rw [hml]; rfl) (lenOf own_pd23 rfl) rfl (Nat.le_of_eq rfl) 15 204 rfl rfl (by decide) (by decide) 54 (hb hby D5_51) rfl ?_
  clear X eT; clear T; intro v T h6 L2 Lc X eT hL hQ7
  obtain ⟨va_8, kv_9, rfl, Nq, K10, zz_va_8, G12, G13, G14, G15, pp16⟩ := hQ7
  replace N : Fr n0 L2 := by rw [hL]; exact Fr.app N Nq
  clear Nq hL
  have Sf_va_8 : Safe Z own_EL vm h1 va_8 := Safe.new zz_va_8
  have ne_q0_va_8 : q0 ≠ va_8 := Nat.ne_of_lt (Nat.lt_of_lt_of_le P1_Exa.lt zz_va_8)
  have ne_va_8_q0 : va_8 ≠ q0 := Ne.symm ne_q0_va_8
  have ne_x_va_8 : x ≠ va_8 := Nat.ne_of_lt (Nat.lt_of_lt_of_le P4_Exa.lt zz_va_8)
  have ne_va_8_x : va_8 ≠ x := Ne.symm ne_x_va_8
  have ne_t_va_8 : t ≠ va_8 := Nat.ne_of_lt (Nat.lt_of_lt_of_le P7_Arv.lt zz_va_8)
  have ne_va_8_t : va_8 ≠ t := Ne.symm ne_t_va_8
  have ne_b2_va_8 : b2 ≠ va_8 := Nat.ne_of_lt (Nat.lt_of_lt_of_le A4.lt zz_va_8)
  have ne_va_8_b2 : va_8 ≠ b2 := Ne.symm ne_b2_va_8
  have sz_va_8 : h0.size ≤ va_8 := Nat.le_trans sz_h zz_va_8
  have ge_va_8 : n0 ≤ va_8 := Nat.le_trans Z0 sz_va_8
  have sfs := (sfS (Safe.exa (EL := own_EL) (vm := vm) hZ.alike A4 (by decide) (by decide)) sf0)
  replace P0_Old := P0_Old.keep K10 (allS ge_b2 all0)
  replace P1_Exa := P1_Exa.keep K10
  replace P2_Fld := P2_Fld.keep K10 (ninS ne_q0_b2 nin0)
  replace P3_Fld := P3_Fld.keep K10 (ninS ne_q0_b2 nin0)
  replace P4_Exa := P4_Exa.keep K10
  replace P5_Fld := P5_Fld.keep K10 (ninS ne_x_b2 nin0)
  replace P6_Fld := P6_Fld.keep K10 (ninS ne_x_b2 nin0)
  replace P7_Arv := P7_Arv.keep K10 (ninS ne_t_b2 nin0)
  replace A4 := A4.keep K10
  replace Sf_va_8 := Safe.keep K10 sfs C.1 Sf_va_8
  replace K0 := K0.trans K10 (allS (Or.inr sz_b2) all0)
  replace C := C.trans (CHr.keep K10 sfs C.1)
  replace hk := Nat.le_trans hk K10.1
  replace sz_h : h0.size ≤ h6.size := Nat.le_trans sz_h K10.1
  show Go p e below _ T (mkF m 54 _ [(.ref b2)])
  have lt_va_8 := G15.lt
  refine gldcV X hx hZ hown (u94 hw) (own_wS hw) eT hS hk (own_EW hw) own_mem94 C.1 [(.int 114), (.int 101), (.int 100), (.int 105), (.int 115), (.int 58), (.int 47), (.int 47)] (8 : Int32) (by decide +kernel) (by decide) rfl 32 (by decide) (by decide) 17 240 rfl rfl (by decide) (by decide) 56 (hb hby D5_54) rfl ?_
  clear X eT hS hk hZ hown; clear T k0; intro c18 T h17 vm k0 t26 kb27 X eT E19 hS hk hZ hown CR20 Li21 A22 F23 F24 V25 ns28
  replace P0_Old := P0_Old.ext E19
  replace P1_Exa := P1_Exa.ext E19
  replace P2_Fld := P2_Fld.ext E19
  replace P3_Fld := P3_Fld.ext E19
  replace P4_Exa := P4_Exa.ext E19
  replace P5_Fld := P5_Fld.ext E19
  replace P6_Fld := P6_Fld.ext E19
  replace P7_Arv := P7_Arv.ext E19
  replace A4 := A4.ext E19
  replace Sf_va_8 := CHr.safe CR20 lt_va_8 Sf_va_8
  replace G12 := G12.ext E19
  replace G13 := G13.ext E19
  replace G14 := G14.ext E19
  replace G15 := G15.ext E19
  replace K0 := K0.ext E19
  replace C := C.trans CR20
  replace sz_h : h0.size ≤ h17.size := Nat.le_trans sz_h E19.1
  have ne_va_8_c18 := (ns28 _ Sf_va_8).1
  have ne_c18_va_8 := Ne.symm ne_va_8_c18
  have ne_va_8_t26 := (ns28 _ Sf_va_8).2
  have ne_t26_va_8 := Ne.symm ne_va_8_t26
  show Go p e below _ T (mkF m 56 _ [(.ref c18), (.ref b2)])
  refine gvirtual (y := Y38) (z := Y38) (a := b2) (argsL := [(.ref c18)]) (st := []) X hx hZ hown (u95 hw) (u96 hw) (notFace_of_selects (args := #[]) (mvT hZ (u98 hw))) (u98 hw) (u97 hw) (by decide) A4 (payP (W := 0) (rmApS l Z a0 hw (b2) (c18) (t26) (va_8) (kb27) (kv_9) (([] : List Int32)) (([114, 101, 100, 105, 115, 58, 47, 47] : List Int32)) (G1) ((16 : Int32)) h17 n0 (Nat.le_trans Z0 sz_h) ge_b2 ge_va_8 P0_Old A4 G12 G13 G14 G15 A22 F23 F24 V25 (O2) (P5) (Or.inl rfl) ((fun _ => (by decide))) (by simp only [List.length_append, List.length_cons, List.length_nil]; omega) (ne_t26_va_8)) hZ (u99 hw) (u78 hw) (by decide) (by decide)) eT (by rw [hml]; rfl) (lenOf own_pd25 rfl) rfl (Nat.le_of_eq rfl) 18 274 rfl rfl (by decide) (by decide) 59 (hb hby D5_56) rfl ?_
  clear X eT; clear T; intro v T h29 L2 Lc X eT hL hQ30
  obtain ⟨vb_31, kw_32, ze_33, rfl, Nq, K34, zz_vb_31, G36, G37, G38, G39, pp40, pp41⟩ := hQ30
  replace N : Fr n0 L2 := by rw [hL]; exact Fr.app N Nq
  clear Nq hL
  have ne_q0_vb_31 : q0 ≠ vb_31 := zz_vb_31.elim (fun q => by rw [q]; exact ne_q0_va_8) (fun q => Nat.ne_of_lt (Nat.lt_of_lt_of_le P1_Exa.lt q))
  have ne_vb_31_q0 : vb_31 ≠ q0 := Ne.symm ne_q0_vb_31
  have ne_x_vb_31 : x ≠ vb_31 := zz_vb_31.elim (fun q => by rw [q]; exact ne_x_va_8) (fun q => Nat.ne_of_lt (Nat.lt_of_lt_of_le P4_Exa.lt q))
  have ne_vb_31_x : vb_31 ≠ x := Ne.symm ne_x_vb_31
  have ne_t_vb_31 : t ≠ vb_31 := zz_vb_31.elim (fun q => by rw [q]; exact ne_t_va_8) (fun q => Nat.ne_of_lt (Nat.lt_of_lt_of_le P7_Arv.lt q))
  have ne_vb_31_t : vb_31 ≠ t := Ne.symm ne_t_vb_31
  have ne_b2_vb_31 : b2 ≠ vb_31 := zz_vb_31.elim (fun q => by rw [q]; exact ne_b2_va_8) (fun q => Nat.ne_of_lt (Nat.lt_of_lt_of_le A4.lt q))
  have ne_vb_31_b2 : vb_31 ≠ b2 := Ne.symm ne_b2_vb_31
  have ne_c18_vb_31 : c18 ≠ vb_31 := zz_vb_31.elim (fun q => by rw [q]; exact ne_c18_va_8) (fun q => Nat.ne_of_lt (Nat.lt_of_lt_of_le A22.lt q))
  have ne_vb_31_c18 : vb_31 ≠ c18 := Ne.symm ne_c18_vb_31
  have ne_t26_vb_31 : t26 ≠ vb_31 := zz_vb_31.elim (fun q => by rw [q]; exact ne_t26_va_8) (fun q => Nat.ne_of_lt (Nat.lt_of_lt_of_le V25.lt q))
  have ne_vb_31_t26 : vb_31 ≠ t26 := Ne.symm ne_t26_vb_31
  have ge_vb_31 : n0 ≤ vb_31 := zz_vb_31.elim (fun q => by rw [q]; exact ge_va_8) (fun q => Nat.le_trans (Nat.le_trans Z0 sz_h) q)
  have sz_vb_31 : h0.size ≤ vb_31 := zz_vb_31.elim (fun q => by rw [q]; exact sz_va_8) (fun q => Nat.le_trans sz_h q)
  have Sf_vb_31 : Safe Z own_EL vm h17 vb_31 := zz_vb_31.elim (fun q => by rw [q]; exact Sf_va_8) (fun q => Safe.new q)
  have sfB_ := Sf_va_8
  have ne_c18_b2 : c18 ≠ b2 := ne_exa A22 A4 (by decide)
  have ne_t26_b2 : t26 ≠ b2 := Ne.symm (Exa.neArv A4 V25 (u77 hw))
  have sfs := (sfS (Safe.exa (EL := own_EL) (vm := vm) hZ.alike A4 (by decide) (by decide)) (sfS sfB_ sf0))
  replace P0_Old := P0_Old.keep K34 (allS ge_b2 (allS ge_va_8 all0))
  replace P1_Exa := P1_Exa.keep K34
  replace P2_Fld := P2_Fld.keep K34 (ninS ne_q0_b2 (ninS ne_q0_va_8 nin0))
  replace P3_Fld := P3_Fld.keep K34 (ninS ne_q0_b2 (ninS ne_q0_va_8 nin0))
  replace P4_Exa := P4_Exa.keep K34
  replace P5_Fld := P5_Fld.keep K34 (ninS ne_x_b2 (ninS ne_x_va_8 nin0))
  replace P6_Fld := P6_Fld.keep K34 (ninS ne_x_b2 (ninS ne_x_va_8 nin0))
  replace P7_Arv := P7_Arv.keep K34 (ninS ne_t_b2 (ninS ne_t_va_8 nin0))
  replace A4 := A4.keep K34
  replace A22 := A22.keep K34
  replace F23 := F23.keep K34 (ninS ne_c18_b2 (ninS ne_c18_va_8 nin0))
  replace F24 := F24.keep K34 (ninS ne_c18_b2 (ninS ne_c18_va_8 nin0))
  replace V25 := V25.keep K34 (ninS ne_t26_b2 (ninS ne_t26_va_8 nin0))
  replace Sf_vb_31 := Safe.keep K34 sfs C.1 Sf_vb_31
  replace K0 := K0.trans K34 (allS (Or.inr sz_b2) (allS (Or.inr sz_va_8) all0))
  replace C := C.trans (CHr.keep K34 sfs C.1)
  replace hk := Nat.le_trans hk K34.1
  replace sz_h : h0.size ≤ h29.size := Nat.le_trans sz_h K34.1
  show Go p e below _ T (mkF m 59 _ [(.ref b2)])
  have hk_42 : ze_33 = (16 : Int32) → Z.vm.findClass "[B" = some kw_32 := fun q => by rw [(pp41 q).2.2]; exact (fun _ => pp16) (pp41 q).2.1
  refine galoadN (v := (.ref x)) X hx 60 (hb hby D5_59) rfl rfl rfl ?_
  refine gvirtual (y := Y38) (z := Y38) (a := b2) (argsL := [(.ref x)]) (st := []) X hx hZ hown (u95 hw) (u96 hw) (notFace_of_selects (args := #[]) (mvT hZ (u98 hw))) (u98 hw) (u97 hw) (by decide) A4 (payP (W := 0) (rmApS l Z a0 hw (b2) (x) (t) (vb_31) (kt) (kw_32) ((([] : List Int32) ++ ([114, 101, 100, 105, 115, 58, 47, 47] : List Int32))) (H) (G1) (ze_33) h29 n0 (Nat.le_trans Z0 sz_h) ge_b2 ge_vb_31 P0_Old A4 G36 G37 G38 G39 P4_Exa P5_Fld P6_Fld P7_Arv (O2) (P5) (pp40) ((fun q => (pp41 q).1)) (by simp only [List.length_append, List.length_cons, List.length_nil]; omega) (ne_t_vb_31)) hZ (u99 hw) (u78 hw) (by decide) (by decide)) eT (by rw [hml]; rfl) (lenOf own_pd25 rfl) rfl (Nat.le_of_eq rfl) 19 308 rfl rfl (by decide) (by decide) 63 (hb hby D5_60) rfl ?_
  clear X eT; clear T; intro v T h43 L2 Lc X eT hL hQ44
  obtain ⟨vb_45, kw_46, ze_47, rfl, Nq, K48, zz_vb_45, G50, G51, G52, G53, pp54, pp55⟩ := hQ44
  replace N : Fr n0 L2 := by rw [hL]; exact Fr.app N Nq
  clear Nq hL
  have ne_q0_vb_45 : q0 ≠ vb_45 := zz_vb_45.elim (fun q => by rw [q]; exact ne_q0_vb_31) (fun q => Nat.ne_of_lt (Nat.lt_of_lt_of_le P1_Exa.lt q))
  have ne_vb_45_q0 : vb_45 ≠ q0 := Ne.symm ne_q0_vb_45
  have ne_x_vb_45 : x ≠ vb_45 := zz_vb_45.elim (fun q => by rw [q]; exact ne_x_vb_31) (fun q => Nat.ne_of_lt (Nat.lt_of_lt_of_le P4_Exa.lt q))
  have ne_vb_45_x : vb_45 ≠ x := Ne.symm ne_x_vb_45
  have ne_t_vb_45 : t ≠ vb_45 := zz_vb_45.elim (fun q => by rw [q]; exact ne_t_vb_31) (fun q => Nat.ne_of_lt (Nat.lt_of_lt_of_le P7_Arv.lt q))
  have ne_vb_45_t : vb_45 ≠ t := Ne.symm ne_t_vb_45
  have ne_b2_vb_45 : b2 ≠ vb_45 := zz_vb_45.elim (fun q => by rw [q]; exact ne_b2_vb_31) (fun q => Nat.ne_of_lt (Nat.lt_of_lt_of_le A4.lt q))
  have ne_vb_45_b2 : vb_45 ≠ b2 := Ne.symm ne_b2_vb_45
  have ge_vb_45 : n0 ≤ vb_45 := zz_vb_45.elim (fun q => by rw [q]; exact ge_vb_31) (fun q => Nat.le_trans (Nat.le_trans Z0 sz_h) q)
  have sz_vb_45 : h0.size ≤ vb_45 := zz_vb_45.elim (fun q => by rw [q]; exact sz_vb_31) (fun q => Nat.le_trans sz_h q)
  have Sf_vb_45 : Safe Z own_EL vm h29 vb_45 := zz_vb_45.elim (fun q => by rw [q]; exact Sf_vb_31) (fun q => Safe.new q)
  have sfB_ := Sf_vb_31
  have sfs := (sfS (Safe.exa (EL := own_EL) (vm := vm) hZ.alike A4 (by decide) (by decide)) (sfS sfB_ sf0))
  replace P0_Old := P0_Old.keep K48 (allS ge_b2 (allS ge_vb_31 all0))
  replace P1_Exa := P1_Exa.keep K48
  replace P2_Fld := P2_Fld.keep K48 (ninS ne_q0_b2 (ninS ne_q0_vb_31 nin0))
  replace P3_Fld := P3_Fld.keep K48 (ninS ne_q0_b2 (ninS ne_q0_vb_31 nin0))
  replace P4_Exa := P4_Exa.keep K48
  replace P5_Fld := P5_Fld.keep K48 (ninS ne_x_b2 (ninS ne_x_vb_31 nin0))
  replace P6_Fld := P6_Fld.keep K48 (ninS ne_x_b2 (ninS ne_x_vb_31 nin0))
  replace P7_Arv := P7_Arv.keep K48 (ninS ne_t_b2 (ninS ne_t_vb_31 nin0))
  replace A4 := A4.keep K48
  replace Sf_vb_45 := Safe.keep K48 sfs C.1 Sf_vb_45
  replace K0 := K0.trans K48 (allS (Or.inr sz_b2) (allS (Or.inr sz_vb_31) all0))
  replace C := C.trans (CHr.keep K48 sfs C.1)
  replace hk := Nat.le_trans hk K48.1
  replace sz_h : h0.size ≤ h43.size := Nat.le_trans sz_h K48.1
  show Go p e below _ T (mkF m 63 _ [(.ref b2)])
  have hk_56 : ze_47 = (16 : Int32) → Z.vm.findClass "[B" = some kw_46 := fun q => by rw [(pp55 q).2.2]; exact hk_42 (pp55 q).2.1
  have lt_vb_45 := G53.lt
  refine gldcV X hx hZ hown (u39 hw) (own_wS hw) eT hS hk (own_EW hw) own_mem39 C.1 [(.int 58)] (1 : Int32) (by decide +kernel) (by decide) rfl 4 (by decide) (by decide) 21 316 rfl rfl (by decide) (by decide) 65 (hb hby D5_63) rfl ?_
  clear X eT hS hk hZ hown; clear T k0; intro c58 T h57 vm k0 t66 kb67 X eT E59 hS hk hZ hown CR60 Li61 A62 F63 F64 V65 ns68
  replace P0_Old := P0_Old.ext E59
  replace P1_Exa := P1_Exa.ext E59
  replace P2_Fld := P2_Fld.ext E59
  replace P3_Fld := P3_Fld.ext E59
  replace A4 := A4.ext E59
  replace Sf_vb_45 := CHr.safe CR60 lt_vb_45 Sf_vb_45
  replace G50 := G50.ext E59
  replace G51 := G51.ext E59
  replace G52 := G52.ext E59
  replace G53 := G53.ext E59
  replace K0 := K0.ext E59
  replace C := C.trans CR60
  replace sz_h : h0.size ≤ h57.size := Nat.le_trans sz_h E59.1
  have ne_vb_45_c58 := (ns68 _ Sf_vb_45).1
  have ne_c58_vb_45 := Ne.symm ne_vb_45_c58
  have ne_vb_45_t66 := (ns68 _ Sf_vb_45).2
  have ne_t66_vb_45 := Ne.symm ne_vb_45_t66
  show Go p e below _ T (mkF m 65 _ [(.ref c58), (.ref b2)])
  refine gvirtual (y := Y38) (z := Y38) (a := b2) (argsL := [(.ref c58)]) (st := []) X hx hZ hown (u95 hw) (u96 hw) (notFace_of_selects (args := #[]) (mvT hZ (u98 hw))) (u98 hw) (u97 hw) (by decide) A4 (payP (W := 0) (rmApS l Z a0 hw (b2) (c58) (t66) (vb_45) (kb67) (kw_46) (((([] : List Int32) ++ ([114, 101, 100, 105, 115, 58, 47, 47] : List Int32)) ++ H)) (([58] : List Int32)) (G1) (ze_47) h57 n0 (Nat.le_trans Z0 sz_h) ge_b2 ge_vb_45 P0_Old A4 G50 G51 G52 G53 A62 F63 F64 V65 (O2) (P5) (pp54) ((fun q => (pp55 q).1)) (by simp only [List.length_append, List.length_cons, List.length_nil]; omega) (ne_t66_vb_45)) hZ (u99 hw) (u78 hw) (by decide) (by decide)) eT (by rw [hml]; rfl) (lenOf own_pd25 rfl) rfl (Nat.le_of_eq rfl) 22 350 rfl rfl (by decide) (by decide) 68 (hb hby D5_65) rfl ?_
  clear X eT; clear T; intro v T h69 L2 Lc X eT hL hQ70
  obtain ⟨vb_71, kw_72, ze_73, rfl, Nq, K74, zz_vb_71, G76, G77, G78, G79, pp80, pp81⟩ := hQ70
  replace N : Fr n0 L2 := by rw [hL]; exact Fr.app N Nq
  clear Nq hL
  have ne_q0_vb_71 : q0 ≠ vb_71 := zz_vb_71.elim (fun q => by rw [q]; exact ne_q0_vb_45) (fun q => Nat.ne_of_lt (Nat.lt_of_lt_of_le P1_Exa.lt q))
  have ne_vb_71_q0 : vb_71 ≠ q0 := Ne.symm ne_q0_vb_71
  have ne_b2_vb_71 : b2 ≠ vb_71 := zz_vb_71.elim (fun q => by rw [q]; exact ne_b2_vb_45) (fun q => Nat.ne_of_lt (Nat.lt_of_lt_of_le A4.lt q))
  have ne_vb_71_b2 : vb_71 ≠ b2 := Ne.symm ne_b2_vb_71
  have ne_c58_vb_71 : c58 ≠ vb_71 := zz_vb_71.elim (fun q => by rw [q]; exact ne_c58_vb_45) (fun q => Nat.ne_of_lt (Nat.lt_of_lt_of_le A62.lt q))
  have ne_vb_71_c58 : vb_71 ≠ c58 := Ne.symm ne_c58_vb_71
  have ne_t66_vb_71 : t66 ≠ vb_71 := zz_vb_71.elim (fun q => by rw [q]; exact ne_t66_vb_45) (fun q => Nat.ne_of_lt (Nat.lt_of_lt_of_le V65.lt q))
  have ne_vb_71_t66 : vb_71 ≠ t66 := Ne.symm ne_t66_vb_71
  have ge_vb_71 : n0 ≤ vb_71 := zz_vb_71.elim (fun q => by rw [q]; exact ge_vb_45) (fun q => Nat.le_trans (Nat.le_trans Z0 sz_h) q)
  have sz_vb_71 : h0.size ≤ vb_71 := zz_vb_71.elim (fun q => by rw [q]; exact sz_vb_45) (fun q => Nat.le_trans sz_h q)
  have Sf_vb_71 : Safe Z own_EL vm h57 vb_71 := zz_vb_71.elim (fun q => by rw [q]; exact Sf_vb_45) (fun q => Safe.new q)
  have sfB_ := Sf_vb_45
  have ne_c58_b2 : c58 ≠ b2 := ne_exa A62 A4 (by decide)
  have ne_t66_b2 : t66 ≠ b2 := Ne.symm (Exa.neArv A4 V65 (u77 hw))
  have sfs := (sfS (Safe.exa (EL := own_EL) (vm := vm) hZ.alike A4 (by decide) (by decide)) (sfS sfB_ sf0))
  replace P0_Old := P0_Old.keep K74 (allS ge_b2 (allS ge_vb_45 all0))
  replace P1_Exa := P1_Exa.keep K74
  replace P2_Fld := P2_Fld.keep K74 (ninS ne_q0_b2 (ninS ne_q0_vb_45 nin0))
  replace P3_Fld := P3_Fld.keep K74 (ninS ne_q0_b2 (ninS ne_q0_vb_45 nin0))
  replace A4 := A4.keep K74
  replace A62 := A62.keep K74
  replace F63 := F63.keep K74 (ninS ne_c58_b2 (ninS ne_c58_vb_45 nin0))
  replace F64 := F64.keep K74 (ninS ne_c58_b2 (ninS ne_c58_vb_45 nin0))
  replace V65 := V65.keep K74 (ninS ne_t66_b2 (ninS ne_t66_vb_45 nin0))
  replace Sf_vb_71 := Safe.keep K74 sfs C.1 Sf_vb_71
  replace K0 := K0.trans K74 (allS (Or.inr sz_b2) (allS (Or.inr sz_vb_45) all0))
  replace C := C.trans (CHr.keep K74 sfs C.1)
  replace hk := Nat.le_trans hk K74.1
  replace sz_h : h0.size ≤ h69.size := Nat.le_trans sz_h K74.1
  show Go p e below _ T (mkF m 68 _ [(.ref b2)])
  have hk_82 : ze_73 = (16 : Int32) → Z.vm.findClass "[B" = some kw_72 := fun q => by rw [(pp81 q).2.2]; exact hk_56 (pp81 q).2.1
  refine galoadN (v := (.ref q0)) X hx 69 (hb hby D5_68) rfl rfl rfl ?_
  refine ggetF X hx hZ (host := "") hown (Or.inl (u30 hw)) Via.refl eT P2_Fld 72 (hb hby D5_69) rfl ?_
  clear X eT; clear T; intro T X eT
  refine gvirtual (y := Y37) (z := Y37) (a := b2) (argsL := [(.int (Int32.ofNat np))]) (st := []) X hx hZ hown (u137 hw) (u138 hw) (notFace_of_selects (args := #[]) (mvT hZ (u140 hw))) (u140 hw) (u139 hw) (by decide) A4 (payP (W := 0) (rmApI l Z a0 hw (b2) (vb_71) (kw_72) ((((([] : List Int32) ++ ([114, 101, 100, 105, 115, 58, 47, 47] : List Int32)) ++ H) ++ ([58] : List Int32))) (np) (G1) (d1) (d2) (k1) (k2) (ze_73) h69 n0 (Nat.le_trans Z0 sz_h) ge_b2 ge_vb_71 P0_Old A4 G76 G77 G78 G79 (O2) (P5) (hnp) (D1) (D2) (T1) (T2) (pp80) ((fun q => (pp81 q).1)) (by simp only [List.length_append, List.length_cons, List.length_nil]; omega)) hZ (u141 hw) (u78 hw) (by decide) (by decide)) eT (by rw [hml]; rfl) (lenOf own_pd26 rfl) rfl (Nat.le_of_eq rfl) 23 384 rfl rfl (by decide) (by decide) 75 (hb hby D5_72) rfl ?_
  clear X eT; clear T; intro v T h83 L2 Lc X eT hL hQ84
  obtain ⟨vb_85, kw_86, ze_87, rfl, Nq, K88, zz_vb_85, G90, G91, G92, G93, pp94, pp95⟩ := hQ84
  replace N : Fr n0 L2 := by rw [hL]; exact Fr.app N Nq
  clear Nq hL
  have ne_q0_vb_85 : q0 ≠ vb_85 := zz_vb_85.elim (fun q => by rw [q]; exact ne_q0_vb_71) (fun q => Nat.ne_of_lt (Nat.lt_of_lt_of_le P1_Exa.lt q))
  have ne_vb_85_q0 : vb_85 ≠ q0 := Ne.symm ne_q0_vb_85
  have ne_b2_vb_85 : b2 ≠ vb_85 := zz_vb_85.elim (fun q => by rw [q]; exact ne_b2_vb_71) (fun q => Nat.ne_of_lt (Nat.lt_of_lt_of_le A4.lt q))
  have ne_vb_85_b2 : vb_85 ≠ b2 := Ne.symm ne_b2_vb_85
  have ge_vb_85 : n0 ≤ vb_85 := zz_vb_85.elim (fun q => by rw [q]; exact ge_vb_71) (fun q => Nat.le_trans (Nat.le_trans Z0 sz_h) q)
  have sz_vb_85 : h0.size ≤ vb_85 := zz_vb_85.elim (fun q => by rw [q]; exact sz_vb_71) (fun q => Nat.le_trans sz_h q)
  have Sf_vb_85 : Safe Z own_EL vm h69 vb_85 := zz_vb_85.elim (fun q => by rw [q]; exact Sf_vb_71) (fun q => Safe.new q)
  have sfB_ := Sf_vb_71
  have sfs := (sfS (Safe.exa (EL := own_EL) (vm := vm) hZ.alike A4 (by decide) (by decide)) (sfS sfB_ sf0))
  replace P0_Old := P0_Old.keep K88 (allS ge_b2 (allS ge_vb_71 all0))
  replace P1_Exa := P1_Exa.keep K88
  replace P2_Fld := P2_Fld.keep K88 (ninS ne_q0_b2 (ninS ne_q0_vb_71 nin0))
  replace P3_Fld := P3_Fld.keep K88 (ninS ne_q0_b2 (ninS ne_q0_vb_71 nin0))
  replace A4 := A4.keep K88
  replace Sf_vb_85 := Safe.keep K88 sfs C.1 Sf_vb_85
  replace K0 := K0.trans K88 (allS (Or.inr sz_b2) (allS (Or.inr sz_vb_71) all0))
  replace C := C.trans (CHr.keep K88 sfs C.1)
  replace hk := Nat.le_trans hk K88.1
  replace sz_h : h0.size ≤ h83.size := Nat.le_trans sz_h K88.1
  show Go p e below _ T (mkF m 75 _ [(.ref b2)])
  have hk_96 : ze_87 = (16 : Int32) → Z.vm.findClass "[B" = some kw_86 := fun q => by rw [(pp95 q).2.2]; exact hk_82 (pp95 q).2.1
  have lt_vb_85 := G93.lt
  refine gldcV X hx hZ hown (u159 hw) (own_wS hw) eT hS hk (own_EW hw) own_mem159 C.1 [(.int 47)] (1 : Int32) (by decide +kernel) (by decide) rfl 4 (by decide) (by decide) 25 392 rfl rfl (by decide) (by decide) 77 (hb hby D5_75) rfl ?_
  clear X eT hS hk hZ hown; clear T k0; intro c98 T h97 vm k0 t106 kb107 X eT E99 hS hk hZ hown CR100 Li101 A102 F103 F104 V105 ns108
  replace P0_Old := P0_Old.ext E99
  replace P1_Exa := P1_Exa.ext E99
  replace P3_Fld := P3_Fld.ext E99
  replace A4 := A4.ext E99
  replace Sf_vb_85 := CHr.safe CR100 lt_vb_85 Sf_vb_85
  replace G90 := G90.ext E99
  replace G91 := G91.ext E99
  replace G92 := G92.ext E99
  replace G93 := G93.ext E99
  replace K0 := K0.ext E99
  replace C := C.trans CR100
  replace sz_h : h0.size ≤ h97.size := Nat.le_trans sz_h E99.1
  have ne_vb_85_c98 := (ns108 _ Sf_vb_85).1
  have ne_c98_vb_85 := Ne.symm ne_vb_85_c98
  have ne_vb_85_t106 := (ns108 _ Sf_vb_85).2
  have ne_t106_vb_85 := Ne.symm ne_vb_85_t106
  show Go p e below _ T (mkF m 77 _ [(.ref c98), (.ref b2)])
  refine gvirtual (y := Y38) (z := Y38) (a := b2) (argsL := [(.ref c98)]) (st := []) X hx hZ hown (u95 hw) (u96 hw) (notFace_of_selects (args := #[]) (mvT hZ (u98 hw))) (u98 hw) (u97 hw) (by decide) A4 (payP (W := 0) (rmApS l Z a0 hw (b2) (c98) (t106) (vb_85) (kb107) (kw_86) (((((([] : List Int32) ++ ([114, 101, 100, 105, 115, 58, 47, 47] : List Int32)) ++ H) ++ ([58] : List Int32)) ++ own_dg np)) (([47] : List Int32)) (G1) (ze_87) h97 n0 (Nat.le_trans Z0 sz_h) ge_b2 ge_vb_85 P0_Old A4 G90 G91 G92 G93 A102 F103 F104 V105 (O2) (P5) (pp94) ((fun q => (pp95 q).1)) (by simp only [List.length_append, List.length_cons, List.length_nil]; omega) (ne_t106_vb_85)) hZ (u99 hw) (u78 hw) (by decide) (by decide)) eT (by rw [hml]; rfl) (lenOf own_pd25 rfl) rfl (Nat.le_of_eq rfl) 26 426 rfl rfl (by decide) (by decide) 80 (hb hby D5_77) rfl ?_
  clear X eT; clear T; intro v T h109 L2 Lc X eT hL hQ110
  obtain ⟨vb_111, kw_112, ze_113, rfl, Nq, K114, zz_vb_111, G116, G117, G118, G119, pp120, pp121⟩ := hQ110
  replace N : Fr n0 L2 := by rw [hL]; exact Fr.app N Nq
  clear Nq hL
  have ne_q0_vb_111 : q0 ≠ vb_111 := zz_vb_111.elim (fun q => by rw [q]; exact ne_q0_vb_85) (fun q => Nat.ne_of_lt (Nat.lt_of_lt_of_le P1_Exa.lt q))
  have ne_vb_111_q0 : vb_111 ≠ q0 := Ne.symm ne_q0_vb_111
  have ne_b2_vb_111 : b2 ≠ vb_111 := zz_vb_111.elim (fun q => by rw [q]; exact ne_b2_vb_85) (fun q => Nat.ne_of_lt (Nat.lt_of_lt_of_le A4.lt q))
  have ne_vb_111_b2 : vb_111 ≠ b2 := Ne.symm ne_b2_vb_111
  have ne_c98_vb_111 : c98 ≠ vb_111 := zz_vb_111.elim (fun q => by rw [q]; exact ne_c98_vb_85) (fun q => Nat.ne_of_lt (Nat.lt_of_lt_of_le A102.lt q))
  have ne_vb_111_c98 : vb_111 ≠ c98 := Ne.symm ne_c98_vb_111
  have ne_t106_vb_111 : t106 ≠ vb_111 := zz_vb_111.elim (fun q => by rw [q]; exact ne_t106_vb_85) (fun q => Nat.ne_of_lt (Nat.lt_of_lt_of_le V105.lt q))
  have ne_vb_111_t106 : vb_111 ≠ t106 := Ne.symm ne_t106_vb_111
  have ge_vb_111 : n0 ≤ vb_111 := zz_vb_111.elim (fun q => by rw [q]; exact ge_vb_85) (fun q => Nat.le_trans (Nat.le_trans Z0 sz_h) q)
  have sz_vb_111 : h0.size ≤ vb_111 := zz_vb_111.elim (fun q => by rw [q]; exact sz_vb_85) (fun q => Nat.le_trans sz_h q)
  have Sf_vb_111 : Safe Z own_EL vm h97 vb_111 := zz_vb_111.elim (fun q => by rw [q]; exact Sf_vb_85) (fun q => Safe.new q)
  have sfB_ := Sf_vb_85
  have ne_c98_b2 : c98 ≠ b2 := ne_exa A102 A4 (by decide)
  have ne_t106_b2 : t106 ≠ b2 := Ne.symm (Exa.neArv A4 V105 (u77 hw))
  have sfs := (sfS (Safe.exa (EL := own_EL) (vm := vm) hZ.alike A4 (by decide) (by decide)) (sfS sfB_ sf0))
  replace P0_Old := P0_Old.keep K114 (allS ge_b2 (allS ge_vb_85 all0))
  replace P1_Exa := P1_Exa.keep K114
  replace P3_Fld := P3_Fld.keep K114 (ninS ne_q0_b2 (ninS ne_q0_vb_85 nin0))
  replace A4 := A4.keep K114
  replace A102 := A102.keep K114
  replace F103 := F103.keep K114 (ninS ne_c98_b2 (ninS ne_c98_vb_85 nin0))
  replace F104 := F104.keep K114 (ninS ne_c98_b2 (ninS ne_c98_vb_85 nin0))
  replace V105 := V105.keep K114 (ninS ne_t106_b2 (ninS ne_t106_vb_85 nin0))
  replace Sf_vb_111 := Safe.keep K114 sfs C.1 Sf_vb_111
  replace K0 := K0.trans K114 (allS (Or.inr sz_b2) (allS (Or.inr sz_vb_85) all0))
  replace C := C.trans (CHr.keep K114 sfs C.1)
  replace hk := Nat.le_trans hk K114.1
  replace sz_h : h0.size ≤ h109.size := Nat.le_trans sz_h K114.1
  show Go p e below _ T (mkF m 80 _ [(.ref b2)])
  have hk_122 : ze_113 = (16 : Int32) → Z.vm.findClass "[B" = some kw_112 := fun q => by rw [(pp121 q).2.2]; exact hk_96 (pp121 q).2.1
  refine galoadN (v := (.ref q0)) X hx 81 (hb hby D5_80) rfl rfl rfl ?_
  refine ggetF X hx hZ (host := "") hown (Or.inl (u32 hw)) Via.refl eT P3_Fld 84 (hb hby D5_81) rfl ?_
  clear X eT; clear T; intro T X eT
  refine gvirtual (y := Y37) (z := Y37) (a := b2) (argsL := [(.int (Int32.ofNat nd))]) (st := []) X hx hZ hown (u137 hw) (u138 hw) (notFace_of_selects (args := #[]) (mvT hZ (u140 hw))) (u140 hw) (u139 hw) (by decide) A4 (payP (W := 0) (rmApI l Z a0 hw (b2) (vb_111) (kw_112) ((((((([] : List Int32) ++ ([114, 101, 100, 105, 115, 58, 47, 47] : List Int32)) ++ H) ++ ([58] : List Int32)) ++ own_dg np) ++ ([47] : List Int32))) (nd) (G1) (d1) (d2) (k1) (k2) (ze_113) h109 n0 (Nat.le_trans Z0 sz_h) ge_b2 ge_vb_111 P0_Old A4 G116 G117 G118 G119 (O2) (P5) (hnd) (D1) (D2) (T1) (T2) (pp120) ((fun q => (pp121 q).1)) (by simp only [List.length_append, List.length_cons, List.length_nil]; omega)) hZ (u141 hw) (u78 hw) (by decide) (by decide)) eT (by rw [hml]; rfl) (lenOf own_pd26 rfl) rfl (Nat.le_of_eq rfl) 27 460 rfl rfl (by decide) (by decide) 87 (hb hby D5_84) rfl ?_
  clear X eT; clear T; intro v T h123 L2 Lc X eT hL hQ124
  obtain ⟨vb_125, kw_126, ze_127, rfl, Nq, K128, zz_vb_125, G130, G131, G132, G133, pp134, pp135⟩ := hQ124
  replace N : Fr n0 L2 := by rw [hL]; exact Fr.app N Nq
  clear Nq hL
  have ne_q0_vb_125 : q0 ≠ vb_125 := zz_vb_125.elim (fun q => by rw [q]; exact ne_q0_vb_111) (fun q => Nat.ne_of_lt (Nat.lt_of_lt_of_le P1_Exa.lt q))
  have ne_vb_125_q0 : vb_125 ≠ q0 := Ne.symm ne_q0_vb_125
  have ne_b2_vb_125 : b2 ≠ vb_125 := zz_vb_125.elim (fun q => by rw [q]; exact ne_b2_vb_111) (fun q => Nat.ne_of_lt (Nat.lt_of_lt_of_le A4.lt q))
  have ne_vb_125_b2 : vb_125 ≠ b2 := Ne.symm ne_b2_vb_125
  have ge_vb_125 : n0 ≤ vb_125 := zz_vb_125.elim (fun q => by rw [q]; exact ge_vb_111) (fun q => Nat.le_trans (Nat.le_trans Z0 sz_h) q)
  have sz_vb_125 : h0.size ≤ vb_125 := zz_vb_125.elim (fun q => by rw [q]; exact sz_vb_111) (fun q => Nat.le_trans sz_h q)
  have Sf_vb_125 : Safe Z own_EL vm h109 vb_125 := zz_vb_125.elim (fun q => by rw [q]; exact Sf_vb_111) (fun q => Safe.new q)
  have sfB_ := Sf_vb_111
  have sfs := (sfS (Safe.exa (EL := own_EL) (vm := vm) hZ.alike A4 (by decide) (by decide)) (sfS sfB_ sf0))
  replace P0_Old := P0_Old.keep K128 (allS ge_b2 (allS ge_vb_111 all0))
  replace P1_Exa := P1_Exa.keep K128
  replace P3_Fld := P3_Fld.keep K128 (ninS ne_q0_b2 (ninS ne_q0_vb_111 nin0))
  replace A4 := A4.keep K128
  replace Sf_vb_125 := Safe.keep K128 sfs C.1 Sf_vb_125
  replace K0 := K0.trans K128 (allS (Or.inr sz_b2) (allS (Or.inr sz_vb_111) all0))
  replace C := C.trans (CHr.keep K128 sfs C.1)
  replace hk := Nat.le_trans hk K128.1
  replace sz_h : h0.size ≤ h123.size := Nat.le_trans sz_h K128.1
  show Go p e below _ T (mkF m 87 _ [(.ref b2)])
  have hk_136 : ze_127 = (16 : Int32) → Z.vm.findClass "[B" = some kw_126 := fun q => by rw [(pp135 q).2.2]; exact hk_122 (pp135 q).2.1
  refine gvirtual (y := Y40) (z := Y40) (a := b2) (argsL := []) (st := []) X hx hZ hown (u160 hw) (u161 hw) (notFace_of_selects (args := #[]) (mvT hZ (u163 hw))) (u163 hw) (u162 hw) (by decide) A4 (payP (W := 0) (rmTsA l Z a0 hw (b2) (vb_125) (kw_126) (G1) (((((((([] : List Int32) ++ ([114, 101, 100, 105, 115, 58, 47, 47] : List Int32)) ++ H) ++ ([58] : List Int32)) ++ own_dg np) ++ ([47] : List Int32)) ++ own_dg nd)) (ze_127) h123 n0 (Nat.le_trans Z0 sz_h) P0_Old A4 G130 G131 G132 G133 (O2) (P5) (pp134) (fun q => ⟨(fun q => (pp135 q).1) q, hk_136 q⟩) (by simp only [List.length_append, List.length_cons, List.length_nil]; omega)) hZ (u164 hw) (u78 hw) (by decide) (by decide)) eT (by rw [hml]; rfl) (lenOf own_pd21 rfl) rfl (Nat.le_of_eq rfl) 29 498 rfl rfl (by decide) (by decide) 90 (hb hby D5_87) rfl ?_
  clear X eT; clear T; intro v T h137 L2 Lc X eT hL hQ138
  obtain ⟨x_139, tr_140, kr_141, rfl, Nq, K142, zz_x_139, zz_tr_140, G144, G145, G146, G147⟩ := hQ138
  replace N : Fr n0 L2 := by rw [hL]; exact Fr.app N Nq
  clear Nq hL
  have ne_q0_x_139 : q0 ≠ x_139 := Nat.ne_of_lt (Nat.lt_of_lt_of_le P1_Exa.lt zz_x_139)
  have ne_x_139_q0 : x_139 ≠ q0 := Ne.symm ne_q0_x_139
  have ne_b2_x_139 : b2 ≠ x_139 := Nat.ne_of_lt (Nat.lt_of_lt_of_le A4.lt zz_x_139)
  have ne_x_139_b2 : x_139 ≠ b2 := Ne.symm ne_b2_x_139
  have ne_vb_125_x_139 : vb_125 ≠ x_139 := Nat.ne_of_lt (Nat.lt_of_lt_of_le G133.lt zz_x_139)
  have ne_x_139_vb_125 : x_139 ≠ vb_125 := Ne.symm ne_vb_125_x_139
  have sz_x_139 : h0.size ≤ x_139 := Nat.le_trans sz_h zz_x_139
  have ge_x_139 : n0 ≤ x_139 := Nat.le_trans Z0 sz_x_139
  have Sf_tr_140 : Safe Z own_EL vm h123 tr_140 := Safe.new zz_tr_140
  have ne_q0_tr_140 : q0 ≠ tr_140 := Nat.ne_of_lt (Nat.lt_of_lt_of_le P1_Exa.lt zz_tr_140)
  have ne_tr_140_q0 : tr_140 ≠ q0 := Ne.symm ne_q0_tr_140
  have ne_b2_tr_140 : b2 ≠ tr_140 := Nat.ne_of_lt (Nat.lt_of_lt_of_le A4.lt zz_tr_140)
  have ne_tr_140_b2 : tr_140 ≠ b2 := Ne.symm ne_b2_tr_140
  have ne_vb_125_tr_140 : vb_125 ≠ tr_140 := Nat.ne_of_lt (Nat.lt_of_lt_of_le G133.lt zz_tr_140)
  have ne_tr_140_vb_125 : tr_140 ≠ vb_125 := Ne.symm ne_vb_125_tr_140
  have sz_tr_140 : h0.size ≤ tr_140 := Nat.le_trans sz_h zz_tr_140
  have ge_tr_140 : n0 ≤ tr_140 := Nat.le_trans Z0 sz_tr_140
  replace P0_Old := P0_Old.keep K142 all0
  replace P1_Exa := P1_Exa.keep K142
  replace P3_Fld := P3_Fld.keep K142 nin0
  replace A4 := A4.keep K142
  replace Sf_vb_125 := Safe.keep K142 sf0 C.1 Sf_vb_125
  replace G130 := G130.keep K142 nin0
  replace G131 := G131.keep K142 nin0
  replace G132 := G132.keep K142 nin0
  replace G133 := G133.keep K142 nin0
  replace Sf_tr_140 := Safe.keep K142 sf0 C.1 Sf_tr_140
  replace K0 := K0.trans K142 all0
  replace C := C.trans (CHr.keep K142 sf0 C.1)
  replace hk := Nat.le_trans hk K142.1
  replace sz_h : h0.size ≤ h137.size := Nat.le_trans sz_h K142.1
  show Go p e below _ T (mkF m 90 _ [(.ref x_139)])
  exact gRetS X hx hlk hret rfl (Or.inr (Or.inr (Or.inr (Or.inr ⟨rfl, rfl, rfl⟩)))) (hb hby D5_90) eT hS hk hZ (own_EW hw) C (by decide) (by decide) ⟨x_139, tr_140, kr_141, H, rfl, N, K0, sz_x_139, sz_tr_140, G144, G145, G146, G147, hH⟩
theorem rmSAt (l : Launch) (Z : State) (a0 : Array Value) (hw : HW_ a0 Z) (q0 : Addr) (x : Addr) (t : Addr) (kt : ClassId) (cs : List Int32) (np : Nat) (nd : Nat) (d1 : Addr) (d2 : Addr) (k1 : ClassId) (k2 : ClassId) (G1 : Int32) (h0 : Heap) (n0 : Nat) (Z0 : n0 ≤ h0.size) (P0_Old : Old Z n0 h0) (P1_Exa : Exa Z h0 q0 "com/example/per1od/per1od/StoreAddress") (P2_Fld : Fld Z h0 q0 "com/example/per1od/per1od/StoreAddress" "host" "Ljava/lang/String;" (.ref x)) (P3_Fld : Fld Z h0 q0 "com/example/per1od/per1od/StoreAddress" "port" "I" (.int (Int32.ofNat np))) (P4_Fld : Fld Z h0 q0 "com/example/per1od/per1od/StoreAddress" "database" "I" (.int (Int32.ofNat nd))) (P5_Exa : Exa Z h0 x "java/lang/String") (P6_Fld : Fld Z h0 x "java/lang/String" "coder" "B" (.int 0)) (P7_Fld : Fld Z h0 x "java/lang/String" "value" "[B" (.ref t)) (P8_Arv : Arv Z h0 t kt .byte (Int32.ofNat cs.length) ((cs.map fun c => c.toInt8.toInt32).map Value.int) (.int 0)) (O2 : Sta Z Z.heap "java/lang/String" "COMPACT_STRINGS" "Z" (.int G1)) (P5 : ¬ G1 = (0 : Int32)) (D1 : Sta Z Z.heap "java/lang/Integer" "DigitOnes" "[B" (.ref d1)) (D2 : Sta Z Z.heap "java/lang/Integer" "DigitTens" "[B" (.ref d2)) (T1 : Arv Z Z.heap d1 k1 .byte (100 : Int32) own_ones (.int 0)) (T2 : Arv Z Z.heap d2 k2 .byte (100 : Int32) own_tens (.int 0)) (hl3 : cs.length ≤ 3) (hrg : ∀ c ∈ cs, ¬ c < 0 ∧ ¬ (255 : Int32) < c) (hnp : np < 2147483648) (hp5 : (own_dg np).length ≤ 5) (hnd : nd < 2147483648) (hd10 : (own_dg nd).length ≤ 10) :
    CtS l Y1 prog_23_method_3_code 2 (some (.object "java/lang/String")) [] ({ frames := 6, cells := 29, slots := 498, locals := 91 } : Room) Z own_EL [] #[(.ref q0)] h0 (fun v h L => ∃ (xr : Addr), ∃ (tr : Addr), ∃ (kr : ClassId), ∃ (hh : List Int32), v = some (.ref xr) ∧ Fr n0 L ∧ Keep h0 h [] ∧ h0.size ≤ xr ∧ h0.size ≤ tr ∧ Exa Z h xr "java/lang/String" ∧ Fld Z h xr "java/lang/String" "coder" "B" (.int 0) ∧ Fld Z h xr "java/lang/String" "value" "[B" (.ref tr) ∧ Arv Z h tr kr .byte (Int32.ofNat (([114, 101, 100, 105, 115, 58, 47, 47] : List Int32) ++ hh ++ ([58] : List Int32) ++ own_dg np ++ ([47] : List Int32) ++ own_dg nd).length) (((([114, 101, 100, 105, 115, 58, 47, 47] : List Int32) ++ hh ++ ([58] : List Int32) ++ own_dg np ++ ([47] : List Int32) ++ own_dg nd).map fun c => c.toInt8.toInt32).map Value.int) (.int 0) ∧ hh = own_host cs) := by
  refine CtS.walk (Ls := #[.val (.ref q0), .unset]) (plainFor_of_name own_pn20) (fun m => by first | (simp [entryFrame, mkF, argsToLocals, Value.category]; done) | rfl) ?_
  intro p e s m below meth cc_ T vm k0 hx hby hml hown hnm hret hlk hZ X eT hS hk C hSL
  have N := Fr.nil n0
  have K0 := Keep.refl h0 []
  have sz_h : h0.size ≤ h0.size := Nat.le_refl _
  refine galoadN (v := (.ref q0)) X hx 1 (hb hby D5_0) rfl rfl rfl ?_
  refine ggetF X hx hZ (host := "") hown (Or.inl (u28 hw)) Via.refl eT P2_Fld 4 (hb hby D5_1) rfl ?_
  clear X eT; clear T; intro T X eT
  refine gldcV X hx hZ hown (u39 hw) (own_wS hw) eT hS hk (own_EW hw) own_mem39 C.1 [(.int 58)] (1 : Int32) (by decide +kernel) (by decide) rfl 4 (by decide) (by decide) 2 8 rfl rfl (by decide) (by decide) 6 (hb hby D5_4) rfl ?_
  clear X eT hS hk hZ hown; clear T k0; intro c2 T h1 vm k0 t10 kb11 X eT E3 hS hk hZ hown CR4 Li5 A6 F7 F8 V9 ns12
  replace P0_Old := P0_Old.ext E3
  replace P1_Exa := P1_Exa.ext E3
  replace P2_Fld := P2_Fld.ext E3
  replace P3_Fld := P3_Fld.ext E3
  replace P4_Fld := P4_Fld.ext E3
  replace P5_Exa := P5_Exa.ext E3
  replace P6_Fld := P6_Fld.ext E3
  replace P7_Fld := P7_Fld.ext E3
  replace P8_Arv := P8_Arv.ext E3
  replace K0 := K0.ext E3
  replace C := C.trans CR4
  replace sz_h : h0.size ≤ h1.size := Nat.le_trans sz_h E3.1
  show Go p e below _ T (mkF m 6 _ [(.ref c2), (.ref x)])
  refine gvirtual (y := Y29) (z := Y29) (a := x) (argsL := [(.ref c2)]) (st := []) X hx hZ hown (u40 hw) (u41 hw) (notFace_of_selects (args := #[]) (mvT hZ (u43 hw))) (u43 hw) (u42 hw) (by decide) P5_Exa (payP (W := 0) (rmCt l Z a0 hw (x) (c2) (t) (t10) (kt) (kb11) (cs) (G1) h1 n0 (Nat.le_trans Z0 sz_h) P0_Old P5_Exa P6_Fld P7_Fld P8_Arv A6 F7 F8 V9 (O2) (P5) (hl3) (hrg)) hZ (u44 hw) (u5 hw) (by decide) (by decide)) eT (by rw [hml]; rfl) (lenOf own_pd24 rfl) rfl (Nat.le_of_eq rfl) 2 8 rfl rfl (by decide) (by decide) 9 (hb hby D5_6) rfl ?_
  clear X eT; clear T; intro v T h13 L2 Lc X eT hL hQ14
  obtain ⟨rb_15, rfl, Nq, hh, pp18⟩ := hQ14
  replace N : Fr n0 L2 := by rw [hL]; exact Fr.app N Nq
  clear Nq hL
  replace hh := hh.symm; subst hh
  show Go p e below _ T (mkF m 9 _ [(.int rb_15)])
  rcases pp18 with ⟨e1_, hm⟩ | ⟨e1_, hm⟩
  · subst e1_
    show Go p e below _ T (mkF m 9 _ [(.int 1)])
    refine gifNo X hx 12 (hb hby D5_9) rfl (by decide) ?_
    refine gnewO X hx hZ hown (u76 hw) (u77 hw) (u78 hw) eT 3 12 rfl rfl (by decide) (by decide) 15 (hb hby D5_12) rfl ?_
    clear X eT; clear T; intro T h19 b20 X eT ga E21 A22 D23
    have le_a := Nat.le_of_eq ga.symm
    have ne_q0_b20 : q0 ≠ b20 := Nat.ne_of_lt (Nat.lt_of_lt_of_le P1_Exa.lt le_a)
    have ne_b20_q0 : b20 ≠ q0 := Ne.symm ne_q0_b20
    have ne_x_b20 : x ≠ b20 := Nat.ne_of_lt (Nat.lt_of_lt_of_le P5_Exa.lt le_a)
    have ne_b20_x : b20 ≠ x := Ne.symm ne_x_b20
    have ne_t_b20 : t ≠ b20 := Nat.ne_of_lt (Nat.lt_of_lt_of_le P8_Arv.lt le_a)
    have ne_b20_t : b20 ≠ t := Ne.symm ne_t_b20
    have ne_c2_b20 : c2 ≠ b20 := Nat.ne_of_lt (Nat.lt_of_lt_of_le A6.lt le_a)
    have ne_b20_c2 : b20 ≠ c2 := Ne.symm ne_c2_b20
    have ne_t10_b20 : t10 ≠ b20 := Nat.ne_of_lt (Nat.lt_of_lt_of_le V9.lt le_a)
    have ne_b20_t10 : b20 ≠ t10 := Ne.symm ne_t10_b20
    have sz_b20 : h0.size ≤ b20 := Nat.le_trans sz_h le_a
    have ge_b20 : n0 ≤ b20 := Nat.le_trans Z0 sz_b20
    clear le_a ga
    replace P0_Old := P0_Old.ext E21
    replace P1_Exa := P1_Exa.ext E21
    replace P2_Fld := P2_Fld.ext E21
    replace P3_Fld := P3_Fld.ext E21
    replace P4_Fld := P4_Fld.ext E21
    replace P5_Exa := P5_Exa.ext E21
    replace P6_Fld := P6_Fld.ext E21
    replace P7_Fld := P7_Fld.ext E21
    replace P8_Arv := P8_Arv.ext E21
    replace A6 := A6.ext E21
    replace F7 := F7.ext E21
    replace F8 := F8.ext E21
    replace V9 := V9.ext E21
    replace K0 := K0.ext E21
    replace C := C.trans (CHr.ext E21 C.1)
    replace hk := Nat.le_trans hk E21.1
    replace sz_h : h0.size ≤ h19.size := Nat.le_trans sz_h E21.1
    have F_value_b20 : Fld Z h19 b20 "java/lang/AbstractStringBuilder" "value" "[B" .null := D23 (Or.inl (u91 hw)) (ty := (.array .byte)) own_pf0
    have F_coder_b20 : Fld Z h19 b20 "java/lang/AbstractStringBuilder" "coder" "B" (.int 0) := D23 (Or.inl (u93 hw)) (ty := .byte) own_pf1
    have F_count_b20 : Fld Z h19 b20 "java/lang/AbstractStringBuilder" "count" "I" (.int 0) := D23 (Or.inl (u111 hw)) (ty := .int) own_pf2
    clear D23
    refine gdup X hx 16 (hb hby D5_15) rfl rfl ?_
    refine gspecial (y := Y36) (a := b20) (argsL := []) (st := [(.ref b20)]) X hx hZ hown rfl (u79 hw) (u80 hw) (u81 hw) (by decide) (payP (W := 1) (rmIn0 l Z a0 hw (b20) (G1) h19 n0 (Nat.le_trans Z0 sz_h) ge_b20 P0_Old A22 F_value_b20 F_coder_b20 F_count_b20 (O2) (P5)) hZ (u81 hw) (u78 hw) (by decide) (by decide)) eT (by rw [hml]; rfl) (lenOf own_pd23 rfl) rfl (Nat.le_of_eq rfl) 4 28 rfl rfl (by decide) (by decide) 19 (hb hby D5_16) rfl ?_
    clear X eT; clear T; intro v T h24 L2 Lc X eT hL hQ25
    obtain ⟨va_26, kv_27, rfl, Nq, K28, zz_va_26, G30, G31, G32, G33, pp34⟩ := hQ25
    replace N : Fr n0 L2 := by rw [hL]; exact Fr.app N Nq
    clear Nq hL
    have Sf_va_26 : Safe Z own_EL vm h19 va_26 := Safe.new zz_va_26
    have ne_q0_va_26 : q0 ≠ va_26 := Nat.ne_of_lt (Nat.lt_of_lt_of_le P1_Exa.lt zz_va_26)
    have ne_va_26_q0 : va_26 ≠ q0 := Ne.symm ne_q0_va_26
    have ne_x_va_26 : x ≠ va_26 := Nat.ne_of_lt (Nat.lt_of_lt_of_le P5_Exa.lt zz_va_26)
    have ne_va_26_x : va_26 ≠ x := Ne.symm ne_x_va_26
    have ne_t_va_26 : t ≠ va_26 := Nat.ne_of_lt (Nat.lt_of_lt_of_le P8_Arv.lt zz_va_26)
    have ne_va_26_t : va_26 ≠ t := Ne.symm ne_t_va_26
    have ne_c2_va_26 : c2 ≠ va_26 := Nat.ne_of_lt (Nat.lt_of_lt_of_le A6.lt zz_va_26)
    have ne_va_26_c2 : va_26 ≠ c2 := Ne.symm ne_c2_va_26
    have ne_t10_va_26 : t10 ≠ va_26 := Nat.ne_of_lt (Nat.lt_of_lt_of_le V9.lt zz_va_26)
    have ne_va_26_t10 : va_26 ≠ t10 := Ne.symm ne_t10_va_26
    have ne_b20_va_26 : b20 ≠ va_26 := Nat.ne_of_lt (Nat.lt_of_lt_of_le A22.lt zz_va_26)
    have ne_va_26_b20 : va_26 ≠ b20 := Ne.symm ne_b20_va_26
    have sz_va_26 : h0.size ≤ va_26 := Nat.le_trans sz_h zz_va_26
    have ge_va_26 : n0 ≤ va_26 := Nat.le_trans Z0 sz_va_26
    have sfs := (sfS (Safe.exa (EL := own_EL) (vm := vm) hZ.alike A22 (by decide) (by decide)) sf0)
    replace P0_Old := P0_Old.keep K28 (allS ge_b20 all0)
    replace P1_Exa := P1_Exa.keep K28
    replace P2_Fld := P2_Fld.keep K28 (ninS ne_q0_b20 nin0)
    replace P3_Fld := P3_Fld.keep K28 (ninS ne_q0_b20 nin0)
    replace P4_Fld := P4_Fld.keep K28 (ninS ne_q0_b20 nin0)
    replace P5_Exa := P5_Exa.keep K28
    replace P6_Fld := P6_Fld.keep K28 (ninS ne_x_b20 nin0)
    replace P7_Fld := P7_Fld.keep K28 (ninS ne_x_b20 nin0)
    replace P8_Arv := P8_Arv.keep K28 (ninS ne_t_b20 nin0)
    replace A6 := A6.keep K28
    replace F7 := F7.keep K28 (ninS ne_c2_b20 nin0)
    replace F8 := F8.keep K28 (ninS ne_c2_b20 nin0)
    replace V9 := V9.keep K28 (ninS ne_t10_b20 nin0)
    replace A22 := A22.keep K28
    replace Sf_va_26 := Safe.keep K28 sfs C.1 Sf_va_26
    replace K0 := K0.trans K28 (allS (Or.inr sz_b20) all0)
    replace C := C.trans (CHr.keep K28 sfs C.1)
    replace hk := Nat.le_trans hk K28.1
    replace sz_h : h0.size ≤ h24.size := Nat.le_trans sz_h K28.1
    show Go p e below _ T (mkF m 19 _ [(.ref b20)])
    have lt_va_26 := G33.lt
    refine gldcV X hx hZ hown (u270 hw) (own_wS hw) eT hS hk (own_EW hw) own_mem270 C.1 [(.int 91)] (1 : Int32) (by decide +kernel) (by decide) rfl 4 (by decide) (by decide) 6 36 rfl rfl (by decide) (by decide) 21 (hb hby D5_19) rfl ?_
    clear X eT hS hk hZ hown; clear T k0; intro c36 T h35 vm k0 t44 kb45 X eT E37 hS hk hZ hown CR38 Li39 A40 F41 F42 V43 ns46
    replace P0_Old := P0_Old.ext E37
    replace P1_Exa := P1_Exa.ext E37
    replace P2_Fld := P2_Fld.ext E37
    replace P3_Fld := P3_Fld.ext E37
    replace P4_Fld := P4_Fld.ext E37
    replace P5_Exa := P5_Exa.ext E37
    replace P6_Fld := P6_Fld.ext E37
    replace P7_Fld := P7_Fld.ext E37
    replace P8_Arv := P8_Arv.ext E37
    replace A6 := A6.ext E37
    replace F7 := F7.ext E37
    replace F8 := F8.ext E37
    replace V9 := V9.ext E37
    replace A22 := A22.ext E37
    replace Sf_va_26 := CHr.safe CR38 lt_va_26 Sf_va_26
    replace G30 := G30.ext E37
    replace G31 := G31.ext E37
    replace G32 := G32.ext E37
    replace G33 := G33.ext E37
    replace K0 := K0.ext E37
    replace C := C.trans CR38
    replace sz_h : h0.size ≤ h35.size := Nat.le_trans sz_h E37.1
    have ne_va_26_c36 := (ns46 _ Sf_va_26).1
    have ne_c36_va_26 := Ne.symm ne_va_26_c36
    have ne_va_26_t44 := (ns46 _ Sf_va_26).2
    have ne_t44_va_26 := Ne.symm ne_va_26_t44
    show Go p e below _ T (mkF m 21 _ [(.ref c36), (.ref b20)])
    refine gvirtual (y := Y38) (z := Y38) (a := b20) (argsL := [(.ref c36)]) (st := []) X hx hZ hown (u95 hw) (u96 hw) (notFace_of_selects (args := #[]) (mvT hZ (u98 hw))) (u98 hw) (u97 hw) (by decide) A22 (payP (W := 0) (rmApS l Z a0 hw (b20) (c36) (t44) (va_26) (kb45) (kv_27) (([] : List Int32)) (([91] : List Int32)) (G1) ((16 : Int32)) h35 n0 (Nat.le_trans Z0 sz_h) ge_b20 ge_va_26 P0_Old A22 G30 G31 G32 G33 A40 F41 F42 V43 (O2) (P5) (Or.inl rfl) ((fun _ => (by decide))) (by simp only [List.length_append, List.length_cons, List.length_nil]; omega) (ne_t44_va_26)) hZ (u99 hw) (u78 hw) (by decide) (by decide)) eT (by rw [hml]; rfl) (lenOf own_pd25 rfl) rfl (Nat.le_of_eq rfl) 7 70 rfl rfl (by decide) (by decide) 24 (hb hby D5_21) rfl ?_
    clear X eT; clear T; intro v T h47 L2 Lc X eT hL hQ48
    obtain ⟨vb_49, kw_50, ze_51, rfl, Nq, K52, zz_vb_49, G54, G55, G56, G57, pp58, pp59⟩ := hQ48
    replace N : Fr n0 L2 := by rw [hL]; exact Fr.app N Nq
    clear Nq hL
    have ne_q0_vb_49 : q0 ≠ vb_49 := zz_vb_49.elim (fun q => by rw [q]; exact ne_q0_va_26) (fun q => Nat.ne_of_lt (Nat.lt_of_lt_of_le P1_Exa.lt q))
    have ne_vb_49_q0 : vb_49 ≠ q0 := Ne.symm ne_q0_vb_49
    have ne_x_vb_49 : x ≠ vb_49 := zz_vb_49.elim (fun q => by rw [q]; exact ne_x_va_26) (fun q => Nat.ne_of_lt (Nat.lt_of_lt_of_le P5_Exa.lt q))
    have ne_vb_49_x : vb_49 ≠ x := Ne.symm ne_x_vb_49
    have ne_t_vb_49 : t ≠ vb_49 := zz_vb_49.elim (fun q => by rw [q]; exact ne_t_va_26) (fun q => Nat.ne_of_lt (Nat.lt_of_lt_of_le P8_Arv.lt q))
    have ne_vb_49_t : vb_49 ≠ t := Ne.symm ne_t_vb_49
    have ne_c2_vb_49 : c2 ≠ vb_49 := zz_vb_49.elim (fun q => by rw [q]; exact ne_c2_va_26) (fun q => Nat.ne_of_lt (Nat.lt_of_lt_of_le A6.lt q))
    have ne_vb_49_c2 : vb_49 ≠ c2 := Ne.symm ne_c2_vb_49
    have ne_t10_vb_49 : t10 ≠ vb_49 := zz_vb_49.elim (fun q => by rw [q]; exact ne_t10_va_26) (fun q => Nat.ne_of_lt (Nat.lt_of_lt_of_le V9.lt q))
    have ne_vb_49_t10 : vb_49 ≠ t10 := Ne.symm ne_t10_vb_49
    have ne_b20_vb_49 : b20 ≠ vb_49 := zz_vb_49.elim (fun q => by rw [q]; exact ne_b20_va_26) (fun q => Nat.ne_of_lt (Nat.lt_of_lt_of_le A22.lt q))
    have ne_vb_49_b20 : vb_49 ≠ b20 := Ne.symm ne_b20_vb_49
    have ne_c36_vb_49 : c36 ≠ vb_49 := zz_vb_49.elim (fun q => by rw [q]; exact ne_c36_va_26) (fun q => Nat.ne_of_lt (Nat.lt_of_lt_of_le A40.lt q))
    have ne_vb_49_c36 : vb_49 ≠ c36 := Ne.symm ne_c36_vb_49
    have ne_t44_vb_49 : t44 ≠ vb_49 := zz_vb_49.elim (fun q => by rw [q]; exact ne_t44_va_26) (fun q => Nat.ne_of_lt (Nat.lt_of_lt_of_le V43.lt q))
    have ne_vb_49_t44 : vb_49 ≠ t44 := Ne.symm ne_t44_vb_49
    have ge_vb_49 : n0 ≤ vb_49 := zz_vb_49.elim (fun q => by rw [q]; exact ge_va_26) (fun q => Nat.le_trans (Nat.le_trans Z0 sz_h) q)
    have sz_vb_49 : h0.size ≤ vb_49 := zz_vb_49.elim (fun q => by rw [q]; exact sz_va_26) (fun q => Nat.le_trans sz_h q)
    have Sf_vb_49 : Safe Z own_EL vm h35 vb_49 := zz_vb_49.elim (fun q => by rw [q]; exact Sf_va_26) (fun q => Safe.new q)
    have sfB_ := Sf_va_26
    have ne_c36_b20 : c36 ≠ b20 := ne_exa A40 A22 (by decide)
    have ne_t44_b20 : t44 ≠ b20 := Ne.symm (Exa.neArv A22 V43 (u77 hw))
    have sfs := (sfS (Safe.exa (EL := own_EL) (vm := vm) hZ.alike A22 (by decide) (by decide)) (sfS sfB_ sf0))
    replace P0_Old := P0_Old.keep K52 (allS ge_b20 (allS ge_va_26 all0))
    replace P1_Exa := P1_Exa.keep K52
    replace P2_Fld := P2_Fld.keep K52 (ninS ne_q0_b20 (ninS ne_q0_va_26 nin0))
    replace P3_Fld := P3_Fld.keep K52 (ninS ne_q0_b20 (ninS ne_q0_va_26 nin0))
    replace P4_Fld := P4_Fld.keep K52 (ninS ne_q0_b20 (ninS ne_q0_va_26 nin0))
    replace P5_Exa := P5_Exa.keep K52
    replace P6_Fld := P6_Fld.keep K52 (ninS ne_x_b20 (ninS ne_x_va_26 nin0))
    replace P7_Fld := P7_Fld.keep K52 (ninS ne_x_b20 (ninS ne_x_va_26 nin0))
    replace P8_Arv := P8_Arv.keep K52 (ninS ne_t_b20 (ninS ne_t_va_26 nin0))
    replace A6 := A6.keep K52
    replace F7 := F7.keep K52 (ninS ne_c2_b20 (ninS ne_c2_va_26 nin0))
    replace F8 := F8.keep K52 (ninS ne_c2_b20 (ninS ne_c2_va_26 nin0))
    replace V9 := V9.keep K52 (ninS ne_t10_b20 (ninS ne_t10_va_26 nin0))
    replace A22 := A22.keep K52
    replace A40 := A40.keep K52
    replace F41 := F41.keep K52 (ninS ne_c36_b20 (ninS ne_c36_va_26 nin0))
    replace F42 := F42.keep K52 (ninS ne_c36_b20 (ninS ne_c36_va_26 nin0))
    replace V43 := V43.keep K52 (ninS ne_t44_b20 (ninS ne_t44_va_26 nin0))
    replace Sf_vb_49 := Safe.keep K52 sfs C.1 Sf_vb_49
    replace K0 := K0.trans K52 (allS (Or.inr sz_b20) (allS (Or.inr sz_va_26) all0))
    replace C := C.trans (CHr.keep K52 sfs C.1)
    replace hk := Nat.le_trans hk K52.1
    replace sz_h : h0.size ≤ h47.size := Nat.le_trans sz_h K52.1
    show Go p e below _ T (mkF m 24 _ [(.ref b20)])
    have hk_60 : ze_51 = (16 : Int32) → Z.vm.findClass "[B" = some kw_50 := fun q => by rw [(pp59 q).2.2]; exact (fun _ => pp34) (pp59 q).2.1
    refine galoadN (v := (.ref q0)) X hx 25 (hb hby D5_24) rfl rfl rfl ?_
    refine ggetF X hx hZ (host := "") hown (Or.inl (u28 hw)) Via.refl eT P2_Fld 28 (hb hby D5_25) rfl ?_
    clear X eT; clear T; intro T X eT
    refine gvirtual (y := Y38) (z := Y38) (a := b20) (argsL := [(.ref x)]) (st := []) X hx hZ hown (u95 hw) (u96 hw) (notFace_of_selects (args := #[]) (mvT hZ (u98 hw))) (u98 hw) (u97 hw) (by decide) A22 (payP (W := 0) (rmApS l Z a0 hw (b20) (x) (t) (vb_49) (kt) (kw_50) ((([] : List Int32) ++ ([91] : List Int32))) (cs) (G1) (ze_51) h47 n0 (Nat.le_trans Z0 sz_h) ge_b20 ge_vb_49 P0_Old A22 G54 G55 G56 G57 P5_Exa P6_Fld P7_Fld P8_Arv (O2) (P5) (pp58) ((fun q => (pp59 q).1)) (by simp only [List.length_append, List.length_cons, List.length_nil]; omega) (ne_t_vb_49)) hZ (u99 hw) (u78 hw) (by decide) (by decide)) eT (by rw [hml]; rfl) (lenOf own_pd25 rfl) rfl (Nat.le_of_eq rfl) 8 104 rfl rfl (by decide) (by decide) 31 (hb hby D5_28) rfl ?_
    clear X eT; clear T; intro v T h61 L2 Lc X eT hL hQ62
    obtain ⟨vb_63, kw_64, ze_65, rfl, Nq, K66, zz_vb_63, G68, G69, G70, G71, pp72, pp73⟩ := hQ62
    replace N : Fr n0 L2 := by rw [hL]; exact Fr.app N Nq
    clear Nq hL
    have ne_q0_vb_63 : q0 ≠ vb_63 := zz_vb_63.elim (fun q => by rw [q]; exact ne_q0_vb_49) (fun q => Nat.ne_of_lt (Nat.lt_of_lt_of_le P1_Exa.lt q))
    have ne_vb_63_q0 : vb_63 ≠ q0 := Ne.symm ne_q0_vb_63
    have ne_x_vb_63 : x ≠ vb_63 := zz_vb_63.elim (fun q => by rw [q]; exact ne_x_vb_49) (fun q => Nat.ne_of_lt (Nat.lt_of_lt_of_le P5_Exa.lt q))
    have ne_vb_63_x : vb_63 ≠ x := Ne.symm ne_x_vb_63
    have ne_t_vb_63 : t ≠ vb_63 := zz_vb_63.elim (fun q => by rw [q]; exact ne_t_vb_49) (fun q => Nat.ne_of_lt (Nat.lt_of_lt_of_le P8_Arv.lt q))
    have ne_vb_63_t : vb_63 ≠ t := Ne.symm ne_t_vb_63
    have ne_c2_vb_63 : c2 ≠ vb_63 := zz_vb_63.elim (fun q => by rw [q]; exact ne_c2_vb_49) (fun q => Nat.ne_of_lt (Nat.lt_of_lt_of_le A6.lt q))
    have ne_vb_63_c2 : vb_63 ≠ c2 := Ne.symm ne_c2_vb_63
    have ne_t10_vb_63 : t10 ≠ vb_63 := zz_vb_63.elim (fun q => by rw [q]; exact ne_t10_vb_49) (fun q => Nat.ne_of_lt (Nat.lt_of_lt_of_le V9.lt q))
    have ne_vb_63_t10 : vb_63 ≠ t10 := Ne.symm ne_t10_vb_63
    have ne_b20_vb_63 : b20 ≠ vb_63 := zz_vb_63.elim (fun q => by rw [q]; exact ne_b20_vb_49) (fun q => Nat.ne_of_lt (Nat.lt_of_lt_of_le A22.lt q))
    have ne_vb_63_b20 : vb_63 ≠ b20 := Ne.symm ne_b20_vb_63
    have ge_vb_63 : n0 ≤ vb_63 := zz_vb_63.elim (fun q => by rw [q]; exact ge_vb_49) (fun q => Nat.le_trans (Nat.le_trans Z0 sz_h) q)
    have sz_vb_63 : h0.size ≤ vb_63 := zz_vb_63.elim (fun q => by rw [q]; exact sz_vb_49) (fun q => Nat.le_trans sz_h q)
    have Sf_vb_63 : Safe Z own_EL vm h47 vb_63 := zz_vb_63.elim (fun q => by rw [q]; exact Sf_vb_49) (fun q => Safe.new q)
    have sfB_ := Sf_vb_49
    have sfs := (sfS (Safe.exa (EL := own_EL) (vm := vm) hZ.alike A22 (by decide) (by decide)) (sfS sfB_ sf0))
    replace P0_Old := P0_Old.keep K66 (allS ge_b20 (allS ge_vb_49 all0))
    replace P1_Exa := P1_Exa.keep K66
    replace P2_Fld := P2_Fld.keep K66 (ninS ne_q0_b20 (ninS ne_q0_vb_49 nin0))
    replace P3_Fld := P3_Fld.keep K66 (ninS ne_q0_b20 (ninS ne_q0_vb_49 nin0))
    replace P4_Fld := P4_Fld.keep K66 (ninS ne_q0_b20 (ninS ne_q0_vb_49 nin0))
    replace P5_Exa := P5_Exa.keep K66
    replace P6_Fld := P6_Fld.keep K66 (ninS ne_x_b20 (ninS ne_x_vb_49 nin0))
    replace P7_Fld := P7_Fld.keep K66 (ninS ne_x_b20 (ninS ne_x_vb_49 nin0))
    replace P8_Arv := P8_Arv.keep K66 (ninS ne_t_b20 (ninS ne_t_vb_49 nin0))
    replace A6 := A6.keep K66
    replace F7 := F7.keep K66 (ninS ne_c2_b20 (ninS ne_c2_vb_49 nin0))
    replace F8 := F8.keep K66 (ninS ne_c2_b20 (ninS ne_c2_vb_49 nin0))
    replace V9 := V9.keep K66 (ninS ne_t10_b20 (ninS ne_t10_vb_49 nin0))
    replace A22 := A22.keep K66
    replace Sf_vb_63 := Safe.keep K66 sfs C.1 Sf_vb_63
    replace K0 := K0.trans K66 (allS (Or.inr sz_b20) (allS (Or.inr sz_vb_49) all0))
    replace C := C.trans (CHr.keep K66 sfs C.1)
    replace hk := Nat.le_trans hk K66.1
    replace sz_h : h0.size ≤ h61.size := Nat.le_trans sz_h K66.1
    show Go p e below _ T (mkF m 31 _ [(.ref b20)])
    have hk_74 : ze_65 = (16 : Int32) → Z.vm.findClass "[B" = some kw_64 := fun q => by rw [(pp73 q).2.2]; exact hk_60 (pp73 q).2.1
    have lt_vb_63 := G71.lt
    refine gldcV X hx hZ hown (u271 hw) (own_wS hw) eT hS hk (own_EW hw) own_mem271 C.1 [(.int 93)] (1 : Int32) (by decide +kernel) (by decide) rfl 4 (by decide) (by decide) 10 112 rfl rfl (by decide) (by decide) 33 (hb hby D5_31) rfl ?_
    clear X eT hS hk hZ hown; clear T k0; intro c76 T h75 vm k0 t84 kb85 X eT E77 hS hk hZ hown CR78 Li79 A80 F81 F82 V83 ns86
    replace P0_Old := P0_Old.ext E77
    replace P1_Exa := P1_Exa.ext E77
    replace P2_Fld := P2_Fld.ext E77
    replace P3_Fld := P3_Fld.ext E77
    replace P4_Fld := P4_Fld.ext E77
    replace P5_Exa := P5_Exa.ext E77
    replace P6_Fld := P6_Fld.ext E77
    replace P7_Fld := P7_Fld.ext E77
    replace P8_Arv := P8_Arv.ext E77
    replace A6 := A6.ext E77
    replace F7 := F7.ext E77
    replace F8 := F8.ext E77
    replace V9 := V9.ext E77
    replace A22 := A22.ext E77
    replace Sf_vb_63 := CHr.safe CR78 lt_vb_63 Sf_vb_63
    replace G68 := G68.ext E77
    replace G69 := G69.ext E77
    replace G70 := G70.ext E77
    replace G71 := G71.ext E77
    replace K0 := K0.ext E77
    replace C := C.trans CR78
    replace sz_h : h0.size ≤ h75.size := Nat.le_trans sz_h E77.1
    have ne_vb_63_c76 := (ns86 _ Sf_vb_63).1
    have ne_c76_vb_63 := Ne.symm ne_vb_63_c76
    have ne_vb_63_t84 := (ns86 _ Sf_vb_63).2
    have ne_t84_vb_63 := Ne.symm ne_vb_63_t84
    show Go p e below _ T (mkF m 33 _ [(.ref c76), (.ref b20)])
    refine gvirtual (y := Y38) (z := Y38) (a := b20) (argsL := [(.ref c76)]) (st := []) X hx hZ hown (u95 hw) (u96 hw) (notFace_of_selects (args := #[]) (mvT hZ (u98 hw))) (u98 hw) (u97 hw) (by decide) A22 (payP (W := 0) (rmApS l Z a0 hw (b20) (c76) (t84) (vb_63) (kb85) (kw_64) (((([] : List Int32) ++ ([91] : List Int32)) ++ cs)) (([93] : List Int32)) (G1) (ze_65) h75 n0 (Nat.le_trans Z0 sz_h) ge_b20 ge_vb_63 P0_Old A22 G68 G69 G70 G71 A80 F81 F82 V83 (O2) (P5) (pp72) ((fun q => (pp73 q).1)) (by simp only [List.length_append, List.length_cons, List.length_nil]; omega) (ne_t84_vb_63)) hZ (u99 hw) (u78 hw) (by decide) (by decide)) eT (by rw [hml]; rfl) (lenOf own_pd25 rfl) rfl (Nat.le_of_eq rfl) 11 146 rfl rfl (by decide) (by decide) 36 (hb hby D5_33) rfl ?_
    clear X eT; clear T; intro v T h87 L2 Lc X eT hL hQ88
    obtain ⟨vb_89, kw_90, ze_91, rfl, Nq, K92, zz_vb_89, G94, G95, G96, G97, pp98, pp99⟩ := hQ88
    replace N : Fr n0 L2 := by rw [hL]; exact Fr.app N Nq
    clear Nq hL
    have ne_q0_vb_89 : q0 ≠ vb_89 := zz_vb_89.elim (fun q => by rw [q]; exact ne_q0_vb_63) (fun q => Nat.ne_of_lt (Nat.lt_of_lt_of_le P1_Exa.lt q))
    have ne_vb_89_q0 : vb_89 ≠ q0 := Ne.symm ne_q0_vb_89
    have ne_x_vb_89 : x ≠ vb_89 := zz_vb_89.elim (fun q => by rw [q]; exact ne_x_vb_63) (fun q => Nat.ne_of_lt (Nat.lt_of_lt_of_le P5_Exa.lt q))
    have ne_vb_89_x : vb_89 ≠ x := Ne.symm ne_x_vb_89
    have ne_t_vb_89 : t ≠ vb_89 := zz_vb_89.elim (fun q => by rw [q]; exact ne_t_vb_63) (fun q => Nat.ne_of_lt (Nat.lt_of_lt_of_le P8_Arv.lt q))
    have ne_vb_89_t : vb_89 ≠ t := Ne.symm ne_t_vb_89
    have ne_c2_vb_89 : c2 ≠ vb_89 := zz_vb_89.elim (fun q => by rw [q]; exact ne_c2_vb_63) (fun q => Nat.ne_of_lt (Nat.lt_of_lt_of_le A6.lt q))
    have ne_vb_89_c2 : vb_89 ≠ c2 := Ne.symm ne_c2_vb_89
    have ne_t10_vb_89 : t10 ≠ vb_89 := zz_vb_89.elim (fun q => by rw [q]; exact ne_t10_vb_63) (fun q => Nat.ne_of_lt (Nat.lt_of_lt_of_le V9.lt q))
    have ne_vb_89_t10 : vb_89 ≠ t10 := Ne.symm ne_t10_vb_89
    have ne_b20_vb_89 : b20 ≠ vb_89 := zz_vb_89.elim (fun q => by rw [q]; exact ne_b20_vb_63) (fun q => Nat.ne_of_lt (Nat.lt_of_lt_of_le A22.lt q))
    have ne_vb_89_b20 : vb_89 ≠ b20 := Ne.symm ne_b20_vb_89
    have ne_c76_vb_89 : c76 ≠ vb_89 := zz_vb_89.elim (fun q => by rw [q]; exact ne_c76_vb_63) (fun q => Nat.ne_of_lt (Nat.lt_of_lt_of_le A80.lt q))
    have ne_vb_89_c76 : vb_89 ≠ c76 := Ne.symm ne_c76_vb_89
    have ne_t84_vb_89 : t84 ≠ vb_89 := zz_vb_89.elim (fun q => by rw [q]; exact ne_t84_vb_63) (fun q => Nat.ne_of_lt (Nat.lt_of_lt_of_le V83.lt q))
    have ne_vb_89_t84 : vb_89 ≠ t84 := Ne.symm ne_t84_vb_89
    have ge_vb_89 : n0 ≤ vb_89 := zz_vb_89.elim (fun q => by rw [q]; exact ge_vb_63) (fun q => Nat.le_trans (Nat.le_trans Z0 sz_h) q)
    have sz_vb_89 : h0.size ≤ vb_89 := zz_vb_89.elim (fun q => by rw [q]; exact sz_vb_63) (fun q => Nat.le_trans sz_h q)
    have Sf_vb_89 : Safe Z own_EL vm h75 vb_89 := zz_vb_89.elim (fun q => by rw [q]; exact Sf_vb_63) (fun q => Safe.new q)
    have sfB_ := Sf_vb_63
    have ne_c76_b20 : c76 ≠ b20 := ne_exa A80 A22 (by decide)
    have ne_t84_b20 : t84 ≠ b20 := Ne.symm (Exa.neArv A22 V83 (u77 hw))
    have sfs := (sfS (Safe.exa (EL := own_EL) (vm := vm) hZ.alike A22 (by decide) (by decide)) (sfS sfB_ sf0))
    replace P0_Old := P0_Old.keep K92 (allS ge_b20 (allS ge_vb_63 all0))
    replace P1_Exa := P1_Exa.keep K92
    replace P2_Fld := P2_Fld.keep K92 (ninS ne_q0_b20 (ninS ne_q0_vb_63 nin0))
    replace P3_Fld := P3_Fld.keep K92 (ninS ne_q0_b20 (ninS ne_q0_vb_63 nin0))
    replace P4_Fld := P4_Fld.keep K92 (ninS ne_q0_b20 (ninS ne_q0_vb_63 nin0))
    replace P5_Exa := P5_Exa.keep K92
    replace P6_Fld := P6_Fld.keep K92 (ninS ne_x_b20 (ninS ne_x_vb_63 nin0))
    replace P7_Fld := P7_Fld.keep K92 (ninS ne_x_b20 (ninS ne_x_vb_63 nin0))
    replace P8_Arv := P8_Arv.keep K92 (ninS ne_t_b20 (ninS ne_t_vb_63 nin0))
    replace A6 := A6.keep K92
    replace F7 := F7.keep K92 (ninS ne_c2_b20 (ninS ne_c2_vb_63 nin0))
    replace F8 := F8.keep K92 (ninS ne_c2_b20 (ninS ne_c2_vb_63 nin0))
    replace V9 := V9.keep K92 (ninS ne_t10_b20 (ninS ne_t10_vb_63 nin0))
    replace A22 := A22.keep K92
    replace A80 := A80.keep K92
    replace F81 := F81.keep K92 (ninS ne_c76_b20 (ninS ne_c76_vb_63 nin0))
    replace F82 := F82.keep K92 (ninS ne_c76_b20 (ninS ne_c76_vb_63 nin0))
    replace V83 := V83.keep K92 (ninS ne_t84_b20 (ninS ne_t84_vb_63 nin0))
    replace Sf_vb_89 := Safe.keep K92 sfs C.1 Sf_vb_89
    replace K0 := K0.trans K92 (allS (Or.inr sz_b20) (allS (Or.inr sz_vb_63) all0))
    replace C := C.trans (CHr.keep K92 sfs C.1)
    replace hk := Nat.le_trans hk K92.1
    replace sz_h : h0.size ≤ h87.size := Nat.le_trans sz_h K92.1
    show Go p e below _ T (mkF m 36 _ [(.ref b20)])
    have hk_100 : ze_91 = (16 : Int32) → Z.vm.findClass "[B" = some kw_90 := fun q => by rw [(pp99 q).2.2]; exact hk_74 (pp99 q).2.1
    refine gvirtual (y := Y40) (z := Y40) (a := b20) (argsL := []) (st := []) X hx hZ hown (u160 hw) (u161 hw) (notFace_of_selects (args := #[]) (mvT hZ (u163 hw))) (u163 hw) (u162 hw) (by decide) A22 (payP (W := 0) (rmTsA l Z a0 hw (b20) (vb_89) (kw_90) (G1) ((((([] : List Int32) ++ ([91] : List Int32)) ++ cs) ++ ([93] : List Int32))) (ze_91) h87 n0 (Nat.le_trans Z0 sz_h) P0_Old A22 G94 G95 G96 G97 (O2) (P5) (pp98) (fun q => ⟨(fun q => (pp99 q).1) q, hk_100 q⟩) (by simp only [List.length_append, List.length_cons, List.length_nil]; omega)) hZ (u164 hw) (u78 hw) (by decide) (by decide)) eT (by rw [hml]; rfl) (lenOf own_pd21 rfl) rfl (Nat.le_of_eq rfl) 13 184 rfl rfl (by decide) (by decide) 39 (hb hby D5_36) rfl ?_
    clear X eT; clear T; intro v T h101 L2 Lc X eT hL hQ102
    obtain ⟨x_103, tr_104, kr_105, rfl, Nq, K106, zz_x_103, zz_tr_104, G108, G109, G110, G111⟩ := hQ102
    replace N : Fr n0 L2 := by rw [hL]; exact Fr.app N Nq
    clear Nq hL
    have ne_q0_x_103 : q0 ≠ x_103 := Nat.ne_of_lt (Nat.lt_of_lt_of_le P1_Exa.lt zz_x_103)
    have ne_x_103_q0 : x_103 ≠ q0 := Ne.symm ne_q0_x_103
    have ne_x_x_103 : x ≠ x_103 := Nat.ne_of_lt (Nat.lt_of_lt_of_le P5_Exa.lt zz_x_103)
    have ne_x_103_x : x_103 ≠ x := Ne.symm ne_x_x_103
    have ne_t_x_103 : t ≠ x_103 := Nat.ne_of_lt (Nat.lt_of_lt_of_le P8_Arv.lt zz_x_103)
    have ne_x_103_t : x_103 ≠ t := Ne.symm ne_t_x_103
    have ne_c2_x_103 : c2 ≠ x_103 := Nat.ne_of_lt (Nat.lt_of_lt_of_le A6.lt zz_x_103)
    have ne_x_103_c2 : x_103 ≠ c2 := Ne.symm ne_c2_x_103
    have ne_t10_x_103 : t10 ≠ x_103 := Nat.ne_of_lt (Nat.lt_of_lt_of_le V9.lt zz_x_103)
    have ne_x_103_t10 : x_103 ≠ t10 := Ne.symm ne_t10_x_103
    have ne_b20_x_103 : b20 ≠ x_103 := Nat.ne_of_lt (Nat.lt_of_lt_of_le A22.lt zz_x_103)
    have ne_x_103_b20 : x_103 ≠ b20 := Ne.symm ne_b20_x_103
    have ne_vb_89_x_103 : vb_89 ≠ x_103 := Nat.ne_of_lt (Nat.lt_of_lt_of_le G97.lt zz_x_103)
    have ne_x_103_vb_89 : x_103 ≠ vb_89 := Ne.symm ne_vb_89_x_103
    have sz_x_103 : h0.size ≤ x_103 := Nat.le_trans sz_h zz_x_103
    have ge_x_103 : n0 ≤ x_103 := Nat.le_trans Z0 sz_x_103
    have Sf_tr_104 : Safe Z own_EL vm h87 tr_104 := Safe.new zz_tr_104
    have ne_q0_tr_104 : q0 ≠ tr_104 := Nat.ne_of_lt (Nat.lt_of_lt_of_le P1_Exa.lt zz_tr_104)
    have ne_tr_104_q0 : tr_104 ≠ q0 := Ne.symm ne_q0_tr_104
    have ne_x_tr_104 : x ≠ tr_104 := Nat.ne_of_lt (Nat.lt_of_lt_of_le P5_Exa.lt zz_tr_104)
    have ne_tr_104_x : tr_104 ≠ x := Ne.symm ne_x_tr_104
    have ne_t_tr_104 : t ≠ tr_104 := Nat.ne_of_lt (Nat.lt_of_lt_of_le P8_Arv.lt zz_tr_104)
    have ne_tr_104_t : tr_104 ≠ t := Ne.symm ne_t_tr_104
    have ne_c2_tr_104 : c2 ≠ tr_104 := Nat.ne_of_lt (Nat.lt_of_lt_of_le A6.lt zz_tr_104)
    have ne_tr_104_c2 : tr_104 ≠ c2 := Ne.symm ne_c2_tr_104
    have ne_t10_tr_104 : t10 ≠ tr_104 := Nat.ne_of_lt (Nat.lt_of_lt_of_le V9.lt zz_tr_104)
    have ne_tr_104_t10 : tr_104 ≠ t10 := Ne.symm ne_t10_tr_104
    have ne_b20_tr_104 : b20 ≠ tr_104 := Nat.ne_of_lt (Nat.lt_of_lt_of_le A22.lt zz_tr_104)
    have ne_tr_104_b20 : tr_104 ≠ b20 := Ne.symm ne_b20_tr_104
    have ne_vb_89_tr_104 : vb_89 ≠ tr_104 := Nat.ne_of_lt (Nat.lt_of_lt_of_le G97.lt zz_tr_104)
    have ne_tr_104_vb_89 : tr_104 ≠ vb_89 := Ne.symm ne_vb_89_tr_104
    have sz_tr_104 : h0.size ≤ tr_104 := Nat.le_trans sz_h zz_tr_104
    have ge_tr_104 : n0 ≤ tr_104 := Nat.le_trans Z0 sz_tr_104
    replace P0_Old := P0_Old.keep K106 all0
    replace P1_Exa := P1_Exa.keep K106
    replace P2_Fld := P2_Fld.keep K106 nin0
    replace P3_Fld := P3_Fld.keep K106 nin0
    replace P4_Fld := P4_Fld.keep K106 nin0
    replace P5_Exa := P5_Exa.keep K106
    replace P6_Fld := P6_Fld.keep K106 nin0
    replace P7_Fld := P7_Fld.keep K106 nin0
    replace P8_Arv := P8_Arv.keep K106 nin0
    replace A6 := A6.keep K106
    replace F7 := F7.keep K106 nin0
    replace F8 := F8.keep K106 nin0
    replace V9 := V9.keep K106 nin0
    replace A22 := A22.keep K106
    replace Sf_vb_89 := Safe.keep K106 sf0 C.1 Sf_vb_89
    replace G94 := G94.keep K106 nin0
    replace G95 := G95.keep K106 nin0
    replace G96 := G96.keep K106 nin0
    replace G97 := G97.keep K106 nin0
    replace Sf_tr_104 := Safe.keep K106 sf0 C.1 Sf_tr_104
    replace K0 := K0.trans K106 all0
    replace C := C.trans (CHr.keep K106 sf0 C.1)
    replace hk := Nat.le_trans hk K106.1
    replace sz_h : h0.size ≤ h101.size := Nat.le_trans sz_h K106.1
    show Go p e below _ T (mkF m 39 _ [(.ref x_103)])
    refine ggoto X hx 46 (hb hby D5_39) (by decide) (by decide) ?_
    refine gastoreN X hx #[.val (.ref q0), .val (.ref x_103)] 47 (hb hby D5_46) rfl rfl rfl ?_
    exact rmSAm l Z a0 hw (q0) (x_103) (tr_104) (kr_105) (cs) ((((([] : List Int32) ++ ([91] : List Int32)) ++ cs) ++ ([93] : List Int32))) (np) (nd) (d1) (d2) (k1) (k2) (G1) h0 h101 n0 Z0 sz_h K0 P0_Old P1_Exa P3_Fld P4_Fld G108 G109 G110 G111 (O2) (P5) (D1) (D2) (T1) (T2) (by simp only [List.length_append, List.length_cons, List.length_nil]; omega) ((own_hostT hm)) (hnp) (hp5) (hnd) (hd10) hx hby hml hown hnm hret hlk hZ (standUp X (by decide) (by decide)) eT hS hk C N
  · subst e1_
    show Go p e below _ T (mkF m 9 _ [(.int 0)])
    refine gifYes X hx 42 (hb hby D5_9) (by decide) (by decide) (by decide) ?_
    refine galoadN (v := (.ref q0)) X hx 43 (hb hby D5_42) rfl rfl rfl ?_
    refine ggetF X hx hZ (host := "") hown (Or.inl (u28 hw)) Via.refl eT P2_Fld 46 (hb hby D5_43) rfl ?_
    clear X eT; clear T; intro T X eT
    refine gastoreN X hx #[.val (.ref q0), .val (.ref x)] 47 (hb hby D5_46) rfl rfl rfl ?_
    exact rmSAm l Z a0 hw (q0) (x) (t) (kt) (cs) (cs) (np) (nd) (d1) (d2) (k1) (k2) (G1) h0 h1 n0 Z0 sz_h K0 P0_Old P1_Exa P3_Fld P4_Fld P5_Exa P6_Fld P7_Fld P8_Arv (O2) (P5) (D1) (D2) (T1) (T2) (Nat.le_trans hl3 (by decide)) ((own_hostF hm)) (hnp) (hp5) (hnd) (hd10) hx hby hml hown hnm hret hlk hZ (standUp X (by decide) (by decide)) eT hS hk C N
theorem rm46 (l : Launch) (Z : State) (a0 : Array Value) (hw : HW_ a0 Z) (c : Int32) (h0 : Heap) (n0 : Nat) (Z0 : n0 ≤ h0.size) (hc : ¬ (255 : Int32) < c) :
    CtP l Y41 jdk_43_method_3_code 1 (some .boolean) [] ({ frames := 0, cells := 0, slots := 0, locals := 0 } : Room) Z #[(.int c)] h0 (fun v h L => v = some (.int 1) ∧ Fr n0 L ∧ h = h0) := by
  refine CtP.walk (Ls := #[.val (.int c)]) (plainFor_of_name own_pn16) (fun m => by first | (simp [entryFrame, mkF, argsToLocals, Value.category]; done) | rfl) ?_
  intro p e s m below meth cc_ T hx hby hml hown hnm hret hlk hZ X eT
  have N := Fr.nil n0
  have sz_h : h0.size ≤ h0.size := Nat.le_refl _
  refine giloadN (v := c) X hx 1 (hb hby D46_0) rfl rfl ?_
  refine gsipush X hx (255 : Int32) 4 (hb hby D46_1) rfl rfl ?_
  refine gicmpNo X hx 7 (hb hby D46_4) rfl (flt hc).2.2.1 ?_
  refine giconst X hx (1 : Int32) 8 (hb hby D46_7) rfl rfl ?_
  refine ggoto X hx 12 (hb hby D46_8) (by decide) (by decide) ?_
  exact gRetP X hx hlk hret rfl (Or.inl ⟨rfl, by simp, _, rfl⟩) (hb hby D46_12) eT (by decide) (by decide) ⟨rfl, N, rfl⟩
theorem rm47 (l : Launch) (Z : State) (a0 : Array Value) (hw : HW_ a0 Z) (c : Int32) (h0 : Heap) (n0 : Nat) (Z0 : n0 ≤ h0.size) :
    CtP l Y44 jdk_43_method_46_code 1 (some (.array .byte)) [] ({ frames := 0, cells := 1, slots := 1, locals := 0 } : Room) Z #[(.int c)] h0 (fun v h L => ∃ (t : Addr), ∃ (kb : ClassId), v = some (.ref t) ∧ Fr n0 L ∧ Keep h0 h [] ∧ h0.size ≤ t ∧ Arv Z h t kb .byte (1 : Int32) [(.int (c.toInt8.toInt32))] (.int 0)) := by
  refine CtP.walk (Ls := #[.val (.int c)]) (plainFor_of_name own_pn16) (fun m => by first | (simp [entryFrame, mkF, argsToLocals, Value.category]; done) | rfl) ?_
  intro p e s m below meth cc_ T hx hby hml hown hnm hret hlk hZ X eT
  have N := Fr.nil n0
  have K0 := Keep.refl h0 []
  have sz_h : h0.size ≤ h0.size := Nat.le_refl _
  refine giconst X hx (1 : Int32) 1 (hb hby D47_0) rfl rfl ?_
  refine gnewP (aty := .byte) X hx hZ (u7 hw) eT (n := (1 : Int32)) (by decide) 1 (by decide) (by decide) 1 1 rfl rfl (by decide) (by decide) 3 (hb hby D47_1) rfl ?_
  clear X eT; clear T; intro T h1 b2 kc5 X eT ga E3 V4
  have le_a := Nat.le_of_eq ga.symm
  have sz_b2 : h0.size ≤ b2 := Nat.le_trans sz_h le_a
  have ge_b2 : n0 ≤ b2 := Nat.le_trans Z0 sz_b2
  clear le_a ga
  replace K0 := K0.ext E3
  replace sz_h : h0.size ≤ h1.size := Nat.le_trans sz_h E3.1
  replace V4 : Arv Z h1 b2 kc5 .byte (1 : Int32) [(.int 0)] (.int 0) := V4.pad (pad_rep [] _ 1)
  refine gdup X hx 4 (hb hby D47_3) rfl rfl ?_
  refine giconst X hx (0 : Int32) 5 (hb hby D47_4) rfl rfl ?_
  refine giloadN (v := c) X hx 6 (hb hby D47_5) rfl rfl ?_
  refine gi2b X hx 7 (hb hby D47_6) rfl ?_
  refine gbastore X hx hZ eT V4 (by decide) (by decide) 0 rfl (Nat.le_of_ble_eq_true rfl) N ge_b2 8 (hb hby D47_7) rfl ?_
  clear X eT N; clear T; intro T h7 L X eT N W6 V8
  replace K0 := K0.wr W6 (Or.inr sz_b2)
  replace sz_h : h0.size ≤ h7.size := by rw [Wr.size W6]; exact sz_h
  replace V8 : Arv Z h7 b2 kc5 .byte (1 : Int32) [(.int (c.toInt8.toInt32))] (.int 0) := by have z := V8; rw [own_narb] at z; exact z
  exact gRetP X hx hlk hret rfl (Or.inr (Or.inr (Or.inr (Or.inr ⟨rfl, rfl, rfl⟩)))) (hb hby D47_8) eT (by decide) (by decide) ⟨b2, kc5, rfl, N, K0, sz_b2, V8⟩
theorem rm48 (l : Launch) (Z : State) (a0 : Array Value) (hw : HW_ a0 Z) (x : Addr) (t : Addr) (v0 : Value) (c0 : Value) (h0 : Heap) (n0 : Nat) (Z0 : n0 ≤ h0.size) (ge_x : n0 ≤ x) (P0_Exa : Exa Z h0 x "java/lang/String") (P1_Fld : Fld Z h0 x "java/lang/String" "value" "[B" v0) (P2_Fld : Fld Z h0 x "java/lang/String" "coder" "B" c0) :
    CtP l Y25 jdk_42_method_151_code 3 none [] ({ frames := 1, cells := 0, slots := 0, locals := 12 } : Room) Z #[(.ref x), (.ref t), (.int 0)] h0 (fun v h L => v = none ∧ Fr n0 L ∧ Keep h0 h [x] ∧ Fld Z h x "java/lang/String" "value" "[B" (.ref t) ∧ Fld Z h x "java/lang/String" "coder" "B" (.int 0)) := by
  refine CtP.walk (Ls := #[.val (.ref x), .val (.ref t), .val (.int 0)]) own_pn21 (fun m => by first | (simp [entryFrame, mkF, argsToLocals, Value.category]; done) | rfl) ?_
  intro p e s m below meth cc_ T hx hby hml hown hnm hret hlk hZ X eT
  have N := Fr.nil n0
  have K0 := Keep.refl h0 [x]
  have sz_h : h0.size ≤ h0.size := Nat.le_refl _
  refine galoadN (v := (.ref x)) X hx 1 (hb hby D48_0) rfl rfl rfl ?_
  refine ginitO X hx hZ hown (u173 hw) (u26 hw) (u27 hw) eT (by rw [hml]; rfl) (by decide) 0 (Nat.le_of_eq rfl) (by decide) 4 (hb hby D48_1) rfl ?_
  clear X eT; clear T; intro T X eT
  refine galoadN (v := (.ref x)) X hx 5 (hb hby D48_4) rfl rfl rfl ?_
  refine galoadN (v := (.ref t)) X hx 6 (hb hby D48_5) rfl rfl rfl ?_
  refine gputF X hx hZ (host := "") hown (Or.inl (u71 hw)) Via.refl eT P1_Fld P0_Exa (Or.inr ⟨(u8 hw), rfl, hnm⟩) (u6 hw) (ty := (.array .byte)) own_pf0 rfl rfl N ge_x 9 (hb hby D48_6) rfl ?_
  clear X eT N; clear T; intro T h1 L X eT N W2
  replace P0_Exa := P0_Exa.wr W2
  replace P1_Fld := P1_Fld.same W2
  replace P2_Fld := P2_Fld.other W2 (Or.inr (slot_ne (Or.inr (u9 hw)) (Or.inr (u8 hw)) (by decide) own_pf1 own_pf0))
  replace K0 := K0.wr W2 (Or.inl (List.mem_of_getElem? (i := 0) rfl))
  replace sz_h : h0.size ≤ h1.size := by rw [Wr.size W2]; exact sz_h
  refine galoadN (v := (.ref x)) X hx 10 (hb hby D48_9) rfl rfl rfl ?_
  refine giloadN (v := (0 : Int32)) X hx 11 (hb hby D48_10) rfl rfl ?_
  refine gputF X hx hZ (host := "") hown (Or.inl (u65 hw)) Via.refl eT P2_Fld P0_Exa (Or.inr ⟨(u9 hw), rfl, hnm⟩) (u6 hw) (ty := .byte) own_pf1 rfl rfl N ge_x 14 (hb hby D48_11) rfl ?_
  clear X eT N; clear T; intro T h3 L X eT N W4
  replace P0_Exa := P0_Exa.wr W4
  replace P1_Fld := P1_Fld.other W4 (Or.inr (slot_ne (Or.inr (u8 hw)) (Or.inr (u9 hw)) (by decide) own_pf0 own_pf1))
  replace P2_Fld := P2_Fld.same W4
  replace K0 := K0.wr W4 (Or.inl (List.mem_of_getElem? (i := 0) rfl))
  replace sz_h : h0.size ≤ h3.size := by rw [Wr.size W4]; exact sz_h
  exact gRetP0 X hx hlk hret (hb hby D48_14) eT (by decide) (by decide) ⟨rfl, N, K0, P1_Fld, P2_Fld⟩
theorem rm45 (l : Launch) (Z : State) (a0 : Array Value) (hw : HW_ a0 Z) (c : Int32) (G1 : Int32) (h0 : Heap) (n0 : Nat) (Z0 : n0 ≤ h0.size) (P0_Old : Old Z n0 h0) (hc : ¬ (255 : Int32) < c) (O2 : Sta Z Z.heap "java/lang/String" "COMPACT_STRINGS" "Z" (.int G1)) (P5 : ¬ G1 = (0 : Int32)) :
    CtP l Y35 jdk_42_method_139_code 1 (some (.object "java/lang/String")) [] ({ frames := 2, cells := 2, slots := 5, locals := 27 } : Room) Z #[(.int c)] h0 (fun v h L => ∃ (x : Addr), ∃ (t : Addr), ∃ (kb : ClassId), v = some (.ref x) ∧ Fr n0 L ∧ Keep h0 h [] ∧ h0.size ≤ x ∧ h0.size ≤ t ∧ Exa Z h x "java/lang/String" ∧ Fld Z h x "java/lang/String" "coder" "B" (.int 0) ∧ Fld Z h x "java/lang/String" "value" "[B" (.ref t) ∧ Arv Z h t kb .byte (1 : Int32) [(.int (c.toInt8.toInt32))] (.int 0) ∧ x ≠ t) := by
  refine CtP.walk (Ls := #[.val (.int c)]) own_pn22 (fun m => by first | (simp [entryFrame, mkF, argsToLocals, Value.category]; done) | rfl) ?_
  intro p e s m below meth cc_ T hx hby hml hown hnm hret hlk hZ X eT
  have N := Fr.nil n0
  have K0 := Keep.refl h0 []
  have sz_h : h0.size ≤ h0.size := Nat.le_refl _
  refine ggetS X hx hZ (host := "") hown (Or.inl (u64 hw)) Via.refl eT (O2.ext P0_Old.2) 3 (hb hby D45_0) rfl ?_
  clear X eT; clear T; intro T X eT
  refine gifNo X hx 6 (hb hby D45_3) rfl ((if0 _ _).trans (feq P5).1) ?_
  refine giloadN (v := c) X hx 7 (hb hby D45_6) rfl rfl ?_
  refine gstatic (y := Y41) (argsL := [(.int c)]) (st := []) X hx hZ hown (u238 hw) (u239 hw) (u74 hw) (u240 hw) (by decide) (payP (W := 0) (rm46 l Z a0 hw (c) h0 n0 (Nat.le_trans Z0 sz_h) (hc)) hZ (u240 hw) (u74 hw) (by decide) (by decide)) eT (by rw [hml]; rfl) (lenOf own_pd27 rfl) rfl (Nat.le_of_eq rfl) 0 0 rfl rfl (by decide) (by decide) 10 (hb hby D45_7) rfl (gcut N ?_)
  clear X eT N; clear T; intro T L X eT N
  refine gifNo X hx 13 (hb hby D45_10) rfl (by decide) ?_
  refine gnewO X hx hZ hown (u241 hw) (u6 hw) (u5 hw) eT 1 4 rfl rfl (by decide) (by decide) 16 (hb hby D45_13) rfl ?_
  clear X eT; clear T; intro T h1 b2 X eT ga E3 A4 D5
  have le_a := Nat.le_of_eq ga.symm
  have sz_b2 : h0.size ≤ b2 := Nat.le_trans sz_h le_a
  have ge_b2 : n0 ≤ b2 := Nat.le_trans Z0 sz_b2
  clear le_a ga
  replace P0_Old := P0_Old.ext E3
  replace K0 := K0.ext E3
  replace sz_h : h0.size ≤ h1.size := Nat.le_trans sz_h E3.1
  have F_value_b2 : Fld Z h1 b2 "java/lang/String" "value" "[B" .null := D5 (Or.inr (u8 hw)) (ty := (.array .byte)) own_pf0
  have F_coder_b2 : Fld Z h1 b2 "java/lang/String" "coder" "B" (.int 0) := D5 (Or.inr (u9 hw)) (ty := .byte) own_pf1
  clear D5
  refine gdup X hx 17 (hb hby D45_16) rfl rfl ?_
  refine giloadN (v := c) X hx 18 (hb hby D45_17) rfl rfl ?_
  refine gstatic (y := Y44) (argsL := [(.int c)]) (st := [(.ref b2), (.ref b2)]) X hx hZ hown (u242 hw) (u243 hw) (u74 hw) (u244 hw) (by decide) (payP (W := 2) (rm47 l Z a0 hw (c) h1 n0 (Nat.le_trans Z0 sz_h)) hZ (u244 hw) (u74 hw) (by decide) (by decide)) eT (by rw [hml]; rfl) (lenOf own_pd28 rfl) rfl (Nat.le_of_eq rfl) 2 5 rfl rfl (by decide) (by decide) 21 (hb hby D45_18) rfl ?_
  clear X eT; clear T; intro v T h6 L2 Lc X eT hL hQ7
  obtain ⟨t_8, kb_9, rfl, Nq, K10, zz_t_8, G12⟩ := hQ7
  replace N : Fr n0 L2 := by rw [hL]; exact Fr.app N Nq
  clear Nq hL
  have ne_b2_t_8 : b2 ≠ t_8 := Nat.ne_of_lt (Nat.lt_of_lt_of_le A4.lt zz_t_8)
  have ne_t_8_b2 : t_8 ≠ b2 := Ne.symm ne_b2_t_8
  have sz_t_8 : h0.size ≤ t_8 := Nat.le_trans sz_h zz_t_8
  have ge_t_8 : n0 ≤ t_8 := Nat.le_trans Z0 sz_t_8
  replace P0_Old := P0_Old.keep K10 all0
  replace A4 := A4.keep K10
  replace F_value_b2 := F_value_b2.keep K10 nin0
  replace F_coder_b2 := F_coder_b2.keep K10 nin0
  replace K0 := K0.trans K10 all0
  replace sz_h : h0.size ≤ h6.size := Nat.le_trans sz_h K10.1
  show Go p e below _ T (mkF m 21 _ [(.ref t_8), (.ref b2), (.ref b2)])
  refine giconst X hx (0 : Int32) 22 (hb hby D45_21) rfl rfl ?_
  refine gspecial (y := Y25) (a := b2) (argsL := [(.ref t_8), (.int 0)]) (st := [(.ref b2)]) X hx hZ hown rfl (u245 hw) (u246 hw) (u247 hw) (by decide) (payP (W := 1) (rm48 l Z a0 hw (b2) (t_8) (.null) ((.int 0)) h6 n0 (Nat.le_trans Z0 sz_h) ge_b2 A4 F_value_b2 F_coder_b2) hZ (u247 hw) (u5 hw) (by decide) (by decide)) eT (by rw [hml]; rfl) (lenOf own_pd29 rfl) rfl (Nat.le_of_eq rfl) 2 5 rfl rfl (by decide) (by decide) 25 (hb hby D45_22) rfl ?_
  clear X eT; clear T; intro v T h13 L2 Lc X eT hL hQ14
  obtain ⟨rfl, Nq, K15, G17, G18⟩ := hQ14
  replace N : Fr n0 L2 := by rw [hL]; exact Fr.app N Nq
  clear Nq hL
  replace P0_Old := P0_Old.keep K15 (allS ge_b2 all0)
  replace A4 := A4.keep K15
  replace G12 := G12.keep K15 (ninS ne_t_8_b2 nin0)
  replace K0 := K0.trans K15 (allS (Or.inr sz_b2) all0)
  replace sz_h : h0.size ≤ h13.size := Nat.le_trans sz_h K15.1
  show Go p e below _ T (mkF m 25 _ [(.ref b2)])
  exact gRetP X hx hlk hret rfl (Or.inr (Or.inr (Or.inr (Or.inr ⟨rfl, rfl, rfl⟩)))) (hb hby D45_25) eT (by decide) (by decide) ⟨b2, t_8, kb_9, rfl, N, K0, sz_b2, sz_t_8, A4, G18, G17, G12, ne_b2_t_8⟩
theorem rmHc (l : Launch) (Z : State) (a0 : Array Value) (hw : HW_ a0 Z) (bits : Int32) (h0 : Heap) (n0 : Nat) (Z0 : n0 ≤ h0.size) :
    CtP l Y4 method_7_code 2 (some .char) [] ({ frames := 0, cells := 0, slots := 0, locals := 0 } : Room) Z #[(.int bits)] h0 (fun v h L => ∃ (cc : Int32), v = some (.int cc) ∧ Fr n0 L ∧ h = h0 ∧ (¬ cc < 0 ∧ ¬ (255 : Int32) < cc)) := by
  refine CtP.walk (Ls := #[.val (.int bits), .unset]) (plainFor_of_name own_pn12) (fun m => by first | (simp [entryFrame, mkF, argsToLocals, Value.category]; done) | rfl) ?_
  intro p e s m below meth cc_ T hx hby hml hown hnm hret hlk hZ X eT
  have N := Fr.nil n0
  have sz_h : h0.size ≤ h0.size := Nat.le_refl _
  refine giloadN (v := bits) X hx 1 (hb hby D1_0) rfl rfl ?_
  refine gsipush X hx (511 : Int32) 4 (hb hby D1_1) rfl rfl ?_
  refine giand X hx 5 (hb hby D1_4) rfl ?_
  refine gistoreN X hx #[.val (.int bits), .val (.int (bits &&& (511 : Int32)))] 6 (hb hby D1_5) rfl rfl ?_
  refine giloadN (v := (bits &&& (511 : Int32))) X hx 7 (hb hby D1_6) rfl rfl ?_
  refine gsipush X hx (256 : Int32) 10 (hb hby D1_7) rfl rfl ?_
  rcases Decidable.em ((bits &&& (511 : Int32)) < (256 : Int32)) with g_10 | g_10
  · refine gicmpYes X hx 18 (hb hby D1_10) (tlt g_10).1 (by decide) (by decide) ?_
    refine giloadN (v := (bits &&& (511 : Int32))) X hx 19 (hb hby D1_18) rfl rfl ?_
    refine gi2c X hx 20 (hb hby D1_19) rfl ?_
    rw [own_i2cR (own_hcR g_10)]
    show Go p e below _ T (mkF m 20 _ [(.int (bits &&& (511 : Int32)))])
    exact gRetP X hx hlk hret (own_narrowR (own_hcR g_10)) (Or.inl ⟨rfl, by simp, _, rfl⟩) (hb hby D1_20) eT (by decide) (by decide) ⟨(bits &&& (511 : Int32)), rfl, N, rfl, own_hcR g_10⟩
  · refine gicmpNo X hx 13 (hb hby D1_10) rfl (flt g_10).1 ?_
    refine gbipush X hx (58 : Int32) 15 (hb hby D1_13) rfl rfl ?_
    refine ggoto X hx 20 (hb hby D1_15) (by decide) (by decide) ?_
    exact gRetP X hx hlk hret rfl (Or.inl ⟨rfl, by simp, _, rfl⟩) (hb hby D1_20) eT (by decide) (by decide) ⟨(58 : Int32), rfl, N, rfl, by decide⟩
theorem rmP10 (l : Launch) (Z : State) (a0 : Array Value) (hw : HW_ a0 Z) (kk : Int32) (j : Nat) (h0 : Heap) (n0 : Nat) (Z0 : n0 ≤ h0.size) (hkk : kk = Int32.ofNat j) (hj9 : j ≤ 9) :
    CtP l Y7 method_2_code 1 (some .int) [] ({ frames := 0, cells := 0, slots := 0, locals := 0 } : Room) Z #[(.int kk)] h0 (fun v h L => v = some (.int (Int32.ofNat (10 ^ j))) ∧ Fr n0 L ∧ h = h0) := by
  refine CtP.walk (Ls := #[.val (.int kk)]) (plainFor_of_name own_pn12) (fun m => by first | (simp [entryFrame, mkF, argsToLocals, Value.category]; done) | rfl) ?_
  intro p e s m below meth cc_ T hx hby hml hown hnm hret hlk hZ X eT
  have N := Fr.nil n0
  have sz_h : h0.size ≤ h0.size := Nat.le_refl _
  refine giloadN (v := kk) X hx 1 (hb hby D44_0) rfl rfl ?_
  rcases Decidable.em (kk = (0 : Int32)) with g0_1 | g0_1
  · refine gifNo X hx 4 (hb hby D44_1) rfl ((if0 _ _).trans (teq g0_1).2) ?_
    refine giconst X hx (1 : Int32) 5 (hb hby D44_4) rfl rfl ?_
    exact gRetP X hx hlk hret rfl (Or.inl ⟨rfl, by simp, _, rfl⟩) (hb hby D44_5) eT (by decide) (by decide) ⟨(by obtain rfl : j = 0 := own_jeq hkk hj9 (by decide) g0_1; rfl), N, rfl⟩
  · refine gifYes X hx 6 (hb hby D44_1) ((if0 _ _).trans (feq g0_1).2) (by decide) (by decide) ?_
    refine giloadN (v := kk) X hx 7 (hb hby D44_6) rfl rfl ?_
    refine giconst X hx (1 : Int32) 8 (hb hby D44_7) rfl rfl ?_
    rcases Decidable.em (kk = (1 : Int32)) with g1_8 | g1_8
    · refine gicmpNo X hx 11 (hb hby D44_8) rfl (teq g1_8).2 ?_
      refine gbipush X hx (10 : Int32) 13 (hb hby D44_11) rfl rfl ?_
      exact gRetP X hx hlk hret rfl (Or.inl ⟨rfl, by simp, _, rfl⟩) (hb hby D44_13) eT (by decide) (by decide) ⟨(by obtain rfl : j = 1 := own_jeq hkk hj9 (by decide) g1_8; rfl), N, rfl⟩
    · refine gicmpYes X hx 14 (hb hby D44_8) (feq g1_8).2 (by decide) (by decide) ?_
      refine giloadN (v := kk) X hx 15 (hb hby D44_14) rfl rfl ?_
      refine giconst X hx (2 : Int32) 16 (hb hby D44_15) rfl rfl ?_
      rcases Decidable.em (kk = (2 : Int32)) with g2_16 | g2_16
      · refine gicmpNo X hx 19 (hb hby D44_16) rfl (teq g2_16).2 ?_
        refine gbipush X hx (100 : Int32) 21 (hb hby D44_19) rfl rfl ?_
        exact gRetP X hx hlk hret rfl (Or.inl ⟨rfl, by simp, _, rfl⟩) (hb hby D44_21) eT (by decide) (by decide) ⟨(by obtain rfl : j = 2 := own_jeq hkk hj9 (by decide) g2_16; rfl), N, rfl⟩
      · refine gicmpYes X hx 22 (hb hby D44_16) (feq g2_16).2 (by decide) (by decide) ?_
        refine giloadN (v := kk) X hx 23 (hb hby D44_22) rfl rfl ?_
        refine giconst X hx (3 : Int32) 24 (hb hby D44_23) rfl rfl ?_
        rcases Decidable.em (kk = (3 : Int32)) with g3_24 | g3_24
        · refine gicmpNo X hx 27 (hb hby D44_24) rfl (teq g3_24).2 ?_
          refine gsipush X hx (1000 : Int32) 30 (hb hby D44_27) rfl rfl ?_
          exact gRetP X hx hlk hret rfl (Or.inl ⟨rfl, by simp, _, rfl⟩) (hb hby D44_30) eT (by decide) (by decide) ⟨(by obtain rfl : j = 3 := own_jeq hkk hj9 (by decide) g3_24; rfl), N, rfl⟩
        · refine gicmpYes X hx 31 (hb hby D44_24) (feq g3_24).2 (by decide) (by decide) ?_
          refine giloadN (v := kk) X hx 32 (hb hby D44_31) rfl rfl ?_
          refine giconst X hx (4 : Int32) 33 (hb hby D44_32) rfl rfl ?_
          rcases Decidable.em (kk = (4 : Int32)) with g4_33 | g4_33
          · refine gicmpNo X hx 36 (hb hby D44_33) rfl (teq g4_33).2 ?_
            refine gsipush X hx (10000 : Int32) 39 (hb hby D44_36) rfl rfl ?_
            exact gRetP X hx hlk hret rfl (Or.inl ⟨rfl, by simp, _, rfl⟩) (hb hby D44_39) eT (by decide) (by decide) ⟨(by obtain rfl : j = 4 := own_jeq hkk hj9 (by decide) g4_33; rfl), N, rfl⟩
          · refine gicmpYes X hx 40 (hb hby D44_33) (feq g4_33).2 (by decide) (by decide) ?_
            refine giloadN (v := kk) X hx 41 (hb hby D44_40) rfl rfl ?_
            refine giconst X hx (5 : Int32) 42 (hb hby D44_41) rfl rfl ?_
            rcases Decidable.em (kk = (5 : Int32)) with g5_42 | g5_42
            · refine gicmpNo X hx 45 (hb hby D44_42) rfl (teq g5_42).2 ?_
              refine gldcI X hx hZ hown (u289 hw) 47 (hb hby D44_45) rfl ?_
              exact gRetP X hx hlk hret rfl (Or.inl ⟨rfl, by simp, _, rfl⟩) (hb hby D44_47) eT (by decide) (by decide) ⟨(by obtain rfl : j = 5 := own_jeq hkk hj9 (by decide) g5_42; rfl), N, rfl⟩
            · refine gicmpYes X hx 48 (hb hby D44_42) (feq g5_42).2 (by decide) (by decide) ?_
              refine giloadN (v := kk) X hx 49 (hb hby D44_48) rfl rfl ?_
              refine gbipush X hx (6 : Int32) 51 (hb hby D44_49) rfl rfl ?_
              rcases Decidable.em (kk = (6 : Int32)) with g6_51 | g6_51
              · refine gicmpNo X hx 54 (hb hby D44_51) rfl (teq g6_51).2 ?_
                refine gldcI X hx hZ hown (u290 hw) 56 (hb hby D44_54) rfl ?_
                exact gRetP X hx hlk hret rfl (Or.inl ⟨rfl, by simp, _, rfl⟩) (hb hby D44_56) eT (by decide) (by decide) ⟨(by obtain rfl : j = 6 := own_jeq hkk hj9 (by decide) g6_51; rfl), N, rfl⟩
              · refine gicmpYes X hx 57 (hb hby D44_51) (feq g6_51).2 (by decide) (by decide) ?_
                refine giloadN (v := kk) X hx 58 (hb hby D44_57) rfl rfl ?_
                refine gbipush X hx (7 : Int32) 60 (hb hby D44_58) rfl rfl ?_
                rcases Decidable.em (kk = (7 : Int32)) with g7_60 | g7_60
                · refine gicmpNo X hx 63 (hb hby D44_60) rfl (teq g7_60).2 ?_
                  refine gldcI X hx hZ hown (u291 hw) 65 (hb hby D44_63) rfl ?_
                  exact gRetP X hx hlk hret rfl (Or.inl ⟨rfl, by simp, _, rfl⟩) (hb hby D44_65) eT (by decide) (by decide) ⟨(by obtain rfl : j = 7 := own_jeq hkk hj9 (by decide) g7_60; rfl), N, rfl⟩
                · refine gicmpYes X hx 66 (hb hby D44_60) (feq g7_60).2 (by decide) (by decide) ?_
                  refine giloadN (v := kk) X hx 67 (hb hby D44_66) rfl rfl ?_
                  refine gbipush X hx (8 : Int32) 69 (hb hby D44_67) rfl rfl ?_
                  rcases Decidable.em (kk = (8 : Int32)) with g8_69 | g8_69
                  · refine gicmpNo X hx 72 (hb hby D44_69) rfl (teq g8_69).2 ?_
                    refine gldcI X hx hZ hown (u292 hw) 74 (hb hby D44_72) rfl ?_
                    exact gRetP X hx hlk hret rfl (Or.inl ⟨rfl, by simp, _, rfl⟩) (hb hby D44_74) eT (by decide) (by decide) ⟨(by obtain rfl : j = 8 := own_jeq hkk hj9 (by decide) g8_69; rfl), N, rfl⟩
                  · refine gicmpYes X hx 75 (hb hby D44_69) (feq g8_69).2 (by decide) (by decide) ?_
                    refine gldcI X hx hZ hown (u293 hw) 77 (hb hby D44_75) rfl ?_
                    exact gRetP X hx hlk hret rfl (Or.inl ⟨rfl, by simp, _, rfl⟩) (hb hby D44_77) eT (by decide) (by decide) ⟨(by obtain rfl : j = 9 := own_j9 hkk hj9 g0_1 g1_8 g2_16 g3_24 g4_33 g5_42 g6_51 g7_60 g8_69; rfl), N, rfl⟩
theorem rmDig (l : Launch) (Z : State) (a0 : Array Value) (hw : HW_ a0 Z) (nv : Nat) (kk : Int32) (j : Nat) (h0 : Heap) (n0 : Nat) (Z0 : n0 ≤ h0.size) (hnv : nv < 2147483648) (hkk : kk = Int32.ofNat j) (hj9 : j ≤ 9) :
    CtP l Y3 method_3_code 2 (some .char) [] ({ frames := 1, cells := 0, slots := 0, locals := 14 } : Room) Z #[(.int (Int32.ofNat nv)), (.int kk)] h0 (fun v h L => v = some (.int (Int32.ofNat (48 + nv / 10 ^ j % 10))) ∧ Fr n0 L ∧ h = h0) := by
  refine CtP.walk (Ls := #[.val (.int (Int32.ofNat nv)), .val (.int kk)]) (plainFor_of_name own_pn12) (fun m => by first | (simp [entryFrame, mkF, argsToLocals, Value.category]; done) | rfl) ?_
  intro p e s m below meth cc_ T hx hby hml hown hnm hret hlk hZ X eT
  have N := Fr.nil n0
  have sz_h : h0.size ≤ h0.size := Nat.le_refl _
  refine gbipush X hx (48 : Int32) 2 (hb hby D43_0) rfl rfl ?_
  refine giloadN (v := (Int32.ofNat nv)) X hx 3 (hb hby D43_2) rfl rfl ?_
  refine giloadN (v := kk) X hx 4 (hb hby D43_3) rfl rfl ?_
  refine gstatic (y := Y7) (argsL := [(.int kk)]) (st := [(.int (Int32.ofNat nv)), (.int 48)]) X hx hZ hown (u232 hw) (u233 hw) (u2 hw) (u234 hw) (by decide) (payP (W := 2) (rmP10 l Z a0 hw (kk) (j) h0 n0 (Nat.le_trans Z0 sz_h) (hkk) (hj9)) hZ (u234 hw) (u2 hw) (by decide) (by decide)) eT (by rw [hml]; rfl) (lenOf own_pd4 rfl) rfl (Nat.le_of_eq rfl) 0 0 rfl rfl (by decide) (by decide) 7 (hb hby D43_4) rfl (gcut N ?_)
  clear X eT N; clear T; intro T L X eT N
  refine gidiv X hx 8 (hb hby D43_7) rfl (own_p10ne hj9) ?_
  rw [own_div hnv hj9]
  show Go p e below _ T (mkF m 8 _ [(.int (Int32.ofNat (nv / 10 ^ j))), (.int 48)])
  refine gbipush X hx (10 : Int32) 10 (hb hby D43_8) rfl rfl ?_
  refine girem X hx 11 (hb hby D43_10) rfl (by decide) ?_
  refine giadd X hx 12 (hb hby D43_11) rfl ?_
  refine gi2c X hx 13 (hb hby D43_12) rfl ?_
  rw [own_digc (own_dlt hnv)]
  show Go p e below _ T (mkF m 13 _ [(.int (Int32.ofNat (48 + nv / 10 ^ j % 10)))])
  exact gRetP X hx hlk hret (own_narrowR (own_d48 _)) (Or.inl ⟨rfl, by simp, _, rfl⟩) (hb hby D43_13) eT (by decide) (by decide) ⟨rfl, N, rfl⟩
theorem rmAt (l : Launch) (Z : State) (a0 : Array Value) (hw : HW_ a0 Z) (x : Addr) (ii : Int32) (cc : Int32) (t : Addr) (cs : List Int32) (kk : Nat) (G1 : Int32) (G3 : Value) (h0 : Heap) (n0 : Nat) (Z0 : n0 ≤ h0.size) (P0_Old : Old Z n0 h0) (P1_Str : Str Z h0 x t cs) (O2 : Sta Z Z.heap "java/lang/String" "COMPACT_STRINGS" "Z" (.int G1)) (P5 : ¬ G1 = (0 : Int32)) (O4 : Sta Z Z.heap "jdk/internal/util/Preconditions" "SIOOBE_FORMATTER" "Ljava/util/function/BiFunction;" G3) (rG3 : G3.isRef = true) (hi : ii = Int32.ofNat kk) (hk : kk < cs.length) (hl : cs.length ≤ 4000) (hg : cs.getD kk 0 = cc) :
    CtP l Y2 method_5_code 3 (some .boolean) [] ({ frames := 4, cells := 0, slots := 0, locals := 53 } : Room) Z #[(.ref x), (.int ii), (.int cc)] h0 (fun v h L => v = some (.int 1) ∧ Fr n0 L ∧ h = h0) := by
  refine CtP.walk (Ls := #[.val (.ref x), .val (.int ii), .val (.int cc)]) (plainFor_of_name own_pn12) (fun m => by rcases ref_cases rG3 with rfl | ⟨_, rfl⟩ <;> rfl) ?_
  intro p e s m below meth cc_ T hx hby hml hown hnm hret hlk hZ X eT
  have N := Fr.nil n0
  have sz_h : h0.size ≤ h0.size := Nat.le_refl _
  refine giloadN (v := ii) X hx 1 (hb hby D37_0) rfl rfl ?_
  refine gifNo X hx 4 (hb hby D37_1) rfl ((if0 _ _).trans (flt (own_atA hi hk hl)).1) ?_
  refine giloadN (v := ii) X hx 5 (hb hby D37_4) rfl rfl ?_
  refine galoadN (v := (.ref x)) X hx 6 (hb hby D37_5) rfl rfl rfl ?_
  refine gvirtual (y := Y33) (z := Y33) (a := x) (argsL := []) (st := [(.int ii)]) X hx hZ hown (u206 hw) (u106 hw) (notFace_of_selects (args := #[]) (mvT hZ (u108 hw))) (u108 hw) (u107 hw) (by decide) P1_Str.exa (payLen (W := 1) hZ hw P1_Str (O2.ext P0_Old.2) P5 (by decide) (by decide)) eT (by rw [hml]; rfl) (lenOf own_pd8 rfl) rfl (Nat.le_of_eq rfl) 0 0 rfl rfl (by decide) (by decide) 9 (hb hby D37_6) rfl (gcutE N ?_)
  clear X eT N; clear T; intro T L X eT N
  refine gicmpNo X hx 12 (hb hby D37_9) rfl (tlt (own_atB hi hk hl)).2.1 ?_
  refine galoadN (v := (.ref x)) X hx 13 (hb hby D37_12) rfl rfl rfl ?_
  refine giloadN (v := ii) X hx 14 (hb hby D37_13) rfl rfl ?_
  refine gvirtual (y := Y27) (z := Y27) (a := x) (argsL := [(.int ii)]) (st := []) X hx hZ hown (u210 hw) (u211 hw) (notFace_of_selects (args := #[]) (mvT hZ (u213 hw))) (u213 hw) (u212 hw) (by decide) P1_Str.exa (payChr (W := 0) (i := kk) hZ hw P1_Str (O2.ext P0_Old.2) P5 (O4.ext P0_Old.2) rG3 hk hi (by decide) (by decide)) eT (by rw [hml]; rfl) (lenOf own_pd30 rfl) rfl (Nat.le_of_eq rfl) 0 0 rfl rfl (by decide) (by decide) 17 (hb hby D37_14) rfl (gcutE N ?_)
  clear X eT N; clear T; intro T L X eT N
  refine giloadN (v := cc) X hx 18 (hb hby D37_17) rfl rfl ?_
  refine gicmpNo X hx 21 (hb hby D37_18) rfl (teq hg).2 ?_
  refine giconst X hx (1 : Int32) 22 (hb hby D37_21) rfl rfl ?_
  refine ggoto X hx 26 (hb hby D37_22) (by decide) (by decide) ?_
  exact gRetP X hx hlk hret rfl (Or.inl ⟨rfl, by simp, _, rfl⟩) (hb hby D37_26) eT (by decide) (by decide) ⟨rfl, N, rfl⟩
theorem rmNum (l : Launch) (Z : State) (a0 : Array Value) (hw : HW_ a0 Z) (x : Addr) (off : Int32) (nv : Nat) (t : Addr) (cs : List Int32) (pre : List Int32) (suf : List Int32) (G1 : Int32) (G3 : Value) (h0 : Heap) (n0 : Nat) (Z0 : n0 ≤ h0.size) (P0_Old : Old Z n0 h0) (P1_Str : Str Z h0 x t cs) (O2 : Sta Z Z.heap "java/lang/String" "COMPACT_STRINGS" "Z" (.int G1)) (P5 : ¬ G1 = (0 : Int32)) (O4 : Sta Z Z.heap "jdk/internal/util/Preconditions" "SIOOBE_FORMATTER" "Ljava/util/function/BiFunction;" G3) (rG3 : G3.isRef = true) (hnv : nv < 2147483648) (ho : off = Int32.ofNat pre.length) (hcs : cs = pre ++ own_dg nv ++ suf) (hl : cs.length ≤ 4000) :
    CtP l Y6 method_6_code 5 (some .boolean) [] ({ frames := 5, cells := 0, slots := 0, locals := 67 } : Room) Z #[(.ref x), (.int off), (.int (Int32.ofNat nv))] h0 (fun v h L => v = some (.int 1) ∧ Fr n0 L ∧ h = h0) := by
  refine CtP.walk (Ls := #[.val (.ref x), .val (.int off), .val (.int (Int32.ofNat nv)), .unset, .unset]) (plainFor_of_name own_pn12) (fun m => by rcases ref_cases rG3 with rfl | ⟨_, rfl⟩ <;> rfl) ?_
  intro p e s m below meth cc_ T hx hby hml hown hnm hret hlk hZ X eT
  have N := Fr.nil n0
  have sz_h : h0.size ≤ h0.size := Nat.le_refl _
  refine giloadN (v := (Int32.ofNat nv)) X hx 1 (hb hby D42_0) rfl rfl ?_
  refine gstatic (y := Y5) (argsL := [(.int (Int32.ofNat nv))]) (st := []) X hx hZ hown (u203 hw) (u204 hw) (u2 hw) (u205 hw) (by decide) (payP (W := 0) (rmND l Z a0 hw (nv) h0 n0 (Nat.le_trans Z0 sz_h) (hnv)) hZ (u205 hw) (u2 hw) (by decide) (by decide)) eT (by rw [hml]; rfl) (lenOf own_pd4 rfl) rfl (Nat.le_of_eq rfl) 0 0 rfl rfl (by decide) (by decide) 4 (hb hby D42_1) rfl (gcut N ?_)
  clear X eT N; clear T; intro T L X eT N
  refine gistoreN X hx #[.val (.ref x), .val (.int off), .val (.int (Int32.ofNat nv)), .val (.int (Int32.ofNat (own_dg nv).length)), .unset] 5 (hb hby D42_4) rfl rfl ?_
  refine giconst X hx (1 : Int32) 6 (hb hby D42_5) rfl rfl ?_
  refine gistore X hx #[.val (.ref x), .val (.int off), .val (.int (Int32.ofNat nv)), .val (.int (Int32.ofNat (own_dg nv).length)), .val (.int 1)] 8 (hb hby D42_6) rfl rfl ?_
  have hd0 := own_dpos nv
  have hle : pre.length + (own_dg nv).length ≤ 4000 := by rw [hcs, List.length_append, List.length_append] at hl; omega
  refine own_two (A := ∀ (L : List Loc) (T : State), Stand p l e ({ frames := 5, cells := 0, slots := 0, locals := 67 } : Room) s m #[(.ref x), (.int off), (.int (Int32.ofNat nv))] below meth cc_ T L 0 0 → T.heap = h0 → Fr n0 L → Go p e below (PP s (fun v h L => v = some (.int 1) ∧ Fr n0 L ∧ h = h0) 0 0) T (mkF m 341 #[.val (.ref x), .val (.int off), .val (.int (Int32.ofNat nv)), .val (.int (Int32.ofNat (own_dg nv).length)), .val (.int 1)] [])) ?_ ?_
  · clear X eT N; clear T; intro L T X eT N
    refine giload (v := (1 : Int32)) X hx 343 (hb hby D42_341) rfl rfl ?_
    refine gifNo X hx 346 (hb hby D42_343) rfl (by decide) ?_
    refine gbipush X hx (9 : Int32) 348 (hb hby D42_346) rfl rfl ?_
    refine giloadN (v := (Int32.ofNat (own_dg nv).length)) X hx 349 (hb hby D42_348) rfl rfl ?_
    rcases Nat.lt_or_ge 9 (own_dg nv).length with q9 | q9
    · refine gicmpNo X hx 352 (hb hby D42_349) rfl (tlt (own_klt 9 q9 hle)).2.1 ?_
      refine galoadN (v := (.ref x)) X hx 353 (hb hby D42_352) rfl rfl rfl ?_
      refine giloadN (v := off) X hx 354 (hb hby D42_353) rfl rfl ?_
      refine giloadN (v := (Int32.ofNat (own_dg nv).length)) X hx 355 (hb hby D42_354) rfl rfl ?_
      refine giadd X hx 356 (hb hby D42_355) rfl ?_
      refine giconst X hx (1 : Int32) 357 (hb hby D42_356) rfl rfl ?_
      refine gisub X hx 358 (hb hby D42_357) rfl ?_
      refine gbipush X hx (9 : Int32) 360 (hb hby D42_358) rfl rfl ?_
      refine gisub X hx 361 (hb hby D42_360) rfl ?_
      refine giloadN (v := (Int32.ofNat nv)) X hx 362 (hb hby D42_361) rfl rfl ?_
      refine gbipush X hx (9 : Int32) 364 (hb hby D42_362) rfl rfl ?_
      refine gstatic (y := Y3) (argsL := [(.int (Int32.ofNat nv)), (.int 9)]) (st := [(.int (((off + (Int32.ofNat (own_dg nv).length)) - (1 : Int32)) - (9 : Int32))), (.ref x)]) X hx hZ hown (u229 hw) (u230 hw) (u2 hw) (u231 hw) (by decide) (payP (W := 2) (rmDig l Z a0 hw (nv) ((9 : Int32)) (9) h0 n0 (Nat.le_trans Z0 sz_h) (hnv) (rfl) (by decide)) hZ (u231 hw) (u2 hw) (by decide) (by decide)) eT (by rw [hml]; rfl) (lenOf own_pd31 rfl) rfl (Nat.le_of_eq rfl) 0 0 rfl rfl (by decide) (by decide) 367 (hb hby D42_364) rfl (gcut N ?_)
      clear X eT N; clear T; intro T L X eT N
      refine gstatic (y := Y2) (argsL := [(.ref x), (.int (((off + (Int32.ofNat (own_dg nv).length)) - (1 : Int32)) - (9 : Int32))), (.int (Int32.ofNat (48 + nv / 10 ^ 9 % 10)))]) (st := []) X hx hZ hown (u207 hw) (u208 hw) (u2 hw) (u209 hw) (by decide) (payP (W := 0) (rmAt l Z a0 hw (x) ((((off + (Int32.ofNat (own_dg nv).length)) - (1 : Int32)) - (9 : Int32))) ((Int32.ofNat (48 + nv / 10 ^ 9 % 10))) (t) (cs) ((pre.length + ((own_dg nv).length - 1 - 9))) (G1) (G3) h0 n0 (Nat.le_trans Z0 sz_h) P0_Old P1_Str (O2) (P5) (O4) (rG3) (own_ix ho rfl q9) (own_ixl hcs q9) (hl) (own_atd hcs q9)) hZ (u209 hw) (u2 hw) (by decide) (by decide)) eT (by rw [hml]; rfl) (lenOf own_pd32 rfl) rfl (Nat.le_of_eq rfl) 0 0 rfl rfl (by decide) (by decide) 370 (hb hby D42_367) rfl (gcut N ?_)
      clear X eT N; clear T; intro T L X eT N
      refine gifNo X hx 373 (hb hby D42_370) rfl (by decide) ?_
      refine giconst X hx (1 : Int32) 374 (hb hby D42_373) rfl rfl ?_
      refine ggoto X hx 378 (hb hby D42_374) (by decide) (by decide) ?_
      refine gistore X hx #[.val (.ref x), .val (.int off), .val (.int (Int32.ofNat nv)), .val (.int (Int32.ofNat (own_dg nv).length)), .val (.int 1)] 380 (hb hby D42_378) rfl rfl ?_
      refine giload (v := (1 : Int32)) X hx 382 (hb hby D42_380) rfl rfl ?_
      exact gRetP X hx hlk hret rfl (Or.inl ⟨rfl, by simp, _, rfl⟩) (hb hby D42_382) eT (by decide) (by decide) ⟨rfl, N, rfl⟩
    · refine gicmpYes X hx 373 (hb hby D42_349) (flt (own_kge 9 q9)).2.1 (by decide) (by decide) ?_
      refine giconst X hx (1 : Int32) 374 (hb hby D42_373) rfl rfl ?_
      refine ggoto X hx 378 (hb hby D42_374) (by decide) (by decide) ?_
      refine gistore X hx #[.val (.ref x), .val (.int off), .val (.int (Int32.ofNat nv)), .val (.int (Int32.ofNat (own_dg nv).length)), .val (.int 1)] 380 (hb hby D42_378) rfl rfl ?_
      refine giload (v := (1 : Int32)) X hx 382 (hb hby D42_380) rfl rfl ?_
      exact gRetP X hx hlk hret rfl (Or.inl ⟨rfl, by simp, _, rfl⟩) (hb hby D42_382) eT (by decide) (by decide) ⟨rfl, N, rfl⟩
  · intro g9_
    refine own_two (A := ∀ (L : List Loc) (T : State), Stand p l e ({ frames := 5, cells := 0, slots := 0, locals := 67 } : Room) s m #[(.ref x), (.int off), (.int (Int32.ofNat nv))] below meth cc_ T L 0 0 → T.heap = h0 → Fr n0 L → Go p e below (PP s (fun v h L => v = some (.int 1) ∧ Fr n0 L ∧ h = h0) 0 0) T (mkF m 302 #[.val (.ref x), .val (.int off), .val (.int (Int32.ofNat nv)), .val (.int (Int32.ofNat (own_dg nv).length)), .val (.int 1)] [])) ?_ ?_
    · clear X eT N; clear T; intro L T X eT N
      refine giload (v := (1 : Int32)) X hx 304 (hb hby D42_302) rfl rfl ?_
      refine gifNo X hx 307 (hb hby D42_304) rfl (by decide) ?_
      refine gbipush X hx (8 : Int32) 309 (hb hby D42_307) rfl rfl ?_
      refine giloadN (v := (Int32.ofNat (own_dg nv).length)) X hx 310 (hb hby D42_309) rfl rfl ?_
      rcases Nat.lt_or_ge 8 (own_dg nv).length with q8 | q8
      · refine gicmpNo X hx 313 (hb hby D42_310) rfl (tlt (own_klt 8 q8 hle)).2.1 ?_
        refine galoadN (v := (.ref x)) X hx 314 (hb hby D42_313) rfl rfl rfl ?_
        refine giloadN (v := off) X hx 315 (hb hby D42_314) rfl rfl ?_
        refine giloadN (v := (Int32.ofNat (own_dg nv).length)) X hx 316 (hb hby D42_315) rfl rfl ?_
        refine giadd X hx 317 (hb hby D42_316) rfl ?_
        refine giconst X hx (1 : Int32) 318 (hb hby D42_317) rfl rfl ?_
        refine gisub X hx 319 (hb hby D42_318) rfl ?_
        refine gbipush X hx (8 : Int32) 321 (hb hby D42_319) rfl rfl ?_
        refine gisub X hx 322 (hb hby D42_321) rfl ?_
        refine giloadN (v := (Int32.ofNat nv)) X hx 323 (hb hby D42_322) rfl rfl ?_
        refine gbipush X hx (8 : Int32) 325 (hb hby D42_323) rfl rfl ?_
        refine gstatic (y := Y3) (argsL := [(.int (Int32.ofNat nv)), (.int 8)]) (st := [(.int (((off + (Int32.ofNat (own_dg nv).length)) - (1 : Int32)) - (8 : Int32))), (.ref x)]) X hx hZ hown (u229 hw) (u230 hw) (u2 hw) (u231 hw) (by decide) (payP (W := 2) (rmDig l Z a0 hw (nv) ((8 : Int32)) (8) h0 n0 (Nat.le_trans Z0 sz_h) (hnv) (rfl) (by decide)) hZ (u231 hw) (u2 hw) (by decide) (by decide)) eT (by rw [hml]; rfl) (lenOf own_pd31 rfl) rfl (Nat.le_of_eq rfl) 0 0 rfl rfl (by decide) (by decide) 328 (hb hby D42_325) rfl (gcut N ?_)
        clear X eT N; clear T; intro T L X eT N
        refine gstatic (y := Y2) (argsL := [(.ref x), (.int (((off + (Int32.ofNat (own_dg nv).length)) - (1 : Int32)) - (8 : Int32))), (.int (Int32.ofNat (48 + nv / 10 ^ 8 % 10)))]) (st := []) X hx hZ hown (u207 hw) (u208 hw) (u2 hw) (u209 hw) (by decide) (payP (W := 0) (rmAt l Z a0 hw (x) ((((off + (Int32.ofNat (own_dg nv).length)) - (1 : Int32)) - (8 : Int32))) ((Int32.ofNat (48 + nv / 10 ^ 8 % 10))) (t) (cs) ((pre.length + ((own_dg nv).length - 1 - 8))) (G1) (G3) h0 n0 (Nat.le_trans Z0 sz_h) P0_Old P1_Str (O2) (P5) (O4) (rG3) (own_ix ho rfl q8) (own_ixl hcs q8) (hl) (own_atd hcs q8)) hZ (u209 hw) (u2 hw) (by decide) (by decide)) eT (by rw [hml]; rfl) (lenOf own_pd32 rfl) rfl (Nat.le_of_eq rfl) 0 0 rfl rfl (by decide) (by decide) 331 (hb hby D42_328) rfl (gcut N ?_)
        clear X eT N; clear T; intro T L X eT N
        refine gifNo X hx 334 (hb hby D42_331) rfl (by decide) ?_
        refine giconst X hx (1 : Int32) 335 (hb hby D42_334) rfl rfl ?_
        refine ggoto X hx 339 (hb hby D42_335) (by decide) (by decide) ?_
        refine gistore X hx #[.val (.ref x), .val (.int off), .val (.int (Int32.ofNat nv)), .val (.int (Int32.ofNat (own_dg nv).length)), .val (.int 1)] 341 (hb hby D42_339) rfl rfl ?_
        exact g9_ _ _ X eT N
      · refine gicmpYes X hx 334 (hb hby D42_310) (flt (own_kge 8 q8)).2.1 (by decide) (by decide) ?_
        refine giconst X hx (1 : Int32) 335 (hb hby D42_334) rfl rfl ?_
        refine ggoto X hx 339 (hb hby D42_335) (by decide) (by decide) ?_
        refine gistore X hx #[.val (.ref x), .val (.int off), .val (.int (Int32.ofNat nv)), .val (.int (Int32.ofNat (own_dg nv).length)), .val (.int 1)] 341 (hb hby D42_339) rfl rfl ?_
        exact g9_ _ _ X eT N
    · intro g8_
      refine own_two (A := ∀ (L : List Loc) (T : State), Stand p l e ({ frames := 5, cells := 0, slots := 0, locals := 67 } : Room) s m #[(.ref x), (.int off), (.int (Int32.ofNat nv))] below meth cc_ T L 0 0 → T.heap = h0 → Fr n0 L → Go p e below (PP s (fun v h L => v = some (.int 1) ∧ Fr n0 L ∧ h = h0) 0 0) T (mkF m 263 #[.val (.ref x), .val (.int off), .val (.int (Int32.ofNat nv)), .val (.int (Int32.ofNat (own_dg nv).length)), .val (.int 1)] [])) ?_ ?_
      · clear X eT N; clear T; intro L T X eT N
        refine giload (v := (1 : Int32)) X hx 265 (hb hby D42_263) rfl rfl ?_
        refine gifNo X hx 268 (hb hby D42_265) rfl (by decide) ?_
        refine gbipush X hx (7 : Int32) 270 (hb hby D42_268) rfl rfl ?_
        refine giloadN (v := (Int32.ofNat (own_dg nv).length)) X hx 271 (hb hby D42_270) rfl rfl ?_
        rcases Nat.lt_or_ge 7 (own_dg nv).length with q7 | q7
        · refine gicmpNo X hx 274 (hb hby D42_271) rfl (tlt (own_klt 7 q7 hle)).2.1 ?_
          refine galoadN (v := (.ref x)) X hx 275 (hb hby D42_274) rfl rfl rfl ?_
          refine giloadN (v := off) X hx 276 (hb hby D42_275) rfl rfl ?_
          refine giloadN (v := (Int32.ofNat (own_dg nv).length)) X hx 277 (hb hby D42_276) rfl rfl ?_
          refine giadd X hx 278 (hb hby D42_277) rfl ?_
          refine giconst X hx (1 : Int32) 279 (hb hby D42_278) rfl rfl ?_
          refine gisub X hx 280 (hb hby D42_279) rfl ?_
          refine gbipush X hx (7 : Int32) 282 (hb hby D42_280) rfl rfl ?_
          refine gisub X hx 283 (hb hby D42_282) rfl ?_
          refine giloadN (v := (Int32.ofNat nv)) X hx 284 (hb hby D42_283) rfl rfl ?_
          refine gbipush X hx (7 : Int32) 286 (hb hby D42_284) rfl rfl ?_
          refine gstatic (y := Y3) (argsL := [(.int (Int32.ofNat nv)), (.int 7)]) (st := [(.int (((off + (Int32.ofNat (own_dg nv).length)) - (1 : Int32)) - (7 : Int32))), (.ref x)]) X hx hZ hown (u229 hw) (u230 hw) (u2 hw) (u231 hw) (by decide) (payP (W := 2) (rmDig l Z a0 hw (nv) ((7 : Int32)) (7) h0 n0 (Nat.le_trans Z0 sz_h) (hnv) (rfl) (by decide)) hZ (u231 hw) (u2 hw) (by decide) (by decide)) eT (by rw [hml]; rfl) (lenOf own_pd31 rfl) rfl (Nat.le_of_eq rfl) 0 0 rfl rfl (by decide) (by decide) 289 (hb hby D42_286) rfl (gcut N ?_)
          clear X eT N; clear T; intro T L X eT N
          refine gstatic (y := Y2) (argsL := [(.ref x), (.int (((off + (Int32.ofNat (own_dg nv).length)) - (1 : Int32)) - (7 : Int32))), (.int (Int32.ofNat (48 + nv / 10 ^ 7 % 10)))]) (st := []) X hx hZ hown (u207 hw) (u208 hw) (u2 hw) (u209 hw) (by decide) (payP (W := 0) (rmAt l Z a0 hw (x) ((((off + (Int32.ofNat (own_dg nv).length)) - (1 : Int32)) - (7 : Int32))) ((Int32.ofNat (48 + nv / 10 ^ 7 % 10))) (t) (cs) ((pre.length + ((own_dg nv).length - 1 - 7))) (G1) (G3) h0 n0 (Nat.le_trans Z0 sz_h) P0_Old P1_Str (O2) (P5) (O4) (rG3) (own_ix ho rfl q7) (own_ixl hcs q7) (hl) (own_atd hcs q7)) hZ (u209 hw) (u2 hw) (by decide) (by decide)) eT (by rw [hml]; rfl) (lenOf own_pd32 rfl) rfl (Nat.le_of_eq rfl) 0 0 rfl rfl (by decide) (by decide) 292 (hb hby D42_289) rfl (gcut N ?_)
          clear X eT N; clear T; intro T L X eT N
          refine gifNo X hx 295 (hb hby D42_292) rfl (by decide) ?_
          refine giconst X hx (1 : Int32) 296 (hb hby D42_295) rfl rfl ?_
          refine ggoto X hx 300 (hb hby D42_296) (by decide) (by decide) ?_
          refine gistore X hx #[.val (.ref x), .val (.int off), .val (.int (Int32.ofNat nv)), .val (.int (Int32.ofNat (own_dg nv).length)), .val (.int 1)] 302 (hb hby D42_300) rfl rfl ?_
          exact g8_ _ _ X eT N
        · refine gicmpYes X hx 295 (hb hby D42_271) (flt (own_kge 7 q7)).2.1 (by decide) (by decide) ?_
          refine giconst X hx (1 : Int32) 296 (hb hby D42_295) rfl rfl ?_
          refine ggoto X hx 300 (hb hby D42_296) (by decide) (by decide) ?_
          refine gistore X hx #[.val (.ref x), .val (.int off), .val (.int (Int32.ofNat nv)), .val (.int (Int32.ofNat (own_dg nv).length)), .val (.int 1)] 302 (hb hby D42_300) rfl rfl ?_
          exact g8_ _ _ X eT N
      · intro g7_
        refine own_two (A := ∀ (L : List Loc) (T : State), Stand p l e ({ frames := 5, cells := 0, slots := 0, locals := 67 } : Room) s m #[(.ref x), (.int off), (.int (Int32.ofNat nv))] below meth cc_ T L 0 0 → T.heap = h0 → Fr n0 L → Go p e below (PP s (fun v h L => v = some (.int 1) ∧ Fr n0 L ∧ h = h0) 0 0) T (mkF m 224 #[.val (.ref x), .val (.int off), .val (.int (Int32.ofNat nv)), .val (.int (Int32.ofNat (own_dg nv).length)), .val (.int 1)] [])) ?_ ?_
        · clear X eT N; clear T; intro L T X eT N
          refine giload (v := (1 : Int32)) X hx 226 (hb hby D42_224) rfl rfl ?_
          refine gifNo X hx 229 (hb hby D42_226) rfl (by decide) ?_
          refine gbipush X hx (6 : Int32) 231 (hb hby D42_229) rfl rfl ?_
          refine giloadN (v := (Int32.ofNat (own_dg nv).length)) X hx 232 (hb hby D42_231) rfl rfl ?_
          rcases Nat.lt_or_ge 6 (own_dg nv).length with q6 | q6
          · refine gicmpNo X hx 235 (hb hby D42_232) rfl (tlt (own_klt 6 q6 hle)).2.1 ?_
            refine galoadN (v := (.ref x)) X hx 236 (hb hby D42_235) rfl rfl rfl ?_
            refine giloadN (v := off) X hx 237 (hb hby D42_236) rfl rfl ?_
            refine giloadN (v := (Int32.ofNat (own_dg nv).length)) X hx 238 (hb hby D42_237) rfl rfl ?_
            refine giadd X hx 239 (hb hby D42_238) rfl ?_
            refine giconst X hx (1 : Int32) 240 (hb hby D42_239) rfl rfl ?_
            refine gisub X hx 241 (hb hby D42_240) rfl ?_
            refine gbipush X hx (6 : Int32) 243 (hb hby D42_241) rfl rfl ?_
            refine gisub X hx 244 (hb hby D42_243) rfl ?_
            refine giloadN (v := (Int32.ofNat nv)) X hx 245 (hb hby D42_244) rfl rfl ?_
            refine gbipush X hx (6 : Int32) 247 (hb hby D42_245) rfl rfl ?_
            refine gstatic (y := Y3) (argsL := [(.int (Int32.ofNat nv)), (.int 6)]) (st := [(.int (((off + (Int32.ofNat (own_dg nv).length)) - (1 : Int32)) - (6 : Int32))), (.ref x)]) X hx hZ hown (u229 hw) (u230 hw) (u2 hw) (u231 hw) (by decide) (payP (W := 2) (rmDig l Z a0 hw (nv) ((6 : Int32)) (6) h0 n0 (Nat.le_trans Z0 sz_h) (hnv) (rfl) (by decide)) hZ (u231 hw) (u2 hw) (by decide) (by decide)) eT (by rw [hml]; rfl) (lenOf own_pd31 rfl) rfl (Nat.le_of_eq rfl) 0 0 rfl rfl (by decide) (by decide) 250 (hb hby D42_247) rfl (gcut N ?_)
            clear X eT N; clear T; intro T L X eT N
            refine gstatic (y := Y2) (argsL := [(.ref x), (.int (((off + (Int32.ofNat (own_dg nv).length)) - (1 : Int32)) - (6 : Int32))), (.int (Int32.ofNat (48 + nv / 10 ^ 6 % 10)))]) (st := []) X hx hZ hown (u207 hw) (u208 hw) (u2 hw) (u209 hw) (by decide) (payP (W := 0) (rmAt l Z a0 hw (x) ((((off + (Int32.ofNat (own_dg nv).length)) - (1 : Int32)) - (6 : Int32))) ((Int32.ofNat (48 + nv / 10 ^ 6 % 10))) (t) (cs) ((pre.length + ((own_dg nv).length - 1 - 6))) (G1) (G3) h0 n0 (Nat.le_trans Z0 sz_h) P0_Old P1_Str (O2) (P5) (O4) (rG3) (own_ix ho rfl q6) (own_ixl hcs q6) (hl) (own_atd hcs q6)) hZ (u209 hw) (u2 hw) (by decide) (by decide)) eT (by rw [hml]; rfl) (lenOf own_pd32 rfl) rfl (Nat.le_of_eq rfl) 0 0 rfl rfl (by decide) (by decide) 253 (hb hby D42_250) rfl (gcut N ?_)
            clear X eT N; clear T; intro T L X eT N
            refine gifNo X hx 256 (hb hby D42_253) rfl (by decide) ?_
            refine giconst X hx (1 : Int32) 257 (hb hby D42_256) rfl rfl ?_
            refine ggoto X hx 261 (hb hby D42_257) (by decide) (by decide) ?_
            refine gistore X hx #[.val (.ref x), .val (.int off), .val (.int (Int32.ofNat nv)), .val (.int (Int32.ofNat (own_dg nv).length)), .val (.int 1)] 263 (hb hby D42_261) rfl rfl ?_
            exact g7_ _ _ X eT N
          · refine gicmpYes X hx 256 (hb hby D42_232) (flt (own_kge 6 q6)).2.1 (by decide) (by decide) ?_
            refine giconst X hx (1 : Int32) 257 (hb hby D42_256) rfl rfl ?_
            refine ggoto X hx 261 (hb hby D42_257) (by decide) (by decide) ?_
            refine gistore X hx #[.val (.ref x), .val (.int off), .val (.int (Int32.ofNat nv)), .val (.int (Int32.ofNat (own_dg nv).length)), .val (.int 1)] 263 (hb hby D42_261) rfl rfl ?_
            exact g7_ _ _ X eT N
        · intro g6_
          refine own_two (A := ∀ (L : List Loc) (T : State), Stand p l e ({ frames := 5, cells := 0, slots := 0, locals := 67 } : Room) s m #[(.ref x), (.int off), (.int (Int32.ofNat nv))] below meth cc_ T L 0 0 → T.heap = h0 → Fr n0 L → Go p e below (PP s (fun v h L => v = some (.int 1) ∧ Fr n0 L ∧ h = h0) 0 0) T (mkF m 188 #[.val (.ref x), .val (.int off), .val (.int (Int32.ofNat nv)), .val (.int (Int32.ofNat (own_dg nv).length)), .val (.int 1)] [])) ?_ ?_
          · clear X eT N; clear T; intro L T X eT N
            refine giload (v := (1 : Int32)) X hx 190 (hb hby D42_188) rfl rfl ?_
            refine gifNo X hx 193 (hb hby D42_190) rfl (by decide) ?_
            refine giconst X hx (5 : Int32) 194 (hb hby D42_193) rfl rfl ?_
            refine giloadN (v := (Int32.ofNat (own_dg nv).length)) X hx 195 (hb hby D42_194) rfl rfl ?_
            rcases Nat.lt_or_ge 5 (own_dg nv).length with q5 | q5
            · refine gicmpNo X hx 198 (hb hby D42_195) rfl (tlt (own_klt 5 q5 hle)).2.1 ?_
              refine galoadN (v := (.ref x)) X hx 199 (hb hby D42_198) rfl rfl rfl ?_
              refine giloadN (v := off) X hx 200 (hb hby D42_199) rfl rfl ?_
              refine giloadN (v := (Int32.ofNat (own_dg nv).length)) X hx 201 (hb hby D42_200) rfl rfl ?_
              refine giadd X hx 202 (hb hby D42_201) rfl ?_
              refine giconst X hx (1 : Int32) 203 (hb hby D42_202) rfl rfl ?_
              refine gisub X hx 204 (hb hby D42_203) rfl ?_
              refine giconst X hx (5 : Int32) 205 (hb hby D42_204) rfl rfl ?_
              refine gisub X hx 206 (hb hby D42_205) rfl ?_
              refine giloadN (v := (Int32.ofNat nv)) X hx 207 (hb hby D42_206) rfl rfl ?_
              refine giconst X hx (5 : Int32) 208 (hb hby D42_207) rfl rfl ?_
              refine gstatic (y := Y3) (argsL := [(.int (Int32.ofNat nv)), (.int 5)]) (st := [(.int (((off + (Int32.ofNat (own_dg nv).length)) - (1 : Int32)) - (5 : Int32))), (.ref x)]) X hx hZ hown (u229 hw) (u230 hw) (u2 hw) (u231 hw) (by decide) (payP (W := 2) (rmDig l Z a0 hw (nv) ((5 : Int32)) (5) h0 n0 (Nat.le_trans Z0 sz_h) (hnv) (rfl) (by decide)) hZ (u231 hw) (u2 hw) (by decide) (by decide)) eT (by rw [hml]; rfl) (lenOf own_pd31 rfl) rfl (Nat.le_of_eq rfl) 0 0 rfl rfl (by decide) (by decide) 211 (hb hby D42_208) rfl (gcut N ?_)
              clear X eT N; clear T; intro T L X eT N
              refine gstatic (y := Y2) (argsL := [(.ref x), (.int (((off + (Int32.ofNat (own_dg nv).length)) - (1 : Int32)) - (5 : Int32))), (.int (Int32.ofNat (48 + nv / 10 ^ 5 % 10)))]) (st := []) X hx hZ hown (u207 hw) (u208 hw) (u2 hw) (u209 hw) (by decide) (payP (W := 0) (rmAt l Z a0 hw (x) ((((off + (Int32.ofNat (own_dg nv).length)) - (1 : Int32)) - (5 : Int32))) ((Int32.ofNat (48 + nv / 10 ^ 5 % 10))) (t) (cs) ((pre.length + ((own_dg nv).length - 1 - 5))) (G1) (G3) h0 n0 (Nat.le_trans Z0 sz_h) P0_Old P1_Str (O2) (P5) (O4) (rG3) (own_ix ho rfl q5) (own_ixl hcs q5) (hl) (own_atd hcs q5)) hZ (u209 hw) (u2 hw) (by decide) (by decide)) eT (by rw [hml]; rfl) (lenOf own_pd32 rfl) rfl (Nat.le_of_eq rfl) 0 0 rfl rfl (by decide) (by decide) 214 (hb hby D42_211) rfl (gcut N ?_)
              clear X eT N; clear T; intro T L X eT N
              refine gifNo X hx 217 (hb hby D42_214) rfl (by decide) ?_
              refine giconst X hx (1 : Int32) 218 (hb hby D42_217) rfl rfl ?_
              refine ggoto X hx 222 (hb hby D42_218) (by decide) (by decide) ?_
              refine gistore X hx #[.val (.ref x), .val (.int off), .val (.int (Int32.ofNat nv)), .val (.int (Int32.ofNat (own_dg nv).length)), .val (.int 1)] 224 (hb hby D42_222) rfl rfl ?_
              exact g6_ _ _ X eT N
            · refine gicmpYes X hx 217 (hb hby D42_195) (flt (own_kge 5 q5)).2.1 (by decide) (by decide) ?_
              refine giconst X hx (1 : Int32) 218 (hb hby D42_217) rfl rfl ?_
              refine ggoto X hx 222 (hb hby D42_218) (by decide) (by decide) ?_
              refine gistore X hx #[.val (.ref x), .val (.int off), .val (.int (Int32.ofNat nv)), .val (.int (Int32.ofNat (own_dg nv).length)), .val (.int 1)] 224 (hb hby D42_222) rfl rfl ?_
              exact g6_ _ _ X eT N
          · intro g5_
            refine own_two (A := ∀ (L : List Loc) (T : State), Stand p l e ({ frames := 5, cells := 0, slots := 0, locals := 67 } : Room) s m #[(.ref x), (.int off), (.int (Int32.ofNat nv))] below meth cc_ T L 0 0 → T.heap = h0 → Fr n0 L → Go p e below (PP s (fun v h L => v = some (.int 1) ∧ Fr n0 L ∧ h = h0) 0 0) T (mkF m 152 #[.val (.ref x), .val (.int off), .val (.int (Int32.ofNat nv)), .val (.int (Int32.ofNat (own_dg nv).length)), .val (.int 1)] [])) ?_ ?_
            · clear X eT N; clear T; intro L T X eT N
              refine giload (v := (1 : Int32)) X hx 154 (hb hby D42_152) rfl rfl ?_
              refine gifNo X hx 157 (hb hby D42_154) rfl (by decide) ?_
              refine giconst X hx (4 : Int32) 158 (hb hby D42_157) rfl rfl ?_
              refine giloadN (v := (Int32.ofNat (own_dg nv).length)) X hx 159 (hb hby D42_158) rfl rfl ?_
              rcases Nat.lt_or_ge 4 (own_dg nv).length with q4 | q4
              · refine gicmpNo X hx 162 (hb hby D42_159) rfl (tlt (own_klt 4 q4 hle)).2.1 ?_
                refine galoadN (v := (.ref x)) X hx 163 (hb hby D42_162) rfl rfl rfl ?_
                refine giloadN (v := off) X hx 164 (hb hby D42_163) rfl rfl ?_
                refine giloadN (v := (Int32.ofNat (own_dg nv).length)) X hx 165 (hb hby D42_164) rfl rfl ?_
                refine giadd X hx 166 (hb hby D42_165) rfl ?_
                refine giconst X hx (1 : Int32) 167 (hb hby D42_166) rfl rfl ?_
                refine gisub X hx 168 (hb hby D42_167) rfl ?_
                refine giconst X hx (4 : Int32) 169 (hb hby D42_168) rfl rfl ?_
                refine gisub X hx 170 (hb hby D42_169) rfl ?_
                refine giloadN (v := (Int32.ofNat nv)) X hx 171 (hb hby D42_170) rfl rfl ?_
                refine giconst X hx (4 : Int32) 172 (hb hby D42_171) rfl rfl ?_
                refine gstatic (y := Y3) (argsL := [(.int (Int32.ofNat nv)), (.int 4)]) (st := [(.int (((off + (Int32.ofNat (own_dg nv).length)) - (1 : Int32)) - (4 : Int32))), (.ref x)]) X hx hZ hown (u229 hw) (u230 hw) (u2 hw) (u231 hw) (by decide) (payP (W := 2) (rmDig l Z a0 hw (nv) ((4 : Int32)) (4) h0 n0 (Nat.le_trans Z0 sz_h) (hnv) (rfl) (by decide)) hZ (u231 hw) (u2 hw) (by decide) (by decide)) eT (by rw [hml]; rfl) (lenOf own_pd31 rfl) rfl (Nat.le_of_eq rfl) 0 0 rfl rfl (by decide) (by decide) 175 (hb hby D42_172) rfl (gcut N ?_)
                clear X eT N; clear T; intro T L X eT N
                refine gstatic (y := Y2) (argsL := [(.ref x), (.int (((off + (Int32.ofNat (own_dg nv).length)) - (1 : Int32)) - (4 : Int32))), (.int (Int32.ofNat (48 + nv / 10 ^ 4 % 10)))]) (st := []) X hx hZ hown (u207 hw) (u208 hw) (u2 hw) (u209 hw) (by decide) (payP (W := 0) (rmAt l Z a0 hw (x) ((((off + (Int32.ofNat (own_dg nv).length)) - (1 : Int32)) - (4 : Int32))) ((Int32.ofNat (48 + nv / 10 ^ 4 % 10))) (t) (cs) ((pre.length + ((own_dg nv).length - 1 - 4))) (G1) (G3) h0 n0 (Nat.le_trans Z0 sz_h) P0_Old P1_Str (O2) (P5) (O4) (rG3) (own_ix ho rfl q4) (own_ixl hcs q4) (hl) (own_atd hcs q4)) hZ (u209 hw) (u2 hw) (by decide) (by decide)) eT (by rw [hml]; rfl) (lenOf own_pd32 rfl) rfl (Nat.le_of_eq rfl) 0 0 rfl rfl (by decide) (by decide) 178 (hb hby D42_175) rfl (gcut N ?_)
                clear X eT N; clear T; intro T L X eT N
                refine gifNo X hx 181 (hb hby D42_178) rfl (by decide) ?_
                refine giconst X hx (1 : Int32) 182 (hb hby D42_181) rfl rfl ?_
                refine ggoto X hx 186 (hb hby D42_182) (by decide) (by decide) ?_
                refine gistore X hx #[.val (.ref x), .val (.int off), .val (.int (Int32.ofNat nv)), .val (.int (Int32.ofNat (own_dg nv).length)), .val (.int 1)] 188 (hb hby D42_186) rfl rfl ?_
                exact g5_ _ _ X eT N
              · refine gicmpYes X hx 181 (hb hby D42_159) (flt (own_kge 4 q4)).2.1 (by decide) (by decide) ?_
                refine giconst X hx (1 : Int32) 182 (hb hby D42_181) rfl rfl ?_
                refine ggoto X hx 186 (hb hby D42_182) (by decide) (by decide) ?_
                refine gistore X hx #[.val (.ref x), .val (.int off), .val (.int (Int32.ofNat nv)), .val (.int (Int32.ofNat (own_dg nv).length)), .val (.int 1)] 188 (hb hby D42_186) rfl rfl ?_
                exact g5_ _ _ X eT N
            · intro g4_
              refine own_two (A := ∀ (L : List Loc) (T : State), Stand p l e ({ frames := 5, cells := 0, slots := 0, locals := 67 } : Room) s m #[(.ref x), (.int off), (.int (Int32.ofNat nv))] below meth cc_ T L 0 0 → T.heap = h0 → Fr n0 L → Go p e below (PP s (fun v h L => v = some (.int 1) ∧ Fr n0 L ∧ h = h0) 0 0) T (mkF m 116 #[.val (.ref x), .val (.int off), .val (.int (Int32.ofNat nv)), .val (.int (Int32.ofNat (own_dg nv).length)), .val (.int 1)] [])) ?_ ?_
              · clear X eT N; clear T; intro L T X eT N
                refine giload (v := (1 : Int32)) X hx 118 (hb hby D42_116) rfl rfl ?_
                refine gifNo X hx 121 (hb hby D42_118) rfl (by decide) ?_
                refine giconst X hx (3 : Int32) 122 (hb hby D42_121) rfl rfl ?_
                refine giloadN (v := (Int32.ofNat (own_dg nv).length)) X hx 123 (hb hby D42_122) rfl rfl ?_
                rcases Nat.lt_or_ge 3 (own_dg nv).length with q3 | q3
                · refine gicmpNo X hx 126 (hb hby D42_123) rfl (tlt (own_klt 3 q3 hle)).2.1 ?_
                  refine galoadN (v := (.ref x)) X hx 127 (hb hby D42_126) rfl rfl rfl ?_
                  refine giloadN (v := off) X hx 128 (hb hby D42_127) rfl rfl ?_
                  refine giloadN (v := (Int32.ofNat (own_dg nv).length)) X hx 129 (hb hby D42_128) rfl rfl ?_
                  refine giadd X hx 130 (hb hby D42_129) rfl ?_
                  refine giconst X hx (1 : Int32) 131 (hb hby D42_130) rfl rfl ?_
                  refine gisub X hx 132 (hb hby D42_131) rfl ?_
                  refine giconst X hx (3 : Int32) 133 (hb hby D42_132) rfl rfl ?_
                  refine gisub X hx 134 (hb hby D42_133) rfl ?_
                  refine giloadN (v := (Int32.ofNat nv)) X hx 135 (hb hby D42_134) rfl rfl ?_
                  refine giconst X hx (3 : Int32) 136 (hb hby D42_135) rfl rfl ?_
                  refine gstatic (y := Y3) (argsL := [(.int (Int32.ofNat nv)), (.int 3)]) (st := [(.int (((off + (Int32.ofNat (own_dg nv).length)) - (1 : Int32)) - (3 : Int32))), (.ref x)]) X hx hZ hown (u229 hw) (u230 hw) (u2 hw) (u231 hw) (by decide) (payP (W := 2) (rmDig l Z a0 hw (nv) ((3 : Int32)) (3) h0 n0 (Nat.le_trans Z0 sz_h) (hnv) (rfl) (by decide)) hZ (u231 hw) (u2 hw) (by decide) (by decide)) eT (by rw [hml]; rfl) (lenOf own_pd31 rfl) rfl (Nat.le_of_eq rfl) 0 0 rfl rfl (by decide) (by decide) 139 (hb hby D42_136) rfl (gcut N ?_)
                  clear X eT N; clear T; intro T L X eT N
                  refine gstatic (y := Y2) (argsL := [(.ref x), (.int (((off + (Int32.ofNat (own_dg nv).length)) - (1 : Int32)) - (3 : Int32))), (.int (Int32.ofNat (48 + nv / 10 ^ 3 % 10)))]) (st := []) X hx hZ hown (u207 hw) (u208 hw) (u2 hw) (u209 hw) (by decide) (payP (W := 0) (rmAt l Z a0 hw (x) ((((off + (Int32.ofNat (own_dg nv).length)) - (1 : Int32)) - (3 : Int32))) ((Int32.ofNat (48 + nv / 10 ^ 3 % 10))) (t) (cs) ((pre.length + ((own_dg nv).length - 1 - 3))) (G1) (G3) h0 n0 (Nat.le_trans Z0 sz_h) P0_Old P1_Str (O2) (P5) (O4) (rG3) (own_ix ho rfl q3) (own_ixl hcs q3) (hl) (own_atd hcs q3)) hZ (u209 hw) (u2 hw) (by decide) (by decide)) eT (by rw [hml]; rfl) (lenOf own_pd32 rfl) rfl (Nat.le_of_eq rfl) 0 0 rfl rfl (by decide) (by decide) 142 (hb hby D42_139) rfl (gcut N ?_)
                  clear X eT N; clear T; intro T L X eT N
                  refine gifNo X hx 145 (hb hby D42_142) rfl (by decide) ?_
                  refine giconst X hx (1 : Int32) 146 (hb hby D42_145) rfl rfl ?_
                  refine ggoto X hx 150 (hb hby D42_146) (by decide) (by decide) ?_
                  refine gistore X hx #[.val (.ref x), .val (.int off), .val (.int (Int32.ofNat nv)), .val (.int (Int32.ofNat (own_dg nv).length)), .val (.int 1)] 152 (hb hby D42_150) rfl rfl ?_
                  exact g4_ _ _ X eT N
                · refine gicmpYes X hx 145 (hb hby D42_123) (flt (own_kge 3 q3)).2.1 (by decide) (by decide) ?_
                  refine giconst X hx (1 : Int32) 146 (hb hby D42_145) rfl rfl ?_
                  refine ggoto X hx 150 (hb hby D42_146) (by decide) (by decide) ?_
                  refine gistore X hx #[.val (.ref x), .val (.int off), .val (.int (Int32.ofNat nv)), .val (.int (Int32.ofNat (own_dg nv).length)), .val (.int 1)] 152 (hb hby D42_150) rfl rfl ?_
                  exact g4_ _ _ X eT N
              · intro g3_
                refine own_two (A := ∀ (L : List Loc) (T : State), Stand p l e ({ frames := 5, cells := 0, slots := 0, locals := 67 } : Room) s m #[(.ref x), (.int off), (.int (Int32.ofNat nv))] below meth cc_ T L 0 0 → T.heap = h0 → Fr n0 L → Go p e below (PP s (fun v h L => v = some (.int 1) ∧ Fr n0 L ∧ h = h0) 0 0) T (mkF m 80 #[.val (.ref x), .val (.int off), .val (.int (Int32.ofNat nv)), .val (.int (Int32.ofNat (own_dg nv).length)), .val (.int 1)] [])) ?_ ?_
                · clear X eT N; clear T; intro L T X eT N
                  refine giload (v := (1 : Int32)) X hx 82 (hb hby D42_80) rfl rfl ?_
                  refine gifNo X hx 85 (hb hby D42_82) rfl (by decide) ?_
                  refine giconst X hx (2 : Int32) 86 (hb hby D42_85) rfl rfl ?_
                  refine giloadN (v := (Int32.ofNat (own_dg nv).length)) X hx 87 (hb hby D42_86) rfl rfl ?_
                  rcases Nat.lt_or_ge 2 (own_dg nv).length with q2 | q2
                  · refine gicmpNo X hx 90 (hb hby D42_87) rfl (tlt (own_klt 2 q2 hle)).2.1 ?_
                    refine galoadN (v := (.ref x)) X hx 91 (hb hby D42_90) rfl rfl rfl ?_
                    refine giloadN (v := off) X hx 92 (hb hby D42_91) rfl rfl ?_
                    refine giloadN (v := (Int32.ofNat (own_dg nv).length)) X hx 93 (hb hby D42_92) rfl rfl ?_
                    refine giadd X hx 94 (hb hby D42_93) rfl ?_
                    refine giconst X hx (1 : Int32) 95 (hb hby D42_94) rfl rfl ?_
                    refine gisub X hx 96 (hb hby D42_95) rfl ?_
                    refine giconst X hx (2 : Int32) 97 (hb hby D42_96) rfl rfl ?_
                    refine gisub X hx 98 (hb hby D42_97) rfl ?_
                    refine giloadN (v := (Int32.ofNat nv)) X hx 99 (hb hby D42_98) rfl rfl ?_
                    refine giconst X hx (2 : Int32) 100 (hb hby D42_99) rfl rfl ?_
                    refine gstatic (y := Y3) (argsL := [(.int (Int32.ofNat nv)), (.int 2)]) (st := [(.int (((off + (Int32.ofNat (own_dg nv).length)) - (1 : Int32)) - (2 : Int32))), (.ref x)]) X hx hZ hown (u229 hw) (u230 hw) (u2 hw) (u231 hw) (by decide) (payP (W := 2) (rmDig l Z a0 hw (nv) ((2 : Int32)) (2) h0 n0 (Nat.le_trans Z0 sz_h) (hnv) (rfl) (by decide)) hZ (u231 hw) (u2 hw) (by decide) (by decide)) eT (by rw [hml]; rfl) (lenOf own_pd31 rfl) rfl (Nat.le_of_eq rfl) 0 0 rfl rfl (by decide) (by decide) 103 (hb hby D42_100) rfl (gcut N ?_)
                    clear X eT N; clear T; intro T L X eT N
                    refine gstatic (y := Y2) (argsL := [(.ref x), (.int (((off + (Int32.ofNat (own_dg nv).length)) - (1 : Int32)) - (2 : Int32))), (.int (Int32.ofNat (48 + nv / 10 ^ 2 % 10)))]) (st := []) X hx hZ hown (u207 hw) (u208 hw) (u2 hw) (u209 hw) (by decide) (payP (W := 0) (rmAt l Z a0 hw (x) ((((off + (Int32.ofNat (own_dg nv).length)) - (1 : Int32)) - (2 : Int32))) ((Int32.ofNat (48 + nv / 10 ^ 2 % 10))) (t) (cs) ((pre.length + ((own_dg nv).length - 1 - 2))) (G1) (G3) h0 n0 (Nat.le_trans Z0 sz_h) P0_Old P1_Str (O2) (P5) (O4) (rG3) (own_ix ho rfl q2) (own_ixl hcs q2) (hl) (own_atd hcs q2)) hZ (u209 hw) (u2 hw) (by decide) (by decide)) eT (by rw [hml]; rfl) (lenOf own_pd32 rfl) rfl (Nat.le_of_eq rfl) 0 0 rfl rfl (by decide) (by decide) 106 (hb hby D42_103) rfl (gcut N ?_)
                    clear X eT N; clear T; intro T L X eT N
                    refine gifNo X hx 109 (hb hby D42_106) rfl (by decide) ?_
                    refine giconst X hx (1 : Int32) 110 (hb hby D42_109) rfl rfl ?_
                    refine ggoto X hx 114 (hb hby D42_110) (by decide) (by decide) ?_
                    refine gistore X hx #[.val (.ref x), .val (.int off), .val (.int (Int32.ofNat nv)), .val (.int (Int32.ofNat (own_dg nv).length)), .val (.int 1)] 116 (hb hby D42_114) rfl rfl ?_
                    exact g3_ _ _ X eT N
                  · refine gicmpYes X hx 109 (hb hby D42_87) (flt (own_kge 2 q2)).2.1 (by decide) (by decide) ?_
                    refine giconst X hx (1 : Int32) 110 (hb hby D42_109) rfl rfl ?_
                    refine ggoto X hx 114 (hb hby D42_110) (by decide) (by decide) ?_
                    refine gistore X hx #[.val (.ref x), .val (.int off), .val (.int (Int32.ofNat nv)), .val (.int (Int32.ofNat (own_dg nv).length)), .val (.int 1)] 116 (hb hby D42_114) rfl rfl ?_
                    exact g3_ _ _ X eT N
                · intro g2_
                  refine own_two (A := ∀ (L : List Loc) (T : State), Stand p l e ({ frames := 5, cells := 0, slots := 0, locals := 67 } : Room) s m #[(.ref x), (.int off), (.int (Int32.ofNat nv))] below meth cc_ T L 0 0 → T.heap = h0 → Fr n0 L → Go p e below (PP s (fun v h L => v = some (.int 1) ∧ Fr n0 L ∧ h = h0) 0 0) T (mkF m 44 #[.val (.ref x), .val (.int off), .val (.int (Int32.ofNat nv)), .val (.int (Int32.ofNat (own_dg nv).length)), .val (.int 1)] [])) ?_ ?_
                  · clear X eT N; clear T; intro L T X eT N
                    refine giload (v := (1 : Int32)) X hx 46 (hb hby D42_44) rfl rfl ?_
                    refine gifNo X hx 49 (hb hby D42_46) rfl (by decide) ?_
                    refine giconst X hx (1 : Int32) 50 (hb hby D42_49) rfl rfl ?_
                    refine giloadN (v := (Int32.ofNat (own_dg nv).length)) X hx 51 (hb hby D42_50) rfl rfl ?_
                    rcases Nat.lt_or_ge 1 (own_dg nv).length with q1 | q1
                    · refine gicmpNo X hx 54 (hb hby D42_51) rfl (tlt (own_klt 1 q1 hle)).2.1 ?_
                      refine galoadN (v := (.ref x)) X hx 55 (hb hby D42_54) rfl rfl rfl ?_
                      refine giloadN (v := off) X hx 56 (hb hby D42_55) rfl rfl ?_
                      refine giloadN (v := (Int32.ofNat (own_dg nv).length)) X hx 57 (hb hby D42_56) rfl rfl ?_
                      refine giadd X hx 58 (hb hby D42_57) rfl ?_
                      refine giconst X hx (1 : Int32) 59 (hb hby D42_58) rfl rfl ?_
                      refine gisub X hx 60 (hb hby D42_59) rfl ?_
                      refine giconst X hx (1 : Int32) 61 (hb hby D42_60) rfl rfl ?_
                      refine gisub X hx 62 (hb hby D42_61) rfl ?_
                      refine giloadN (v := (Int32.ofNat nv)) X hx 63 (hb hby D42_62) rfl rfl ?_
                      refine giconst X hx (1 : Int32) 64 (hb hby D42_63) rfl rfl ?_
                      refine gstatic (y := Y3) (argsL := [(.int (Int32.ofNat nv)), (.int 1)]) (st := [(.int (((off + (Int32.ofNat (own_dg nv).length)) - (1 : Int32)) - (1 : Int32))), (.ref x)]) X hx hZ hown (u229 hw) (u230 hw) (u2 hw) (u231 hw) (by decide) (payP (W := 2) (rmDig l Z a0 hw (nv) ((1 : Int32)) (1) h0 n0 (Nat.le_trans Z0 sz_h) (hnv) (rfl) (by decide)) hZ (u231 hw) (u2 hw) (by decide) (by decide)) eT (by rw [hml]; rfl) (lenOf own_pd31 rfl) rfl (Nat.le_of_eq rfl) 0 0 rfl rfl (by decide) (by decide) 67 (hb hby D42_64) rfl (gcut N ?_)
                      clear X eT N; clear T; intro T L X eT N
                      refine gstatic (y := Y2) (argsL := [(.ref x), (.int (((off + (Int32.ofNat (own_dg nv).length)) - (1 : Int32)) - (1 : Int32))), (.int (Int32.ofNat (48 + nv / 10 ^ 1 % 10)))]) (st := []) X hx hZ hown (u207 hw) (u208 hw) (u2 hw) (u209 hw) (by decide) (payP (W := 0) (rmAt l Z a0 hw (x) ((((off + (Int32.ofNat (own_dg nv).length)) - (1 : Int32)) - (1 : Int32))) ((Int32.ofNat (48 + nv / 10 ^ 1 % 10))) (t) (cs) ((pre.length + ((own_dg nv).length - 1 - 1))) (G1) (G3) h0 n0 (Nat.le_trans Z0 sz_h) P0_Old P1_Str (O2) (P5) (O4) (rG3) (own_ix ho rfl q1) (own_ixl hcs q1) (hl) (own_atd hcs q1)) hZ (u209 hw) (u2 hw) (by decide) (by decide)) eT (by rw [hml]; rfl) (lenOf own_pd32 rfl) rfl (Nat.le_of_eq rfl) 0 0 rfl rfl (by decide) (by decide) 70 (hb hby D42_67) rfl (gcut N ?_)
                      clear X eT N; clear T; intro T L X eT N
                      refine gifNo X hx 73 (hb hby D42_70) rfl (by decide) ?_
                      refine giconst X hx (1 : Int32) 74 (hb hby D42_73) rfl rfl ?_
                      refine ggoto X hx 78 (hb hby D42_74) (by decide) (by decide) ?_
                      refine gistore X hx #[.val (.ref x), .val (.int off), .val (.int (Int32.ofNat nv)), .val (.int (Int32.ofNat (own_dg nv).length)), .val (.int 1)] 80 (hb hby D42_78) rfl rfl ?_
                      exact g2_ _ _ X eT N
                    · refine gicmpYes X hx 73 (hb hby D42_51) (flt (own_kge 1 q1)).2.1 (by decide) (by decide) ?_
                      refine giconst X hx (1 : Int32) 74 (hb hby D42_73) rfl rfl ?_
                      refine ggoto X hx 78 (hb hby D42_74) (by decide) (by decide) ?_
                      refine gistore X hx #[.val (.ref x), .val (.int off), .val (.int (Int32.ofNat nv)), .val (.int (Int32.ofNat (own_dg nv).length)), .val (.int 1)] 80 (hb hby D42_78) rfl rfl ?_
                      exact g2_ _ _ X eT N
                  · intro g1_
                    refine giload (v := (1 : Int32)) X hx 10 (hb hby D42_8) rfl rfl ?_
                    refine gifNo X hx 13 (hb hby D42_10) rfl (by decide) ?_
                    refine giconst X hx (0 : Int32) 14 (hb hby D42_13) rfl rfl ?_
                    refine giloadN (v := (Int32.ofNat (own_dg nv).length)) X hx 15 (hb hby D42_14) rfl rfl ?_
                    refine gicmpNo X hx 18 (hb hby D42_15) rfl (tlt (own_klt 0 hd0 hle)).2.1 ?_
                    refine galoadN (v := (.ref x)) X hx 19 (hb hby D42_18) rfl rfl rfl ?_
                    refine giloadN (v := off) X hx 20 (hb hby D42_19) rfl rfl ?_
                    refine giloadN (v := (Int32.ofNat (own_dg nv).length)) X hx 21 (hb hby D42_20) rfl rfl ?_
                    refine giadd X hx 22 (hb hby D42_21) rfl ?_
                    refine giconst X hx (1 : Int32) 23 (hb hby D42_22) rfl rfl ?_
                    refine gisub X hx 24 (hb hby D42_23) rfl ?_
                    refine giconst X hx (0 : Int32) 25 (hb hby D42_24) rfl rfl ?_
                    refine gisub X hx 26 (hb hby D42_25) rfl ?_
                    refine giloadN (v := (Int32.ofNat nv)) X hx 27 (hb hby D42_26) rfl rfl ?_
                    refine giconst X hx (0 : Int32) 28 (hb hby D42_27) rfl rfl ?_
                    refine gstatic (y := Y3) (argsL := [(.int (Int32.ofNat nv)), (.int 0)]) (st := [(.int (((off + (Int32.ofNat (own_dg nv).length)) - (1 : Int32)) - (0 : Int32))), (.ref x)]) X hx hZ hown (u229 hw) (u230 hw) (u2 hw) (u231 hw) (by decide) (payP (W := 2) (rmDig l Z a0 hw (nv) ((0 : Int32)) (0) h0 n0 (Nat.le_trans Z0 sz_h) (hnv) (rfl) (by decide)) hZ (u231 hw) (u2 hw) (by decide) (by decide)) eT (by rw [hml]; rfl) (lenOf own_pd31 rfl) rfl (Nat.le_of_eq rfl) 0 0 rfl rfl (by decide) (by decide) 31 (hb hby D42_28) rfl (gcut N ?_)
                    clear X eT N; clear T; intro T L X eT N
                    refine gstatic (y := Y2) (argsL := [(.ref x), (.int (((off + (Int32.ofNat (own_dg nv).length)) - (1 : Int32)) - (0 : Int32))), (.int (Int32.ofNat (48 + nv / 10 ^ 0 % 10)))]) (st := []) X hx hZ hown (u207 hw) (u208 hw) (u2 hw) (u209 hw) (by decide) (payP (W := 0) (rmAt l Z a0 hw (x) ((((off + (Int32.ofNat (own_dg nv).length)) - (1 : Int32)) - (0 : Int32))) ((Int32.ofNat (48 + nv / 10 ^ 0 % 10))) (t) (cs) ((pre.length + ((own_dg nv).length - 1 - 0))) (G1) (G3) h0 n0 (Nat.le_trans Z0 sz_h) P0_Old P1_Str (O2) (P5) (O4) (rG3) (own_ix ho rfl hd0) (own_ixl hcs hd0) (hl) (own_atd hcs hd0)) hZ (u209 hw) (u2 hw) (by decide) (by decide)) eT (by rw [hml]; rfl) (lenOf own_pd32 rfl) rfl (Nat.le_of_eq rfl) 0 0 rfl rfl (by decide) (by decide) 34 (hb hby D42_31) rfl (gcut N ?_)
                    clear X eT N; clear T; intro T L X eT N
                    refine gifNo X hx 37 (hb hby D42_34) rfl (by decide) ?_
                    refine giconst X hx (1 : Int32) 38 (hb hby D42_37) rfl rfl ?_
                    refine ggoto X hx 42 (hb hby D42_38) (by decide) (by decide) ?_
                    refine gistore X hx #[.val (.ref x), .val (.int off), .val (.int (Int32.ofNat nv)), .val (.int (Int32.ofNat (own_dg nv).length)), .val (.int 1)] 44 (hb hby D42_42) rfl rfl ?_
                    exact g1_ _ _ X eT N
theorem rmLH {p : Program} {e : Env} {s : State} {m : MethodId} {args : Array Value} {below : List Frame} {meth : Method} {cc_ : Code} {T : State} {L2 : List Loc} {vm : Vm} {k0 : Nat} (l : Launch) (Z : State) (a0 : Array Value) (hw : HW_ a0 Z) (i0 : Int32) (i1 : Int32) (i2 : Int32) (c0 : Int32) (c1 : Int32) (c2 : Int32) (k : Nat) (xh : Addr) (jc : Int32) (xr : Addr) (tr : Addr) (hs_ : List Int32) (np : Nat) (nd : Nat) (l12 : Int32) (G1 : Int32) (G3 : Value) (o16 : Int32) (h0 hS_ : Heap) (n0 : Nat) (Z0 : n0 ≤ h0.size) (sz_h : h0.size ≤ hS_.size) (K0 : Keep h0 hS_ []) (P0_Old : Old Z n0 hS_) (P1_Str : Str Z hS_ xr tr (own_R hs_ np nd)) (O2 : Sta Z Z.heap "java/lang/String" "COMPACT_STRINGS" "Z" (.int G1)) (P5 : ¬ G1 = (0 : Int32)) (O4 : Sta Z Z.heap "jdk/internal/util/Preconditions" "SIOOBE_FORMATTER" "Ljava/util/function/BiFunction;" G3) (rG3 : G3.isRef = true) (hnp : np < 65536) (hnd : nd < 2147483648) (hh5 : hs_.length ≤ 5) (ho : o16 = Int32.ofNat (8 + hs_.length)) (hx : p.tables.exec = Jvm.exec) (hby : cc_.code = code) (hml : cc_.maxLocals = maxLocals) (hown : vm.findClass x.cls = some m.cls) (hnm : meth.name = x.name) (hret : meth.sig.returnType = ret) (hlk : meth.locks = false) (hZ : Z.Warmed39 vm) (X : Stand p l e room_1 (s.setVm vm) m args below meth cc_ T L2 48 6528) (eT : T.heap = hS_) (hS : s.Since vm k0) (hk : k0 ≤ hS_.size) (N : Fr n0 L2) :
    Go p e below (PL s (fun v h L => v = some (.int 1) ∧ Fr n0 L ∧ Keep h0 h []) room_1.cells room_1.slots) T (mkF m 511 #[.val (.int i0), .val (.int i1), .val (.int i2), .val (.int (Int32.ofNat k)), .val (.int c0), .val (.int c1), .val (.int c2), .val (.ref xh), .val (.int jc), .val (.int (Int32.ofNat np)), .val (.int (Int32.ofNat nd)), .val (.ref xr), .val (.int l12), .val (.int (Int32.ofNat (own_dg np).length)), .val (.int (Int32.ofNat (own_dg nd).length)), .val (.int 1), .val (.int o16)] []) := by
  subst ho
  have hLn := own_resl hs_ np nd
  have hq5 := own_le5 hnp
  have hq10 := own_le10 hnd
  refine giload (v := (1 : Int32)) X hx 513 (hb hby at_511) rfl rfl ?_
  refine gifNo X hx 516 (hb hby at_513) rfl (by decide) ?_
  refine gaload (v := (.ref xr)) X hx 518 (hb hby at_516) rfl rfl rfl ?_
  refine giload (v := (Int32.ofNat (8 + hs_.length))) X hx 520 (hb hby at_518) rfl rfl ?_
  refine gbipush X hx (58 : Int32) 522 (hb hby at_520) rfl rfl ?_
  refine gstatic (y := Y2) (argsL := [(.ref xr), (.int (Int32.ofNat (8 + hs_.length))), (.int 58)]) (st := []) X hx hZ hown (u207 hw) (u208 hw) (u2 hw) (u209 hw) (by decide) (payP (W := 0) (rmAt l Z a0 hw (xr) ((Int32.ofNat (8 + hs_.length))) ((58 : Int32)) (tr) ((own_R hs_ np nd)) ((8 + hs_.length)) (G1) (G3) hS_ n0 (Nat.le_trans Z0 sz_h) P0_Old P1_Str (O2) (P5) (O4) (rG3) (rfl) (by rw [hLn]; omega) ((by rw [hLn]; omega)) (own_get1 hs_ np nd)) hZ (u209 hw) (u2 hw) (by decide) (by decide)) eT (by rw [hml]; rfl) (lenOf own_pd32 rfl) rfl (Nat.le_of_eq rfl) 48 6528 rfl rfl (by decide) (by decide) 525 (hb hby at_522) rfl (gcut N ?_)
  clear X eT N; clear T; intro T L X eT N
  refine gifNo X hx 528 (hb hby at_525) rfl (by decide) ?_
  refine giconst X hx (1 : Int32) 529 (hb hby at_528) rfl rfl ?_
  refine ggoto X hx 533 (hb hby at_529) (by decide) (by decide) ?_
  refine gistore X hx #[.val (.int i0), .val (.int i1), .val (.int i2), .val (.int (Int32.ofNat k)), .val (.int c0), .val (.int c1), .val (.int c2), .val (.ref xh), .val (.int jc), .val (.int (Int32.ofNat np)), .val (.int (Int32.ofNat nd)), .val (.ref xr), .val (.int l12), .val (.int (Int32.ofNat (own_dg np).length)), .val (.int (Int32.ofNat (own_dg nd).length)), .val (.int 1), .val (.int (Int32.ofNat (8 + hs_.length)))] 535 (hb hby at_533) rfl rfl ?_
  refine giload (v := (Int32.ofNat (8 + hs_.length))) X hx 537 (hb hby at_535) rfl rfl ?_
  refine giconst X hx (1 : Int32) 538 (hb hby at_537) rfl rfl ?_
  refine giadd X hx 539 (hb hby at_538) rfl ?_
  refine gistore X hx #[.val (.int i0), .val (.int i1), .val (.int i2), .val (.int (Int32.ofNat k)), .val (.int c0), .val (.int c1), .val (.int c2), .val (.ref xh), .val (.int jc), .val (.int (Int32.ofNat np)), .val (.int (Int32.ofNat nd)), .val (.ref xr), .val (.int l12), .val (.int (Int32.ofNat (own_dg np).length)), .val (.int (Int32.ofNat (own_dg nd).length)), .val (.int 1), .val (.int ((Int32.ofNat (8 + hs_.length)) + (1 : Int32)))] 541 (hb hby at_539) rfl rfl ?_
  rw [show ((Int32.ofNat (8 + hs_.length)) + (1 : Int32)) = (Int32.ofNat (8 + hs_.length + 1)) from (Int32.ofNat_add _ _).symm]
  show Go p e below _ T (mkF m 541 _ [])
  refine giload (v := (1 : Int32)) X hx 543 (hb hby at_541) rfl rfl ?_
  refine gifNo X hx 546 (hb hby at_543) rfl (by decide) ?_
  refine gaload (v := (.ref xr)) X hx 548 (hb hby at_546) rfl rfl rfl ?_
  refine giload (v := (Int32.ofNat (8 + hs_.length + 1))) X hx 550 (hb hby at_548) rfl rfl ?_
  refine giload (v := (Int32.ofNat np)) X hx 552 (hb hby at_550) rfl rfl ?_
  refine gstatic (y := Y6) (argsL := [(.ref xr), (.int (Int32.ofNat (8 + hs_.length + 1))), (.int (Int32.ofNat np))]) (st := []) X hx hZ hown (u226 hw) (u227 hw) (u2 hw) (u228 hw) (by decide) (payP (W := 0) (rmNum l Z a0 hw (xr) ((Int32.ofNat (8 + hs_.length + 1))) (np) (tr) ((own_R hs_ np nd)) ((([114, 101, 100, 105, 115, 58, 47, 47] : List Int32) ++ hs_ ++ ([58] : List Int32))) ((([47] : List Int32) ++ own_dg nd)) (G1) (G3) hS_ n0 (Nat.le_trans Z0 sz_h) P0_Old P1_Str (O2) (P5) (O4) (rG3) (Nat.lt_trans hnp (by decide)) (own_pre1 hs_) (own_asc1 hs_ np nd) ((by rw [hLn]; omega))) hZ (u228 hw) (u2 hw) (by decide) (by decide)) eT (by rw [hml]; rfl) (lenOf own_pd35 rfl) rfl (Nat.le_of_eq rfl) 48 6528 rfl rfl (by decide) (by decide) 555 (hb hby at_552) rfl (gcut N ?_)
  clear X eT N; clear T; intro T L X eT N
  refine gifNo X hx 558 (hb hby at_555) rfl (by decide) ?_
  refine giconst X hx (1 : Int32) 559 (hb hby at_558) rfl rfl ?_
  refine ggoto X hx 563 (hb hby at_559) (by decide) (by decide) ?_
  refine gistore X hx #[.val (.int i0), .val (.int i1), .val (.int i2), .val (.int (Int32.ofNat k)), .val (.int c0), .val (.int c1), .val (.int c2), .val (.ref xh), .val (.int jc), .val (.int (Int32.ofNat np)), .val (.int (Int32.ofNat nd)), .val (.ref xr), .val (.int l12), .val (.int (Int32.ofNat (own_dg np).length)), .val (.int (Int32.ofNat (own_dg nd).length)), .val (.int 1), .val (.int (Int32.ofNat (8 + hs_.length + 1)))] 565 (hb hby at_563) rfl rfl ?_
  refine giload (v := (Int32.ofNat (8 + hs_.length + 1))) X hx 567 (hb hby at_565) rfl rfl ?_
  refine giload (v := (Int32.ofNat (own_dg np).length)) X hx 569 (hb hby at_567) rfl rfl ?_
  refine giadd X hx 570 (hb hby at_569) rfl ?_
  refine gistore X hx #[.val (.int i0), .val (.int i1), .val (.int i2), .val (.int (Int32.ofNat k)), .val (.int c0), .val (.int c1), .val (.int c2), .val (.ref xh), .val (.int jc), .val (.int (Int32.ofNat np)), .val (.int (Int32.ofNat nd)), .val (.ref xr), .val (.int l12), .val (.int (Int32.ofNat (own_dg np).length)), .val (.int (Int32.ofNat (own_dg nd).length)), .val (.int 1), .val (.int ((Int32.ofNat (8 + hs_.length + 1)) + (Int32.ofNat (own_dg np).length)))] 572 (hb hby at_570) rfl rfl ?_
  rw [show ((Int32.ofNat (8 + hs_.length + 1)) + (Int32.ofNat (own_dg np).length)) = (Int32.ofNat (8 + hs_.length + 1 + (own_dg np).length)) from (Int32.ofNat_add _ _).symm]
  show Go p e below _ T (mkF m 572 _ [])
  refine giload (v := (1 : Int32)) X hx 574 (hb hby at_572) rfl rfl ?_
  refine gifNo X hx 577 (hb hby at_574) rfl (by decide) ?_
  refine gaload (v := (.ref xr)) X hx 579 (hb hby at_577) rfl rfl rfl ?_
  refine giload (v := (Int32.ofNat (8 + hs_.length + 1 + (own_dg np).length))) X hx 581 (hb hby at_579) rfl rfl ?_
  refine gbipush X hx (47 : Int32) 583 (hb hby at_581) rfl rfl ?_
  refine gstatic (y := Y2) (argsL := [(.ref xr), (.int (Int32.ofNat (8 + hs_.length + 1 + (own_dg np).length))), (.int 47)]) (st := []) X hx hZ hown (u207 hw) (u208 hw) (u2 hw) (u209 hw) (by decide) (payP (W := 0) (rmAt l Z a0 hw (xr) ((Int32.ofNat (8 + hs_.length + 1 + (own_dg np).length))) ((47 : Int32)) (tr) ((own_R hs_ np nd)) ((8 + hs_.length + 1 + (own_dg np).length)) (G1) (G3) hS_ n0 (Nat.le_trans Z0 sz_h) P0_Old P1_Str (O2) (P5) (O4) (rG3) (rfl) (by rw [hLn]; omega) ((by rw [hLn]; omega)) (own_get2 hs_ np nd)) hZ (u209 hw) (u2 hw) (by decide) (by decide)) eT (by rw [hml]; rfl) (lenOf own_pd32 rfl) rfl (Nat.le_of_eq rfl) 48 6528 rfl rfl (by decide) (by decide) 586 (hb hby at_583) rfl (gcut N ?_)
  clear X eT N; clear T; intro T L X eT N
  refine gifNo X hx 589 (hb hby at_586) rfl (by decide) ?_
  refine giconst X hx (1 : Int32) 590 (hb hby at_589) rfl rfl ?_
  refine ggoto X hx 594 (hb hby at_590) (by decide) (by decide) ?_
  refine gistore X hx #[.val (.int i0), .val (.int i1), .val (.int i2), .val (.int (Int32.ofNat k)), .val (.int c0), .val (.int c1), .val (.int c2), .val (.ref xh), .val (.int jc), .val (.int (Int32.ofNat np)), .val (.int (Int32.ofNat nd)), .val (.ref xr), .val (.int l12), .val (.int (Int32.ofNat (own_dg np).length)), .val (.int (Int32.ofNat (own_dg nd).length)), .val (.int 1), .val (.int (Int32.ofNat (8 + hs_.length + 1 + (own_dg np).length)))] 596 (hb hby at_594) rfl rfl ?_
  refine giload (v := (Int32.ofNat (8 + hs_.length + 1 + (own_dg np).length))) X hx 598 (hb hby at_596) rfl rfl ?_
  refine giconst X hx (1 : Int32) 599 (hb hby at_598) rfl rfl ?_
  refine giadd X hx 600 (hb hby at_599) rfl ?_
  refine gistore X hx #[.val (.int i0), .val (.int i1), .val (.int i2), .val (.int (Int32.ofNat k)), .val (.int c0), .val (.int c1), .val (.int c2), .val (.ref xh), .val (.int jc), .val (.int (Int32.ofNat np)), .val (.int (Int32.ofNat nd)), .val (.ref xr), .val (.int l12), .val (.int (Int32.ofNat (own_dg np).length)), .val (.int (Int32.ofNat (own_dg nd).length)), .val (.int 1), .val (.int ((Int32.ofNat (8 + hs_.length + 1 + (own_dg np).length)) + (1 : Int32)))] 602 (hb hby at_600) rfl rfl ?_
  rw [show ((Int32.ofNat (8 + hs_.length + 1 + (own_dg np).length)) + (1 : Int32)) = (Int32.ofNat (8 + hs_.length + 1 + (own_dg np).length + 1)) from (Int32.ofNat_add _ _).symm]
  show Go p e below _ T (mkF m 602 _ [])
  refine giload (v := (1 : Int32)) X hx 604 (hb hby at_602) rfl rfl ?_
  refine gifNo X hx 607 (hb hby at_604) rfl (by decide) ?_
  refine gaload (v := (.ref xr)) X hx 609 (hb hby at_607) rfl rfl rfl ?_
  refine giload (v := (Int32.ofNat (8 + hs_.length + 1 + (own_dg np).length + 1))) X hx 611 (hb hby at_609) rfl rfl ?_
  refine giload (v := (Int32.ofNat nd)) X hx 613 (hb hby at_611) rfl rfl ?_
  refine gstatic (y := Y6) (argsL := [(.ref xr), (.int (Int32.ofNat (8 + hs_.length + 1 + (own_dg np).length + 1))), (.int (Int32.ofNat nd))]) (st := []) X hx hZ hown (u226 hw) (u227 hw) (u2 hw) (u228 hw) (by decide) (payP (W := 0) (rmNum l Z a0 hw (xr) ((Int32.ofNat (8 + hs_.length + 1 + (own_dg np).length + 1))) (nd) (tr) ((own_R hs_ np nd)) ((([114, 101, 100, 105, 115, 58, 47, 47] : List Int32) ++ hs_ ++ ([58] : List Int32) ++ own_dg np ++ ([47] : List Int32))) (([] : List Int32)) (G1) (G3) hS_ n0 (Nat.le_trans Z0 sz_h) P0_Old P1_Str (O2) (P5) (O4) (rG3) (hnd) (own_pre2 hs_ np) ((List.append_nil _).symm) ((by rw [hLn]; omega))) hZ (u228 hw) (u2 hw) (by decide) (by decide)) eT (by rw [hml]; rfl) (lenOf own_pd35 rfl) rfl (Nat.le_of_eq rfl) 48 6528 rfl rfl (by decide) (by decide) 616 (hb hby at_613) rfl (gcut N ?_)
  clear X eT N; clear T; intro T L X eT N
  refine gifNo X hx 619 (hb hby at_616) rfl (by decide) ?_
  refine giconst X hx (1 : Int32) 620 (hb hby at_619) rfl rfl ?_
  refine ggoto X hx 624 (hb hby at_620) (by decide) (by decide) ?_
  refine gistore X hx #[.val (.int i0), .val (.int i1), .val (.int i2), .val (.int (Int32.ofNat k)), .val (.int c0), .val (.int c1), .val (.int c2), .val (.ref xh), .val (.int jc), .val (.int (Int32.ofNat np)), .val (.int (Int32.ofNat nd)), .val (.ref xr), .val (.int l12), .val (.int (Int32.ofNat (own_dg np).length)), .val (.int (Int32.ofNat (own_dg nd).length)), .val (.int 1), .val (.int (Int32.ofNat (8 + hs_.length + 1 + (own_dg np).length + 1)))] 626 (hb hby at_624) rfl rfl ?_
  refine giload (v := (1 : Int32)) X hx 628 (hb hby at_626) rfl rfl ?_
  exact gRetL X hx hlk hret rfl (Or.inl ⟨rfl, by simp, _, rfl⟩) (hb hby at_628) eT hS hk (by decide) (by decide) ⟨rfl, N, K0⟩
theorem rmLG {p : Program} {e : Env} {s : State} {m : MethodId} {args : Array Value} {below : List Frame} {meth : Method} {cc_ : Code} {T : State} {L2 : List Loc} {vm : Vm} {k0 : Nat} (l : Launch) (Z : State) (a0 : Array Value) (hw : HW_ a0 Z) (i0 : Int32) (i1 : Int32) (i2 : Int32) (c0 : Int32) (c1 : Int32) (c2 : Int32) (k : Nat) (xh : Addr) (jc : Int32) (xr : Addr) (tr : Addr) (hs_ : List Int32) (np : Nat) (nd : Nat) (l12 : Int32) (G1 : Int32) (G3 : Value) (ob : Nat) (h0 hS_ : Heap) (n0 : Nat) (Z0 : n0 ≤ h0.size) (sz_h : h0.size ≤ hS_.size) (K0 : Keep h0 hS_ []) (P0_Old : Old Z n0 hS_) (P1_Str : Str Z hS_ xr tr (own_R hs_ np nd)) (O2 : Sta Z Z.heap "java/lang/String" "COMPACT_STRINGS" "Z" (.int G1)) (P5 : ¬ G1 = (0 : Int32)) (O4 : Sta Z Z.heap "jdk/internal/util/Preconditions" "SIOOBE_FORMATTER" "Ljava/util/function/BiFunction;" G3) (rG3 : G3.isRef = true) (hk3 : k ≤ 3) (hnp : np < 65536) (hnd : nd < 2147483648) (hob : ob + k + 2 ≤ 15) (hgc : ∀ i, i < k → (own_R hs_ np nd).getD (ob + i) 0 = ([c0, c1, c2] : List Int32).getD i 0) (hgb : (jc = 1 ∧ ob + k + 1 = 8 + hs_.length ∧ (own_R hs_ np nd).getD (ob + k) 0 = 93) ∨ (jc = 0 ∧ ob + k = 8 + hs_.length)) (hh5 : hs_.length ≤ 5) (hx : p.tables.exec = Jvm.exec) (hby : cc_.code = code) (hml : cc_.maxLocals = maxLocals) (hown : vm.findClass x.cls = some m.cls) (hnm : meth.name = x.name) (hret : meth.sig.returnType = ret) (hlk : meth.locks = false) (hZ : Z.Warmed39 vm) (X : Stand p l e room_1 (s.setVm vm) m args below meth cc_ T L2 48 6528) (eT : T.heap = hS_) (hS : s.Since vm k0) (hk : k0 ≤ hS_.size) (N : Fr n0 L2) :
    Go p e below (PL s (fun v h L => v = some (.int 1) ∧ Fr n0 L ∧ Keep h0 h []) room_1.cells room_1.slots) T (mkF m 379 #[.val (.int i0), .val (.int i1), .val (.int i2), .val (.int (Int32.ofNat k)), .val (.int c0), .val (.int c1), .val (.int c2), .val (.ref xh), .val (.int jc), .val (.int (Int32.ofNat np)), .val (.int (Int32.ofNat nd)), .val (.ref xr), .val (.int l12), .val (.int (Int32.ofNat (own_dg np).length)), .val (.int (Int32.ofNat (own_dg nd).length)), .val (.int 1), .val (.int (Int32.ofNat ob))] []) := by
  have hLn := own_resl hs_ np nd
  have hq5 := own_le5 hnp
  have hq10 := own_le10 hnd
  refine own_two (A := ∀ (L : List Loc) (T : State), Stand p l e room_1 (s.setVm vm) m args below meth cc_ T L 48 6528 → T.heap = hS_ → Fr n0 L → Go p e below (PL s (fun v h L => v = some (.int 1) ∧ Fr n0 L ∧ Keep h0 h []) room_1.cells room_1.slots) T (mkF m 470 #[.val (.int i0), .val (.int i1), .val (.int i2), .val (.int (Int32.ofNat k)), .val (.int c0), .val (.int c1), .val (.int c2), .val (.ref xh), .val (.int jc), .val (.int (Int32.ofNat np)), .val (.int (Int32.ofNat nd)), .val (.ref xr), .val (.int l12), .val (.int (Int32.ofNat (own_dg np).length)), .val (.int (Int32.ofNat (own_dg nd).length)), .val (.int 1), .val (.int (Int32.ofNat ob))] [])) ?_ ?_
  · clear X eT N; clear T; intro L T X eT N
    refine giload (v := (Int32.ofNat ob)) X hx 472 (hb hby at_470) rfl rfl ?_
    refine giloadN (v := (Int32.ofNat k)) X hx 473 (hb hby at_472) rfl rfl ?_
    refine giadd X hx 474 (hb hby at_473) rfl ?_
    refine gistore X hx #[.val (.int i0), .val (.int i1), .val (.int i2), .val (.int (Int32.ofNat k)), .val (.int c0), .val (.int c1), .val (.int c2), .val (.ref xh), .val (.int jc), .val (.int (Int32.ofNat np)), .val (.int (Int32.ofNat nd)), .val (.ref xr), .val (.int l12), .val (.int (Int32.ofNat (own_dg np).length)), .val (.int (Int32.ofNat (own_dg nd).length)), .val (.int 1), .val (.int ((Int32.ofNat ob) + (Int32.ofNat k)))] 476 (hb hby at_474) rfl rfl ?_
    rw [show (Int32.ofNat ob + Int32.ofNat k) = Int32.ofNat (ob + k) from (Int32.ofNat_add _ _).symm]
    have hgb' := hgb
    rcases hgb' with ⟨rfl, q1, q2⟩ | ⟨rfl, q1⟩
    · refine giload (v := (1 : Int32)) X hx 478 (hb hby at_476) rfl rfl ?_
      refine gifNo X hx 481 (hb hby at_478) rfl (by decide) ?_
      refine giload (v := (1 : Int32)) X hx 483 (hb hby at_481) rfl rfl ?_
      refine gifNo X hx 486 (hb hby at_483) rfl (by decide) ?_
      refine gaload (v := (.ref xr)) X hx 488 (hb hby at_486) rfl rfl rfl ?_
      refine giload (v := (Int32.ofNat (ob + k))) X hx 490 (hb hby at_488) rfl rfl ?_
      refine gbipush X hx (93 : Int32) 492 (hb hby at_490) rfl rfl ?_
      refine gstatic (y := Y2) (argsL := [(.ref xr), (.int (Int32.ofNat (ob + k))), (.int 93)]) (st := []) X hx hZ hown (u207 hw) (u208 hw) (u2 hw) (u209 hw) (by decide) (payP (W := 0) (rmAt l Z a0 hw (xr) ((Int32.ofNat (ob + k))) ((93 : Int32)) (tr) ((own_R hs_ np nd)) ((ob + k)) (G1) (G3) hS_ n0 (Nat.le_trans Z0 sz_h) P0_Old P1_Str (O2) (P5) (O4) (rG3) (rfl) (by rw [hLn]; omega) (by rw [hLn]; omega) (q2)) hZ (u209 hw) (u2 hw) (by decide) (by decide)) eT (by rw [hml]; rfl) (lenOf own_pd32 rfl) rfl (Nat.le_of_eq rfl) 48 6528 rfl rfl (by decide) (by decide) 495 (hb hby at_492) rfl (gcut N ?_)
      clear X eT N; clear T; intro T L X eT N
      refine gifNo X hx 498 (hb hby at_495) rfl (by decide) ?_
      refine giconst X hx (1 : Int32) 499 (hb hby at_498) rfl rfl ?_
      refine ggoto X hx 503 (hb hby at_499) (by decide) (by decide) ?_
      refine gistore X hx #[.val (.int i0), .val (.int i1), .val (.int i2), .val (.int (Int32.ofNat k)), .val (.int c0), .val (.int c1), .val (.int c2), .val (.ref xh), .val (.int 1), .val (.int (Int32.ofNat np)), .val (.int (Int32.ofNat nd)), .val (.ref xr), .val (.int l12), .val (.int (Int32.ofNat (own_dg np).length)), .val (.int (Int32.ofNat (own_dg nd).length)), .val (.int 1), .val (.int (Int32.ofNat (ob + k)))] 505 (hb hby at_503) rfl rfl ?_
      refine giload (v := (Int32.ofNat (ob + k))) X hx 507 (hb hby at_505) rfl rfl ?_
      refine giconst X hx (1 : Int32) 508 (hb hby at_507) rfl rfl ?_
      refine giadd X hx 509 (hb hby at_508) rfl ?_
      refine gistore X hx #[.val (.int i0), .val (.int i1), .val (.int i2), .val (.int (Int32.ofNat k)), .val (.int c0), .val (.int c1), .val (.int c2), .val (.ref xh), .val (.int 1), .val (.int (Int32.ofNat np)), .val (.int (Int32.ofNat nd)), .val (.ref xr), .val (.int l12), .val (.int (Int32.ofNat (own_dg np).length)), .val (.int (Int32.ofNat (own_dg nd).length)), .val (.int 1), .val (.int ((Int32.ofNat (ob + k)) + (1 : Int32)))] 511 (hb hby at_509) rfl rfl ?_
      exact rmLH l Z a0 hw (i0) (i1) (i2) (c0) (c1) (c2) (k) (xh) (1) (xr) (tr) (hs_) (np) (nd) (l12) (G1) (G3) (((Int32.ofNat (ob + k)) + (1 : Int32))) h0 hS_ n0 Z0 sz_h K0 P0_Old P1_Str (O2) (P5) (O4) (rG3) (hnp) (hnd) (hh5) ((Int32.ofNat_add _ 1).symm.trans (congrArg Int32.ofNat q1)) hx hby hml hown hnm hret hlk hZ (standUp X (by decide) (by decide)) eT hS hk N
    · refine giload (v := (0 : Int32)) X hx 478 (hb hby at_476) rfl rfl ?_
      refine gifYes X hx 511 (hb hby at_478) (by decide) (by decide) (by decide) ?_
      exact rmLH l Z a0 hw (i0) (i1) (i2) (c0) (c1) (c2) (k) (xh) (0) (xr) (tr) (hs_) (np) (nd) (l12) (G1) (G3) ((Int32.ofNat (ob + k))) h0 hS_ n0 Z0 sz_h K0 P0_Old P1_Str (O2) (P5) (O4) (rG3) (hnp) (hnd) (hh5) (congrArg Int32.ofNat q1) hx hby hml hown hnm hret hlk hZ (standUp X (by decide) (by decide)) eT hS hk N
  · intro g3_
    refine own_two (A := ∀ (L : List Loc) (T : State), Stand p l e room_1 (s.setVm vm) m args below meth cc_ T L 48 6528 → T.heap = hS_ → Fr n0 L → Go p e below (PL s (fun v h L => v = some (.int 1) ∧ Fr n0 L ∧ Keep h0 h []) room_1.cells room_1.slots) T (mkF m 439 #[.val (.int i0), .val (.int i1), .val (.int i2), .val (.int (Int32.ofNat k)), .val (.int c0), .val (.int c1), .val (.int c2), .val (.ref xh), .val (.int jc), .val (.int (Int32.ofNat np)), .val (.int (Int32.ofNat nd)), .val (.ref xr), .val (.int l12), .val (.int (Int32.ofNat (own_dg np).length)), .val (.int (Int32.ofNat (own_dg nd).length)), .val (.int 1), .val (.int (Int32.ofNat ob))] [])) ?_ ?_
    · clear X eT N; clear T; intro L T X eT N
      refine giload (v := (1 : Int32)) X hx 441 (hb hby at_439) rfl rfl ?_
      refine gifNo X hx 444 (hb hby at_441) rfl (by decide) ?_
      refine giloadN (v := (Int32.ofNat k)) X hx 445 (hb hby at_444) rfl rfl ?_
      refine giconst X hx (3 : Int32) 446 (hb hby at_445) rfl rfl ?_
      rcases Nat.lt_or_ge k 3 with q2 | q2
      · refine gicmpYes X hx 463 (hb hby at_446) (tlt (own_plt 3 (by decide) q2)).1 (by decide) (by decide) ?_
        refine giconst X hx (1 : Int32) 464 (hb hby at_463) rfl rfl ?_
        refine ggoto X hx 468 (hb hby at_464) (by decide) (by decide) ?_
        refine gistore X hx #[.val (.int i0), .val (.int i1), .val (.int i2), .val (.int (Int32.ofNat k)), .val (.int c0), .val (.int c1), .val (.int c2), .val (.ref xh), .val (.int jc), .val (.int (Int32.ofNat np)), .val (.int (Int32.ofNat nd)), .val (.ref xr), .val (.int l12), .val (.int (Int32.ofNat (own_dg np).length)), .val (.int (Int32.ofNat (own_dg nd).length)), .val (.int 1), .val (.int (Int32.ofNat ob))] 470 (hb hby at_468) rfl rfl ?_
        exact g3_ _ _ X eT N
      · refine gicmpNo X hx 449 (hb hby at_446) rfl (flt (own_pge 3 (by omega) q2)).1 ?_
        refine gaload (v := (.ref xr)) X hx 451 (hb hby at_449) rfl rfl rfl ?_
        refine giload (v := (Int32.ofNat ob)) X hx 453 (hb hby at_451) rfl rfl ?_
        refine giconst X hx (2 : Int32) 454 (hb hby at_453) rfl rfl ?_
        refine giadd X hx 455 (hb hby at_454) rfl ?_
        refine giload (v := c2) X hx 457 (hb hby at_455) rfl rfl ?_
        rw [show (Int32.ofNat ob + (2 : Int32)) = Int32.ofNat (ob + 2) from (Int32.ofNat_add _ _).symm]
        refine gstatic (y := Y2) (argsL := [(.ref xr), (.int (Int32.ofNat (ob + 2))), (.int c2)]) (st := []) X hx hZ hown (u207 hw) (u208 hw) (u2 hw) (u209 hw) (by decide) (payP (W := 0) (rmAt l Z a0 hw (xr) ((Int32.ofNat (ob + 2))) (c2) (tr) ((own_R hs_ np nd)) ((ob + 2)) (G1) (G3) hS_ n0 (Nat.le_trans Z0 sz_h) P0_Old P1_Str (O2) (P5) (O4) (rG3) (rfl) (by rw [hLn]; rcases hgb with q | q <;> omega) (by rw [hLn]; rcases hgb with q | q <;> omega) (hgc 2 q2)) hZ (u209 hw) (u2 hw) (by decide) (by decide)) eT (by rw [hml]; rfl) (lenOf own_pd32 rfl) rfl (Nat.le_of_eq rfl) 48 6528 rfl rfl (by decide) (by decide) 460 (hb hby at_457) rfl (gcut N ?_)
        clear X eT N; clear T; intro T L X eT N
        refine gifNo X hx 463 (hb hby at_460) rfl (by decide) ?_
        refine giconst X hx (1 : Int32) 464 (hb hby at_463) rfl rfl ?_
        refine ggoto X hx 468 (hb hby at_464) (by decide) (by decide) ?_
        refine gistore X hx #[.val (.int i0), .val (.int i1), .val (.int i2), .val (.int (Int32.ofNat k)), .val (.int c0), .val (.int c1), .val (.int c2), .val (.ref xh), .val (.int jc), .val (.int (Int32.ofNat np)), .val (.int (Int32.ofNat nd)), .val (.ref xr), .val (.int l12), .val (.int (Int32.ofNat (own_dg np).length)), .val (.int (Int32.ofNat (own_dg nd).length)), .val (.int 1), .val (.int (Int32.ofNat ob))] 470 (hb hby at_468) rfl rfl ?_
        exact g3_ _ _ X eT N
    · intro g2_
      refine own_two (A := ∀ (L : List Loc) (T : State), Stand p l e room_1 (s.setVm vm) m args below meth cc_ T L 48 6528 → T.heap = hS_ → Fr n0 L → Go p e below (PL s (fun v h L => v = some (.int 1) ∧ Fr n0 L ∧ Keep h0 h []) room_1.cells room_1.slots) T (mkF m 408 #[.val (.int i0), .val (.int i1), .val (.int i2), .val (.int (Int32.ofNat k)), .val (.int c0), .val (.int c1), .val (.int c2), .val (.ref xh), .val (.int jc), .val (.int (Int32.ofNat np)), .val (.int (Int32.ofNat nd)), .val (.ref xr), .val (.int l12), .val (.int (Int32.ofNat (own_dg np).length)), .val (.int (Int32.ofNat (own_dg nd).length)), .val (.int 1), .val (.int (Int32.ofNat ob))] [])) ?_ ?_
      · clear X eT N; clear T; intro L T X eT N
        refine giload (v := (1 : Int32)) X hx 410 (hb hby at_408) rfl rfl ?_
        refine gifNo X hx 413 (hb hby at_410) rfl (by decide) ?_
        refine giloadN (v := (Int32.ofNat k)) X hx 414 (hb hby at_413) rfl rfl ?_
        refine giconst X hx (2 : Int32) 415 (hb hby at_414) rfl rfl ?_
        rcases Nat.lt_or_ge k 2 with q1 | q1
        · refine gicmpYes X hx 432 (hb hby at_415) (tlt (own_plt 2 (by decide) q1)).1 (by decide) (by decide) ?_
          refine giconst X hx (1 : Int32) 433 (hb hby at_432) rfl rfl ?_
          refine ggoto X hx 437 (hb hby at_433) (by decide) (by decide) ?_
          refine gistore X hx #[.val (.int i0), .val (.int i1), .val (.int i2), .val (.int (Int32.ofNat k)), .val (.int c0), .val (.int c1), .val (.int c2), .val (.ref xh), .val (.int jc), .val (.int (Int32.ofNat np)), .val (.int (Int32.ofNat nd)), .val (.ref xr), .val (.int l12), .val (.int (Int32.ofNat (own_dg np).length)), .val (.int (Int32.ofNat (own_dg nd).length)), .val (.int 1), .val (.int (Int32.ofNat ob))] 439 (hb hby at_437) rfl rfl ?_
          exact g2_ _ _ X eT N
        · refine gicmpNo X hx 418 (hb hby at_415) rfl (flt (own_pge 2 (by omega) q1)).1 ?_
          refine gaload (v := (.ref xr)) X hx 420 (hb hby at_418) rfl rfl rfl ?_
          refine giload (v := (Int32.ofNat ob)) X hx 422 (hb hby at_420) rfl rfl ?_
          refine giconst X hx (1 : Int32) 423 (hb hby at_422) rfl rfl ?_
          refine giadd X hx 424 (hb hby at_423) rfl ?_
          refine giload (v := c1) X hx 426 (hb hby at_424) rfl rfl ?_
          rw [show (Int32.ofNat ob + (1 : Int32)) = Int32.ofNat (ob + 1) from (Int32.ofNat_add _ _).symm]
          refine gstatic (y := Y2) (argsL := [(.ref xr), (.int (Int32.ofNat (ob + 1))), (.int c1)]) (st := []) X hx hZ hown (u207 hw) (u208 hw) (u2 hw) (u209 hw) (by decide) (payP (W := 0) (rmAt l Z a0 hw (xr) ((Int32.ofNat (ob + 1))) (c1) (tr) ((own_R hs_ np nd)) ((ob + 1)) (G1) (G3) hS_ n0 (Nat.le_trans Z0 sz_h) P0_Old P1_Str (O2) (P5) (O4) (rG3) (rfl) (by rw [hLn]; rcases hgb with q | q <;> omega) (by rw [hLn]; rcases hgb with q | q <;> omega) (hgc 1 q1)) hZ (u209 hw) (u2 hw) (by decide) (by decide)) eT (by rw [hml]; rfl) (lenOf own_pd32 rfl) rfl (Nat.le_of_eq rfl) 48 6528 rfl rfl (by decide) (by decide) 429 (hb hby at_426) rfl (gcut N ?_)
          clear X eT N; clear T; intro T L X eT N
          refine gifNo X hx 432 (hb hby at_429) rfl (by decide) ?_
          refine giconst X hx (1 : Int32) 433 (hb hby at_432) rfl rfl ?_
          refine ggoto X hx 437 (hb hby at_433) (by decide) (by decide) ?_
          refine gistore X hx #[.val (.int i0), .val (.int i1), .val (.int i2), .val (.int (Int32.ofNat k)), .val (.int c0), .val (.int c1), .val (.int c2), .val (.ref xh), .val (.int jc), .val (.int (Int32.ofNat np)), .val (.int (Int32.ofNat nd)), .val (.ref xr), .val (.int l12), .val (.int (Int32.ofNat (own_dg np).length)), .val (.int (Int32.ofNat (own_dg nd).length)), .val (.int 1), .val (.int (Int32.ofNat ob))] 439 (hb hby at_437) rfl rfl ?_
          exact g2_ _ _ X eT N
      · intro g1_
        refine giload (v := (1 : Int32)) X hx 381 (hb hby at_379) rfl rfl ?_
        refine gifNo X hx 384 (hb hby at_381) rfl (by decide) ?_
        refine giloadN (v := (Int32.ofNat k)) X hx 385 (hb hby at_384) rfl rfl ?_
        refine giconst X hx (1 : Int32) 386 (hb hby at_385) rfl rfl ?_
        rcases Nat.lt_or_ge k 1 with q0 | q0
        · refine gicmpYes X hx 401 (hb hby at_386) (tlt (own_plt 1 (by decide) q0)).1 (by decide) (by decide) ?_
          refine giconst X hx (1 : Int32) 402 (hb hby at_401) rfl rfl ?_
          refine ggoto X hx 406 (hb hby at_402) (by decide) (by decide) ?_
          refine gistore X hx #[.val (.int i0), .val (.int i1), .val (.int i2), .val (.int (Int32.ofNat k)), .val (.int c0), .val (.int c1), .val (.int c2), .val (.ref xh), .val (.int jc), .val (.int (Int32.ofNat np)), .val (.int (Int32.ofNat nd)), .val (.ref xr), .val (.int l12), .val (.int (Int32.ofNat (own_dg np).length)), .val (.int (Int32.ofNat (own_dg nd).length)), .val (.int 1), .val (.int (Int32.ofNat ob))] 408 (hb hby at_406) rfl rfl ?_
          exact g1_ _ _ X eT N
        · refine gicmpNo X hx 389 (hb hby at_386) rfl (flt (own_pge 1 (by omega) q0)).1 ?_
          refine gaload (v := (.ref xr)) X hx 391 (hb hby at_389) rfl rfl rfl ?_
          refine giload (v := (Int32.ofNat ob)) X hx 393 (hb hby at_391) rfl rfl ?_
          refine giload (v := c0) X hx 395 (hb hby at_393) rfl rfl ?_
          refine gstatic (y := Y2) (argsL := [(.ref xr), (.int (Int32.ofNat ob)), (.int c0)]) (st := []) X hx hZ hown (u207 hw) (u208 hw) (u2 hw) (u209 hw) (by decide) (payP (W := 0) (rmAt l Z a0 hw (xr) ((Int32.ofNat ob)) (c0) (tr) ((own_R hs_ np nd)) ((ob + 0)) (G1) (G3) hS_ n0 (Nat.le_trans Z0 sz_h) P0_Old P1_Str (O2) (P5) (O4) (rG3) (rfl) (by rw [hLn]; rcases hgb with q | q <;> omega) (by rw [hLn]; rcases hgb with q | q <;> omega) (hgc 0 q0)) hZ (u209 hw) (u2 hw) (by decide) (by decide)) eT (by rw [hml]; rfl) (lenOf own_pd32 rfl) rfl (Nat.le_of_eq rfl) 48 6528 rfl rfl (by decide) (by decide) 398 (hb hby at_395) rfl (gcut N ?_)
          clear X eT N; clear T; intro T L X eT N
          refine gifNo X hx 401 (hb hby at_398) rfl (by decide) ?_
          refine giconst X hx (1 : Int32) 402 (hb hby at_401) rfl rfl ?_
          refine ggoto X hx 406 (hb hby at_402) (by decide) (by decide) ?_
          refine gistore X hx #[.val (.int i0), .val (.int i1), .val (.int i2), .val (.int (Int32.ofNat k)), .val (.int c0), .val (.int c1), .val (.int c2), .val (.ref xh), .val (.int jc), .val (.int (Int32.ofNat np)), .val (.int (Int32.ofNat nd)), .val (.ref xr), .val (.int l12), .val (.int (Int32.ofNat (own_dg np).length)), .val (.int (Int32.ofNat (own_dg nd).length)), .val (.int 1), .val (.int (Int32.ofNat ob))] 408 (hb hby at_406) rfl rfl ?_
          exact g1_ _ _ X eT N
theorem rmLB {p : Program} {e : Env} {s : State} {m : MethodId} {args : Array Value} {below : List Frame} {meth : Method} {cc_ : Code} {T : State} {L2 : List Loc} {vm : Vm} {k0 : Nat} (l : Launch) (Z : State) (a0 : Array Value) (hw : HW_ a0 Z) (i0 : Int32) (i1 : Int32) (i2 : Int32) (c0 : Int32) (c1 : Int32) (c2 : Int32) (k : Nat) (xh : Addr) (jc : Int32) (xr : Addr) (tr : Addr) (hs_ : List Int32) (np : Nat) (nd : Nat) (l12 : Int32) (G1 : Int32) (G3 : Value) (h0 hS_ : Heap) (n0 : Nat) (Z0 : n0 ≤ h0.size) (sz_h : h0.size ≤ hS_.size) (K0 : Keep h0 hS_ []) (P0_Old : Old Z n0 hS_) (P1_Str : Str Z hS_ xr tr (own_R hs_ np nd)) (O2 : Sta Z Z.heap "java/lang/String" "COMPACT_STRINGS" "Z" (.int G1)) (P5 : ¬ G1 = (0 : Int32)) (O4 : Sta Z Z.heap "jdk/internal/util/Preconditions" "SIOOBE_FORMATTER" "Ljava/util/function/BiFunction;" G3) (rG3 : G3.isRef = true) (hk3 : k ≤ 3) (r0 : ¬ c0 < 0 ∧ ¬ (255 : Int32) < c0) (r1 : ¬ c1 < 0 ∧ ¬ (255 : Int32) < c1) (r2 : ¬ c2 < 0 ∧ ¬ (255 : Int32) < c2) (hj : (jc = 1 ∧ (58 : Int32) ∈ (([c0, c1, c2] : List Int32).take k)) ∨ (jc = 0 ∧ ¬ (58 : Int32) ∈ (([c0, c1, c2] : List Int32).take k))) (hnp : np < 65536) (hnd : nd < 2147483648) (hhh : hs_ = own_host (([c0, c1, c2] : List Int32).take k)) (hx : p.tables.exec = Jvm.exec) (hby : cc_.code = code) (hml : cc_.maxLocals = maxLocals) (hown : vm.findClass x.cls = some m.cls) (hnm : meth.name = x.name) (hret : meth.sig.returnType = ret) (hlk : meth.locks = false) (hZ : Z.Warmed39 vm) (X : Stand p l e room_1 (s.setVm vm) m args below meth cc_ T L2 48 6528) (eT : T.heap = hS_) (hS : s.Since vm k0) (hk : k0 ≤ hS_.size) (N : Fr n0 L2) :
    Go p e below (PL s (fun v h L => v = some (.int 1) ∧ Fr n0 L ∧ Keep h0 h []) room_1.cells room_1.slots) T (mkF m 344 #[.val (.int i0), .val (.int i1), .val (.int i2), .val (.int (Int32.ofNat k)), .val (.int c0), .val (.int c1), .val (.int c2), .val (.ref xh), .val (.int jc), .val (.int (Int32.ofNat np)), .val (.int (Int32.ofNat nd)), .val (.ref xr), .val (.int l12), .val (.int (Int32.ofNat (own_dg np).length)), .val (.int (Int32.ofNat (own_dg nd).length)), .val (.int 1), .val (.int 8)] []) := by
  have hLn := own_resl hs_ np nd
  have hq5 := own_le5 hnp
  have hq10 := own_le10 hnd
  have hq3 : hs_.length ≤ 5 := by rw [hhh]; exact own_hostL hk3
  rcases hj with ⟨rfl, hm⟩ | ⟨rfl, hm⟩
  · rw [own_host, if_pos hm] at hhh
    subst hhh
    have hkk := own_tke (c0 := c0) (c1 := c1) (c2 := c2) hk3
    refine giload (v := (1 : Int32)) X hx 346 (hb hby at_344) rfl rfl ?_
    refine gifNo X hx 349 (hb hby at_346) rfl (by decide) ?_
    refine giload (v := (1 : Int32)) X hx 351 (hb hby at_349) rfl rfl ?_
    refine gifNo X hx 354 (hb hby at_351) rfl (by decide) ?_
    refine gaload (v := (.ref xr)) X hx 356 (hb hby at_354) rfl rfl rfl ?_
    refine giload (v := (8 : Int32)) X hx 358 (hb hby at_356) rfl rfl ?_
    refine gbipush X hx (91 : Int32) 360 (hb hby at_358) rfl rfl ?_
    refine gstatic (y := Y2) (argsL := [(.ref xr), (.int 8), (.int 91)]) (st := []) X hx hZ hown (u207 hw) (u208 hw) (u2 hw) (u209 hw) (by decide) (payP (W := 0) (rmAt l Z a0 hw (xr) ((8 : Int32)) ((91 : Int32)) (tr) ((own_R ([91] ++ (([c0, c1, c2] : List Int32).take k) ++ [93]) np nd)) (8) (G1) (G3) hS_ n0 (Nat.le_trans Z0 sz_h) P0_Old P1_Str (O2) (P5) (O4) (rG3) (rfl) (by rw [hLn]; omega) (by rw [hLn]; omega) (rfl)) hZ (u209 hw) (u2 hw) (by decide) (by decide)) eT (by rw [hml]; rfl) (lenOf own_pd32 rfl) rfl (Nat.le_of_eq rfl) 48 6528 rfl rfl (by decide) (by decide) 363 (hb hby at_360) rfl (gcut N ?_)
    clear X eT N; clear T; intro T L X eT N
    refine gifNo X hx 366 (hb hby at_363) rfl (by decide) ?_
    refine giconst X hx (1 : Int32) 367 (hb hby at_366) rfl rfl ?_
    refine ggoto X hx 371 (hb hby at_367) (by decide) (by decide) ?_
    refine gistore X hx #[.val (.int i0), .val (.int i1), .val (.int i2), .val (.int (Int32.ofNat k)), .val (.int c0), .val (.int c1), .val (.int c2), .val (.ref xh), .val (.int 1), .val (.int (Int32.ofNat np)), .val (.int (Int32.ofNat nd)), .val (.ref xr), .val (.int l12), .val (.int (Int32.ofNat (own_dg np).length)), .val (.int (Int32.ofNat (own_dg nd).length)), .val (.int 1), .val (.int 8)] 373 (hb hby at_371) rfl rfl ?_
    refine giload (v := (8 : Int32)) X hx 375 (hb hby at_373) rfl rfl ?_
    refine giconst X hx (1 : Int32) 376 (hb hby at_375) rfl rfl ?_
    refine giadd X hx 377 (hb hby at_376) rfl ?_
    rw [show ((8 : Int32) + (1 : Int32)) = (9 : Int32) from by decide]
    refine gistore X hx #[.val (.int i0), .val (.int i1), .val (.int i2), .val (.int (Int32.ofNat k)), .val (.int c0), .val (.int c1), .val (.int c2), .val (.ref xh), .val (.int 1), .val (.int (Int32.ofNat np)), .val (.int (Int32.ofNat nd)), .val (.ref xr), .val (.int l12), .val (.int (Int32.ofNat (own_dg np).length)), .val (.int (Int32.ofNat (own_dg nd).length)), .val (.int 1), .val (.int 9)] 379 (hb hby at_377) rfl rfl ?_
    exact rmLG l Z a0 hw (i0) (i1) (i2) (c0) (c1) (c2) (k) (xh) (1) (xr) (tr) (([91] ++ (([c0, c1, c2] : List Int32).take k) ++ [93])) (np) (nd) (l12) (G1) (G3) (9) h0 hS_ n0 Z0 sz_h K0 P0_Old P1_Str (O2) (P5) (O4) (rG3) (hk3) (hnp) (hnd) (by omega) (own_gc1 hk3) (Or.inl ⟨rfl, own_gb hk3, own_gb1 hk3⟩) (hq3) hx hby hml hown hnm hret hlk hZ (standUp X (by decide) (by decide)) eT hS hk N
  · rw [own_host, if_neg hm] at hhh
    subst hhh
    have hkk := own_tke (c0 := c0) (c1 := c1) (c2 := c2) hk3
    refine giload (v := (0 : Int32)) X hx 346 (hb hby at_344) rfl rfl ?_
    refine gifYes X hx 379 (hb hby at_346) (by decide) (by decide) (by decide) ?_
    exact rmLG l Z a0 hw (i0) (i1) (i2) (c0) (c1) (c2) (k) (xh) (0) (xr) (tr) ((([c0, c1, c2] : List Int32).take k)) (np) (nd) (l12) (G1) (G3) (8) h0 hS_ n0 Z0 sz_h K0 P0_Old P1_Str (O2) (P5) (O4) (rG3) (hk3) (hnp) (hnd) (by omega) (own_gc0 hk3) (Or.inr ⟨rfl, own_gb0 hk3⟩) (hq3) hx hby hml hown hnm hret hlk hZ (standUp X (by decide) (by decide)) eT hS hk N
theorem rmLF {p : Program} {e : Env} {s : State} {m : MethodId} {args : Array Value} {below : List Frame} {meth : Method} {cc_ : Code} {T : State} {L2 : List Loc} {vm : Vm} {k0 : Nat} (l : Launch) (Z : State) (a0 : Array Value) (hw : HW_ a0 Z) (i0 : Int32) (i1 : Int32) (i2 : Int32) (c0 : Int32) (c1 : Int32) (c2 : Int32) (k : Nat) (xh : Addr) (jc : Int32) (xr : Addr) (tr : Addr) (hs_ : List Int32) (np : Nat) (nd : Nat) (l12 : Int32) (G1 : Int32) (G3 : Value) (h0 hS_ : Heap) (n0 : Nat) (Z0 : n0 ≤ h0.size) (sz_h : h0.size ≤ hS_.size) (K0 : Keep h0 hS_ []) (P0_Old : Old Z n0 hS_) (P1_Str : Str Z hS_ xr tr (own_R hs_ np nd)) (O2 : Sta Z Z.heap "java/lang/String" "COMPACT_STRINGS" "Z" (.int G1)) (P5 : ¬ G1 = (0 : Int32)) (O4 : Sta Z Z.heap "jdk/internal/util/Preconditions" "SIOOBE_FORMATTER" "Ljava/util/function/BiFunction;" G3) (rG3 : G3.isRef = true) (hk3 : k ≤ 3) (r0 : ¬ c0 < 0 ∧ ¬ (255 : Int32) < c0) (r1 : ¬ c1 < 0 ∧ ¬ (255 : Int32) < c1) (r2 : ¬ c2 < 0 ∧ ¬ (255 : Int32) < c2) (hj : (jc = 1 ∧ (58 : Int32) ∈ (([c0, c1, c2] : List Int32).take k)) ∨ (jc = 0 ∧ ¬ (58 : Int32) ∈ (([c0, c1, c2] : List Int32).take k))) (hnp : np < 65536) (hnd : nd < 2147483648) (hhh : hs_ = own_host (([c0, c1, c2] : List Int32).take k)) (hl12 : l12 = Int32.ofNat hs_.length) (hx : p.tables.exec = Jvm.exec) (hby : cc_.code = code) (hml : cc_.maxLocals = maxLocals) (hown : vm.findClass x.cls = some m.cls) (hnm : meth.name = x.name) (hret : meth.sig.returnType = ret) (hlk : meth.locks = false) (hZ : Z.Warmed39 vm) (X : Stand p l e room_1 (s.setVm vm) m args below meth cc_ T L2 48 6528) (eT : T.heap = hS_) (hS : s.Since vm k0) (hk : k0 ≤ hS_.size) (N : Fr n0 L2) :
    Go p e below (PL s (fun v h L => v = some (.int 1) ∧ Fr n0 L ∧ Keep h0 h []) room_1.cells room_1.slots) T (mkF m 204 #[.val (.int i0), .val (.int i1), .val (.int i2), .val (.int (Int32.ofNat k)), .val (.int c0), .val (.int c1), .val (.int c2), .val (.ref xh), .val (.int jc), .val (.int (Int32.ofNat np)), .val (.int (Int32.ofNat nd)), .val (.ref xr), .val (.int l12), .unset, .unset, .unset, .unset] []) := by
  subst hl12
  have hLn := own_resl hs_ np nd
  have hq5 := own_le5 hnp
  have hq10 := own_le10 hnd
  have hq3 : hs_.length ≤ 5 := by rw [hhh]; exact own_hostL hk3
  refine giload (v := (Int32.ofNat np)) X hx 206 (hb hby at_204) rfl rfl ?_
  refine gstatic (y := Y5) (argsL := [(.int (Int32.ofNat np))]) (st := []) X hx hZ hown (u203 hw) (u204 hw) (u2 hw) (u205 hw) (by decide) (payP (W := 0) (rmND l Z a0 hw (np) hS_ n0 (Nat.le_trans Z0 sz_h) (Nat.lt_trans hnp (by decide))) hZ (u205 hw) (u2 hw) (by decide) (by decide)) eT (by rw [hml]; rfl) (lenOf own_pd4 rfl) rfl (Nat.le_of_eq rfl) 48 6528 rfl rfl (by decide) (by decide) 209 (hb hby at_206) rfl (gcut N ?_)
  clear X eT N; clear T; intro T L X eT N
  refine gistore X hx #[.val (.int i0), .val (.int i1), .val (.int i2), .val (.int (Int32.ofNat k)), .val (.int c0), .val (.int c1), .val (.int c2), .val (.ref xh), .val (.int jc), .val (.int (Int32.ofNat np)), .val (.int (Int32.ofNat nd)), .val (.ref xr), .val (.int (Int32.ofNat hs_.length)), .val (.int (Int32.ofNat (own_dg np).length)), .unset, .unset, .unset] 211 (hb hby at_209) rfl rfl ?_
  refine giload (v := (Int32.ofNat nd)) X hx 213 (hb hby at_211) rfl rfl ?_
  refine gstatic (y := Y5) (argsL := [(.int (Int32.ofNat nd))]) (st := []) X hx hZ hown (u203 hw) (u204 hw) (u2 hw) (u205 hw) (by decide) (payP (W := 0) (rmND l Z a0 hw (nd) hS_ n0 (Nat.le_trans Z0 sz_h) (hnd)) hZ (u205 hw) (u2 hw) (by decide) (by decide)) eT (by rw [hml]; rfl) (lenOf own_pd4 rfl) rfl (Nat.le_of_eq rfl) 48 6528 rfl rfl (by decide) (by decide) 216 (hb hby at_213) rfl (gcut N ?_)
  clear X eT N; clear T; intro T L X eT N
  refine gistore X hx #[.val (.int i0), .val (.int i1), .val (.int i2), .val (.int (Int32.ofNat k)), .val (.int c0), .val (.int c1), .val (.int c2), .val (.ref xh), .val (.int jc), .val (.int (Int32.ofNat np)), .val (.int (Int32.ofNat nd)), .val (.ref xr), .val (.int (Int32.ofNat hs_.length)), .val (.int (Int32.ofNat (own_dg np).length)), .val (.int (Int32.ofNat (own_dg nd).length)), .unset, .unset] 218 (hb hby at_216) rfl rfl ?_
  refine gaload (v := (.ref xr)) X hx 220 (hb hby at_218) rfl rfl rfl ?_
  refine gvirtual (y := Y33) (z := Y33) (a := xr) (argsL := []) (st := []) X hx hZ hown (u206 hw) (u106 hw) (notFace_of_selects (args := #[]) (mvT hZ (u108 hw))) (u108 hw) (u107 hw) (by decide) P1_Str.exa (payLen (W := 0) hZ hw P1_Str (O2.ext P0_Old.2) P5 (by decide) (by decide)) eT (by rw [hml]; rfl) (lenOf own_pd8 rfl) rfl (Nat.le_of_eq rfl) 48 6528 rfl rfl (by decide) (by decide) 223 (hb hby at_220) rfl (gcutE N ?_)
  clear X eT N; clear T; intro T L X eT N
  refine gbipush X hx (8 : Int32) 225 (hb hby at_223) rfl rfl ?_
  refine giload (v := (Int32.ofNat hs_.length)) X hx 227 (hb hby at_225) rfl rfl ?_
  refine giadd X hx 228 (hb hby at_227) rfl ?_
  refine giconst X hx (1 : Int32) 229 (hb hby at_228) rfl rfl ?_
  refine giadd X hx 230 (hb hby at_229) rfl ?_
  refine giload (v := (Int32.ofNat (own_dg np).length)) X hx 232 (hb hby at_230) rfl rfl ?_
  refine giadd X hx 233 (hb hby at_232) rfl ?_
  refine giconst X hx (1 : Int32) 234 (hb hby at_233) rfl rfl ?_
  refine giadd X hx 235 (hb hby at_234) rfl ?_
  refine giload (v := (Int32.ofNat (own_dg nd).length)) X hx 237 (hb hby at_235) rfl rfl ?_
  refine giadd X hx 238 (hb hby at_237) rfl ?_
  refine gicmpYes X hx 243 (hb hby at_238) (teq (own_lenE hs_ np nd)).1 (by decide) (by decide) ?_
  refine gaload (v := (.ref xr)) X hx 245 (hb hby at_243) rfl rfl rfl ?_
  refine giconst X hx (0 : Int32) 246 (hb hby at_245) rfl rfl ?_
  refine gbipush X hx (114 : Int32) 248 (hb hby at_246) rfl rfl ?_
  refine gstatic (y := Y2) (argsL := [(.ref xr), (.int 0), (.int 114)]) (st := []) X hx hZ hown (u207 hw) (u208 hw) (u2 hw) (u209 hw) (by decide) (payP (W := 0) (rmAt l Z a0 hw (xr) ((0 : Int32)) ((114 : Int32)) (tr) ((own_R hs_ np nd)) (0) (G1) (G3) hS_ n0 (Nat.le_trans Z0 sz_h) P0_Old P1_Str (O2) (P5) (O4) (rG3) (rfl) (by rw [hLn]; omega) (by rw [hLn]; omega) (rfl)) hZ (u209 hw) (u2 hw) (by decide) (by decide)) eT (by rw [hml]; rfl) (lenOf own_pd32 rfl) rfl (Nat.le_of_eq rfl) 48 6528 rfl rfl (by decide) (by decide) 251 (hb hby at_248) rfl (gcut N ?_)
  clear X eT N; clear T; intro T L X eT N
  refine gifNo X hx 254 (hb hby at_251) rfl (by decide) ?_
  refine gaload (v := (.ref xr)) X hx 256 (hb hby at_254) rfl rfl rfl ?_
  refine giconst X hx (1 : Int32) 257 (hb hby at_256) rfl rfl ?_
  refine gbipush X hx (101 : Int32) 259 (hb hby at_257) rfl rfl ?_
  refine gstatic (y := Y2) (argsL := [(.ref xr), (.int 1), (.int 101)]) (st := []) X hx hZ hown (u207 hw) (u208 hw) (u2 hw) (u209 hw) (by decide) (payP (W := 0) (rmAt l Z a0 hw (xr) ((1 : Int32)) ((101 : Int32)) (tr) ((own_R hs_ np nd)) (1) (G1) (G3) hS_ n0 (Nat.le_trans Z0 sz_h) P0_Old P1_Str (O2) (P5) (O4) (rG3) (rfl) (by rw [hLn]; omega) (by rw [hLn]; omega) (rfl)) hZ (u209 hw) (u2 hw) (by decide) (by decide)) eT (by rw [hml]; rfl) (lenOf own_pd32 rfl) rfl (Nat.le_of_eq rfl) 48 6528 rfl rfl (by decide) (by decide) 262 (hb hby at_259) rfl (gcut N ?_)
  clear X eT N; clear T; intro T L X eT N
  refine gifNo X hx 265 (hb hby at_262) rfl (by decide) ?_
  refine gaload (v := (.ref xr)) X hx 267 (hb hby at_265) rfl rfl rfl ?_
  refine giconst X hx (2 : Int32) 268 (hb hby at_267) rfl rfl ?_
  refine gbipush X hx (100 : Int32) 270 (hb hby at_268) rfl rfl ?_
  refine gstatic (y := Y2) (argsL := [(.ref xr), (.int 2), (.int 100)]) (st := []) X hx hZ hown (u207 hw) (u208 hw) (u2 hw) (u209 hw) (by decide) (payP (W := 0) (rmAt l Z a0 hw (xr) ((2 : Int32)) ((100 : Int32)) (tr) ((own_R hs_ np nd)) (2) (G1) (G3) hS_ n0 (Nat.le_trans Z0 sz_h) P0_Old P1_Str (O2) (P5) (O4) (rG3) (rfl) (by rw [hLn]; omega) (by rw [hLn]; omega) (rfl)) hZ (u209 hw) (u2 hw) (by decide) (by decide)) eT (by rw [hml]; rfl) (lenOf own_pd32 rfl) rfl (Nat.le_of_eq rfl) 48 6528 rfl rfl (by decide) (by decide) 273 (hb hby at_270) rfl (gcut N ?_)
  clear X eT N; clear T; intro T L X eT N
  refine gifNo X hx 276 (hb hby at_273) rfl (by decide) ?_
  refine gaload (v := (.ref xr)) X hx 278 (hb hby at_276) rfl rfl rfl ?_
  refine giconst X hx (3 : Int32) 279 (hb hby at_278) rfl rfl ?_
  refine gbipush X hx (105 : Int32) 281 (hb hby at_279) rfl rfl ?_
  refine gstatic (y := Y2) (argsL := [(.ref xr), (.int 3), (.int 105)]) (st := []) X hx hZ hown (u207 hw) (u208 hw) (u2 hw) (u209 hw) (by decide) (payP (W := 0) (rmAt l Z a0 hw (xr) ((3 : Int32)) ((105 : Int32)) (tr) ((own_R hs_ np nd)) (3) (G1) (G3) hS_ n0 (Nat.le_trans Z0 sz_h) P0_Old P1_Str (O2) (P5) (O4) (rG3) (rfl) (by rw [hLn]; omega) (by rw [hLn]; omega) (rfl)) hZ (u209 hw) (u2 hw) (by decide) (by decide)) eT (by rw [hml]; rfl) (lenOf own_pd32 rfl) rfl (Nat.le_of_eq rfl) 48 6528 rfl rfl (by decide) (by decide) 284 (hb hby at_281) rfl (gcut N ?_)
  clear X eT N; clear T; intro T L X eT N
  refine gifNo X hx 287 (hb hby at_284) rfl (by decide) ?_
  refine gaload (v := (.ref xr)) X hx 289 (hb hby at_287) rfl rfl rfl ?_
  refine giconst X hx (4 : Int32) 290 (hb hby at_289) rfl rfl ?_
  refine gbipush X hx (115 : Int32) 292 (hb hby at_290) rfl rfl ?_
  refine gstatic (y := Y2) (argsL := [(.ref xr), (.int 4), (.int 115)]) (st := []) X hx hZ hown (u207 hw) (u208 hw) (u2 hw) (u209 hw) (by decide) (payP (W := 0) (rmAt l Z a0 hw (xr) ((4 : Int32)) ((115 : Int32)) (tr) ((own_R hs_ np nd)) (4) (G1) (G3) hS_ n0 (Nat.le_trans Z0 sz_h) P0_Old P1_Str (O2) (P5) (O4) (rG3) (rfl) (by rw [hLn]; omega) (by rw [hLn]; omega) (rfl)) hZ (u209 hw) (u2 hw) (by decide) (by decide)) eT (by rw [hml]; rfl) (lenOf own_pd32 rfl) rfl (Nat.le_of_eq rfl) 48 6528 rfl rfl (by decide) (by decide) 295 (hb hby at_292) rfl (gcut N ?_)
  clear X eT N; clear T; intro T L X eT N
  refine gifNo X hx 298 (hb hby at_295) rfl (by decide) ?_
  refine gaload (v := (.ref xr)) X hx 300 (hb hby at_298) rfl rfl rfl ?_
  refine giconst X hx (5 : Int32) 301 (hb hby at_300) rfl rfl ?_
  refine gbipush X hx (58 : Int32) 303 (hb hby at_301) rfl rfl ?_
  refine gstatic (y := Y2) (argsL := [(.ref xr), (.int 5), (.int 58)]) (st := []) X hx hZ hown (u207 hw) (u208 hw) (u2 hw) (u209 hw) (by decide) (payP (W := 0) (rmAt l Z a0 hw (xr) ((5 : Int32)) ((58 : Int32)) (tr) ((own_R hs_ np nd)) (5) (G1) (G3) hS_ n0 (Nat.le_trans Z0 sz_h) P0_Old P1_Str (O2) (P5) (O4) (rG3) (rfl) (by rw [hLn]; omega) (by rw [hLn]; omega) (rfl)) hZ (u209 hw) (u2 hw) (by decide) (by decide)) eT (by rw [hml]; rfl) (lenOf own_pd32 rfl) rfl (Nat.le_of_eq rfl) 48 6528 rfl rfl (by decide) (by decide) 306 (hb hby at_303) rfl (gcut N ?_)
  clear X eT N; clear T; intro T L X eT N
  refine gifNo X hx 309 (hb hby at_306) rfl (by decide) ?_
  refine gaload (v := (.ref xr)) X hx 311 (hb hby at_309) rfl rfl rfl ?_
  refine gbipush X hx (6 : Int32) 313 (hb hby at_311) rfl rfl ?_
  refine gbipush X hx (47 : Int32) 315 (hb hby at_313) rfl rfl ?_
  refine gstatic (y := Y2) (argsL := [(.ref xr), (.int 6), (.int 47)]) (st := []) X hx hZ hown (u207 hw) (u208 hw) (u2 hw) (u209 hw) (by decide) (payP (W := 0) (rmAt l Z a0 hw (xr) ((6 : Int32)) ((47 : Int32)) (tr) ((own_R hs_ np nd)) (6) (G1) (G3) hS_ n0 (Nat.le_trans Z0 sz_h) P0_Old P1_Str (O2) (P5) (O4) (rG3) (rfl) (by rw [hLn]; omega) (by rw [hLn]; omega) (rfl)) hZ (u209 hw) (u2 hw) (by decide) (by decide)) eT (by rw [hml]; rfl) (lenOf own_pd32 rfl) rfl (Nat.le_of_eq rfl) 48 6528 rfl rfl (by decide) (by decide) 318 (hb hby at_315) rfl (gcut N ?_)
  clear X eT N; clear T; intro T L X eT N
  refine gifNo X hx 321 (hb hby at_318) rfl (by decide) ?_
  refine gaload (v := (.ref xr)) X hx 323 (hb hby at_321) rfl rfl rfl ?_
  refine gbipush X hx (7 : Int32) 325 (hb hby at_323) rfl rfl ?_
  refine gbipush X hx (47 : Int32) 327 (hb hby at_325) rfl rfl ?_
  refine gstatic (y := Y2) (argsL := [(.ref xr), (.int 7), (.int 47)]) (st := []) X hx hZ hown (u207 hw) (u208 hw) (u2 hw) (u209 hw) (by decide) (payP (W := 0) (rmAt l Z a0 hw (xr) ((7 : Int32)) ((47 : Int32)) (tr) ((own_R hs_ np nd)) (7) (G1) (G3) hS_ n0 (Nat.le_trans Z0 sz_h) P0_Old P1_Str (O2) (P5) (O4) (rG3) (rfl) (by rw [hLn]; omega) (by rw [hLn]; omega) (rfl)) hZ (u209 hw) (u2 hw) (by decide) (by decide)) eT (by rw [hml]; rfl) (lenOf own_pd32 rfl) rfl (Nat.le_of_eq rfl) 48 6528 rfl rfl (by decide) (by decide) 330 (hb hby at_327) rfl (gcut N ?_)
  clear X eT N; clear T; intro T L X eT N
  refine gifNo X hx 333 (hb hby at_330) rfl (by decide) ?_
  refine giconst X hx (1 : Int32) 334 (hb hby at_333) rfl rfl ?_
  refine ggoto X hx 338 (hb hby at_334) (by decide) (by decide) ?_
  refine gistore X hx #[.val (.int i0), .val (.int i1), .val (.int i2), .val (.int (Int32.ofNat k)), .val (.int c0), .val (.int c1), .val (.int c2), .val (.ref xh), .val (.int jc), .val (.int (Int32.ofNat np)), .val (.int (Int32.ofNat nd)), .val (.ref xr), .val (.int (Int32.ofNat hs_.length)), .val (.int (Int32.ofNat (own_dg np).length)), .val (.int (Int32.ofNat (own_dg nd).length)), .val (.int 1), .unset] 340 (hb hby at_338) rfl rfl ?_
  refine gbipush X hx (8 : Int32) 342 (hb hby at_340) rfl rfl ?_
  refine gistore X hx #[.val (.int i0), .val (.int i1), .val (.int i2), .val (.int (Int32.ofNat k)), .val (.int c0), .val (.int c1), .val (.int c2), .val (.ref xh), .val (.int jc), .val (.int (Int32.ofNat np)), .val (.int (Int32.ofNat nd)), .val (.ref xr), .val (.int (Int32.ofNat hs_.length)), .val (.int (Int32.ofNat (own_dg np).length)), .val (.int (Int32.ofNat (own_dg nd).length)), .val (.int 1), .val (.int 8)] 344 (hb hby at_342) rfl rfl ?_
  exact rmLB l Z a0 hw (i0) (i1) (i2) (c0) (c1) (c2) (k) (xh) (jc) (xr) (tr) (hs_) (np) (nd) ((Int32.ofNat hs_.length)) (G1) (G3) h0 hS_ n0 Z0 sz_h K0 P0_Old P1_Str (O2) (P5) (O4) (rG3) (hk3) (r0) (r1) (r2) (hj) (hnp) (hnd) (hhh) hx hby hml hown hnm hret hlk hZ (standUp X (by decide) (by decide)) eT hS hk N
theorem rmLE {p : Program} {e : Env} {s : State} {m : MethodId} {args : Array Value} {below : List Frame} {meth : Method} {cc_ : Code} {T : State} {L2 : List Loc} {vm : Vm} {k0 : Nat} (l : Launch) (Z : State) (a0 : Array Value) (hw : HW_ a0 Z) (i0 : Int32) (i1 : Int32) (i2 : Int32) (c0 : Int32) (c1 : Int32) (c2 : Int32) (k : Nat) (xh : Addr) (jc : Int32) (t : Addr) (kt : ClassId) (d1 : Addr) (d2 : Addr) (k1 : ClassId) (k2 : ClassId) (G1 : Int32) (G3 : Value) (h0 hS_ : Heap) (n0 : Nat) (Z0 : n0 ≤ h0.size) (sz_h : h0.size ≤ hS_.size) (K0 : Keep h0 hS_ []) (P0_Old : Old Z n0 hS_) (P1_Exa : Exa Z hS_ xh "java/lang/String") (P2_Fld : Fld Z hS_ xh "java/lang/String" "coder" "B" (.int 0)) (P3_Fld : Fld Z hS_ xh "java/lang/String" "value" "[B" (.ref t)) (P4_Arv : Arv Z hS_ t kt .byte (Int32.ofNat (([c0, c1, c2] : List Int32).take k).length) (((([c0, c1, c2] : List Int32).take k).map fun c => c.toInt8.toInt32).map Value.int) (.int 0)) (O2 : Sta Z Z.heap "java/lang/String" "COMPACT_STRINGS" "Z" (.int G1)) (P5 : ¬ G1 = (0 : Int32)) (O4 : Sta Z Z.heap "jdk/internal/util/Preconditions" "SIOOBE_FORMATTER" "Ljava/util/function/BiFunction;" G3) (rG3 : G3.isRef = true) (D1 : Sta Z Z.heap "java/lang/Integer" "DigitOnes" "[B" (.ref d1)) (D2 : Sta Z Z.heap "java/lang/Integer" "DigitTens" "[B" (.ref d2)) (T1 : Arv Z Z.heap d1 k1 .byte (100 : Int32) own_ones (.int 0)) (T2 : Arv Z Z.heap d2 k2 .byte (100 : Int32) own_tens (.int 0)) (hk3 : k ≤ 3) (r0 : ¬ c0 < 0 ∧ ¬ (255 : Int32) < c0) (r1 : ¬ c1 < 0 ∧ ¬ (255 : Int32) < c1) (r2 : ¬ c2 < 0 ∧ ¬ (255 : Int32) < c2) (hj : (jc = 1 ∧ (58 : Int32) ∈ (([c0, c1, c2] : List Int32).take k)) ∨ (jc = 0 ∧ ¬ (58 : Int32) ∈ (([c0, c1, c2] : List Int32).take k))) (hx : p.tables.exec = Jvm.exec) (hby : cc_.code = code) (hml : cc_.maxLocals = maxLocals) (hown : vm.findClass x.cls = some m.cls) (hnm : meth.name = x.name) (hret : meth.sig.returnType = ret) (hlk : meth.locks = false) (hZ : Z.Warmed39 vm) (X : Stand p l e room_1 (s.setVm vm) m args below meth cc_ T L2 3 10) (eT : T.heap = hS_) (hS : s.Since vm k0) (hk : k0 ≤ hS_.size) (C : CHr Z own_EL s.vm s.heap vm hS_) (N : Fr n0 L2) :
    Go p e below (PL s (fun v h L => v = some (.int 1) ∧ Fr n0 L ∧ Keep h0 h []) room_1.cells room_1.slots) T (mkF m 155 #[.val (.int i0), .val (.int i1), .val (.int i2), .val (.int (Int32.ofNat k)), .val (.int c0), .val (.int c1), .val (.int c2), .val (.ref xh), .val (.int jc), .unset, .unset, .unset, .unset, .unset, .unset, .unset, .unset] []) := by
  obtain ⟨np, hnp, ep⟩ := own_port i1
  obtain ⟨nd, hnd, ed⟩ := own_db i2
  refine giloadN (v := i1) X hx 156 (hb hby at_155) rfl rfl ?_
  refine gldcI X hx hZ hown (u12 hw) 158 (hb hby at_156) rfl ?_
  refine giand X hx 159 (hb hby at_158) rfl ?_
  refine gldcI X hx hZ hown (u13 hw) 161 (hb hby at_159) rfl ?_
  refine girem X hx 162 (hb hby at_161) rfl (by decide) ?_
  refine giconst X hx (1 : Int32) 163 (hb hby at_162) rfl rfl ?_
  refine giadd X hx 164 (hb hby at_163) rfl ?_
  rw [ep]
  show Go p e below _ T (mkF m 164 _ [(.int (Int32.ofNat np))])
  refine gistore X hx #[.val (.int i0), .val (.int i1), .val (.int i2), .val (.int (Int32.ofNat k)), .val (.int c0), .val (.int c1), .val (.int c2), .val (.ref xh), .val (.int jc), .val (.int (Int32.ofNat np)), .unset, .unset, .unset, .unset, .unset, .unset, .unset] 166 (hb hby at_164) rfl rfl ?_
  refine giloadN (v := i2) X hx 167 (hb hby at_166) rfl rfl ?_
  refine gldcI X hx hZ hown (u12 hw) 169 (hb hby at_167) rfl ?_
  refine giand X hx 170 (hb hby at_169) rfl ?_
  rw [ed]
  show Go p e below _ T (mkF m 170 _ [(.int (Int32.ofNat nd))])
  refine gistore X hx #[.val (.int i0), .val (.int i1), .val (.int i2), .val (.int (Int32.ofNat k)), .val (.int c0), .val (.int c1), .val (.int c2), .val (.ref xh), .val (.int jc), .val (.int (Int32.ofNat np)), .val (.int (Int32.ofNat nd)), .unset, .unset, .unset, .unset, .unset, .unset] 172 (hb hby at_170) rfl rfl ?_
  refine gnewO X hx hZ hown (u14 hw) (u15 hw) (u16 hw) eT 4 13 rfl rfl (by decide) (by decide) 175 (hb hby at_172) rfl ?_
  clear X eT; clear T; intro T h1 b2 X eT ga E3 A4 D5
  have le_a := Nat.le_of_eq ga.symm
  have ne_xh_b2 : xh ≠ b2 := Nat.ne_of_lt (Nat.lt_of_lt_of_le P1_Exa.lt le_a)
  have ne_b2_xh : b2 ≠ xh := Ne.symm ne_xh_b2
  have ne_t_b2 : t ≠ b2 := Nat.ne_of_lt (Nat.lt_of_lt_of_le P4_Arv.lt le_a)
  have ne_b2_t : b2 ≠ t := Ne.symm ne_t_b2
  have sz_b2 : h0.size ≤ b2 := Nat.le_trans sz_h le_a
  have ge_b2 : n0 ≤ b2 := Nat.le_trans Z0 sz_b2
  clear le_a ga
  replace P0_Old := P0_Old.ext E3
  replace P1_Exa := P1_Exa.ext E3
  replace P2_Fld := P2_Fld.ext E3
  replace P3_Fld := P3_Fld.ext E3
  replace P4_Arv := P4_Arv.ext E3
  replace K0 := K0.ext E3
  replace C := C.trans (CHr.ext E3 C.1)
  replace hk := Nat.le_trans hk E3.1
  replace sz_h : h0.size ≤ h1.size := Nat.le_trans sz_h E3.1
  have F_host_b2 : Fld Z h1 b2 "com/example/per1od/per1od/StoreAddress" "host" "Ljava/lang/String;" .null := D5 (Or.inr (u29 hw)) (ty := (.object "java/lang/String")) own_pf3
  have F_port_b2 : Fld Z h1 b2 "com/example/per1od/per1od/StoreAddress" "port" "I" (.int 0) := D5 (Or.inr (u31 hw)) (ty := .int) own_pf2
  have F_database_b2 : Fld Z h1 b2 "com/example/per1od/per1od/StoreAddress" "database" "I" (.int 0) := D5 (Or.inr (u33 hw)) (ty := .int) own_pf2
  clear D5
  refine gdup X hx 176 (hb hby at_175) rfl rfl ?_
  refine gaload (v := (.ref xh)) X hx 178 (hb hby at_176) rfl rfl rfl ?_
  refine giload (v := (Int32.ofNat np)) X hx 180 (hb hby at_178) rfl rfl ?_
  refine giload (v := (Int32.ofNat nd)) X hx 182 (hb hby at_180) rfl rfl ?_
  refine gspecial (y := Y0) (a := b2) (argsL := [(.ref xh), (.int (Int32.ofNat np)), (.int (Int32.ofNat nd))]) (st := [(.ref b2)]) X hx hZ hown rfl (u17 hw) (u18 hw) (u19 hw) (by decide) (payP (W := 1) (rmSAi l Z a0 hw (b2) (xh) ((Int32.ofNat np)) ((Int32.ofNat nd)) h1 n0 (Nat.le_trans Z0 sz_h) ge_b2 A4 F_host_b2 F_port_b2 F_database_b2) hZ (u19 hw) (u16 hw) (by decide) (by decide)) eT (by rw [hml]; rfl) (lenOf own_pd36 rfl) rfl (Nat.le_of_eq rfl) 4 13 rfl rfl (by decide) (by decide) 185 (hb hby at_182) rfl ?_
  clear X eT; clear T; intro v T h6 L2 Lc X eT hL hQ7
  obtain ⟨rfl, Nq, K8, G10, G11, G12⟩ := hQ7
  replace N : Fr n0 L2 := by rw [hL]; exact Fr.app N Nq
  clear Nq hL
  have sfs := (sfS (Safe.exa (EL := own_EL) (vm := vm) hZ.alike A4 (by decide) (by decide)) sf0)
  replace P0_Old := P0_Old.keep K8 (allS ge_b2 all0)
  replace P1_Exa := P1_Exa.keep K8
  replace P2_Fld := P2_Fld.keep K8 (ninS ne_xh_b2 nin0)
  replace P3_Fld := P3_Fld.keep K8 (ninS ne_xh_b2 nin0)
  replace P4_Arv := P4_Arv.keep K8 (ninS ne_t_b2 nin0)
  replace A4 := A4.keep K8
  replace K0 := K0.trans K8 (allS (Or.inr sz_b2) all0)
  replace C := C.trans (CHr.keep K8 sfs C.1)
  replace hk := Nat.le_trans hk K8.1
  replace sz_h : h0.size ≤ h6.size := Nat.le_trans sz_h K8.1
  show Go p e below _ T (mkF m 185 _ [(.ref b2)])
  refine gvirtualS (y := Y1) (z := Y1) (a := b2) (argsL := []) (st := []) X hx hZ hown (u34 hw) (u35 hw) (notFace_of_selects (args := #[]) (mvT hZ (u37 hw))) (u37 hw) (u36 hw) (by decide) A4 hS hk (payS (W := 0) (rmSAt l Z a0 hw (b2) (xh) (t) (kt) ((([c0, c1, c2] : List Int32).take k)) (np) (nd) (d1) (d2) (k1) (k2) (G1) h6 n0 (Nat.le_trans Z0 sz_h) P0_Old A4 G10 G11 G12 P1_Exa P2_Fld P3_Fld P4_Arv (O2) (P5) (D1) (D2) (T1) (T2) (own_tkl hk3) (own_tkr r0 r1 r2) (Nat.lt_trans hnp (by decide)) (own_le5 hnp) (hnd) (own_le10 hnd)) hZ (u38 hw) (u16 hw) (by decide) (by decide) (own_EW hw) C.1 all0) eT (by rw [hml]; rfl) (lenOf own_pd21 rfl) rfl (Nat.le_of_eq rfl) 33 511 rfl rfl (by decide) (by decide) 188 (hb hby at_185) rfl ?_
  clear X eT hS hk hZ hown; clear T k0; intro v T h13 L2 Lc vm k0 X eT hL hS hk hZ hown CR17 hQ14
  obtain ⟨xr, tr, kr_15, hs_, rfl, Nq, K16, zz_xr, zz_tr, G18, G19, G20, G21, pp22⟩ := hQ14
  replace N : Fr n0 L2 := by rw [hL]; exact Fr.app N Nq
  clear Nq hL
  have ne_xh_xr : xh ≠ xr := Nat.ne_of_lt (Nat.lt_of_lt_of_le P1_Exa.lt zz_xr)
  have ne_xr_xh : xr ≠ xh := Ne.symm ne_xh_xr
  have ne_t_xr : t ≠ xr := Nat.ne_of_lt (Nat.lt_of_lt_of_le P4_Arv.lt zz_xr)
  have ne_xr_t : xr ≠ t := Ne.symm ne_t_xr
  have ne_b2_xr : b2 ≠ xr := Nat.ne_of_lt (Nat.lt_of_lt_of_le A4.lt zz_xr)
  have ne_xr_b2 : xr ≠ b2 := Ne.symm ne_b2_xr
  have sz_xr : h0.size ≤ xr := Nat.le_trans sz_h zz_xr
  have ge_xr : n0 ≤ xr := Nat.le_trans Z0 sz_xr
  have ne_xh_tr : xh ≠ tr := Nat.ne_of_lt (Nat.lt_of_lt_of_le P1_Exa.lt zz_tr)
  have ne_tr_xh : tr ≠ xh := Ne.symm ne_xh_tr
  have ne_t_tr : t ≠ tr := Nat.ne_of_lt (Nat.lt_of_lt_of_le P4_Arv.lt zz_tr)
  have ne_tr_t : tr ≠ t := Ne.symm ne_t_tr
  have ne_b2_tr : b2 ≠ tr := Nat.ne_of_lt (Nat.lt_of_lt_of_le A4.lt zz_tr)
  have ne_tr_b2 : tr ≠ b2 := Ne.symm ne_b2_tr
  have sz_tr : h0.size ≤ tr := Nat.le_trans sz_h zz_tr
  have ge_tr : n0 ≤ tr := Nat.le_trans Z0 sz_tr
  replace P0_Old := P0_Old.keep K16 all0
  replace P1_Exa := P1_Exa.keep K16
  replace P2_Fld := P2_Fld.keep K16 nin0
  replace P3_Fld := P3_Fld.keep K16 nin0
  replace P4_Arv := P4_Arv.keep K16 nin0
  replace A4 := A4.keep K16
  replace G10 := G10.keep K16 nin0
  replace G11 := G11.keep K16 nin0
  replace G12 := G12.keep K16 nin0
  replace K0 := K0.trans K16 all0
  replace C := C.trans CR17
  replace sz_h : h0.size ≤ h13.size := Nat.le_trans sz_h K16.1
  show Go p e below _ T (mkF m 188 _ [(.ref xr)])
  have SR : Str Z h13 xr tr (own_R hs_ np nd) := Str.of G18 G19 G20 G21 rfl rfl (own_resr hs_ np nd (by rw [pp22]; exact own_hostR (own_tkr r0 r1 r2))) (by have := own_resl hs_ np nd; have := own_le5 hnp; have := own_le10 hnd; have : hs_.length ≤ 5 := (by rw [pp22]; exact own_hostL hk3); omega)
  refine gastore X hx #[.val (.int i0), .val (.int i1), .val (.int i2), .val (.int (Int32.ofNat k)), .val (.int c0), .val (.int c1), .val (.int c2), .val (.ref xh), .val (.int jc), .val (.int (Int32.ofNat np)), .val (.int (Int32.ofNat nd)), .val (.ref xr), .unset, .unset, .unset, .unset, .unset] 190 (hb hby at_188) rfl rfl rfl ?_
  refine giload (v := jc) X hx 192 (hb hby at_190) rfl rfl ?_
  rcases hj with ⟨e1_, hm⟩ | ⟨e1_, hm⟩
  · subst e1_
    show Go p e below _ T (mkF m 192 _ [(.int 1)])
    refine gifNo X hx 195 (hb hby at_192) rfl (by decide) ?_
    refine giloadN (v := (Int32.ofNat k)) X hx 196 (hb hby at_195) rfl rfl ?_
    refine giconst X hx (2 : Int32) 197 (hb hby at_196) rfl rfl ?_
    refine giadd X hx 198 (hb hby at_197) rfl ?_
    refine ggoto X hx 202 (hb hby at_198) (by decide) (by decide) ?_
    refine gistore X hx #[.val (.int i0), .val (.int i1), .val (.int i2), .val (.int (Int32.ofNat k)), .val (.int c0), .val (.int c1), .val (.int c2), .val (.ref xh), .val (.int 1), .val (.int (Int32.ofNat np)), .val (.int (Int32.ofNat nd)), .val (.ref xr), .val (.int ((Int32.ofNat k) + (2 : Int32))), .unset, .unset, .unset, .unset] 204 (hb hby at_202) rfl rfl ?_
    exact rmLF l Z a0 hw (i0) (i1) (i2) (c0) (c1) (c2) (k) (xh) (1) (xr) (tr) (hs_) (np) (nd) (((Int32.ofNat k) + (2 : Int32))) (G1) (G3) h0 h13 n0 Z0 sz_h K0 P0_Old SR (O2) (P5) (O4) (rG3) (hk3) (r0) (r1) (r2) (Or.inl ⟨rfl, hm⟩) (hnp) (hnd) (pp22) (by rw [pp22]; exact own_hl1 hk3 hm) hx hby hml hown hnm hret hlk hZ (standUp X (by decide) (by decide)) eT hS hk N
  · subst e1_
    show Go p e below _ T (mkF m 192 _ [(.int 0)])
    refine gifYes X hx 201 (hb hby at_192) (by decide) (by decide) (by decide) ?_
    refine giloadN (v := (Int32.ofNat k)) X hx 202 (hb hby at_201) rfl rfl ?_
    refine gistore X hx #[.val (.int i0), .val (.int i1), .val (.int i2), .val (.int (Int32.ofNat k)), .val (.int c0), .val (.int c1), .val (.int c2), .val (.ref xh), .val (.int 0), .val (.int (Int32.ofNat np)), .val (.int (Int32.ofNat nd)), .val (.ref xr), .val (.int (Int32.ofNat k)), .unset, .unset, .unset, .unset] 204 (hb hby at_202) rfl rfl ?_
    exact rmLF l Z a0 hw (i0) (i1) (i2) (c0) (c1) (c2) (k) (xh) (0) (xr) (tr) (hs_) (np) (nd) ((Int32.ofNat k)) (G1) (G3) h0 h13 n0 Z0 sz_h K0 P0_Old SR (O2) (P5) (O4) (rG3) (hk3) (r0) (r1) (r2) (Or.inr ⟨rfl, hm⟩) (hnp) (hnd) (pp22) (by rw [pp22]; exact own_hl0 hk3 hm) hx hby hml hown hnm hret hlk hZ (standUp X (by decide) (by decide)) eT hS hk N
theorem rm0 (l : Launch) (Z : State) (a0 : Array Value) (hw : HW_ a0 Z) (i0 : Int32) (i1 : Int32) (i2 : Int32) (d1 : Addr) (d2 : Addr) (k1 : ClassId) (k2 : ClassId) (G1 : Int32) (G3 : Value) (h0 : Heap) (n0 : Nat) (Z0 : n0 ≤ h0.size) (P0_Old : Old Z n0 h0) (O2 : Sta Z Z.heap "java/lang/String" "COMPACT_STRINGS" "Z" (.int G1)) (P5 : ¬ G1 = (0 : Int32)) (O4 : Sta Z Z.heap "jdk/internal/util/Preconditions" "SIOOBE_FORMATTER" "Ljava/util/function/BiFunction;" G3) (rG3 : G3.isRef = true) (D1 : Sta Z Z.heap "java/lang/Integer" "DigitOnes" "[B" (.ref d1)) (D2 : Sta Z Z.heap "java/lang/Integer" "DigitTens" "[B" (.ref d2)) (T1 : Arv Z Z.heap d1 k1 .byte (100 : Int32) own_ones (.int 0)) (T2 : Arv Z Z.heap d2 k2 .byte (100 : Int32) own_tens (.int 0)) :
    CtL l x code maxLocals ret tables_1 room_1 Z own_EL #[(.int i0), (.int i1), (.int i2)] h0 (fun v h L => v = some (.int 1) ∧ Fr n0 L ∧ Keep h0 h []) := by
  refine CtL.walk (Ls := #[.val (.int i0), .val (.int i1), .val (.int i2), .unset, .unset, .unset, .unset, .unset, .unset, .unset, .unset, .unset, .unset, .unset, .unset, .unset, .unset]) (plainFor_of_name own_pn12) (fun m => by rcases ref_cases rG3 with rfl | ⟨_, rfl⟩ <;> rfl) ?_
  intro p e s m below meth cc_ T vm k0 hx hby hml hown hnm hret hlk hZ X eT hS hk C
  have N := Fr.nil n0
  have K0 := Keep.refl h0 []
  have sz_h : h0.size ≤ h0.size := Nat.le_refl _
  refine giloadN (v := i0) X hx 1 (hb hby at_0) rfl rfl ?_
  refine giconst X hx (3 : Int32) 2 (hb hby at_1) rfl rfl ?_
  refine giand X hx 3 (hb hby at_2) rfl ?_
  refine gistoreN X hx #[.val (.int i0), .val (.int i1), .val (.int i2), .val (.int (i0 &&& (3 : Int32))), .unset, .unset, .unset, .unset, .unset, .unset, .unset, .unset, .unset, .unset, .unset, .unset, .unset] 4 (hb hby at_3) rfl rfl ?_
  refine giloadN (v := i0) X hx 5 (hb hby at_4) rfl rfl ?_
  refine giconst X hx (2 : Int32) 6 (hb hby at_5) rfl rfl ?_
  refine giushr X hx 7 (hb hby at_6) rfl ?_
  refine gstatic (y := Y4) (argsL := [(.int ((i0.toUInt32 >>> ((2 : Int32) &&& 31).toUInt32).toInt32))]) (st := []) X hx hZ hown (u0 hw) (u1 hw) (u2 hw) (u3 hw) (by decide) (payP (W := 0) (rmHc l Z a0 hw (((i0.toUInt32 >>> ((2 : Int32) &&& 31).toUInt32).toInt32)) h0 n0 (Nat.le_trans Z0 sz_h)) hZ (u3 hw) (u2 hw) (by decide) (by decide)) eT (by rw [hml]; rfl) (lenOf own_pd30 rfl) rfl (Nat.le_of_eq rfl) 0 0 rfl rfl (by decide) (by decide) 10 (hb hby at_7) rfl ?_
  clear X eT; clear T; intro v T h1 L2 Lc X eT hL hQ2
  obtain ⟨c0, rfl, Nq, hh, pp5⟩ := hQ2
  replace N : Fr n0 L2 := by rw [hL]; exact Fr.app N Nq
  clear Nq hL
  replace hh := hh.symm; subst hh
  show Go p e below _ T (mkF m 10 _ [(.int c0)])
  refine gistore X hx #[.val (.int i0), .val (.int i1), .val (.int i2), .val (.int (i0 &&& (3 : Int32))), .val (.int c0), .unset, .unset, .unset, .unset, .unset, .unset, .unset, .unset, .unset, .unset, .unset, .unset] 12 (hb hby at_10) rfl rfl ?_
  refine giloadN (v := i0) X hx 13 (hb hby at_12) rfl rfl ?_
  refine gbipush X hx (11 : Int32) 15 (hb hby at_13) rfl rfl ?_
  refine giushr X hx 16 (hb hby at_15) rfl ?_
  refine gstatic (y := Y4) (argsL := [(.int ((i0.toUInt32 >>> ((11 : Int32) &&& 31).toUInt32).toInt32))]) (st := []) X hx hZ hown (u0 hw) (u1 hw) (u2 hw) (u3 hw) (by decide) (payP (W := 0) (rmHc l Z a0 hw (((i0.toUInt32 >>> ((11 : Int32) &&& 31).toUInt32).toInt32)) h0 n0 (Nat.le_trans Z0 sz_h)) hZ (u3 hw) (u2 hw) (by decide) (by decide)) eT (by rw [hml]; rfl) (lenOf own_pd30 rfl) rfl (Nat.le_of_eq rfl) 0 0 rfl rfl (by decide) (by decide) 19 (hb hby at_16) rfl ?_
  clear X eT; clear T; intro v T h6 L2 Lc X eT hL hQ7
  obtain ⟨c1, rfl, Nq, hh, pp10⟩ := hQ7
  replace N : Fr n0 L2 := by rw [hL]; exact Fr.app N Nq
  clear Nq hL
  replace hh := hh.symm; subst hh
  show Go p e below _ T (mkF m 19 _ [(.int c1)])
  refine gistore X hx #[.val (.int i0), .val (.int i1), .val (.int i2), .val (.int (i0 &&& (3 : Int32))), .val (.int c0), .val (.int c1), .unset, .unset, .unset, .unset, .unset, .unset, .unset, .unset, .unset, .unset, .unset] 21 (hb hby at_19) rfl rfl ?_
  refine giloadN (v := i0) X hx 22 (hb hby at_21) rfl rfl ?_
  refine gbipush X hx (20 : Int32) 24 (hb hby at_22) rfl rfl ?_
  refine giushr X hx 25 (hb hby at_24) rfl ?_
  refine gstatic (y := Y4) (argsL := [(.int ((i0.toUInt32 >>> ((20 : Int32) &&& 31).toUInt32).toInt32))]) (st := []) X hx hZ hown (u0 hw) (u1 hw) (u2 hw) (u3 hw) (by decide) (payP (W := 0) (rmHc l Z a0 hw (((i0.toUInt32 >>> ((20 : Int32) &&& 31).toUInt32).toInt32)) h0 n0 (Nat.le_trans Z0 sz_h)) hZ (u3 hw) (u2 hw) (by decide) (by decide)) eT (by rw [hml]; rfl) (lenOf own_pd30 rfl) rfl (Nat.le_of_eq rfl) 0 0 rfl rfl (by decide) (by decide) 28 (hb hby at_25) rfl ?_
  clear X eT; clear T; intro v T h11 L2 Lc X eT hL hQ12
  obtain ⟨c2, rfl, Nq, hh, pp15⟩ := hQ12
  replace N : Fr n0 L2 := by rw [hL]; exact Fr.app N Nq
  clear Nq hL
  replace hh := hh.symm; subst hh
  show Go p e below _ T (mkF m 28 _ [(.int c2)])
  refine gistore X hx #[.val (.int i0), .val (.int i1), .val (.int i2), .val (.int (i0 &&& (3 : Int32))), .val (.int c0), .val (.int c1), .val (.int c2), .unset, .unset, .unset, .unset, .unset, .unset, .unset, .unset, .unset, .unset] 30 (hb hby at_28) rfl rfl ?_
  refine giloadN (v := (i0 &&& (3 : Int32))) X hx 31 (hb hby at_30) rfl rfl ?_
  rcases own_n4 i0 with e4 | e4 | e4 | e4
  · rw [e4]
    show Go p e below _ T (mkF m 31 _ [(.int 0)])
    refine gifNo X hx 34 (hb hby at_31) rfl (by decide) ?_
    refine gldcV X hx hZ hown (u4 hw) (own_wS hw) eT hS hk (own_EW hw) own_mem4 C.1 [] (0 : Int32) (by decide +kernel) (by decide) rfl 0 (by decide) (by decide) 2 4 rfl rfl (by decide) (by decide) 36 (hb hby at_34) rfl ?_
    clear X eT hS hk hZ hown; clear T k0; intro c17 T h16 vm k0 t25 kb26 X eT E18 hS hk hZ hown CR19 Li20 A21 F22 F23 V24 ns27
    replace P0_Old := P0_Old.ext E18
    replace K0 := K0.ext E18
    replace C := C.trans CR19
    replace sz_h : h0.size ≤ h16.size := Nat.le_trans sz_h E18.1
    show Go p e below _ T (mkF m 36 _ [(.ref c17)])
    refine gastore X hx #[.val (.int i0), .val (.int i1), .val (.int i2), .val (.int 0), .val (.int c0), .val (.int c1), .val (.int c2), .val (.ref c17), .unset, .unset, .unset, .unset, .unset, .unset, .unset, .unset, .unset] 38 (hb hby at_36) rfl rfl rfl ?_
    refine ggoto X hx 113 (hb hby at_38) (by decide) (by decide) ?_
    refine giloadN (v := (0 : Int32)) X hx 114 (hb hby at_113) rfl rfl ?_
    refine gifYes X hx 124 (hb hby at_114) (by decide) (by decide) (by decide) ?_
    refine giloadN (v := (0 : Int32)) X hx 125 (hb hby at_124) rfl rfl ?_
    refine giconst X hx (1 : Int32) 126 (hb hby at_125) rfl rfl ?_
    refine gicmpYes X hx 136 (hb hby at_126) (by decide) (by decide) (by decide) ?_
    refine giloadN (v := (0 : Int32)) X hx 137 (hb hby at_136) rfl rfl ?_
    refine giconst X hx (2 : Int32) 138 (hb hby at_137) rfl rfl ?_
    refine gicmpYes X hx 152 (hb hby at_138) (by decide) (by decide) (by decide) ?_
    refine giconst X hx (0 : Int32) 153 (hb hby at_152) rfl rfl ?_
    refine gistore X hx #[.val (.int i0), .val (.int i1), .val (.int i2), .val (.int 0), .val (.int c0), .val (.int c1), .val (.int c2), .val (.ref c17), .val (.int 0), .unset, .unset, .unset, .unset, .unset, .unset, .unset, .unset] 155 (hb hby at_153) rfl rfl ?_
    exact rmLE l Z a0 hw (i0) (i1) (i2) (c0) (c1) (c2) (0) (c17) (0) (t25) (kb26) (d1) (d2) (k1) (k2) (G1) (G3) h0 h16 n0 Z0 sz_h K0 P0_Old A21 F22 F23 V24 (O2) (P5) (O4) (rG3) (D1) (D2) (T1) (T2) (by decide) (pp5) (pp10) (pp15) (Or.inr ⟨rfl, by simp⟩) hx hby hml hown hnm hret hlk hZ (standUp X (by decide) (by decide)) eT hS hk C N
  · rw [e4]
    show Go p e below _ T (mkF m 31 _ [(.int 1)])
    refine gifYes X hx 41 (hb hby at_31) (by decide) (by decide) (by decide) ?_
    refine giloadN (v := (1 : Int32)) X hx 42 (hb hby at_41) rfl rfl ?_
    refine giconst X hx (1 : Int32) 43 (hb hby at_42) rfl rfl ?_
    refine gicmpNo X hx 46 (hb hby at_43) rfl (by decide) ?_
    refine giload (v := c0) X hx 48 (hb hby at_46) rfl rfl ?_
    refine gstatic (y := Y35) (argsL := [(.int c0)]) (st := []) X hx hZ hown (u235 hw) (u236 hw) (u5 hw) (u237 hw) (by decide) (payP (W := 0) (rm45 l Z a0 hw (c0) (G1) h0 n0 (Nat.le_trans Z0 sz_h) P0_Old (pp5.2) (O2) (P5)) hZ (u237 hw) (u5 hw) (by decide) (by decide)) eT (by rw [hml]; rfl) (lenOf own_pd33 rfl) rfl (Nat.le_of_eq rfl) 2 5 rfl rfl (by decide) (by decide) 51 (hb hby at_48) rfl ?_
    clear X eT; clear T; intro v T h28 L2 Lc X eT hL hQ29
    obtain ⟨x_30, t_31, kb_32, rfl, Nq, K33, zz_x_30, zz_t_31, G35, G36, G37, G38, pp39⟩ := hQ29
    replace N : Fr n0 L2 := by rw [hL]; exact Fr.app N Nq
    clear Nq hL
    have sz_x_30 : h0.size ≤ x_30 := Nat.le_trans sz_h zz_x_30
    have ge_x_30 : n0 ≤ x_30 := Nat.le_trans Z0 sz_x_30
    have sz_t_31 : h0.size ≤ t_31 := Nat.le_trans sz_h zz_t_31
    have ge_t_31 : n0 ≤ t_31 := Nat.le_trans Z0 sz_t_31
    replace P0_Old := P0_Old.keep K33 all0
    replace K0 := K0.trans K33 all0
    replace C := C.trans (CHr.keep K33 sf0 C.1)
    replace hk := Nat.le_trans hk K33.1
    replace sz_h : h0.size ≤ h28.size := Nat.le_trans sz_h K33.1
    show Go p e below _ T (mkF m 51 _ [(.ref x_30)])
    refine gastore X hx #[.val (.int i0), .val (.int i1), .val (.int i2), .val (.int 1), .val (.int c0), .val (.int c1), .val (.int c2), .val (.ref x_30), .unset, .unset, .unset, .unset, .unset, .unset, .unset, .unset, .unset] 53 (hb hby at_51) rfl rfl rfl ?_
    refine ggoto X hx 113 (hb hby at_53) (by decide) (by decide) ?_
    refine giloadN (v := (1 : Int32)) X hx 114 (hb hby at_113) rfl rfl ?_
    refine gifNo X hx 117 (hb hby at_114) rfl (by decide) ?_
    refine giload (v := c0) X hx 119 (hb hby at_117) rfl rfl ?_
    refine gbipush X hx (58 : Int32) 121 (hb hby at_119) rfl rfl ?_
    rcases Decidable.em (c0 = (58 : Int32)) with s0_121 | s0_121
    · refine gicmpYes X hx 148 (hb hby at_121) (teq s0_121).1 (by decide) (by decide) ?_
      refine giconst X hx (1 : Int32) 149 (hb hby at_148) rfl rfl ?_
      refine ggoto X hx 153 (hb hby at_149) (by decide) (by decide) ?_
      refine gistore X hx #[.val (.int i0), .val (.int i1), .val (.int i2), .val (.int 1), .val (.int c0), .val (.int c1), .val (.int c2), .val (.ref x_30), .val (.int 1), .unset, .unset, .unset, .unset, .unset, .unset, .unset, .unset] 155 (hb hby at_153) rfl rfl ?_
      exact rmLE l Z a0 hw (i0) (i1) (i2) (c0) (c1) (c2) (1) (x_30) (1) (t_31) (kb_32) (d1) (d2) (k1) (k2) (G1) (G3) h0 h28 n0 Z0 sz_h K0 P0_Old G35 G36 G37 G38 (O2) (P5) (O4) (rG3) (D1) (D2) (T1) (T2) (by decide) (pp5) (pp10) (pp15) (Or.inl ⟨rfl, by have e := s0_121; simp [e]⟩) hx hby hml hown hnm hret hlk hZ (standUp X (by decide) (by decide)) eT hS hk C N
    · refine gicmpNo X hx 124 (hb hby at_121) rfl (feq s0_121).1 ?_
      refine giloadN (v := (1 : Int32)) X hx 125 (hb hby at_124) rfl rfl ?_
      refine giconst X hx (1 : Int32) 126 (hb hby at_125) rfl rfl ?_
      refine gicmpYes X hx 136 (hb hby at_126) (by decide) (by decide) (by decide) ?_
      refine giloadN (v := (1 : Int32)) X hx 137 (hb hby at_136) rfl rfl ?_
      refine giconst X hx (2 : Int32) 138 (hb hby at_137) rfl rfl ?_
      refine gicmpYes X hx 152 (hb hby at_138) (by decide) (by decide) (by decide) ?_
      refine giconst X hx (0 : Int32) 153 (hb hby at_152) rfl rfl ?_
      refine gistore X hx #[.val (.int i0), .val (.int i1), .val (.int i2), .val (.int 1), .val (.int c0), .val (.int c1), .val (.int c2), .val (.ref x_30), .val (.int 0), .unset, .unset, .unset, .unset, .unset, .unset, .unset, .unset] 155 (hb hby at_153) rfl rfl ?_
      exact rmLE l Z a0 hw (i0) (i1) (i2) (c0) (c1) (c2) (1) (x_30) (0) (t_31) (kb_32) (d1) (d2) (k1) (k2) (G1) (G3) h0 h28 n0 Z0 sz_h K0 P0_Old G35 G36 G37 G38 (O2) (P5) (O4) (rG3) (D1) (D2) (T1) (T2) (by decide) (pp5) (pp10) (pp15) (Or.inr ⟨rfl, by simp [Ne.symm s0_121]⟩) hx hby hml hown hnm hret hlk hZ (standUp X (by decide) (by decide)) eT hS hk C N
  · rw [e4]
    show Go p e below _ T (mkF m 31 _ [(.int 2)])
    refine gifYes X hx 41 (hb hby at_31) (by decide) (by decide) (by decide) ?_
    refine giloadN (v := (2 : Int32)) X hx 42 (hb hby at_41) rfl rfl ?_
    refine giconst X hx (1 : Int32) 43 (hb hby at_42) rfl rfl ?_
    refine gicmpYes X hx 56 (hb hby at_43) (by decide) (by decide) (by decide) ?_
    refine giloadN (v := (2 : Int32)) X hx 57 (hb hby at_56) rfl rfl ?_
    refine giconst X hx (2 : Int32) 58 (hb hby at_57) rfl rfl ?_
    refine gicmpNo X hx 61 (hb hby at_58) rfl (by decide) ?_
    refine gnewO X hx hZ hown (u252 hw) (u6 hw) (u5 hw) eT 1 4 rfl rfl (by decide) (by decide) 64 (hb hby at_61) rfl ?_
    clear X eT; clear T; intro T h40 b41 X eT ga E42 A43 D44
    have le_a := Nat.le_of_eq ga.symm
    have sz_b41 : h0.size ≤ b41 := Nat.le_trans sz_h le_a
    have ge_b41 : n0 ≤ b41 := Nat.le_trans Z0 sz_b41
    have Sf_b41 := Safe.ext E42 C.1 (Safe.new le_a)
    clear le_a ga
    replace P0_Old := P0_Old.ext E42
    replace K0 := K0.ext E42
    replace C := C.trans (CHr.ext E42 C.1)
    replace hk := Nat.le_trans hk E42.1
    replace sz_h : h0.size ≤ h40.size := Nat.le_trans sz_h E42.1
    have F_value_b41 : Fld Z h40 b41 "java/lang/String" "value" "[B" .null := D44 (Or.inr (u8 hw)) (ty := (.array .byte)) own_pf0
    have F_coder_b41 : Fld Z h40 b41 "java/lang/String" "coder" "B" (.int 0) := D44 (Or.inr (u9 hw)) (ty := .byte) own_pf1
    clear D44
    refine gdup X hx 65 (hb hby at_64) rfl rfl ?_
    refine giconst X hx (2 : Int32) 66 (hb hby at_65) rfl rfl ?_
    refine gnewP (aty := .char) X hx hZ (u253 hw) eT (n := (2 : Int32)) (by decide) 2 (by decide) (by decide) 2 6 rfl rfl (by decide) (by decide) 68 (hb hby at_66) rfl ?_
    clear X eT; clear T; intro T h45 b46 kc49 X eT ga E47 V48
    have le_a := Nat.le_of_eq ga.symm
    have ne_b41_b46 : b41 ≠ b46 := Nat.ne_of_lt (Nat.lt_of_lt_of_le A43.lt le_a)
    have ne_b46_b41 : b46 ≠ b41 := Ne.symm ne_b41_b46
    have sz_b46 : h0.size ≤ b46 := Nat.le_trans sz_h le_a
    have ge_b46 : n0 ≤ b46 := Nat.le_trans Z0 sz_b46
    clear le_a ga
    replace P0_Old := P0_Old.ext E47
    replace A43 := A43.ext E47
    replace Sf_b41 := Safe.ext E47 C.1 Sf_b41
    replace F_value_b41 := F_value_b41.ext E47
    replace F_coder_b41 := F_coder_b41.ext E47
    replace K0 := K0.ext E47
    replace C := C.trans (CHr.ext E47 C.1)
    replace hk := Nat.le_trans hk E47.1
    replace sz_h : h0.size ≤ h45.size := Nat.le_trans sz_h E47.1
    replace V48 : Arv Z h45 b46 kc49 .char (2 : Int32) [(.int 0), (.int 0)] (.int 0) := V48.pad (pad_rep [] _ 2)
    refine gdup X hx 69 (hb hby at_68) rfl rfl ?_
    refine giconst X hx (0 : Int32) 70 (hb hby at_69) rfl rfl ?_
    refine giload (v := c0) X hx 72 (hb hby at_70) rfl rfl ?_
    refine gcastore X hx hZ eT V48 (by decide) (by decide) 0 rfl (Nat.le_of_ble_eq_true rfl) N ge_b46 73 (hb hby at_72) rfl ?_
    clear X eT N; clear T; intro T h51 L X eT N W50 V52
    have sfw := (Safe.arv (EL := own_EL) (vm := vm) hZ.alike V48 (fun z => by cases z))
    replace P0_Old := P0_Old.wr W50 ge_b46
    replace A43 := A43.wr W50
    replace Sf_b41 := Safe.wr W50 sfw C.1 Sf_b41
    replace F_value_b41 := F_value_b41.other W50 (Or.inl ne_b41_b46)
    replace F_coder_b41 := F_coder_b41.other W50 (Or.inl ne_b41_b46)
    replace K0 := K0.wr W50 (Or.inr sz_b46)
    replace C := C.trans (CHr.wr W50 sfw C.1)
    replace hk : k0 ≤ h51.size := by rw [Wr.size W50]; exact hk
    replace sz_h : h0.size ≤ h51.size := by rw [Wr.size W50]; exact sz_h
    replace V52 : Arv Z h51 b46 kc49 .char (2 : Int32) [(.int c0), (.int 0)] (.int 0) := by have z := V52; rw [own_narR pp5] at z; exact z
    refine gdup X hx 74 (hb hby at_73) rfl rfl ?_
    refine giconst X hx (1 : Int32) 75 (hb hby at_74) rfl rfl ?_
    refine giload (v := c1) X hx 77 (hb hby at_75) rfl rfl ?_
    refine gcastore X hx hZ eT V52 (by decide) (by decide) 1 rfl (Nat.le_of_ble_eq_true rfl) N ge_b46 78 (hb hby at_77) rfl ?_
    clear X eT N; clear T; intro T h54 L X eT N W53 V55
    have sfw := (Safe.arv (EL := own_EL) (vm := vm) hZ.alike V52 (fun z => by cases z))
    replace P0_Old := P0_Old.wr W53 ge_b46
    replace A43 := A43.wr W53
    replace Sf_b41 := Safe.wr W53 sfw C.1 Sf_b41
    replace F_value_b41 := F_value_b41.other W53 (Or.inl ne_b41_b46)
    replace F_coder_b41 := F_coder_b41.other W53 (Or.inl ne_b41_b46)
    replace K0 := K0.wr W53 (Or.inr sz_b46)
    replace C := C.trans (CHr.wr W53 sfw C.1)
    replace hk : k0 ≤ h54.size := by rw [Wr.size W53]; exact hk
    replace sz_h : h0.size ≤ h54.size := by rw [Wr.size W53]; exact sz_h
    replace V55 : Arv Z h54 b46 kc49 .char (2 : Int32) [(.int c0), (.int c1)] (.int 0) := by have z := V55; rw [own_narR pp10] at z; exact z
    refine gspecial (y := Y26) (a := b41) (argsL := [(.ref b46)]) (st := [(.ref b41)]) X hx hZ hown rfl (u254 hw) (u255 hw) (u256 hw) (by decide) (StrChars.Road.backV (W := 1) hZ (own_hws hw) (kI := 4) (u6 hw) (cs := ([c0, c1] : List Int32)) (bs := ([c0, c1] : List Int32).map (fun c => c.toInt8.toInt32)) (n := 2) (n0 := n0) ge_b41 (Nat.le_trans Z0 sz_h) A43 F_value_b41 F_coder_b41 V55 (O2.ext P0_Old.2) P5 rfl rfl (by decide) (by decide) (own_cS pp5 (own_cS pp10 own_c0)) rfl (by decide) (by decide)) eT (by rw [hml]; rfl) (lenOf own_pd34 rfl) rfl (Nat.le_of_eq rfl) 3 8 rfl rfl (by decide) (by decide) 81 (hb hby at_78) rfl ?_
    clear X eT; clear T; intro v T h56 L2 Lc X eT hL hQ57
    obtain ⟨rfl, Nq, K58, E61, F62, t59, kb60, -, zz_t59, ntx65, F63, V64⟩ := hQ57
    replace N : Fr n0 L2 := by rw [hL]; exact Fr.app N Nq
    clear Nq hL
    have ne_b41_t59 : b41 ≠ t59 := Nat.ne_of_lt (Nat.lt_of_lt_of_le A43.lt zz_t59)
    have ne_t59_b41 : t59 ≠ b41 := Ne.symm ne_b41_t59
    have ne_b46_t59 : b46 ≠ t59 := Nat.ne_of_lt (Nat.lt_of_lt_of_le V55.lt zz_t59)
    have ne_t59_b46 : t59 ≠ b46 := Ne.symm ne_b46_t59
    have sz_t59 : h0.size ≤ t59 := Nat.le_trans sz_h zz_t59
    have ge_t59 : n0 ≤ t59 := Nat.le_trans Z0 sz_t59
    have sfs := (sfS Sf_b41 sf0)
    replace P0_Old := P0_Old.keep K58 (allS ge_b41 all0)
    replace A43 := A43.keep K58
    replace Sf_b41 := Safe.keep K58 sfs C.1 Sf_b41
    replace V55 := V55.keep K58 (ninS ne_b46_b41 nin0)
    replace K0 := K0.trans K58 (allS (Or.inr sz_b41) all0)
    replace C := C.trans (CHr.keep K58 sfs C.1)
    replace hk := Nat.le_trans hk K58.1
    replace sz_h : h0.size ≤ h56.size := Nat.le_trans sz_h K58.1
    show Go p e below _ T (mkF m 81 _ [(.ref b41)])
    refine gastore X hx #[.val (.int i0), .val (.int i1), .val (.int i2), .val (.int 2), .val (.int c0), .val (.int c1), .val (.int c2), .val (.ref b41), .unset, .unset, .unset, .unset, .unset, .unset, .unset, .unset, .unset] 83 (hb hby at_81) rfl rfl rfl ?_
    refine ggoto X hx 113 (hb hby at_83) (by decide) (by decide) ?_
    refine giloadN (v := (2 : Int32)) X hx 114 (hb hby at_113) rfl rfl ?_
    refine gifNo X hx 117 (hb hby at_114) rfl (by decide) ?_
    refine giload (v := c0) X hx 119 (hb hby at_117) rfl rfl ?_
    refine gbipush X hx (58 : Int32) 121 (hb hby at_119) rfl rfl ?_
    rcases Decidable.em (c0 = (58 : Int32)) with s0_121 | s0_121
    · refine gicmpYes X hx 148 (hb hby at_121) (teq s0_121).1 (by decide) (by decide) ?_
      refine giconst X hx (1 : Int32) 149 (hb hby at_148) rfl rfl ?_
      refine ggoto X hx 153 (hb hby at_149) (by decide) (by decide) ?_
      refine gistore X hx #[.val (.int i0), .val (.int i1), .val (.int i2), .val (.int 2), .val (.int c0), .val (.int c1), .val (.int c2), .val (.ref b41), .val (.int 1), .unset, .unset, .unset, .unset, .unset, .unset, .unset, .unset] 155 (hb hby at_153) rfl rfl ?_
      exact rmLE l Z a0 hw (i0) (i1) (i2) (c0) (c1) (c2) (2) (b41) (1) (t59) (kb60) (d1) (d2) (k1) (k2) (G1) (G3) h0 h56 n0 Z0 sz_h K0 P0_Old E61 F62 F63 V64 (O2) (P5) (O4) (rG3) (D1) (D2) (T1) (T2) (by decide) (pp5) (pp10) (pp15) (Or.inl ⟨rfl, by have e := s0_121; simp [e]⟩) hx hby hml hown hnm hret hlk hZ (standUp X (by decide) (by decide)) eT hS hk C N
    · refine gicmpNo X hx 124 (hb hby at_121) rfl (feq s0_121).1 ?_
      refine giloadN (v := (2 : Int32)) X hx 125 (hb hby at_124) rfl rfl ?_
      refine giconst X hx (1 : Int32) 126 (hb hby at_125) rfl rfl ?_
      refine gicmpNo X hx 129 (hb hby at_126) rfl (by decide) ?_
      refine giload (v := c1) X hx 131 (hb hby at_129) rfl rfl ?_
      refine gbipush X hx (58 : Int32) 133 (hb hby at_131) rfl rfl ?_
      rcases Decidable.em (c1 = (58 : Int32)) with s1_133 | s1_133
      · refine gicmpYes X hx 148 (hb hby at_133) (teq s1_133).1 (by decide) (by decide) ?_
        refine giconst X hx (1 : Int32) 149 (hb hby at_148) rfl rfl ?_
        refine ggoto X hx 153 (hb hby at_149) (by decide) (by decide) ?_
        refine gistore X hx #[.val (.int i0), .val (.int i1), .val (.int i2), .val (.int 2), .val (.int c0), .val (.int c1), .val (.int c2), .val (.ref b41), .val (.int 1), .unset, .unset, .unset, .unset, .unset, .unset, .unset, .unset] 155 (hb hby at_153) rfl rfl ?_
        exact rmLE l Z a0 hw (i0) (i1) (i2) (c0) (c1) (c2) (2) (b41) (1) (t59) (kb60) (d1) (d2) (k1) (k2) (G1) (G3) h0 h56 n0 Z0 sz_h K0 P0_Old E61 F62 F63 V64 (O2) (P5) (O4) (rG3) (D1) (D2) (T1) (T2) (by decide) (pp5) (pp10) (pp15) (Or.inl ⟨rfl, by have e := s1_133; simp [e]⟩) hx hby hml hown hnm hret hlk hZ (standUp X (by decide) (by decide)) eT hS hk C N
      · refine gicmpNo X hx 136 (hb hby at_133) rfl (feq s1_133).1 ?_
        refine giloadN (v := (2 : Int32)) X hx 137 (hb hby at_136) rfl rfl ?_
        refine giconst X hx (2 : Int32) 138 (hb hby at_137) rfl rfl ?_
        refine gicmpYes X hx 152 (hb hby at_138) (by decide) (by decide) (by decide) ?_
        refine giconst X hx (0 : Int32) 153 (hb hby at_152) rfl rfl ?_
        refine gistore X hx #[.val (.int i0), .val (.int i1), .val (.int i2), .val (.int 2), .val (.int c0), .val (.int c1), .val (.int c2), .val (.ref b41), .val (.int 0), .unset, .unset, .unset, .unset, .unset, .unset, .unset, .unset] 155 (hb hby at_153) rfl rfl ?_
        exact rmLE l Z a0 hw (i0) (i1) (i2) (c0) (c1) (c2) (2) (b41) (0) (t59) (kb60) (d1) (d2) (k1) (k2) (G1) (G3) h0 h56 n0 Z0 sz_h K0 P0_Old E61 F62 F63 V64 (O2) (P5) (O4) (rG3) (D1) (D2) (T1) (T2) (by decide) (pp5) (pp10) (pp15) (Or.inr ⟨rfl, by simp [Ne.symm s0_121, Ne.symm s1_133]⟩) hx hby hml hown hnm hret hlk hZ (standUp X (by decide) (by decide)) eT hS hk C N
  · rw [e4]
    show Go p e below _ T (mkF m 31 _ [(.int 3)])
    refine gifYes X hx 41 (hb hby at_31) (by decide) (by decide) (by decide) ?_
    refine giloadN (v := (3 : Int32)) X hx 42 (hb hby at_41) rfl rfl ?_
    refine giconst X hx (1 : Int32) 43 (hb hby at_42) rfl rfl ?_
    refine gicmpYes X hx 56 (hb hby at_43) (by decide) (by decide) (by decide) ?_
    refine giloadN (v := (3 : Int32)) X hx 57 (hb hby at_56) rfl rfl ?_
    refine giconst X hx (2 : Int32) 58 (hb hby at_57) rfl rfl ?_
    refine gicmpYes X hx 86 (hb hby at_58) (by decide) (by decide) (by decide) ?_
    refine gnewO X hx hZ hown (u252 hw) (u6 hw) (u5 hw) eT 1 4 rfl rfl (by decide) (by decide) 89 (hb hby at_86) rfl ?_
    clear X eT; clear T; intro T h66 b67 X eT ga E68 A69 D70
    have le_a := Nat.le_of_eq ga.symm
    have sz_b67 : h0.size ≤ b67 := Nat.le_trans sz_h le_a
    have ge_b67 : n0 ≤ b67 := Nat.le_trans Z0 sz_b67
    have Sf_b67 := Safe.ext E68 C.1 (Safe.new le_a)
    clear le_a ga
    replace P0_Old := P0_Old.ext E68
    replace K0 := K0.ext E68
    replace C := C.trans (CHr.ext E68 C.1)
    replace hk := Nat.le_trans hk E68.1
    replace sz_h : h0.size ≤ h66.size := Nat.le_trans sz_h E68.1
    have F_value_b67 : Fld Z h66 b67 "java/lang/String" "value" "[B" .null := D70 (Or.inr (u8 hw)) (ty := (.array .byte)) own_pf0
    have F_coder_b67 : Fld Z h66 b67 "java/lang/String" "coder" "B" (.int 0) := D70 (Or.inr (u9 hw)) (ty := .byte) own_pf1
    clear D70
    refine gdup X hx 90 (hb hby at_89) rfl rfl ?_
    refine giconst X hx (3 : Int32) 91 (hb hby at_90) rfl rfl ?_
    refine gnewP (aty := .char) X hx hZ (u253 hw) eT (n := (3 : Int32)) (by decide) 3 (by decide) (by decide) 2 7 rfl rfl (by decide) (by decide) 93 (hb hby at_91) rfl ?_
    clear X eT; clear T; intro T h71 b72 kc75 X eT ga E73 V74
    have le_a := Nat.le_of_eq ga.symm
    have ne_b67_b72 : b67 ≠ b72 := Nat.ne_of_lt (Nat.lt_of_lt_of_le A69.lt le_a)
    have ne_b72_b67 : b72 ≠ b67 := Ne.symm ne_b67_b72
    have sz_b72 : h0.size ≤ b72 := Nat.le_trans sz_h le_a
    have ge_b72 : n0 ≤ b72 := Nat.le_trans Z0 sz_b72
    clear le_a ga
    replace P0_Old := P0_Old.ext E73
    replace A69 := A69.ext E73
    replace Sf_b67 := Safe.ext E73 C.1 Sf_b67
    replace F_value_b67 := F_value_b67.ext E73
    replace F_coder_b67 := F_coder_b67.ext E73
    replace K0 := K0.ext E73
    replace C := C.trans (CHr.ext E73 C.1)
    replace hk := Nat.le_trans hk E73.1
    replace sz_h : h0.size ≤ h71.size := Nat.le_trans sz_h E73.1
    replace V74 : Arv Z h71 b72 kc75 .char (3 : Int32) [(.int 0), (.int 0), (.int 0)] (.int 0) := V74.pad (pad_rep [] _ 3)
    refine gdup X hx 94 (hb hby at_93) rfl rfl ?_
    refine giconst X hx (0 : Int32) 95 (hb hby at_94) rfl rfl ?_
    refine giload (v := c0) X hx 97 (hb hby at_95) rfl rfl ?_
    refine gcastore X hx hZ eT V74 (by decide) (by decide) 0 rfl (Nat.le_of_ble_eq_true rfl) N ge_b72 98 (hb hby at_97) rfl ?_
    clear X eT N; clear T; intro T h77 L X eT N W76 V78
    have sfw := (Safe.arv (EL := own_EL) (vm := vm) hZ.alike V74 (fun z => by cases z))
    replace P0_Old := P0_Old.wr W76 ge_b72
    replace A69 := A69.wr W76
    replace Sf_b67 := Safe.wr W76 sfw C.1 Sf_b67
    replace F_value_b67 := F_value_b67.other W76 (Or.inl ne_b67_b72)
    replace F_coder_b67 := F_coder_b67.other W76 (Or.inl ne_b67_b72)
    replace K0 := K0.wr W76 (Or.inr sz_b72)
    replace C := C.trans (CHr.wr W76 sfw C.1)
    replace hk : k0 ≤ h77.size := by rw [Wr.size W76]; exact hk
    replace sz_h : h0.size ≤ h77.size := by rw [Wr.size W76]; exact sz_h
    replace V78 : Arv Z h77 b72 kc75 .char (3 : Int32) [(.int c0), (.int 0), (.int 0)] (.int 0) := by have z := V78; rw [own_narR pp5] at z; exact z
    refine gdup X hx 99 (hb hby at_98) rfl rfl ?_
    refine giconst X hx (1 : Int32) 100 (hb hby at_99) rfl rfl ?_
    refine giload (v := c1) X hx 102 (hb hby at_100) rfl rfl ?_
    refine gcastore X hx hZ eT V78 (by decide) (by decide) 1 rfl (Nat.le_of_ble_eq_true rfl) N ge_b72 103 (hb hby at_102) rfl ?_
    clear X eT N; clear T; intro T h80 L X eT N W79 V81
    have sfw := (Safe.arv (EL := own_EL) (vm := vm) hZ.alike V78 (fun z => by cases z))
    replace P0_Old := P0_Old.wr W79 ge_b72
    replace A69 := A69.wr W79
    replace Sf_b67 := Safe.wr W79 sfw C.1 Sf_b67
    replace F_value_b67 := F_value_b67.other W79 (Or.inl ne_b67_b72)
    replace F_coder_b67 := F_coder_b67.other W79 (Or.inl ne_b67_b72)
    replace K0 := K0.wr W79 (Or.inr sz_b72)
    replace C := C.trans (CHr.wr W79 sfw C.1)
    replace hk : k0 ≤ h80.size := by rw [Wr.size W79]; exact hk
    replace sz_h : h0.size ≤ h80.size := by rw [Wr.size W79]; exact sz_h
    replace V81 : Arv Z h80 b72 kc75 .char (3 : Int32) [(.int c0), (.int c1), (.int 0)] (.int 0) := by have z := V81; rw [own_narR pp10] at z; exact z
    refine gdup X hx 104 (hb hby at_103) rfl rfl ?_
    refine giconst X hx (2 : Int32) 105 (hb hby at_104) rfl rfl ?_
    refine giload (v := c2) X hx 107 (hb hby at_105) rfl rfl ?_
    refine gcastore X hx hZ eT V81 (by decide) (by decide) 2 rfl (Nat.le_of_ble_eq_true rfl) N ge_b72 108 (hb hby at_107) rfl ?_
    clear X eT N; clear T; intro T h83 L X eT N W82 V84
    have sfw := (Safe.arv (EL := own_EL) (vm := vm) hZ.alike V81 (fun z => by cases z))
    replace P0_Old := P0_Old.wr W82 ge_b72
    replace A69 := A69.wr W82
    replace Sf_b67 := Safe.wr W82 sfw C.1 Sf_b67
    replace F_value_b67 := F_value_b67.other W82 (Or.inl ne_b67_b72)
    replace F_coder_b67 := F_coder_b67.other W82 (Or.inl ne_b67_b72)
    replace K0 := K0.wr W82 (Or.inr sz_b72)
    replace C := C.trans (CHr.wr W82 sfw C.1)
    replace hk : k0 ≤ h83.size := by rw [Wr.size W82]; exact hk
    replace sz_h : h0.size ≤ h83.size := by rw [Wr.size W82]; exact sz_h
    replace V84 : Arv Z h83 b72 kc75 .char (3 : Int32) [(.int c0), (.int c1), (.int c2)] (.int 0) := by have z := V84; rw [own_narR pp15] at z; exact z
    refine gspecial (y := Y26) (a := b67) (argsL := [(.ref b72)]) (st := [(.ref b67)]) X hx hZ hown rfl (u254 hw) (u255 hw) (u256 hw) (by decide) (StrChars.Road.backV (W := 1) hZ (own_hws hw) (kI := 4) (u6 hw) (cs := ([c0, c1, c2] : List Int32)) (bs := ([c0, c1, c2] : List Int32).map (fun c => c.toInt8.toInt32)) (n := 3) (n0 := n0) ge_b67 (Nat.le_trans Z0 sz_h) A69 F_value_b67 F_coder_b67 V84 (O2.ext P0_Old.2) P5 rfl rfl (by decide) (by decide) (own_cS pp5 (own_cS pp10 (own_cS pp15 own_c0))) rfl (by decide) (by decide)) eT (by rw [hml]; rfl) (lenOf own_pd34 rfl) rfl (Nat.le_of_eq rfl) 3 10 rfl rfl (by decide) (by decide) 111 (hb hby at_108) rfl ?_
    clear X eT; clear T; intro v T h85 L2 Lc X eT hL hQ86
    obtain ⟨rfl, Nq, K87, E90, F91, t88, kb89, -, zz_t88, ntx94, F92, V93⟩ := hQ86
    replace N : Fr n0 L2 := by rw [hL]; exact Fr.app N Nq
    clear Nq hL
    have ne_b67_t88 : b67 ≠ t88 := Nat.ne_of_lt (Nat.lt_of_lt_of_le A69.lt zz_t88)
    have ne_t88_b67 : t88 ≠ b67 := Ne.symm ne_b67_t88
    have ne_b72_t88 : b72 ≠ t88 := Nat.ne_of_lt (Nat.lt_of_lt_of_le V84.lt zz_t88)
    have ne_t88_b72 : t88 ≠ b72 := Ne.symm ne_b72_t88
    have sz_t88 : h0.size ≤ t88 := Nat.le_trans sz_h zz_t88
    have ge_t88 : n0 ≤ t88 := Nat.le_trans Z0 sz_t88
    have sfs := (sfS Sf_b67 sf0)
    replace P0_Old := P0_Old.keep K87 (allS ge_b67 all0)
    replace A69 := A69.keep K87
    replace Sf_b67 := Safe.keep K87 sfs C.1 Sf_b67
    replace V84 := V84.keep K87 (ninS ne_b72_b67 nin0)
    replace K0 := K0.trans K87 (allS (Or.inr sz_b67) all0)
    replace C := C.trans (CHr.keep K87 sfs C.1)
    replace hk := Nat.le_trans hk K87.1
    replace sz_h : h0.size ≤ h85.size := Nat.le_trans sz_h K87.1
    show Go p e below _ T (mkF m 111 _ [(.ref b67)])
    refine gastore X hx #[.val (.int i0), .val (.int i1), .val (.int i2), .val (.int 3), .val (.int c0), .val (.int c1), .val (.int c2), .val (.ref b67), .unset, .unset, .unset, .unset, .unset, .unset, .unset, .unset, .unset] 113 (hb hby at_111) rfl rfl rfl ?_
    refine giloadN (v := (3 : Int32)) X hx 114 (hb hby at_113) rfl rfl ?_
    refine gifNo X hx 117 (hb hby at_114) rfl (by decide) ?_
    refine giload (v := c0) X hx 119 (hb hby at_117) rfl rfl ?_
    refine gbipush X hx (58 : Int32) 121 (hb hby at_119) rfl rfl ?_
    rcases Decidable.em (c0 = (58 : Int32)) with s0_121 | s0_121
    · refine gicmpYes X hx 148 (hb hby at_121) (teq s0_121).1 (by decide) (by decide) ?_
      refine giconst X hx (1 : Int32) 149 (hb hby at_148) rfl rfl ?_
      refine ggoto X hx 153 (hb hby at_149) (by decide) (by decide) ?_
      refine gistore X hx #[.val (.int i0), .val (.int i1), .val (.int i2), .val (.int 3), .val (.int c0), .val (.int c1), .val (.int c2), .val (.ref b67), .val (.int 1), .unset, .unset, .unset, .unset, .unset, .unset, .unset, .unset] 155 (hb hby at_153) rfl rfl ?_
      exact rmLE l Z a0 hw (i0) (i1) (i2) (c0) (c1) (c2) (3) (b67) (1) (t88) (kb89) (d1) (d2) (k1) (k2) (G1) (G3) h0 h85 n0 Z0 sz_h K0 P0_Old E90 F91 F92 V93 (O2) (P5) (O4) (rG3) (D1) (D2) (T1) (T2) (by decide) (pp5) (pp10) (pp15) (Or.inl ⟨rfl, by have e := s0_121; simp [e]⟩) hx hby hml hown hnm hret hlk hZ (standUp X (by decide) (by decide)) eT hS hk C N
    · refine gicmpNo X hx 124 (hb hby at_121) rfl (feq s0_121).1 ?_
      refine giloadN (v := (3 : Int32)) X hx 125 (hb hby at_124) rfl rfl ?_
      refine giconst X hx (1 : Int32) 126 (hb hby at_125) rfl rfl ?_
      refine gicmpNo X hx 129 (hb hby at_126) rfl (by decide) ?_
      refine giload (v := c1) X hx 131 (hb hby at_129) rfl rfl ?_
      refine gbipush X hx (58 : Int32) 133 (hb hby at_131) rfl rfl ?_
      rcases Decidable.em (c1 = (58 : Int32)) with s1_133 | s1_133
      · refine gicmpYes X hx 148 (hb hby at_133) (teq s1_133).1 (by decide) (by decide) ?_
        refine giconst X hx (1 : Int32) 149 (hb hby at_148) rfl rfl ?_
        refine ggoto X hx 153 (hb hby at_149) (by decide) (by decide) ?_
        refine gistore X hx #[.val (.int i0), .val (.int i1), .val (.int i2), .val (.int 3), .val (.int c0), .val (.int c1), .val (.int c2), .val (.ref b67), .val (.int 1), .unset, .unset, .unset, .unset, .unset, .unset, .unset, .unset] 155 (hb hby at_153) rfl rfl ?_
        exact rmLE l Z a0 hw (i0) (i1) (i2) (c0) (c1) (c2) (3) (b67) (1) (t88) (kb89) (d1) (d2) (k1) (k2) (G1) (G3) h0 h85 n0 Z0 sz_h K0 P0_Old E90 F91 F92 V93 (O2) (P5) (O4) (rG3) (D1) (D2) (T1) (T2) (by decide) (pp5) (pp10) (pp15) (Or.inl ⟨rfl, by have e := s1_133; simp [e]⟩) hx hby hml hown hnm hret hlk hZ (standUp X (by decide) (by decide)) eT hS hk C N
      · refine gicmpNo X hx 136 (hb hby at_133) rfl (feq s1_133).1 ?_
        refine giloadN (v := (3 : Int32)) X hx 137 (hb hby at_136) rfl rfl ?_
        refine giconst X hx (2 : Int32) 138 (hb hby at_137) rfl rfl ?_
        refine gicmpNo X hx 141 (hb hby at_138) rfl (by decide) ?_
        refine giload (v := c2) X hx 143 (hb hby at_141) rfl rfl ?_
        refine gbipush X hx (58 : Int32) 145 (hb hby at_143) rfl rfl ?_
        rcases Decidable.em (c2 = (58 : Int32)) with s2_145 | s2_145
        · refine gicmpNo X hx 148 (hb hby at_145) rfl (teq s2_145).2 ?_
          refine giconst X hx (1 : Int32) 149 (hb hby at_148) rfl rfl ?_
          refine ggoto X hx 153 (hb hby at_149) (by decide) (by decide) ?_
          refine gistore X hx #[.val (.int i0), .val (.int i1), .val (.int i2), .val (.int 3), .val (.int c0), .val (.int c1), .val (.int c2), .val (.ref b67), .val (.int 1), .unset, .unset, .unset, .unset, .unset, .unset, .unset, .unset] 155 (hb hby at_153) rfl rfl ?_
          exact rmLE l Z a0 hw (i0) (i1) (i2) (c0) (c1) (c2) (3) (b67) (1) (t88) (kb89) (d1) (d2) (k1) (k2) (G1) (G3) h0 h85 n0 Z0 sz_h K0 P0_Old E90 F91 F92 V93 (O2) (P5) (O4) (rG3) (D1) (D2) (T1) (T2) (by decide) (pp5) (pp10) (pp15) (Or.inl ⟨rfl, by have e := s2_145; simp [e]⟩) hx hby hml hown hnm hret hlk hZ (standUp X (by decide) (by decide)) eT hS hk C N
        · refine gicmpYes X hx 152 (hb hby at_145) (feq s2_145).2 (by decide) (by decide) ?_
          refine giconst X hx (0 : Int32) 153 (hb hby at_152) rfl rfl ?_
          refine gistore X hx #[.val (.int i0), .val (.int i1), .val (.int i2), .val (.int 3), .val (.int c0), .val (.int c1), .val (.int c2), .val (.ref b67), .val (.int 0), .unset, .unset, .unset, .unset, .unset, .unset, .unset, .unset] 155 (hb hby at_153) rfl rfl ?_
          exact rmLE l Z a0 hw (i0) (i1) (i2) (c0) (c1) (c2) (3) (b67) (0) (t88) (kb89) (d1) (d2) (k1) (k2) (G1) (G3) h0 h85 n0 Z0 sz_h K0 P0_Old E90 F91 F92 V93 (O2) (P5) (O4) (rG3) (D1) (D2) (T1) (T2) (by decide) (pp5) (pp10) (pp15) (Or.inr ⟨rfl, by simp [Ne.symm s0_121, Ne.symm s1_133, Ne.symm s2_145]⟩) hx hby hml hown hnm hret hlk hZ (standUp X (by decide) (by decide)) eT hS hk C N
theorem comes_1 {Post : Tables → Env → Array Value → State → Outcome → State → Prop} (hpost : ∀ tb e args s v u, (limb_1_1.after args s (.returned v) u = true ∧ limb_1_2.after args s (.returned v) u = true ∧ True) → FramedW s (.returned v) u (Jvm.fieldLocs frame_1_writes args s ++ Jvm.arrayLocs frame_1_arrays args s ++ Jvm.staticLocs frame_1_statics s) 48 6528 → Post tb e args s (.returned v) u) :
    ArmFor flags0 classFile x code maxLocals ret World_1 tables_1 room_1 Calls_1 rest_1 Pre_1 Post := by
  intro l hfl _ _ p e ha hc hk s m args below hf hA hF happ hP
  obtain ⟨hcalls, hrest, hpre⟩ := hP
  obtain ⟨-, -, -, hnamed, -, -, -, hat⟩ := (Spec.applies_iff hf).mp happ
  obtain ⟨hg, hn⟩ := and_e (Cond.before_iff.mp (show (Jvm.Cond.and given_1 narrow_1).before args s = true from hpre))
  obtain ⟨h1, g0⟩ := and_e hg
  obtain ⟨k0, g1⟩ := and_e g0
  obtain ⟨k1, g2⟩ := and_e g1
  obtain ⟨w0, w1, w2, rfl⟩ : ∃ w0 w1 w2 : Value, args = #[w0, w1, w2] := by
    have hs : args.size = 3 := by simpa [Cond.value, given_1] using h1
    obtain ⟨L⟩ := args
    match L, hs with
    | [w0, w1, w2], _ => exact ⟨w0, w1, w2, rfl⟩
  have hw := fun d (hd : d ∈ tables_1) => atoms_spec (ws := Jvm.Cond.code x code maxLocals ret :: tables_1) hat d (List.mem_cons_of_mem _ hd)
  obtain ⟨hsets, hown0⟩ := atoms_of _ (rest_1_c_eq ▸ (show rest_1_c.before _ s = true from hrest))
  obtain ⟨i0, e0⟩ := is_v k0
  obtain rfl : w0 = (.int i0) := Option.some.inj e0
  obtain ⟨i1, e1⟩ := is_v k1
  obtain rfl : w1 = (.int i1) := Option.some.inj e1
  obtain ⟨i2, e2⟩ := is_v g2
  obtain rfl : w2 = (.int i2) := Option.some.inj e2
  have n3 := not_v (Cond.before_iff.mp (hsets _ (List.mem_of_getElem? (i := 2) rfl)))
  obtain ⟨j7, f6⟩ := is_v (Cond.before_iff.mp (hsets _ (List.mem_of_getElem? (i := 1) rfl)))
  have S8 : Sta s s.heap "java/lang/String" "COMPACT_STRINGS" "Z" (.int j7) := Sta.start f6 (Or.inl (hsets _ (List.mem_of_getElem? (i := 0) rfl)))
  have c13 : ¬ (j7 = (0 : Int32)) := gotF (Cond.eq_ints f6 (Term.int_eval (0))) n3
  obtain ⟨v9, e10, r11⟩ := isR_v (Cond.before_iff.mp (hsets _ (List.mem_of_getElem? (i := 8) rfl)))
  have S12 : Sta s s.heap "jdk/internal/util/Preconditions" "SIOOBE_FORMATTER" "Ljava/util/function/BiFunction;" v9 := Sta.start e10 (Or.inl (hsets _ (List.mem_of_getElem? (i := 7) rfl)))
  obtain ⟨d1, q1, SD1, TD1⟩ := own_tbl (name := "DigitOnes") (F := fun r => 48 + r % 10) (hsets _ (List.mem_of_getElem? (i := 12) rfl)) (hsets _ (List.mem_of_getElem? (i := 13) rfl)) (hsets _ (List.mem_of_getElem? (i := 14) rfl)) (hsets _ (List.mem_of_getElem? (i := 11) rfl)) (u7 hw) (fun r hr => by rw [← own_o1 r hr]; rfl) own_f1
  obtain ⟨d2, q2, SD2, TD2⟩ := own_tbl (name := "DigitTens") (F := fun r => 48 + r / 10) (hsets _ (List.mem_of_getElem? (i := 17) rfl)) (hsets _ (List.mem_of_getElem? (i := 18) rfl)) (hsets _ (List.mem_of_getElem? (i := 19) rfl)) (hsets _ (List.mem_of_getElem? (i := 16) rfl)) (u7 hw) (fun r hr => by rw [← own_o2 r hr]; rfl) own_f2
  obtain ⟨n, o, h1, h2, h3, _, L, rfl, ⟨rfl, N, -⟩, hq⟩ := rm0 l s _ hw i0 i1 i2 d1 d2 q1 q2 j7 v9 s.heap s.heap.size (Nat.le_refl _) (Old.start s) S8 c13 S12 r11 SD1 SD2 TD1 TD2 p e ha hc hk s m _ below hf ((Spec.applies_iff_loose hf).mp happ).1 ⟨rfl, State.Warmed39.refl s, rfl, CHv.start (own_EW hw) (fun p hp => hcalls.1 p hp) (hsets _ (List.mem_of_getElem? (i := 2) rfl)) (u7 hw) (u6 hw)⟩ trivial
  refine ⟨n, _, h1, h2, h3, hpost _ _ _ _ _ _ ⟨Cond.after_iff.mpr rfl, Cond.after_iff.mpr (eq_i res_at (Term.int_eval (1)) rfl), trivial⟩ ⟨hq.1, hq.2.1, hq.2.2.1, (hq.2.2.2.sift fun y hy => Or.inr (N y hy)).mono (by decide) (by decide)⟩⟩
theorem main_1_1 : Claimed_1_1 := comes_1 fun _ _ _ _ _ _ h hF => ⟨h.1, hF⟩
theorem main_1_2 : Claimed_1_2 := comes_1 fun _ _ _ _ _ _ h hF => ⟨h.2.1, hF⟩
end Jvm.Pilot.@@N@@
namespace Jvm.Pilot.@@N@@
open Jvm Jvm.ClassFile Sem Op Lib Jvm.Free Jvm.Stand Jvm.Pilot.@@N@@.Jvm.D
/-! MADE BY PROGRAM (witnessworld.py) out of the Statement's table words and the real class files: 29 classes; the members and pool entries that the words name. The judged class is class 1, her method 7. -/
namespace start1
open Jvm.ClassFile
def u (s : String) : CpInfo := .utf8 (stringToUtf16 s)
/-- a pool by its gaps: so many unusable entries, then the entry; so many at the end -/
def gap : Nat → List CpInfo → List CpInfo
  | 0, r => r
  | n + 1, r => .unusable :: gap n r
def poolList (es : List (Nat × CpInfo)) (last : Nat) : List CpInfo := es.foldr (fun e r => gap e.1 (e.2 :: r)) (gap last [])
def pool (es : List (Nat × CpInfo)) (last : Nat) : Array CpInfo := ⟨poolList es last⟩
def fileOf (pool : Array CpInfo) (this : Nat) (attrs : Array Attribute := #[]) (ms : Array MethodInfo := #[]) (fl : Nat := 33) (sup : Nat := 0) (ifs : Array Nat := #[]) (fds : Array FieldInfo := #[]) : ClassFile where
  minorVersion := 0
  majorVersion := 65
  constantPool := pool
  accessFlags := fl
  thisClass := this
  superClass := sup
  interfaces := ifs
  fields := fds
  methods := ms
  attributes := attrs
def plain (name : String) (sup : Option ClassId) : Class where
  name := name
  kind := .ordinary
  loader := none
  accessFlags := 33
  super := sup
  interfaces := #[]
  cf := none
  fields := #[]
  methods := #[]
  instanceTypes := #[]
  staticTypes := #[]
  resolved := #[]
  callSites := []
  init := .initialized
  statics := none
  mirror := none

def pool0 : Array CpInfo := pool [(5, u "<init>"), (0, u "()V"), (1, .class_ 10), (1, u "java/lang/Object"), (85, u "clone"), (0, u "()Ljava/lang/Object;")] 26

def k0c0 : Code := { maxStack := 0, maxLocals := 1, code := object_method_1_code, exceptionTable := #[], attributes := #[] }
def k0m0 : Method := { name := "<init>", desc := "()V", sig := { parameters := [], returnType := none }, accessFlags := 1, code := some k0c0 }
def k0m1 : Method := { name := "clone", desc := "()Ljava/lang/Object;", sig := { parameters := [], returnType := some (.object "java/lang/Object") }, accessFlags := 260, code := none }
/-- java/lang/Object -/
def k0 : Class := { plain "java/lang/Object" none with
  accessFlags := 33
  interfaces := #[]
  cf := some (fileOf pool0 8 #[] #[{ accessFlags := 1, nameIndex := 5, descriptorIndex := 6, attributes := #[] }, { accessFlags := 260, nameIndex := 96, descriptorIndex := 97, attributes := #[] }] 33 0 #[] #[])
  fields := #[]
  methods := #[k0m0, k0m1]
  instanceTypes := #[]
  staticTypes := #[]
  resolved := Array.replicate 124 none
  statics := none }

def pool1 : Array CpInfo := pool [(2, .class_ 4), (1, u "java/lang/Object"), (0, u "<init>"), (0, u "()V"), (0, .integer 100000), (0, .integer 1000000), (0, .integer 10000000), (0, .integer 100000000), (0, .integer 1000000000), (0, .methodref 13 14), (0, .class_ 15), (0, .nameAndType 16 17), (0, u "com/example/per1od/per1od/StoreAddressToStringPinLaw"), (0, u "p10"), (0, u "(I)I"), (0, .methodref 19 20), (0, .class_ 21), (0, .nameAndType 22 23), (0, u "java/lang/String"), (0, u "length"), (0, u "()I"), (0, .methodref 19 25), (0, .nameAndType 26 27), (0, u "charAt"), (0, u "(I)C"), (0, .methodref 13 29), (0, .nameAndType 30 17), (0, u "ndig"), (0, .methodref 13 32), (0, .nameAndType 33 34), (0, u "dig"), (0, u "(II)C"), (0, .methodref 13 36), (0, .nameAndType 37 38), (0, u "at"), (0, u "(Ljava/lang/String;IC)Z"), (0, .methodref 13 40), (0, .nameAndType 41 27), (0, u "hc"), (0, .string 43), (0, u ""), (0, .methodref 19 45), (0, .nameAndType 46 47), (0, u "valueOf"), (0, u "(C)Ljava/lang/String;"), (0, .methodref 19 49), (0, .nameAndType 5 50), (0, u "([C)V"), (0, .integer 2147483647), (0, .integer 65535), (0, .class_ 54), (0, u "com/example/per1od/per1od/StoreAddress"), (0, .methodref 53 56), (0, .nameAndType 5 57), (0, u "(Ljava/lang/String;II)V"), (0, .methodref 53 59), (0, .nameAndType 60 61), (0, u "toString"), (0, u "()Ljava/lang/String;"), (0, .methodref 13 63), (0, .nameAndType 64 65), (0, u "num"), (0, u "(Ljava/lang/String;II)Z"), (3, u "law"), (0, u "(III)Z")] 2

def k1m0 : Method := { name := "<init>", desc := "()V", sig := { parameters := [], returnType := none }, accessFlags := 1, code := none }
def k1c1 : Code := { maxStack := 2, maxLocals := 1, code := method_2_code, exceptionTable := #[], attributes := #[] }
def k1m1 : Method := { name := "p10", desc := "(I)I", sig := { parameters := [.int], returnType := some .int }, accessFlags := 10, code := some k1c1 }
def k1c2 : Code := { maxStack := 3, maxLocals := 2, code := method_3_code, exceptionTable := #[], attributes := #[] }
def k1m2 : Method := { name := "dig", desc := "(II)C", sig := { parameters := [.int, .int], returnType := some .char }, accessFlags := 10, code := some k1c2 }
def k1c3 : Code := { maxStack := 2, maxLocals := 1, code := method_4_code, exceptionTable := #[], attributes := #[] }
def k1m3 : Method := { name := "ndig", desc := "(I)I", sig := { parameters := [.int], returnType := some .int }, accessFlags := 10, code := some k1c3 }
def k1c4 : Code := { maxStack := 2, maxLocals := 3, code := method_5_code, exceptionTable := #[], attributes := #[] }
def k1m4 : Method := { name := "at", desc := "(Ljava/lang/String;IC)Z", sig := { parameters := [(.object "java/lang/String"), .int, .char], returnType := some .boolean }, accessFlags := 10, code := some k1c4 }
def k1c5 : Code := { maxStack := 4, maxLocals := 5, code := method_6_code, exceptionTable := #[], attributes := #[] }
def k1m5 : Method := { name := "num", desc := "(Ljava/lang/String;II)Z", sig := { parameters := [(.object "java/lang/String"), .int, .int], returnType := some .boolean }, accessFlags := 10, code := some k1c5 }
def k1c6 : Code := { maxStack := 2, maxLocals := 2, code := method_7_code, exceptionTable := #[], attributes := #[] }
def k1m6 : Method := { name := "hc", desc := "(I)C", sig := { parameters := [.int], returnType := some .char }, accessFlags := 10, code := some k1c6 }
def k1c7 : Code := { maxStack := 6, maxLocals := 17, code := code, exceptionTable := #[], attributes := #[] }
def k1m7 : Method := { name := "law", desc := "(III)Z", sig := { parameters := [.int, .int, .int], returnType := some .boolean }, accessFlags := 9, code := some k1c7 }
/-- com/example/per1od/per1od/StoreAddressToStringPinLaw -/
def k1 : Class := { plain "com/example/per1od/per1od/StoreAddressToStringPinLaw" (some 0) with
  accessFlags := 49
  interfaces := #[]
  cf := some (fileOf pool1 13 #[] #[{ accessFlags := 1, nameIndex := 5, descriptorIndex := 6, attributes := #[] }, { accessFlags := 10, nameIndex := 16, descriptorIndex := 17, attributes := #[] }, { accessFlags := 10, nameIndex := 33, descriptorIndex := 34, attributes := #[] }, { accessFlags := 10, nameIndex := 30, descriptorIndex := 17, attributes := #[] }, { accessFlags := 10, nameIndex := 37, descriptorIndex := 38, attributes := #[] }, { accessFlags := 10, nameIndex := 64, descriptorIndex := 65, attributes := #[] }, { accessFlags := 10, nameIndex := 41, descriptorIndex := 27, attributes := #[] }, { accessFlags := 9, nameIndex := 69, descriptorIndex := 70, attributes := #[] }] 49 2 #[] #[])
  fields := #[]
  methods := #[k1m0, k1m1, k1m2, k1m3, k1m4, k1m5, k1m6, k1m7]
  instanceTypes := #[]
  staticTypes := #[]
  resolved := Array.replicate 73 none
  statics := none }

def pool2 : Array CpInfo := pool [(1, .class_ 2), (0, u "java/io/Serializable"), (0, .class_ 4), (0, u "java/lang/Object")] 2

/-- java/io/Serializable -/
def k2 : Class := { plain "java/io/Serializable" (some 0) with
  accessFlags := 1537
  interfaces := #[]
  cf := some (fileOf pool2 1 #[] #[] 1537 3 #[] #[])
  fields := #[]
  methods := #[]
  instanceTypes := #[]
  staticTypes := #[]
  resolved := Array.replicate 7 none
  statics := none }

def pool3 : Array CpInfo := pool [(1, .class_ 2), (0, u "java/lang/Comparable"), (0, .class_ 4), (0, u "java/lang/Object")] 7

/-- java/lang/Comparable -/
def k3 : Class := { plain "java/lang/Comparable" (some 0) with
  accessFlags := 1537
  interfaces := #[]
  cf := some (fileOf pool3 1 #[] #[] 1537 3 #[] #[])
  fields := #[]
  methods := #[]
  instanceTypes := #[]
  staticTypes := #[]
  resolved := Array.replicate 12 none
  statics := none }

def pool4 : Array CpInfo := pool [(2, .class_ 4), (1, u "java/lang/CharSequence"), (42, .class_ 48), (0, u "java/lang/CharSequence$1CodePointIterator"), (10, .class_ 60), (0, u "java/lang/CharSequence$1CharIterator"), (5, .class_ 67), (0, u "java/lang/Object"), (10, u "toString"), (0, u "()Ljava/lang/String;")] 51

def k4m0 : Method := { name := "toString", desc := "()Ljava/lang/String;", sig := { parameters := [], returnType := some (.object "java/lang/String") }, accessFlags := 1025, code := none }
/-- java/lang/CharSequence -/
def k4 : Class := { plain "java/lang/CharSequence" (some 0) with
  accessFlags := 1537
  interfaces := #[]
  cf := some (fileOf pool4 2 #[.nestMembers #[47, 59]] #[{ accessFlags := 1025, nameIndex := 78, descriptorIndex := 79, attributes := #[] }] 1537 66 #[] #[])
  fields := #[]
  methods := #[k4m0]
  instanceTypes := #[]
  staticTypes := #[]
  resolved := Array.replicate 131 none
  statics := none }

def pool5 : Array CpInfo := pool [(1, .class_ 2), (0, u "java/lang/constant/Constable"), (0, .class_ 4), (0, u "java/lang/Object")] 6

/-- java/lang/constant/Constable -/
def k5 : Class := { plain "java/lang/constant/Constable" (some 0) with
  accessFlags := 1537
  interfaces := #[]
  cf := some (fileOf pool5 1 #[] #[] 1537 3 #[] #[])
  fields := #[]
  methods := #[]
  instanceTypes := #[]
  staticTypes := #[]
  resolved := Array.replicate 11 none
  statics := none }

def pool6 : Array CpInfo := pool [(1, .class_ 2), (0, u "java/lang/constant/ConstantDesc"), (0, .class_ 4), (0, u "java/lang/Object")] 32

/-- java/lang/constant/ConstantDesc -/
def k6 : Class := { plain "java/lang/constant/ConstantDesc" (some 0) with
  accessFlags := 1537
  interfaces := #[]
  cf := some (fileOf pool6 1 #[] #[] 1537 3 #[] #[])
  fields := #[]
  methods := #[]
  instanceTypes := #[]
  staticTypes := #[]
  resolved := Array.replicate 37 none
  statics := none }

def pool7 : Array CpInfo := pool [(1, .methodref 2 3), (0, .class_ 4), (0, .nameAndType 5 6), (0, u "java/lang/Object"), (0, u "<init>"), (0, u "()V"), (2, .fieldref 10 11), (0, .class_ 12), (0, .nameAndType 13 14), (0, u "java/lang/String"), (0, u "value"), (0, u "[B"), (0, .fieldref 10 16), (0, .nameAndType 17 18), (0, u "coder"), (0, u "B"), (2, u "hash"), (0, u "I"), (2, u "hashIsZero"), (0, u "Z"), (0, .methodref 10 28), (0, .nameAndType 5 29), (0, u "([CIILjava/lang/Void;)V"), (8, .fieldref 10 39), (0, .nameAndType 40 26), (0, u "COMPACT_STRINGS"), (1, .class_ 44), (1, u "java/lang/StringUTF16"), (0, u "compress"), (1, .methodref 42 48), (0, .nameAndType 49 50), (0, u "coderFromArrayLen"), (0, u "([BI)B"), (2, u "toBytes"), (0, .methodref 55 56), (0, .class_ 57), (0, .nameAndType 58 59), (0, u "java/util/Arrays"), (0, u "copyOfRange"), (0, u "([BII)[B"), (47, .class_ 109), (1, u "java/lang/StringLatin1"), (32, u "()Z"), (34, .methodref 42 178), (0, .nameAndType 45 179), (0, u "([CII)[B"), (13, .class_ 195), (1, u "java/lang/System"), (13, .methodref 10 210), (0, .nameAndType 5 211), (0, u "([BB)V"), (0, .methodref 193 213), (0, .nameAndType 214 215), (0, u "arraycopy"), (0, u "(Ljava/lang/Object;ILjava/lang/Object;II)V"), (118, u "()I"), (0, .methodref 10 336), (0, .nameAndType 17 337), (0, u "()B"), (2, u "()[B"), (22, u "([BI)C"), (5, u "(C)Z"), (21, u "(II)V"), (35, u "(I)C"), (34, .nameAndType 463 464), (0, u "toString"), (0, u "()Ljava/lang/String;"), (24, .methodref 10 490), (0, .nameAndType 5 491), (0, u "(Ljava/lang/AbstractStringBuilder;Ljava/lang/Void;)V"), (0, .methodref 10 493), (0, .nameAndType 494 142), (0, u "isLatin1"), (0, .methodref 107 496), (0, .nameAndType 497 363), (0, u "charAt"), (3, u "checkIndex"), (4, .nameAndType 507 334), (0, u "length"), (24, u "getBytes"), (15, u "(Ljava/lang/CharSequence;)Z"), (0, .methodref 550 506), (0, .class_ 551), (0, u "java/lang/AbstractStringBuilder"), (0, .methodref 550 553), (0, .nameAndType 554 340), (0, u "getValue"), (20, .class_ 576), (0, u "java/lang/CharSequence"), (12, u "([B[B)I"), (9, u "CASE_INSENSITIVE_ORDER"), (0, u "Ljava/util/Comparator;"), (34, u "indexOf"), (11, .methodref 107 648), (0, .nameAndType 635 589), (61, .interfaceMethodref 575 462), (0, .methodref 10 712), (0, .nameAndType 635 713), (0, u "(Ljava/lang/String;)I"), (68, u "valueOf"), (0, u "(C)Ljava/lang/String;"), (37, u "([BIB)V"), (188, u "([C)V"), (4, .methodref 107 1016), (0, .nameAndType 1017 369), (0, u "canEncode"), (0, .methodref 107 1019), (0, .nameAndType 53 1020), (0, u "(C)[B"), (26, .methodref 550 493), (5, .fieldref 1054 1055), (0, .class_ 1056), (0, .nameAndType 1057 1058), (0, u "jdk/internal/util/Preconditions"), (0, u "SIOOBE_FORMATTER"), (0, u "Ljava/util/function/BiFunction;"), (0, .methodref 1054 1060), (0, .nameAndType 501 1061), (0, u "(IILjava/util/function/BiFunction;)I"), (39, u "serialPersistentFields"), (0, u "[Ljava/io/ObjectStreamField;"), (0, .class_ 1104), (0, u "java/lang/String$CaseInsensitiveComparator"), (1, .class_ 1107), (0, u "java/io/Serializable"), (0, .class_ 1109), (0, u "java/lang/Comparable"), (0, .class_ 1111), (0, u "java/lang/constant/Constable"), (0, .class_ 1113), (0, u "java/lang/constant/ConstantDesc"), (2, u "serialVersionUID"), (0, u "J"), (3, u "REPL"), (0, u "C"), (2, u "LATIN1"), (1, u "UTF16"), (105, u "(Ljava/lang/StringBuilder;)V"), (57, u "contains")] 159

def k7m0 : Method := { name := "<init>", desc := "()V", sig := { parameters := [], returnType := none }, accessFlags := 1, code := none }
def k7c1 : Code := { maxStack := 5, maxLocals := 2, code := jdk_42_method_3_code, exceptionTable := #[], attributes := #[] }
def k7m1 : Method := { name := "<init>", desc := "([C)V", sig := { parameters := [(.array .char)], returnType := none }, accessFlags := 1, code := some k7c1 }
def k7c2 : Code := { maxStack := 3, maxLocals := 2, code := jdk_42_method_53_code, exceptionTable := #[], attributes := #[] }
def k7m2 : Method := { name := "<init>", desc := "(Ljava/lang/StringBuilder;)V", sig := { parameters := [(.object "java/lang/StringBuilder")], returnType := none }, accessFlags := 1, code := some k7c2 }
def k7c3 : Code := { maxStack := 2, maxLocals := 1, code := jdk_42_method_54_code, exceptionTable := #[], attributes := #[] }
def k7m3 : Method := { name := "length", desc := "()I", sig := { parameters := [], returnType := some .int }, accessFlags := 1, code := some k7c3 }
def k7c4 : Code := { maxStack := 2, maxLocals := 2, code := jdk_42_method_56_code, exceptionTable := #[], attributes := #[] }
def k7m4 : Method := { name := "charAt", desc := "(I)C", sig := { parameters := [.int], returnType := some .char }, accessFlags := 1, code := some k7c4 }
def k7c5 : Code := { maxStack := 2, maxLocals := 3, code := jdk_42_method_84_code, exceptionTable := #[], attributes := #[] }
def k7m5 : Method := { name := "indexOf", desc := "(Ljava/lang/String;)I", sig := { parameters := [(.object "java/lang/String")], returnType := some .int }, accessFlags := 1, code := some k7c5 }
def k7c6 : Code := { maxStack := 2, maxLocals := 2, code := jdk_42_method_97_code, exceptionTable := #[], attributes := #[] }
def k7m6 : Method := { name := "contains", desc := "(Ljava/lang/CharSequence;)Z", sig := { parameters := [(.object "java/lang/CharSequence")], returnType := some .boolean }, accessFlags := 1, code := some k7c6 }
def k7c7 : Code := { maxStack := 1, maxLocals := 1, code := jdk_42_method_126_code, exceptionTable := #[], attributes := #[] }
def k7m7 : Method := { name := "toString", desc := "()Ljava/lang/String;", sig := { parameters := [], returnType := some (.object "java/lang/String") }, accessFlags := 1, code := some k7c7 }
def k7c8 : Code := { maxStack := 4, maxLocals := 1, code := jdk_42_method_139_code, exceptionTable := #[], attributes := #[] }
def k7m8 : Method := { name := "valueOf", desc := "(C)Ljava/lang/String;", sig := { parameters := [.char], returnType := some (.object "java/lang/String") }, accessFlags := 9, code := some k7c8 }
def k7c9 : Code := { maxStack := 5, maxLocals := 4, code := jdk_42_method_147_code, exceptionTable := #[], attributes := #[] }
def k7m9 : Method := { name := "getBytes", desc := "([BIB)V", sig := { parameters := [(.array .byte), .int, .byte], returnType := none }, accessFlags := 0, code := some k7c9 }
def k7c10 : Code := { maxStack := 4, maxLocals := 6, code := jdk_42_method_149_code, exceptionTable := #[], attributes := #[] }
def k7m10 : Method := { name := "<init>", desc := "([CIILjava/lang/Void;)V", sig := { parameters := [(.array .char), .int, .int, (.object "java/lang/Void")], returnType := none }, accessFlags := 2, code := some k7c10 }
def k7c11 : Code := { maxStack := 5, maxLocals := 5, code := jdk_42_method_150_code, exceptionTable := #[], attributes := #[] }
def k7m11 : Method := { name := "<init>", desc := "(Ljava/lang/AbstractStringBuilder;Ljava/lang/Void;)V", sig := { parameters := [(.object "java/lang/AbstractStringBuilder"), (.object "java/lang/Void")], returnType := none }, accessFlags := 0, code := some k7c11 }
def k7c12 : Code := { maxStack := 2, maxLocals := 3, code := jdk_42_method_151_code, exceptionTable := #[], attributes := #[] }
def k7m12 : Method := { name := "<init>", desc := "([BB)V", sig := { parameters := [(.array .byte), .byte], returnType := none }, accessFlags := 0, code := some k7c12 }
def k7c13 : Code := { maxStack := 1, maxLocals := 1, code := jdk_42_method_152_code, exceptionTable := #[], attributes := #[] }
def k7m13 : Method := { name := "coder", desc := "()B", sig := { parameters := [], returnType := some .byte }, accessFlags := 0, code := some k7c13 }
def k7c14 : Code := { maxStack := 1, maxLocals := 1, code := jdk_42_method_154_code, exceptionTable := #[], attributes := #[] }
def k7m14 : Method := { name := "isLatin1", desc := "()Z", sig := { parameters := [], returnType := some .boolean }, accessFlags := 0, code := some k7c14 }
def k7c15 : Code := { maxStack := 3, maxLocals := 2, code := jdk_42_method_155_code, exceptionTable := #[], attributes := #[] }
def k7m15 : Method := { name := "checkIndex", desc := "(II)V", sig := { parameters := [.int, .int], returnType := none }, accessFlags := 8, code := some k7c15 }
/-- java/lang/String -/
def k7 : Class := { plain "java/lang/String" (some 0) with
  accessFlags := 49
  interfaces := #[2, 3, 4, 5, 6]
  cf := some (fileOf pool7 10 #[.nestMembers #[1103]] #[{ accessFlags := 1, nameIndex := 5, descriptorIndex := 6, attributes := #[] }, { accessFlags := 1, nameIndex := 5, descriptorIndex := 1010, attributes := #[] }, { accessFlags := 1, nameIndex := 5, descriptorIndex := 1233, attributes := #[] }, { accessFlags := 1, nameIndex := 507, descriptorIndex := 334, attributes := #[] }, { accessFlags := 1, nameIndex := 497, descriptorIndex := 427, attributes := #[] }, { accessFlags := 1, nameIndex := 635, descriptorIndex := 713, attributes := #[] }, { accessFlags := 1, nameIndex := 1291, descriptorIndex := 548, attributes := #[] }, { accessFlags := 1, nameIndex := 463, descriptorIndex := 464, attributes := #[] }, { accessFlags := 9, nameIndex := 782, descriptorIndex := 783, attributes := #[] }, { accessFlags := 0, nameIndex := 532, descriptorIndex := 821, attributes := #[] }, { accessFlags := 2, nameIndex := 5, descriptorIndex := 29, attributes := #[] }, { accessFlags := 0, nameIndex := 5, descriptorIndex := 491, attributes := #[] }, { accessFlags := 0, nameIndex := 5, descriptorIndex := 211, attributes := #[] }, { accessFlags := 0, nameIndex := 17, descriptorIndex := 337, attributes := #[] }, { accessFlags := 0, nameIndex := 494, descriptorIndex := 142, attributes := #[] }, { accessFlags := 8, nameIndex := 501, descriptorIndex := 391, attributes := #[] }] 49 2 #[1106, 1108, 575, 1110, 1112] #[{ accessFlags := 18, nameIndex := 13, descriptorIndex := 14, attributes := #[] }, { accessFlags := 18, nameIndex := 17, descriptorIndex := 18, attributes := #[] }, { accessFlags := 2, nameIndex := 21, descriptorIndex := 22, attributes := #[] }, { accessFlags := 2, nameIndex := 25, descriptorIndex := 26, attributes := #[] }, { accessFlags := 26, nameIndex := 1116, descriptorIndex := 1117, attributes := #[] }, { accessFlags := 24, nameIndex := 40, descriptorIndex := 26, attributes := #[] }, { accessFlags := 26, nameIndex := 1101, descriptorIndex := 1102, attributes := #[] }, { accessFlags := 26, nameIndex := 1121, descriptorIndex := 1122, attributes := #[] }, { accessFlags := 25, nameIndex := 599, descriptorIndex := 600, attributes := #[] }, { accessFlags := 24, nameIndex := 1125, descriptorIndex := 18, attributes := #[] }, { accessFlags := 24, nameIndex := 1127, descriptorIndex := 18, attributes := #[] }])
  fields := #[{ name := "value", type := (.array .byte), accessFlags := 18, slot := 0, constantValue := 0 }, { name := "coder", type := .byte, accessFlags := 18, slot := 1, constantValue := 0 }, { name := "hash", type := .int, accessFlags := 2, slot := 2, constantValue := 0 }, { name := "hashIsZero", type := .boolean, accessFlags := 2, slot := 3, constantValue := 0 }, { name := "serialVersionUID", type := .long, accessFlags := 26, slot := 0, constantValue := 0 }, { name := "COMPACT_STRINGS", type := .boolean, accessFlags := 24, slot := 1, constantValue := 0 }, { name := "serialPersistentFields", type := (.array (.object "java/io/ObjectStreamField")), accessFlags := 26, slot := 2, constantValue := 0 }, { name := "REPL", type := .char, accessFlags := 26, slot := 3, constantValue := 0 }, { name := "CASE_INSENSITIVE_ORDER", type := (.object "java/util/Comparator"), accessFlags := 25, slot := 4, constantValue := 0 }, { name := "LATIN1", type := .byte, accessFlags := 24, slot := 5, constantValue := 0 }, { name := "UTF16", type := .byte, accessFlags := 24, slot := 6, constantValue := 0 }]
  methods := #[k7m0, k7m1, k7m2, k7m3, k7m4, k7m5, k7m6, k7m7, k7m8, k7m9, k7m10, k7m11, k7m12, k7m13, k7m14, k7m15]
  instanceTypes := #[(.array .byte), .byte, .int, .boolean]
  staticTypes := #[.long, .boolean, (.array (.object "java/io/ObjectStreamField")), .char, (.object "java/util/Comparator"), .byte, .byte]
  resolved := Array.replicate 1451 none
  statics := some 0 }

def pool8 : Array CpInfo := pool [(1, .methodref 2 3), (0, .class_ 4), (0, .nameAndType 5 6), (0, u "java/lang/Object"), (0, u "<init>"), (0, u "()V"), (0, .class_ 8), (0, u "java/lang/Record")] 13

def k8c0 : Code := { maxStack := 1, maxLocals := 1, code := jdk_30_method_1_code, exceptionTable := #[], attributes := #[] }
def k8m0 : Method := { name := "<init>", desc := "()V", sig := { parameters := [], returnType := none }, accessFlags := 4, code := some k8c0 }
/-- java/lang/Record -/
def k8 : Class := { plain "java/lang/Record" (some 0) with
  accessFlags := 1057
  interfaces := #[]
  cf := some (fileOf pool8 7 #[] #[{ accessFlags := 4, nameIndex := 5, descriptorIndex := 6, attributes := #[] }] 1057 2 #[] #[])
  fields := #[]
  methods := #[k8m0]
  instanceTypes := #[]
  staticTypes := #[]
  resolved := Array.replicate 22 none
  statics := none }

def pool9 : Array CpInfo := pool [(1, .methodref 2 3), (0, .class_ 4), (0, .nameAndType 5 6), (0, u "java/lang/Record"), (0, u "<init>"), (0, u "()V"), (0, .fieldref 8 9), (0, .class_ 10), (0, .nameAndType 11 12), (0, u "com/example/per1od/per1od/StoreAddress"), (0, u "host"), (0, u "Ljava/lang/String;"), (0, .fieldref 8 14), (0, .nameAndType 15 16), (0, u "port"), (0, u "I"), (0, .fieldref 8 18), (0, .nameAndType 19 16), (0, u "database"), (2, u "URL"), (0, u "Ljava/util/regex/Pattern;"), (14, .class_ 39), (0, u "java/lang/StringBuilder"), (0, .methodref 38 3), (2, .methodref 38 44), (0, .nameAndType 45 46), (0, u "append"), (0, u "(Ljava/lang/String;)Ljava/lang/StringBuilder;"), (4, .methodref 38 52), (0, .nameAndType 53 54), (0, u "toString"), (0, u "()Ljava/lang/String;"), (16, .methodref 38 72), (0, .nameAndType 45 73), (0, u "(I)Ljava/lang/StringBuilder;"), (2, u "(Ljava/lang/String;II)V"), (0, .string 78), (0, u ":"), (0, .methodref 80 81), (0, .class_ 82), (0, .nameAndType 83 84), (0, u "java/lang/String"), (0, u "contains"), (0, u "(Ljava/lang/CharSequence;)Z"), (0, .string 86), (0, u "["), (0, .string 88), (0, u "]"), (0, .string 90), (0, u "redis://"), (0, .string 92), (0, u "/"), (14, u "FORM"), (1, u "HIGHEST_PORT")] 31

def k9c0 : Code := { maxStack := 2, maxLocals := 4, code := prog_23_method_1_code, exceptionTable := #[], attributes := #[] }
def k9m0 : Method := { name := "<init>", desc := "(Ljava/lang/String;II)V", sig := { parameters := [(.object "java/lang/String"), .int, .int], returnType := none }, accessFlags := 1, code := some k9c0 }
def k9c1 : Code := { maxStack := 2, maxLocals := 2, code := prog_23_method_3_code, exceptionTable := #[], attributes := #[] }
def k9m1 : Method := { name := "toString", desc := "()Ljava/lang/String;", sig := { parameters := [], returnType := some (.object "java/lang/String") }, accessFlags := 1, code := some k9c1 }
/-- com/example/per1od/per1od/StoreAddress -/
def k9 : Class := { plain "com/example/per1od/per1od/StoreAddress" (some 8) with
  accessFlags := 49
  interfaces := #[]
  cf := some (fileOf pool9 8 #[] #[{ accessFlags := 1, nameIndex := 5, descriptorIndex := 76, attributes := #[] }, { accessFlags := 1, nameIndex := 53, descriptorIndex := 54, attributes := #[] }] 49 2 #[] #[{ accessFlags := 18, nameIndex := 11, descriptorIndex := 12, attributes := #[] }, { accessFlags := 18, nameIndex := 15, descriptorIndex := 16, attributes := #[] }, { accessFlags := 18, nameIndex := 19, descriptorIndex := 16, attributes := #[] }, { accessFlags := 26, nameIndex := 107, descriptorIndex := 12, attributes := #[] }, { accessFlags := 26, nameIndex := 22, descriptorIndex := 23, attributes := #[] }, { accessFlags := 26, nameIndex := 109, descriptorIndex := 16, attributes := #[] }])
  fields := #[{ name := "host", type := (.object "java/lang/String"), accessFlags := 18, slot := 0, constantValue := 0 }, { name := "port", type := .int, accessFlags := 18, slot := 1, constantValue := 0 }, { name := "database", type := .int, accessFlags := 18, slot := 2, constantValue := 0 }, { name := "FORM", type := (.object "java/lang/String"), accessFlags := 26, slot := 0, constantValue := 0 }, { name := "URL", type := (.object "java/util/regex/Pattern"), accessFlags := 26, slot := 1, constantValue := 0 }, { name := "HIGHEST_PORT", type := .int, accessFlags := 26, slot := 2, constantValue := 0 }]
  methods := #[k9m0, k9m1]
  instanceTypes := #[(.object "java/lang/String"), .int, .int]
  staticTypes := #[(.object "java/lang/String"), (.object "java/util/regex/Pattern"), .int]
  resolved := Array.replicate 141 none
  statics := none }

def pool10 : Array CpInfo := pool [(1, .class_ 2), (0, u "java/lang/String"), (1, .class_ 6), (1, u "java/lang/Object"), (0, u "<init>"), (0, u "()V"), (0, .methodref 1 10), (0, .nameAndType 11 12), (0, u "checkIndex"), (0, u "(II)V"), (1, .class_ 16), (1, u "java/lang/StringLatin1"), (36, u "([BI)C"), (36, u "canEncode"), (8, .methodref 14 100), (0, .nameAndType 101 102), (0, u "indexOf"), (0, u "([BI[BII)I"), (2, u "(C)Z"), (15, u "$assertionsDisabled"), (0, u "Z"), (98, .class_ 223), (1, u "java/lang/StringLatin1$LinesSpliterator"), (28, u "charAt"), (34, u "([B[B)I"), (92, u "toBytes"), (1, u "(C)[B"), (7, .class_ 391), (0, u "java/lang/StringLatin1$CharsSpliterator")] 3

def k10m0 : Method := { name := "<init>", desc := "()V", sig := { parameters := [], returnType := none }, accessFlags := 0, code := none }
def k10c1 : Code := { maxStack := 2, maxLocals := 2, code := jdk_43_method_2_code, exceptionTable := #[], attributes := #[] }
def k10m1 : Method := { name := "charAt", desc := "([BI)C", sig := { parameters := [(.array .byte), .int], returnType := some .char }, accessFlags := 9, code := some k10c1 }
def k10c2 : Code := { maxStack := 2, maxLocals := 1, code := jdk_43_method_3_code, exceptionTable := #[], attributes := #[] }
def k10m2 : Method := { name := "canEncode", desc := "(C)Z", sig := { parameters := [.char], returnType := some .boolean }, accessFlags := 9, code := some k10c2 }
def k10c3 : Code := { maxStack := 5, maxLocals := 2, code := jdk_43_method_24_code, exceptionTable := #[], attributes := #[] }
def k10m3 : Method := { name := "indexOf", desc := "([B[B)I", sig := { parameters := [(.array .byte), (.array .byte)], returnType := some .int }, accessFlags := 9, code := some k10c3 }
def k10c4 : Code := { maxStack := 3, maxLocals := 11, code := jdk_43_method_25_code, exceptionTable := #[], attributes := #[] }
def k10m4 : Method := { name := "indexOf", desc := "([BI[BII)I", sig := { parameters := [(.array .byte), .int, (.array .byte), .int, .int], returnType := some .int }, accessFlags := 9, code := some k10c4 }
def k10c5 : Code := { maxStack := 4, maxLocals := 1, code := jdk_43_method_46_code, exceptionTable := #[], attributes := #[] }
def k10m5 : Method := { name := "toBytes", desc := "(C)[B", sig := { parameters := [.char], returnType := some (.array .byte) }, accessFlags := 9, code := some k10c5 }
/-- java/lang/StringLatin1 -/
def k10 : Class := { plain "java/lang/StringLatin1" (some 0) with
  accessFlags := 48
  interfaces := #[]
  cf := some (fileOf pool10 14 #[.nestMembers #[390, 221]] #[{ accessFlags := 0, nameIndex := 7, descriptorIndex := 8, attributes := #[] }, { accessFlags := 9, nameIndex := 252, descriptorIndex := 53, attributes := #[] }, { accessFlags := 9, nameIndex := 90, descriptorIndex := 105, attributes := #[] }, { accessFlags := 9, nameIndex := 101, descriptorIndex := 287, attributes := #[] }, { accessFlags := 9, nameIndex := 101, descriptorIndex := 102, attributes := #[] }, { accessFlags := 9, nameIndex := 380, descriptorIndex := 382, attributes := #[] }] 48 4 #[] #[{ accessFlags := 4120, nameIndex := 121, descriptorIndex := 122, attributes := #[] }])
  fields := #[{ name := "$assertionsDisabled", type := .boolean, accessFlags := 4120, slot := 0, constantValue := 0 }]
  methods := #[k10m0, k10m1, k10m2, k10m3, k10m4, k10m5]
  instanceTypes := #[]
  staticTypes := #[.boolean]
  resolved := Array.replicate 395 none
  statics := none }

def pool11 : Array CpInfo := pool [(1, .class_ 2), (0, u "java/lang/Appendable"), (0, .class_ 4), (0, u "java/lang/Object")] 9

/-- java/lang/Appendable -/
def k11 : Class := { plain "java/lang/Appendable" (some 0) with
  accessFlags := 1537
  interfaces := #[]
  cf := some (fileOf pool11 1 #[] #[] 1537 3 #[] #[])
  fields := #[]
  methods := #[]
  instanceTypes := #[]
  staticTypes := #[]
  resolved := Array.replicate 14 none
  statics := none }

def pool12 : Array CpInfo := pool [(1, .class_ 2), (0, u "java/lang/String"), (0, .methodref 4 5), (0, .class_ 6), (0, .nameAndType 7 8), (0, u "java/lang/Object"), (0, u "<init>"), (0, u "()V"), (1, .class_ 12), (1, u "java/lang/AbstractStringBuilder"), (0, u "EMPTYVALUE"), (0, u "[B"), (0, .fieldref 10 16), (0, .nameAndType 17 14), (0, u "value"), (0, .fieldref 1 19), (0, .nameAndType 20 21), (0, u "COMPACT_STRINGS"), (0, u "Z"), (0, .fieldref 10 23), (0, .nameAndType 24 25), (0, u "coder"), (0, u "B"), (6, .methodref 1 33), (0, .nameAndType 34 35), (0, u "length"), (0, u "()I"), (0, .class_ 37), (0, u "java/lang/Integer"), (1, .integer 2147483647), (0, .methodref 1 41), (0, .nameAndType 24 42), (0, u "()B"), (2, u "append"), (0, u "(Ljava/lang/String;)Ljava/lang/AbstractStringBuilder;"), (1, .class_ 49), (0, u "java/lang/CharSequence"), (19, u "(Ljava/lang/String;)V"), (5, u "maybeLatin1"), (3, .fieldref 10 80), (0, .nameAndType 81 82), (0, u "count"), (0, u "I"), (0, .methodref 10 84), (0, .nameAndType 85 86), (0, u "isLatin1"), (0, u "()Z"), (13, .methodref 10 101), (0, .nameAndType 102 103), (0, u "ensureCapacityInternal"), (0, u "(I)V"), (0, .methodref 10 105), (0, .nameAndType 106 107), (0, u "newCapacity"), (0, u "(I)I"), (0, .methodref 109 110), (0, .class_ 111), (0, .nameAndType 112 113), (0, u "java/util/Arrays"), (0, u "copyOf"), (0, u "([BI)[B"), (0, .methodref 115 116), (0, .class_ 117), (0, .nameAndType 118 119), (0, u "jdk/internal/util/ArraysSupport"), (0, u "newLength"), (0, u "(III)I"), (68, u "getChars"), (19, .methodref 10 209), (0, .nameAndType 210 211), (0, u "putStringAt"), (0, u "(ILjava/lang/String;)V"), (5, u "inflateIfNeededFor"), (2, .nameAndType 221 222), (0, u "getBytes"), (0, u "([BIB)V"), (22, .methodref 36 246), (0, .nameAndType 247 107), (0, u "stringSize"), (0, .methodref 36 249), (0, .nameAndType 188 250), (0, u "(II[B)I"), (146, .methodref 10 398), (0, .nameAndType 217 69), (0, .methodref 1 220), (3, u "()[B"), (40, .class_ 445), (0, u "java/lang/Appendable"), (65, u "(I)Ljava/lang/AbstractStringBuilder;"), (40, u "getValue")] 56

def k12m0 : Method := { name := "<init>", desc := "()V", sig := { parameters := [], returnType := none }, accessFlags := 0, code := none }
def k12c1 : Code := { maxStack := 2, maxLocals := 2, code := jdk_68_method_2_code, exceptionTable := #[], attributes := #[] }
def k12m1 : Method := { name := "<init>", desc := "(I)V", sig := { parameters := [.int], returnType := none }, accessFlags := 0, code := some k12c1 }
def k12c2 : Code := { maxStack := 1, maxLocals := 1, code := jdk_68_method_6_code, exceptionTable := #[], attributes := #[] }
def k12m2 : Method := { name := "length", desc := "()I", sig := { parameters := [], returnType := some .int }, accessFlags := 1, code := some k12c2 }
def k12c3 : Code := { maxStack := 4, maxLocals := 3, code := jdk_68_method_9_code, exceptionTable := #[], attributes := #[] }
def k12m3 : Method := { name := "ensureCapacityInternal", desc := "(I)V", sig := { parameters := [.int], returnType := none }, accessFlags := 2, code := some k12c3 }
def k12c4 : Code := { maxStack := 5, maxLocals := 6, code := jdk_68_method_10_code, exceptionTable := #[], attributes := #[] }
def k12m4 : Method := { name := "newCapacity", desc := "(I)I", sig := { parameters := [.int], returnType := some .int }, accessFlags := 2, code := some k12c4 }
def k12c5 : Code := { maxStack := 3, maxLocals := 3, code := jdk_68_method_22_code, exceptionTable := #[], attributes := #[] }
def k12m5 : Method := { name := "append", desc := "(Ljava/lang/String;)Ljava/lang/AbstractStringBuilder;", sig := { parameters := [(.object "java/lang/String")], returnType := some (.object "java/lang/AbstractStringBuilder") }, accessFlags := 1, code := some k12c5 }
def k12c6 : Code := { maxStack := 4, maxLocals := 4, code := jdk_68_method_32_code, exceptionTable := #[], attributes := #[] }
def k12m6 : Method := { name := "append", desc := "(I)Ljava/lang/AbstractStringBuilder;", sig := { parameters := [.int], returnType := some (.object "java/lang/AbstractStringBuilder") }, accessFlags := 1, code := some k12c6 }
def k12c7 : Code := { maxStack := 1, maxLocals := 1, code := jdk_68_method_64_code, exceptionTable := #[], attributes := #[] }
def k12m7 : Method := { name := "getValue", desc := "()[B", sig := { parameters := [], returnType := some (.array .byte) }, accessFlags := 16, code := some k12c7 }
def k12c8 : Code := { maxStack := 1, maxLocals := 1, code := jdk_68_method_68_code, exceptionTable := #[], attributes := #[] }
def k12m8 : Method := { name := "isLatin1", desc := "()Z", sig := { parameters := [], returnType := some .boolean }, accessFlags := 16, code := some k12c8 }
def k12c9 : Code := { maxStack := 2, maxLocals := 2, code := jdk_68_method_71_code, exceptionTable := #[], attributes := #[] }
def k12m9 : Method := { name := "inflateIfNeededFor", desc := "(Ljava/lang/String;)V", sig := { parameters := [(.object "java/lang/String")], returnType := none }, accessFlags := 2, code := some k12c9 }
def k12c10 : Code := { maxStack := 4, maxLocals := 3, code := jdk_68_method_73_code, exceptionTable := #[], attributes := #[] }
def k12m10 : Method := { name := "putStringAt", desc := "(ILjava/lang/String;)V", sig := { parameters := [.int, (.object "java/lang/String")], returnType := none }, accessFlags := 2, code := some k12c10 }
/-- java/lang/AbstractStringBuilder -/
def k12 : Class := { plain "java/lang/AbstractStringBuilder" (some 0) with
  accessFlags := 1056
  interfaces := #[11, 4]
  cf := some (fileOf pool12 10 #[] #[{ accessFlags := 0, nameIndex := 7, descriptorIndex := 8, attributes := #[] }, { accessFlags := 0, nameIndex := 7, descriptorIndex := 103, attributes := #[] }, { accessFlags := 1, nameIndex := 34, descriptorIndex := 35, attributes := #[] }, { accessFlags := 2, nameIndex := 102, descriptorIndex := 103, attributes := #[] }, { accessFlags := 2, nameIndex := 106, descriptorIndex := 107, attributes := #[] }, { accessFlags := 1, nameIndex := 45, descriptorIndex := 46, attributes := #[] }, { accessFlags := 1, nameIndex := 45, descriptorIndex := 511, attributes := #[] }, { accessFlags := 16, nameIndex := 552, descriptorIndex := 403, attributes := #[] }, { accessFlags := 16, nameIndex := 85, descriptorIndex := 86, attributes := #[] }, { accessFlags := 2, nameIndex := 217, descriptorIndex := 69, attributes := #[] }, { accessFlags := 2, nameIndex := 210, descriptorIndex := 211, attributes := #[] }] 1056 4 #[444, 48] #[{ accessFlags := 0, nameIndex := 17, descriptorIndex := 14, attributes := #[] }, { accessFlags := 0, nameIndex := 24, descriptorIndex := 25, attributes := #[] }, { accessFlags := 0, nameIndex := 75, descriptorIndex := 21, attributes := #[] }, { accessFlags := 0, nameIndex := 81, descriptorIndex := 82, attributes := #[] }, { accessFlags := 26, nameIndex := 13, descriptorIndex := 14, attributes := #[] }])
  fields := #[{ name := "value", type := (.array .byte), accessFlags := 0, slot := 0, constantValue := 0 }, { name := "coder", type := .byte, accessFlags := 0, slot := 1, constantValue := 0 }, { name := "maybeLatin1", type := .boolean, accessFlags := 0, slot := 2, constantValue := 0 }, { name := "count", type := .int, accessFlags := 0, slot := 3, constantValue := 0 }, { name := "EMPTYVALUE", type := (.array .byte), accessFlags := 26, slot := 0, constantValue := 0 }]
  methods := #[k12m0, k12m1, k12m2, k12m3, k12m4, k12m5, k12m6, k12m7, k12m8, k12m9, k12m10]
  instanceTypes := #[(.array .byte), .byte, .boolean, .int]
  staticTypes := #[(.array .byte)]
  resolved := Array.replicate 609 none
  statics := none }

def pool13 : Array CpInfo := pool [(1, .methodref 2 3), (0, .class_ 4), (0, .nameAndType 5 6), (0, u "java/lang/AbstractStringBuilder"), (0, u "<init>"), (0, u "(I)V"), (11, .class_ 20), (1, u "java/lang/String"), (3, .class_ 26), (1, u "java/lang/StringBuilder"), (0, u "append"), (0, u "(Ljava/lang/String;)Ljava/lang/StringBuilder;"), (0, .methodref 2 30), (0, .nameAndType 27 31), (0, u "(Ljava/lang/String;)Ljava/lang/AbstractStringBuilder;"), (21, .methodref 2 54), (0, .nameAndType 27 55), (0, u "(I)Ljava/lang/AbstractStringBuilder;"), (81, .methodref 18 138), (0, .nameAndType 5 139), (0, u "(Ljava/lang/StringBuilder;)V"), (5, u "()V"), (10, u "()I"), (111, u "(I)Ljava/lang/StringBuilder;"), (74, .methodref 2 344), (0, .nameAndType 345 156), (0, u "length"), (3, .class_ 350), (0, u "java/lang/Appendable"), (0, .class_ 352), (0, u "java/io/Serializable"), (0, .class_ 354), (0, u "java/lang/Comparable"), (0, .class_ 356), (0, u "java/lang/CharSequence"), (0, u "serialVersionUID"), (0, u "J"), (40, u "toString"), (0, u "()Ljava/lang/String;")] 21

def k13c0 : Code := { maxStack := 2, maxLocals := 1, code := jdk_67_method_1_code, exceptionTable := #[], attributes := #[] }
def k13m0 : Method := { name := "<init>", desc := "()V", sig := { parameters := [], returnType := none }, accessFlags := 1, code := some k13c0 }
def k13c1 : Code := { maxStack := 2, maxLocals := 2, code := jdk_67_method_7_code, exceptionTable := #[], attributes := #[] }
def k13m1 : Method := { name := "append", desc := "(Ljava/lang/String;)Ljava/lang/StringBuilder;", sig := { parameters := [(.object "java/lang/String")], returnType := some (.object "java/lang/StringBuilder") }, accessFlags := 1, code := some k13c1 }
def k13c2 : Code := { maxStack := 2, maxLocals := 2, code := jdk_67_method_15_code, exceptionTable := #[], attributes := #[] }
def k13m2 : Method := { name := "append", desc := "(I)Ljava/lang/StringBuilder;", sig := { parameters := [.int], returnType := some (.object "java/lang/StringBuilder") }, accessFlags := 1, code := some k13c2 }
def k13c3 : Code := { maxStack := 3, maxLocals := 1, code := jdk_67_method_42_code, exceptionTable := #[], attributes := #[] }
def k13m3 : Method := { name := "toString", desc := "()Ljava/lang/String;", sig := { parameters := [], returnType := some (.object "java/lang/String") }, accessFlags := 1, code := some k13c3 }
def k13c4 : Code := { maxStack := 1, maxLocals := 1, code := jdk_67_method_93_code, exceptionTable := #[], attributes := #[] }
def k13m4 : Method := { name := "length", desc := "()I", sig := { parameters := [], returnType := some .int }, accessFlags := 4161, code := some k13c4 }
/-- java/lang/StringBuilder -/
def k13 : Class := { plain "java/lang/StringBuilder" (some 12) with
  accessFlags := 49
  interfaces := #[11, 2, 3, 4]
  cf := some (fileOf pool13 24 #[] #[{ accessFlags := 1, nameIndex := 5, descriptorIndex := 145, attributes := #[] }, { accessFlags := 1, nameIndex := 27, descriptorIndex := 28, attributes := #[] }, { accessFlags := 1, nameIndex := 27, descriptorIndex := 268, attributes := #[] }, { accessFlags := 1, nameIndex := 399, descriptorIndex := 400, attributes := #[] }, { accessFlags := 4161, nameIndex := 345, descriptorIndex := 156, attributes := #[] }] 49 2 #[349, 351, 353, 355] #[{ accessFlags := 24, nameIndex := 357, descriptorIndex := 358, attributes := #[] }])
  fields := #[{ name := "serialVersionUID", type := .long, accessFlags := 24, slot := 0, constantValue := 0 }]
  methods := #[k13m0, k13m1, k13m2, k13m3, k13m4]
  instanceTypes := #[(.array .byte), .byte, .boolean, .int]
  staticTypes := #[.long]
  resolved := Array.replicate 422 none
  statics := none }

def pool14 : Array CpInfo := pool [(2, .class_ 4), (1, u "java/lang/Object"), (0, u "<init>"), (0, u "()V"), (1, .class_ 10), (1, u "java/lang/System"), (0, u "allowSecurityManager"), (0, u "I"), (16, u "cons"), (0, u "Ljava/io/Console;"), (77, .class_ 110), (1, u "java/lang/System$CallersHolder"), (43, u "initialErrStream"), (0, u "Ljava/io/PrintStream;"), (19, u "security"), (0, u "Ljava/lang/SecurityManager;"), (31, .class_ 209), (0, u "java/lang/System$1"), (7, u "props"), (0, u "Ljava/util/Properties;"), (2, u "lineSeparator"), (0, u "Ljava/lang/String;"), (96, .class_ 321), (1, u "java/lang/System$LoggerFinder"), (5, .class_ 328), (0, u "java/lang/System$Logger"), (67, u "err"), (2, u "out"), (91, u "notSupportedJnuEncoding"), (15, u "in"), (17, u "initialIn"), (0, u "Ljava/io/InputStream;"), (35, u "bootLayer"), (0, u "Ljava/lang/ModuleLayer;"), (99, .class_ 664), (0, u "java/lang/System$2"), (9, u "NEVER"), (2, u "MAYBE"), (49, u "arraycopy"), (0, u "(Ljava/lang/Object;ILjava/lang/Object;II)V"), (72, .class_ 802), (0, u "java/lang/System$Logger$Level")] 31

def k14m0 : Method := { name := "<init>", desc := "()V", sig := { parameters := [], returnType := none }, accessFlags := 2, code := none }
def k14m1 : Method := { name := "arraycopy", desc := "(Ljava/lang/Object;ILjava/lang/Object;II)V", sig := { parameters := [(.object "java/lang/Object"), .int, (.object "java/lang/Object"), .int, .int], returnType := none }, accessFlags := 265, code := none }
/-- java/lang/System -/
def k14 : Class := { plain "java/lang/System" (some 0) with
  accessFlags := 49
  interfaces := #[]
  cf := some (fileOf pool14 8 #[.nestMembers #[319, 327, 801, 108, 663, 208]] #[{ accessFlags := 2, nameIndex := 5, descriptorIndex := 6, attributes := #[] }, { accessFlags := 265, nameIndex := 727, descriptorIndex := 728, attributes := #[] }] 49 2 #[] #[{ accessFlags := 25, nameIndex := 507, descriptorIndex := 526, attributes := #[] }, { accessFlags := 25, nameIndex := 399, descriptorIndex := 155, attributes := #[] }, { accessFlags := 25, nameIndex := 396, descriptorIndex := 155, attributes := #[] }, { accessFlags := 10, nameIndex := 525, descriptorIndex := 526, attributes := #[] }, { accessFlags := 26, nameIndex := 674, descriptorIndex := 12, attributes := #[] }, { accessFlags := 26, nameIndex := 677, descriptorIndex := 12, attributes := #[] }, { accessFlags := 10, nameIndex := 11, descriptorIndex := 12, attributes := #[] }, { accessFlags := 74, nameIndex := 175, descriptorIndex := 176, attributes := #[] }, { accessFlags := 10, nameIndex := 491, descriptorIndex := 222, attributes := #[] }, { accessFlags := 74, nameIndex := 29, descriptorIndex := 30, attributes := #[] }, { accessFlags := 74, nameIndex := 154, descriptorIndex := 155, attributes := #[] }, { accessFlags := 10, nameIndex := 217, descriptorIndex := 218, attributes := #[] }, { accessFlags := 10, nameIndex := 221, descriptorIndex := 222, attributes := #[] }, { accessFlags := 8, nameIndex := 562, descriptorIndex := 563, attributes := #[] }])
  fields := #[{ name := "in", type := (.object "java/io/InputStream"), accessFlags := 25, slot := 0, constantValue := 0 }, { name := "out", type := (.object "java/io/PrintStream"), accessFlags := 25, slot := 1, constantValue := 0 }, { name := "err", type := (.object "java/io/PrintStream"), accessFlags := 25, slot := 2, constantValue := 0 }, { name := "initialIn", type := (.object "java/io/InputStream"), accessFlags := 10, slot := 3, constantValue := 0 }, { name := "NEVER", type := .int, accessFlags := 26, slot := 4, constantValue := 0 }, { name := "MAYBE", type := .int, accessFlags := 26, slot := 5, constantValue := 0 }, { name := "allowSecurityManager", type := .int, accessFlags := 10, slot := 6, constantValue := 0 }, { name := "security", type := (.object "java/lang/SecurityManager"), accessFlags := 74, slot := 7, constantValue := 0 }, { name := "notSupportedJnuEncoding", type := (.object "java/lang/String"), accessFlags := 10, slot := 8, constantValue := 0 }, { name := "cons", type := (.object "java/io/Console"), accessFlags := 74, slot := 9, constantValue := 0 }, { name := "initialErrStream", type := (.object "java/io/PrintStream"), accessFlags := 74, slot := 10, constantValue := 0 }, { name := "props", type := (.object "java/util/Properties"), accessFlags := 10, slot := 11, constantValue := 0 }, { name := "lineSeparator", type := (.object "java/lang/String"), accessFlags := 10, slot := 12, constantValue := 0 }, { name := "bootLayer", type := (.object "java/lang/ModuleLayer"), accessFlags := 8, slot := 13, constantValue := 0 }]
  methods := #[k14m0, k14m1]
  instanceTypes := #[]
  staticTypes := #[(.object "java/io/InputStream"), (.object "java/io/PrintStream"), (.object "java/io/PrintStream"), (.object "java/io/InputStream"), .int, .int, .int, (.object "java/lang/SecurityManager"), (.object "java/lang/String"), (.object "java/io/Console"), (.object "java/io/PrintStream"), (.object "java/util/Properties"), (.object "java/lang/String"), (.object "java/lang/ModuleLayer")]
  resolved := Array.replicate 834 none
  statics := none }

def pool15 : Array CpInfo := pool [(2, .class_ 4), (1, u "java/lang/Object"), (0, u "<init>"), (0, u "()V"), (1, .class_ 10), (1, u "java/lang/Number"), (2, .class_ 14), (0, u "java/io/Serializable"), (0, u "serialVersionUID"), (0, u "J")] 20

def k15m0 : Method := { name := "<init>", desc := "()V", sig := { parameters := [], returnType := none }, accessFlags := 1, code := none }
/-- java/lang/Number -/
def k15 : Class := { plain "java/lang/Number" (some 0) with
  accessFlags := 1057
  interfaces := #[2]
  cf := some (fileOf pool15 8 #[] #[{ accessFlags := 1, nameIndex := 5, descriptorIndex := 6, attributes := #[] }] 1057 2 #[13] #[{ accessFlags := 26, nameIndex := 15, descriptorIndex := 16, attributes := #[] }])
  fields := #[{ name := "serialVersionUID", type := .long, accessFlags := 26, slot := 0, constantValue := 0 }]
  methods := #[k15m0]
  instanceTypes := #[]
  staticTypes := #[.long]
  resolved := Array.replicate 37 none
  statics := none }

def pool16 : Array CpInfo := pool [(1, .class_ 2), (0, u "java/lang/Integer"), (16, u "digits"), (0, u "[C"), (33, u "(I)I"), (19, u "stringSize"), (2, u "getChars"), (0, u "(II[B)I"), (4, .fieldref 1 84), (0, .nameAndType 85 86), (0, u "DigitOnes"), (0, u "[B"), (0, .fieldref 1 88), (0, .nameAndType 89 86), (0, u "DigitTens"), (99, .class_ 190), (0, u "java/lang/Integer$IntegerCache"), (3, u "I"), (8, .class_ 204), (0, u "java/lang/Number"), (2, u "value"), (94, u "TYPE"), (0, u "Ljava/lang/Class;"), (0, .class_ 305), (0, u "java/lang/Comparable"), (0, .class_ 307), (0, u "java/lang/constant/Constable"), (0, .class_ 309), (0, u "java/lang/constant/ConstantDesc"), (0, u "MIN_VALUE"), (1, u "MAX_VALUE"), (3, u "SIZE"), (1, u "BYTES"), (1, u "serialVersionUID"), (0, u "J")] 131

def k16c0 : Code := { maxStack := 4, maxLocals := 7, code := jdk_33_method_12_code, exceptionTable := #[], attributes := #[] }
def k16m0 : Method := { name := "getChars", desc := "(II[B)I", sig := { parameters := [.int, .int, (.array .byte)], returnType := some .int }, accessFlags := 8, code := some k16c0 }
def k16c1 : Code := { maxStack := 2, maxLocals := 4, code := jdk_33_method_13_code, exceptionTable := #[], attributes := #[] }
def k16m1 : Method := { name := "stringSize", desc := "(I)I", sig := { parameters := [.int], returnType := some .int }, accessFlags := 8, code := some k16c1 }
/-- java/lang/Integer -/
def k16 : Class := { plain "java/lang/Integer" (some 15) with
  accessFlags := 49
  interfaces := #[3, 5, 6]
  cf := some (fileOf pool16 1 #[.nestMembers #[189]] #[{ accessFlags := 8, nameIndex := 77, descriptorIndex := 78, attributes := #[] }, { accessFlags := 8, nameIndex := 74, descriptorIndex := 54, attributes := #[] }] 49 203 #[304, 306, 308] #[{ accessFlags := 25, nameIndex := 310, descriptorIndex := 194, attributes := #[] }, { accessFlags := 25, nameIndex := 312, descriptorIndex := 194, attributes := #[] }, { accessFlags := 25, nameIndex := 302, descriptorIndex := 303, attributes := #[] }, { accessFlags := 24, nameIndex := 19, descriptorIndex := 20, attributes := #[] }, { accessFlags := 24, nameIndex := 89, descriptorIndex := 86, attributes := #[] }, { accessFlags := 24, nameIndex := 85, descriptorIndex := 86, attributes := #[] }, { accessFlags := 18, nameIndex := 207, descriptorIndex := 194, attributes := #[] }, { accessFlags := 25, nameIndex := 316, descriptorIndex := 194, attributes := #[] }, { accessFlags := 25, nameIndex := 318, descriptorIndex := 194, attributes := #[] }, { accessFlags := 26, nameIndex := 320, descriptorIndex := 321, attributes := #[] }])
  fields := #[{ name := "MIN_VALUE", type := .int, accessFlags := 25, slot := 0, constantValue := 0 }, { name := "MAX_VALUE", type := .int, accessFlags := 25, slot := 1, constantValue := 0 }, { name := "TYPE", type := (.object "java/lang/Class"), accessFlags := 25, slot := 2, constantValue := 0 }, { name := "digits", type := (.array .char), accessFlags := 24, slot := 3, constantValue := 0 }, { name := "DigitTens", type := (.array .byte), accessFlags := 24, slot := 4, constantValue := 0 }, { name := "DigitOnes", type := (.array .byte), accessFlags := 24, slot := 5, constantValue := 0 }, { name := "value", type := .int, accessFlags := 18, slot := 0, constantValue := 0 }, { name := "SIZE", type := .int, accessFlags := 25, slot := 6, constantValue := 0 }, { name := "BYTES", type := .int, accessFlags := 25, slot := 7, constantValue := 0 }, { name := "serialVersionUID", type := .long, accessFlags := 26, slot := 8, constantValue := 0 }]
  methods := #[k16m0, k16m1]
  instanceTypes := #[.int]
  staticTypes := #[.int, .int, (.object "java/lang/Class"), (.array .char), (.array .byte), (.array .byte), .int, .int, .long]
  resolved := Array.replicate 453 none
  statics := some 1 }

def pool17 : Array CpInfo := pool [(2, .class_ 4), (1, u "java/lang/Object"), (0, u "<init>"), (0, u "()V"), (7, .class_ 16), (1, u "java/util/Arrays"), (57, .class_ 76), (1, u "java/util/Arrays$NaturalOrder"), (32, u "()Ljava/lang/Object;"), (3, .class_ 115), (1, u "java/util/Arrays$LegacyMergeSort"), (1, u "Z"), (10, .nameAndType 129 109), (0, u "clone"), (9, u "copyOfRange"), (10, .methodref 151 152), (0, .class_ 153), (0, .nameAndType 154 155), (0, u "java/lang/System"), (0, u "arraycopy"), (0, u "(Ljava/lang/Object;ILjava/lang/Object;II)V"), (146, u "copyOf"), (1, .methodref 305 306), (0, .class_ 307), (0, .nameAndType 308 309), (0, u "java/lang/Math"), (0, u "min"), (0, u "(II)I"), (0, .methodref 311 128), (0, .class_ 312), (0, u "[B"), (26, .methodref 14 340), (0, .nameAndType 341 342), (0, u "copyOfRangeByte"), (0, u "([BII)[B"), (0, .methodref 14 344), (0, .nameAndType 345 346), (0, u "checkLength"), (0, u "(II)V"), (28, .class_ 376), (0, u "java/util/Arrays$ArrayList"), (68, u "$assertionsDisabled"), (269, u "MIN_ARRAY_SORT_GRAN"), (0, u "I"), (2, u "INSERTIONSORT_THRESHOLD"), (149, u "([BI)[B"), (105, .class_ 976), (0, u "java/util/Arrays$ArrayItr")] 52

def k17m0 : Method := { name := "<init>", desc := "()V", sig := { parameters := [], returnType := none }, accessFlags := 2, code := none }
def k17c1 : Code := { maxStack := 6, maxLocals := 3, code := jdk_65_method_121_code, exceptionTable := #[], attributes := #[] }
def k17m1 : Method := { name := "copyOf", desc := "([BI)[B", sig := { parameters := [(.array .byte), .int], returnType := some (.array .byte) }, accessFlags := 9, code := some k17c1 }
def k17c2 : Code := { maxStack := 4, maxLocals := 2, code := jdk_65_method_131_code, exceptionTable := #[], attributes := #[] }
def k17m2 : Method := { name := "checkLength", desc := "(II)V", sig := { parameters := [.int, .int], returnType := none }, accessFlags := 10, code := some k17c2 }
def k17c3 : Code := { maxStack := 3, maxLocals := 3, code := jdk_65_method_132_code, exceptionTable := #[], attributes := #[] }
def k17m3 : Method := { name := "copyOfRange", desc := "([BII)[B", sig := { parameters := [(.array .byte), .int, .int], returnType := some (.array .byte) }, accessFlags := 9, code := some k17c3 }
def k17c4 : Code := { maxStack := 6, maxLocals := 5, code := jdk_65_method_133_code, exceptionTable := #[], attributes := #[] }
def k17m4 : Method := { name := "copyOfRangeByte", desc := "([BII)[B", sig := { parameters := [(.array .byte), .int, .int], returnType := some (.array .byte) }, accessFlags := 10, code := some k17c4 }
/-- java/util/Arrays -/
def k17 : Class := { plain "java/util/Arrays" (some 0) with
  accessFlags := 49
  interfaces := #[]
  cf := some (fileOf pool17 14 #[.nestMembers #[975, 375, 113, 74]] #[{ accessFlags := 2, nameIndex := 5, descriptorIndex := 6, attributes := #[] }, { accessFlags := 9, nameIndex := 302, descriptorIndex := 869, attributes := #[] }, { accessFlags := 10, nameIndex := 345, descriptorIndex := 346, attributes := #[] }, { accessFlags := 9, nameIndex := 139, descriptorIndex := 342, attributes := #[] }, { accessFlags := 10, nameIndex := 341, descriptorIndex := 342, attributes := #[] }] 49 2 #[] #[{ accessFlags := 26, nameIndex := 715, descriptorIndex := 716, attributes := #[] }, { accessFlags := 26, nameIndex := 719, descriptorIndex := 716, attributes := #[] }, { accessFlags := 4120, nameIndex := 445, descriptorIndex := 117, attributes := #[] }])
  fields := #[{ name := "MIN_ARRAY_SORT_GRAN", type := .int, accessFlags := 26, slot := 0, constantValue := 0 }, { name := "INSERTIONSORT_THRESHOLD", type := .int, accessFlags := 26, slot := 1, constantValue := 0 }, { name := "$assertionsDisabled", type := .boolean, accessFlags := 4120, slot := 2, constantValue := 0 }]
  methods := #[k17m0, k17m1, k17m2, k17m3, k17m4]
  instanceTypes := #[]
  staticTypes := #[.int, .int, .boolean]
  resolved := Array.replicate 1029 none
  statics := none }

def pool18 : Array CpInfo := pool [(1, .class_ 2), (0, u "java/lang/Math"), (1, .class_ 6), (1, u "java/lang/Object"), (0, u "<init>"), (0, u "()V"), (89, .class_ 100), (1, u "java/lang/Math$RandomNumberGeneratorHolder"), (71, u "negativeZeroFloatBits"), (0, u "J"), (2, u "negativeZeroDoubleBits"), (21, u "max"), (2, u "min"), (43, u "$assertionsDisabled"), (0, u "Z"), (88, u "(II)I"), (2, u "twoToTheDoubleScaleDown"), (0, u "D"), (4, u "twoToTheDoubleScaleUp"), (9, u "E"), (3, u "PI"), (2, u "TAU"), (2, u "DEGREES_TO_RADIANS"), (0, u "RADIANS_TO_DEGREES")] 94

def k18m0 : Method := { name := "<init>", desc := "()V", sig := { parameters := [], returnType := none }, accessFlags := 2, code := none }
def k18c1 : Code := { maxStack := 2, maxLocals := 2, code := jdk_29_method_65_code, exceptionTable := #[], attributes := #[] }
def k18m1 : Method := { name := "max", desc := "(II)I", sig := { parameters := [.int, .int], returnType := some .int }, accessFlags := 9, code := some k18c1 }
def k18c2 : Code := { maxStack := 2, maxLocals := 2, code := jdk_29_method_69_code, exceptionTable := #[], attributes := #[] }
def k18m2 : Method := { name := "min", desc := "(II)I", sig := { parameters := [.int, .int], returnType := some .int }, accessFlags := 9, code := some k18c2 }
/-- java/lang/Math -/
def k18 : Class := { plain "java/lang/Math" (some 0) with
  accessFlags := 49
  interfaces := #[]
  cf := some (fileOf pool18 1 #[.nestMembers #[98]] #[{ accessFlags := 2, nameIndex := 7, descriptorIndex := 8, attributes := #[] }, { accessFlags := 9, nameIndex := 198, descriptorIndex := 335, attributes := #[] }, { accessFlags := 9, nameIndex := 201, descriptorIndex := 335, attributes := #[] }] 49 4 #[] #[{ accessFlags := 25, nameIndex := 354, descriptorIndex := 339, attributes := #[] }, { accessFlags := 25, nameIndex := 358, descriptorIndex := 339, attributes := #[] }, { accessFlags := 25, nameIndex := 361, descriptorIndex := 339, attributes := #[] }, { accessFlags := 26, nameIndex := 364, descriptorIndex := 339, attributes := #[] }, { accessFlags := 26, nameIndex := 365, descriptorIndex := 339, attributes := #[] }, { accessFlags := 26, nameIndex := 172, descriptorIndex := 173, attributes := #[] }, { accessFlags := 26, nameIndex := 176, descriptorIndex := 173, attributes := #[] }, { accessFlags := 8, nameIndex := 344, descriptorIndex := 339, attributes := #[] }, { accessFlags := 8, nameIndex := 338, descriptorIndex := 339, attributes := #[] }, { accessFlags := 4120, nameIndex := 245, descriptorIndex := 246, attributes := #[] }])
  fields := #[{ name := "E", type := .double, accessFlags := 25, slot := 0, constantValue := 0 }, { name := "PI", type := .double, accessFlags := 25, slot := 1, constantValue := 0 }, { name := "TAU", type := .double, accessFlags := 25, slot := 2, constantValue := 0 }, { name := "DEGREES_TO_RADIANS", type := .double, accessFlags := 26, slot := 3, constantValue := 0 }, { name := "RADIANS_TO_DEGREES", type := .double, accessFlags := 26, slot := 4, constantValue := 0 }, { name := "negativeZeroFloatBits", type := .long, accessFlags := 26, slot := 5, constantValue := 0 }, { name := "negativeZeroDoubleBits", type := .long, accessFlags := 26, slot := 6, constantValue := 0 }, { name := "twoToTheDoubleScaleUp", type := .double, accessFlags := 8, slot := 7, constantValue := 0 }, { name := "twoToTheDoubleScaleDown", type := .double, accessFlags := 8, slot := 8, constantValue := 0 }, { name := "$assertionsDisabled", type := .boolean, accessFlags := 4120, slot := 9, constantValue := 0 }]
  methods := #[k18m0, k18m1, k18m2]
  instanceTypes := #[]
  staticTypes := #[.double, .double, .double, .double, .double, .long, .long, .double, .double, .boolean]
  resolved := Array.replicate 460 none
  statics := none }

def pool19 : Array CpInfo := pool [(2, .class_ 4), (1, u "java/lang/Object"), (0, u "<init>"), (0, u "()V"), (17, .class_ 26), (1, u "jdk/internal/util/Preconditions"), (6, u "checkIndex"), (21, .class_ 56), (0, u "jdk/internal/util/Preconditions$4"), (57, .class_ 115), (0, u "jdk/internal/util/Preconditions$1"), (7, u "SIOOBE_FORMATTER"), (0, u "Ljava/util/function/BiFunction;"), (0, .class_ 126), (0, u "jdk/internal/util/Preconditions$2"), (3, u "AIOOBE_FORMATTER"), (0, .class_ 132), (0, u "jdk/internal/util/Preconditions$3"), (3, u "IOOBE_FORMATTER"), (41, u "(IILjava/util/function/BiFunction;)I")] 15

def k19m0 : Method := { name := "<init>", desc := "()V", sig := { parameters := [], returnType := none }, accessFlags := 1, code := none }
def k19c1 : Code := { maxStack := 3, maxLocals := 3, code := jdk_41_method_11_code, exceptionTable := #[], attributes := #[] }
def k19m1 : Method := { name := "checkIndex", desc := "(IILjava/util/function/BiFunction;)I", sig := { parameters := [.int, .int, (.object "java/util/function/BiFunction")], returnType := some .int }, accessFlags := 9, code := some k19c1 }
/-- jdk/internal/util/Preconditions -/
def k19 : Class := { plain "jdk/internal/util/Preconditions" (some 0) with
  accessFlags := 33
  interfaces := #[]
  cf := some (fileOf pool19 24 #[.nestMembers #[55, 131, 125, 114]] #[{ accessFlags := 1, nameIndex := 5, descriptorIndex := 6, attributes := #[] }, { accessFlags := 9, nameIndex := 33, descriptorIndex := 178, attributes := #[] }] 33 2 #[] #[{ accessFlags := 25, nameIndex := 123, descriptorIndex := 124, attributes := #[] }, { accessFlags := 25, nameIndex := 130, descriptorIndex := 124, attributes := #[] }, { accessFlags := 25, nameIndex := 136, descriptorIndex := 124, attributes := #[] }])
  fields := #[{ name := "SIOOBE_FORMATTER", type := (.object "java/util/function/BiFunction"), accessFlags := 25, slot := 0, constantValue := 0 }, { name := "AIOOBE_FORMATTER", type := (.object "java/util/function/BiFunction"), accessFlags := 25, slot := 1, constantValue := 0 }, { name := "IOOBE_FORMATTER", type := (.object "java/util/function/BiFunction"), accessFlags := 25, slot := 2, constantValue := 0 }]
  methods := #[k19m0, k19m1]
  instanceTypes := #[]
  staticTypes := #[(.object "java/util/function/BiFunction"), (.object "java/util/function/BiFunction"), (.object "java/util/function/BiFunction")]
  resolved := Array.replicate 194 none
  statics := some 2 }

def pool20 : Array CpInfo := pool [(6, .class_ 8), (1, u "java/lang/Object"), (0, u "<init>"), (0, u "()V"), (1, .class_ 14), (1, u "java/lang/StringUTF16"), (31, u "$assertionsDisabled"), (0, u "Z"), (13, u "HI_BYTE_SHIFT"), (0, u "I"), (2, u "LO_BYTE_SHIFT"), (49, .methodref 12 116), (0, .nameAndType 117 118), (0, u "compress"), (0, u "([CI[BII)I"), (3, u "([CII)[B"), (138, u "coderFromArrayLen"), (0, u "([BI)B"), (106, .class_ 371), (1, u "java/lang/StringUTF16$LinesSpliterator"), (58, u "MAX_LENGTH"), (196, .class_ 628), (0, u "java/lang/StringUTF16$CodePointsSpliterator"), (0, .class_ 630), (0, u "java/lang/StringUTF16$CharsSpliterator")] 4

def k20m0 : Method := { name := "<init>", desc := "()V", sig := { parameters := [], returnType := none }, accessFlags := 0, code := none }
def k20c1 : Code := { maxStack := 2, maxLocals := 2, code := jdk_52_method_15_code, exceptionTable := #[], attributes := #[] }
def k20m1 : Method := { name := "coderFromArrayLen", desc := "([BI)B", sig := { parameters := [(.array .byte), .int], returnType := some .byte }, accessFlags := 8, code := some k20c1 }
def k20c2 : Code := { maxStack := 5, maxLocals := 6, code := jdk_52_method_16_code, exceptionTable := #[], attributes := #[] }
def k20m2 : Method := { name := "compress", desc := "([CII)[B", sig := { parameters := [(.array .char), .int, .int], returnType := some (.array .byte) }, accessFlags := 9, code := some k20c2 }
def k20c3 : Code := { maxStack := 3, maxLocals := 7, code := jdk_52_method_21_code, exceptionTable := #[], attributes := #[] }
def k20m3 : Method := { name := "compress", desc := "([CI[BII)I", sig := { parameters := [(.array .char), .int, (.array .byte), .int, .int], returnType := some .int }, accessFlags := 9, code := some k20c3 }
/-- java/lang/StringUTF16 -/
def k20 : Class := { plain "java/lang/StringUTF16" (some 0) with
  accessFlags := 48
  interfaces := #[]
  cf := some (fileOf pool20 12 #[.nestMembers #[627, 629, 369]] #[{ accessFlags := 0, nameIndex := 9, descriptorIndex := 10, attributes := #[] }, { accessFlags := 8, nameIndex := 261, descriptorIndex := 262, attributes := #[] }, { accessFlags := 9, nameIndex := 117, descriptorIndex := 122, attributes := #[] }, { accessFlags := 9, nameIndex := 117, descriptorIndex := 118, attributes := #[] }] 48 6 #[] #[{ accessFlags := 26, nameIndex := 61, descriptorIndex := 62, attributes := #[] }, { accessFlags := 26, nameIndex := 65, descriptorIndex := 62, attributes := #[] }, { accessFlags := 24, nameIndex := 430, descriptorIndex := 62, attributes := #[] }, { accessFlags := 4120, nameIndex := 46, descriptorIndex := 47, attributes := #[] }])
  fields := #[{ name := "HI_BYTE_SHIFT", type := .int, accessFlags := 26, slot := 0, constantValue := 0 }, { name := "LO_BYTE_SHIFT", type := .int, accessFlags := 26, slot := 1, constantValue := 0 }, { name := "MAX_LENGTH", type := .int, accessFlags := 24, slot := 2, constantValue := 0 }, { name := "$assertionsDisabled", type := .boolean, accessFlags := 4120, slot := 3, constantValue := 0 }]
  methods := #[k20m0, k20m1, k20m2, k20m3]
  instanceTypes := #[]
  staticTypes := #[.int, .int, .int, .boolean]
  resolved := Array.replicate 635 none
  statics := none }

def pool21 : Array CpInfo := pool [(9, u "<init>"), (6, .class_ 18), (1, u "java/lang/Object"), (0, u "()V"), (1, .class_ 23), (1, u "jdk/internal/util/ArraysSupport"), (0, u "LOG2_ARRAY_LONG_INDEX_SCALE"), (0, u "I"), (2, u "U"), (0, u "Ljdk/internal/misc/Unsafe;"), (8, u "BIG_ENDIAN"), (0, u "Z"), (8, u "LOG2_BYTE_BIT_SIZE"), (4, u "LOG2_ARRAY_INT_INDEX_SCALE"), (54, u "JLA"), (0, u "Ljdk/internal/access/JavaLangAccess;"), (11, u "LOG2_ARRAY_BOOLEAN_INDEX_SCALE"), (9, u "LOG2_ARRAY_BYTE_INDEX_SCALE"), (5, u "LOG2_ARRAY_CHAR_INDEX_SCALE"), (5, u "LOG2_ARRAY_SHORT_INDEX_SCALE"), (18, u "LOG2_ARRAY_FLOAT_INDEX_SCALE"), (24, u "LOG2_ARRAY_DOUBLE_INDEX_SCALE"), (6, .methodref 195 196), (0, .class_ 197), (0, .nameAndType 198 199), (0, u "java/lang/Math"), (0, u "max"), (0, u "(II)I"), (0, .integer 2147483639), (76, u "T_BOOLEAN"), (2, u "T_CHAR"), (1, u "T_FLOAT"), (1, u "T_DOUBLE"), (1, u "T_BYTE"), (1, u "T_SHORT"), (1, u "T_INT"), (1, u "T_LONG"), (1, u "SOFT_MAX_ARRAY_LENGTH"), (56, u "newLength"), (0, u "(III)I")] 25

def k21m0 : Method := { name := "<init>", desc := "()V", sig := { parameters := [], returnType := none }, accessFlags := 2, code := none }
def k21c1 : Code := { maxStack := 3, maxLocals := 4, code := jdk_48_method_27_code, exceptionTable := #[], attributes := #[] }
def k21m1 : Method := { name := "newLength", desc := "(III)I", sig := { parameters := [.int, .int, .int], returnType := some .int }, accessFlags := 9, code := some k21c1 }
/-- jdk/internal/util/ArraysSupport -/
def k21 : Class := { plain "jdk/internal/util/ArraysSupport" (some 0) with
  accessFlags := 33
  interfaces := #[]
  cf := some (fileOf pool21 21 #[] #[{ accessFlags := 2, nameIndex := 9, descriptorIndex := 19, attributes := #[] }, { accessFlags := 9, nameIndex := 351, descriptorIndex := 352, attributes := #[] }] 33 16 #[] #[{ accessFlags := 24, nameIndex := 28, descriptorIndex := 29, attributes := #[] }, { accessFlags := 26, nameIndex := 38, descriptorIndex := 39, attributes := #[] }, { accessFlags := 25, nameIndex := 121, descriptorIndex := 25, attributes := #[] }, { accessFlags := 25, nameIndex := 131, descriptorIndex := 25, attributes := #[] }, { accessFlags := 25, nameIndex := 137, descriptorIndex := 25, attributes := #[] }, { accessFlags := 25, nameIndex := 143, descriptorIndex := 25, attributes := #[] }, { accessFlags := 25, nameIndex := 53, descriptorIndex := 25, attributes := #[] }, { accessFlags := 25, nameIndex := 24, descriptorIndex := 25, attributes := #[] }, { accessFlags := 25, nameIndex := 162, descriptorIndex := 25, attributes := #[] }, { accessFlags := 25, nameIndex := 187, descriptorIndex := 25, attributes := #[] }, { accessFlags := 26, nameIndex := 48, descriptorIndex := 25, attributes := #[] }, { accessFlags := 25, nameIndex := 277, descriptorIndex := 25, attributes := #[] }, { accessFlags := 25, nameIndex := 280, descriptorIndex := 25, attributes := #[] }, { accessFlags := 25, nameIndex := 282, descriptorIndex := 25, attributes := #[] }, { accessFlags := 25, nameIndex := 284, descriptorIndex := 25, attributes := #[] }, { accessFlags := 25, nameIndex := 286, descriptorIndex := 25, attributes := #[] }, { accessFlags := 25, nameIndex := 288, descriptorIndex := 25, attributes := #[] }, { accessFlags := 25, nameIndex := 290, descriptorIndex := 25, attributes := #[] }, { accessFlags := 25, nameIndex := 292, descriptorIndex := 25, attributes := #[] }, { accessFlags := 26, nameIndex := 108, descriptorIndex := 109, attributes := #[] }, { accessFlags := 25, nameIndex := 294, descriptorIndex := 25, attributes := #[] }])
  fields := #[{ name := "U", type := (.object "jdk/internal/misc/Unsafe"), accessFlags := 24, slot := 0, constantValue := 0 }, { name := "BIG_ENDIAN", type := .boolean, accessFlags := 26, slot := 1, constantValue := 0 }, { name := "LOG2_ARRAY_BOOLEAN_INDEX_SCALE", type := .int, accessFlags := 25, slot := 2, constantValue := 0 }, { name := "LOG2_ARRAY_BYTE_INDEX_SCALE", type := .int, accessFlags := 25, slot := 3, constantValue := 0 }, { name := "LOG2_ARRAY_CHAR_INDEX_SCALE", type := .int, accessFlags := 25, slot := 4, constantValue := 0 }, { name := "LOG2_ARRAY_SHORT_INDEX_SCALE", type := .int, accessFlags := 25, slot := 5, constantValue := 0 }, { name := "LOG2_ARRAY_INT_INDEX_SCALE", type := .int, accessFlags := 25, slot := 6, constantValue := 0 }, { name := "LOG2_ARRAY_LONG_INDEX_SCALE", type := .int, accessFlags := 25, slot := 7, constantValue := 0 }, { name := "LOG2_ARRAY_FLOAT_INDEX_SCALE", type := .int, accessFlags := 25, slot := 8, constantValue := 0 }, { name := "LOG2_ARRAY_DOUBLE_INDEX_SCALE", type := .int, accessFlags := 25, slot := 9, constantValue := 0 }, { name := "LOG2_BYTE_BIT_SIZE", type := .int, accessFlags := 26, slot := 10, constantValue := 0 }, { name := "T_BOOLEAN", type := .int, accessFlags := 25, slot := 11, constantValue := 0 }, { name := "T_CHAR", type := .int, accessFlags := 25, slot := 12, constantValue := 0 }, { name := "T_FLOAT", type := .int, accessFlags := 25, slot := 13, constantValue := 0 }, { name := "T_DOUBLE", type := .int, accessFlags := 25, slot := 14, constantValue := 0 }, { name := "T_BYTE", type := .int, accessFlags := 25, slot := 15, constantValue := 0 }, { name := "T_SHORT", type := .int, accessFlags := 25, slot := 16, constantValue := 0 }, { name := "T_INT", type := .int, accessFlags := 25, slot := 17, constantValue := 0 }, { name := "T_LONG", type := .int, accessFlags := 25, slot := 18, constantValue := 0 }, { name := "JLA", type := (.object "jdk/internal/access/JavaLangAccess"), accessFlags := 26, slot := 19, constantValue := 0 }, { name := "SOFT_MAX_ARRAY_LENGTH", type := .int, accessFlags := 25, slot := 20, constantValue := 0 }]
  methods := #[k21m0, k21m1]
  instanceTypes := #[]
  staticTypes := #[(.object "jdk/internal/misc/Unsafe"), .boolean, .int, .int, .int, .int, .int, .int, .int, .int, .int, .int, .int, .int, .int, .int, .int, .int, .int, (.object "jdk/internal/access/JavaLangAccess"), .int]
  resolved := Array.replicate 378 none
  statics := none }

def pool22 : Array CpInfo := pool [(1, .class_ 2), (0, u "java/lang/Cloneable"), (0, .class_ 4), (0, u "java/lang/Object")] 2

/-- java/lang/Cloneable -/
def k22 : Class := { plain "java/lang/Cloneable" (some 0) with
  accessFlags := 1537
  interfaces := #[]
  cf := some (fileOf pool22 1 #[] #[] 1537 3 #[] #[])
  fields := #[]
  methods := #[]
  instanceTypes := #[]
  staticTypes := #[]
  resolved := Array.replicate 7 none
  statics := none }

/-- the primitive byte -/
def k23 : Class := { plain "byte" none with kind := .primitive 'B', accessFlags := 0x411 }
/-- [B -/
def k24 : Class := { plain "[B" (some 0) with kind := .array 23 .byte, interfaces := #[22, 2], accessFlags := 1041 }

/-- the primitive char -/
def k25 : Class := { plain "char" none with kind := .primitive 'C', accessFlags := 0x411 }
/-- [C -/
def k26 : Class := { plain "[C" (some 0) with kind := .array 25 .char, interfaces := #[22, 2], accessFlags := 1041 }

/-- the primitive int -/
def k27 : Class := { plain "int" none with kind := .primitive 'I', accessFlags := 0x411 }
/-- [I -/
def k28 : Class := { plain "[I" (some 0) with kind := .array 27 .int, interfaces := #[22, 2], accessFlags := 1041 }

def heap : Heap := #[{ cls := 7, slots := #[.long 0, .int 1, .null, .int 0, .null, .int 0, .int 0], vm := .statics 7 },
  { cls := 16, slots := #[.int 0, .int 0, .null, .null, .ref 4, .ref 3, .int 0, .int 0, .long 0], vm := .statics 16 },
  { cls := 19, slots := #[.null, .null, .null], vm := .statics 19 },
  { cls := 24, slots := #[.int 48, .int 49, .int 50, .int 51, .int 52, .int 53, .int 54, .int 55, .int 56, .int 57, .int 48, .int 49, .int 50, .int 51, .int 52, .int 53, .int 54, .int 55, .int 56, .int 57, .int 48, .int 49, .int 50, .int 51, .int 52, .int 53, .int 54, .int 55, .int 56, .int 57, .int 48, .int 49, .int 50, .int 51, .int 52, .int 53, .int 54, .int 55, .int 56, .int 57, .int 48, .int 49, .int 50, .int 51, .int 52, .int 53, .int 54, .int 55, .int 56, .int 57, .int 48, .int 49, .int 50, .int 51, .int 52, .int 53, .int 54, .int 55, .int 56, .int 57, .int 48, .int 49, .int 50, .int 51, .int 52, .int 53, .int 54, .int 55, .int 56, .int 57, .int 48, .int 49, .int 50, .int 51, .int 52, .int 53, .int 54, .int 55, .int 56, .int 57, .int 48, .int 49, .int 50, .int 51, .int 52, .int 53, .int 54, .int 55, .int 56, .int 57, .int 48, .int 49, .int 50, .int 51, .int 52, .int 53, .int 54, .int 55, .int 56, .int 57], vm := .none },
  { cls := 24, slots := #[.int 48, .int 48, .int 48, .int 48, .int 48, .int 48, .int 48, .int 48, .int 48, .int 48, .int 49, .int 49, .int 49, .int 49, .int 49, .int 49, .int 49, .int 49, .int 49, .int 49, .int 50, .int 50, .int 50, .int 50, .int 50, .int 50, .int 50, .int 50, .int 50, .int 50, .int 51, .int 51, .int 51, .int 51, .int 51, .int 51, .int 51, .int 51, .int 51, .int 51, .int 52, .int 52, .int 52, .int 52, .int 52, .int 52, .int 52, .int 52, .int 52, .int 52, .int 53, .int 53, .int 53, .int 53, .int 53, .int 53, .int 53, .int 53, .int 53, .int 53, .int 54, .int 54, .int 54, .int 54, .int 54, .int 54, .int 54, .int 54, .int 54, .int 54, .int 55, .int 55, .int 55, .int 55, .int 55, .int 55, .int 55, .int 55, .int 55, .int 55, .int 56, .int 56, .int 56, .int 56, .int 56, .int 56, .int 56, .int 56, .int 56, .int 56, .int 57, .int 57, .int 57, .int 57, .int 57, .int 57, .int 57, .int 57, .int 57, .int 57], vm := .none }]
def classes : Array Class := #[k0, k1, k2, k3, k4, k5, k6, k7, k8, k9, k10, k11, k12, k13, k14, k15, k16, k17, k18, k19, k20, k21, k22, k23, k24, k25, k26, k27, k28]
def interned : List (Array UInt16 × Addr) := []
def slotsUsed : Nat := 219
def theMethod : MethodId := ⟨1, 7⟩
def args0 : Array Value := #[.int 5, .int 6, .int 7]
def aboutOver (below : List Frame) : State where
  vm := { classes := classes, interned := interned.toArray }
  heap := heap
  slotsUsed := slotsUsed
  threads := #[{ frames := .invoking theMethod args0 :: below }]
def below0 : List Frame := [.native { method := ⟨0, 0⟩, args := #[] }]
def about1 : State := aboutOver below0
def p0 : Program := .bare "" "" ""
def e0 : Env := launch0.env 0 0 0
theorem w_frames : about1.frames = Frame.invoking theMethod args0 :: below0 := rfl
set_option maxRecDepth 65536 in
theorem w_args : argsFit about1.vm theMethod args0 = true := by decide +kernel
set_option maxRecDepth 65536 in
theorem w_heap : heapFits about1 = true := by decide +kernel
set_option maxRecDepth 65536 in
theorem w_runnable : about1.curStatus? = some .runnable := by decide +kernel
set_option maxRecDepth 65536 in
theorem w_alone : about1.alone = true := by decide +kernel
set_option maxRecDepth 65536 in
theorem w_named : about1.methodNamed? x = some theMethod := by decide +kernel
set_option maxRecDepth 65536 in
theorem w_hears : about1.hears theMethod below0 = true := by decide +kernel
set_option maxRecDepth 65536 in
theorem w_ripe : about1.ripe theMethod args0 below0 = true := by decide +kernel
theorem w_running : about1.status = .running := rfl
set_option maxRecDepth 65536 in
theorem w_room : about1.hasRoom e0.platform room_1 = true :=
  launch0.hasRoom_least _ room_1 (by decide +kernel) (by decide +kernel) (by decide +kernel) (by decide +kernel) (by decide +kernel) (by decide +kernel)
theorem allAtoms_all (ts : List Jvm.Cond) (a : Array Jvm.Value) (st : Jvm.State) : (allAtoms ts).before a st = ts.all (fun c => c.before a st) := by
  induction ts with
  | nil => rfl
  | cons c t ih =>
    show (Jvm.Cond.and c (allAtoms t)).before a st = _
    rw [Jvm.Cond.before_and, ih, List.all_cons]
def words1 : List Jvm.Cond := Jvm.Cond.code x code maxLocals ret :: tables_1
/-- a 'code' word, met by the world's own term for the bytes: nothing is compared byte by byte -/
theorem code_word {y : MethodName} {bytes : ByteArray} {mx : Nat} {rt : Option FieldType} {a : Array Value} {s : State} {m : MethodId} {meth : Method} {c : Code} (h1 : s.methodNamed? y = some m) (h2 : s.vm.method? m = some meth) (h3 : meth.code = some c) (h4 : c.code = bytes)
    (h5 : (c.maxLocals == mx && c.exceptionTable.isEmpty && decide (c.maxStack ≤ mostOperands) && decide (meth.sig.returnType = rt) && !meth.locks && decide (parseMethodDescriptor y.desc = some meth.sig)) = true) : (Jvm.Cond.code y bytes mx rt).before a s = true := by
  simp only [Bool.and_eq_true, beq_iff_eq, Bool.not_eq_true', decide_eq_true_eq] at h5
  obtain ⟨⟨⟨⟨⟨g1, g2⟩, g3⟩, g4⟩, g5⟩, g6⟩ := h5
  simp [Cond.before, Cond.holds, Cond.value, h1, h2, h3, h4, g1, g2, g3, g4, g5, g6]
def isCode : Jvm.Cond → Bool
  | .code _ _ _ _ => true
  | _ => false
theorem all_split {L : List Jvm.Cond} {P : Jvm.Cond → Bool} (h1 : L.all (fun c => isCode c || P c) = true) (h2 : ∀ c ∈ L.filter isCode, P c = true) : L.all P = true := by
  refine List.all_eq_true.mpr fun c hc => ?_
  have h := List.all_eq_true.mp h1 c hc
  rcases Bool.eq_false_or_eq_true (isCode c) with hi | hi
  · exact h2 c (List.mem_filter.mpr ⟨hc, hi⟩)
  · simpa [hi] using h
set_option maxRecDepth 65536 in
theorem w_c0 : (Jvm.Cond.code x code maxLocals ret).before args0 about1 = true := code_word (m := ⟨1, 7⟩) (meth := k1m7) (c := k1c7) (by decide +kernel) rfl rfl rfl (by decide +kernel)
set_option maxRecDepth 65536 in
theorem w_c1 : (Jvm.Cond.code ({ cls := "com/example/per1od/per1od/StoreAddressToStringPinLaw", name := "hc", desc := "(I)C" } : Jvm.MethodName) method_7_code (2 : Nat) (Option.some Jvm.ClassFile.FieldType.char)).before args0 about1 = true := code_word (m := ⟨1, 6⟩) (meth := k1m6) (c := k1c6) (by decide +kernel) rfl rfl rfl (by decide +kernel)
set_option maxRecDepth 65536 in
theorem w_c2 : (Jvm.Cond.code ({ cls := "com/example/per1od/per1od/StoreAddress", name := "<init>", desc := "(Ljava/lang/String;II)V" } : Jvm.MethodName) prog_23_method_1_code (4 : Nat) (Option.none : Option Jvm.ClassFile.FieldType)).before args0 about1 = true := code_word (m := ⟨9, 0⟩) (meth := k9m0) (c := k9c0) (by decide +kernel) rfl rfl rfl (by decide +kernel)
set_option maxRecDepth 65536 in
theorem w_c3 : (Jvm.Cond.code ({ cls := "java/lang/Record", name := "<init>", desc := "()V" } : Jvm.MethodName) jdk_30_method_1_code (1 : Nat) (Option.none : Option Jvm.ClassFile.FieldType)).before args0 about1 = true := code_word (m := ⟨8, 0⟩) (meth := k8m0) (c := k8c0) (by decide +kernel) rfl rfl rfl (by decide +kernel)
set_option maxRecDepth 65536 in
theorem w_c4 : (Jvm.Cond.code ({ cls := "java/lang/Object", name := "<init>", desc := "()V" } : Jvm.MethodName) object_method_1_code (1 : Nat) (Option.none : Option Jvm.ClassFile.FieldType)).before args0 about1 = true := code_word (m := ⟨0, 0⟩) (meth := k0m0) (c := k0c0) (by decide +kernel) rfl rfl rfl (by decide +kernel)
set_option maxRecDepth 65536 in
theorem w_c5 : (Jvm.Cond.code ({ cls := "com/example/per1od/per1od/StoreAddress", name := "toString", desc := "()Ljava/lang/String;" } : Jvm.MethodName) prog_23_method_3_code (2 : Nat) (Option.some (Jvm.ClassFile.FieldType.object "java/lang/String"))).before args0 about1 = true := code_word (m := ⟨9, 1⟩) (meth := k9m1) (c := k9c1) (by decide +kernel) rfl rfl rfl (by decide +kernel)
set_option maxRecDepth 65536 in
theorem w_c6 : (Jvm.Cond.code ({ cls := "java/lang/String", name := "contains", desc := "(Ljava/lang/CharSequence;)Z" } : Jvm.MethodName) jdk_42_method_97_code (2 : Nat) (Option.some Jvm.ClassFile.FieldType.boolean)).before args0 about1 = true := code_word (m := ⟨7, 6⟩) (meth := k7m6) (c := k7c6) (by decide +kernel) rfl rfl rfl (by decide +kernel)
set_option maxRecDepth 65536 in
theorem w_c7 : (Jvm.Cond.code ({ cls := "java/lang/String", name := "toString", desc := "()Ljava/lang/String;" } : Jvm.MethodName) jdk_42_method_126_code (1 : Nat) (Option.some (Jvm.ClassFile.FieldType.object "java/lang/String"))).before args0 about1 = true := code_word (m := ⟨7, 7⟩) (meth := k7m7) (c := k7c7) (by decide +kernel) rfl rfl rfl (by decide +kernel)
set_option maxRecDepth 65536 in
theorem w_c8 : (Jvm.Cond.code ({ cls := "java/lang/String", name := "indexOf", desc := "(Ljava/lang/String;)I" } : Jvm.MethodName) jdk_42_method_84_code (3 : Nat) (Option.some Jvm.ClassFile.FieldType.int)).before args0 about1 = true := code_word (m := ⟨7, 5⟩) (meth := k7m5) (c := k7c5) (by decide +kernel) rfl rfl rfl (by decide +kernel)
set_option maxRecDepth 65536 in
theorem w_c9 : (Jvm.Cond.code ({ cls := "java/lang/String", name := "coder", desc := "()B" } : Jvm.MethodName) jdk_42_method_152_code (1 : Nat) (Option.some Jvm.ClassFile.FieldType.byte)).before args0 about1 = true := code_word (m := ⟨7, 13⟩) (meth := k7m13) (c := k7c13) (by decide +kernel) rfl rfl rfl (by decide +kernel)
set_option maxRecDepth 65536 in
theorem w_c10 : (Jvm.Cond.code ({ cls := "java/lang/String", name := "isLatin1", desc := "()Z" } : Jvm.MethodName) jdk_42_method_154_code (1 : Nat) (Option.some Jvm.ClassFile.FieldType.boolean)).before args0 about1 = true := code_word (m := ⟨7, 14⟩) (meth := k7m14) (c := k7c14) (by decide +kernel) rfl rfl rfl (by decide +kernel)
set_option maxRecDepth 65536 in
theorem w_c11 : (Jvm.Cond.code ({ cls := "java/lang/StringLatin1", name := "indexOf", desc := "([B[B)I" } : Jvm.MethodName) jdk_43_method_24_code (2 : Nat) (Option.some Jvm.ClassFile.FieldType.int)).before args0 about1 = true := code_word (m := ⟨10, 3⟩) (meth := k10m3) (c := k10c3) (by decide +kernel) rfl rfl rfl (by decide +kernel)
set_option maxRecDepth 65536 in
theorem w_c12 : (Jvm.Cond.code ({ cls := "java/lang/StringBuilder", name := "<init>", desc := "()V" } : Jvm.MethodName) jdk_67_method_1_code (1 : Nat) (Option.none : Option Jvm.ClassFile.FieldType)).before args0 about1 = true := code_word (m := ⟨13, 0⟩) (meth := k13m0) (c := k13c0) (by decide +kernel) rfl rfl rfl (by decide +kernel)
set_option maxRecDepth 65536 in
theorem w_c13 : (Jvm.Cond.code ({ cls := "java/lang/AbstractStringBuilder", name := "<init>", desc := "(I)V" } : Jvm.MethodName) jdk_68_method_2_code (2 : Nat) (Option.none : Option Jvm.ClassFile.FieldType)).before args0 about1 = true := code_word (m := ⟨12, 1⟩) (meth := k12m1) (c := k12c1) (by decide +kernel) rfl rfl rfl (by decide +kernel)
set_option maxRecDepth 65536 in
theorem w_c14 : (Jvm.Cond.code ({ cls := "java/lang/StringBuilder", name := "append", desc := "(Ljava/lang/String;)Ljava/lang/StringBuilder;" } : Jvm.MethodName) jdk_67_method_7_code (2 : Nat) (Option.some (Jvm.ClassFile.FieldType.object "java/lang/StringBuilder"))).before args0 about1 = true := code_word (m := ⟨13, 1⟩) (meth := k13m1) (c := k13c1) (by decide +kernel) rfl rfl rfl (by decide +kernel)
set_option maxRecDepth 65536 in
theorem w_c15 : (Jvm.Cond.code ({ cls := "java/lang/AbstractStringBuilder", name := "append", desc := "(Ljava/lang/String;)Ljava/lang/AbstractStringBuilder;" } : Jvm.MethodName) jdk_68_method_22_code (3 : Nat) (Option.some (Jvm.ClassFile.FieldType.object "java/lang/AbstractStringBuilder"))).before args0 about1 = true := code_word (m := ⟨12, 5⟩) (meth := k12m5) (c := k12c5) (by decide +kernel) rfl rfl rfl (by decide +kernel)
set_option maxRecDepth 65536 in
theorem w_c16 : (Jvm.Cond.code ({ cls := "java/lang/String", name := "length", desc := "()I" } : Jvm.MethodName) jdk_42_method_54_code (1 : Nat) (Option.some Jvm.ClassFile.FieldType.int)).before args0 about1 = true := code_word (m := ⟨7, 3⟩) (meth := k7m3) (c := k7c3) (by decide +kernel) rfl rfl rfl (by decide +kernel)
set_option maxRecDepth 65536 in
theorem w_c17 : (Jvm.Cond.code ({ cls := "java/lang/AbstractStringBuilder", name := "ensureCapacityInternal", desc := "(I)V" } : Jvm.MethodName) jdk_68_method_9_code (3 : Nat) (Option.none : Option Jvm.ClassFile.FieldType)).before args0 about1 = true := code_word (m := ⟨12, 3⟩) (meth := k12m3) (c := k12c3) (by decide +kernel) rfl rfl rfl (by decide +kernel)
set_option maxRecDepth 65536 in
theorem w_c18 : (Jvm.Cond.code ({ cls := "java/lang/AbstractStringBuilder", name := "putStringAt", desc := "(ILjava/lang/String;)V" } : Jvm.MethodName) jdk_68_method_73_code (3 : Nat) (Option.none : Option Jvm.ClassFile.FieldType)).before args0 about1 = true := code_word (m := ⟨12, 10⟩) (meth := k12m10) (c := k12c10) (by decide +kernel) rfl rfl rfl (by decide +kernel)
set_option maxRecDepth 65536 in
theorem w_c19 : (Jvm.Cond.code ({ cls := "java/lang/AbstractStringBuilder", name := "inflateIfNeededFor", desc := "(Ljava/lang/String;)V" } : Jvm.MethodName) jdk_68_method_71_code (2 : Nat) (Option.none : Option Jvm.ClassFile.FieldType)).before args0 about1 = true := code_word (m := ⟨12, 9⟩) (meth := k12m9) (c := k12c9) (by decide +kernel) rfl rfl rfl (by decide +kernel)
set_option maxRecDepth 65536 in
theorem w_c20 : (Jvm.Cond.code ({ cls := "java/lang/String", name := "getBytes", desc := "([BIB)V" } : Jvm.MethodName) jdk_42_method_147_code (4 : Nat) (Option.none : Option Jvm.ClassFile.FieldType)).before args0 about1 = true := code_word (m := ⟨7, 9⟩) (meth := k7m9) (c := k7c9) (by decide +kernel) rfl rfl rfl (by decide +kernel)
set_option maxRecDepth 65536 in
theorem w_c21 : (Jvm.Cond.code ({ cls := "java/lang/StringBuilder", name := "append", desc := "(I)Ljava/lang/StringBuilder;" } : Jvm.MethodName) jdk_67_method_15_code (2 : Nat) (Option.some (Jvm.ClassFile.FieldType.object "java/lang/StringBuilder"))).before args0 about1 = true := code_word (m := ⟨13, 2⟩) (meth := k13m2) (c := k13c2) (by decide +kernel) rfl rfl rfl (by decide +kernel)
set_option maxRecDepth 65536 in
theorem w_c22 : (Jvm.Cond.code ({ cls := "java/lang/AbstractStringBuilder", name := "append", desc := "(I)Ljava/lang/AbstractStringBuilder;" } : Jvm.MethodName) jdk_68_method_32_code (4 : Nat) (Option.some (Jvm.ClassFile.FieldType.object "java/lang/AbstractStringBuilder"))).before args0 about1 = true := code_word (m := ⟨12, 6⟩) (meth := k12m6) (c := k12c6) (by decide +kernel) rfl rfl rfl (by decide +kernel)
set_option maxRecDepth 65536 in
theorem w_c23 : (Jvm.Cond.code ({ cls := "java/lang/Integer", name := "stringSize", desc := "(I)I" } : Jvm.MethodName) jdk_33_method_13_code (4 : Nat) (Option.some Jvm.ClassFile.FieldType.int)).before args0 about1 = true := code_word (m := ⟨16, 1⟩) (meth := k16m1) (c := k16c1) (by decide +kernel) rfl rfl rfl (by decide +kernel)
set_option maxRecDepth 65536 in
theorem w_c24 : (Jvm.Cond.code ({ cls := "java/lang/AbstractStringBuilder", name := "isLatin1", desc := "()Z" } : Jvm.MethodName) jdk_68_method_68_code (1 : Nat) (Option.some Jvm.ClassFile.FieldType.boolean)).before args0 about1 = true := code_word (m := ⟨12, 8⟩) (meth := k12m8) (c := k12c8) (by decide +kernel) rfl rfl rfl (by decide +kernel)
set_option maxRecDepth 65536 in
theorem w_c25 : (Jvm.Cond.code ({ cls := "java/lang/Integer", name := "getChars", desc := "(II[B)I" } : Jvm.MethodName) jdk_33_method_12_code (7 : Nat) (Option.some Jvm.ClassFile.FieldType.int)).before args0 about1 = true := code_word (m := ⟨16, 0⟩) (meth := k16m0) (c := k16c0) (by decide +kernel) rfl rfl rfl (by decide +kernel)
set_option maxRecDepth 65536 in
theorem w_c26 : (Jvm.Cond.code ({ cls := "java/lang/StringBuilder", name := "toString", desc := "()Ljava/lang/String;" } : Jvm.MethodName) jdk_67_method_42_code (1 : Nat) (Option.some (Jvm.ClassFile.FieldType.object "java/lang/String"))).before args0 about1 = true := code_word (m := ⟨13, 3⟩) (meth := k13m3) (c := k13c3) (by decide +kernel) rfl rfl rfl (by decide +kernel)
set_option maxRecDepth 65536 in
theorem w_c27 : (Jvm.Cond.code ({ cls := "java/lang/String", name := "<init>", desc := "(Ljava/lang/StringBuilder;)V" } : Jvm.MethodName) jdk_42_method_53_code (2 : Nat) (Option.none : Option Jvm.ClassFile.FieldType)).before args0 about1 = true := code_word (m := ⟨7, 2⟩) (meth := k7m2) (c := k7c2) (by decide +kernel) rfl rfl rfl (by decide +kernel)
set_option maxRecDepth 65536 in
theorem w_c28 : (Jvm.Cond.code ({ cls := "java/lang/String", name := "<init>", desc := "(Ljava/lang/AbstractStringBuilder;Ljava/lang/Void;)V" } : Jvm.MethodName) jdk_42_method_150_code (5 : Nat) (Option.none : Option Jvm.ClassFile.FieldType)).before args0 about1 = true := code_word (m := ⟨7, 11⟩) (meth := k7m11) (c := k7c11) (by decide +kernel) rfl rfl rfl (by decide +kernel)
set_option maxRecDepth 65536 in
theorem w_c29 : (Jvm.Cond.code ({ cls := "java/lang/AbstractStringBuilder", name := "getValue", desc := "()[B" } : Jvm.MethodName) jdk_68_method_64_code (1 : Nat) (Option.some (Jvm.ClassFile.FieldType.array Jvm.ClassFile.FieldType.byte))).before args0 about1 = true := code_word (m := ⟨12, 7⟩) (meth := k12m7) (c := k12c7) (by decide +kernel) rfl rfl rfl (by decide +kernel)
set_option maxRecDepth 65536 in
theorem w_c30 : (Jvm.Cond.code ({ cls := "java/lang/StringBuilder", name := "length", desc := "()I" } : Jvm.MethodName) jdk_67_method_93_code (1 : Nat) (Option.some Jvm.ClassFile.FieldType.int)).before args0 about1 = true := code_word (m := ⟨13, 4⟩) (meth := k13m4) (c := k13c4) (by decide +kernel) rfl rfl rfl (by decide +kernel)
set_option maxRecDepth 65536 in
theorem w_c31 : (Jvm.Cond.code ({ cls := "java/lang/AbstractStringBuilder", name := "length", desc := "()I" } : Jvm.MethodName) jdk_68_method_6_code (1 : Nat) (Option.some Jvm.ClassFile.FieldType.int)).before args0 about1 = true := code_word (m := ⟨12, 2⟩) (meth := k12m2) (c := k12c2) (by decide +kernel) rfl rfl rfl (by decide +kernel)
set_option maxRecDepth 65536 in
theorem w_c32 : (Jvm.Cond.code ({ cls := "java/util/Arrays", name := "copyOfRange", desc := "([BII)[B" } : Jvm.MethodName) jdk_65_method_132_code (3 : Nat) (Option.some (Jvm.ClassFile.FieldType.array Jvm.ClassFile.FieldType.byte))).before args0 about1 = true := code_word (m := ⟨17, 3⟩) (meth := k17m3) (c := k17c3) (by decide +kernel) rfl rfl rfl (by decide +kernel)
set_option maxRecDepth 65536 in
theorem w_c33 : (Jvm.Cond.code ({ cls := "java/util/Arrays", name := "copyOfRangeByte", desc := "([BII)[B" } : Jvm.MethodName) jdk_65_method_133_code (5 : Nat) (Option.some (Jvm.ClassFile.FieldType.array Jvm.ClassFile.FieldType.byte))).before args0 about1 = true := code_word (m := ⟨17, 4⟩) (meth := k17m4) (c := k17c4) (by decide +kernel) rfl rfl rfl (by decide +kernel)
set_option maxRecDepth 65536 in
theorem w_c34 : (Jvm.Cond.code ({ cls := "java/util/Arrays", name := "checkLength", desc := "(II)V" } : Jvm.MethodName) jdk_65_method_131_code (2 : Nat) (Option.none : Option Jvm.ClassFile.FieldType)).before args0 about1 = true := code_word (m := ⟨17, 2⟩) (meth := k17m2) (c := k17c2) (by decide +kernel) rfl rfl rfl (by decide +kernel)
set_option maxRecDepth 65536 in
theorem w_c35 : (Jvm.Cond.code ({ cls := "java/lang/Math", name := "min", desc := "(II)I" } : Jvm.MethodName) jdk_29_method_69_code (2 : Nat) (Option.some Jvm.ClassFile.FieldType.int)).before args0 about1 = true := code_word (m := ⟨18, 2⟩) (meth := k18m2) (c := k18c2) (by decide +kernel) rfl rfl rfl (by decide +kernel)
set_option maxRecDepth 65536 in
theorem w_c36 : (Jvm.Cond.code ({ cls := "com/example/per1od/per1od/StoreAddressToStringPinLaw", name := "ndig", desc := "(I)I" } : Jvm.MethodName) method_4_code (1 : Nat) (Option.some Jvm.ClassFile.FieldType.int)).before args0 about1 = true := code_word (m := ⟨1, 3⟩) (meth := k1m3) (c := k1c3) (by decide +kernel) rfl rfl rfl (by decide +kernel)
set_option maxRecDepth 65536 in
theorem w_c37 : (Jvm.Cond.code ({ cls := "com/example/per1od/per1od/StoreAddressToStringPinLaw", name := "at", desc := "(Ljava/lang/String;IC)Z" } : Jvm.MethodName) method_5_code (3 : Nat) (Option.some Jvm.ClassFile.FieldType.boolean)).before args0 about1 = true := code_word (m := ⟨1, 4⟩) (meth := k1m4) (c := k1c4) (by decide +kernel) rfl rfl rfl (by decide +kernel)
set_option maxRecDepth 65536 in
theorem w_c38 : (Jvm.Cond.code ({ cls := "java/lang/String", name := "charAt", desc := "(I)C" } : Jvm.MethodName) jdk_42_method_56_code (2 : Nat) (Option.some Jvm.ClassFile.FieldType.char)).before args0 about1 = true := code_word (m := ⟨7, 4⟩) (meth := k7m4) (c := k7c4) (by decide +kernel) rfl rfl rfl (by decide +kernel)
set_option maxRecDepth 65536 in
theorem w_c39 : (Jvm.Cond.code ({ cls := "java/lang/StringLatin1", name := "charAt", desc := "([BI)C" } : Jvm.MethodName) jdk_43_method_2_code (2 : Nat) (Option.some Jvm.ClassFile.FieldType.char)).before args0 about1 = true := code_word (m := ⟨10, 1⟩) (meth := k10m1) (c := k10c1) (by decide +kernel) rfl rfl rfl (by decide +kernel)
set_option maxRecDepth 65536 in
theorem w_c40 : (Jvm.Cond.code ({ cls := "java/lang/String", name := "checkIndex", desc := "(II)V" } : Jvm.MethodName) jdk_42_method_155_code (2 : Nat) (Option.none : Option Jvm.ClassFile.FieldType)).before args0 about1 = true := code_word (m := ⟨7, 15⟩) (meth := k7m15) (c := k7c15) (by decide +kernel) rfl rfl rfl (by decide +kernel)
set_option maxRecDepth 65536 in
theorem w_c41 : (Jvm.Cond.code ({ cls := "jdk/internal/util/Preconditions", name := "checkIndex", desc := "(IILjava/util/function/BiFunction;)I" } : Jvm.MethodName) jdk_41_method_11_code (3 : Nat) (Option.some Jvm.ClassFile.FieldType.int)).before args0 about1 = true := code_word (m := ⟨19, 1⟩) (meth := k19m1) (c := k19c1) (by decide +kernel) rfl rfl rfl (by decide +kernel)
set_option maxRecDepth 65536 in
theorem w_c42 : (Jvm.Cond.code ({ cls := "com/example/per1od/per1od/StoreAddressToStringPinLaw", name := "num", desc := "(Ljava/lang/String;II)Z" } : Jvm.MethodName) method_6_code (5 : Nat) (Option.some Jvm.ClassFile.FieldType.boolean)).before args0 about1 = true := code_word (m := ⟨1, 5⟩) (meth := k1m5) (c := k1c5) (by decide +kernel) rfl rfl rfl (by decide +kernel)
set_option maxRecDepth 65536 in
theorem w_c43 : (Jvm.Cond.code ({ cls := "com/example/per1od/per1od/StoreAddressToStringPinLaw", name := "dig", desc := "(II)C" } : Jvm.MethodName) method_3_code (2 : Nat) (Option.some Jvm.ClassFile.FieldType.char)).before args0 about1 = true := code_word (m := ⟨1, 2⟩) (meth := k1m2) (c := k1c2) (by decide +kernel) rfl rfl rfl (by decide +kernel)
set_option maxRecDepth 65536 in
theorem w_c44 : (Jvm.Cond.code ({ cls := "com/example/per1od/per1od/StoreAddressToStringPinLaw", name := "p10", desc := "(I)I" } : Jvm.MethodName) method_2_code (1 : Nat) (Option.some Jvm.ClassFile.FieldType.int)).before args0 about1 = true := code_word (m := ⟨1, 1⟩) (meth := k1m1) (c := k1c1) (by decide +kernel) rfl rfl rfl (by decide +kernel)
set_option maxRecDepth 65536 in
theorem w_c45 : (Jvm.Cond.code ({ cls := "java/lang/String", name := "valueOf", desc := "(C)Ljava/lang/String;" } : Jvm.MethodName) jdk_42_method_139_code (1 : Nat) (Option.some (Jvm.ClassFile.FieldType.object "java/lang/String"))).before args0 about1 = true := code_word (m := ⟨7, 8⟩) (meth := k7m8) (c := k7c8) (by decide +kernel) rfl rfl rfl (by decide +kernel)
set_option maxRecDepth 65536 in
theorem w_c46 : (Jvm.Cond.code ({ cls := "java/lang/StringLatin1", name := "canEncode", desc := "(C)Z" } : Jvm.MethodName) jdk_43_method_3_code (1 : Nat) (Option.some Jvm.ClassFile.FieldType.boolean)).before args0 about1 = true := code_word (m := ⟨10, 2⟩) (meth := k10m2) (c := k10c2) (by decide +kernel) rfl rfl rfl (by decide +kernel)
set_option maxRecDepth 65536 in
theorem w_c47 : (Jvm.Cond.code ({ cls := "java/lang/StringLatin1", name := "toBytes", desc := "(C)[B" } : Jvm.MethodName) jdk_43_method_46_code (1 : Nat) (Option.some (Jvm.ClassFile.FieldType.array Jvm.ClassFile.FieldType.byte))).before args0 about1 = true := code_word (m := ⟨10, 5⟩) (meth := k10m5) (c := k10c5) (by decide +kernel) rfl rfl rfl (by decide +kernel)
set_option maxRecDepth 65536 in
theorem w_c48 : (Jvm.Cond.code ({ cls := "java/lang/String", name := "<init>", desc := "([BB)V" } : Jvm.MethodName) jdk_42_method_151_code (3 : Nat) (Option.none : Option Jvm.ClassFile.FieldType)).before args0 about1 = true := code_word (m := ⟨7, 12⟩) (meth := k7m12) (c := k7c12) (by decide +kernel) rfl rfl rfl (by decide +kernel)
set_option maxRecDepth 65536 in
theorem w_c49 : (Jvm.Cond.code ({ cls := "java/lang/StringLatin1", name := "indexOf", desc := "([BI[BII)I" } : Jvm.MethodName) jdk_43_method_25_code (11 : Nat) (Option.some Jvm.ClassFile.FieldType.int)).before args0 about1 = true := code_word (m := ⟨10, 4⟩) (meth := k10m4) (c := k10c4) (by decide +kernel) rfl rfl rfl (by decide +kernel)
set_option maxRecDepth 65536 in
theorem w_c50 : (Jvm.Cond.code ({ cls := "java/lang/String", name := "<init>", desc := "([C)V" } : Jvm.MethodName) jdk_42_method_3_code (2 : Nat) (Option.none : Option Jvm.ClassFile.FieldType)).before args0 about1 = true := code_word (m := ⟨7, 1⟩) (meth := k7m1) (c := k7c1) (by decide +kernel) rfl rfl rfl (by decide +kernel)
set_option maxRecDepth 65536 in
theorem w_c51 : (Jvm.Cond.code ({ cls := "java/lang/String", name := "<init>", desc := "([CIILjava/lang/Void;)V" } : Jvm.MethodName) jdk_42_method_149_code (6 : Nat) (Option.none : Option Jvm.ClassFile.FieldType)).before args0 about1 = true := code_word (m := ⟨7, 10⟩) (meth := k7m10) (c := k7c10) (by decide +kernel) rfl rfl rfl (by decide +kernel)
set_option maxRecDepth 65536 in
theorem w_c52 : (Jvm.Cond.code ({ cls := "java/lang/StringUTF16", name := "compress", desc := "([CII)[B" } : Jvm.MethodName) jdk_52_method_16_code (6 : Nat) (Option.some (Jvm.ClassFile.FieldType.array Jvm.ClassFile.FieldType.byte))).before args0 about1 = true := code_word (m := ⟨20, 2⟩) (meth := k20m2) (c := k20c2) (by decide +kernel) rfl rfl rfl (by decide +kernel)
set_option maxRecDepth 65536 in
theorem w_c53 : (Jvm.Cond.code ({ cls := "java/lang/StringUTF16", name := "compress", desc := "([CI[BII)I" } : Jvm.MethodName) jdk_52_method_21_code (7 : Nat) (Option.some Jvm.ClassFile.FieldType.int)).before args0 about1 = true := code_word (m := ⟨20, 3⟩) (meth := k20m3) (c := k20c3) (by decide +kernel) rfl rfl rfl (by decide +kernel)
set_option maxRecDepth 65536 in
theorem w_c54 : (Jvm.Cond.code ({ cls := "java/lang/StringUTF16", name := "coderFromArrayLen", desc := "([BI)B" } : Jvm.MethodName) jdk_52_method_15_code (2 : Nat) (Option.some Jvm.ClassFile.FieldType.byte)).before args0 about1 = true := code_word (m := ⟨20, 1⟩) (meth := k20m1) (c := k20c1) (by decide +kernel) rfl rfl rfl (by decide +kernel)
set_option maxRecDepth 65536 in
theorem w_c55 : (Jvm.Cond.code ({ cls := "java/lang/AbstractStringBuilder", name := "newCapacity", desc := "(I)I" } : Jvm.MethodName) jdk_68_method_10_code (6 : Nat) (Option.some Jvm.ClassFile.FieldType.int)).before args0 about1 = true := code_word (m := ⟨12, 4⟩) (meth := k12m4) (c := k12c4) (by decide +kernel) rfl rfl rfl (by decide +kernel)
set_option maxRecDepth 65536 in
theorem w_c56 : (Jvm.Cond.code ({ cls := "jdk/internal/util/ArraysSupport", name := "newLength", desc := "(III)I" } : Jvm.MethodName) jdk_48_method_27_code (4 : Nat) (Option.some Jvm.ClassFile.FieldType.int)).before args0 about1 = true := code_word (m := ⟨21, 1⟩) (meth := k21m1) (c := k21c1) (by decide +kernel) rfl rfl rfl (by decide +kernel)
set_option maxRecDepth 65536 in
theorem w_c57 : (Jvm.Cond.code ({ cls := "java/lang/Math", name := "max", desc := "(II)I" } : Jvm.MethodName) jdk_29_method_65_code (2 : Nat) (Option.some Jvm.ClassFile.FieldType.int)).before args0 about1 = true := code_word (m := ⟨18, 1⟩) (meth := k18m1) (c := k18c1) (by decide +kernel) rfl rfl rfl (by decide +kernel)
set_option maxRecDepth 65536 in
theorem w_c58 : (Jvm.Cond.code ({ cls := "java/util/Arrays", name := "copyOf", desc := "([BI)[B" } : Jvm.MethodName) jdk_65_method_121_code (3 : Nat) (Option.some (Jvm.ClassFile.FieldType.array Jvm.ClassFile.FieldType.byte))).before args0 about1 = true := code_word (m := ⟨17, 1⟩) (meth := k17m1) (c := k17c1) (by decide +kernel) rfl rfl rfl (by decide +kernel)
def codes1 : List Jvm.Cond := [Jvm.Cond.code x code maxLocals ret, Jvm.Cond.code ({ cls := "com/example/per1od/per1od/StoreAddressToStringPinLaw", name := "hc", desc := "(I)C" } : Jvm.MethodName) method_7_code (2 : Nat) (Option.some Jvm.ClassFile.FieldType.char), Jvm.Cond.code ({ cls := "com/example/per1od/per1od/StoreAddress", name := "<init>", desc := "(Ljava/lang/String;II)V" } : Jvm.MethodName) prog_23_method_1_code (4 : Nat) (Option.none : Option Jvm.ClassFile.FieldType), Jvm.Cond.code ({ cls := "java/lang/Record", name := "<init>", desc := "()V" } : Jvm.MethodName) jdk_30_method_1_code (1 : Nat) (Option.none : Option Jvm.ClassFile.FieldType), Jvm.Cond.code ({ cls := "java/lang/Object", name := "<init>", desc := "()V" } : Jvm.MethodName) object_method_1_code (1 : Nat) (Option.none : Option Jvm.ClassFile.FieldType), Jvm.Cond.code ({ cls := "com/example/per1od/per1od/StoreAddress", name := "toString", desc := "()Ljava/lang/String;" } : Jvm.MethodName) prog_23_method_3_code (2 : Nat) (Option.some (Jvm.ClassFile.FieldType.object "java/lang/String")), Jvm.Cond.code ({ cls := "java/lang/String", name := "contains", desc := "(Ljava/lang/CharSequence;)Z" } : Jvm.MethodName) jdk_42_method_97_code (2 : Nat) (Option.some Jvm.ClassFile.FieldType.boolean), Jvm.Cond.code ({ cls := "java/lang/String", name := "toString", desc := "()Ljava/lang/String;" } : Jvm.MethodName) jdk_42_method_126_code (1 : Nat) (Option.some (Jvm.ClassFile.FieldType.object "java/lang/String")), Jvm.Cond.code ({ cls := "java/lang/String", name := "indexOf", desc := "(Ljava/lang/String;)I" } : Jvm.MethodName) jdk_42_method_84_code (3 : Nat) (Option.some Jvm.ClassFile.FieldType.int), Jvm.Cond.code ({ cls := "java/lang/String", name := "coder", desc := "()B" } : Jvm.MethodName) jdk_42_method_152_code (1 : Nat) (Option.some Jvm.ClassFile.FieldType.byte), Jvm.Cond.code ({ cls := "java/lang/String", name := "isLatin1", desc := "()Z" } : Jvm.MethodName) jdk_42_method_154_code (1 : Nat) (Option.some Jvm.ClassFile.FieldType.boolean), Jvm.Cond.code ({ cls := "java/lang/StringLatin1", name := "indexOf", desc := "([B[B)I" } : Jvm.MethodName) jdk_43_method_24_code (2 : Nat) (Option.some Jvm.ClassFile.FieldType.int), Jvm.Cond.code ({ cls := "java/lang/StringBuilder", name := "<init>", desc := "()V" } : Jvm.MethodName) jdk_67_method_1_code (1 : Nat) (Option.none : Option Jvm.ClassFile.FieldType), Jvm.Cond.code ({ cls := "java/lang/AbstractStringBuilder", name := "<init>", desc := "(I)V" } : Jvm.MethodName) jdk_68_method_2_code (2 : Nat) (Option.none : Option Jvm.ClassFile.FieldType), Jvm.Cond.code ({ cls := "java/lang/StringBuilder", name := "append", desc := "(Ljava/lang/String;)Ljava/lang/StringBuilder;" } : Jvm.MethodName) jdk_67_method_7_code (2 : Nat) (Option.some (Jvm.ClassFile.FieldType.object "java/lang/StringBuilder")), Jvm.Cond.code ({ cls := "java/lang/AbstractStringBuilder", name := "append", desc := "(Ljava/lang/String;)Ljava/lang/AbstractStringBuilder;" } : Jvm.MethodName) jdk_68_method_22_code (3 : Nat) (Option.some (Jvm.ClassFile.FieldType.object "java/lang/AbstractStringBuilder")), Jvm.Cond.code ({ cls := "java/lang/String", name := "length", desc := "()I" } : Jvm.MethodName) jdk_42_method_54_code (1 : Nat) (Option.some Jvm.ClassFile.FieldType.int), Jvm.Cond.code ({ cls := "java/lang/AbstractStringBuilder", name := "ensureCapacityInternal", desc := "(I)V" } : Jvm.MethodName) jdk_68_method_9_code (3 : Nat) (Option.none : Option Jvm.ClassFile.FieldType), Jvm.Cond.code ({ cls := "java/lang/AbstractStringBuilder", name := "putStringAt", desc := "(ILjava/lang/String;)V" } : Jvm.MethodName) jdk_68_method_73_code (3 : Nat) (Option.none : Option Jvm.ClassFile.FieldType), Jvm.Cond.code ({ cls := "java/lang/AbstractStringBuilder", name := "inflateIfNeededFor", desc := "(Ljava/lang/String;)V" } : Jvm.MethodName) jdk_68_method_71_code (2 : Nat) (Option.none : Option Jvm.ClassFile.FieldType), Jvm.Cond.code ({ cls := "java/lang/String", name := "getBytes", desc := "([BIB)V" } : Jvm.MethodName) jdk_42_method_147_code (4 : Nat) (Option.none : Option Jvm.ClassFile.FieldType), Jvm.Cond.code ({ cls := "java/lang/StringBuilder", name := "append", desc := "(I)Ljava/lang/StringBuilder;" } : Jvm.MethodName) jdk_67_method_15_code (2 : Nat) (Option.some (Jvm.ClassFile.FieldType.object "java/lang/StringBuilder")), Jvm.Cond.code ({ cls := "java/lang/AbstractStringBuilder", name := "append", desc := "(I)Ljava/lang/AbstractStringBuilder;" } : Jvm.MethodName) jdk_68_method_32_code (4 : Nat) (Option.some (Jvm.ClassFile.FieldType.object "java/lang/AbstractStringBuilder")), Jvm.Cond.code ({ cls := "java/lang/Integer", name := "stringSize", desc := "(I)I" } : Jvm.MethodName) jdk_33_method_13_code (4 : Nat) (Option.some Jvm.ClassFile.FieldType.int), Jvm.Cond.code ({ cls := "java/lang/AbstractStringBuilder", name := "isLatin1", desc := "()Z" } : Jvm.MethodName) jdk_68_method_68_code (1 : Nat) (Option.some Jvm.ClassFile.FieldType.boolean), Jvm.Cond.code ({ cls := "java/lang/Integer", name := "getChars", desc := "(II[B)I" } : Jvm.MethodName) jdk_33_method_12_code (7 : Nat) (Option.some Jvm.ClassFile.FieldType.int), Jvm.Cond.code ({ cls := "java/lang/StringBuilder", name := "toString", desc := "()Ljava/lang/String;" } : Jvm.MethodName) jdk_67_method_42_code (1 : Nat) (Option.some (Jvm.ClassFile.FieldType.object "java/lang/String")), Jvm.Cond.code ({ cls := "java/lang/String", name := "<init>", desc := "(Ljava/lang/StringBuilder;)V" } : Jvm.MethodName) jdk_42_method_53_code (2 : Nat) (Option.none : Option Jvm.ClassFile.FieldType), Jvm.Cond.code ({ cls := "java/lang/String", name := "<init>", desc := "(Ljava/lang/AbstractStringBuilder;Ljava/lang/Void;)V" } : Jvm.MethodName) jdk_42_method_150_code (5 : Nat) (Option.none : Option Jvm.ClassFile.FieldType), Jvm.Cond.code ({ cls := "java/lang/AbstractStringBuilder", name := "getValue", desc := "()[B" } : Jvm.MethodName) jdk_68_method_64_code (1 : Nat) (Option.some (Jvm.ClassFile.FieldType.array Jvm.ClassFile.FieldType.byte)), Jvm.Cond.code ({ cls := "java/lang/StringBuilder", name := "length", desc := "()I" } : Jvm.MethodName) jdk_67_method_93_code (1 : Nat) (Option.some Jvm.ClassFile.FieldType.int), Jvm.Cond.code ({ cls := "java/lang/AbstractStringBuilder", name := "length", desc := "()I" } : Jvm.MethodName) jdk_68_method_6_code (1 : Nat) (Option.some Jvm.ClassFile.FieldType.int), Jvm.Cond.code ({ cls := "java/util/Arrays", name := "copyOfRange", desc := "([BII)[B" } : Jvm.MethodName) jdk_65_method_132_code (3 : Nat) (Option.some (Jvm.ClassFile.FieldType.array Jvm.ClassFile.FieldType.byte)), Jvm.Cond.code ({ cls := "java/util/Arrays", name := "copyOfRangeByte", desc := "([BII)[B" } : Jvm.MethodName) jdk_65_method_133_code (5 : Nat) (Option.some (Jvm.ClassFile.FieldType.array Jvm.ClassFile.FieldType.byte)), Jvm.Cond.code ({ cls := "java/util/Arrays", name := "checkLength", desc := "(II)V" } : Jvm.MethodName) jdk_65_method_131_code (2 : Nat) (Option.none : Option Jvm.ClassFile.FieldType), Jvm.Cond.code ({ cls := "java/lang/Math", name := "min", desc := "(II)I" } : Jvm.MethodName) jdk_29_method_69_code (2 : Nat) (Option.some Jvm.ClassFile.FieldType.int), Jvm.Cond.code ({ cls := "com/example/per1od/per1od/StoreAddressToStringPinLaw", name := "ndig", desc := "(I)I" } : Jvm.MethodName) method_4_code (1 : Nat) (Option.some Jvm.ClassFile.FieldType.int), Jvm.Cond.code ({ cls := "com/example/per1od/per1od/StoreAddressToStringPinLaw", name := "at", desc := "(Ljava/lang/String;IC)Z" } : Jvm.MethodName) method_5_code (3 : Nat) (Option.some Jvm.ClassFile.FieldType.boolean), Jvm.Cond.code ({ cls := "java/lang/String", name := "charAt", desc := "(I)C" } : Jvm.MethodName) jdk_42_method_56_code (2 : Nat) (Option.some Jvm.ClassFile.FieldType.char), Jvm.Cond.code ({ cls := "java/lang/StringLatin1", name := "charAt", desc := "([BI)C" } : Jvm.MethodName) jdk_43_method_2_code (2 : Nat) (Option.some Jvm.ClassFile.FieldType.char), Jvm.Cond.code ({ cls := "java/lang/String", name := "checkIndex", desc := "(II)V" } : Jvm.MethodName) jdk_42_method_155_code (2 : Nat) (Option.none : Option Jvm.ClassFile.FieldType), Jvm.Cond.code ({ cls := "jdk/internal/util/Preconditions", name := "checkIndex", desc := "(IILjava/util/function/BiFunction;)I" } : Jvm.MethodName) jdk_41_method_11_code (3 : Nat) (Option.some Jvm.ClassFile.FieldType.int), Jvm.Cond.code ({ cls := "com/example/per1od/per1od/StoreAddressToStringPinLaw", name := "num", desc := "(Ljava/lang/String;II)Z" } : Jvm.MethodName) method_6_code (5 : Nat) (Option.some Jvm.ClassFile.FieldType.boolean), Jvm.Cond.code ({ cls := "com/example/per1od/per1od/StoreAddressToStringPinLaw", name := "dig", desc := "(II)C" } : Jvm.MethodName) method_3_code (2 : Nat) (Option.some Jvm.ClassFile.FieldType.char), Jvm.Cond.code ({ cls := "com/example/per1od/per1od/StoreAddressToStringPinLaw", name := "p10", desc := "(I)I" } : Jvm.MethodName) method_2_code (1 : Nat) (Option.some Jvm.ClassFile.FieldType.int), Jvm.Cond.code ({ cls := "java/lang/String", name := "valueOf", desc := "(C)Ljava/lang/String;" } : Jvm.MethodName) jdk_42_method_139_code (1 : Nat) (Option.some (Jvm.ClassFile.FieldType.object "java/lang/String")), Jvm.Cond.code ({ cls := "java/lang/StringLatin1", name := "canEncode", desc := "(C)Z" } : Jvm.MethodName) jdk_43_method_3_code (1 : Nat) (Option.some Jvm.ClassFile.FieldType.boolean), Jvm.Cond.code ({ cls := "java/lang/StringLatin1", name := "toBytes", desc := "(C)[B" } : Jvm.MethodName) jdk_43_method_46_code (1 : Nat) (Option.some (Jvm.ClassFile.FieldType.array Jvm.ClassFile.FieldType.byte)), Jvm.Cond.code ({ cls := "java/lang/String", name := "<init>", desc := "([BB)V" } : Jvm.MethodName) jdk_42_method_151_code (3 : Nat) (Option.none : Option Jvm.ClassFile.FieldType), Jvm.Cond.code ({ cls := "java/lang/StringLatin1", name := "indexOf", desc := "([BI[BII)I" } : Jvm.MethodName) jdk_43_method_25_code (11 : Nat) (Option.some Jvm.ClassFile.FieldType.int), Jvm.Cond.code ({ cls := "java/lang/String", name := "<init>", desc := "([C)V" } : Jvm.MethodName) jdk_42_method_3_code (2 : Nat) (Option.none : Option Jvm.ClassFile.FieldType), Jvm.Cond.code ({ cls := "java/lang/String", name := "<init>", desc := "([CIILjava/lang/Void;)V" } : Jvm.MethodName) jdk_42_method_149_code (6 : Nat) (Option.none : Option Jvm.ClassFile.FieldType), Jvm.Cond.code ({ cls := "java/lang/StringUTF16", name := "compress", desc := "([CII)[B" } : Jvm.MethodName) jdk_52_method_16_code (6 : Nat) (Option.some (Jvm.ClassFile.FieldType.array Jvm.ClassFile.FieldType.byte)), Jvm.Cond.code ({ cls := "java/lang/StringUTF16", name := "compress", desc := "([CI[BII)I" } : Jvm.MethodName) jdk_52_method_21_code (7 : Nat) (Option.some Jvm.ClassFile.FieldType.int), Jvm.Cond.code ({ cls := "java/lang/StringUTF16", name := "coderFromArrayLen", desc := "([BI)B" } : Jvm.MethodName) jdk_52_method_15_code (2 : Nat) (Option.some Jvm.ClassFile.FieldType.byte), Jvm.Cond.code ({ cls := "java/lang/AbstractStringBuilder", name := "newCapacity", desc := "(I)I" } : Jvm.MethodName) jdk_68_method_10_code (6 : Nat) (Option.some Jvm.ClassFile.FieldType.int), Jvm.Cond.code ({ cls := "jdk/internal/util/ArraysSupport", name := "newLength", desc := "(III)I" } : Jvm.MethodName) jdk_48_method_27_code (4 : Nat) (Option.some Jvm.ClassFile.FieldType.int), Jvm.Cond.code ({ cls := "java/lang/Math", name := "max", desc := "(II)I" } : Jvm.MethodName) jdk_29_method_65_code (2 : Nat) (Option.some Jvm.ClassFile.FieldType.int), Jvm.Cond.code ({ cls := "java/util/Arrays", name := "copyOf", desc := "([BI)[B" } : Jvm.MethodName) jdk_65_method_121_code (3 : Nat) (Option.some (Jvm.ClassFile.FieldType.array Jvm.ClassFile.FieldType.byte))]
set_option maxRecDepth 65536 in
theorem codes_eq : words1.filter isCode = codes1 := rfl
theorem w_codes : ∀ c ∈ words1.filter isCode, c.before args0 about1 = true := by
  rw [codes_eq]
  intro c hc
  simp only [codes1, List.mem_cons, List.not_mem_nil, or_false] at hc
  rcases hc with rfl | rfl | rfl | rfl | rfl | rfl | rfl | rfl | rfl | rfl | rfl | rfl | rfl | rfl | rfl | rfl | rfl | rfl | rfl | rfl | rfl | rfl | rfl | rfl | rfl | rfl | rfl | rfl | rfl | rfl | rfl | rfl | rfl | rfl | rfl | rfl | rfl | rfl | rfl | rfl | rfl | rfl | rfl | rfl | rfl | rfl | rfl | rfl | rfl | rfl | rfl | rfl | rfl | rfl | rfl | rfl | rfl | rfl | rfl
  · exact w_c0
  · exact w_c1
  · exact w_c2
  · exact w_c3
  · exact w_c4
  · exact w_c5
  · exact w_c6
  · exact w_c7
  · exact w_c8
  · exact w_c9
  · exact w_c10
  · exact w_c11
  · exact w_c12
  · exact w_c13
  · exact w_c14
  · exact w_c15
  · exact w_c16
  · exact w_c17
  · exact w_c18
  · exact w_c19
  · exact w_c20
  · exact w_c21
  · exact w_c22
  · exact w_c23
  · exact w_c24
  · exact w_c25
  · exact w_c26
  · exact w_c27
  · exact w_c28
  · exact w_c29
  · exact w_c30
  · exact w_c31
  · exact w_c32
  · exact w_c33
  · exact w_c34
  · exact w_c35
  · exact w_c36
  · exact w_c37
  · exact w_c38
  · exact w_c39
  · exact w_c40
  · exact w_c41
  · exact w_c42
  · exact w_c43
  · exact w_c44
  · exact w_c45
  · exact w_c46
  · exact w_c47
  · exact w_c48
  · exact w_c49
  · exact w_c50
  · exact w_c51
  · exact w_c52
  · exact w_c53
  · exact w_c54
  · exact w_c55
  · exact w_c56
  · exact w_c57
  · exact w_c58
set_option maxRecDepth 65536 in
theorem w_t1 : (words1.take 24).all (fun c => isCode c || c.before args0 about1) = true := by decide +kernel
set_option maxRecDepth 65536 in
theorem w_t2 : ((words1.drop 24).take 24).all (fun c => isCode c || c.before args0 about1) = true := by decide +kernel
set_option maxRecDepth 65536 in
theorem w_t3 : (((words1.drop 24).drop 24).take 24).all (fun c => isCode c || c.before args0 about1) = true := by decide +kernel
set_option maxRecDepth 65536 in
theorem w_t4 : ((((words1.drop 24).drop 24).drop 24).take 24).all (fun c => isCode c || c.before args0 about1) = true := by decide +kernel
set_option maxRecDepth 65536 in
theorem w_t5 : (((((words1.drop 24).drop 24).drop 24).drop 24).take 24).all (fun c => isCode c || c.before args0 about1) = true := by decide +kernel
set_option maxRecDepth 65536 in
theorem w_t6 : ((((((words1.drop 24).drop 24).drop 24).drop 24).drop 24).take 24).all (fun c => isCode c || c.before args0 about1) = true := by decide +kernel
set_option maxRecDepth 65536 in
theorem w_t7 : (((((((words1.drop 24).drop 24).drop 24).drop 24).drop 24).drop 24).take 24).all (fun c => isCode c || c.before args0 about1) = true := by decide +kernel
set_option maxRecDepth 65536 in
theorem w_t8 : ((((((((words1.drop 24).drop 24).drop 24).drop 24).drop 24).drop 24).drop 24).take 24).all (fun c => isCode c || c.before args0 about1) = true := by decide +kernel
set_option maxRecDepth 65536 in
theorem w_t9 : (((((((((words1.drop 24).drop 24).drop 24).drop 24).drop 24).drop 24).drop 24).drop 24).take 24).all (fun c => isCode c || c.before args0 about1) = true := by decide +kernel
set_option maxRecDepth 65536 in
theorem w_t10 : ((((((((((words1.drop 24).drop 24).drop 24).drop 24).drop 24).drop 24).drop 24).drop 24).drop 24).take 24).all (fun c => isCode c || c.before args0 about1) = true := by decide +kernel
set_option maxRecDepth 65536 in
theorem w_t11 : (((((((((((words1.drop 24).drop 24).drop 24).drop 24).drop 24).drop 24).drop 24).drop 24).drop 24).drop 24).take 24).all (fun c => isCode c || c.before args0 about1) = true := by decide +kernel
set_option maxRecDepth 65536 in
theorem w_t12 : ((((((((((((words1.drop 24).drop 24).drop 24).drop 24).drop 24).drop 24).drop 24).drop 24).drop 24).drop 24).drop 24).take 24).all (fun c => isCode c || c.before args0 about1) = true := by decide +kernel
set_option maxRecDepth 65536 in
theorem w_t13 : ((((((((((((words1.drop 24).drop 24).drop 24).drop 24).drop 24).drop 24).drop 24).drop 24).drop 24).drop 24).drop 24).drop 24).all (fun c => isCode c || c.before args0 about1) = true := by decide +kernel
theorem w_tables : (allAtoms (Jvm.Cond.code x code maxLocals ret :: tables_1)).before args0 about1 = true := by
  rw [allAtoms_all]
  show words1.all (fun c => c.before args0 about1) = true
  refine all_split ?_ w_codes
  rw [← List.take_append_drop 24 words1, List.all_append, w_t1, ← List.take_append_drop 24 (words1.drop 24), List.all_append, w_t2, ← List.take_append_drop 24 ((words1.drop 24).drop 24), List.all_append, w_t3, ← List.take_append_drop 24 (((words1.drop 24).drop 24).drop 24), List.all_append, w_t4, ← List.take_append_drop 24 ((((words1.drop 24).drop 24).drop 24).drop 24), List.all_append, w_t5, ← List.take_append_drop 24 (((((words1.drop 24).drop 24).drop 24).drop 24).drop 24), List.all_append, w_t6, ← List.take_append_drop 24 ((((((words1.drop 24).drop 24).drop 24).drop 24).drop 24).drop 24), List.all_append, w_t7, ← List.take_append_drop 24 (((((((words1.drop 24).drop 24).drop 24).drop 24).drop 24).drop 24).drop 24), List.all_append, w_t8, ← List.take_append_drop 24 ((((((((words1.drop 24).drop 24).drop 24).drop 24).drop 24).drop 24).drop 24).drop 24), List.all_append, w_t9, ← List.take_append_drop 24 (((((((((words1.drop 24).drop 24).drop 24).drop 24).drop 24).drop 24).drop 24).drop 24).drop 24), List.all_append, w_t10, ← List.take_append_drop 24 ((((((((((words1.drop 24).drop 24).drop 24).drop 24).drop 24).drop 24).drop 24).drop 24).drop 24).drop 24), List.all_append, w_t11, ← List.take_append_drop 24 (((((((((((words1.drop 24).drop 24).drop 24).drop 24).drop 24).drop 24).drop 24).drop 24).drop 24).drop 24).drop 24), List.all_append, w_t12, w_t13]
  rfl
set_option maxRecDepth 65536 in
theorem w_rest : rest_1_c.before args0 about1 = true := by decide +kernel
set_option maxRecDepth 65536 in
theorem w_case : (Jvm.Cond.and given_1 narrow_1).before args0 about1 = true := by decide +kernel
set_option maxRecDepth 65536 in
theorem w_consts : constsHeld consts_1 about1 := Jvm.Lit.constsHeldB_iff.mp (by decide +kernel)
theorem w_applies : (headSpec (Jvm.Cond.code x code maxLocals ret :: tables_1) room_1).applies x e0.platform about1 = true :=
  (Spec.applies_iff w_frames).mpr ⟨w_running, w_runnable, w_alone, w_named, w_hears, w_ripe, w_room, w_tables⟩
theorem atStart : AtStart classFile x code maxLocals ret World_1 tables_1 room_1 Calls_1 rest_1 Pre_1 launch0 p0 e0 about1 theMethod args0 below0 :=
  ⟨lists_1, trivial, launch0.admits_env _ _ _, launch0.least_env, fairChoices_fair.cas, fairChoices_fair.clock, w_frames, w_args, w_heap, w_applies, ⟨w_consts, trivial⟩, w_rest, w_case⟩
end start1
theorem witness_1 : WitnessClaimed_1 := ⟨start1.p0, start1.e0, start1.about1, start1.theMethod, start1.args0, start1.below0, start1.atStart⟩
end Jvm.Pilot.@@N@@
