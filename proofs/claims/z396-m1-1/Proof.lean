import JvmDerived
import JvmDerived.Pilot.@@N@@Statement
import JvmDerived.Pilot.@@N@@Code
set_option linter.unusedVariables false
set_option linter.unusedSimpArgs false
/- laws to paste: Road.backV, Road.lenW, Road.chN, Road.eqW, Road.codOf (cut by pick.py; bodies as the Statement names them) -/
namespace Jvm.Pilot.@@N@@
namespace StrChars
open Jvm Sem ClassFile Op Lib Jvm.Stand Jvm.Free.XT Jvm.Free.ALB Jvm.Free.JM Jvm.Free
open Jvm.Lib.Cold (StaticIs)
/-- a char array whose places are chars -/
def Ch (a : Addr) (A : Cell) (U : State) : Prop := Arr .char a A U ∧ Typed .char A
theorem Ch.mv {a : Addr} {A : Cell} {U U' : State} (h : Ch a A U) (hal : U.vm.Alike U'.vm) (hh : U'.heap = U.heap) : Ch a A U' := ⟨h.1.mv hal hh, h.2⟩
theorem Ch.keep {a : Addr} {A : Cell} {U U' : State} (h : Ch a A U) (hal : U.vm.Alike U'.vm) (hk : U'.heap[a]? = some A) : Ch a A U' := ⟨h.1.keep hal hk, h.2⟩
/-- what place i of a char[]'s cell holds -/
def cv (A : Cell) (i : Nat) : Int32 := match A.slots[i]? with | some (.int x) => x | _ => 0
theorem Ch.get {a : Addr} {A : Cell} {U : State} (h : Ch a A U) {i : Nat} (hi : i < A.slots.size) : A.slots[i]? = some (.int (cv A i)) := by
  have e := Array.getElem?_eq_getElem hi
  have f := h.2 i _ e
  unfold cv; rw [e]
  generalize A.slots[i] = v at f
  cases v <;> simp [fits] at f ⊢
/-- the byte that i2b leaves of a char -/
def lo8 (x : Int32) : Int32 := x.toInt8.toInt32
theorem fits_lo8 (y : Int32) : fits .byte (.int (lo8 y)) = true := by
  have h1 := y.toInt8.le_toInt
  have h2 := y.toInt8.toInt_lt
  simp only [lo8, fits, Bool.and_eq_true, decide_eq_true_eq, Int32.le_iff_toInt_le, Int8.toInt_toInt32, show (-128 : Int32).toInt = -128 from by decide, show (127 : Int32).toInt = 127 from by decide]
  omega
/-- A' is A but that each place j of lo .. hi - 1 holds f j -/
def Laid (A A' : Cell) (lo hi : Nat) (f : Nat → Value) : Prop := A'.cls = A.cls ∧ A'.vm = A.vm ∧ A'.slots.size = A.slots.size ∧ ∀ i, A'.slots[i]? = if lo ≤ i ∧ i < hi then some (f i) else A.slots[i]?
theorem Laid.zero (A : Cell) (lo : Nat) (f : Nat → Value) : Laid A A lo (lo + 0) f := ⟨rfl, rfl, rfl, fun i => by rw [if_neg (by omega)]⟩
theorem Laid.step {A Ak : Cell} {lo k : Nat} {f : Nat → Value} {v : Value} (h : Laid A Ak lo k f) (hlo : lo ≤ k) (hk : k < Ak.slots.size) (hv : v = f k) : Laid A (Ak.setSlot k v) lo (k + 1) f := by
  refine ⟨h.1, h.2.1, by simpa [Cell.setSlot] using h.2.2.1, fun i => ?_⟩
  by_cases e : k = i
  · subst e; rw [Cell.slots_setSlot_self v hk, if_pos (by omega), hv]
  · rw [Cell.slots_setSlot_ne v e, h.2.2.2 i]
    by_cases q : lo ≤ i ∧ i < k
    · rw [if_pos q, if_pos (by omega)]
    · rw [if_neg q, if_neg (by omega)]
def U16 : String := "java/lang/StringUTF16"
namespace Cmp5
def yN : MethodName := ⟨"java/lang/StringUTF16", "compress", "([CI[BII)I"⟩
abbrev yB : ByteArray := jdk_52_method_21_code
theorem d0 : decode yB 0 = .ok (.iconst 0, 1) := by decide +kernel
theorem d1 : decode yB 1 = .ok (.istore 5, 2) := by decide +kernel
theorem d3 : decode yB 3 = .ok (.iload 5, 2) := by decide +kernel
theorem d5 : decode yB 5 = .ok (.iload 4, 2) := by decide +kernel
theorem d7 : decode yB 7 = .ok (.if_icmp (.ge) 37, 3) := by decide +kernel
theorem d10 : decode yB 10 = .ok (.aload_n 0, 1) := by decide +kernel
theorem d11 : decode yB 11 = .ok (.iload_n 1, 1) := by decide +kernel
theorem d12 : decode yB 12 = .ok (.caload, 1) := by decide +kernel
theorem d13 : decode yB 13 = .ok (.istore 6, 2) := by decide +kernel
theorem d15 : decode yB 15 = .ok (.iload 6, 2) := by decide +kernel
theorem d17 : decode yB 17 = .ok (.sipush 255, 3) := by decide +kernel
theorem d20 : decode yB 20 = .ok (.if_icmp (.le) 6, 3) := by decide +kernel
theorem d26 : decode yB 26 = .ok (.aload_n 2, 1) := by decide +kernel
theorem d27 : decode yB 27 = .ok (.iload_n 3, 1) := by decide +kernel
theorem d28 : decode yB 28 = .ok (.iload 6, 2) := by decide +kernel
theorem d30 : decode yB 30 = .ok (.i2b, 1) := by decide +kernel
theorem d31 : decode yB 31 = .ok (.bastore, 1) := by decide +kernel
theorem d32 : decode yB 32 = .ok (.iinc 1 1, 3) := by decide +kernel
theorem d35 : decode yB 35 = .ok (.iinc 3 1, 3) := by decide +kernel
theorem d38 : decode yB 38 = .ok (.iinc 5 1, 3) := by decide +kernel
theorem d41 : decode yB 41 = .ok (.goto (-38), 3) := by decide +kernel
theorem d44 : decode yB 44 = .ok (.iload 4, 2) := by decide +kernel
theorem d46 : decode yB 46 = .ok (.ireturn, 1) := by decide +kernel
def site : List Cond := []
def tab : Cond := tabOf yN yB 7 (some .int) site
def P (b : Addr) (A : Cell) (d : Addr) (B : Cell) (o q len : Nat) (args : Array Value) (s : State) : Prop := args = #[.ref b, .int (Int32.ofNat o), .ref d, .int (Int32.ofNat q), .int (Int32.ofNat len)] ∧ Ch b A s ∧ Arr .byte d B s ∧ b ≠ d ∧ o + len ≤ A.slots.size ∧ q + len ≤ B.slots.size ∧ ∀ i, i < len → ¬ 255 < cv A (o + i)
def E (b : Addr) (A : Cell) (d : Addr) (B : Cell) (o q len : Nat) (r : Option Value) (s u : State) : Prop := r = some (.int (Int32.ofNat len)) ∧ ∃ B', Put d B' s u ∧ Laid B B' q (q + len) (fun j => Value.int (lo8 (cv A (o + (j - q)))))
/-- no char of the range above 255: len; the places written hold each char's low byte -/
theorem law (l : Launch) (b : Addr) (A : Cell) (d : Addr) (B : Cell) (o q len : Nat) : Law l yN 5 5 0 0 yB 7 (some .int) site (P b A d B o q len) (E b A d B o q len) (copyLocs d q len) 0 0 := by
  refine Law.of_walk (plainFor_of_name (by decide +kernel)) (by decide +kernel) (by decide +kernel) (by decide) (fun _ _ h => by rw [h.1]; rfl) (fun _ U U' hal hh h => ⟨h.1, h.2.1.mv hal hh, h.2.2.1.mv hal hh, h.2.2.2⟩) (fun r U U' V V' h1 hal h2 h => ⟨h.1, h.2.elim fun B' q => ⟨B', q.1.mv h1 h2, q.2⟩⟩) ?_
  intro p e s m args below meth c s₁ X0 hexec hbytes hml hret hlk hnm hown hh0 W hP
  obtain ⟨rfl, hA, hB, hne, l1, l2, hp⟩ := hP
  have c1 : Steps p.tables e below (s₁.setTop (entryFrame m #[.ref b, .int (Int32.ofNat o), .ref d, .int (Int32.ofNat q), .int (Int32.ofNat len)] 7)) (s₁.setTop (mkF m 0 #[.val (.ref b), .val (.int (Int32.ofNat o)), .val (.ref d), .val (.int (Int32.ofNat q)), .val (.int (Int32.ofNat len)), .unset, .unset] [])) := entry rfl
  have hA0 := hA.1.mv X0.warmed.alike hh0
  have hB0 := hB.mv X0.warmed.alike hh0
  have a31 := hA.1.2.2.2
  have c2 : Steps p.tables e below (s₁.setTop (entryFrame m #[.ref b, .int (Int32.ofNat o), .ref d, .int (Int32.ofNat q), .int (Int32.ofNat len)] 7)) (s₁.setTop (mkF m 3 #[.val (.ref b), .val (.int (Int32.ofNat o)), .val (.ref d), .val (.int (Int32.ofNat q)), .val (.int (Int32.ofNat len)), .val (.int 0), .unset] [])) := c1.trans (by
    refine iconstV X0.here hexec rfl 0 (hb hbytes d0) (by decide) ?_
    refine XS.istore X0.here hexec rfl (hb hbytes d1) rfl rfl ?_
    exact Steps.refl _)
  have loop : ∀ (r i : Nat), i + r = len → ∀ (z : Slot), (z = .unset ∨ ∃ w, z = .val w ∧ w.category = 1) → ∀ (Tl : State) (Bk : Cell), Stand p l e { frames := 0, locals := 0, cells := 0, slots := 0 } s m #[.ref b, .int (Int32.ofNat o), .ref d, .int (Int32.ofNat q), .int (Int32.ofNat len)] below meth c Tl ([] ++ copyLocs d q i) 0 0 → Put d Bk s₁ Tl → Laid B Bk q (q + i) (fun j => Value.int (lo8 (cv A (o + (j - q))))) →
      Steps p.tables e below (s₁.setTop (entryFrame m #[.ref b, .int (Int32.ofNat o), .ref d, .int (Int32.ofNat q), .int (Int32.ofNat len)] 7)) (Tl.setTop (mkF m 3 #[.val (.ref b), .val (.int (Int32.ofNat (o + i))), .val (.ref d), .val (.int (Int32.ofNat (q + i))), .val (.int (Int32.ofNat len)), .val (.int (Int32.ofNat i)), z] [])) → ∃ (T' : State) (B' : Cell) (z' : Slot), Stand p l e { frames := 0, locals := 0, cells := 0, slots := 0 } s m #[.ref b, .int (Int32.ofNat o), .ref d, .int (Int32.ofNat q), .int (Int32.ofNat len)] below meth c T' ([] ++ copyLocs d q len) 0 0 ∧ Put d B' s₁ T' ∧ Laid B B' q (q + len) (fun j => Value.int (lo8 (cv A (o + (j - q))))) ∧
      Steps p.tables e below (s₁.setTop (entryFrame m #[.ref b, .int (Int32.ofNat o), .ref d, .int (Int32.ofNat q), .int (Int32.ofNat len)] 7)) (T'.setTop (mkF m 3 #[.val (.ref b), .val (.int (Int32.ofNat (o + len))), .val (.ref d), .val (.int (Int32.ofNat (q + len))), .val (.int (Int32.ofNat len)), .val (.int (Int32.ofNat len)), z'] [])) := by
    intro r
    induction r with
    | zero =>
      intro i hi z hz Tl Bk Xl pl fl cl
      have hil : i = len := by omega
      rw [hil] at Xl fl cl
      exact ⟨Tl, Bk, z, Xl, pl, fl, cl⟩
    | succ r ih =>
      intro i hi z hz Tl Bk Xl pl fl cl
      have all := X0.warmed.alike.symm.trans Xl.warmed.alike
      have hAl := hA0.keep all (pl.other hne hA0.1)
      have hBk := hB0.like all pl.1 fl.1 fl.2.1 fl.2.2.1
      have hlt : q + i < Bk.slots.size := by rw [fl.2.2.1]; omega
      have c3 : Steps p.tables e below (s₁.setTop (entryFrame m #[.ref b, .int (Int32.ofNat o), .ref d, .int (Int32.ofNat q), .int (Int32.ofNat len)] 7)) (Tl.setTop (mkF m 12 #[.val (.ref b), .val (.int (Int32.ofNat (o + i))), .val (.ref d), .val (.int (Int32.ofNat (q + i))), .val (.int (Int32.ofNat len)), .val (.int (Int32.ofNat i)), z] [.int (Int32.ofNat (o + i)), .ref b])) := cl.trans (by
        refine XS.iload Xl.here hexec rfl (hb hbytes d3) rfl ?_
        refine XS.iload Xl.here hexec rfl (hb hbytes d5) rfl ?_
        refine XS.icmpNo Xl.here hexec rfl (hb hbytes d7) rfl (ii_ge_f (lt32 (by omega) (by omega))) ?_
        refine XS.aloadN Xl.here hexec rfl (hb hbytes d10) rfl rfl ?_
        refine XS.iloadN Xl.here hexec rfl (hb hbytes d11) rfl ?_
        exact Steps.refl _)
      have c4 : Steps p.tables e below (s₁.setTop (entryFrame m #[.ref b, .int (Int32.ofNat o), .ref d, .int (Int32.ofNat q), .int (Int32.ofNat len)] 7)) (Tl.setTop (mkF m 13 #[.val (.ref b), .val (.int (Int32.ofNat (o + i))), .val (.ref d), .val (.int (Int32.ofNat (q + i))), .val (.int (Int32.ofNat len)), .val (.int (Int32.ofNat i)), z] [.int (cv A (o + i))])) := c3.trans (by
        refine Xl.aget hexec hAl rfl (hA.get (i := o + i) (by omega)) rfl rfl (hb hbytes d12) ?_
        exact Steps.refl _)
      have c5 : Steps p.tables e below (s₁.setTop (entryFrame m #[.ref b, .int (Int32.ofNat o), .ref d, .int (Int32.ofNat q), .int (Int32.ofNat len)] 7)) (Tl.setTop (mkF m 15 #[.val (.ref b), .val (.int (Int32.ofNat (o + i))), .val (.ref d), .val (.int (Int32.ofNat (q + i))), .val (.int (Int32.ofNat len)), .val (.int (Int32.ofNat i)), .val (.int (cv A (o + i)))] [])) := c4.trans (by
        refine XS.istoreS Xl.here hexec rfl (hb hbytes d13) rfl rfl hz ?_
        exact Steps.refl _)
      have c6 : Steps p.tables e below (s₁.setTop (entryFrame m #[.ref b, .int (Int32.ofNat o), .ref d, .int (Int32.ofNat q), .int (Int32.ofNat len)] 7)) (Tl.setTop (mkF m 31 #[.val (.ref b), .val (.int (Int32.ofNat (o + i))), .val (.ref d), .val (.int (Int32.ofNat (q + i))), .val (.int (Int32.ofNat len)), .val (.int (Int32.ofNat i)), .val (.int (cv A (o + i)))] [.int (lo8 (cv A (o + i))), .int (Int32.ofNat (q + i)), .ref d])) := c5.trans (by
        refine XS.iload Xl.here hexec rfl (hb hbytes d15) rfl ?_
        refine sipushV Xl.here hexec rfl 255 (hb hbytes d17) (by decide) ?_
        refine XS.icmpYes Xl.here hexec rfl (pc0 := 20) rfl (hb hbytes d20) rfl (ii_le_t (hp i (by omega))) (by decide) rfl ?_
        refine XS.aloadN Xl.here hexec rfl (hb hbytes d26) rfl rfl ?_
        refine XS.iloadN Xl.here hexec rfl (hb hbytes d27) rfl ?_
        refine XS.iload Xl.here hexec rfl (hb hbytes d28) rfl ?_
        refine i2b Xl.here hexec rfl (hb hbytes d30) rfl ?_
        exact Steps.refl _)
      obtain ⟨T7, X7, p7, st7⟩ := Xl.aput hexec hBk rfl hlt rfl (fits_lo8 (cv A (o + i))) (g := (mkF m 31 #[.val (.ref b), .val (.int (Int32.ofNat (o + i))), .val (.ref d), .val (.int (Int32.ofNat (q + i))), .val (.int (Int32.ofNat len)), .val (.int (Int32.ofNat i)), .val (.int (cv A (o + i)))] [.int (lo8 (cv A (o + i))), .int (Int32.ofNat (q + i)), .ref d])) rfl (rest := []) rfl (hb hbytes d31)
      have c8 : Steps p.tables e below (s₁.setTop (entryFrame m #[.ref b, .int (Int32.ofNat o), .ref d, .int (Int32.ofNat q), .int (Int32.ofNat len)] 7)) (T7.setTop (mkF m 32 #[.val (.ref b), .val (.int (Int32.ofNat (o + i))), .val (.ref d), .val (.int (Int32.ofNat (q + i))), .val (.int (Int32.ofNat len)), .val (.int (Int32.ofNat i)), .val (.int (cv A (o + i)))] [])) := c6.trans (st7 _ (Steps.refl _))
      have c9 : Steps p.tables e below (s₁.setTop (entryFrame m #[.ref b, .int (Int32.ofNat o), .ref d, .int (Int32.ofNat q), .int (Int32.ofNat len)] 7)) (T7.setTop (mkF m 3 #[.val (.ref b), .val (.int (Int32.ofNat (o + i) + 1)), .val (.ref d), .val (.int (Int32.ofNat (q + i) + 1)), .val (.int (Int32.ofNat len)), .val (.int (Int32.ofNat i + 1)), .val (.int (cv A (o + i)))] [])) := c8.trans (by
        refine iincV X7.here hexec rfl 1 (hb hbytes d32) (by decide) rfl rfl ?_
        refine iincV X7.here hexec rfl 1 (hb hbytes d35) (by decide) rfl rfl ?_
        refine iincV X7.here hexec rfl 1 (hb hbytes d38) (by decide) rfl rfl ?_
        refine XS.goto X7.here hexec rfl (pc0 := 41) rfl (hb hbytes d41) (by decide) rfl ?_
        exact Steps.refl _)
      have c10 : Steps p.tables e below (s₁.setTop (entryFrame m #[.ref b, .int (Int32.ofNat o), .ref d, .int (Int32.ofNat q), .int (Int32.ofNat len)] 7)) (T7.setTop (mkF m 3 #[.val (.ref b), .val (.int (Int32.ofNat (o + (i + 1)))), .val (.ref d), .val (.int (Int32.ofNat (q + (i + 1)))), .val (.int (Int32.ofNat len)), .val (.int (Int32.ofNat (i + 1))), .val (.int (cv A (o + i)))] [])) := by
        have := c9
        rw [succ32, succ32, succ32] at this
        exact this
      exact ih (i + 1) (by omega) _ (Or.inr ⟨_, rfl, rfl⟩) T7 _ (by rw [copyLocs_step, ← List.append_assoc]; exact X7) (pl.trans p7) (fl.step (by omega) hlt (by simp)) c10
  obtain ⟨T9, B9, z9, X9, p9, f9, g9⟩ := loop len 0 (by omega) .unset (Or.inl rfl) s₁ B (by simpa [copyLocs] using X0) ⟨hB0.1, fun _ _ => rfl, rfl⟩ (Laid.zero _ _ _) c2
  have c11 : Steps p.tables e below (s₁.setTop (entryFrame m #[.ref b, .int (Int32.ofNat o), .ref d, .int (Int32.ofNat q), .int (Int32.ofNat len)] 7)) (T9.setTop (mkF m 46 #[.val (.ref b), .val (.int (Int32.ofNat (o + len))), .val (.ref d), .val (.int (Int32.ofNat (q + len))), .val (.int (Int32.ofNat len)), .val (.int (Int32.ofNat len)), z9] [.int (Int32.ofNat len)])) := g9.trans (by
    refine XS.iload X9.here hexec rfl (hb hbytes d3) rfl ?_
    refine XS.iload X9.here hexec rfl (hb hbytes d5) rfl ?_
    refine XS.icmpYes X9.here hexec rfl (pc0 := 7) rfl (hb hbytes d7) rfl (ii_ge_t (nlt32 (by omega) (Nat.le_refl _))) (by decide) rfl ?_
    refine XS.iload X9.here hexec rfl (hb hbytes d44) rfl ?_
    exact Steps.refl _)
  exact ⟨T9, some (.int (Int32.ofNat len)), _, _, _, X9, by simp, rfl, rfl, (fun h => by cases h), ⟨rfl, B9, p9.from hh0, f9⟩, fun fs hl => c11.trans (X9.ireturnOut hexec hret rfl (Or.inl rfl) (hb hbytes d46) hl)⟩
end Cmp5
namespace Cmp3
def yN : MethodName := ⟨"java/lang/StringUTF16", "compress", "([CII)[B"⟩
abbrev yB : ByteArray := jdk_52_method_16_code
theorem d0 : decode yB 0 = .ok (.iload_n 2, 1) := by decide +kernel
theorem d1 : decode yB 1 = .ok (.newarray .byte, 2) := by decide +kernel
theorem d3 : decode yB 3 = .ok (.astore_n 3, 1) := by decide +kernel
theorem d4 : decode yB 4 = .ok (.aload_n 0, 1) := by decide +kernel
theorem d5 : decode yB 5 = .ok (.iload_n 1, 1) := by decide +kernel
theorem d6 : decode yB 6 = .ok (.aload_n 3, 1) := by decide +kernel
theorem d7 : decode yB 7 = .ok (.iconst 0, 1) := by decide +kernel
theorem d8 : decode yB 8 = .ok (.iload_n 2, 1) := by decide +kernel
theorem d9 : decode yB 9 = .ok (.invokestatic 115, 3) := by decide +kernel
theorem d12 : decode yB 12 = .ok (.istore 4, 2) := by decide +kernel
theorem d14 : decode yB 14 = .ok (.iload 4, 2) := by decide +kernel
theorem d16 : decode yB 16 = .ok (.iload_n 2, 1) := by decide +kernel
theorem d17 : decode yB 17 = .ok (.if_icmp (.eq) 40, 3) := by decide +kernel
theorem d57 : decode yB 57 = .ok (.aload_n 3, 1) := by decide +kernel
theorem d58 : decode yB 58 = .ok (.areturn, 1) := by decide +kernel
def site : List Cond := [.arrayClass .byte, Cmp5.tab] ++ staticW U16 115 Cmp5.yN
def tab : Cond := tabOf yN yB 6 (some (.array .byte)) site
def P (b : Addr) (A : Cell) (o len : Nat) (args : Array Value) (s : State) : Prop := args = #[.ref b, .int (Int32.ofNat o), .int (Int32.ofNat len)] ∧ Ch b A s ∧ o + len ≤ A.slots.size ∧ len ≤ 536870912 ∧ ∀ i, i < len → ¬ 255 < cv A (o + i)
def E (b : Addr) (A : Cell) (o len : Nat) (r : Option Value) (s u : State) : Prop := NewArr .byte "[B" len (fun j => .int (lo8 (cv A (o + j)))) r s u ∧ u.heap.size = s.heap.size + 1
/-- no char of the range above 255: a new byte[] of their low bytes -/
theorem law (l : Launch) (b : Addr) (A : Cell) (o len : Nat) : Law l yN 3 3 1 18 yB 6 (some (.array .byte)) site (P b A o len) (E b A o len) [] 1 len := by
  refine Law.of_walk (plainFor_of_name (by decide +kernel)) (by decide +kernel) (by decide +kernel) (by decide) (fun _ _ h => by rw [h.1]; rfl) (fun _ U U' hal hh h => ⟨h.1, h.2.1.mv hal hh, h.2.2⟩) (fun r U U' V V' h1 hal h2 h => ⟨NewArr.mv r U U' V V' h1 hal h2 h.1, by rw [h1, h2]; exact h.2⟩) ?_
  intro p e s m args below meth c s₁ X0 hexec hbytes hml hret hlk hnm hown hh0 W hP
  obtain ⟨rfl, hA, l1, l2, hp⟩ := hP
  have a31 := hA.1.2.2.2
  have c1 : Steps p.tables e below (s₁.setTop (entryFrame m #[.ref b, .int (Int32.ofNat o), .int (Int32.ofNat len)] 6)) (s₁.setTop (mkF m 0 #[.val (.ref b), .val (.int (Int32.ofNat o)), .val (.int (Int32.ofNat len)), .unset, .unset, .unset] [])) := entry rfl
  have c2 : Steps p.tables e below (s₁.setTop (entryFrame m #[.ref b, .int (Int32.ofNat o), .int (Int32.ofNat len)] 6)) (s₁.setTop (mkF m 1 #[.val (.ref b), .val (.int (Int32.ofNat o)), .val (.int (Int32.ofNat len)), .unset, .unset, .unset] [.int (Int32.ofNat len)])) := c1.trans (by
    refine XS.iloadN X0.here hexec rfl (hb hbytes d0) rfl ?_
    exact Steps.refl _)
  obtain ⟨T3, B3, X3, ba3, bs3, bv3, bh3, bf3, st3⟩ := X0.anew hexec (atype := .byte) (wk W (.arrayClass .byte)) rfl (by show len * 1 ≤ _; omega) (by omega) (g := (mkF m 1 #[.val (.ref b), .val (.int (Int32.ofNat o)), .val (.int (Int32.ofNat len)), .unset, .unset, .unset] [.int (Int32.ofNat len)])) rfl (hb hbytes d1) (rest := []) rfl (Nat.le_refl _) (by show 0 + len ≤ len; omega)
  rw [hh0] at ba3 st3
  have kp3 : XT.Kept s T3 := (XT.Kept.of_eq hh0).push bh3
  have hA3 := hA.keep X3.warmed.alike (kp3 _ _ hA.1.1)
  have hne : b ≠ s.heap.size := hA.1.ne
  have c4 : Steps p.tables e below (s₁.setTop (entryFrame m #[.ref b, .int (Int32.ofNat o), .int (Int32.ofNat len)] 6)) (T3.setTop (mkF m 3 #[.val (.ref b), .val (.int (Int32.ofNat o)), .val (.int (Int32.ofNat len)), .unset, .unset, .unset] [.ref s.heap.size])) := c2.trans (st3 _ (Steps.refl _))
  have c5 : Steps p.tables e below (s₁.setTop (entryFrame m #[.ref b, .int (Int32.ofNat o), .int (Int32.ofNat len)] 6)) (T3.setTop (mkF m 9 #[.val (.ref b), .val (.int (Int32.ofNat o)), .val (.int (Int32.ofNat len)), .val (.ref s.heap.size), .unset, .unset] [.int (Int32.ofNat len), .int 0, .ref s.heap.size, .int (Int32.ofNat o), .ref b])) := c4.trans (by
    refine XS.astoreN X3.here hexec rfl (hb hbytes d3) rfl rfl rfl ?_
    refine XS.aloadN X3.here hexec rfl (hb hbytes d4) rfl rfl ?_
    refine XS.iloadN X3.here hexec rfl (hb hbytes d5) rfl ?_
    refine XS.aloadN X3.here hexec rfl (hb hbytes d6) rfl rfl ?_
    refine iconstV X3.here hexec rfl 0 (hb hbytes d7) (by decide) ?_
    refine XS.iloadN X3.here hexec rfl (hb hbytes d8) rfl ?_
    exact Steps.refl _)
  obtain ⟨v6, T6, X6, E6, g6⟩ := X3.callS hexec (Cmp5.law l b A s.heap.size B3 o 0 len) hown (wks W (staticW U16 115 Cmp5.yN)) (wk W Cmp5.tab) (W := 0) (Nat.le_of_ble_eq_true rfl) (Nat.le_of_ble_eq_true rfl) (Nat.le_refl _) (by show 0 + len + 0 ≤ len; omega) (g := (mkF m 9 #[.val (.ref b), .val (.int (Int32.ofNat o)), .val (.int (Int32.ofNat len)), .val (.ref s.heap.size), .unset, .unset] [.int (Int32.ofNat len), .int (Int32.ofNat 0), .ref s.heap.size, .int (Int32.ofNat o), .ref b])) rfl (by rw [hml]; rfl) c5 (argsL := [.ref b, .int (Int32.ofNat o), .ref s.heap.size, .int (Int32.ofNat 0), .int (Int32.ofNat len)]) (rest := []) rfl rfl (by show 2 * 0 + 0 ≤ _; decide) (hb hbytes d9) (⟨rfl, hA3, ba3, hne, l1, by rw [bs3]; simp, hp⟩)
  obtain ⟨rfl, B6, p6, f6⟩ := E6
  have c7 : Steps p.tables e below (s₁.setTop (entryFrame m #[.ref b, .int (Int32.ofNat o), .int (Int32.ofNat len)] 6)) (T6.setTop (mkF m 12 #[.val (.ref b), .val (.int (Int32.ofNat o)), .val (.int (Int32.ofNat len)), .val (.ref s.heap.size), .unset, .unset] [.int (Int32.ofNat len)])) := g6
  have c8 : Steps p.tables e below (s₁.setTop (entryFrame m #[.ref b, .int (Int32.ofNat o), .int (Int32.ofNat len)] 6)) (T6.setTop (mkF m 58 #[.val (.ref b), .val (.int (Int32.ofNat o)), .val (.int (Int32.ofNat len)), .val (.ref s.heap.size), .val (.int (Int32.ofNat len)), .unset] [.ref s.heap.size])) := c7.trans (by
    refine XS.istore X6.here hexec rfl (hb hbytes d12) rfl rfl ?_
    refine XS.iload X6.here hexec rfl (hb hbytes d14) rfl ?_
    refine XS.iloadN X6.here hexec rfl (hb hbytes d16) rfl ?_
    refine XS.icmpYes X6.here hexec rfl (pc0 := 17) rfl (hb hbytes d17) rfl (ii_eq_t rfl) (by decide) rfl ?_
    refine XS.aloadN X6.here hexec rfl (hb hbytes d57) rfl rfl ?_
    exact Steps.refl _)
  have X8 := X6.wide (L' := []) (cells' := 1) (slots' := len) (fun x hx hlt => by
    simp only [List.nil_append, copyLocs, List.mem_map, List.mem_range] at hx
    obtain ⟨i, -, rfl⟩ := hx
    exact absurd hlt (Nat.lt_irrefl _)) (Nat.le_refl _) (by omega)
  exact ⟨T6, some (.ref s.heap.size), _, _, _, X8, rfl, rfl, rfl, (fun h => by cases h), ⟨⟨rfl, B6, ba3.like (X3.warmed.alike.symm.trans X6.warmed.alike) p6.1 f6.1 f6.2.1 f6.2.2.1, f6.2.1.trans bv3, by rw [X6.warmed.alike.findClass, f6.1]; exact bf3, by rw [f6.2.2.1, bs3]; simp, fun j hj => by rw [f6.2.2.2 j, if_pos (by omega)]; rfl, kp3.put p6 (Nat.le_refl _)⟩, by rw [p6.2.2, bh3, hh0]; simp⟩, fun fs hl => c8.trans (X8.areturnOut hexec rfl hret rfl (hb hbytes d58) hl)⟩
end Cmp3
namespace CodL
def yN : MethodName := ⟨"java/lang/StringUTF16", "coderFromArrayLen", "([BI)B"⟩
abbrev yB : ByteArray := jdk_52_method_15_code
theorem d0 : decode yB 0 = .ok (.iload_n 1, 1) := by decide +kernel
theorem d1 : decode yB 1 = .ok (.aload_n 0, 1) := by decide +kernel
theorem d2 : decode yB 2 = .ok (.arraylength, 1) := by decide +kernel
theorem d3 : decode yB 3 = .ok (.isub, 1) := by decide +kernel
theorem d4 : decode yB 4 = .ok (.bipush 31, 2) := by decide +kernel
theorem d6 : decode yB 6 = .ok (.iushr, 1) := by decide +kernel
theorem d7 : decode yB 7 = .ok (.i2b, 1) := by decide +kernel
theorem d8 : decode yB 8 = .ok (.ireturn, 1) := by decide +kernel
def site : List Cond := []
def tab : Cond := tabOf yN yB 2 (some .byte) site
def P (d : Addr) (B : Cell) (args : Array Value) (s : State) : Prop := args = #[.ref d, .int (Int32.ofNat B.slots.size)] ∧ Arr .byte d B s
def E (r : Option Value) (s u : State) : Prop := XT.PureE (some (.int 0)) r s u
/-- an array as long as the number of chars: LATIN1 -/
theorem law (l : Launch) (d : Addr) (B : Cell) : Law l yN 2 2 0 0 yB 2 (some .byte) site (P d B) E [] 0 0 := by
  refine Law.of_walk (plainFor_of_name (by decide +kernel)) (by decide +kernel) (by decide +kernel) (by decide) (fun _ _ h => by rw [h.1]; rfl) (fun _ U U' hal hh h => ⟨h.1, h.2.mv hal hh⟩) (fun r U U' V V' h1 hal h2 h => XT.PureE.mv r U U' V V' h1 hal h2 h) ?_
  intro p e s m args below meth c s₁ X0 hexec hbytes hml hret hlk hnm hown hh0 W hP
  obtain ⟨rfl, hB⟩ := hP
  have hB0 := hB.mv X0.warmed.alike hh0
  have c1 : Steps p.tables e below (s₁.setTop (entryFrame m #[.ref d, .int (Int32.ofNat B.slots.size)] 2)) (s₁.setTop (mkF m 0 #[.val (.ref d), .val (.int (Int32.ofNat B.slots.size))] [])) := entry rfl
  have c2 : Steps p.tables e below (s₁.setTop (entryFrame m #[.ref d, .int (Int32.ofNat B.slots.size)] 2)) (s₁.setTop (mkF m 2 #[.val (.ref d), .val (.int (Int32.ofNat B.slots.size))] [.ref d, .int (Int32.ofNat B.slots.size)])) := c1.trans (by
    refine XS.iloadN X0.here hexec rfl (hb hbytes d0) rfl ?_
    refine XS.aloadN X0.here hexec rfl (hb hbytes d1) rfl rfl ?_
    exact Steps.refl _)
  have c3 : Steps p.tables e below (s₁.setTop (entryFrame m #[.ref d, .int (Int32.ofNat B.slots.size)] 2)) (s₁.setTop (mkF m 8 #[.val (.ref d), .val (.int (Int32.ofNat B.slots.size))] [.int (lo8 (ushr (Int32.ofNat B.slots.size - Int32.ofNat B.slots.size) 31))])) := c2.trans (by
    refine X0.alen hexec hB0 rfl rfl (hb hbytes d2) ?_
    refine XS.isub X0.here hexec rfl (hb hbytes d3) rfl ?_
    refine bipushV X0.here hexec rfl 31 (hb hbytes d4) (by decide) ?_
    refine iushr X0.here hexec rfl (hb hbytes d6) rfl ?_
    refine i2b X0.here hexec rfl (hb hbytes d7) rfl ?_
    exact Steps.refl _)
  have e0 : lo8 (ushr (Int32.ofNat B.slots.size - Int32.ofNat B.slots.size) 31) = 0 := by rw [Int32.sub_self]; decide
  rw [e0] at c3
  exact ⟨s₁, some (.int 0), _, _, _, X0, rfl, rfl, rfl, (fun h => by cases h), ⟨rfl, hh0⟩, fun fs hl => c3.trans (X0.ireturnOut hexec hret rfl (Or.inr (Or.inr (Or.inl rfl))) (hb hbytes d8) hl)⟩
end CodL
/-- the String at a is Latin-1 over a new byte[] (the heap's one new cell): the low bytes of the len chars of A from o on; every cell but a is kept -/
def Got (a : Addr) (D : Cell) (fV fC : Field) (A : Cell) (o len : Nat) (r : Option Value) (s u : State) : Prop := r = none ∧ ∃ D' V : Cell, Blank "java/lang/String" a D' u ∧ Same D D' [fV.slot, fC.slot] ∧ D'.slots[fV.slot]? = some (.ref s.heap.size) ∧ D'.slots[fC.slot]? = some (.int 0) ∧ Arr .byte s.heap.size V u ∧ V.vm = .none ∧ u.vm.findClass "[B" = some V.cls ∧ V.slots.size = len ∧ (∀ j, j < len → V.slots[j]? = some (.int (lo8 (cv A (o + j))))) ∧ (∀ (y : Addr) (c : Cell), y ≠ a → s.heap[y]? = some c → u.heap[y]? = some c) ∧ u.heap.size = s.heap.size + 1
theorem Got.mv {a : Addr} {D A : Cell} {fV fC : Field} {o len : Nat} : ∀ r (U U' V V' : State), U'.heap = U.heap → V.vm.Alike V'.vm → V'.heap = V.heap → Got a D fV fC A o len r U V → Got a D fV fC A o len r U' V' :=
  fun r U U' V V' h1 hal h2 ⟨e0, D', X, a1, a2, a3, a4, a5, a6, a7, a8, a9, a10, a11⟩ => ⟨e0, D', X, a1.mv hal h2, a2, by rw [h1]; exact a3, a4, by rw [h1]; exact a5.mv hal h2, a6, by rw [hal.findClass]; exact a7, a8, a9, by rw [h1, h2]; exact a10, by rw [h1, h2]; exact a11⟩
namespace New4
def yN : MethodName := ⟨"java/lang/String", "<init>", "([CIILjava/lang/Void;)V"⟩
abbrev yB : ByteArray := jdk_42_method_149_code
theorem d0 : decode yB 0 = .ok (.aload_n 0, 1) := by decide +kernel
theorem d1 : decode yB 1 = .ok (.invokespecial 1, 3) := by decide +kernel
theorem d4 : decode yB 4 = .ok (.iload_n 3, 1) := by decide +kernel
theorem d5 : decode yB 5 = .ok (.ifCond (.ne) 22, 3) := by decide +kernel
theorem d27 : decode yB 27 = .ok (.getstatic 38, 3) := by decide +kernel
theorem d30 : decode yB 30 = .ok (.ifCond (.eq) 28, 3) := by decide +kernel
theorem d33 : decode yB 33 = .ok (.aload_n 1, 1) := by decide +kernel
theorem d34 : decode yB 34 = .ok (.iload_n 2, 1) := by decide +kernel
theorem d35 : decode yB 35 = .ok (.iload_n 3, 1) := by decide +kernel
theorem d36 : decode yB 36 = .ok (.invokestatic 177, 3) := by decide +kernel
theorem d39 : decode yB 39 = .ok (.astore 5, 2) := by decide +kernel
theorem d41 : decode yB 41 = .ok (.aload_n 0, 1) := by decide +kernel
theorem d42 : decode yB 42 = .ok (.aload 5, 2) := by decide +kernel
theorem d44 : decode yB 44 = .ok (.iload_n 3, 1) := by decide +kernel
theorem d45 : decode yB 45 = .ok (.invokestatic 47, 3) := by decide +kernel
theorem d48 : decode yB 48 = .ok (.putfield 15, 3) := by decide +kernel
theorem d51 : decode yB 51 = .ok (.aload_n 0, 1) := by decide +kernel
theorem d52 : decode yB 52 = .ok (.aload 5, 2) := by decide +kernel
theorem d54 : decode yB 54 = .ok (.putfield 9, 3) := by decide +kernel
theorem d57 : decode yB 57 = .ok (.return_, 1) := by decide +kernel
def site : List Cond := [.fieldLink "java/lang/String" 38 "java/lang/String" "COMPACT_STRINGS" "Z", Cmp3.tab, CodL.tab, .laysFinal "java/lang/String" "java/lang/String" "value" "[B", .fieldLink "java/lang/String" 9 "java/lang/String" "value" "[B", .laysFinal "java/lang/String" "java/lang/String" "coder" "B", .fieldLink "java/lang/String" 15 "java/lang/String" "coder" "B"] ++ objW "java/lang/String" 1 ++ staticW "java/lang/String" 177 Cmp3.yN ++ staticW "java/lang/String" 47 CodL.yN
def tab : Cond := tabOf yN yB 6 none site
def P (a : Addr) (D : Cell) (fV fC : Field) (b : Addr) (A : Cell) (z : Int32) (o len : Nat) (args : Array Value) (s : State) : Prop := args = #[.ref a, .ref b, .int (Int32.ofNat o), .int (Int32.ofNat len), .null] ∧ Blank "java/lang/String" a D s ∧ Found "java/lang/String" "value" "[B" fV s ∧ Found "java/lang/String" "coder" "B" fC s ∧ Ch b A s ∧ StaticIs s "java/lang/String" "COMPACT_STRINGS" "Z" (.int z) ∧ ¬ z = 0 ∧ 0 < len ∧ o + len ≤ A.slots.size ∧ len ≤ 536870912 ∧ ∀ i, i < len → ¬ 255 < cv A (o + i)
def E (a : Addr) (D : Cell) (fV fC : Field) (A : Cell) (o len : Nat) (r : Option Value) (s u : State) : Prop := Got a D fV fC A o len r s u
/-- len > 0, no char of the range above 255: a Latin-1 String of their low bytes -/
theorem law (l : Launch) (a : Addr) (D : Cell) (fV fC : Field) (b : Addr) (A : Cell) (z : Int32) (o len : Nat) : Law l yN 5 4 2 35 yB 6 none site (P a D fV fC b A z o len) (E a D fV fC A o len) [⟨a, fC.slot⟩, ⟨a, fV.slot⟩] 1 len := by
  refine Law.of_walk (plainFor_of_name (by decide +kernel)) (by decide +kernel) (by decide +kernel) (by decide) (fun _ _ h => by rw [h.1]; rfl) (fun _ U U' hal hh h => ⟨h.1, h.2.1.mv hal hh, h.2.2.1.al hal, h.2.2.2.1.al hal, h.2.2.2.2.1.mv hal hh, h.2.2.2.2.2.1.there hal hh, h.2.2.2.2.2.2⟩) (fun r U U' V V' h1 hal h2 h => Got.mv r U U' V V' h1 hal h2 h) ?_
  intro p e s m args below meth c s₁ X0 hexec hbytes hml hret hlk hnm hown hh0 W hP
  obtain ⟨rfl, hB, f1, f2, hA, s1, hz, l0, l1, l2, hp⟩ := hP
  have a31 := hA.1.2.2.2
  have c1 : Steps p.tables e below (s₁.setTop (entryFrame m #[.ref a, .ref b, .int (Int32.ofNat o), .int (Int32.ofNat len), .null] 6)) (s₁.setTop (mkF m 0 #[.val (.ref a), .val (.ref b), .val (.int (Int32.ofNat o)), .val (.int (Int32.ofNat len)), .val .null, .unset] [])) := entry rfl
  have c2 : Steps p.tables e below (s₁.setTop (entryFrame m #[.ref a, .ref b, .int (Int32.ofNat o), .int (Int32.ofNat len), .null] 6)) (s₁.setTop (mkF m 1 #[.val (.ref a), .val (.ref b), .val (.int (Int32.ofNat o)), .val (.int (Int32.ofNat len)), .val .null, .unset] [.ref a])) := c1.trans (by
    refine XS.aloadN X0.here hexec rfl (hb hbytes d0) rfl rfl ?_
    exact Steps.refl _)
  obtain ⟨T3, X3, q3, st3⟩ := X0.oinit hexec hown (wks W (objW "java/lang/String" 1)) (g := (mkF m 1 #[.val (.ref a), .val (.ref b), .val (.int (Int32.ofNat o)), .val (.int (Int32.ofNat len)), .val .null, .unset] [.ref a])) rfl (by rw [hml]; rfl) (rest := []) rfl (hb hbytes d1) (W := 0) (by show 2 * 0 + 0 ≤ _; decide) (Nat.le_of_ble_eq_true rfl) (Nat.le_of_ble_eq_true rfl)
  have hh3 := q3.trans hh0
  have c4 : Steps p.tables e below (s₁.setTop (entryFrame m #[.ref a, .ref b, .int (Int32.ofNat o), .int (Int32.ofNat len), .null] 6)) (T3.setTop (mkF m 27 #[.val (.ref a), .val (.ref b), .val (.int (Int32.ofNat o)), .val (.int (Int32.ofNat len)), .val .null, .unset] [])) := (c2.trans (st3 _ (Steps.refl _))).trans (by
    refine XS.iloadN X3.here hexec rfl (hb hbytes d4) rfl ?_
    refine XS.ifYes X3.here hexec rfl (pc0 := 5) rfl (hb hbytes d5) rfl (i0_ne_t (nz32 (by omega) l0)) (by decide) rfl ?_
    exact Steps.refl _)
  obtain ⟨T5, X5, q5, st5⟩ := X3.sget hexec hown (wk W (.fieldLink "java/lang/String" 38 "java/lang/String" "COMPACT_STRINGS" "Z")) s1 (fun _ _ h => by rw [hh3]; exact h) (g := (mkF m 27 #[.val (.ref a), .val (.ref b), .val (.int (Int32.ofNat o)), .val (.int (Int32.ofNat len)), .val .null, .unset] [])) rfl (hb hbytes d27)
  have hh5 := q5.trans hh3
  have c6 : Steps p.tables e below (s₁.setTop (entryFrame m #[.ref a, .ref b, .int (Int32.ofNat o), .int (Int32.ofNat len), .null] 6)) (T5.setTop (mkF m 30 #[.val (.ref a), .val (.ref b), .val (.int (Int32.ofNat o)), .val (.int (Int32.ofNat len)), .val .null, .unset] [.int z])) := c4.trans (st5 _ (Steps.refl _))
  have c7 : Steps p.tables e below (s₁.setTop (entryFrame m #[.ref a, .ref b, .int (Int32.ofNat o), .int (Int32.ofNat len), .null] 6)) (T5.setTop (mkF m 36 #[.val (.ref a), .val (.ref b), .val (.int (Int32.ofNat o)), .val (.int (Int32.ofNat len)), .val .null, .unset] [.int (Int32.ofNat len), .int (Int32.ofNat o), .ref b])) := c6.trans (by
    refine XS.ifNo X5.here hexec rfl (hb hbytes d30) rfl (i0_eq_f hz) ?_
    refine XS.aloadN X5.here hexec rfl (hb hbytes d33) rfl rfl ?_
    refine XS.iloadN X5.here hexec rfl (hb hbytes d34) rfl ?_
    refine XS.iloadN X5.here hexec rfl (hb hbytes d35) rfl ?_
    exact Steps.refl _)
  obtain ⟨v8, T8, X8, E8, g8⟩ := X5.callS hexec (Cmp3.law l b A o len) hown (wks W (staticW "java/lang/String" 177 Cmp3.yN)) (wk W Cmp3.tab) (W := 0) (Nat.le_of_ble_eq_true rfl) (Nat.le_of_ble_eq_true rfl) (Nat.le_refl _) (by show 0 + len ≤ len; omega) (g := (mkF m 36 #[.val (.ref a), .val (.ref b), .val (.int (Int32.ofNat o)), .val (.int (Int32.ofNat len)), .val .null, .unset] [.int (Int32.ofNat len), .int (Int32.ofNat o), .ref b])) rfl (by rw [hml]; rfl) c7 (argsL := [.ref b, .int (Int32.ofNat o), .int (Int32.ofNat len)]) (rest := []) rfl rfl (by show 2 * 0 + 0 ≤ _; decide) (hb hbytes d36) (⟨rfl, hA.mv X5.warmed.alike hh5, l1, l2, hp⟩)
  obtain ⟨e8, z8⟩ := E8
  obtain ⟨rfl, N, n1, n2, n3, n4, n5, n6⟩ := NewArr.mv _ T5 s _ _ hh5.symm (Vm.Alike.refl _) rfl e8
  rw [hh5] at z8
  have hB1 := hB.keep X8.warmed.alike (n6 _ _ hB.1)
  have hne : s.heap.size ≠ a := (Nat.ne_of_lt (Array.getElem?_eq_some_iff.mp hB.1).1).symm
  have c9 : Steps p.tables e below (s₁.setTop (entryFrame m #[.ref a, .ref b, .int (Int32.ofNat o), .int (Int32.ofNat len), .null] 6)) (T8.setTop (mkF m 39 #[.val (.ref a), .val (.ref b), .val (.int (Int32.ofNat o)), .val (.int (Int32.ofNat len)), .val .null, .unset] [.ref s.heap.size])) := g8
  have c10 : Steps p.tables e below (s₁.setTop (entryFrame m #[.ref a, .ref b, .int (Int32.ofNat o), .int (Int32.ofNat len), .null] 6)) (T8.setTop (mkF m 45 #[.val (.ref a), .val (.ref b), .val (.int (Int32.ofNat o)), .val (.int (Int32.ofNat len)), .val .null, .val (.ref s.heap.size)] [.int (Int32.ofNat N.slots.size), .ref s.heap.size, .ref a])) := by
    have hc : Steps p.tables e below (s₁.setTop (entryFrame m #[.ref a, .ref b, .int (Int32.ofNat o), .int (Int32.ofNat len), .null] 6)) (T8.setTop (mkF m 45 #[.val (.ref a), .val (.ref b), .val (.int (Int32.ofNat o)), .val (.int (Int32.ofNat len)), .val .null, .val (.ref s.heap.size)] [.int (Int32.ofNat len), .ref s.heap.size, .ref a])) := c9.trans (by
      refine XS.astore X8.here hexec rfl (hb hbytes d39) rfl rfl rfl ?_
      refine XS.aloadN X8.here hexec rfl (hb hbytes d41) rfl rfl ?_
      refine XS.aload X8.here hexec rfl (hb hbytes d42) rfl rfl ?_
      refine XS.iloadN X8.here hexec rfl (hb hbytes d44) rfl ?_
      exact Steps.refl _)
    rw [n4]; exact hc
  obtain ⟨v11, T11, X11, E11, g11⟩ := X8.callS hexec (CodL.law l s.heap.size N) hown (wks W (staticW "java/lang/String" 47 CodL.yN)) (wk W CodL.tab) (W := 1) (Nat.le_of_ble_eq_true rfl) (Nat.le_of_ble_eq_true rfl) (Nat.le_refl _) (by show 0 + len + 0 ≤ len; omega) (g := (mkF m 45 #[.val (.ref a), .val (.ref b), .val (.int (Int32.ofNat o)), .val (.int (Int32.ofNat len)), .val .null, .val (.ref s.heap.size)] [.int (Int32.ofNat N.slots.size), .ref s.heap.size, .ref a])) rfl (by rw [hml]; rfl) c10 (argsL := [.ref s.heap.size, .int (Int32.ofNat N.slots.size)]) (rest := [.ref a]) rfl rfl (by show 2 * 0 + (1 + 0) ≤ _; decide) (hb hbytes d45) (⟨rfl, n1⟩)
  obtain ⟨rfl, q11⟩ := E11
  have hB11 := hB1.mv (X8.warmed.alike.symm.trans X11.warmed.alike) q11
  have c12 : Steps p.tables e below (s₁.setTop (entryFrame m #[.ref a, .ref b, .int (Int32.ofNat o), .int (Int32.ofNat len), .null] 6)) (T11.setTop (mkF m 48 #[.val (.ref a), .val (.ref b), .val (.int (Int32.ofNat o)), .val (.int (Int32.ofNat len)), .val .null, .val (.ref s.heap.size)] [.int 0, .ref a])) := g11
  obtain ⟨T13, X13, p13, bl13, sl13, st13⟩ := X11.finit hexec hown (wk W (.fieldLink "java/lang/String" 15 "java/lang/String" "coder" "B")) (Or.inr ⟨_, (wk W (.laysFinal "java/lang/String" "java/lang/String" "coder" "B"))⟩) (Or.inl ⟨rfl, hnm⟩) f2 (Or.inl rfl) hB11 (t := .byte) (by decide +kernel) rfl (g := (mkF m 48 #[.val (.ref a), .val (.ref b), .val (.int (Int32.ofNat o)), .val (.int (Int32.ofNat len)), .val .null, .val (.ref s.heap.size)] [.int 0, .ref a])) rfl (rest := []) rfl (hb hbytes d48)
  have c14 : Steps p.tables e below (s₁.setTop (entryFrame m #[.ref a, .ref b, .int (Int32.ofNat o), .int (Int32.ofNat len), .null] 6)) (T13.setTop (mkF m 54 #[.val (.ref a), .val (.ref b), .val (.int (Int32.ofNat o)), .val (.int (Int32.ofNat len)), .val .null, .val (.ref s.heap.size)] [.ref s.heap.size, .ref a])) := (c12.trans (st13 _ (Steps.refl _))).trans (by
    refine XS.aloadN X13.here hexec rfl (hb hbytes d51) rfl rfl ?_
    refine XS.aload X13.here hexec rfl (hb hbytes d52) rfl rfl ?_
    exact Steps.refl _)
  obtain ⟨T15, X15, p15, bl15, sl15, st15⟩ := X13.finit hexec hown (wk W (.fieldLink "java/lang/String" 9 "java/lang/String" "value" "[B")) (Or.inr ⟨_, (wk W (.laysFinal "java/lang/String" "java/lang/String" "value" "[B"))⟩) (Or.inl ⟨rfl, hnm⟩) f1 (Or.inl rfl) bl13 (t := (.array .byte)) (by decide +kernel) rfl (g := (mkF m 54 #[.val (.ref a), .val (.ref b), .val (.int (Int32.ofNat o)), .val (.int (Int32.ofNat len)), .val .null, .val (.ref s.heap.size)] [.ref s.heap.size, .ref a])) rfl (rest := []) rfl (hb hbytes d54)
  have c16 : Steps p.tables e below (s₁.setTop (entryFrame m #[.ref a, .ref b, .int (Int32.ofNat o), .int (Int32.ofNat len), .null] 6)) (T15.setTop (mkF m 57 #[.val (.ref a), .val (.ref b), .val (.int (Int32.ofNat o)), .val (.int (Int32.ofNat len)), .val .null, .val (.ref s.heap.size)] [])) := c14.trans (st15 _ (Steps.refl _))
  have ap := apart (Or.inr ⟨_, (wk W (.laysFinal "java/lang/String" "java/lang/String" "value" "[B"))⟩) (Or.inr ⟨_, (wk W (.laysFinal "java/lang/String" "java/lang/String" "coder" "B"))⟩) f1 f2 (t₁ := .array .byte) (t₂ := .byte) (by decide +kernel) (by decide +kernel) (by decide)
  have al := X8.warmed.alike.symm.trans X15.warmed.alike
  have n7 : T11.heap[s.heap.size]? = some N := by rw [q11]; exact n1.1
  exact ⟨T15, none, _, _, _, X15, by simp, rfl, by omega, (fun _ => rfl), ⟨rfl, _, N, bl15, ((Same.refl D _).set _ (by simp)).set _ (by simp), sl15, (Cell.slots_setSlot_ne _ ap).trans sl13, n1.keep al (p15.other hne (p13.other hne n7)), n2, by rw [al.findClass]; exact n3, n4, n5, fun y c h1 h2 => p15.other h1 (p13.other h1 (by rw [q11]; exact n6 y c h2)), by rw [p15.2.2, p13.2.2, q11]; exact z8⟩, fun fs hl => c16.trans (X15.returnOut hexec hret (hb hbytes d57) hl)⟩
end New4
namespace New1
def yN : MethodName := ⟨"java/lang/String", "<init>", "([C)V"⟩
abbrev yB : ByteArray := jdk_42_method_3_code
theorem d0 : decode yB 0 = .ok (.aload_n 0, 1) := by decide +kernel
theorem d1 : decode yB 1 = .ok (.aload_n 1, 1) := by decide +kernel
theorem d2 : decode yB 2 = .ok (.iconst 0, 1) := by decide +kernel
theorem d3 : decode yB 3 = .ok (.aload_n 1, 1) := by decide +kernel
theorem d4 : decode yB 4 = .ok (.arraylength, 1) := by decide +kernel
theorem d5 : decode yB 5 = .ok (.aconst_null, 1) := by decide +kernel
theorem d6 : decode yB 6 = .ok (.invokespecial 27, 3) := by decide +kernel
theorem d9 : decode yB 9 = .ok (.return_, 1) := by decide +kernel
def site : List Cond := [New4.tab] ++ initW "java/lang/String" 27 New4.yN
def tab : Cond := tabOf yN yB 2 none site
def P (a : Addr) (D : Cell) (fV fC : Field) (b : Addr) (A : Cell) (z : Int32) (args : Array Value) (s : State) : Prop := args = #[.ref a, .ref b] ∧ Blank "java/lang/String" a D s ∧ Found "java/lang/String" "value" "[B" fV s ∧ Found "java/lang/String" "coder" "B" fC s ∧ Ch b A s ∧ StaticIs s "java/lang/String" "COMPACT_STRINGS" "Z" (.int z) ∧ ¬ z = 0 ∧ 0 < A.slots.size ∧ A.slots.size ≤ 536870912 ∧ ∀ i, i < A.slots.size → ¬ 255 < cv A i
def E (a : Addr) (D : Cell) (fV fC : Field) (A : Cell) (r : Option Value) (s u : State) : Prop := Got a D fV fC A 0 A.slots.size r s u
/-- new String(chars), not empty, no char above 255: a Latin-1 String of their low bytes -/
theorem law (l : Launch) (a : Addr) (D : Cell) (fV fC : Field) (b : Addr) (A : Cell) (z : Int32) : Law l yN 2 1 3 52 yB 2 none site (P a D fV fC b A z) (E a D fV fC A) [⟨a, fC.slot⟩, ⟨a, fV.slot⟩] 1 A.slots.size := by
  refine Law.of_walk (plainFor_of_name (by decide +kernel)) (by decide +kernel) (by decide +kernel) (by decide) (fun _ _ h => by rw [h.1]; rfl) (fun _ U U' hal hh h => ⟨h.1, h.2.1.mv hal hh, h.2.2.1.al hal, h.2.2.2.1.al hal, h.2.2.2.2.1.mv hal hh, h.2.2.2.2.2.1.there hal hh, h.2.2.2.2.2.2⟩) (fun r U U' V V' h1 hal h2 h => Got.mv r U U' V V' h1 hal h2 h) ?_
  intro p e s m args below meth c s₁ X0 hexec hbytes hml hret hlk hnm hown hh0 W hP
  obtain ⟨rfl, hB, f1, f2, hA, s1, hz, l0, l2, hp⟩ := hP
  have c1 : Steps p.tables e below (s₁.setTop (entryFrame m #[.ref a, .ref b] 2)) (s₁.setTop (mkF m 0 #[.val (.ref a), .val (.ref b)] [])) := entry rfl
  have c2 : Steps p.tables e below (s₁.setTop (entryFrame m #[.ref a, .ref b] 2)) (s₁.setTop (mkF m 6 #[.val (.ref a), .val (.ref b)] [.null, .int (Int32.ofNat A.slots.size), .int 0, .ref b, .ref a])) := c1.trans (by
    refine XS.aloadN X0.here hexec rfl (hb hbytes d0) rfl rfl ?_
    refine XS.aloadN X0.here hexec rfl (hb hbytes d1) rfl rfl ?_
    refine iconstV X0.here hexec rfl 0 (hb hbytes d2) (by decide) ?_
    refine XS.aloadN X0.here hexec rfl (hb hbytes d3) rfl rfl ?_
    refine X0.alen hexec (hA.1.mv X0.warmed.alike hh0) rfl rfl (hb hbytes d4) ?_
    refine XS.aconstNull X0.here hexec rfl (hb hbytes d5) ?_
    exact Steps.refl _)
  obtain ⟨v3, T3, X3, E3, g3⟩ := X0.callN hexec (New4.law l a D fV fC b A z 0 A.slots.size) rfl hown (wks W (initW "java/lang/String" 27 New4.yN)) (W New4.tab (by simp only [site, List.mem_cons, List.mem_append, true_or, or_true])) (W := 0) (Nat.le_of_ble_eq_true rfl) (Nat.le_of_ble_eq_true rfl) (Nat.le_refl _) (by show 0 + A.slots.size ≤ A.slots.size; omega) (g := (mkF m 6 #[.val (.ref a), .val (.ref b)] [.null, .int (Int32.ofNat A.slots.size), .int (Int32.ofNat 0), .ref b, .ref a])) rfl (by rw [hml]; rfl) c2 (argsL := [.ref b, .int (Int32.ofNat 0), .int (Int32.ofNat A.slots.size), .null]) (rest := []) rfl rfl (by show 2 * 0 + 0 ≤ _; decide) (hb hbytes d6) (⟨rfl, hB.mv X0.warmed.alike hh0, f1.al X0.warmed.alike, f2.al X0.warmed.alike, hA.mv X0.warmed.alike hh0, s1.there X0.warmed.alike hh0, hz, l0, by omega, l2, fun i hi => by rw [Nat.zero_add]; exact hp i hi⟩)
  have e0 := Got.mv _ s₁ s _ _ hh0.symm (Vm.Alike.refl _) rfl E3
  obtain rfl := e0.1
  have c4 : Steps p.tables e below (s₁.setTop (entryFrame m #[.ref a, .ref b] 2)) (T3.setTop (mkF m 9 #[.val (.ref a), .val (.ref b)] [])) := g3
  exact ⟨T3, none, _, _, _, X3, by simp, rfl, by omega, (fun _ => rfl), e0, fun fs hl => c4.trans (X3.returnOut hexec hret (hb hbytes d9) hl)⟩
theorem pays {l : Launch} {R : Room} {p : Program} {e : Env} {below : List Frame} {s : State} {sargs : Array Value} {len W : Nat} (a : Addr) (D : Cell) (fV fC : Field) (b : Addr) (A : Cell) (z : Int32) (htab : tab.before sargs s = true) (hfr : 4 ≤ R.frames) (hlo : W + 65 ≤ R.locals) :
    Back l R p e below s sargs yN len W (fun A₁ a₁ => A₁.cells + 1 ≤ R.cells ∧ A₁.slots + A.slots.size ≤ R.slots ∧ P a D fV fC b A z a₁ A₁.U) (fun A₁ _ v₁ B₁ => E a D fV fC A v₁ A₁.U B₁.U ∧ B₁.locs = A₁.locs ++ [⟨a, fC.slot⟩, ⟨a, fV.slot⟩] ∧ B₁.cells = A₁.cells + 1 ∧ B₁.slots = A₁.slots + A.slots.size) :=
  (law l a D fV fC b A z).pays htab hfr (by omega)
end New1
/-- the byte, read back as charAt reads it, is the char -/
theorem lo8_mask {x : Int32} (h0 : ¬ x < 0) (h1 : ¬ 255 < x) : lo8 x &&& 255 = x := by
  have t : ∀ k : Fin 256, lo8 (Int32.ofNat k.val) &&& 255 = Int32.ofNat k.val := by decide +kernel
  rw [Int32.lt_iff_toInt_lt] at h0 h1
  have e0 : (0 : Int32).toInt = 0 := rfl
  have e1 : (255 : Int32).toInt = 255 := rfl
  obtain ⟨k, hk⟩ : ∃ k : Nat, x.toInt = k := ⟨x.toInt.toNat, by omega⟩
  have hx : x = Int32.ofNat k := Int32.toInt_inj.mp (by rw [hk, Int32.toInt_ofNat_small (by omega)])
  rw [hx]
  exact t ⟨k, by omega⟩
end StrChars
namespace StrChars.Road
open Jvm Sem ClassFile Op Lib Jvm.Stand Jvm.Free Jvm.Free.XT
open Jvm.Lib.Cold (StaticIs)
abbrev ST : String := "java/lang/String"
/-- every table word that New1's law asks, flat -/
abbrev words : List Jvm.Cond := [.code New1.yN New1.yB 2 none, .initialized ST, .methodLink ST 27 New4.yN, .instanceMethod New4.yN,
  .code New4.yN New4.yB 6 none, .fieldLink ST 38 ST "COMPACT_STRINGS" "Z", .laysFinal ST ST "value" "[B", .fieldLink ST 9 ST "value" "[B", .laysFinal ST ST "coder" "B", .fieldLink ST 15 ST "coder" "B",
  .methodLink ST 1 Lib.objectInit, .instanceMethod Lib.objectInit, .code Lib.objectInit ⟨#[0xb1]⟩ 1 none, .methodLink ST 177 Cmp3.yN, .static Cmp3.yN, .methodLink ST 47 CodL.yN, .static CodL.yN,
  .code Cmp3.yN Cmp3.yB 6 (some (.array .byte)), .initialized U16, .arrayClass .byte, .methodLink U16 115 Cmp5.yN, .static Cmp5.yN, .code Cmp5.yN Cmp5.yB 7 (some .int), .code CodL.yN CodL.yB 2 (some .byte)]
theorem tab_of {a : Array Value} {s : State} (h : ∀ w ∈ words, w.before a s = true) : New1.tab.before a s = true := by
  have h5 : Cmp5.tab.before a s = true := unparts (wk h (.code Cmp5.yN Cmp5.yB 7 (some .int))) (wks h (.initialized Cmp5.yN.cls :: Cmp5.site))
  have hc : CodL.tab.before a s = true := unparts (wk h (.code CodL.yN CodL.yB 2 (some .byte))) (wks h (.initialized CodL.yN.cls :: CodL.site))
  have q5 : ∀ w ∈ Cmp5.tab :: words, w.before a s = true := fun w hw => (List.mem_cons.mp hw).elim (fun e => e ▸ h5) (h w)
  have h3 : Cmp3.tab.before a s = true := unparts (wk q5 (.code Cmp3.yN Cmp3.yB 6 (some (.array .byte)))) (wks q5 (.initialized Cmp3.yN.cls :: Cmp3.site))
  have q3 : ∀ w ∈ Cmp3.tab :: CodL.tab :: words, w.before a s = true := fun w hw => (List.mem_cons.mp hw).elim (fun e => e ▸ h3) fun hw => (List.mem_cons.mp hw).elim (fun e => e ▸ hc) (h w)
  have h4 : New4.tab.before a s = true := unparts (wk q3 (.code New4.yN New4.yB 6 none)) (wks q3 (.initialized New4.yN.cls :: New4.site))
  have q4 : ∀ w ∈ New4.tab :: words, w.before a s = true := fun w hw => (List.mem_cons.mp hw).elim (fun e => e ▸ h4) (h w)
  exact unparts (wk q4 (.code New1.yN New1.yB 2 none)) (wks q4 (.initialized New1.yN.cls :: New1.site))
/-- the words ride from the start Z to the walk's own state -/
theorem moved {Z s : State} {a0 args : Array Value} (hZ : Z.Warmed39 s.vm) (hw : ∀ d ∈ words, d.before a0 Z = true) : ∀ d ∈ words, d.before args s = true := fun d hd => by
  have q := hw d hd
  have t : ∀ d ∈ words, d = .arrayClass .byte ∨ (d.onTables && d.keepsFace) = true := by decide +kernel
  rcases t d hd with rfl | t
  · exact RoadKit.mvA hZ q
  · exact RoadKit.mv hZ q t
/-- WHAT COMES BACK, over the tables of the start Z: h the heap at the call, h' behind it -/
def Q (Z : State) (x : Addr) (A : Cell) (h : Heap) (v : Option Value) (h' : Heap) (L : List Loc) : Prop := v = none ∧ (∀ y ∈ L, y.base = x) ∧ RoadKit.Keep h h' [x] ∧ h'.size = h.size + 1 ∧ RoadKit.Exa Z h' x ST ∧ RoadKit.Fld Z h' x ST "value" "[B" (.ref h.size) ∧ RoadKit.Fld Z h' x ST "coder" "B" (.int 0) ∧
  (∃ V : Cell, RoadKit.Arr Z h' h.size V .byte ∧ V.vm = .none ∧ Z.vm.findClass "[B" = some V.cls ∧ V.slots.size = A.slots.size ∧ ∀ j, j < A.slots.size → V.slots[j]? = some (.int (lo8 (cv A j)))) ∧
  ∀ (O n d : String) (w : Value), RoadKit.Fld Z h x O n d w → RoadKit.slotOf Z O n d ≠ RoadKit.slotOf Z ST "value" "[B" → RoadKit.slotOf Z O n d ≠ RoadKit.slotOf Z ST "coder" "B" → RoadKit.Fld Z h' x O n d w
/-- **new String(chars) AT A CALL, IN THE ROAD'S FORM**: for specialBack behind newO: x the fresh String, b the char[] with the cell A -/
theorem back {p : Program} {l : Launch} {e : Env} {R : Room} {s : State} {args : Array Value} {below : List Frame} {len W : Nat} {Z : State} {a0 : Array Value} {h : Heap} (hZ : Z.Warmed39 s.vm) (hw : ∀ d ∈ words, d.before a0 Z = true) {kI : Nat} (wi : (Jvm.Cond.instantiable ST kI).before a0 Z = true)
    {x b : Addr} {A : Cell} {z : Int32} {v0 c0 : Value} (E : RoadKit.Exa Z h x ST) (V : RoadKit.Fld Z h x ST "value" "[B" v0) (C : RoadKit.Fld Z h x ST "coder" "B" c0) (K : RoadKit.Arr Z h b A .char) (hty : Typed .char A) (S : RoadKit.Sta Z h ST "COMPACT_STRINGS" "Z" (.int z)) (hz : ¬ z = 0)
    (l0 : 0 < A.slots.size) (l2 : A.slots.size ≤ 536870912) (hp : ∀ i, i < A.slots.size → ¬ 255 < cv A i) (hfr : 4 ≤ R.frames) (hlo : W + 65 ≤ R.locals) :
    Back l R p e below s args New1.yN len W (fun P a => a = #[.ref x, .ref b] ∧ P.U.heap = h ∧ P.cells + 1 ≤ R.cells ∧ P.slots + A.slots.size ≤ R.slots)
      (fun P _ v B => ∃ L, Q Z x A h v B.U.heap L ∧ B.locs = P.locs ++ L ∧ B.cells = P.cells + 1 ∧ B.slots = P.slots + A.slots.size) := by
  intro m meth c P g ig mk a X hg hsize hdg hW hn hp'
  obtain ⟨rfl, rfl, r1, r2⟩ := hp'
  have al : Z.vm.Alike P.U.vm := hZ.alike.trans X.warmed.alike
  obtain ⟨D, cfV, kV, iV, fV, hD, gV, stV, knV, obV, asV, slV⟩ := id V
  obtain ⟨D', cfC, kC, iC, fC, hD', gC, stC, -, -, asC, slC⟩ := id C
  cases hD.symm.trans hD'
  obtain ⟨D2, kD, e1, e2, e3, e4, e5⟩ := id E
  cases hD.symm.trans e1
  obtain ⟨c2, k2, i1, i2, i3, -⟩ := Cond.instantiable_spec wi
  cases e2.symm.trans i1
  cases e3.symm.trans i2
  obtain ⟨kU, u1, u2⟩ := al.2.2 _ _ e3
  have hB : Blank ST x D P.U := ⟨hD, ⟨knV, fun q hq => by rw [hq] at obV; cases obV⟩, by rw [al.findClass]; exact e2, kU, u1, by rw [u2]; exact i3, by rw [u2]; exact e5 i3⟩
  have F1 : Found ST "value" "[B" fV P.U := ⟨SBG.found_only al ⟨cfV, kV, iV, gV⟩, stV⟩
  have F2 : Found ST "coder" "B" fC P.U := ⟨SBG.found_only al ⟨cfC, kC, iC, gC⟩, stC⟩
  have hA : Ch b A P.U := ⟨⟨K.1, State.isArrayOf_alike al K.2.1, K.2.2, by omega⟩, hty⟩
  have hS : StaticIs P.U ST "COMPACT_STRINGS" "Z" (.int z) := by
    obtain ⟨cfS, iS, kS, fS, st, cS, t1, t2, t3, t4, t5, t6, t7⟩ := S
    exact StaticIs.there (s := { Z with heap := P.U.heap }) ⟨cfS, iS, kS, fS, st, cS, t1, t2, t3, t4, t5, (fun q => by rw [q] at t6; cases t6), t7⟩ al rfl
  obtain ⟨v, B, X', ⟨⟨hv, E', V', q1, q2, q3, q4, q5, q6, q7, q8, q9, q10, q11⟩, hl, hc, hs⟩, st⟩ := New1.pays x D fV fC b A z (tab_of (moved hZ hw)) hfr hlo m meth c P g ig mk _ X hg hsize hdg hW hn ⟨r1, r2, rfl, hB, F1, F2, hA, hS, hz, l0, l2, hp⟩
  have al' : Z.vm.Alike B.U.vm := hZ.alike.trans X'.warmed.alike
  have hsz : E'.slots.size = D.slots.size := by
    obtain ⟨-, -, -, kB, w1, w2, w3⟩ := q1
    obtain ⟨kB', y1, y2⟩ := al'.2.2 _ _ e3
    rw [q2.2.1] at w1
    cases w1.symm.trans y1
    rw [w3, e5 i3, y2]
  refine ⟨v, B, X', ⟨_, ⟨hv, ?_, ⟨by omega, fun y cy hy hn' => q10 y cy (by simpa using hn') hy, fun y cy hy => ?_⟩, q11, ⟨E', _, q1.1, by rw [q2.2.1]; exact e2, by rw [q2.2.1]; exact e3, by rw [q2.1]; exact obV, fun _ => by rw [hsz]; exact e5 i3⟩,
    ⟨E', cfV, kV, iV, fV, q1.1, gV, stV, by rw [q2.1]; exact knV, by rw [q2.1]; exact obV, by rw [q2.2.1]; exact asV, q3⟩, ⟨E', cfC, kC, iC, fC, q1.1, gC, stC, by rw [q2.1]; exact knV, by rw [q2.1]; exact obV, by rw [q2.2.1]; exact asC, q4⟩,
    ⟨V', ⟨q5.1, State.isArrayOf_alike al'.symm q5.2.1, q5.2.2.1⟩, q6, by rw [← al'.findClass]; exact q7, q8, fun j hj => by have := q9 j hj; rwa [Nat.zero_add] at this⟩, fun O n d w F n1 n2 => ?_⟩, hl, hc, hs⟩, st⟩
  · intro y hy
    simp only [List.mem_cons, List.not_mem_nil, or_false] at hy
    rcases hy with rfl | rfl <;> rfl
  · by_cases q : y = x
    · subst q
      cases hD.symm.trans hy
      exact ⟨E', q1.1, q2.2.1, q2.1, hsz⟩
    · exact ⟨cy, q10 y cy q hy, rfl, rfl, rfl⟩
  · obtain ⟨D3, cf, k, i, f, g1, g2, g3, g4, g5, g6, g7⟩ := F
    cases hD.symm.trans g1
    simp only [RoadKit.slotOf, g2, gV, gC, Option.map_some, Option.getD_some] at n1 n2
    exact ⟨E', cf, k, i, f, q1.1, g2, g3, by rw [q2.1]; exact g4, by rw [q2.1]; exact g5, by rw [q2.2.1]; exact g6, by rw [q2.2.2 f.slot (by simp [n1, n2])]; exact g7⟩
end StrChars.Road
namespace StrChars.Road
open Jvm Sem ClassFile Op Lib Jvm.Stand Jvm.Free Jvm.Free.XT
/-- WHAT COMES BACK, the byte[] as a list of values -/
def QA (Z : State) (x : Addr) (zn : Int32) (cs : List Int32) (h : Heap) (v : Option Value) (h' : Heap) (L : List Loc) : Prop := v = none ∧ (∀ y ∈ L, y.base = x) ∧ RoadKit.Keep h h' [x] ∧ h'.size = h.size + 1 ∧ RoadKit.Exa Z h' x ST ∧ RoadKit.Fld Z h' x ST "value" "[B" (.ref h.size) ∧ RoadKit.Fld Z h' x ST "coder" "B" (.int 0) ∧
  (∃ kb, Z.vm.findClass "[B" = some kb ∧ RoadKit.Arv Z h' h.size kb .byte zn (cs.map fun c => .int (lo8 c)) (.int 0)) ∧
  ∀ (O n d : String) (w : Value), RoadKit.Fld Z h x O n d w → RoadKit.slotOf Z O n d ≠ RoadKit.slotOf Z ST "value" "[B" → RoadKit.slotOf Z O n d ≠ RoadKit.slotOf Z ST "coder" "B" → RoadKit.Fld Z h' x O n d w
/-- **new String(chars) AT A CALL, THE ARRAYS AS LISTS**: the char[] at b holds cs, not empty, no char above 255 -/
theorem backArv {p : Program} {l : Launch} {e : Env} {R : Room} {s : State} {args : Array Value} {below : List Frame} {len W : Nat} {Z : State} {a0 : Array Value} {h : Heap} (hZ : Z.Warmed39 s.vm) (hw : ∀ d ∈ words, d.before a0 Z = true) {kI : Nat} (wi : (Jvm.Cond.instantiable ST kI).before a0 Z = true)
    {x b : Addr} {k : ClassId} {zn z : Int32} {cs : List Int32} {dv v0 c0 : Value} (E : RoadKit.Exa Z h x ST) (V : RoadKit.Fld Z h x ST "value" "[B" v0) (C : RoadKit.Fld Z h x ST "coder" "B" c0) (K : RoadKit.Arv Z h b k .char zn (cs.map Value.int) dv) (S : RoadKit.Sta Z h ST "COMPACT_STRINGS" "Z" (.int z)) (hz : ¬ z = 0)
    (hlen : zn.toNatClampNeg = cs.length) (h0 : 0 < cs.length) (hbig : cs.length ≤ 536870912) (hall : ∀ c ∈ cs, ¬ 255 < c) (hfr : 4 ≤ R.frames) (hlo : W + 65 ≤ R.locals) :
    Back l R p e below s args New1.yN len W (fun P a => a = #[.ref x, .ref b] ∧ P.U.heap = h ∧ P.cells + 1 ≤ R.cells ∧ P.slots + cs.length ≤ R.slots)
      (fun P _ v B => ∃ L, QA Z x zn cs h v B.U.heap L ∧ B.locs = P.locs ++ L ∧ B.cells = P.cells + 1 ∧ B.slots = P.slots + cs.length) := by
  obtain ⟨A, K1, K2, K3, K4, K5, K6⟩ := K
  have e : A.slots.size = cs.length := K3.trans hlen
  have hat : ∀ (i : Nat) (hi : i < cs.length), A.slots[i]? = some (.int cs[i]) := fun i hi => by rw [K5 i (by omega)]; simp [List.getD_eq_getElem?_getD, hi]
  have hcv : ∀ (i : Nat) (hi : i < cs.length), cv A i = cs[i] := fun i hi => by unfold cv; rw [hat i hi]
  have hty : Typed .char A := fun i v hv => by
    have hi : i < A.slots.size := (Array.getElem?_eq_some_iff.mp hv).1
    have q := K5 i hi
    rw [hv] at q
    rw [Option.some.inj q]
    exact K6 i hi
  refine Back.mono (back hZ hw wi E V C K1 hty S hz (by omega) (by omega) (fun i hi => by rw [hcv i (by omega)]; exact hall _ (List.getElem_mem _)) hfr hlo) (fun P a hp => ⟨hp.1, hp.2.1, hp.2.2.1, by rw [e]; exact hp.2.2.2⟩) (fun P a v B hp hq => ?_)
  obtain ⟨L, ⟨q1, q2, q3, q4, q5, q6, q7, ⟨V', v1, v2, v3, v4, v5⟩, q9⟩, hl, hc, hs⟩ := hq
  refine ⟨L, ⟨q1, q2, q3, q4, q5, q6, q7, ⟨V'.cls, v3, V', v1, rfl, by rw [v4, e, hlen], K4, fun i hi => ?_, fun i hi => ?_⟩, q9⟩, hl, hc, by rw [hs, e]⟩
  · have hi' : i < cs.length := by omega
    rw [v5 i (by omega), hcv i hi']; simp [List.getD_eq_getElem?_getD, hi']
  · have hi' : i < cs.length := by omega
    simp only [List.getD_eq_getElem?_getD, List.getElem?_map, List.getElem?_eq_getElem hi', Option.map_some, Option.getD_some]
    exact fits_lo8 _
end StrChars.Road
namespace StrChars.Road
open Jvm Sem ClassFile Op Lib Jvm.Stand Jvm.Free Jvm.Free.XT
/-- WHAT COMES BACK, in the writer's own shape -/
def QV (Z : State) (x : Addr) (N : Int32) (bs : List Int32) (h : Heap) (n0 : Nat) (v : Option Value) (h' : Heap) (L : List Loc) : Prop := v = none ∧ RoadKit.Fr n0 L ∧ RoadKit.Keep h h' [x] ∧ RoadKit.Exa Z h' x ST ∧ RoadKit.Fld Z h' x ST "coder" "B" (.int 0) ∧
  ∃ (t : Addr) (kb : ClassId), n0 ≤ t ∧ h.size ≤ t ∧ ¬ t = x ∧ RoadKit.Fld Z h' x ST "value" "[B" (.ref t) ∧ RoadKit.Arv Z h' t kb .byte N (bs.map Value.int) (.int 0)
/-- **new String(chars) AT A CALL, FOR THE WRITER**: a char[] of n known ints, each 0 to 255 -/
theorem backV {p : Program} {l : Launch} {e : Env} {R : Room} {s : State} {args : Array Value} {below : List Frame} {len W : Nat} {Z : State} {a0 : Array Value} {h : Heap} (hZ : Z.Warmed39 s.vm) (hw : ∀ d ∈ words, d.before a0 Z = true) {kI : Nat} (wi : (Jvm.Cond.instantiable ST kI).before a0 Z = true)
    {x b : Addr} {kC : ClassId} {cs bs : List Int32} {d v0 c0 : Value} {z N : Int32} {n n0 : Nat} (hx0 : n0 ≤ x) (hh0 : n0 ≤ h.size) (E : RoadKit.Exa Z h x ST) (V : RoadKit.Fld Z h x ST "value" "[B" v0) (C : RoadKit.Fld Z h x ST "coder" "B" c0) (K : RoadKit.Arv Z h b kC .char N (cs.map Value.int) d) (S : RoadKit.Sta Z h ST "COMPACT_STRINGS" "Z" (.int z)) (hz : ¬ z = 0)
    (hn : cs.length = n) (hN : N = Int32.ofNat n) (l0 : 0 < n) (l2 : n ≤ 4000) (hp : ∀ c ∈ cs, ¬ c < 0 ∧ ¬ (255 : Int32) < c) (hb : bs = cs.map (fun c => c.toInt8.toInt32)) (hfr : 4 ≤ R.frames) (hlo : W + 65 ≤ R.locals) :
    Back l R p e below s args (⟨"java/lang/String", "<init>", "([C)V"⟩ : MethodName) len W (fun P a => a = #[.ref x, .ref b] ∧ P.U.heap = h ∧ P.cells + 1 ≤ R.cells ∧ P.slots + n ≤ R.slots)
      (fun P _ v B => ∃ L, QV Z x N bs h n0 v B.U.heap L ∧ B.locs = P.locs ++ L ∧ B.cells = P.cells + 1 ∧ B.slots = P.slots + n) := by
  subst hn hN hb
  refine Back.mono (backArv hZ hw wi E V C K S hz (n32 (by omega)) l0 (by omega) (fun c hc => (hp c hc).2) hfr hlo) (fun P a hp => hp) (fun P a v B hp hq => ?_)
  obtain ⟨L, ⟨q1, q2, q3, q4, q5, q6, q7, ⟨kb, v1, v2⟩, q9⟩, hl, hc, hs⟩ := hq
  exact ⟨L, ⟨q1, fun y hy => by rw [q2 y hy]; exact hx0, q3, q5, q7, h.size, kb, hh0, Nat.le_refl _, Nat.ne_of_gt E.lt, q6, by rw [List.map_map]; exact v2⟩, hl, hc, hs⟩
end StrChars.Road
namespace StrChars
open Jvm Sem ClassFile Op Lib Jvm.Stand Jvm.Free.XT Jvm.Free.ALB Jvm.Free.JM Jvm.Free
open Jvm.Lib.Cold (StaticIs)
def hi8 (x : Int32) : Int32 := lo8 (x >>> ((8 : Int32) &&& 31))
/-- what StringUTF16.getChar makes of two bytes -/
def pairCh (u v : Int32) : Int32 := (((u &&& 255) <<< ((0 : Int32) &&& 31)) ||| ((v &&& 255) <<< ((8 : Int32) &&& 31))).toUInt32.toUInt16.toUInt32.toInt32
theorem shr0 (c : Int32) : c >>> ((0 : Int32) &&& 31) = c := by
  have e : ((0 : Int32) &&& 31) = 0 := by decide
  rw [e]
  apply Int32.toBitVec_inj.mp
  rw [Int32.toBitVec_shiftRight]
  have e1 : ((0 : Int32).toBitVec.smod 32) = 0#32 := by decide
  rw [e1, BitVec.sshiftRight_eq']
  exact BitVec.sshiftRight_zero
theorem lo8_and (x : Int32) : (lo8 x &&& 255).toBitVec.toNat = x.toBitVec.toNat % 256 := by
  have h : (lo8 x).toBitVec = (x.toBitVec.signExtend 8).signExtend 32 := by rw [lo8, Int8.toBitVec_toInt32, Int32.toBitVec_toInt8]
  rw [Int32.toBitVec_and, BitVec.toNat_and, h]
  have e : ((x.toBitVec.signExtend 8).signExtend 32).toNat % 256 = x.toBitVec.toNat % 256 := by
    rw [BitVec.toNat_signExtend]
    have hlt := x.toBitVec.isLt
    simp only [BitVec.toNat_setWidth, BitVec.toNat_signExtend]
    split <;> split <;> omega
  rw [← e]
  exact Nat.and_two_pow_sub_one_eq_mod _ 8
theorem pair_says {c : Int32} (h0 : ¬ c < 0) (h1 : ¬ 65535 < c) : pairCh (lo8 c) (hi8 c) = c := by
  rw [Int32.lt_iff_toInt_lt] at h0 h1
  have e0 : (0 : Int32).toInt = 0 := rfl
  have e1 : (65535 : Int32).toInt = 65535 := rfl
  have hc : c.toInt = c.toBitVec.toNat := by
    have := c.toBitVec.isLt
    have e : c.toInt = c.toBitVec.toInt := rfl
    rw [e] at h0 h1
    rw [e]
    rw [BitVec.toInt_eq_toNat_cond] at h0 h1 ⊢
    split at h0 <;> split <;> omega
  have hn : c.toBitVec.toNat < 65536 := by omega
  have a1 := lo8_and c
  have a2 : (hi8 c &&& 255).toBitVec.toNat = c.toBitVec.toNat / 256 := by
    rw [hi8, lo8_and]
    have e : ((8 : Int32) &&& 31) = 8 := by decide
    rw [e, Int32.toBitVec_shiftRight]
    have e2 : ((8 : Int32).toBitVec.smod 32) = 8#32 := by decide
    rw [e2, BitVec.sshiftRight_eq', BitVec.toNat_sshiftRight_of_msb_false (by rw [BitVec.msb_eq_false_iff_two_mul_lt]; omega)]
    show c.toBitVec.toNat >>> 8 % 256 = _
    rw [Nat.shiftRight_eq_div_pow]
    omega
  unfold pairCh
  apply Int32.toBitVec_inj.mp
  apply BitVec.eq_of_toNat_eq
  have f0 : ((0 : Int32) &&& 31) = 0 := by decide
  have f8 : ((8 : Int32) &&& 31) = 8 := by decide
  rw [f0, f8]
  have g : (((lo8 c &&& 255) <<< (0 : Int32)) ||| ((hi8 c &&& 255) <<< (8 : Int32))).toBitVec.toNat = c.toBitVec.toNat := by
    rw [Int32.toBitVec_or, Int32.toBitVec_shiftLeft, Int32.toBitVec_shiftLeft]
    have s0 : ((0 : Int32).toBitVec.smod 32) = 0#32 := by decide
    have s8 : ((8 : Int32).toBitVec.smod 32) = 8#32 := by decide
    rw [s0, s8, BitVec.toNat_or]
    simp only [BitVec.shiftLeft_eq', BitVec.toNat_shiftLeft, a1, a2]
    show (c.toBitVec.toNat % 256) <<< 0 % 2 ^ 32 ||| (c.toBitVec.toNat / 256) <<< 8 % 2 ^ 32 = _
    rw [Nat.shiftLeft_zero, Nat.mod_eq_of_lt (show c.toBitVec.toNat % 256 < 2 ^ 32 by omega), Nat.mod_eq_of_lt (show (c.toBitVec.toNat / 256) <<< 8 < 2 ^ 32 by rw [Nat.shiftLeft_eq]; omega), Nat.or_comm, ← Nat.shiftLeft_add_eq_or_of_lt (by omega), Nat.shiftLeft_eq]
    omega
  show BitVec.toNat (((((lo8 c &&& 255) <<< (0 : Int32)) ||| ((hi8 c &&& 255) <<< (8 : Int32))).toBitVec.setWidth 16).setWidth 32) = _
  rw [BitVec.toNat_setWidth, BitVec.toNat_setWidth, g]
  omega
end StrChars
namespace StrChars
open Jvm Sem ClassFile Op Lib Jvm.Stand Jvm.Free.XT Jvm.Free.ALB Jvm.Free.JM Jvm.Free
open Jvm.Lib.Cold (StaticIs)
theorem shr1 {n : Nat} (h : 2 * n < 2 ^ 31) : Int32.ofNat (2 * n) >>> ((1 : Int32) &&& 31) = Int32.ofNat n := by
  have e : ((1 : Int32) &&& 31) = 1 := by decide
  rw [e]
  apply Int32.toBitVec_inj.mp
  rw [Int32.toBitVec_shiftRight]
  have e1 : ((1 : Int32).toBitVec.smod 32) = 1#32 := by decide
  have hm : (BitVec.ofNat 32 (2 * n)).toNat = 2 * n := by rw [BitVec.toNat_ofNat, Nat.mod_eq_of_lt (by omega)]
  rw [e1, BitVec.sshiftRight_eq']
  apply BitVec.eq_of_toNat_eq
  show ((BitVec.ofNat 32 (2 * n)).sshiftRight 1).toNat = (BitVec.ofNat 32 n).toNat
  rw [BitVec.toNat_sshiftRight_of_msb_false (by rw [BitVec.msb_eq_false_iff_two_mul_lt, hm]; omega), hm, BitVec.toNat_ofNat, Nat.shiftRight_eq_div_pow]
  omega
/-- charAt's cast of a byte read back -/
def chr8 (u : Int32) : Int32 := (u &&& 255).toUInt32.toUInt16.toUInt32.toInt32
theorem chr8_lo8 {c : Int32} (h0 : ¬ c < 0) (h1 : ¬ 255 < c) : chr8 (lo8 c) = c := by
  have t : ∀ k : Fin 256, (Int32.ofNat k.val).toUInt32.toUInt16.toUInt32.toInt32 = Int32.ofNat k.val := by decide +kernel
  unfold chr8
  rw [lo8_mask h0 h1]
  rw [Int32.lt_iff_toInt_lt] at h0 h1
  have e0 : (0 : Int32).toInt = 0 := rfl
  have e1 : (255 : Int32).toInt = 255 := rfl
  obtain ⟨k, hk⟩ : ∃ k : Nat, c.toInt = k := ⟨c.toInt.toNat, by omega⟩
  have hx : c = Int32.ofNat k := Int32.toInt_inj.mp (by rw [hk, Int32.toInt_ofNat_small (by omega)])
  rw [hx]
  exact t ⟨k, by omega⟩
theorem narrow_ch {c : Int32} (h0 : ¬ c < 0) (h1 : ¬ 65535 < c) : narrow .char (.int c) = .int c := by
  have q : narrow .char (.int (pairCh (lo8 c) (hi8 c))) = .int (pairCh (lo8 c) (hi8 c)) := narrow_c _
  rwa [pair_says h0 h1] at q
/-- the array's cell V codes the n chars f 0 .. f (n - 1) by the coder cd, as the JDK does: coder 1 just where some char is above 255 -/
def Cod (cd : Int32) (n : Nat) (f : Nat → Int32) (V : Cell) : Prop := (cd = 0 ∧ V.slots.size = n ∧ ∀ j, j < n → V.slots[j]? = some (.int (lo8 (f j))) ∧ ¬ 255 < f j) ∨ (cd = 1 ∧ V.slots.size = 2 * n ∧ (∀ j, j < n → V.slots[2 * j]? = some (.int (lo8 (f j))) ∧ V.slots[2 * j + 1]? = some (.int (hi8 (f j)))) ∧ ∃ j, j < n ∧ 255 < f j)
theorem Cod.cd {cd : Int32} {n : Nat} {f : Nat → Int32} {V : Cell} (h : Cod cd n f V) : cd = 0 ∨ cd = 1 := h.imp (fun q => q.1) fun q => q.1
theorem Cod.len {cd : Int32} {n : Nat} {f : Nat → Int32} {V : Cell} (h : Cod cd n f V) (hs : V.slots.size < 2 ^ 31) : Int32.ofNat V.slots.size >>> (cd &&& 31) = Int32.ofNat n := by
  rcases h with ⟨rfl, h, -⟩ | ⟨rfl, h, -⟩
  · rw [shr0, h]
  · rw [h, shr1 (by omega)]
/-- **x is a String of the n chars f 0 .. f (n - 1)**, Latin-1 or UTF-16; its array at t has the cell V -/
def Txt (x t : Addr) (V : Cell) (cd : Int32) (n : Nat) (f : Nat → Int32) (U : State) : Prop := Exact "java/lang/String" x U ∧ Has x "java/lang/String" "value" "[B" (.ref t) U ∧ Has x "java/lang/String" "coder" "B" (.int cd) U ∧ XT.Arr .byte t V U ∧ Cod cd n f V ∧ ∀ j, j < n → ¬ f j < 0 ∧ ¬ 65535 < f j
theorem Txt.mv {x t : Addr} {V : Cell} {cd : Int32} {n : Nat} {f : Nat → Int32} {U U' : State} (h : Txt x t V cd n f U) (hal : U.vm.Alike U'.vm) (hh : U'.heap = U.heap) : Txt x t V cd n f U' := ⟨h.1.mv hal hh, h.2.1.mv hal hh, h.2.2.1.mv hal hh, h.2.2.2.1.mv hal hh, h.2.2.2.2⟩
namespace Cdr
def yN : MethodName := ⟨"java/lang/String", "coder", "()B"⟩
abbrev yB : ByteArray := jdk_42_method_152_code
theorem d0 : decode yB 0 = .ok (.getstatic 38, 3) := by decide +kernel
theorem d3 : decode yB 3 = .ok (.ifCond (.eq) 10, 3) := by decide +kernel
theorem d6 : decode yB 6 = .ok (.aload_n 0, 1) := by decide +kernel
theorem d7 : decode yB 7 = .ok (.getfield 15, 3) := by decide +kernel
theorem d10 : decode yB 10 = .ok (.goto 4, 3) := by decide +kernel
theorem d14 : decode yB 14 = .ok (.ireturn, 1) := by decide +kernel
def site : List Cond := [.fieldLink "java/lang/String" 38 "java/lang/String" "COMPACT_STRINGS" "Z", .fieldLink "java/lang/String" 15 "java/lang/String" "coder" "B"]
def tab : Cond := tabOf yN yB 1 (some .byte) site
def P (x : Addr) (cd z : Int32) (args : Array Value) (s : State) : Prop := args = #[.ref x] ∧ Has x "java/lang/String" "coder" "B" (.int cd) s ∧ (cd = 0 ∨ cd = 1) ∧ StaticIs s "java/lang/String" "COMPACT_STRINGS" "Z" (.int z) ∧ ¬ z = 0
def E (cd : Int32) (r : Option Value) (s u : State) : Prop := XT.PureE (some (.int cd)) r s u
theorem law (l : Launch) (x : Addr) (cd z : Int32) : Law l yN 1 0 0 0 yB 1 (some .byte) site (P x cd z) (E cd) [] 0 0 := by
  refine Law.of_walk (plainFor_of_name (by decide +kernel)) (by decide +kernel) (by decide +kernel) (by decide) (fun _ _ h => by rw [h.1]; rfl) (fun _ U U' hal hh h => ⟨h.1, h.2.1.mv hal hh, h.2.2.1, h.2.2.2.1.there hal hh, h.2.2.2.2⟩) (fun r U U' V V' h1 hal h2 h => XT.PureE.mv r U U' V V' h1 hal h2 h) ?_
  intro p e s m args below meth c s₁ X0 hexec hbytes hml hret hlk hnm hown hh0 W hP
  obtain ⟨rfl, hx, hc, s1, hz⟩ := hP
  have c1 : Steps p.tables e below (s₁.setTop (entryFrame m #[.ref x] 1)) (s₁.setTop (mkF m 0 #[.val (.ref x)] [])) := entry rfl
  obtain ⟨T2, X2, q2, st2⟩ := X0.sget hexec hown (wk W (.fieldLink "java/lang/String" 38 "java/lang/String" "COMPACT_STRINGS" "Z")) s1 (fun _ _ h => by rw [hh0]; exact h) (g := (mkF m 0 #[.val (.ref x)] [])) rfl (hb hbytes d0)
  have hh2 := q2.trans hh0
  have c3 : Steps p.tables e below (s₁.setTop (entryFrame m #[.ref x] 1)) (T2.setTop (mkF m 7 #[.val (.ref x)] [.ref x])) := (c1.trans (st2 _ (Steps.refl _))).trans (by
    refine XS.ifNo X2.here hexec rfl (hb hbytes d3) rfl (i0_eq_f hz) ?_
    refine XS.aloadN X2.here hexec rfl (hb hbytes d6) rfl rfl ?_
    exact Steps.refl _)
  obtain ⟨T4, X4, q4, st4⟩ := X2.hget hexec hown (wk W (.fieldLink "java/lang/String" 15 "java/lang/String" "coder" "B")) (hx.mv X2.warmed.alike hh2) (g := (mkF m 7 #[.val (.ref x)] [.ref x])) rfl (rest := []) rfl (hb hbytes d7)
  have c5 : Steps p.tables e below (s₁.setTop (entryFrame m #[.ref x] 1)) (T4.setTop (mkF m 14 #[.val (.ref x)] [.int cd])) := (c3.trans (st4 _ (Steps.refl _))).trans (by
    refine XS.goto X4.here hexec rfl (pc0 := 10) rfl (hb hbytes d10) (by decide) rfl ?_
    exact Steps.refl _)
  exact ⟨T4, some (.int cd), _, _, _, X4, rfl, rfl, rfl, (fun h => by cases h), ⟨rfl, q4.trans hh2⟩, fun fs hl => c5.trans (X4.ireturnOut hexec hret (by rcases hc with rfl | rfl <;> rfl) (Or.inr (Or.inr (Or.inl rfl))) (hb hbytes d14) hl)⟩
end Cdr
namespace Len
def yN : MethodName := ⟨"java/lang/String", "length", "()I"⟩
abbrev yB : ByteArray := jdk_42_method_54_code
theorem d0 : decode yB 0 = .ok (.aload_n 0, 1) := by decide +kernel
theorem d1 : decode yB 1 = .ok (.getfield 9, 3) := by decide +kernel
theorem d4 : decode yB 4 = .ok (.arraylength, 1) := by decide +kernel
theorem d5 : decode yB 5 = .ok (.aload_n 0, 1) := by decide +kernel
theorem d6 : decode yB 6 = .ok (.invokevirtual 335, 3) := by decide +kernel
theorem d9 : decode yB 9 = .ok (.ishr, 1) := by decide +kernel
theorem d10 : decode yB 10 = .ok (.ireturn, 1) := by decide +kernel
def site : List Cond := [.fieldLink "java/lang/String" 9 "java/lang/String" "value" "[B", Cdr.tab] ++ virtW "java/lang/String" 335 "java/lang/String" Cdr.yN Cdr.yN
def tab : Cond := tabOf yN yB 1 (some .int) site
def P (x t : Addr) (V : Cell) (cd : Int32) (n : Nat) (f : Nat → Int32) (z : Int32) (args : Array Value) (s : State) : Prop := args = #[.ref x] ∧ Txt x t V cd n f s ∧ StaticIs s "java/lang/String" "COMPACT_STRINGS" "Z" (.int z) ∧ ¬ z = 0
def E (n : Nat) (r : Option Value) (s u : State) : Prop := XT.PureE (some (.int (Int32.ofNat n))) r s u
/-- length() of a String of n chars, in either coding -/
theorem law (l : Launch) (x t : Addr) (V : Cell) (cd : Int32) (n : Nat) (f : Nat → Int32) (z : Int32) : Law l yN 1 0 1 13 yB 1 (some .int) site (P x t V cd n f z) (E n) [] 0 0 := by
  refine Law.of_walk (plainFor_of_name (by decide +kernel)) (by decide +kernel) (by decide +kernel) (by decide) (fun _ _ h => by rw [h.1]; rfl) (fun _ U U' hal hh h => ⟨h.1, h.2.1.mv hal hh, h.2.2.1.there hal hh, h.2.2.2⟩) (fun r U U' V V' h1 hal h2 h => XT.PureE.mv r U U' V V' h1 hal h2 h) ?_
  intro p e s m args below meth c s₁ X0 hexec hbytes hml hret hlk hnm hown hh0 W hP
  obtain ⟨rfl, hx, s1, hz⟩ := hP
  have v31 := hx.2.2.2.1.2.2.2
  have c1 : Steps p.tables e below (s₁.setTop (entryFrame m #[.ref x] 1)) (s₁.setTop (mkF m 1 #[.val (.ref x)] [.ref x])) := Steps.trans (entry rfl) (by
    show Steps p.tables e below (s₁.setTop (mkF m 0 #[.val (.ref x)] [])) _
    refine XS.aloadN X0.here hexec rfl (hb hbytes d0) rfl rfl ?_
    exact Steps.refl _)
  obtain ⟨T2, X2, q2, st2⟩ := X0.hget hexec hown (wk W (.fieldLink "java/lang/String" 9 "java/lang/String" "value" "[B")) (hx.mv X0.warmed.alike hh0).2.1 (g := (mkF m 1 #[.val (.ref x)] [.ref x])) rfl (rest := []) rfl (hb hbytes d1)
  have hh2 := q2.trans hh0
  have hx2 := hx.mv X2.warmed.alike hh2
  have c3 : Steps p.tables e below (s₁.setTop (entryFrame m #[.ref x] 1)) (T2.setTop (mkF m 6 #[.val (.ref x)] [.ref x, .int (Int32.ofNat V.slots.size)])) := (c1.trans (st2 _ (Steps.refl _))).trans (by
    refine X2.alen hexec hx2.2.2.2.1 rfl rfl (hb hbytes d4) ?_
    refine XS.aloadN X2.here hexec rfl (hb hbytes d5) rfl rfl ?_
    exact Steps.refl _)
  obtain ⟨v4, T4, X4, E4, g4⟩ := X2.callV hexec (Cdr.law l x cd z) hown (wks W (virtW "java/lang/String" 335 "java/lang/String" Cdr.yN Cdr.yN)) rfl (by decide) (wk W Cdr.tab) (W := 1) (Nat.le_of_ble_eq_true rfl) (Nat.le_of_ble_eq_true rfl) (Nat.le_refl _) (Nat.le_refl _) (hx2.1.fc X2.warmed.alike) hx2.1.is (g := (mkF m 6 #[.val (.ref x)] [.ref x, .int (Int32.ofNat V.slots.size)])) rfl (by rw [hml]; rfl) c3 (argsL := []) (rest := [.int (Int32.ofNat V.slots.size)]) rfl rfl (by show 2 * 0 + (1 + 0) ≤ _; decide) (hb hbytes d6) (⟨rfl, hx2.2.2.1, hx.2.2.2.2.1.cd, s1.there X2.warmed.alike hh2, hz⟩)
  obtain ⟨rfl, q4⟩ := E4
  have c5 : Steps p.tables e below (s₁.setTop (entryFrame m #[.ref x] 1)) (T4.setTop (mkF m 10 #[.val (.ref x)] [.int (Int32.ofNat V.slots.size >>> (cd &&& 31))])) := Steps.trans g4 (by
    refine ishr X4.here hexec rfl (hb hbytes d9) rfl ?_
    exact Steps.refl _)
  rw [hx.2.2.2.2.1.len v31] at c5
  exact ⟨T4, some (.int (Int32.ofNat n)), _, _, _, X4, rfl, rfl, rfl, (fun h => by cases h), ⟨rfl, q4.trans hh2⟩, fun fs hl => c5.trans (X4.ireturnOut hexec hret rfl (Or.inl rfl) (hb hbytes d10) hl)⟩
theorem pays {l : Launch} {R : Room} {p : Program} {e : Env} {below : List Frame} {s : State} {sargs : Array Value} {len W : Nat} (x t : Addr) (V : Cell) (cd : Int32) (n : Nat) (f : Nat → Int32) (z : Int32) (htab : tab.before sargs s = true) (hfr : 2 ≤ R.frames) (hlo : W + 25 ≤ R.locals) :
    Back l R p e below s sargs yN len W (fun A₁ a₁ => A₁.cells + 0 ≤ R.cells ∧ A₁.slots + 0 ≤ R.slots ∧ P x t V cd n f z a₁ A₁.U) (fun A₁ _ v₁ B₁ => E n v₁ A₁.U B₁.U ∧ B₁.locs = A₁.locs ++ [] ∧ B₁.cells = A₁.cells + 0 ∧ B₁.slots = A₁.slots + 0) :=
  (law l x t V cd n f z).pays htab hfr (by omega)
end Len
namespace IsL
def yN : MethodName := ⟨"java/lang/String", "isLatin1", "()Z"⟩
abbrev yB : ByteArray := jdk_42_method_154_code
theorem d0 : decode yB 0 = .ok (.getstatic 38, 3) := by decide +kernel
theorem d3 : decode yB 3 = .ok (.ifCond (.eq) 14, 3) := by decide +kernel
theorem d6 : decode yB 6 = .ok (.aload_n 0, 1) := by decide +kernel
theorem d7 : decode yB 7 = .ok (.getfield 15, 3) := by decide +kernel
theorem d10 : decode yB 10 = .ok (.ifCond (.ne) 7, 3) := by decide +kernel
theorem d13 : decode yB 13 = .ok (.iconst 1, 1) := by decide +kernel
theorem d14 : decode yB 14 = .ok (.goto 4, 3) := by decide +kernel
theorem d17 : decode yB 17 = .ok (.iconst 0, 1) := by decide +kernel
theorem d18 : decode yB 18 = .ok (.ireturn, 1) := by decide +kernel
def site : List Cond := [.fieldLink "java/lang/String" 38 "java/lang/String" "COMPACT_STRINGS" "Z", .fieldLink "java/lang/String" 15 "java/lang/String" "coder" "B"]
def tab : Cond := tabOf yN yB 1 (some .boolean) site
def P (x : Addr) (cd z : Int32) (args : Array Value) (s : State) : Prop := args = #[.ref x] ∧ Has x "java/lang/String" "coder" "B" (.int cd) s ∧ (cd = 0 ∨ cd = 1) ∧ StaticIs s "java/lang/String" "COMPACT_STRINGS" "Z" (.int z) ∧ ¬ z = 0
def E (cd : Int32) (r : Option Value) (s u : State) : Prop := XT.PureE (some (.int (1 - cd))) r s u
theorem law (l : Launch) (x : Addr) (cd z : Int32) : Law l yN 1 0 0 0 yB 1 (some .boolean) site (P x cd z) (E cd) [] 0 0 := by
  refine Law.of_walk (plainFor_of_name (by decide +kernel)) (by decide +kernel) (by decide +kernel) (by decide) (fun _ _ h => by rw [h.1]; rfl) (fun _ U U' hal hh h => ⟨h.1, h.2.1.mv hal hh, h.2.2.1, h.2.2.2.1.there hal hh, h.2.2.2.2⟩) (fun r U U' V V' h1 hal h2 h => XT.PureE.mv r U U' V V' h1 hal h2 h) ?_
  intro p e s m args below meth c s₁ X0 hexec hbytes hml hret hlk hnm hown hh0 W hP
  obtain ⟨rfl, hx, hc, s1, hz⟩ := hP
  have c1 : Steps p.tables e below (s₁.setTop (entryFrame m #[.ref x] 1)) (s₁.setTop (mkF m 0 #[.val (.ref x)] [])) := entry rfl
  obtain ⟨T2, X2, q2, st2⟩ := X0.sget hexec hown (wk W (.fieldLink "java/lang/String" 38 "java/lang/String" "COMPACT_STRINGS" "Z")) s1 (fun _ _ h => by rw [hh0]; exact h) (g := (mkF m 0 #[.val (.ref x)] [])) rfl (hb hbytes d0)
  have hh2 := q2.trans hh0
  have c3 : Steps p.tables e below (s₁.setTop (entryFrame m #[.ref x] 1)) (T2.setTop (mkF m 7 #[.val (.ref x)] [.ref x])) := (c1.trans (st2 _ (Steps.refl _))).trans (by
    refine XS.ifNo X2.here hexec rfl (hb hbytes d3) rfl (i0_eq_f hz) ?_
    refine XS.aloadN X2.here hexec rfl (hb hbytes d6) rfl rfl ?_
    exact Steps.refl _)
  obtain ⟨T4, X4, q4, st4⟩ := X2.hget hexec hown (wk W (.fieldLink "java/lang/String" 15 "java/lang/String" "coder" "B")) (hx.mv X2.warmed.alike hh2) (g := (mkF m 7 #[.val (.ref x)] [.ref x])) rfl (rest := []) rfl (hb hbytes d7)
  have c5 : Steps p.tables e below (s₁.setTop (entryFrame m #[.ref x] 1)) (T4.setTop (mkF m 10 #[.val (.ref x)] [.int cd])) := c3.trans (st4 _ (Steps.refl _))
  have c6 : Steps p.tables e below (s₁.setTop (entryFrame m #[.ref x] 1)) (T4.setTop (mkF m 18 #[.val (.ref x)] [.int (1 - cd)])) := by
    rcases hc with rfl | rfl
    · exact c5.trans (by
        refine XS.ifNo X4.here hexec rfl (hb hbytes d10) rfl (i0_ne_f rfl) ?_
        refine iconstV X4.here hexec rfl 1 (hb hbytes d13) (by decide) ?_
        refine XS.goto X4.here hexec rfl (pc0 := 14) rfl (hb hbytes d14) (by decide) rfl ?_
        exact Steps.refl _)
    · exact c5.trans (by
        refine XS.ifYes X4.here hexec rfl (pc0 := 10) rfl (hb hbytes d10) rfl (i0_ne_t (by decide)) (by decide) rfl ?_
        refine iconstV X4.here hexec rfl 0 (hb hbytes d17) (by decide) ?_
        exact Steps.refl _)
  exact ⟨T4, some (.int (1 - cd)), _, _, _, X4, rfl, rfl, rfl, (fun h => by cases h), ⟨rfl, q4.trans hh2⟩, fun fs hl => c6.trans (X4.ireturnOut hexec hret (by rcases hc with rfl | rfl <;> rfl) (Or.inr (Or.inl rfl)) (hb hbytes d18) hl)⟩
end IsL
namespace LChA
def yN : MethodName := ⟨"java/lang/StringLatin1", "charAt", "([BI)C"⟩
abbrev yB : ByteArray := jdk_43_method_2_code
theorem d0 : decode yB 0 = .ok (.iload_n 1, 1) := by decide +kernel
theorem d1 : decode yB 1 = .ok (.aload_n 0, 1) := by decide +kernel
theorem d2 : decode yB 2 = .ok (.arraylength, 1) := by decide +kernel
theorem d3 : decode yB 3 = .ok (.invokestatic 9, 3) := by decide +kernel
theorem d6 : decode yB 6 = .ok (.aload_n 0, 1) := by decide +kernel
theorem d7 : decode yB 7 = .ok (.iload_n 1, 1) := by decide +kernel
theorem d8 : decode yB 8 = .ok (.baload, 1) := by decide +kernel
theorem d9 : decode yB 9 = .ok (.sipush 255, 3) := by decide +kernel
theorem d12 : decode yB 12 = .ok (.iand, 1) := by decide +kernel
theorem d13 : decode yB 13 = .ok (.i2c, 1) := by decide +kernel
theorem d14 : decode yB 14 = .ok (.ireturn, 1) := by decide +kernel
def site : List Cond := [JO.Str_checkIndex.tab] ++ staticW "java/lang/StringLatin1" 9 JO.Str_checkIndex.yN
def tab : Cond := tabOf yN yB 2 (some .char) site
def P (t : Addr) (V : Cell) (i : Nat) (u : Int32) (fm : Value) (args : Array Value) (s : State) : Prop := args = #[.ref t, .int (Int32.ofNat i)] ∧ XT.Arr .byte t V s ∧ V.slots[i]? = some (.int u) ∧ (StaticIs s "jdk/internal/util/Preconditions" "SIOOBE_FORMATTER" "Ljava/util/function/BiFunction;" fm ∧ fm.isRef = true)
def E (u : Int32) (r : Option Value) (s w : State) : Prop := XT.PureE (some (.int (chr8 u))) r s w
theorem law (l : Launch) (t : Addr) (V : Cell) (i : Nat) (u : Int32) (fm : Value) : Law l yN 2 2 2 27 yB 2 (some .char) site (P t V i u fm) (E u) [] 0 0 := by
  refine Law.of_walk (plainFor_of_name (by decide +kernel)) (by decide +kernel) (by decide +kernel) (by decide) (fun _ _ h => by rw [h.1]; rfl) (fun _ U U' hal hh h => ⟨h.1, h.2.1.mv hal hh, h.2.2.1, h.2.2.2.1.there hal hh, h.2.2.2.2⟩) (fun r U U' V V' h1 hal h2 h => XT.PureE.mv r U U' V V' h1 hal h2 h) ?_
  intro p e s m args below meth c s₁ X0 hexec hbytes hml hret hlk hnm hown hh0 W hP
  obtain ⟨rfl, hV, hu, s1, rf⟩ := hP
  have v31 := hV.2.2.2
  have hi : i < V.slots.size := (Array.getElem?_eq_some_iff.mp hu).1
  have c1 : Steps p.tables e below (s₁.setTop (entryFrame m #[.ref t, .int (Int32.ofNat i)] 2)) (s₁.setTop (mkF m 0 #[.val (.ref t), .val (.int (Int32.ofNat i))] [])) := entry rfl
  have c2 : Steps p.tables e below (s₁.setTop (entryFrame m #[.ref t, .int (Int32.ofNat i)] 2)) (s₁.setTop (mkF m 3 #[.val (.ref t), .val (.int (Int32.ofNat i))] [.int (Int32.ofNat V.slots.size), .int (Int32.ofNat i)])) := c1.trans (by
    refine XS.iloadN X0.here hexec rfl (hb hbytes d0) rfl ?_
    refine XS.aloadN X0.here hexec rfl (hb hbytes d1) rfl rfl ?_
    refine X0.alen hexec (hV.mv X0.warmed.alike hh0) rfl rfl (hb hbytes d2) ?_
    exact Steps.refl _)
  obtain ⟨v3, T3, X3, E3, g3⟩ := X0.callS hexec (JO.Str_checkIndex.law l (Int32.ofNat i) (Int32.ofNat V.slots.size) fm) hown (wks W (staticW "java/lang/StringLatin1" 9 JO.Str_checkIndex.yN)) (wk W JO.Str_checkIndex.tab) (W := 0) (Nat.le_of_ble_eq_true rfl) (Nat.le_of_ble_eq_true rfl) (Nat.le_refl _) (Nat.le_refl _) (g := (mkF m 3 #[.val (.ref t), .val (.int (Int32.ofNat i))] [.int (Int32.ofNat V.slots.size), .int (Int32.ofNat i)])) rfl (by rw [hml]; rfl) c2 (argsL := [.int (Int32.ofNat i), .int (Int32.ofNat V.slots.size)]) (rest := []) rfl rfl (by show 2 * 0 + 0 ≤ _; decide) (hb hbytes d3) (⟨rfl, rf, s1.there X0.warmed.alike hh0, Int32.ofNat_not_neg (by omega), lt32 v31 hi⟩)
  obtain ⟨rfl, q3⟩ := E3
  have hh3 := q3.trans hh0
  have c4 : Steps p.tables e below (s₁.setTop (entryFrame m #[.ref t, .int (Int32.ofNat i)] 2)) (T3.setTop (mkF m 14 #[.val (.ref t), .val (.int (Int32.ofNat i))] [.int (chr8 u)])) := Steps.trans g3 (by
    refine XS.aloadN X3.here hexec rfl (hb hbytes d6) rfl rfl ?_
    refine XS.iloadN X3.here hexec rfl (hb hbytes d7) rfl ?_
    refine X3.aget hexec (hV.mv X3.warmed.alike hh3) rfl hu rfl rfl (hb hbytes d8) ?_
    refine sipushV X3.here hexec rfl 255 (hb hbytes d9) (by decide) ?_
    refine XS.iand X3.here hexec rfl (hb hbytes d12) rfl ?_
    refine i2c X3.here hexec rfl (hb hbytes d13) rfl ?_
    exact Steps.refl _)
  exact ⟨T3, some (.int (chr8 u)), _, _, _, X3, rfl, rfl, rfl, (fun h => by cases h), ⟨rfl, hh3⟩, fun fs hl => c4.trans (X3.ireturnOut hexec hret (narrow_c _) (Or.inr (Or.inr (Or.inr (Or.inl rfl)))) (hb hbytes d14) hl)⟩
end LChA
end StrChars
namespace StrChars.Road
open Jvm Sem ClassFile Op Lib Jvm.Stand Jvm.Free Jvm.Free.XT
open Jvm.Lib.Cold (StaticIs)
theorem consq {a : Array Value} {s : State} {c : Jvm.Cond} {L : List Jvm.Cond} (h0 : c.before a s = true) (h : ∀ w ∈ L, w.before a s = true) : ∀ w ∈ c :: L, w.before a s = true := fun w hw => (List.mem_cons.mp hw).elim (fun e => e ▸ h0) (h w)
/-- the words of String.length(), either coding -/
abbrev wordsLen : List Jvm.Cond := [.code Len.yN Len.yB 1 (some .int), .initialized ST, .fieldLink ST 9 ST "value" "[B", .fieldLink ST 38 ST "COMPACT_STRINGS" "Z", .fieldLink ST 15 ST "coder" "B", .code Cdr.yN Cdr.yB 1 (some .byte), .methodLink ST 335 Cdr.yN, .declares Cdr.yN, .selects ST Cdr.yN Cdr.yN, .instanceMethod Cdr.yN]
theorem tabLen_of {a : Array Value} {s : State} (h : ∀ w ∈ wordsLen, w.before a s = true) : Len.tab.before a s = true := by
  have hc : Cdr.tab.before a s = true := unparts (wk h (.code Cdr.yN Cdr.yB 1 (some .byte))) (wks h (.initialized Cdr.yN.cls :: Cdr.site))
  have q := consq hc h
  exact unparts (wk q (.code Len.yN Len.yB 1 (some .int))) (wks q (.initialized Len.yN.cls :: Len.site))
theorem movedLen {Z s : State} {a0 args : Array Value} (hZ : Z.Warmed39 s.vm) (hw : ∀ d ∈ wordsLen, d.before a0 Z = true) : ∀ d ∈ wordsLen, d.before args s = true := fun d hd => by
  have q := hw d hd
  have t : ∀ d ∈ wordsLen, d = .arrayClass .byte ∨ (d.onTables && d.keepsFace) = true := by decide +kernel
  rcases t d hd with rfl | t
  · exact RoadKit.mvA hZ q
  · exact RoadKit.mv hZ q t
/-- the bytes of the chars cs, low before high -/
def wideBytes : List Int32 → List Value
  | [] => []
  | c :: cs => .int (lo8 c) :: .int (hi8 c) :: wideBytes cs
theorem wide_lo (d : Value) : ∀ (cs : List Int32) (j : Nat), j < cs.length → (wideBytes cs).getD (2 * j) d = .int (lo8 (cs.getD j 0))
  | [], j, h => absurd h (Nat.not_lt_zero j)
  | c :: cs, 0, _ => rfl
  | c :: cs, j + 1, h => by
    have q := wide_lo d cs j (by simpa using h)
    rw [show 2 * (j + 1) = 2 * j + 1 + 1 from by omega]
    simpa [wideBytes] using q
theorem wide_hi (d : Value) : ∀ (cs : List Int32) (j : Nat), j < cs.length → (wideBytes cs).getD (2 * j + 1) d = .int (hi8 (cs.getD j 0))
  | [], j, h => absurd h (Nat.not_lt_zero j)
  | c :: cs, 0, _ => rfl
  | c :: cs, j + 1, h => by
    have q := wide_hi d cs j (by simpa using h)
    rw [show 2 * (j + 1) + 1 = 2 * j + 1 + 1 + 1 from by omega]
    simpa [wideBytes] using q
theorem low_at (d : Value) (cs : List Int32) (j : Nat) (h : j < cs.length) : (cs.map fun c => Value.int (lo8 c)).getD j d = .int (lo8 (cs.getD j 0)) := by
  simp [List.getD_eq_getElem?_getD, h]
/-- an array of N2 bytes vs codes the chars cs by the coder cd -/
def CodA (cs : List Int32) (cd N2 : Int32) (vs : List Value) : Prop := (cd = 0 ∧ N2 = Int32.ofNat cs.length ∧ vs = (cs.map fun c => Value.int (lo8 c)) ∧ ∀ c ∈ cs, ¬ 255 < c) ∨ (cd = 1 ∧ N2 = Int32.ofNat (2 * cs.length) ∧ vs = wideBytes cs ∧ ∃ c ∈ cs, 255 < c)
theorem CodA.cod {cs : List Int32} {cd N2 : Int32} {vs : List Value} {V : Cell} (h : CodA cs cd N2 vs) (hn : 2 * cs.length < 2 ^ 31) (hs : V.slots.size = N2.toNatClampNeg) (hv : RoadKit.Has V vs (.int 0)) : Cod cd cs.length (fun j => cs.getD j 0) V := by
  rcases h with ⟨rfl, rfl, rfl, h⟩ | ⟨rfl, rfl, rfl, c, hc, hw⟩
  · rw [n32 (by omega)] at hs
    exact Or.inl ⟨rfl, hs, fun j hj => ⟨by rw [hv j (by omega), low_at _ _ _ hj], by
      have e : cs.getD j 0 = cs[j] := by simp [List.getD_eq_getElem?_getD, hj]
      show ¬ 255 < cs.getD j 0
      rw [e]; exact h _ (List.getElem_mem _)⟩⟩
  · rw [n32 (by omega)] at hs
    obtain ⟨j, hj, rfl⟩ := List.getElem_of_mem hc
    exact Or.inr ⟨rfl, hs, fun j hj => ⟨by rw [hv _ (by omega), wide_lo _ _ _ hj], by rw [hv _ (by omega), wide_hi _ _ _ hj]⟩, j, hj, by
      have e : cs.getD j 0 = cs[j] := by simp [List.getD_eq_getElem?_getD, hj]
      show 255 < cs.getD j 0
      rw [e]; exact hw⟩
/-- an object of exactly java/lang/String, its two fields found: as the laws ask it -/
theorem strObj {Z U : State} {a0 : Array Value} {kI : Nat} (wi : (Jvm.Cond.instantiable ST kI).before a0 Z = true) (al : Z.vm.Alike U.vm) {x : Addr} {v0 c0 : Value} (E : RoadKit.Exa Z U.heap x ST) (V : RoadKit.Fld Z U.heap x ST "value" "[B" v0) (C : RoadKit.Fld Z U.heap x ST "coder" "B" c0) :
    ∃ (D : Cell) (fV fC : Field), Blank ST x D U ∧ Found ST "value" "[B" fV U ∧ Found ST "coder" "B" fC U ∧ D.slots[fV.slot]? = some v0 ∧ D.slots[fC.slot]? = some c0 ∧ RoadKit.slotOf Z ST "value" "[B" = fV.slot ∧ RoadKit.slotOf Z ST "coder" "B" = fC.slot := by
  obtain ⟨D, cfV, kV, iV, fV, hD, gV, stV, knV, obV, asV, slV⟩ := V
  obtain ⟨D', cfC, kC, iC, fC, hD', gC, stC, -, -, asC, slC⟩ := C
  cases hD.symm.trans hD'
  obtain ⟨D2, kD, e1, e2, e3, e4, e5⟩ := E
  cases hD.symm.trans e1
  obtain ⟨c2, k2, i1, i2, i3, -⟩ := Cond.instantiable_spec wi
  cases e2.symm.trans i1
  cases e3.symm.trans i2
  obtain ⟨kU, u1, u2⟩ := al.2.2 _ _ e3
  exact ⟨D, fV, fC, ⟨hD, ⟨knV, fun q hq => by rw [hq] at obV; cases obV⟩, by rw [al.findClass]; exact e2, kU, u1, by rw [u2]; exact i3, by rw [u2]; exact e5 i3⟩, ⟨SBG.found_only al ⟨cfV, kV, iV, gV⟩, stV⟩, ⟨SBG.found_only al ⟨cfC, kC, iC, gC⟩, stC⟩, slV, slC, by simp [RoadKit.slotOf, gV], by simp [RoadKit.slotOf, gC]⟩
theorem sta_is {Z U : State} (al : Z.vm.Alike U.vm) {C n d : String} {v : Value} (S : RoadKit.Sta Z U.heap C n d v) : StaticIs U C n d v := by
  obtain ⟨cfS, iS, kS, fS, st, cS, t1, t2, t3, t4, t5, t6, t7⟩ := S
  exact StaticIs.there (s := { Z with heap := U.heap }) ⟨cfS, iS, kS, fS, st, cS, t1, t2, t3, t4, t5, (fun q => by rw [q] at t6; cases t6), t7⟩ al rfl
/-- **length() OF SUCH A STRING** -/
theorem lenW {p : Program} {l : Launch} {e : Env} {R : Room} {s : State} {args : Array Value} {below : List Frame} {len W : Nat} {Z : State} {a0 : Array Value} {h : Heap} (hZ : Z.Warmed39 s.vm) (hw : ∀ d ∈ wordsLen, d.before a0 Z = true) {kI : Nat} (wi : (Jvm.Cond.instantiable ST kI).before a0 Z = true)
    {x t : Addr} {kb : ClassId} {cs : List Int32} {cd N2 z : Int32} {vs : List Value} (E : RoadKit.Exa Z h x ST) (V : RoadKit.Fld Z h x ST "value" "[B" (.ref t)) (C : RoadKit.Fld Z h x ST "coder" "B" (.int cd)) (K : RoadKit.Arv Z h t kb .byte N2 vs (.int 0)) (hc : CodA cs cd N2 vs) (hb : ∀ c ∈ cs, ¬ c < 0 ∧ ¬ (65535 : Int32) < c)
    (S : RoadKit.Sta Z h ST "COMPACT_STRINGS" "Z" (.int z)) (hz : ¬ z = 0) (l2 : cs.length ≤ 4000) (hfr : 2 ≤ R.frames) (hlo : W + 25 ≤ R.locals) :
    Back l R p e below s args (⟨"java/lang/String", "length", "()I"⟩ : MethodName) len W (fun P a => a = #[.ref x] ∧ P.U.heap = h ∧ P.cells + 0 ≤ R.cells ∧ P.slots + 0 ≤ R.slots)
      (fun P _ v B => ∃ L, (v = some (.int (Int32.ofNat cs.length)) ∧ L = [] ∧ B.U.heap = h) ∧ B.locs = P.locs ++ L ∧ B.cells = P.cells + 0 ∧ B.slots = P.slots + 0) := by
  obtain ⟨A, K1, K2, K3, K4, K5, K6⟩ := K
  have hcod := hc.cod (by omega) K3 K5
  intro m meth c P g ig mk a X hg hsize hdg hW hn hp'
  obtain ⟨rfl, rfl, r1, r2⟩ := hp'
  have al : Z.vm.Alike P.U.vm := hZ.alike.trans X.warmed.alike
  obtain ⟨D, fV, fC, hB, F1, F2, g1, g2, -, -⟩ := strObj wi al E V C
  have hx : Txt x t A cd cs.length (fun j => cs.getD j 0) P.U := ⟨⟨_, hB.2.2.1, D, hB.1, rfl, by cases q : D.vm <;> first | rfl | exact absurd q (hB.2.1.2 _)⟩, Has.of hB F1 g1, Has.of hB F2 g2, ⟨K1.1, State.isArrayOf_alike al K1.2.1, K1.2.2, by rcases hcod with ⟨-, q, -⟩ | ⟨-, q, -⟩ <;> omega⟩, hcod, fun j hj => by
    have e : cs.getD j 0 = cs[j] := by simp [List.getD_eq_getElem?_getD, hj]
    show ¬ cs.getD j 0 < 0 ∧ ¬ 65535 < cs.getD j 0
    rw [e]; exact hb _ (List.getElem_mem _)⟩
  obtain ⟨v, B, X', ⟨⟨hv, hh⟩, hl, hk, hs⟩, st⟩ := Len.pays x t A cd cs.length (fun j => cs.getD j 0) z (tabLen_of (movedLen hZ hw)) hfr hlo m meth c P g ig mk _ X hg hsize hdg hW hn ⟨r1, r2, rfl, hx, sta_is al S, hz⟩
  exact ⟨v, B, X', ⟨[], ⟨hv, rfl, hh⟩, hl, hk, hs⟩, st⟩
end StrChars.Road
namespace StrChars
open Jvm Sem ClassFile Op Lib Jvm.Stand Jvm.Free.XT Jvm.Free.ALB Jvm.Free.JM Jvm.Free
open Jvm.Lib.Cold (StaticIs)
/-- what place i of a byte[]'s cell holds -/
def yv (A : Cell) (i : Nat) : Int32 := match A.slots[i]? with | some (.int x) => x | _ => 0
theorem yv_get {a : Addr} {A : Cell} {U : State} (h : XT.Arr .byte a A U) (ht : Typed .byte A) {i : Nat} (hi : i < A.slots.size) : A.slots[i]? = some (.int (yv A i)) := by
  have e := Array.getElem?_eq_getElem hi
  have f := ht i _ e
  unfold yv; rw [e]
  generalize A.slots[i] = v at f
  cases v <;> simp [fits] at f ⊢
/-- the two arrays are equal, place for place -/
def EqC (A B : Cell) : Prop := A.slots.size = B.slots.size ∧ ∀ i, i < A.slots.size → yv A i = yv B i
/-- a boolean that says whether p -/
def Says01 (q : Prop) (r : Option Value) (s u : State) : Prop := ∃ v : Int32, r = some (.int v) ∧ u.heap = s.heap ∧ ((v = 1 ∧ q) ∨ (v = 0 ∧ ¬ q))
theorem Says01.mv {q : Prop} : ∀ r (U U' V V' : State), U'.heap = U.heap → V.vm.Alike V'.vm → V'.heap = V.heap → Says01 q r U V → Says01 q r U' V' :=
  fun r U U' V V' h1 _ h2 ⟨v, a, b, c⟩ => ⟨v, a, by rw [h1, h2]; exact b, c⟩
namespace LEq
def yN : MethodName := ⟨"java/lang/StringLatin1", "equals", "([B[B)Z"⟩
abbrev yB : ByteArray := jdk_43_method_13_code
theorem d0 : decode yB 0 = .ok (.aload_n 0, 1) := by decide +kernel
theorem d1 : decode yB 1 = .ok (.arraylength, 1) := by decide +kernel
theorem d2 : decode yB 2 = .ok (.aload_n 1, 1) := by decide +kernel
theorem d3 : decode yB 3 = .ok (.arraylength, 1) := by decide +kernel
theorem d4 : decode yB 4 = .ok (.if_icmp (.ne) 30, 3) := by decide +kernel
theorem d7 : decode yB 7 = .ok (.iconst 0, 1) := by decide +kernel
theorem d8 : decode yB 8 = .ok (.istore_n 2, 1) := by decide +kernel
theorem d9 : decode yB 9 = .ok (.iload_n 2, 1) := by decide +kernel
theorem d10 : decode yB 10 = .ok (.aload_n 0, 1) := by decide +kernel
theorem d11 : decode yB 11 = .ok (.arraylength, 1) := by decide +kernel
theorem d12 : decode yB 12 = .ok (.if_icmp (.ge) 20, 3) := by decide +kernel
theorem d15 : decode yB 15 = .ok (.aload_n 0, 1) := by decide +kernel
theorem d16 : decode yB 16 = .ok (.iload_n 2, 1) := by decide +kernel
theorem d17 : decode yB 17 = .ok (.baload, 1) := by decide +kernel
theorem d18 : decode yB 18 = .ok (.aload_n 1, 1) := by decide +kernel
theorem d19 : decode yB 19 = .ok (.iload_n 2, 1) := by decide +kernel
theorem d20 : decode yB 20 = .ok (.baload, 1) := by decide +kernel
theorem d21 : decode yB 21 = .ok (.if_icmp (.eq) 5, 3) := by decide +kernel
theorem d24 : decode yB 24 = .ok (.iconst 0, 1) := by decide +kernel
theorem d25 : decode yB 25 = .ok (.ireturn, 1) := by decide +kernel
theorem d26 : decode yB 26 = .ok (.iinc 2 1, 3) := by decide +kernel
theorem d29 : decode yB 29 = .ok (.goto (-20), 3) := by decide +kernel
theorem d32 : decode yB 32 = .ok (.iconst 1, 1) := by decide +kernel
theorem d33 : decode yB 33 = .ok (.ireturn, 1) := by decide +kernel
theorem d34 : decode yB 34 = .ok (.iconst 0, 1) := by decide +kernel
theorem d35 : decode yB 35 = .ok (.ireturn, 1) := by decide +kernel
def site : List Cond := []
def tab : Cond := tabOf yN yB 3 (some .boolean) site
def P (a : Addr) (A : Cell) (b : Addr) (B : Cell) (args : Array Value) (s : State) : Prop := args = #[.ref a, .ref b] ∧ XT.Arr .byte a A s ∧ Typed .byte A ∧ XT.Arr .byte b B s ∧ Typed .byte B
/-- whether two byte[] are equal, place for place -/
theorem law (l : Launch) (a : Addr) (A : Cell) (b : Addr) (B : Cell) : Law l yN 2 2 0 0 yB 3 (some .boolean) site (P a A b B) (Says01 (EqC A B)) [] 0 0 := by
  refine Law.of_walk (plainFor_of_name (by decide +kernel)) (by decide +kernel) (by decide +kernel) (by decide) (fun _ _ h => by rw [h.1]; rfl) (fun _ U U' hal hh h => ⟨h.1, h.2.1.mv hal hh, h.2.2.1, h.2.2.2.1.mv hal hh, h.2.2.2.2⟩) (fun r U U' V V' h1 hal h2 h => Says01.mv r U U' V V' h1 hal h2 h) ?_
  intro p e s m args below meth c s₁ X0 hexec hbytes hml hret hlk hnm hown hh0 W hP
  obtain ⟨rfl, hA, tA, hB, tB⟩ := hP
  have a31 := hA.2.2.2
  have b31 := hB.2.2.2
  have hA0 := hA.mv X0.warmed.alike hh0
  have hB0 := hB.mv X0.warmed.alike hh0
  have c1 : Steps p.tables e below (s₁.setTop (entryFrame m #[.ref a, .ref b] 3)) (s₁.setTop (mkF m 0 #[.val (.ref a), .val (.ref b), .unset] [])) := entry rfl
  have c2 : Steps p.tables e below (s₁.setTop (entryFrame m #[.ref a, .ref b] 3)) (s₁.setTop (mkF m 4 #[.val (.ref a), .val (.ref b), .unset] [.int (Int32.ofNat B.slots.size), .int (Int32.ofNat A.slots.size)])) := c1.trans (by
    refine XS.aloadN X0.here hexec rfl (hb hbytes d0) rfl rfl ?_
    refine X0.alen hexec hA0 rfl rfl (hb hbytes d1) ?_
    refine XS.aloadN X0.here hexec rfl (hb hbytes d2) rfl rfl ?_
    refine X0.alen hexec hB0 rfl rfl (hb hbytes d3) ?_
    exact Steps.refl _)
  by_cases hs : A.slots.size = B.slots.size
  · have c3 : Steps p.tables e below (s₁.setTop (entryFrame m #[.ref a, .ref b] 3)) (s₁.setTop (mkF m 9 #[.val (.ref a), .val (.ref b), .val (.int 0)] [])) := c2.trans (by
      refine XS.icmpNo X0.here hexec rfl (hb hbytes d4) rfl (ii_ne_f (by rw [hs])) ?_
      refine iconstV X0.here hexec rfl 0 (hb hbytes d7) (by decide) ?_
      refine XS.istoreN X0.here hexec rfl (hb hbytes d8) rfl rfl ?_
      exact Steps.refl _)
    have loop : ∀ (r i : Nat), i + r = A.slots.size → (∀ j, j < i → yv A j = yv B j) → Steps p.tables e below (s₁.setTop (entryFrame m #[.ref a, .ref b] 3)) (s₁.setTop (mkF m 9 #[.val (.ref a), .val (.ref b), .val (.int (Int32.ofNat i))] [])) → ∃ (pc : Nat) (Ls : Array Slot) (v : Int32), (pc = 25 ∨ pc = 33) ∧ ((v = 1 ∧ EqC A B) ∨ (v = 0 ∧ ¬ EqC A B)) ∧ Steps p.tables e below (s₁.setTop (entryFrame m #[.ref a, .ref b] 3)) (s₁.setTop (mkF m pc Ls [.int v])) := by
      intro r
      induction r with
      | zero =>
        intro i hi he cl
        exact ⟨33, _, 1, Or.inr rfl, Or.inl ⟨rfl, hs, fun j hj => he j (by omega)⟩, cl.trans (by
          refine XS.iloadN X0.here hexec rfl (hb hbytes d9) rfl ?_
          refine XS.aloadN X0.here hexec rfl (hb hbytes d10) rfl rfl ?_
          refine X0.alen hexec hA0 rfl rfl (hb hbytes d11) ?_
          refine XS.icmpYes X0.here hexec rfl (pc0 := 12) rfl (hb hbytes d12) rfl (ii_ge_t (nlt32 (by omega) (by omega))) (by decide) rfl ?_
          refine iconstV X0.here hexec rfl 1 (hb hbytes d32) (by decide) ?_
          exact Steps.refl _)⟩
      | succ r ih =>
        intro i hi he cl
        have c4 : Steps p.tables e below (s₁.setTop (entryFrame m #[.ref a, .ref b] 3)) (s₁.setTop (mkF m 21 #[.val (.ref a), .val (.ref b), .val (.int (Int32.ofNat i))] [.int (yv B i), .int (yv A i)])) := cl.trans (by
          refine XS.iloadN X0.here hexec rfl (hb hbytes d9) rfl ?_
          refine XS.aloadN X0.here hexec rfl (hb hbytes d10) rfl rfl ?_
          refine X0.alen hexec hA0 rfl rfl (hb hbytes d11) ?_
          refine XS.icmpNo X0.here hexec rfl (hb hbytes d12) rfl (ii_ge_f (lt32 (by omega) (by omega))) ?_
          refine XS.aloadN X0.here hexec rfl (hb hbytes d15) rfl rfl ?_
          refine XS.iloadN X0.here hexec rfl (hb hbytes d16) rfl ?_
          refine X0.aget hexec hA0 rfl (yv_get hA tA (i := i) (by omega)) rfl rfl (hb hbytes d17) ?_
          refine XS.aloadN X0.here hexec rfl (hb hbytes d18) rfl rfl ?_
          refine XS.iloadN X0.here hexec rfl (hb hbytes d19) rfl ?_
          refine X0.aget hexec hB0 rfl (yv_get hB tB (i := i) (by omega)) rfl rfl (hb hbytes d20) ?_
          exact Steps.refl _)
        by_cases hv : yv A i = yv B i
        · have c5 : Steps p.tables e below (s₁.setTop (entryFrame m #[.ref a, .ref b] 3)) (s₁.setTop (mkF m 9 #[.val (.ref a), .val (.ref b), .val (.int (Int32.ofNat i + 1))] [])) := c4.trans (by
            refine XS.icmpYes X0.here hexec rfl (pc0 := 21) rfl (hb hbytes d21) rfl (ii_eq_t hv) (by decide) rfl ?_
            refine iincV X0.here hexec rfl 1 (hb hbytes d26) (by decide) rfl rfl ?_
            refine XS.goto X0.here hexec rfl (pc0 := 29) rfl (hb hbytes d29) (by decide) rfl ?_
            exact Steps.refl _)
          rw [succ32] at c5
          exact ih (i + 1) (by omega) (fun j hj => by
            by_cases e : j = i
            · rw [e]; exact hv
            · exact he j (by omega)) c5
        · exact ⟨25, _, 0, Or.inl rfl, Or.inr ⟨rfl, fun q => hv (q.2 i (by omega))⟩, c4.trans (by
            refine XS.icmpNo X0.here hexec rfl (hb hbytes d21) rfl (ii_eq_f hv) ?_
            refine iconstV X0.here hexec rfl 0 (hb hbytes d24) (by decide) ?_
            exact Steps.refl _)⟩
    obtain ⟨pc, Ls, v, hpc, hv, cz⟩ := loop A.slots.size 0 (by omega) (fun j hj => absurd hj (Nat.not_lt_zero j)) c3
    have nv : narrow .boolean (.int v) = .int v := by rcases hv with ⟨rfl, -⟩ | ⟨rfl, -⟩ <;> rfl
    rcases hpc with rfl | rfl
    · exact ⟨s₁, some (.int v), _, _, _, X0, rfl, rfl, rfl, (fun h => by cases h), ⟨v, rfl, hh0, hv⟩, fun fs hl => cz.trans (X0.ireturnOut hexec hret nv (Or.inr (Or.inl rfl)) (hb hbytes d25) hl)⟩
    · exact ⟨s₁, some (.int v), _, _, _, X0, rfl, rfl, rfl, (fun h => by cases h), ⟨v, rfl, hh0, hv⟩, fun fs hl => cz.trans (X0.ireturnOut hexec hret nv (Or.inr (Or.inl rfl)) (hb hbytes d33) hl)⟩
  · have c3 : Steps p.tables e below (s₁.setTop (entryFrame m #[.ref a, .ref b] 3)) (s₁.setTop (mkF m 35 #[.val (.ref a), .val (.ref b), .unset] [.int 0])) := c2.trans (by
      refine XS.icmpYes X0.here hexec rfl (pc0 := 4) rfl (hb hbytes d4) rfl (ii_ne_t (ne32 a31 b31 hs)) (by decide) rfl ?_
      refine iconstV X0.here hexec rfl 0 (hb hbytes d34) (by decide) ?_
      exact Steps.refl _)
    exact ⟨s₁, some (.int 0), _, _, _, X0, rfl, rfl, rfl, (fun h => by cases h), ⟨0, rfl, hh0, Or.inr ⟨rfl, fun q => hs q.1⟩⟩, fun fs hl => c3.trans (X0.ireturnOut hexec hret rfl (Or.inr (Or.inl rfl)) (hb hbytes d35) hl)⟩
end LEq
theorem Cod.ty {cd : Int32} {n : Nat} {f : Nat → Int32} {V : Cell} (h : Cod cd n f V) : Typed .byte V := fun i v hv => by
  have hi : i < V.slots.size := (Array.getElem?_eq_some_iff.mp hv).1
  rcases h with ⟨-, k1, k2⟩ | ⟨-, k1, k2, -⟩
  · rw [(k2 i (by omega)).1] at hv; cases hv; exact fits_lo8 _
  · rcases Nat.mod_two_eq_zero_or_one i with e | e
    · obtain ⟨j, rfl⟩ : ∃ j, i = 2 * j := ⟨i / 2, by omega⟩
      rw [(k2 j (by omega)).1] at hv; cases hv; exact fits_lo8 _
    · obtain ⟨j, rfl⟩ : ∃ j, i = 2 * j + 1 := ⟨i / 2, by omega⟩
      rw [(k2 j (by omega)).2] at hv; cases hv; exact fits_lo8 _
/-- the same text -/
def SameT (n : Nat) (f : Nat → Int32) (k : Nat) (g : Nat → Int32) : Prop := n = k ∧ ∀ j, j < n → f j = g j
theorem lo8_inj {x y : Int32} (h0 : ¬ x < 0) (h1 : ¬ 255 < x) (k0 : ¬ y < 0) (k1 : ¬ 255 < y) (h : lo8 x = lo8 y) : x = y := by
  rw [← lo8_mask h0 h1, ← lo8_mask k0 k1, h]
/-- arrays coded by one coder are equal just where the texts are -/
theorem Cod.eqv {cd : Int32} {n k : Nat} {f g : Nat → Int32} {V V' : Cell} (h : Cod cd n f V) (h' : Cod cd k g V') (hf : ∀ j, j < n → ¬ f j < 0 ∧ ¬ 65535 < f j) (hg : ∀ j, j < k → ¬ g j < 0 ∧ ¬ 65535 < g j) : EqC V V' ↔ SameT n f k g := by
  have yvv : ∀ {W : Cell} {i : Nat} {x : Int32}, W.slots[i]? = some (.int x) → yv W i = x := fun q => by unfold yv; rw [q]
  rcases h with ⟨rfl, k1, k2⟩ | ⟨rfl, k1, k2, -⟩
  · rcases h' with ⟨-, m1, m2⟩ | ⟨e, -⟩
    · constructor
      · rintro ⟨e1, e2⟩
        refine ⟨by omega, fun j hj => ?_⟩
        have q := e2 j (by omega)
        rw [yvv (k2 j hj).1, yvv (m2 j (by omega)).1] at q
        exact lo8_inj (hf j hj).1 (k2 j hj).2 (hg j (by omega)).1 (m2 j (by omega)).2 q
      · rintro ⟨rfl, e2⟩
        refine ⟨by omega, fun j hj => ?_⟩
        rw [yvv (k2 j (by omega)).1, yvv (m2 j (by omega)).1, e2 j (by omega)]
    · exact absurd e (by decide)
  · rcases h' with ⟨e, -⟩ | ⟨-, m1, m2, -⟩
    · exact absurd e (by decide)
    · constructor
      · rintro ⟨e1, e2⟩
        refine ⟨by omega, fun j hj => ?_⟩
        have q1 := e2 (2 * j) (by omega)
        have q2 := e2 (2 * j + 1) (by omega)
        rw [yvv (k2 j hj).1, yvv (m2 j (by omega)).1] at q1
        rw [yvv (k2 j hj).2, yvv (m2 j (by omega)).2] at q2
        rw [← pair_says (hf j hj).1 (hf j hj).2, ← pair_says (hg j (by omega)).1 (hg j (by omega)).2, q1, q2]
      · rintro ⟨rfl, e2⟩
        refine ⟨by omega, fun i hi => ?_⟩
        rcases Nat.mod_two_eq_zero_or_one i with e | e
        · obtain ⟨j, rfl⟩ : ∃ j, i = 2 * j := ⟨i / 2, by omega⟩
          rw [yvv (k2 j (by omega)).1, yvv (m2 j (by omega)).1, e2 j (by omega)]
        · obtain ⟨j, rfl⟩ : ∃ j, i = 2 * j + 1 := ⟨i / 2, by omega⟩
          rw [yvv (k2 j (by omega)).2, yvv (m2 j (by omega)).2, e2 j (by omega)]
/-- two codings differ: so do the texts -/
theorem Cod.dif {cd cd' : Int32} {n k : Nat} {f g : Nat → Int32} {V V' : Cell} (h : Cod cd n f V) (h' : Cod cd' k g V') (hne : ¬ cd = cd') : ¬ SameT n f k g := by
  rintro ⟨rfl, e⟩
  rcases h with ⟨rfl, -, k2⟩ | ⟨rfl, -, -, j, hj, hw⟩
  · rcases h' with ⟨rfl, -⟩ | ⟨-, -, -, j, hj, hw⟩
    · exact hne rfl
    · exact (k2 j hj).2 (by rw [e j hj]; exact hw)
  · rcases h' with ⟨-, -, m2⟩ | ⟨rfl, -⟩
    · exact (m2 j hj).2 (by rw [← e j hj]; exact hw)
    · exact hne rfl
/-- an object of exactly C is an instance of C -/
theorem cinst {p : Program} {l : Launch} {e : Env} {R : Room} {s : State} {m : MethodId} {args : Array Value} {below : List Frame} {meth : Method} {c : Code} {T : State} {locs : List Loc} {cells slots : Nat} (X : Stand p l e R s m args below meth c T locs cells slots) (hexec : p.tables.exec = Jvm.exec) {own C : String} {index : Nat} (hown : s.vm.findClass own = some m.cls) (hlink : (Cond.classLink own index C).before args s = true) {a : Addr} (hE : Exact C a T)
    {g : JFrame} (hg : g.method = m) {rest : List Value} (hstack : g.stack = .ref a :: rest) (hdg : decode c.code g.pc = .ok (.instanceof index, 3)) :
    ∃ T', Stand p l e R s m args below meth c T' locs cells slots ∧ T'.heap = T.heap ∧ ∀ target, Steps p.tables e below (T'.setTop { g with pc := g.pc + 3, stack := .int 1 :: rest }) target → Steps p.tables e below (T.setTop g) target := by
  obtain ⟨cB, h1, D, h2, h3, h4⟩ := hE
  have h1' : s.vm.findClass C = some cB := by rw [← X.warmed.alike.findClass]; exact h1
  obtain ⟨vm', X', st⟩ := X.instanceofYes hexec hown hlink h2 h4 h1' (by rw [h3]; exact Jvm.Free.SB.assignable_self _ _) hg hstack hdg
  exact ⟨_, X', rfl, st⟩
theorem cself {p : Program} {l : Launch} {e : Env} {R : Room} {s : State} {m : MethodId} {args : Array Value} {below : List Frame} {meth : Method} {c : Code} {T : State} {locs : List Loc} {cells slots : Nat} (X : Stand p l e R s m args below meth c T locs cells slots) (hexec : p.tables.exec = Jvm.exec) {own C : String} {index : Nat} (hown : s.vm.findClass own = some m.cls) (hlink : (Cond.classLink own index C).before args s = true) {a : Addr} (hE : Exact C a T)
    {g : JFrame} (hg : g.method = m) {rest : List Value} (hstack : g.stack = .ref a :: rest) (hdg : decode c.code g.pc = .ok (.checkcast index, 3)) :
    ∃ T', Stand p l e R s m args below meth c T' locs cells slots ∧ T'.heap = T.heap ∧ ∀ target, Steps p.tables e below (T'.setTop { g with pc := g.pc + 3, stack := .ref a :: rest }) target → Steps p.tables e below (T.setTop g) target := by
  obtain ⟨cB, h1, D, h2, h3, h4⟩ := hE
  have h1' : s.vm.findClass C = some cB := by rw [← X.warmed.alike.findClass]; exact h1
  obtain ⟨vm', X', st⟩ := X.checkcastYes hexec hown hlink h2 h4 h1' (by rw [h3]; exact Jvm.Free.SB.assignable_self _ _) hg hstack hdg
  exact ⟨_, X', rfl, fun t h => st t (by rw [← hstack] at h; exact h)⟩
namespace SEq
def yN : MethodName := ⟨"java/lang/String", "equals", "(Ljava/lang/Object;)Z"⟩
abbrev yB : ByteArray := jdk_42_method_66_code
theorem d0 : decode yB 0 = .ok (.aload_n 0, 1) := by decide +kernel
theorem d1 : decode yB 1 = .ok (.aload_n 1, 1) := by decide +kernel
theorem d2 : decode yB 2 = .ok (.if_acmp (.ne) 5, 3) := by decide +kernel
theorem d5 : decode yB 5 = .ok (.iconst 1, 1) := by decide +kernel
theorem d6 : decode yB 6 = .ok (.ireturn, 1) := by decide +kernel
theorem d7 : decode yB 7 = .ok (.aload_n 1, 1) := by decide +kernel
theorem d8 : decode yB 8 = .ok (.instanceof 10, 3) := by decide +kernel
theorem d11 : decode yB 11 = .ok (.ifCond (.eq) 43, 3) := by decide +kernel
theorem d14 : decode yB 14 = .ok (.aload_n 1, 1) := by decide +kernel
theorem d15 : decode yB 15 = .ok (.checkcast 10, 3) := by decide +kernel
theorem d18 : decode yB 18 = .ok (.astore_n 2, 1) := by decide +kernel
theorem d19 : decode yB 19 = .ok (.getstatic 38, 3) := by decide +kernel
theorem d22 : decode yB 22 = .ok (.ifCond (.eq) 14, 3) := by decide +kernel
theorem d25 : decode yB 25 = .ok (.aload_n 0, 1) := by decide +kernel
theorem d26 : decode yB 26 = .ok (.getfield 15, 3) := by decide +kernel
theorem d29 : decode yB 29 = .ok (.aload_n 2, 1) := by decide +kernel
theorem d30 : decode yB 30 = .ok (.getfield 15, 3) := by decide +kernel
theorem d33 : decode yB 33 = .ok (.if_icmp (.ne) 21, 3) := by decide +kernel
theorem d36 : decode yB 36 = .ok (.aload_n 0, 1) := by decide +kernel
theorem d37 : decode yB 37 = .ok (.getfield 9, 3) := by decide +kernel
theorem d40 : decode yB 40 = .ok (.aload_n 2, 1) := by decide +kernel
theorem d41 : decode yB 41 = .ok (.getfield 9, 3) := by decide +kernel
theorem d44 : decode yB 44 = .ok (.invokestatic 541, 3) := by decide +kernel
theorem d47 : decode yB 47 = .ok (.ifCond (.eq) 7, 3) := by decide +kernel
theorem d50 : decode yB 50 = .ok (.iconst 1, 1) := by decide +kernel
theorem d51 : decode yB 51 = .ok (.goto 4, 3) := by decide +kernel
theorem d54 : decode yB 54 = .ok (.iconst 0, 1) := by decide +kernel
theorem d55 : decode yB 55 = .ok (.ireturn, 1) := by decide +kernel
def site : List Cond := [.classLink "java/lang/String" 10 "java/lang/String", .fieldLink "java/lang/String" 38 "java/lang/String" "COMPACT_STRINGS" "Z", .fieldLink "java/lang/String" 15 "java/lang/String" "coder" "B", .fieldLink "java/lang/String" 9 "java/lang/String" "value" "[B", LEq.tab] ++ staticW "java/lang/String" 541 LEq.yN
def tab : Cond := tabOf yN yB 3 (some .boolean) site
def P (x t : Addr) (V : Cell) (cd : Int32) (n : Nat) (f : Nat → Int32) (y t' : Addr) (V' : Cell) (cd' : Int32) (k : Nat) (g : Nat → Int32) (z : Int32) (args : Array Value) (s : State) : Prop := args = #[.ref x, .ref y] ∧ Txt x t V cd n f s ∧ Txt y t' V' cd' k g s ∧ StaticIs s "java/lang/String" "COMPACT_STRINGS" "Z" (.int z) ∧ ¬ z = 0
/-- equals(Object) of two Strings: whether the texts are the same -/
theorem law (l : Launch) (x t : Addr) (V : Cell) (cd : Int32) (n : Nat) (f : Nat → Int32) (y t' : Addr) (V' : Cell) (cd' : Int32) (k : Nat) (g : Nat → Int32) (z : Int32) : Law l yN 2 1 1 14 yB 3 (some .boolean) site (P x t V cd n f y t' V' cd' k g z) (Says01 (SameT n f k g)) [] 0 0 := by
  refine Law.of_walk (plainFor_of_name (by decide +kernel)) (by decide +kernel) (by decide +kernel) (by decide) (fun _ _ h => by rw [h.1]; rfl) (fun _ U U' hal hh h => ⟨h.1, h.2.1.mv hal hh, h.2.2.1.mv hal hh, h.2.2.2.1.there hal hh, h.2.2.2.2⟩) (fun r U U' V V' h1 hal h2 h => Says01.mv r U U' V V' h1 hal h2 h) ?_
  intro p e s m args below meth c s₁ X0 hexec hbytes hml hret hlk hnm hown hh0 W hP
  obtain ⟨rfl, hx, hy, s1, hz⟩ := hP
  have c1 : Steps p.tables e below (s₁.setTop (entryFrame m #[.ref x, .ref y] 3)) (s₁.setTop (mkF m 2 #[.val (.ref x), .val (.ref y), .unset] [.ref y, .ref x])) := Steps.trans (entry rfl) (by
    show Steps p.tables e below (s₁.setTop (mkF m 0 #[.val (.ref x), .val (.ref y), .unset] [])) _
    refine XS.aloadN X0.here hexec rfl (hb hbytes d0) rfl rfl ?_
    refine XS.aloadN X0.here hexec rfl (hb hbytes d1) rfl rfl ?_
    exact Steps.refl _)
  by_cases hxy : x = y
  · have c2 : Steps p.tables e below (s₁.setTop (entryFrame m #[.ref x, .ref y] 3)) (s₁.setTop (mkF m 6 #[.val (.ref x), .val (.ref y), .unset] [.int 1])) := c1.trans (by
      refine acmpNo X0.here hexec rfl (hb hbytes d2) rfl rfl rfl (by simp [acmp, hxy]) ?_
      refine iconstV X0.here hexec rfl 1 (hb hbytes d5) (by decide) ?_
      exact Steps.refl _)
    subst hxy
    have ec : cd = cd' := by
      obtain ⟨D, fd, a1, a2, a3⟩ := hx.2.2.1
      obtain ⟨D', fd', b1, b2, b3⟩ := hy.2.2.1
      cases a1.symm.trans b1
      obtain ⟨q1, q2, q3, q4⟩ := a2.1
      obtain ⟨r1, r2, r3, r4⟩ := b2.1
      cases q4.symm.trans r4
      cases a3.symm.trans b3; rfl
    have et : t = t' := by
      obtain ⟨D, fd, a1, a2, a3⟩ := hx.2.1
      obtain ⟨D', fd', b1, b2, b3⟩ := hy.2.1
      cases a1.symm.trans b1
      obtain ⟨q1, q2, q3, q4⟩ := a2.1
      obtain ⟨r1, r2, r3, r4⟩ := b2.1
      cases q4.symm.trans r4
      cases a3.symm.trans b3; rfl
    subst ec et
    have ev : V = V' := by cases hx.2.2.2.1.1.symm.trans hy.2.2.2.1.1; rfl
    subst ev
    have hs : SameT n f k g := (Cod.eqv hx.2.2.2.2.1 hy.2.2.2.2.1 hx.2.2.2.2.2 hy.2.2.2.2.2).mp ⟨rfl, fun _ _ => rfl⟩
    exact ⟨s₁, some (.int 1), _, _, _, X0, rfl, rfl, rfl, (fun h => by cases h), ⟨1, rfl, hh0, Or.inl ⟨rfl, hs⟩⟩, fun fs hl => c2.trans (X0.ireturnOut hexec hret rfl (Or.inr (Or.inl rfl)) (hb hbytes d6) hl)⟩
  · have c2 : Steps p.tables e below (s₁.setTop (entryFrame m #[.ref x, .ref y] 3)) (s₁.setTop (mkF m 8 #[.val (.ref x), .val (.ref y), .unset] [.ref y])) := c1.trans (by
      refine acmpYes X0.here hexec rfl (pc0 := 2) rfl (hb hbytes d2) rfl rfl rfl (by simp [acmp, hxy]) (by decide) rfl ?_
      refine XS.aloadN X0.here hexec rfl (hb hbytes d7) rfl rfl ?_
      exact Steps.refl _)
    obtain ⟨T3, X3, q3, st3⟩ := cinst X0 hexec hown (wk W (.classLink "java/lang/String" 10 "java/lang/String")) (hy.mv X0.warmed.alike hh0).1 (g := (mkF m 8 #[.val (.ref x), .val (.ref y), .unset] [.ref y])) rfl (rest := []) rfl (hb hbytes d8)
    have hh3 := q3.trans hh0
    have c4 : Steps p.tables e below (s₁.setTop (entryFrame m #[.ref x, .ref y] 3)) (T3.setTop (mkF m 15 #[.val (.ref x), .val (.ref y), .unset] [.ref y])) := (c2.trans (st3 _ (Steps.refl _))).trans (by
      refine XS.ifNo X3.here hexec rfl (hb hbytes d11) rfl (i0_eq_f (by decide)) ?_
      refine XS.aloadN X3.here hexec rfl (hb hbytes d14) rfl rfl ?_
      exact Steps.refl _)
    obtain ⟨T5, X5, q5, st5⟩ := cself X3 hexec hown (wk W (.classLink "java/lang/String" 10 "java/lang/String")) (hy.mv X3.warmed.alike hh3).1 (g := (mkF m 15 #[.val (.ref x), .val (.ref y), .unset] [.ref y])) rfl (rest := []) rfl (hb hbytes d15)
    have hh5 := q5.trans hh3
    have c6 : Steps p.tables e below (s₁.setTop (entryFrame m #[.ref x, .ref y] 3)) (T5.setTop (mkF m 19 #[.val (.ref x), .val (.ref y), .val (.ref y)] [])) := (c4.trans (st5 _ (Steps.refl _))).trans (by
      refine XS.astoreN X5.here hexec rfl (hb hbytes d18) rfl rfl rfl ?_
      exact Steps.refl _)
    obtain ⟨T7, X7, q7, st7⟩ := X5.sget hexec hown (wk W (.fieldLink "java/lang/String" 38 "java/lang/String" "COMPACT_STRINGS" "Z")) s1 (fun _ _ h => by rw [hh5]; exact h) (g := (mkF m 19 #[.val (.ref x), .val (.ref y), .val (.ref y)] [])) rfl (hb hbytes d19)
    have hh7 := q7.trans hh5
    have c8 : Steps p.tables e below (s₁.setTop (entryFrame m #[.ref x, .ref y] 3)) (T7.setTop (mkF m 26 #[.val (.ref x), .val (.ref y), .val (.ref y)] [.ref x])) := (c6.trans (st7 _ (Steps.refl _))).trans (by
      refine XS.ifNo X7.here hexec rfl (hb hbytes d22) rfl (i0_eq_f hz) ?_
      refine XS.aloadN X7.here hexec rfl (hb hbytes d25) rfl rfl ?_
      exact Steps.refl _)
    obtain ⟨T9, X9, q9, st9⟩ := X7.hget hexec hown (wk W (.fieldLink "java/lang/String" 15 "java/lang/String" "coder" "B")) (hx.mv X7.warmed.alike hh7).2.2.1 (g := (mkF m 26 #[.val (.ref x), .val (.ref y), .val (.ref y)] [.ref x])) rfl (rest := []) rfl (hb hbytes d26)
    have hh9 := q9.trans hh7
    have c10 : Steps p.tables e below (s₁.setTop (entryFrame m #[.ref x, .ref y] 3)) (T9.setTop (mkF m 30 #[.val (.ref x), .val (.ref y), .val (.ref y)] [.ref y, .int cd])) := (c8.trans (st9 _ (Steps.refl _))).trans (by
      refine XS.aloadN X9.here hexec rfl (hb hbytes d29) rfl rfl ?_
      exact Steps.refl _)
    obtain ⟨T11, X11, q11, st11⟩ := X9.hget hexec hown (wk W (.fieldLink "java/lang/String" 15 "java/lang/String" "coder" "B")) (hy.mv X9.warmed.alike hh9).2.2.1 (g := (mkF m 30 #[.val (.ref x), .val (.ref y), .val (.ref y)] [.ref y, .int cd])) rfl (rest := [.int cd]) rfl (hb hbytes d30)
    have hh11 := q11.trans hh9
    have c12 : Steps p.tables e below (s₁.setTop (entryFrame m #[.ref x, .ref y] 3)) (T11.setTop (mkF m 33 #[.val (.ref x), .val (.ref y), .val (.ref y)] [.int cd', .int cd])) := c10.trans (st11 _ (Steps.refl _))
    by_cases hcd : cd = cd'
    · subst hcd
      have c13 : Steps p.tables e below (s₁.setTop (entryFrame m #[.ref x, .ref y] 3)) (T11.setTop (mkF m 37 #[.val (.ref x), .val (.ref y), .val (.ref y)] [.ref x])) := c12.trans (by
        refine XS.icmpNo X11.here hexec rfl (hb hbytes d33) rfl (ii_ne_f rfl) ?_
        refine XS.aloadN X11.here hexec rfl (hb hbytes d36) rfl rfl ?_
        exact Steps.refl _)
      obtain ⟨T14, X14, q14, st14⟩ := X11.hget hexec hown (wk W (.fieldLink "java/lang/String" 9 "java/lang/String" "value" "[B")) (hx.mv X11.warmed.alike hh11).2.1 (g := (mkF m 37 #[.val (.ref x), .val (.ref y), .val (.ref y)] [.ref x])) rfl (rest := []) rfl (hb hbytes d37)
      have hh14 := q14.trans hh11
      have c15 : Steps p.tables e below (s₁.setTop (entryFrame m #[.ref x, .ref y] 3)) (T14.setTop (mkF m 41 #[.val (.ref x), .val (.ref y), .val (.ref y)] [.ref y, .ref t])) := (c13.trans (st14 _ (Steps.refl _))).trans (by
        refine XS.aloadN X14.here hexec rfl (hb hbytes d40) rfl rfl ?_
        exact Steps.refl _)
      obtain ⟨T16, X16, q16, st16⟩ := X14.hget hexec hown (wk W (.fieldLink "java/lang/String" 9 "java/lang/String" "value" "[B")) (hy.mv X14.warmed.alike hh14).2.1 (g := (mkF m 41 #[.val (.ref x), .val (.ref y), .val (.ref y)] [.ref y, .ref t])) rfl (rest := [.ref t]) rfl (hb hbytes d41)
      have hh16 := q16.trans hh14
      have c17 : Steps p.tables e below (s₁.setTop (entryFrame m #[.ref x, .ref y] 3)) (T16.setTop (mkF m 44 #[.val (.ref x), .val (.ref y), .val (.ref y)] [.ref t', .ref t])) := c15.trans (st16 _ (Steps.refl _))
      obtain ⟨v18, T18, X18, E18, g18⟩ := X16.callS hexec (LEq.law l t V t' V') hown (wks W (staticW "java/lang/String" 541 LEq.yN)) (wk W LEq.tab) (W := 0) (Nat.le_of_ble_eq_true rfl) (Nat.le_of_ble_eq_true rfl) (Nat.le_refl _) (Nat.le_refl _) (g := (mkF m 44 #[.val (.ref x), .val (.ref y), .val (.ref y)] [.ref t', .ref t])) rfl (by rw [hml]; rfl) c17 (argsL := [.ref t, .ref t']) (rest := []) rfl rfl (by show 2 * 0 + 0 ≤ _; decide) (hb hbytes d44) (⟨rfl, hx.2.2.2.1.mv X16.warmed.alike hh16, hx.2.2.2.2.1.ty, hy.2.2.2.1.mv X16.warmed.alike hh16, hy.2.2.2.2.1.ty⟩)
      obtain ⟨v, rfl, q18, hv⟩ := E18
      have iff := Cod.eqv hx.2.2.2.2.1 hy.2.2.2.2.1 hx.2.2.2.2.2 hy.2.2.2.2.2
      rcases hv with ⟨rfl, he⟩ | ⟨rfl, he⟩
      · have c19 : Steps p.tables e below (s₁.setTop (entryFrame m #[.ref x, .ref y] 3)) (T18.setTop (mkF m 55 #[.val (.ref x), .val (.ref y), .val (.ref y)] [.int 1])) := Steps.trans g18 (by
          refine XS.ifNo X18.here hexec rfl (hb hbytes d47) rfl (i0_eq_f (by decide)) ?_
          refine iconstV X18.here hexec rfl 1 (hb hbytes d50) (by decide) ?_
          refine XS.goto X18.here hexec rfl (pc0 := 51) rfl (hb hbytes d51) (by decide) rfl ?_
          exact Steps.refl _)
        exact ⟨T18, some (.int 1), _, _, _, X18, rfl, rfl, rfl, (fun h => by cases h), ⟨1, rfl, q18.trans hh16, Or.inl ⟨rfl, iff.mp he⟩⟩, fun fs hl => c19.trans (X18.ireturnOut hexec hret rfl (Or.inr (Or.inl rfl)) (hb hbytes d55) hl)⟩
      · have c19 : Steps p.tables e below (s₁.setTop (entryFrame m #[.ref x, .ref y] 3)) (T18.setTop (mkF m 55 #[.val (.ref x), .val (.ref y), .val (.ref y)] [.int 0])) := Steps.trans g18 (by
          refine XS.ifYes X18.here hexec rfl (pc0 := 47) rfl (hb hbytes d47) rfl (i0_eq_t rfl) (by decide) rfl ?_
          refine iconstV X18.here hexec rfl 0 (hb hbytes d54) (by decide) ?_
          exact Steps.refl _)
        exact ⟨T18, some (.int 0), _, _, _, X18, rfl, rfl, rfl, (fun h => by cases h), ⟨0, rfl, q18.trans hh16, Or.inr ⟨rfl, fun q => he (iff.mpr q)⟩⟩, fun fs hl => c19.trans (X18.ireturnOut hexec hret rfl (Or.inr (Or.inl rfl)) (hb hbytes d55) hl)⟩
    · have c13 : Steps p.tables e below (s₁.setTop (entryFrame m #[.ref x, .ref y] 3)) (T11.setTop (mkF m 55 #[.val (.ref x), .val (.ref y), .val (.ref y)] [.int 0])) := c12.trans (by
        refine XS.icmpYes X11.here hexec rfl (pc0 := 33) rfl (hb hbytes d33) rfl (ii_ne_t hcd) (by decide) rfl ?_
        refine iconstV X11.here hexec rfl 0 (hb hbytes d54) (by decide) ?_
        exact Steps.refl _)
      exact ⟨T11, some (.int 0), _, _, _, X11, rfl, rfl, rfl, (fun h => by cases h), ⟨0, rfl, hh11, Or.inr ⟨rfl, Cod.dif hx.2.2.2.2.1 hy.2.2.2.2.1 hcd⟩⟩, fun fs hl => c13.trans (X11.ireturnOut hexec hret rfl (Or.inr (Or.inl rfl)) (hb hbytes d55) hl)⟩
theorem pays {l : Launch} {R : Room} {p : Program} {e : Env} {below : List Frame} {s : State} {sargs : Array Value} {len W : Nat} (x t : Addr) (V : Cell) (cd : Int32) (n : Nat) (f : Nat → Int32) (y t' : Addr) (V' : Cell) (cd' : Int32) (k : Nat) (g : Nat → Int32) (z : Int32) (htab : tab.before sargs s = true) (hfr : 2 ≤ R.frames) (hlo : W + 28 ≤ R.locals) :
    Back l R p e below s sargs yN len W (fun A₁ a₁ => A₁.cells + 0 ≤ R.cells ∧ A₁.slots + 0 ≤ R.slots ∧ P x t V cd n f y t' V' cd' k g z a₁ A₁.U) (fun A₁ _ v₁ B₁ => Says01 (SameT n f k g) v₁ A₁.U B₁.U ∧ B₁.locs = A₁.locs ++ [] ∧ B₁.cells = A₁.cells + 0 ∧ B₁.slots = A₁.slots + 0) :=
  (law l x t V cd n f y t' V' cd' k g z).pays htab hfr (by omega)
end SEq
end StrChars
namespace StrChars.Road
open Jvm Sem ClassFile Op Lib Jvm.Stand Jvm.Free Jvm.Free.XT
open Jvm.Lib.Cold (StaticIs)
/-- the words of String.equals(Object) -/
abbrev wordsEq : List Jvm.Cond := [.code SEq.yN SEq.yB 3 (some .boolean), .initialized ST, .classLink ST 10 ST, .fieldLink ST 38 ST "COMPACT_STRINGS" "Z", .fieldLink ST 15 ST "coder" "B", .fieldLink ST 9 ST "value" "[B", .methodLink ST 541 LEq.yN, .static LEq.yN, .code LEq.yN LEq.yB 3 (some .boolean), .initialized "java/lang/StringLatin1"]
theorem tabEq_of {a : Array Value} {s : State} (h : ∀ w ∈ wordsEq, w.before a s = true) : SEq.tab.before a s = true := by
  have hl : LEq.tab.before a s = true := unparts (wk h (.code LEq.yN LEq.yB 3 (some .boolean))) (wks h (.initialized LEq.yN.cls :: LEq.site))
  have q := consq hl h
  exact unparts (wk q (.code SEq.yN SEq.yB 3 (some .boolean))) (wks q (.initialized SEq.yN.cls :: SEq.site))
theorem movedEq {Z s : State} {a0 args : Array Value} (hZ : Z.Warmed39 s.vm) (hw : ∀ d ∈ wordsEq, d.before a0 Z = true) : ∀ d ∈ wordsEq, d.before args s = true := fun d hd => by
  have t : ∀ d ∈ wordsEq, (d.onTables && d.keepsFace) = true := by decide +kernel
  exact RoadKit.mv hZ (hw d hd) (t d hd)
/-- the road's facts of a String, as the laws ask it -/
theorem txt_of {Z U : State} {a0 : Array Value} {kI : Nat} (wi : (Jvm.Cond.instantiable ST kI).before a0 Z = true) (al : Z.vm.Alike U.vm) {x t : Addr} {kb : ClassId} {cs : List Int32} {cd N2 : Int32} {vs : List Value} (E : RoadKit.Exa Z U.heap x ST) (V : RoadKit.Fld Z U.heap x ST "value" "[B" (.ref t)) (C : RoadKit.Fld Z U.heap x ST "coder" "B" (.int cd)) (K : RoadKit.Arv Z U.heap t kb .byte N2 vs (.int 0)) (hc : CodA cs cd N2 vs) (hb : ∀ c ∈ cs, ¬ c < 0 ∧ ¬ (65535 : Int32) < c) (l2 : cs.length ≤ 4000) :
    ∃ A, Txt x t A cd cs.length (fun j => cs.getD j 0) U := by
  obtain ⟨A, K1, K2, K3, K4, K5, K6⟩ := K
  have hcod := hc.cod (by omega) K3 K5
  obtain ⟨D, fV, fC, hB, F1, F2, g1, g2, -, -⟩ := strObj wi al E V C
  exact ⟨A, ⟨_, hB.2.2.1, D, hB.1, rfl, by cases q : D.vm <;> first | rfl | exact absurd q (hB.2.1.2 _)⟩, Has.of hB F1 g1, Has.of hB F2 g2, ⟨K1.1, State.isArrayOf_alike al K1.2.1, K1.2.2, by rcases hcod with ⟨-, q, -⟩ | ⟨-, q, -⟩ <;> omega⟩, hcod, fun j hj => by
    have e : cs.getD j 0 = cs[j] := by simp [List.getD_eq_getElem?_getD, hj]
    show ¬ cs.getD j 0 < 0 ∧ ¬ 65535 < cs.getD j 0
    rw [e]; exact hb _ (List.getElem_mem _)⟩
theorem same_list (cs ds : List Int32) : SameT cs.length (fun j => cs.getD j 0) ds.length (fun j => ds.getD j 0) ↔ cs = ds := by
  constructor
  · rintro ⟨e, q⟩
    refine List.ext_getElem e fun j h1 h2 => ?_
    have := q j h1
    simpa [List.getD_eq_getElem?_getD, h1, h2] using this
  · rintro rfl
    exact ⟨rfl, fun _ _ => rfl⟩
/-- **equals(Object) OF TWO SUCH STRINGS**: 1 just where the chars are the same -/
theorem eqW {p : Program} {l : Launch} {e : Env} {R : Room} {s : State} {args : Array Value} {below : List Frame} {len W : Nat} {Z : State} {a0 : Array Value} {h : Heap} (hZ : Z.Warmed39 s.vm) (hw : ∀ d ∈ wordsEq, d.before a0 Z = true) {kI : Nat} (wi : (Jvm.Cond.instantiable ST kI).before a0 Z = true)
    {x t : Addr} {kb : ClassId} {cs : List Int32} {cd N2 : Int32} {vs : List Value} (E : RoadKit.Exa Z h x ST) (V : RoadKit.Fld Z h x ST "value" "[B" (.ref t)) (C : RoadKit.Fld Z h x ST "coder" "B" (.int cd)) (K : RoadKit.Arv Z h t kb .byte N2 vs (.int 0)) (hc : CodA cs cd N2 vs) (hb : ∀ c ∈ cs, ¬ c < 0 ∧ ¬ (65535 : Int32) < c) (l2 : cs.length ≤ 4000)
    {y t' : Addr} {kb' : ClassId} {ds : List Int32} {cd' N2' : Int32} {vs' : List Value} (E' : RoadKit.Exa Z h y ST) (V' : RoadKit.Fld Z h y ST "value" "[B" (.ref t')) (C' : RoadKit.Fld Z h y ST "coder" "B" (.int cd')) (K' : RoadKit.Arv Z h t' kb' .byte N2' vs' (.int 0)) (hc' : CodA ds cd' N2' vs') (hb' : ∀ c ∈ ds, ¬ c < 0 ∧ ¬ (65535 : Int32) < c) (l2' : ds.length ≤ 4000)
    {z : Int32} (S : RoadKit.Sta Z h ST "COMPACT_STRINGS" "Z" (.int z)) (hz : ¬ z = 0) (hfr : 2 ≤ R.frames) (hlo : W + 28 ≤ R.locals) :
    Back l R p e below s args (⟨"java/lang/String", "equals", "(Ljava/lang/Object;)Z"⟩ : MethodName) len W (fun P a => a = #[.ref x, .ref y] ∧ P.U.heap = h ∧ P.cells + 0 ≤ R.cells ∧ P.slots + 0 ≤ R.slots)
      (fun P _ v B => ∃ L, (((v = some (.int 1) ∧ cs = ds) ∨ (v = some (.int 0) ∧ ¬ cs = ds)) ∧ L = [] ∧ B.U.heap = h) ∧ B.locs = P.locs ++ L ∧ B.cells = P.cells + 0 ∧ B.slots = P.slots + 0) := by
  intro m meth c P g ig mk a X hg hsize hdg hW hn hp'
  obtain ⟨rfl, rfl, r1, r2⟩ := hp'
  have al : Z.vm.Alike P.U.vm := hZ.alike.trans X.warmed.alike
  obtain ⟨A, hx⟩ := txt_of wi al E V C K hc hb l2
  obtain ⟨A', hy⟩ := txt_of wi al E' V' C' K' hc' hb' l2'
  obtain ⟨v, B, X', ⟨⟨w, hv, hh, hq⟩, hl, hk, hs⟩, st⟩ := SEq.pays x t A cd cs.length (fun j => cs.getD j 0) y t' A' cd' ds.length (fun j => ds.getD j 0) z (tabEq_of (movedEq hZ hw)) hfr hlo m meth c P g ig mk _ X hg hsize hdg hW hn ⟨r1, r2, rfl, hx, hy, sta_is al S, hz⟩
  refine ⟨v, B, X', ⟨[], ⟨?_, rfl, hh⟩, hl, hk, hs⟩, st⟩
  rcases hq with ⟨rfl, q⟩ | ⟨rfl, q⟩
  · exact Or.inl ⟨hv, (same_list cs ds).mp q⟩
  · exact Or.inr ⟨hv, fun e => q ((same_list cs ds).mpr e)⟩
end StrChars.Road
namespace StrChars
open Jvm Sem ClassFile Op Lib Jvm.Stand Jvm.Free.XT Jvm.Free.ALB Jvm.Free.JM Jvm.Free
open Jvm.Lib.Cold (StaticIs)
namespace ChN
def yN : MethodName := ⟨"java/lang/String", "charAt", "(I)C"⟩
abbrev yB : ByteArray := jdk_42_method_56_code
theorem d0 : decode yB 0 = .ok (.aload_n 0, 1) := by decide +kernel
theorem d1 : decode yB 1 = .ok (.invokevirtual 492, 3) := by decide +kernel
theorem d4 : decode yB 4 = .ok (.ifCond (.eq) 12, 3) := by decide +kernel
theorem d7 : decode yB 7 = .ok (.aload_n 0, 1) := by decide +kernel
theorem d8 : decode yB 8 = .ok (.getfield 9, 3) := by decide +kernel
theorem d11 : decode yB 11 = .ok (.iload_n 1, 1) := by decide +kernel
theorem d12 : decode yB 12 = .ok (.invokestatic 495, 3) := by decide +kernel
theorem d15 : decode yB 15 = .ok (.ireturn, 1) := by decide +kernel
def site : List Cond := [.fieldLink "java/lang/String" 9 "java/lang/String" "value" "[B", IsL.tab, LChA.tab] ++ virtW "java/lang/String" 492 "java/lang/String" IsL.yN IsL.yN ++ staticW "java/lang/String" 495 LChA.yN
def tab : Cond := tabOf yN yB 2 (some .char) site
def P (x t : Addr) (V : Cell) (n : Nat) (f : Nat → Int32) (z : Int32) (fm : Value) (i : Nat) (args : Array Value) (s : State) : Prop := args = #[.ref x, .int (Int32.ofNat i)] ∧ Txt x t V 0 n f s ∧ i < n ∧ StaticIs s "java/lang/String" "COMPACT_STRINGS" "Z" (.int z) ∧ ¬ z = 0 ∧ StaticIs s "jdk/internal/util/Preconditions" "SIOOBE_FORMATTER" "Ljava/util/function/BiFunction;" fm ∧ fm.isRef = true
def E (f : Nat → Int32) (i : Nat) (r : Option Value) (s u : State) : Prop := XT.PureE (some (.int (f i))) r s u
/-- charAt(i) of a Latin-1 String of n chars, i < n: f i -/
theorem law (l : Launch) (x t : Addr) (V : Cell) (n : Nat) (f : Nat → Int32) (z : Int32) (fm : Value) (i : Nat) : Law l yN 2 1 3 40 yB 2 (some .char) site (P x t V n f z fm i) (E f i) [] 0 0 := by
  refine Law.of_walk (plainFor_of_name (by decide +kernel)) (by decide +kernel) (by decide +kernel) (by decide) (fun _ _ h => by rw [h.1]; rfl) (fun _ U U' hal hh h => ⟨h.1, h.2.1.mv hal hh, h.2.2.1, h.2.2.2.1.there hal hh, h.2.2.2.2.1, h.2.2.2.2.2.1.there hal hh, h.2.2.2.2.2.2⟩) (fun r U U' V V' h1 hal h2 h => XT.PureE.mv r U U' V V' h1 hal h2 h) ?_
  intro p e s m args below meth c s₁ X0 hexec hbytes hml hret hlk hnm hown hh0 W hP
  obtain ⟨rfl, hx, hi, s1, hz, s3, rf⟩ := hP
  have v31 := hx.2.2.2.1.2.2.2
  have hr := hx.2.2.2.2.2 i hi
  have hx0 := hx.mv X0.warmed.alike hh0
  have c1 : Steps p.tables e below (s₁.setTop (entryFrame m #[.ref x, .int (Int32.ofNat i)] 2)) (s₁.setTop (mkF m 1 #[.val (.ref x), .val (.int (Int32.ofNat i))] [.ref x])) := Steps.trans (entry rfl) (by
    show Steps p.tables e below (s₁.setTop (mkF m 0 #[.val (.ref x), .val (.int (Int32.ofNat i))] [])) _
    refine XS.aloadN X0.here hexec rfl (hb hbytes d0) rfl rfl ?_
    exact Steps.refl _)
  obtain ⟨v2, T2, X2, E2, g2⟩ := X0.callV hexec (IsL.law l x 0 z) hown (wks W (virtW "java/lang/String" 492 "java/lang/String" IsL.yN IsL.yN)) rfl (by decide) (wk W IsL.tab) (W := 0) (Nat.le_of_ble_eq_true rfl) (Nat.le_of_ble_eq_true rfl) (Nat.le_refl _) (Nat.le_refl _) (hx0.1.fc X0.warmed.alike) hx0.1.is (g := (mkF m 1 #[.val (.ref x), .val (.int (Int32.ofNat i))] [.ref x])) rfl (by rw [hml]; rfl) c1 (argsL := []) (rest := []) rfl rfl (by show 2 * 0 + 0 ≤ _; decide) (hb hbytes d1) (⟨rfl, hx0.2.2.1, hx.2.2.2.2.1.cd, s1.there X0.warmed.alike hh0, hz⟩)
  obtain ⟨rfl, q2⟩ := E2
  have hh2 := q2.trans hh0
  have hx2 := hx.mv X2.warmed.alike hh2
  obtain ⟨-, k1, k2⟩ | ⟨k0, -⟩ := hx.2.2.2.2.1
  · have c3 : Steps p.tables e below (s₁.setTop (entryFrame m #[.ref x, .int (Int32.ofNat i)] 2)) (T2.setTop (mkF m 8 #[.val (.ref x), .val (.int (Int32.ofNat i))] [.ref x])) := Steps.trans g2 (by
      refine XS.ifNo X2.here hexec rfl (hb hbytes d4) rfl (i0_eq_f (by decide)) ?_
      refine XS.aloadN X2.here hexec rfl (hb hbytes d7) rfl rfl ?_
      exact Steps.refl _)
    obtain ⟨T4, X4, q4, st4⟩ := X2.hget hexec hown (wk W (.fieldLink "java/lang/String" 9 "java/lang/String" "value" "[B")) hx2.2.1 (g := (mkF m 8 #[.val (.ref x), .val (.int (Int32.ofNat i))] [.ref x])) rfl (rest := []) rfl (hb hbytes d8)
    have hh4 := q4.trans hh2
    have c5 : Steps p.tables e below (s₁.setTop (entryFrame m #[.ref x, .int (Int32.ofNat i)] 2)) (T4.setTop (mkF m 12 #[.val (.ref x), .val (.int (Int32.ofNat i))] [.int (Int32.ofNat i), .ref t])) := (c3.trans (st4 _ (Steps.refl _))).trans (by
      refine XS.iloadN X4.here hexec rfl (hb hbytes d11) rfl ?_
      exact Steps.refl _)
    obtain ⟨v6, T6, X6, E6, g6⟩ := X4.callS hexec (LChA.law l t V i (lo8 (f i)) fm) hown (wks W (staticW "java/lang/String" 495 LChA.yN)) (wk W LChA.tab) (W := 0) (Nat.le_of_ble_eq_true rfl) (Nat.le_of_ble_eq_true rfl) (Nat.le_refl _) (Nat.le_refl _) (g := (mkF m 12 #[.val (.ref x), .val (.int (Int32.ofNat i))] [.int (Int32.ofNat i), .ref t])) rfl (by rw [hml]; rfl) c5 (argsL := [.ref t, .int (Int32.ofNat i)]) (rest := []) rfl rfl (by show 2 * 0 + 0 ≤ _; decide) (hb hbytes d12) (⟨rfl, hx.2.2.2.1.mv X4.warmed.alike hh4, (k2 i hi).1, s3.there X4.warmed.alike hh4, rf⟩)
    obtain ⟨rfl, q6⟩ := E6
    rw [chr8_lo8 hr.1 (k2 i hi).2] at g6
    exact ⟨T6, some (.int (f i)), _, _, _, X6, rfl, rfl, rfl, (fun h => by cases h), ⟨rfl, q6.trans hh4⟩, fun fs hl => Steps.trans g6 (X6.ireturnOut hexec hret (narrow_ch hr.1 hr.2) (Or.inr (Or.inr (Or.inr (Or.inl rfl)))) (hb hbytes d15) hl)⟩
  · exact absurd k0 (by decide)
theorem pays {l : Launch} {R : Room} {p : Program} {e : Env} {below : List Frame} {s : State} {sargs : Array Value} {len W : Nat} (x t : Addr) (V : Cell) (n : Nat) (f : Nat → Int32) (z : Int32) (fm : Value) (i : Nat) (htab : tab.before sargs s = true) (hfr : 4 ≤ R.frames) (hlo : W + 53 ≤ R.locals) :
    Back l R p e below s sargs yN len W (fun A₁ a₁ => A₁.cells + 0 ≤ R.cells ∧ A₁.slots + 0 ≤ R.slots ∧ P x t V n f z fm i a₁ A₁.U) (fun A₁ _ v₁ B₁ => E f i v₁ A₁.U B₁.U ∧ B₁.locs = A₁.locs ++ [] ∧ B₁.cells = A₁.cells + 0 ∧ B₁.slots = A₁.slots + 0) :=
  (law l x t V n f z fm i).pays htab hfr (by omega)
end ChN
end StrChars
namespace StrChars.Road
open Jvm Sem ClassFile Op Lib Jvm.Stand Jvm.Free Jvm.Free.XT
open Jvm.Lib.Cold (StaticIs)
/-- the words of String.charAt(int), the Latin-1 road alone -/
abbrev wordsChN : List Jvm.Cond := [.code ChN.yN ChN.yB 2 (some .char), .initialized ST, .fieldLink ST 9 ST "value" "[B", .fieldLink ST 38 ST "COMPACT_STRINGS" "Z", .fieldLink ST 15 ST "coder" "B", .code IsL.yN IsL.yB 1 (some .boolean), .methodLink ST 492 IsL.yN, .declares IsL.yN, .selects ST IsL.yN IsL.yN, .instanceMethod IsL.yN,
  .methodLink ST 495 LChA.yN, .static LChA.yN, .code LChA.yN LChA.yB 2 (some .char), .initialized "java/lang/StringLatin1", .methodLink "java/lang/StringLatin1" 9 JO.Str_checkIndex.yN, .static JO.Str_checkIndex.yN, .code JO.Str_checkIndex.yN JO.Str_checkIndex.yB 2 none,
  .fieldLink ST 1053 "jdk/internal/util/Preconditions" "SIOOBE_FORMATTER" "Ljava/util/function/BiFunction;", .methodLink ST 1059 JC.PreCheck.yN, .static JC.PreCheck.yN, .code JC.PreCheck.yN JC.PreCheck.yB 3 (some .int), .initialized "jdk/internal/util/Preconditions"]
theorem tabChN_of {a : Array Value} {s : State} (h : ∀ w ∈ wordsChN, w.before a s = true) : ChN.tab.before a s = true := by
  have hp : JC.PreCheck.tab.before a s = true := unparts (wk h (.code JC.PreCheck.yN JC.PreCheck.yB 3 (some .int))) (wks h (.initialized JC.PreCheck.yN.cls :: JC.PreCheck.site))
  have qk := consq hp h
  have hk : JO.Str_checkIndex.tab.before a s = true := unparts (wk qk (.code JO.Str_checkIndex.yN JO.Str_checkIndex.yB 2 none)) (wks qk (.initialized JO.Str_checkIndex.yN.cls :: JO.Str_checkIndex.site))
  have ql := consq hk h
  have hl : LChA.tab.before a s = true := unparts (wk ql (.code LChA.yN LChA.yB 2 (some .char))) (wks ql (.initialized LChA.yN.cls :: LChA.site))
  have hi : IsL.tab.before a s = true := unparts (wk h (.code IsL.yN IsL.yB 1 (some .boolean))) (wks h (.initialized IsL.yN.cls :: IsL.site))
  have q := consq hi (consq hl h)
  exact unparts (wk q (.code ChN.yN ChN.yB 2 (some .char))) (wks q (.initialized ChN.yN.cls :: ChN.site))
theorem movedChN {Z s : State} {a0 args : Array Value} (hZ : Z.Warmed39 s.vm) (hw : ∀ d ∈ wordsChN, d.before a0 Z = true) : ∀ d ∈ wordsChN, d.before args s = true := fun d hd => by
  have t : ∀ d ∈ wordsChN, (d.onTables && d.keepsFace) = true := by decide +kernel
  exact RoadKit.mv hZ (hw d hd) (t d hd)
/-- **charAt(i) OF A LATIN-1 STRING**, i < n: the char -/
theorem chN {p : Program} {l : Launch} {e : Env} {R : Room} {s : State} {args : Array Value} {below : List Frame} {len W : Nat} {Z : State} {a0 : Array Value} {h : Heap} (hZ : Z.Warmed39 s.vm) (hw : ∀ d ∈ wordsChN, d.before a0 Z = true) {kI : Nat} (wi : (Jvm.Cond.instantiable ST kI).before a0 Z = true)
    {x t : Addr} {kb : ClassId} {cs : List Int32} {N2 z : Int32} {vs : List Value} {fm : Value} {i : Nat} {j : Int32} (E : RoadKit.Exa Z h x ST) (V : RoadKit.Fld Z h x ST "value" "[B" (.ref t)) (C : RoadKit.Fld Z h x ST "coder" "B" (.int 0)) (K : RoadKit.Arv Z h t kb .byte N2 vs (.int 0)) (hc : CodA cs 0 N2 vs) (hb : ∀ c ∈ cs, ¬ c < 0 ∧ ¬ (65535 : Int32) < c)
    (S : RoadKit.Sta Z h ST "COMPACT_STRINGS" "Z" (.int z)) (hz : ¬ z = 0) (F : RoadKit.Sta Z h "jdk/internal/util/Preconditions" "SIOOBE_FORMATTER" "Ljava/util/function/BiFunction;" fm) (rf : fm.isRef = true) (l2 : cs.length ≤ 4000) (hi : i < cs.length) (hj : j = Int32.ofNat i) (hfr : 4 ≤ R.frames) (hlo : W + 53 ≤ R.locals) :
    Back l R p e below s args (⟨"java/lang/String", "charAt", "(I)C"⟩ : MethodName) len W (fun P a => a = #[.ref x, .int j] ∧ P.U.heap = h ∧ P.cells + 0 ≤ R.cells ∧ P.slots + 0 ≤ R.slots)
      (fun P _ v B => ∃ L, (v = some (.int (cs.getD i 0)) ∧ L = [] ∧ B.U.heap = h) ∧ B.locs = P.locs ++ L ∧ B.cells = P.cells + 0 ∧ B.slots = P.slots + 0) := by
  subst hj
  intro m meth c P g ig mk a X hg hsize hdg hW hn hp'
  obtain ⟨rfl, rfl, r1, r2⟩ := hp'
  have al : Z.vm.Alike P.U.vm := hZ.alike.trans X.warmed.alike
  obtain ⟨A, hx⟩ := txt_of wi al E V C K hc hb l2
  obtain ⟨v, B, X', ⟨⟨hv, hh⟩, hl, hk, hs⟩, st⟩ := ChN.pays x t A cs.length (fun j => cs.getD j 0) z fm i (tabChN_of (movedChN hZ hw)) hfr hlo m meth c P g ig mk _ X hg hsize hdg hW hn ⟨r1, r2, rfl, hx, hi, sta_is al S, hz, sta_is al F, rf⟩
  exact ⟨v, B, X', ⟨[], ⟨hv, rfl, hh⟩, hl, hk, hs⟩, st⟩
/-- what backV says of its String, as the contracts of this text ask it: cs's low bytes, coder 0 -/
theorem codOf {cs : List Int32} {n : Nat} (hn : cs.length = n) (hb : ∀ c ∈ cs, ¬ 255 < c) : CodA cs 0 (Int32.ofNat n) ((cs.map lo8).map Value.int) := Or.inl ⟨rfl, by rw [hn], by simp [List.map_map, Function.comp_def], hb⟩
end StrChars.Road
end Jvm.Pilot.@@N@@
namespace Jvm.Own
open Sem ClassFile Op Lib Jvm.Stand Jvm.Free Jvm.LawKit Jvm.RoadKit
/-- the walk goes on from here and ends in P -/
def Go (p : Program) (e : Env) (below : List Frame) (P : Outcome → State → Prop) (T : State) (g : JFrame) : Prop :=
  ∃ U o, Steps p.tables e below (T.setTop g) U ∧ U.status = .running ∧ Ended U below o ∧ P o U
abbrev PP (s : State) (Q : Option Value → Heap → List Loc → Prop) (K J : Nat) (o : Outcome) (U : State) : Prop := ∃ v L, o = .returned v ∧ Q v U.heap L ∧ FrameEnd s o U L K J
abbrev PS (Z : State) (EL : List (String × Nat)) (s : State) (Q : Option Value → Heap → List Loc → Prop) (K J : Nat) (o : Outcome) (U : State) : Prop := ∃ v L, o = .returned v ∧ Q v U.heap L ∧ CHr Z EL s.vm s.heap U.vm U.heap ∧ ReturnedEndW s o U L K J
abbrev CtP (l : Launch) (y : MethodName) (bytes : ByteArray) (mx : Nat) (ret : Option FieldType) (ws : List Jvm.Cond) (rm : Room) (Z : State) (as' : Array Value) (h0 : Heap) (Q : Option Value → Heap → List Loc → Prop) : Prop :=
  MetFree l y (head1 (Jvm.Cond.code y bytes mx ret :: ws) rm) (fun a U => a = as' ∧ Z.Warmed39 U.vm ∧ U.heap = h0) (fun _ _ _ _ _ => True) (fun _ U o U' => PP U Q rm.cells rm.slots o U')
abbrev CtS (l : Launch) (y : MethodName) (bytes : ByteArray) (mx : Nat) (ret : Option FieldType) (ws : List Jvm.Cond) (rm : Room) (Z : State) (EL : List (String × Nat)) (SL : List Addr) (as' : Array Value) (h0 : Heap) (Q : Option Value → Heap → List Loc → Prop) : Prop :=
  MetFree l y (head1 (Jvm.Cond.code y bytes mx ret :: ws) rm) (fun a U => a = as' ∧ Z.Warmed39 U.vm ∧ U.heap = h0 ∧ CHv Z EL U.vm h0 ∧ ∀ x ∈ SL, Safe Z EL U.vm h0 x) (fun _ _ _ _ _ => True) (fun _ U o U' => PS Z EL U Q rm.cells rm.slots o U')
abbrev PL (s : State) (Q : Option Value → Heap → List Loc → Prop) (K J : Nat) (o : Outcome) (U : State) : Prop := ∃ v L, o = .returned v ∧ Q v U.heap L ∧ ReturnedEndW s o U L K J
abbrev CtL (l : Launch) (y : MethodName) (bytes : ByteArray) (mx : Nat) (ret : Option FieldType) (ws : List Jvm.Cond) (rm : Room) (Z : State) (EL : List (String × Nat)) (as' : Array Value) (h0 : Heap) (Q : Option Value → Heap → List Loc → Prop) : Prop :=
  MetFree l y (head1 (Jvm.Cond.code y bytes mx ret :: ws) rm) (fun a U => a = as' ∧ Z.Warmed39 U.vm ∧ U.heap = h0 ∧ CHv Z EL U.vm h0) (fun _ _ _ _ _ => True) (fun _ U o U' => PL U Q rm.cells rm.slots o U')
abbrev Pays (l : Launch) (R : Room) (p : Program) (e : Env) (below : List Frame) (s : State) (args : Array Value) (y : MethodName) (len W : Nat) (as' : Array Value) (h : Heap) (k j : Nat) (Q : Option Value → Heap → List Loc → Prop) : Prop :=
  Back l R p e below s args y len W (fun A a => a = as' ∧ A.U.heap = h ∧ A.cells + k ≤ R.cells ∧ A.slots + j ≤ R.slots) (fun A _ v B => ∃ L, Q v B.U.heap L ∧ B.locs = A.locs ++ L ∧ B.cells = A.cells + k ∧ B.slots = A.slots + j)
abbrev PaysS (l : Launch) (R : Room) (p : Program) (e : Env) (below : List Frame) (s : State) (vm0 : Vm) (args : Array Value) (y : MethodName) (len W : Nat) (as' : Array Value) (h : Heap) (k j : Nat) (Z : State) (EL : List (String × Nat)) (Q : Option Value → Heap → List Loc → Prop) : Prop :=
  BackS l R p e below (s.setVm vm0) args y len W (fun A a => a = as' ∧ A.U.heap = h ∧ A.cells + k ≤ R.cells ∧ A.slots + j ≤ R.slots) (fun A _ v B => ∃ L, Q v B.U.heap L ∧ B.locs = A.locs ++ L ∧ B.cells = A.cells + k ∧ B.slots = A.slots + j ∧ CHr Z EL vm0 h B.U.vm B.U.heap)
section Own
variable {p : Program} {l : Launch} {e : Env} {R : Room} {s : State} {m : MethodId} {args : Array Value} {below : List Frame} {meth : Method} {c : Code} {T : State} {locs : List Loc} {cells slots : Nat} {P : Outcome → State → Prop} {pc : Nat} {Ls : Array Slot} {st : List Value} {Z : State} {a0 : Array Value} {h : Heap} {EL : List (String × Nat)} {vm0 : Vm} {k0 : Nat} {SL : List Addr} {Q : Option Value → Heap → List Loc → Prop}
theorem Go.of {T' : State} {g g' : JFrame} (h : ∀ t, Steps p.tables e below (T'.setTop g') t → Steps p.tables e below (T.setTop g) t) (k : Go p e below P T' g') : Go p e below P T g := by
  obtain ⟨U, o, h1, h2⟩ := k
  exact ⟨U, o, h _ h1, h2⟩
theorem Go.tr {T' : State} {g g' : JFrame} (h : Steps p.tables e below (T.setTop g) (T'.setTop g')) (k : Go p e below P T' g') : Go p e below P T g := Go.of (fun _ q => h.trans q) k
theorem CtP.walk {y : MethodName} {bytes : ByteArray} {mx : Nat} {ret : Option FieldType} {ws : List Jvm.Cond} {rm : Room} {as' : Array Value} {h0 : Heap} (hpn : plainFor y = true) (hef : ∀ m, entryFrame m as' mx = mkF m 0 Ls [])
    (k : ∀ (p : Program) (e : Env) (s : State) (m : MethodId) (below : List Frame) (meth : Method) (c : Code) (T : State), p.tables.exec = Jvm.exec → c.code = bytes → c.maxLocals = mx → s.vm.findClass y.cls = some m.cls → meth.name = y.name → meth.sig.returnType = ret → meth.locks = false → Z.Warmed39 s.vm →
      Stand p l e rm s m as' below meth c T [] 0 0 → T.heap = h0 → Go p e below (PP s Q rm.cells rm.slots) T (mkF m 0 Ls [])) : CtP l y bytes mx ret ws rm Z as' h0 Q := by
  refine MetFree.of_bodySF hpn hisR ?_
  intro p e s m args below meth c s₁ Bd hml hP hK
  obtain ⟨rfl, hZ, hh⟩ := hP
  obtain ⟨U, o, h1, h2, h3, h4⟩ := k p e s m below meth c s₁ Bd.exec Bd.bytes hml (findClass_of_methodNamed Bd.named) (name_of_methodNamed Bd.named Bd.method).1 Bd.returns Bd.notSynchronized hZ (Stand.of_body Bd) (by rw [← hh, Bd.state]; rfl)
  exact ⟨U, o, castTop (hef m) h1, h2, h3, h4⟩
theorem CtS.walk {y : MethodName} {bytes : ByteArray} {mx : Nat} {ret : Option FieldType} {ws : List Jvm.Cond} {rm : Room} {as' : Array Value} {h0 : Heap} (hpn : plainFor y = true) (hef : ∀ m, entryFrame m as' mx = mkF m 0 Ls [])
    (k : ∀ (p : Program) (e : Env) (s : State) (m : MethodId) (below : List Frame) (meth : Method) (c : Code) (T : State) (vm : Vm) (k0 : Nat), p.tables.exec = Jvm.exec → c.code = bytes → c.maxLocals = mx → vm.findClass y.cls = some m.cls → meth.name = y.name → meth.sig.returnType = ret → meth.locks = false → Z.Warmed39 vm →
      Stand p l e rm (s.setVm vm) m as' below meth c T [] 0 0 → T.heap = h0 → s.Since vm k0 → k0 ≤ h0.size → CHr Z EL s.vm s.heap vm h0 → (∀ x ∈ SL, Safe Z EL vm h0 x) → Go p e below (PS Z EL s Q rm.cells rm.slots) T (mkF m 0 Ls [])) : CtS l y bytes mx ret ws rm Z EL SL as' h0 Q := by
  refine MetFree.of_bodySF hpn hisR ?_
  intro p e s m args below meth c s₁ Bd hml hP hK
  obtain ⟨rfl, hZ, hh, hC, hSL⟩ := hP
  obtain ⟨U, o, h1, h2, h3, h4⟩ := k p e s m below meth c s₁ s.vm h0.size Bd.exec Bd.bytes hml (findClass_of_methodNamed Bd.named) (name_of_methodNamed Bd.named Bd.method).1 Bd.returns Bd.notSynchronized hZ (Stand.of_body Bd) (by rw [← hh, Bd.state]; rfl) ((State.WarmedH.refl s).since _) (Nat.le_refl _) (by rw [hh]; exact CHr.refl hC) hSL
  exact ⟨U, o, castTop (hef m) h1, h2, h3, h4⟩
theorem CtL.walk {y : MethodName} {bytes : ByteArray} {mx : Nat} {ret : Option FieldType} {ws : List Jvm.Cond} {rm : Room} {as' : Array Value} {h0 : Heap} (hpn : plainFor y = true) (hef : ∀ m, entryFrame m as' mx = mkF m 0 Ls [])
    (k : ∀ (p : Program) (e : Env) (s : State) (m : MethodId) (below : List Frame) (meth : Method) (c : Code) (T : State) (vm : Vm) (k0 : Nat), p.tables.exec = Jvm.exec → c.code = bytes → c.maxLocals = mx → vm.findClass y.cls = some m.cls → meth.name = y.name → meth.sig.returnType = ret → meth.locks = false → Z.Warmed39 vm →
      Stand p l e rm (s.setVm vm) m as' below meth c T [] 0 0 → T.heap = h0 → s.Since vm k0 → k0 ≤ h0.size → CHr Z EL s.vm s.heap vm h0 → Go p e below (PL s Q rm.cells rm.slots) T (mkF m 0 Ls [])) : CtL l y bytes mx ret ws rm Z EL as' h0 Q := by
  refine MetFree.of_bodySF hpn hisR ?_
  intro p e s m args below meth c s₁ Bd hml hP hK
  obtain ⟨rfl, hZ, hh, hC⟩ := hP
  obtain ⟨U, o, h1, h2, h3, h4⟩ := k p e s m below meth c s₁ s.vm h0.size Bd.exec Bd.bytes hml (findClass_of_methodNamed Bd.named) (name_of_methodNamed Bd.named Bd.method).1 Bd.returns Bd.notSynchronized hZ (Stand.of_body Bd) (by rw [← hh, Bd.state]; rfl) ((State.WarmedH.refl s).since _) (Nat.le_refl _) (by rw [hh]; exact CHr.refl hC)
  exact ⟨U, o, castTop (hef m) h1, h2, h3, h4⟩
theorem payP {y : MethodName} {bytes : ByteArray} {mx : Nat} {ret : Option FieldType} {rm : Room} {as' : Array Value} {len W : Nat} (hM : CtP l y bytes mx ret [] rm Z as' h Q) (hZ : Z.Warmed39 s.vm) (wc : (Jvm.Cond.code y bytes mx ret).before a0 Z = true) (wz : (Jvm.Cond.initialized y.cls).before a0 Z = true) (hf : rm.frames + 1 ≤ R.frames) (hl : W + (mx + 11) + rm.locals ≤ R.locals) :
    Pays l R p e below s args y len W as' h rm.cells rm.slots Q := backOf hM hZ wc wz hf hl
theorem payS {y : MethodName} {bytes : ByteArray} {mx : Nat} {ret : Option FieldType} {rm : Room} {as' : Array Value} {len W : Nat} (hM : CtS l y bytes mx ret [] rm Z EL SL as' h Q) (hZ : Z.Warmed39 vm0) (wc : (Jvm.Cond.code y bytes mx ret).before a0 Z = true) (wz : (Jvm.Cond.initialized y.cls).before a0 Z = true) (hf : rm.frames + 1 ≤ R.frames) (hl : W + (mx + 11) + rm.locals ≤ R.locals) (hEL : EW Z a0 EL) (H : CHv Z EL vm0 h) (hSL : ∀ x ∈ SL, x < h.size ∧ Safe Z EL vm0 h x) :
    PaysS l R p e below s vm0 args y len W as' h rm.cells rm.slots Z EL Q :=
  BackS.of_freeW (bytes := bytes) (maxL := mx) (ret := ret) (E := fun _ first o t L k n => k = rm.cells ∧ n = rm.slots ∧ (∃ v, o = .returned v ∧ Q v t.heap L) ∧ CHr Z EL first.vm first.heap t.vm t.heap) hM hf hl
    (fun m meth c A a Y hp => have hU : Z.Warmed39 A.U.vm := wtrans (s := s.setVm vm0) hZ Y.warmed
      ⟨by show (Jvm.Cond.and _ .tt).before a A.U = true; rw [Jvm.Cond.before_and, mv hU wc]; rfl, mv hU wc, mv hU wz, hp.2.2.1, hp.2.2.2⟩)
    (fun m meth c A a g mk Y hp => ⟨hp.1, wtrans (s := s.setVm vm0) hZ Y.warmed, hp.2.1, (CHv.at Y hZ hEL H).1, fun x hx => (CHv.at Y hZ hEL H).safe (hSL x hx).1 (hSL x hx).2⟩) (fun _ _ _ _ _ _ _ _ _ => trivial)
    (fun _ _ _ _ ⟨v, L, h1, h2, h3, h4⟩ => ⟨L, _, _, h4, rfl, rfl, ⟨v, h1, h2⟩, h3⟩)
    (fun m meth c A a g mk v t L k n Y hp _ _ ⟨e1, e2, ⟨v', e3, e4⟩, e5⟩ => by
      cases e3; subst e1 e2
      refine ⟨L, e4, rfl, rfl, rfl, (CHv.at Y hZ hEL H).trans ?_⟩
      rw [← hp.2.1]; exact e5)
/-! the ends -/
theorem gRetP {w : Value} {t : FieldType} {i : Instr} {K J : Nat} (X : Stand p l e R s m args below meth c T locs cells slots) (hx : p.tables.exec = Jvm.exec) (hlk : meth.locks = false) (hret : meth.sig.returnType = some t) (hn : narrow t w = w)
    (hi : (i = .ireturn ∧ (t = .int ∨ t = .boolean ∨ t = .byte ∨ t = .char ∨ t = .short) ∧ ∃ z, w = .int z) ∨ (i = .lreturn ∧ t = .long ∧ ∃ z, w = .long z) ∨ (i = .dreturn ∧ t = .double ∧ ∃ z, w = .double z) ∨ (i = .freturn ∧ t = .float ∧ ∃ z, w = .float z) ∨ (i = .areturn ∧ t.isReference = true ∧ w.isRef = true))
    (hd : decode c.code pc = .ok (i, 1)) (eT : T.heap = h) (hK : cells ≤ K) (hJ : slots ≤ J) (hQ : Q (some w) h locs) : Go p e below (PP s Q K J) T (mkF m pc Ls (w :: st)) := by
  obtain ⟨fs, hr, hrun, hended, hW, hsame⟩ := X.leave (v := some w) (fun h => by rw [hret] at h; cases h)
  exact ⟨_, _, retOut X hx hret hn hi hd hr, hrun, hended, _, _, rfl, by show Q (some w) T.heap locs; rw [eT]; exact hQ, ⟨_, rfl⟩, hW, hsame.mono hK hJ⟩
theorem gRetP0 {K J : Nat} (X : Stand p l e R s m args below meth c T locs cells slots) (hx : p.tables.exec = Jvm.exec) (hlk : meth.locks = false) (hret : meth.sig.returnType = none)
    (hd : decode c.code pc = .ok (.return_, 1)) (eT : T.heap = h) (hK : cells ≤ K) (hJ : slots ≤ J) (hQ : Q none h locs) : Go p e below (PP s Q K J) T (mkF m pc Ls []) := by
  obtain ⟨fs, hr, hrun, hended, hW, hsame⟩ := X.leave (v := none) (fun _ => rfl)
  exact ⟨_, _, X.returnOut hx hret hd hr, hrun, hended, _, _, rfl, by show Q none T.heap locs; rw [eT]; exact hQ, ⟨_, rfl⟩, hW, hsame.mono hK hJ⟩
theorem monoW {s t : State} {o : Outcome} {L : List Loc} {k n K J : Nat} (q : ReturnedEndW s o t L k n) (hK : k ≤ K) (hJ : n ≤ J) : ReturnedEndW s o t L K J := ⟨q.1, q.2.1, q.2.2.1, q.2.2.2.mono hK hJ⟩
theorem gRetS {w : Value} {t : FieldType} {i : Instr} {K J : Nat} (X : Stand p l e R (s.setVm vm0) m args below meth c T locs cells slots) (hx : p.tables.exec = Jvm.exec) (hlk : meth.locks = false) (hret : meth.sig.returnType = some t) (hn : narrow t w = w)
    (hi : (i = .ireturn ∧ (t = .int ∨ t = .boolean ∨ t = .byte ∨ t = .char ∨ t = .short) ∧ ∃ z, w = .int z) ∨ (i = .lreturn ∧ t = .long ∧ ∃ z, w = .long z) ∨ (i = .dreturn ∧ t = .double ∧ ∃ z, w = .double z) ∨ (i = .freturn ∧ t = .float ∧ ∃ z, w = .float z) ∨ (i = .areturn ∧ t.isReference = true ∧ w.isRef = true))
    (hd : decode c.code pc = .ok (i, 1)) (eT : T.heap = h) (hS : s.Since vm0 k0) (hk : k0 ≤ h.size) (hZ : Z.Warmed39 vm0) (hEL : EW Z a0 EL) (C : CHr Z EL s.vm s.heap vm0 h) (hK : cells ≤ K) (hJ : slots ≤ J) (hQ : Q (some w) h locs) : Go p e below (PS Z EL s Q K J) T (mkF m pc Ls (w :: st)) := by
  subst eT
  obtain ⟨fs, hr, hrun, hended, hW⟩ := X.leaveW hS hk (v := some w) (fun h => by rw [hret] at h; cases h) hlk
  exact ⟨_, _, retOut X hx hret hn hi hd hr, hrun, hended, _, _, rfl, hQ, C.trans (show CHr Z EL vm0 T.heap T.vm T.heap from CHv.at X hZ hEL C.1), monoW hW hK hJ⟩
theorem gRetS0 {K J : Nat} (X : Stand p l e R (s.setVm vm0) m args below meth c T locs cells slots) (hx : p.tables.exec = Jvm.exec) (hlk : meth.locks = false) (hret : meth.sig.returnType = none)
    (hd : decode c.code pc = .ok (.return_, 1)) (eT : T.heap = h) (hS : s.Since vm0 k0) (hk : k0 ≤ h.size) (hZ : Z.Warmed39 vm0) (hEL : EW Z a0 EL) (C : CHr Z EL s.vm s.heap vm0 h) (hK : cells ≤ K) (hJ : slots ≤ J) (hQ : Q none h locs) : Go p e below (PS Z EL s Q K J) T (mkF m pc Ls []) := by
  subst eT
  obtain ⟨fs, hr, hrun, hended, hW⟩ := X.leaveW hS hk (v := none) (fun _ => rfl) hlk
  exact ⟨_, _, X.returnOut hx hret hd hr, hrun, hended, _, _, rfl, hQ, C.trans (show CHr Z EL vm0 T.heap T.vm T.heap from CHv.at X hZ hEL C.1), monoW hW hK hJ⟩
theorem gRetL {w : Value} {t : FieldType} {i : Instr} {K J : Nat} (X : Stand p l e R (s.setVm vm0) m args below meth c T locs cells slots) (hx : p.tables.exec = Jvm.exec) (hlk : meth.locks = false) (hret : meth.sig.returnType = some t) (hn : narrow t w = w)
    (hi : (i = .ireturn ∧ (t = .int ∨ t = .boolean ∨ t = .byte ∨ t = .char ∨ t = .short) ∧ ∃ z, w = .int z) ∨ (i = .lreturn ∧ t = .long ∧ ∃ z, w = .long z) ∨ (i = .dreturn ∧ t = .double ∧ ∃ z, w = .double z) ∨ (i = .freturn ∧ t = .float ∧ ∃ z, w = .float z) ∨ (i = .areturn ∧ t.isReference = true ∧ w.isRef = true))
    (hd : decode c.code pc = .ok (i, 1)) (eT : T.heap = h) (hS : s.Since vm0 k0) (hk : k0 ≤ h.size) (hK : cells ≤ K) (hJ : slots ≤ J) (hQ : Q (some w) h locs) : Go p e below (PL s Q K J) T (mkF m pc Ls (w :: st)) := by
  subst eT
  obtain ⟨fs, hr, hrun, hended, hW⟩ := X.leaveW hS hk (v := some w) (fun h => by rw [hret] at h; cases h) hlk
  exact ⟨_, _, retOut X hx hret hn hi hd hr, hrun, hended, _, _, rfl, hQ, monoW hW hK hJ⟩
theorem fitsRef {v : Value} (hv : v.isRef = true) (C : String) : fits (.object C) v = true := by rcases ref_cases hv with rfl | ⟨a, rfl⟩ <;> rfl
theorem catRef {v : Value} (hv : v.isRef = true) : v.category = 1 := by rcases ref_cases hv with rfl | ⟨a, rfl⟩ <;> rfl
theorem storeRef {v : Value} {ls : Array Slot} {k : Nat} {o : Slot} {l' : Array Slot} (hv : v.isRef = true) (h1 : ls[k]? = some o) (h2 : One o) (h3 : ls.setIfInBounds k (.val v) = l') : storeLocals ls k v = some l' := h3 ▸ XS.store1 h1 h2 (catRef hv)
/-! single steps -/
theorem gaload (X : Stand p l e R s m args below meth c T locs cells slots) (hx : p.tables.exec = Jvm.exec) {k : Nat} {v : Value} (pc' : Nat) (hd : decode c.code pc = .ok (.aload k, 2)) (hp : pc + 2 = pc') (hl : Ls[k]? = some (.val v)) (hv : v.isRef = true) (r : Go p e below P T (mkF m pc' Ls (v :: st))) : Go p e below P T (mkF m pc Ls (st)) := by
  subst hp; exact Go.of (fun _ q => XS.aload X.here hx rfl hd hl hv q) r
theorem galoadN (X : Stand p l e R s m args below meth c T locs cells slots) (hx : p.tables.exec = Jvm.exec) {k : Fin 4} {v : Value} (pc' : Nat) (hd : decode c.code pc = .ok (.aload_n k, 1)) (hp : pc + 1 = pc') (hl : Ls[k.val]? = some (.val v)) (hv : v.isRef = true) (r : Go p e below P T (mkF m pc' Ls (v :: st))) : Go p e below P T (mkF m pc Ls (st)) := by
  subst hp; exact Go.of (fun _ q => XS.aloadN X.here hx rfl hd hl hv q) r
theorem giload (X : Stand p l e R s m args below meth c T locs cells slots) (hx : p.tables.exec = Jvm.exec) {k : Nat} {v : Int32} (pc' : Nat) (hd : decode c.code pc = .ok (.iload k, 2)) (hp : pc + 2 = pc') (hl : Ls[k]? = some (.val (.int v))) (r : Go p e below P T (mkF m pc' Ls (.int v :: st))) : Go p e below P T (mkF m pc Ls (st)) := by
  subst hp; exact Go.of (fun _ q => XS.iload X.here hx rfl hd hl q) r
theorem giloadN (X : Stand p l e R s m args below meth c T locs cells slots) (hx : p.tables.exec = Jvm.exec) {k : Fin 4} {v : Int32} (pc' : Nat) (hd : decode c.code pc = .ok (.iload_n k, 1)) (hp : pc + 1 = pc') (hl : Ls[k.val]? = some (.val (.int v))) (r : Go p e below P T (mkF m pc' Ls (.int v :: st))) : Go p e below P T (mkF m pc Ls (st)) := by
  subst hp; exact Go.of (fun _ q => XS.iloadN X.here hx rfl hd hl q) r
theorem glload (X : Stand p l e R s m args below meth c T locs cells slots) (hx : p.tables.exec = Jvm.exec) {k : Nat} {v : Int64} (pc' : Nat) (hd : decode c.code pc = .ok (.lload k, 2)) (hp : pc + 2 = pc') (hl : Ls[k]? = some (.val (.long v))) (r : Go p e below P T (mkF m pc' Ls (.long v :: st))) : Go p e below P T (mkF m pc Ls (st)) := by
  subst hp; exact Go.of (fun _ q => XS.lload X.here hx rfl hd hl q) r
theorem glloadN (X : Stand p l e R s m args below meth c T locs cells slots) (hx : p.tables.exec = Jvm.exec) {k : Fin 4} {v : Int64} (pc' : Nat) (hd : decode c.code pc = .ok (.lload_n k, 1)) (hp : pc + 1 = pc') (hl : Ls[k.val]? = some (.val (.long v))) (r : Go p e below P T (mkF m pc' Ls (.long v :: st))) : Go p e below P T (mkF m pc Ls (st)) := by
  subst hp; exact Go.of (fun _ q => XS.lloadN X.here hx rfl hd hl q) r
theorem gistore (X : Stand p l e R s m args below meth c T locs cells slots) (hx : p.tables.exec = Jvm.exec) {k : Nat} {x : Int32} (l' : Array Slot) (pc' : Nat) (hd : decode c.code pc = .ok (.istore k, 2)) (hp : pc + 2 = pc') (hl : storeLocals Ls k (.int x) = some l') (r : Go p e below P T (mkF m pc' l' (st))) : Go p e below P T (mkF m pc Ls (.int x :: st)) := by
  subst hp; exact Go.of (fun _ q => XS.istore X.here hx rfl hd rfl hl q) r
theorem gistoreN (X : Stand p l e R s m args below meth c T locs cells slots) (hx : p.tables.exec = Jvm.exec) {k : Fin 4} {x : Int32} (l' : Array Slot) (pc' : Nat) (hd : decode c.code pc = .ok (.istore_n k, 1)) (hp : pc + 1 = pc') (hl : storeLocals Ls k.val (.int x) = some l') (r : Go p e below P T (mkF m pc' l' (st))) : Go p e below P T (mkF m pc Ls (.int x :: st)) := by
  subst hp; exact Go.of (fun _ q => XS.istoreN X.here hx rfl hd rfl hl q) r
theorem glstore (X : Stand p l e R s m args below meth c T locs cells slots) (hx : p.tables.exec = Jvm.exec) {k : Nat} {x : Int64} (l' : Array Slot) (pc' : Nat) (hd : decode c.code pc = .ok (.lstore k, 2)) (hp : pc + 2 = pc') (hl : storeLocals Ls k (.long x) = some l') (r : Go p e below P T (mkF m pc' l' (st))) : Go p e below P T (mkF m pc Ls (.long x :: st)) := by
  subst hp; exact Go.of (fun _ q => XS.lstore X.here hx rfl hd rfl hl q) r
theorem glstoreN (X : Stand p l e R s m args below meth c T locs cells slots) (hx : p.tables.exec = Jvm.exec) {k : Fin 4} {x : Int64} (l' : Array Slot) (pc' : Nat) (hd : decode c.code pc = .ok (.lstore_n k, 1)) (hp : pc + 1 = pc') (hl : storeLocals Ls k.val (.long x) = some l') (r : Go p e below P T (mkF m pc' l' (st))) : Go p e below P T (mkF m pc Ls (.long x :: st)) := by
  subst hp; exact Go.of (fun _ q => XS.lstoreN X.here hx rfl hd rfl hl q) r
theorem gastore (X : Stand p l e R s m args below meth c T locs cells slots) (hx : p.tables.exec = Jvm.exec) {k : Nat} {x : Value} (l' : Array Slot) (pc' : Nat) (hd : decode c.code pc = .ok (.astore k, 2)) (hp : pc + 2 = pc') (hv : x.isRef = true) (hl : storeLocals Ls k x = some l') (r : Go p e below P T (mkF m pc' l' (st))) : Go p e below P T (mkF m pc Ls (x :: st)) := by
  subst hp; exact Go.of (fun _ q => XS.astore X.here hx rfl hd rfl hv hl q) r
theorem gastoreN (X : Stand p l e R s m args below meth c T locs cells slots) (hx : p.tables.exec = Jvm.exec) {k : Fin 4} {x : Value} (l' : Array Slot) (pc' : Nat) (hd : decode c.code pc = .ok (.astore_n k, 1)) (hp : pc + 1 = pc') (hv : x.isRef = true) (hl : storeLocals Ls k.val x = some l') (r : Go p e below P T (mkF m pc' l' (st))) : Go p e below P T (mkF m pc Ls (x :: st)) := by
  subst hp; exact Go.of (fun _ q => XS.astoreN X.here hx rfl hd rfl hv hl q) r
theorem giconst (X : Stand p l e R s m args below meth c T locs cells slots) (hx : p.tables.exec = Jvm.exec) {i : Int} (v : Int32) (pc' : Nat) (hd : decode c.code pc = .ok (.iconst i, 1)) (hp : pc + 1 = pc') (hv : Int32.ofInt i = v) (r : Go p e below P T (mkF m pc' Ls (.int v :: st))) : Go p e below P T (mkF m pc Ls (st)) := by
  subst hp; exact Go.of (fun _ q => XS.iconst X.here hx rfl hd (by rw [hv]; exact q)) r
theorem gbipush (X : Stand p l e R s m args below meth c T locs cells slots) (hx : p.tables.exec = Jvm.exec) {i : Int} (v : Int32) (pc' : Nat) (hd : decode c.code pc = .ok (.bipush i, 2)) (hp : pc + 2 = pc') (hv : (Int8.ofInt i).toInt32 = v) (r : Go p e below P T (mkF m pc' Ls (.int v :: st))) : Go p e below P T (mkF m pc Ls (st)) := by
  subst hp; exact Go.of (fun _ q => XS.bipush X.here hx rfl hd (by rw [hv]; exact q)) r
theorem gsipush (X : Stand p l e R s m args below meth c T locs cells slots) (hx : p.tables.exec = Jvm.exec) {i : Int} (v : Int32) (pc' : Nat) (hd : decode c.code pc = .ok (.sipush i, 3)) (hp : pc + 3 = pc') (hv : (Int16.ofInt i).toInt32 = v) (r : Go p e below P T (mkF m pc' Ls (.int v :: st))) : Go p e below P T (mkF m pc Ls (st)) := by
  subst hp; exact Go.of (fun _ q => XS.sipush X.here hx rfl hd (by rw [hv]; exact q)) r
theorem glconst (X : Stand p l e R s m args below meth c T locs cells slots) (hx : p.tables.exec = Jvm.exec) {k : Fin 2} (v : Int64) (pc' : Nat) (hd : decode c.code pc = .ok (.lconst k, 1)) (hp : pc + 1 = pc') (hv : Int64.ofNat k = v) (r : Go p e below P T (mkF m pc' Ls (.long v :: st))) : Go p e below P T (mkF m pc Ls (st)) := by
  subst hp; exact Go.of (fun _ q => XS.lconst X.here hx rfl hd (by rw [hv]; exact q)) r
theorem gaconstNull (X : Stand p l e R s m args below meth c T locs cells slots) (hx : p.tables.exec = Jvm.exec) (pc' : Nat) (hd : decode c.code pc = .ok (.aconst_null, 1)) (hp : pc + 1 = pc') (r : Go p e below P T (mkF m pc' Ls (.null :: st))) : Go p e below P T (mkF m pc Ls (st)) := by
  subst hp; exact Go.of (fun _ q => XS.aconstNull X.here hx rfl hd q) r
theorem giadd (X : Stand p l e R s m args below meth c T locs cells slots) (hx : p.tables.exec = Jvm.exec) {x y : Int32} (pc' : Nat) (hd : decode c.code pc = .ok (.iadd, 1)) (hp : pc + 1 = pc') (r : Go p e below P T (mkF m pc' Ls (.int (x + y) :: st))) : Go p e below P T (mkF m pc Ls (.int y :: .int x :: st)) := by
  subst hp; exact Go.of (fun _ q => XS.iadd X.here hx rfl hd rfl q) r
theorem gisub (X : Stand p l e R s m args below meth c T locs cells slots) (hx : p.tables.exec = Jvm.exec) {x y : Int32} (pc' : Nat) (hd : decode c.code pc = .ok (.isub, 1)) (hp : pc + 1 = pc') (r : Go p e below P T (mkF m pc' Ls (.int (x - y) :: st))) : Go p e below P T (mkF m pc Ls (.int y :: .int x :: st)) := by
  subst hp; exact Go.of (fun _ q => XS.isub X.here hx rfl hd rfl q) r
theorem gimul (X : Stand p l e R s m args below meth c T locs cells slots) (hx : p.tables.exec = Jvm.exec) {x y : Int32} (pc' : Nat) (hd : decode c.code pc = .ok (.imul, 1)) (hp : pc + 1 = pc') (r : Go p e below P T (mkF m pc' Ls (.int (x * y) :: st))) : Go p e below P T (mkF m pc Ls (.int y :: .int x :: st)) := by
  subst hp; exact Go.of (fun _ q => XS.imul X.here hx rfl hd rfl q) r
theorem giand (X : Stand p l e R s m args below meth c T locs cells slots) (hx : p.tables.exec = Jvm.exec) {x y : Int32} (pc' : Nat) (hd : decode c.code pc = .ok (.iand, 1)) (hp : pc + 1 = pc') (r : Go p e below P T (mkF m pc' Ls (.int (x &&& y) :: st))) : Go p e below P T (mkF m pc Ls (.int y :: .int x :: st)) := by
  subst hp; exact Go.of (fun _ q => XS.iand X.here hx rfl hd rfl q) r
theorem gior (X : Stand p l e R s m args below meth c T locs cells slots) (hx : p.tables.exec = Jvm.exec) {x y : Int32} (pc' : Nat) (hd : decode c.code pc = .ok (.ior, 1)) (hp : pc + 1 = pc') (r : Go p e below P T (mkF m pc' Ls (.int (x ||| y) :: st))) : Go p e below P T (mkF m pc Ls (.int y :: .int x :: st)) := by
  subst hp; exact Go.of (fun _ q => XS.ior X.here hx rfl hd rfl q) r
theorem gixor (X : Stand p l e R s m args below meth c T locs cells slots) (hx : p.tables.exec = Jvm.exec) {x y : Int32} (pc' : Nat) (hd : decode c.code pc = .ok (.ixor, 1)) (hp : pc + 1 = pc') (r : Go p e below P T (mkF m pc' Ls (.int (x ^^^ y) :: st))) : Go p e below P T (mkF m pc Ls (.int y :: .int x :: st)) := by
  subst hp; exact Go.of (fun _ q => XS.ixor X.here hx rfl hd rfl q) r
theorem gishl (X : Stand p l e R s m args below meth c T locs cells slots) (hx : p.tables.exec = Jvm.exec) {x y : Int32} (pc' : Nat) (hd : decode c.code pc = .ok (.ishl, 1)) (hp : pc + 1 = pc') (r : Go p e below P T (mkF m pc' Ls (.int (x <<< (y &&& 31)) :: st))) : Go p e below P T (mkF m pc Ls (.int y :: .int x :: st)) := by
  subst hp; exact Go.of (fun _ q => XS.ishl X.here hx rfl hd rfl q) r
theorem gishr (X : Stand p l e R s m args below meth c T locs cells slots) (hx : p.tables.exec = Jvm.exec) {x y : Int32} (pc' : Nat) (hd : decode c.code pc = .ok (.ishr, 1)) (hp : pc + 1 = pc') (r : Go p e below P T (mkF m pc' Ls (.int (x >>> (y &&& 31)) :: st))) : Go p e below P T (mkF m pc Ls (.int y :: .int x :: st)) := by
  subst hp; exact Go.of (fun _ q => XS.ishr X.here hx rfl hd rfl q) r
theorem giushr (X : Stand p l e R s m args below meth c T locs cells slots) (hx : p.tables.exec = Jvm.exec) {x y : Int32} (pc' : Nat) (hd : decode c.code pc = .ok (.iushr, 1)) (hp : pc + 1 = pc') (r : Go p e below P T (mkF m pc' Ls (.int ((x.toUInt32 >>> (y &&& 31).toUInt32).toInt32) :: st))) : Go p e below P T (mkF m pc Ls (.int y :: .int x :: st)) := by
  subst hp; exact Go.of (fun _ q => XS.iushr X.here hx rfl hd rfl q) r
theorem gladd (X : Stand p l e R s m args below meth c T locs cells slots) (hx : p.tables.exec = Jvm.exec) {x y : Int64} (pc' : Nat) (hd : decode c.code pc = .ok (.ladd, 1)) (hp : pc + 1 = pc') (r : Go p e below P T (mkF m pc' Ls (.long (x + y) :: st))) : Go p e below P T (mkF m pc Ls (.long y :: .long x :: st)) := by
  subst hp; exact Go.of (fun _ q => XS.ladd X.here hx rfl hd rfl q) r
theorem glsub (X : Stand p l e R s m args below meth c T locs cells slots) (hx : p.tables.exec = Jvm.exec) {x y : Int64} (pc' : Nat) (hd : decode c.code pc = .ok (.lsub, 1)) (hp : pc + 1 = pc') (r : Go p e below P T (mkF m pc' Ls (.long (x - y) :: st))) : Go p e below P T (mkF m pc Ls (.long y :: .long x :: st)) := by
  subst hp; exact Go.of (fun _ q => XS.lsub X.here hx rfl hd rfl q) r
theorem glmul (X : Stand p l e R s m args below meth c T locs cells slots) (hx : p.tables.exec = Jvm.exec) {x y : Int64} (pc' : Nat) (hd : decode c.code pc = .ok (.lmul, 1)) (hp : pc + 1 = pc') (r : Go p e below P T (mkF m pc' Ls (.long (x * y) :: st))) : Go p e below P T (mkF m pc Ls (.long y :: .long x :: st)) := by
  subst hp; exact Go.of (fun _ q => XS.lmul X.here hx rfl hd rfl q) r
theorem gland (X : Stand p l e R s m args below meth c T locs cells slots) (hx : p.tables.exec = Jvm.exec) {x y : Int64} (pc' : Nat) (hd : decode c.code pc = .ok (.land, 1)) (hp : pc + 1 = pc') (r : Go p e below P T (mkF m pc' Ls (.long (x &&& y) :: st))) : Go p e below P T (mkF m pc Ls (.long y :: .long x :: st)) := by
  subst hp; exact Go.of (fun _ q => XS.land X.here hx rfl hd rfl q) r
theorem glor (X : Stand p l e R s m args below meth c T locs cells slots) (hx : p.tables.exec = Jvm.exec) {x y : Int64} (pc' : Nat) (hd : decode c.code pc = .ok (.lor, 1)) (hp : pc + 1 = pc') (r : Go p e below P T (mkF m pc' Ls (.long (x ||| y) :: st))) : Go p e below P T (mkF m pc Ls (.long y :: .long x :: st)) := by
  subst hp; exact Go.of (fun _ q => XS.lor X.here hx rfl hd rfl q) r
theorem glxor (X : Stand p l e R s m args below meth c T locs cells slots) (hx : p.tables.exec = Jvm.exec) {x y : Int64} (pc' : Nat) (hd : decode c.code pc = .ok (.lxor, 1)) (hp : pc + 1 = pc') (r : Go p e below P T (mkF m pc' Ls (.long (x ^^^ y) :: st))) : Go p e below P T (mkF m pc Ls (.long y :: .long x :: st)) := by
  subst hp; exact Go.of (fun _ q => XS.lxor X.here hx rfl hd rfl q) r
theorem gidiv (X : Stand p l e R s m args below meth c T locs cells slots) (hx : p.tables.exec = Jvm.exec) {x y : Int32} (pc' : Nat) (hd : decode c.code pc = .ok (.idiv, 1)) (hp : pc + 1 = pc') (hy : y ≠ 0) (r : Go p e below P T (mkF m pc' Ls (.int (x / y) :: st))) : Go p e below P T (mkF m pc Ls (.int y :: .int x :: st)) := by
  subst hp; exact Go.of (fun _ q => XS.idiv X.here hx rfl hd rfl hy q) r
theorem girem (X : Stand p l e R s m args below meth c T locs cells slots) (hx : p.tables.exec = Jvm.exec) {x y : Int32} (pc' : Nat) (hd : decode c.code pc = .ok (.irem, 1)) (hp : pc + 1 = pc') (hy : y ≠ 0) (r : Go p e below P T (mkF m pc' Ls (.int (x % y) :: st))) : Go p e below P T (mkF m pc Ls (.int y :: .int x :: st)) := by
  subst hp; exact Go.of (fun _ q => iremM X hx rfl hd rfl hy q) r
theorem gineg (X : Stand p l e R s m args below meth c T locs cells slots) (hx : p.tables.exec = Jvm.exec) {x : Int32} (pc' : Nat) (hd : decode c.code pc = .ok (.ineg, 1)) (hp : pc + 1 = pc') (r : Go p e below P T (mkF m pc' Ls (.int (-x) :: st))) : Go p e below P T (mkF m pc Ls (.int x :: st)) := by
  subst hp; exact Go.of (fun _ q => XS.ineg X.here hx rfl hd rfl q) r
theorem gi2b (X : Stand p l e R s m args below meth c T locs cells slots) (hx : p.tables.exec = Jvm.exec) {x : Int32} (pc' : Nat) (hd : decode c.code pc = .ok (.i2b, 1)) (hp : pc + 1 = pc') (r : Go p e below P T (mkF m pc' Ls (.int (x.toInt8.toInt32) :: st))) : Go p e below P T (mkF m pc Ls (.int x :: st)) := by
  subst hp; exact Go.of (fun _ q => XS.i2b X.here hx rfl hd rfl q) r
theorem gi2s (X : Stand p l e R s m args below meth c T locs cells slots) (hx : p.tables.exec = Jvm.exec) {x : Int32} (pc' : Nat) (hd : decode c.code pc = .ok (.i2s, 1)) (hp : pc + 1 = pc') (r : Go p e below P T (mkF m pc' Ls (.int (x.toInt16.toInt32) :: st))) : Go p e below P T (mkF m pc Ls (.int x :: st)) := by
  subst hp; exact Go.of (fun _ q => XS.i2s X.here hx rfl hd rfl q) r
theorem gi2c (X : Stand p l e R s m args below meth c T locs cells slots) (hx : p.tables.exec = Jvm.exec) {x : Int32} (pc' : Nat) (hd : decode c.code pc = .ok (.i2c, 1)) (hp : pc + 1 = pc') (r : Go p e below P T (mkF m pc' Ls (.int (x.toUInt32.toUInt16.toUInt32.toInt32) :: st))) : Go p e below P T (mkF m pc Ls (.int x :: st)) := by
  subst hp; exact Go.of (fun _ q => XS.i2c X.here hx rfl hd rfl q) r
theorem gi2l (X : Stand p l e R s m args below meth c T locs cells slots) (hx : p.tables.exec = Jvm.exec) {x : Int32} (pc' : Nat) (hd : decode c.code pc = .ok (.i2l, 1)) (hp : pc + 1 = pc') (r : Go p e below P T (mkF m pc' Ls (.long x.toInt64 :: st))) : Go p e below P T (mkF m pc Ls (.int x :: st)) := by
  subst hp; exact Go.of (fun _ q => XS.i2l X.here hx rfl hd rfl q) r
theorem gl2i (X : Stand p l e R s m args below meth c T locs cells slots) (hx : p.tables.exec = Jvm.exec) {x : Int64} (pc' : Nat) (hd : decode c.code pc = .ok (.l2i, 1)) (hp : pc + 1 = pc') (r : Go p e below P T (mkF m pc' Ls (.int x.toInt32 :: st))) : Go p e below P T (mkF m pc Ls (.long x :: st)) := by
  subst hp; exact Go.of (fun _ q => XS.l2i X.here hx rfl hd rfl q) r
theorem glneg (X : Stand p l e R s m args below meth c T locs cells slots) (hx : p.tables.exec = Jvm.exec) {x : Int64} (pc' : Nat) (hd : decode c.code pc = .ok (.lneg, 1)) (hp : pc + 1 = pc') (r : Go p e below P T (mkF m pc' Ls (.long (-x) :: st))) : Go p e below P T (mkF m pc Ls (.long x :: st)) := by
  subst hp; exact Go.of (fun _ q => XS.lneg X.here hx rfl hd rfl q) r
theorem glcmp (X : Stand p l e R s m args below meth c T locs cells slots) (hx : p.tables.exec = Jvm.exec) {x y : Int64} (pc' : Nat) (hd : decode c.code pc = .ok (.lcmp, 1)) (hp : pc + 1 = pc') (r : Go p e below P T (mkF m pc' Ls (.int (if x > y then 1 else if x = y then 0 else -1) :: st))) : Go p e below P T (mkF m pc Ls (.long y :: .long x :: st)) := by
  subst hp; exact Go.of (fun _ q => XS.lcmp X.here hx rfl hd rfl q) r
theorem gpop (X : Stand p l e R s m args below meth c T locs cells slots) (hx : p.tables.exec = Jvm.exec) {x : Value} (pc' : Nat) (hd : decode c.code pc = .ok (.pop, 1)) (hp : pc + 1 = pc') (hc : x.category = 1) (r : Go p e below P T (mkF m pc' Ls (st))) : Go p e below P T (mkF m pc Ls (x :: st)) := by
  subst hp; exact Go.of (fun _ q => XS.pop X.here hx rfl hd rfl hc q) r
theorem gdup (X : Stand p l e R s m args below meth c T locs cells slots) (hx : p.tables.exec = Jvm.exec) {x : Value} (pc' : Nat) (hd : decode c.code pc = .ok (.dup, 1)) (hp : pc + 1 = pc') (hc : x.category = 1) (r : Go p e below P T (mkF m pc' Ls (x :: x :: st))) : Go p e below P T (mkF m pc Ls (x :: st)) := by
  subst hp; exact Go.of (fun _ q => XS.dup X.here hx rfl hd rfl hc q) r
theorem gdupX1 (X : Stand p l e R s m args below meth c T locs cells slots) (hx : p.tables.exec = Jvm.exec) {x y : Value} (pc' : Nat) (hd : decode c.code pc = .ok (.dup_x1, 1)) (hp : pc + 1 = pc') (hc : x.category = 1) (hc2 : y.category = 1) (r : Go p e below P T (mkF m pc' Ls (x :: y :: x :: st))) : Go p e below P T (mkF m pc Ls (x :: y :: st)) := by
  subst hp; exact Go.of (fun _ q => XS.dupX1 X.here hx rfl hd rfl hc hc2 q) r
theorem gdup2 (X : Stand p l e R s m args below meth c T locs cells slots) (hx : p.tables.exec = Jvm.exec) {x y : Value} (pc' : Nat) (hd : decode c.code pc = .ok (.dup2, 1)) (hp : pc + 1 = pc') (hc : x.category = 1) (hc2 : y.category = 1) (r : Go p e below P T (mkF m pc' Ls (x :: y :: x :: y :: st))) : Go p e below P T (mkF m pc Ls (x :: y :: st)) := by
  subst hp; exact Go.of (fun _ q => Jvm.Free.XT.dup2 X.here hx rfl hd rfl hc hc2 q) r
theorem gswap (X : Stand p l e R s m args below meth c T locs cells slots) (hx : p.tables.exec = Jvm.exec) {x y : Value} (pc' : Nat) (hd : decode c.code pc = .ok (.swap, 1)) (hp : pc + 1 = pc') (hc : x.category = 1) (hc2 : y.category = 1) (r : Go p e below P T (mkF m pc' Ls (y :: x :: st))) : Go p e below P T (mkF m pc Ls (x :: y :: st)) := by
  subst hp; exact Go.of (fun _ q => XS.swap X.here hx rfl hd rfl hc hc2 q) r
theorem giinc (X : Stand p l e R s m args below meth c T locs cells slots) (hx : p.tables.exec = Jvm.exec) {k : Nat} {cst : Int} {x : Int32} (l' : Array Slot) (pc' : Nat) (hd : decode c.code pc = .ok (.iinc k cst, 3)) (hp : pc + 3 = pc') (hl : Ls[k]? = some (.val (.int x))) (hl' : storeLocals Ls k (.int (x + Int32.ofInt cst)) = some l') (r : Go p e below P T (mkF m pc' l' (st))) : Go p e below P T (mkF m pc Ls (st)) := by
  subst hp; exact Go.of (fun _ q => XS.iinc X.here hx rfl hd hl hl' q) r
theorem ggoto (X : Stand p l e R s m args below meth c T locs cells slots) (hx : p.tables.exec = Jvm.exec) {o : Int} (pc' : Nat) (hd : decode c.code pc = .ok (.goto o, 3)) (ho : 0 ≤ (pc : Int) + o) (hp : ((pc : Int) + o).toNat = pc') (r : Go p e below P T (mkF m pc' Ls (st))) : Go p e below P T (mkF m pc Ls (st)) :=
  Go.of (fun _ q => XS.goto X.here hx rfl rfl hd ho hp q) r
theorem gifYes (X : Stand p l e R s m args below meth c T locs cells slots) (hx : p.tables.exec = Jvm.exec) {o : Int} {cd : ClassFile.Cond} {x : Int32} (pc' : Nat) (hd : decode c.code pc = .ok (.ifCond cd o, 3)) (hc : ifCond.holds cd x = true) (ho : 0 ≤ (pc : Int) + o) (hp : ((pc : Int) + o).toNat = pc') (r : Go p e below P T (mkF m pc' Ls (st))) : Go p e below P T (mkF m pc Ls (.int x :: st)) :=
  Go.of (fun _ q => XS.ifYes X.here hx rfl rfl hd rfl hc ho hp q) r
theorem gifNo (X : Stand p l e R s m args below meth c T locs cells slots) (hx : p.tables.exec = Jvm.exec) {o : Int} {cd : ClassFile.Cond} {x : Int32} (pc' : Nat) (hd : decode c.code pc = .ok (.ifCond cd o, 3)) (hp : pc + 3 = pc') (hc : ifCond.holds cd x = false) (r : Go p e below P T (mkF m pc' Ls (st))) : Go p e below P T (mkF m pc Ls (.int x :: st)) := by
  subst hp; exact Go.of (fun _ q => XS.ifNo X.here hx rfl hd rfl hc q) r
theorem gicmpYes (X : Stand p l e R s m args below meth c T locs cells slots) (hx : p.tables.exec = Jvm.exec) {o : Int} {cd : ClassFile.Cond} {x y : Int32} (pc' : Nat) (hd : decode c.code pc = .ok (.if_icmp cd o, 3)) (hc : if_icmp.holds cd x y = true) (ho : 0 ≤ (pc : Int) + o) (hp : ((pc : Int) + o).toNat = pc') (r : Go p e below P T (mkF m pc' Ls (st))) : Go p e below P T (mkF m pc Ls (.int y :: .int x :: st)) :=
  Go.of (fun _ q => XS.icmpYes X.here hx rfl rfl hd rfl hc ho hp q) r
theorem gicmpNo (X : Stand p l e R s m args below meth c T locs cells slots) (hx : p.tables.exec = Jvm.exec) {o : Int} {cd : ClassFile.Cond} {x y : Int32} (pc' : Nat) (hd : decode c.code pc = .ok (.if_icmp cd o, 3)) (hp : pc + 3 = pc') (hc : if_icmp.holds cd x y = false) (r : Go p e below P T (mkF m pc' Ls (st))) : Go p e below P T (mkF m pc Ls (.int y :: .int x :: st)) := by
  subst hp; exact Go.of (fun _ q => XS.icmpNo X.here hx rfl hd rfl hc q) r
theorem gifnullYes (X : Stand p l e R s m args below meth c T locs cells slots) (hx : p.tables.exec = Jvm.exec) {o : Int} (pc' : Nat) (hd : decode c.code pc = .ok (.ifnull o, 3)) (ho : 0 ≤ (pc : Int) + o) (hp : ((pc : Int) + o).toNat = pc') (r : Go p e below P T (mkF m pc' Ls (st))) : Go p e below P T (mkF m pc Ls (.null :: st)) :=
  Go.of (fun _ q => XS.ifnullYes X.here hx rfl rfl hd rfl ho hp q) r
theorem gifnullNo (X : Stand p l e R s m args below meth c T locs cells slots) (hx : p.tables.exec = Jvm.exec) {o : Int} {b : Addr} (pc' : Nat) (hd : decode c.code pc = .ok (.ifnull o, 3)) (hp : pc + 3 = pc') (r : Go p e below P T (mkF m pc' Ls (st))) : Go p e below P T (mkF m pc Ls (.ref b :: st)) := by
  subst hp; exact Go.of (fun _ q => XS.ifnullNo X.here hx rfl hd rfl q) r
theorem gifnonnullYes (X : Stand p l e R s m args below meth c T locs cells slots) (hx : p.tables.exec = Jvm.exec) {o : Int} {b : Addr} (pc' : Nat) (hd : decode c.code pc = .ok (.ifnonnull o, 3)) (ho : 0 ≤ (pc : Int) + o) (hp : ((pc : Int) + o).toNat = pc') (r : Go p e below P T (mkF m pc' Ls (st))) : Go p e below P T (mkF m pc Ls (.ref b :: st)) :=
  Go.of (fun _ q => XS.ifnonnullYes X.here hx rfl rfl hd rfl ho hp q) r
theorem gifnonnullNo (X : Stand p l e R s m args below meth c T locs cells slots) (hx : p.tables.exec = Jvm.exec) {o : Int} (pc' : Nat) (hd : decode c.code pc = .ok (.ifnonnull o, 3)) (hp : pc + 3 = pc') (r : Go p e below P T (mkF m pc' Ls (st))) : Go p e below P T (mkF m pc Ls (.null :: st)) := by
  subst hp; exact Go.of (fun _ q => XS.ifnonnullNo X.here hx rfl hd rfl q) r
theorem gacmp (X : Stand p l e R s m args below meth c T locs cells slots) (hx : p.tables.exec = Jvm.exec) {o : Int} {cd : ACond} {x y : Value} (same : Bool) (pc' : Nat) (hd : decode c.code pc = .ok (.if_acmp cd o, 3)) (h1 : x.isRef = true) (h2 : y.isRef = true) (hq : decide (x = y) = same) (ho : 0 ≤ (pc : Int) + o) (hp : pc' = if acV cd same = true then ((pc : Int) + o).toNat else pc + 3) (r : Go p e below P T (mkF m pc' Ls st)) : Go p e below P T (mkF m pc Ls (y :: x :: st)) :=
  Go.of (fun _ q => acmp X hx rfl h1 h2 rfl hd rfl hq ho hp q) r
theorem gcheckcastNull (X : Stand p l e R s m args below meth c T locs cells slots) (hx : p.tables.exec = Jvm.exec) {index : Nat} (pc' : Nat) (hd : decode c.code pc = .ok (.checkcast index, 3)) (hp : pc + 3 = pc') (r : Go p e below P T (mkF m pc' Ls (.null :: st))) : Go p e below P T (mkF m pc Ls (.null :: st)) := by
  subst hp; exact Go.of (fun _ q => X.checkcastNull hx (g := mkF m pc Ls (.null :: st)) rfl rfl hd _ q) r
theorem ginstanceofNull (X : Stand p l e R s m args below meth c T locs cells slots) (hx : p.tables.exec = Jvm.exec) {index : Nat} (pc' : Nat) (hd : decode c.code pc = .ok (.instanceof index, 3)) (hp : pc + 3 = pc') (r : Go p e below P T (mkF m pc' Ls (.int 0 :: st))) : Go p e below P T (mkF m pc Ls (.null :: st)) := by
  subst hp; exact Go.of (fun _ q => X.instanceofNull hx (g := mkF m pc Ls (.null :: st)) rfl rfl hd _ q) r
theorem gldcI (X : Stand p l e R s m args below meth c T locs cells slots) (hx : p.tables.exec = Jvm.exec) (hZ : Z.Warmed39 s.vm) {own : String} {index : Nat} {v : Int32} (hown : s.vm.findClass own = some m.cls) (w : (Jvm.Cond.constant own index v).before a0 Z = true) (pc' : Nat) (hd : decode c.code pc = .ok (.ldc index, 2)) (hp : pc + 2 = pc') (r : Go p e below P T (mkF m pc' Ls (.int v :: st))) : Go p e below P T (mkF m pc Ls (st)) := by
  subst hp; exact Go.of (fun _ q => X.ldcInt hx hown (mvT hZ w) (g := mkF m pc Ls st) rfl hd _ q) r
theorem gldcWI (X : Stand p l e R s m args below meth c T locs cells slots) (hx : p.tables.exec = Jvm.exec) (hZ : Z.Warmed39 s.vm) {own : String} {index : Nat} {v : Int32} (hown : s.vm.findClass own = some m.cls) (w : (Jvm.Cond.constant own index v).before a0 Z = true) (pc' : Nat) (hd : decode c.code pc = .ok (.ldc_w index, 3)) (hp : pc + 3 = pc') (r : Go p e below P T (mkF m pc' Ls (.int v :: st))) : Go p e below P T (mkF m pc Ls (st)) := by
  subst hp; exact Go.of (fun _ q => X.ldcwInt hx hown (mvT hZ w) (g := mkF m pc Ls st) rfl hd _ q) r
theorem gldc2J (X : Stand p l e R s m args below meth c T locs cells slots) (hx : p.tables.exec = Jvm.exec) (hZ : Z.Warmed39 s.vm) {own : String} {index : Nat} {v : Int64} (hown : s.vm.findClass own = some m.cls) (w : (Jvm.Cond.constantLong own index v).before a0 Z = true) (pc' : Nat) (hd : decode c.code pc = .ok (.ldc2_w index, 3)) (hp : pc + 3 = pc') (r : Go p e below P T (mkF m pc' Ls (.long v :: st))) : Go p e below P T (mkF m pc Ls (st)) := by
  subst hp; exact Go.of (fun _ q => X.ldc2Long hx hown (mvT hZ w) (g := mkF m pc Ls st) rfl hd _ q) r
theorem garrlen (X : Stand p l e R s m args below meth c T locs cells slots) (hx : p.tables.exec = Jvm.exec) (hZ : Z.Warmed39 s.vm) (eT : T.heap = h) {a : Addr} {k : ClassId} {ty : FieldType} {z : Int32} {vs : List Value} {dv : Value} (A : Arv Z h a k ty z vs dv) (pc' : Nat) (hd : decode c.code pc = .ok (.arraylength, 1)) (hp : pc + 1 = pc') (r : Go p e below P T (mkF m pc' Ls (.int z :: st))) : Go p e below P T (mkF m pc Ls (.ref a :: st)) := by
  subst hp
  obtain ⟨cl, A1, -, S1, N1, -, -⟩ := A
  refine Go.of (fun _ q => X.arraylength hx (by rw [eT]; exact A1.1) (State.isArrayOf_alike hZ.alike A1.2.1) (g := mkF m pc Ls (.ref a :: st)) rfl rfl hd _ (by rw [len_of S1 N1]; exact q)) r
theorem giaload (X : Stand p l e R s m args below meth c T locs cells slots) (hx : p.tables.exec = Jvm.exec) (hZ : Z.Warmed39 s.vm) (eT : T.heap = h) {a : Addr} {k : ClassId} {z j : Int32} {vs : List Value} {dv : Value} (A : Arv Z h a k .int z vs dv) (v : Value) (hj : ¬ j < 0) (hj2 : j < z) (hv : vs.getD j.toNatClampNeg dv = v) (pc' : Nat) (hd : decode c.code pc = .ok (.iaload, 1)) (hp : pc + 1 = pc') (r : Go p e below P T (mkF m pc' Ls (v :: st))) : Go p e below P T (mkF m pc Ls (.int j :: .ref a :: st)) := by
  subst hp
  obtain ⟨cl, A1, -, S1, N1, H1, -⟩ := A
  have hin := inb_of S1 ⟨hj, hj2⟩
  exact Go.of (fun _ q => X.iaload hx (by rw [eT]; exact A1.1) (State.isArrayOf_alike hZ.alike A1.2.1) A1.2.2 hin (H1.at hin hv) (g := mkF m pc Ls (.int j :: .ref a :: st)) rfl rfl hd _ q) r
theorem gcaload (X : Stand p l e R s m args below meth c T locs cells slots) (hx : p.tables.exec = Jvm.exec) (hZ : Z.Warmed39 s.vm) (eT : T.heap = h) {a : Addr} {k : ClassId} {z j : Int32} {vs : List Value} {dv : Value} (A : Arv Z h a k .char z vs dv) (v : Value) (hj : ¬ j < 0) (hj2 : j < z) (hv : vs.getD j.toNatClampNeg dv = v) (pc' : Nat) (hd : decode c.code pc = .ok (.caload, 1)) (hp : pc + 1 = pc') (r : Go p e below P T (mkF m pc' Ls (v :: st))) : Go p e below P T (mkF m pc Ls (.int j :: .ref a :: st)) := by
  subst hp
  obtain ⟨cl, A1, -, S1, N1, H1, -⟩ := A
  have hin := inb_of S1 ⟨hj, hj2⟩
  exact Go.of (fun _ q => X.caload hx (by rw [eT]; exact A1.1) (State.isArrayOf_alike hZ.alike A1.2.1) A1.2.2 hin (H1.at hin hv) (g := mkF m pc Ls (.int j :: .ref a :: st)) rfl rfl hd _ q) r
theorem gbaload (X : Stand p l e R s m args below meth c T locs cells slots) (hx : p.tables.exec = Jvm.exec) (hZ : Z.Warmed39 s.vm) (eT : T.heap = h) {a : Addr} {k : ClassId} {z j : Int32} {vs : List Value} {dv : Value} (A : Arv Z h a k .byte z vs dv) (v : Value) (hj : ¬ j < 0) (hj2 : j < z) (hv : vs.getD j.toNatClampNeg dv = v) (pc' : Nat) (hd : decode c.code pc = .ok (.baload, 1)) (hp : pc + 1 = pc') (r : Go p e below P T (mkF m pc' Ls (v :: st))) : Go p e below P T (mkF m pc Ls (.int j :: .ref a :: st)) := by
  subst hp
  obtain ⟨cl, A1, -, S1, N1, H1, -⟩ := A
  have hin := inb_of S1 ⟨hj, hj2⟩
  exact Go.of (fun _ q => X.baloadBytes hx (by rw [eT]; exact A1.1) (State.isArrayOf_alike hZ.alike A1.2.1) A1.2.2 hin (H1.at hin hv) (g := mkF m pc Ls (.int j :: .ref a :: st)) rfl rfl hd _ q) r
theorem glaload (X : Stand p l e R s m args below meth c T locs cells slots) (hx : p.tables.exec = Jvm.exec) (hZ : Z.Warmed39 s.vm) (eT : T.heap = h) {a : Addr} {k : ClassId} {z j : Int32} {vs : List Value} {dv : Value} (A : Arv Z h a k .long z vs dv) (v : Value) (hj : ¬ j < 0) (hj2 : j < z) (hv : vs.getD j.toNatClampNeg dv = v) (pc' : Nat) (hd : decode c.code pc = .ok (.laload, 1)) (hp : pc + 1 = pc') (r : Go p e below P T (mkF m pc' Ls (v :: st))) : Go p e below P T (mkF m pc Ls (.int j :: .ref a :: st)) := by
  subst hp
  obtain ⟨cl, A1, -, S1, N1, H1, -⟩ := A
  have hin := inb_of S1 ⟨hj, hj2⟩
  exact Go.of (fun _ q => X.laload hx (by rw [eT]; exact A1.1) (State.isArrayOf_alike hZ.alike A1.2.1) A1.2.2 hin (H1.at hin hv) (g := mkF m pc Ls (.int j :: .ref a :: st)) rfl rfl hd _ q) r
theorem gaaload (X : Stand p l e R s m args below meth c T locs cells slots) (hx : p.tables.exec = Jvm.exec) (hZ : Z.Warmed39 s.vm) (eT : T.heap = h) {a : Addr} {k : ClassId} {ty : FieldType} {z j : Int32} {vs : List Value} {dv : Value} (A : Arv Z h a k ty z vs dv) (v : Value) (hj : ¬ j < 0) (hj2 : j < z) (hv : vs.getD j.toNatClampNeg dv = v) (hty : ty.isReference = true) (pc' : Nat) (hd : decode c.code pc = .ok (.aaload, 1)) (hp : pc + 1 = pc') (r : Go p e below P T (mkF m pc' Ls (v :: st))) : Go p e below P T (mkF m pc Ls (.int j :: .ref a :: st)) := by
  subst hp
  obtain ⟨cl, A1, -, S1, N1, H1, -⟩ := A
  have hin := inb_of S1 ⟨hj, hj2⟩
  exact Go.of (fun _ q => X.aaload hx (by rw [eT]; exact A1.1) (State.isArrayOf_alike hZ.alike A1.2.1) hty A1.2.2 hin (H1.at hin hv) (g := mkF m pc Ls (.int j :: .ref a :: st)) rfl rfl hd _ q) r
theorem ggetF (X : Stand p l e R s m args below meth c T locs cells slots) (hx : p.tables.exec = Jvm.exec) (hZ : Z.Warmed39 s.vm) {own R0 O n d host : String} {index : Nat} (hown : s.vm.findClass own = some m.cls) (w : (Jvm.Cond.fieldLink own index R0 n d).before a0 Z = true ∨ (Jvm.Cond.fieldLinkNest own index R0 n d host).before a0 Z = true) (via : Via Z R0 O n d) (eT : T.heap = h) {a : Addr} {v : Value} (F : Fld Z h a O n d v) (pc' : Nat) (hd : decode c.code pc = .ok (.getfield index, 3)) (hp : pc + 3 = pc') (r : ∀ T', Stand p l e R s m args below meth c T' locs cells slots → T'.heap = h → Go p e below P T' (mkF m pc' Ls (v :: st))) : Go p e below P T (mkF m pc Ls (.ref a :: st)) := by
  subst hp
  obtain ⟨T', X', e', stp⟩ := getF X hx hZ hown w via eT F (g := mkF m pc Ls (.ref a :: st)) rfl rfl hd
  exact Go.of stp (r T' X' e')
theorem ggetS (X : Stand p l e R s m args below meth c T locs cells slots) (hx : p.tables.exec = Jvm.exec) (hZ : Z.Warmed39 s.vm) {own R0 O n d host : String} {index : Nat} (hown : s.vm.findClass own = some m.cls) (w : (Jvm.Cond.fieldLink own index R0 n d).before a0 Z = true ∨ (Jvm.Cond.fieldLinkNest own index R0 n d host).before a0 Z = true) (via : Via Z R0 O n d) (eT : T.heap = h) {v : Value} (F : Sta Z h O n d v) (pc' : Nat) (hd : decode c.code pc = .ok (.getstatic index, 3)) (hp : pc + 3 = pc') (r : ∀ T', Stand p l e R s m args below meth c T' locs cells slots → T'.heap = h → Go p e below P T' (mkF m pc' Ls (v :: st))) : Go p e below P T (mkF m pc Ls st) := by
  subst hp
  obtain ⟨T', X', e', stp⟩ := getS2 X hx hZ hown w via eT F (g := mkF m pc Ls st) rfl hd
  exact Go.of stp (r T' X' e')
theorem gputF (X : Stand p l e R s m args below meth c T locs cells slots) (hx : p.tables.exec = Jvm.exec) (hZ : Z.Warmed39 s.vm) {own R0 O n d host : String} {index : Nat} (hown : s.vm.findClass own = some m.cls) (w : (Jvm.Cond.fieldLink own index R0 n d).before a0 Z = true ∨ (Jvm.Cond.fieldLinkNest own index R0 n d host).before a0 Z = true) (via : Via Z R0 O n d) (eT : T.heap = h) {C : String} {kk : Nat} {ty : FieldType} {a : Addr} {v old : Value} (F : Fld Z h a O n d old) (E : Exa Z h a C) (L : (Jvm.Cond.lays C O n d).before a0 Z = true ∨ ((Jvm.Cond.laysFinal C O n d).before a0 Z = true ∧ own = O ∧ meth.name = "<init>")) (wi : (Jvm.Cond.instantiable C kk).before a0 Z = true) (hty : parseFieldDescriptor d = some ty) (hn : narrow ty v = v) (hf : fits ty v = true) {n0 : Nat} (N : Fr n0 locs) (ge : n0 ≤ a) (pc' : Nat) (hd : decode c.code pc = .ok (.putfield index, 3)) (hp : pc + 3 = pc') (r : ∀ T' h' L', Stand p l e R s m args below meth c T' L' cells slots → T'.heap = h' → Fr n0 L' → Wr h h' a (Jvm.RoadKit.slotOf Z O n d) v → Go p e below P T' (mkF m pc' Ls st)) : Go p e below P T (mkF m pc Ls (v :: .ref a :: st)) := by
  subst hp
  obtain ⟨T', h', X', e', W', stp⟩ := putF X hx hZ hown w via eT F E L wi hty hn hf (g := mkF m pc Ls (v :: .ref a :: st)) rfl rfl hd
  exact Go.of stp (r T' h' _ X' e' (Fr.snoc X' N ge) W')
theorem gnewO (X : Stand p l e R s m args below meth c T locs cells slots) (hx : p.tables.exec = Jvm.exec) (hZ : Z.Warmed39 s.vm) {own C : String} {index n : Nat} (hown : s.vm.findClass own = some m.cls) (w : (Jvm.Cond.classLink own index C).before a0 Z = true) (wi : (Jvm.Cond.instantiable C n).before a0 Z = true) (wz : (Jvm.Cond.initialized C).before a0 Z = true) (eT : T.heap = h) (cells' slots' : Nat) (hcl : cells + 1 = cells') (hsl : slots + n = slots') (hc : cells' ≤ R.cells) (hl : slots' ≤ R.slots) (pc' : Nat) (hd : decode c.code pc = .ok (.new index, 3)) (hp : pc + 3 = pc') (r : ∀ T' h' a, Stand p l e R s m args below meth c T' locs cells' slots' → T'.heap = h' → a = h.size → Ext h h' → Exa Z h' a C → (∀ {O nm d : String} {ty : FieldType}, Laid Z a0 C O nm d → parseFieldDescriptor d = some ty → Fld Z h' a O nm d (defaultValue ty)) → Go p e below P T' (mkF m pc' Ls (.ref a :: st))) : Go p e below P T (mkF m pc Ls st) := by
  subst hp hcl hsl
  obtain ⟨T', h', X', e', E', A', D', -, stp⟩ := newO X hx hZ hown w wi wz eT (g := mkF m pc Ls st) rfl hd hc hl
  exact Go.of stp (r T' h' _ X' e' rfl E' A' D')
theorem gnewP (X : Stand p l e R s m args below meth c T locs cells slots) (hx : p.tables.exec = Jvm.exec) (hZ : Z.Warmed39 s.vm) {aty : ArrayType} (w : (Jvm.Cond.arrayClass (newarray.typeOf aty)).before a0 Z = true) (eT : T.heap = h) {n : Int32} (hn : ¬ n < 0) (cap : Nat) (hcap : n.toNatClampNeg ≤ cap) (hb : cap * 8 ≤ 536870912) (cells' slots' : Nat) (hcl : cells + 1 = cells') (hsl : slots + cap = slots') (hc : cells' ≤ R.cells) (hl : slots' ≤ R.slots) (pc' : Nat) (hd : decode c.code pc = .ok (.newarray aty, 2)) (hp : pc + 2 = pc') (r : ∀ T' h' a k, Stand p l e R s m args below meth c T' locs cells' slots' → T'.heap = h' → a = h.size → Ext h h' → Arv Z h' a k (newarray.typeOf aty) n [] (defaultValue (newarray.typeOf aty)) → Go p e below P T' (mkF m pc' Ls (.ref a :: st))) : Go p e below P T (mkF m pc Ls (.int n :: st)) := by
  subst hp hcl hsl
  obtain ⟨T', h', k, X', e', E', A', stp⟩ := newP X hx hZ w eT (g := mkF m pc Ls (.int n :: st)) rfl hd rfl hn hcap hb hc hl
  exact Go.of stp (r T' h' _ k X' e' rfl E' (Arv.new A' hn))
theorem gcastore (X : Stand p l e R s m args below meth c T locs cells slots) (hx : p.tables.exec = Jvm.exec) (hZ : Z.Warmed39 s.vm) (eT : T.heap = h) {a : Addr} {k : ClassId} {z j x : Int32} {vs : List Value} {dv : Value} (A : Arv Z h a k .char z vs dv) (hj : ¬ j < 0) (hj2 : j < z) (i : Nat) (hji : j.toNatClampNeg = i) (hi : i < vs.length) {n0 : Nat} (N : Fr n0 locs) (ge : n0 ≤ a) (pc' : Nat) (hd : decode c.code pc = .ok (.castore, 1)) (hp : pc + 1 = pc') (r : ∀ T' h' L', Stand p l e R s m args below meth c T' L' cells slots → T'.heap = h' → Fr n0 L' → Wr h h' a j.toNatClampNeg (.int (nar .char x)) → Arv Z h' a k .char z (vs.set i (.int (nar .char x))) dv → Go p e below P T' (mkF m pc' Ls st)) : Go p e below P T (mkF m pc Ls (.int x :: .int j :: .ref a :: st)) := by
  subst hp
  obtain ⟨cl, A1, q1, S1, N1, H1, G1⟩ := A
  have hin := inb_of S1 ⟨hj, hj2⟩
  obtain ⟨T', h', X', e', W', stp⟩ := stC X hx hZ eT A1 hin (g := mkF m pc Ls (.int x :: .int j :: .ref a :: st)) rfl rfl hd
  exact Go.of stp (r T' h' _ X' e' (Fr.snoc X' N ge) W' (Arv.set A1 q1 S1 N1 H1 G1 (fits_nar_char x) W' i hji hi))
theorem gbastore (X : Stand p l e R s m args below meth c T locs cells slots) (hx : p.tables.exec = Jvm.exec) (hZ : Z.Warmed39 s.vm) (eT : T.heap = h) {a : Addr} {k : ClassId} {z j x : Int32} {vs : List Value} {dv : Value} (A : Arv Z h a k .byte z vs dv) (hj : ¬ j < 0) (hj2 : j < z) (i : Nat) (hji : j.toNatClampNeg = i) (hi : i < vs.length) {n0 : Nat} (N : Fr n0 locs) (ge : n0 ≤ a) (pc' : Nat) (hd : decode c.code pc = .ok (.bastore, 1)) (hp : pc + 1 = pc') (r : ∀ T' h' L', Stand p l e R s m args below meth c T' L' cells slots → T'.heap = h' → Fr n0 L' → Wr h h' a j.toNatClampNeg (.int (nar .byte x)) → Arv Z h' a k .byte z (vs.set i (.int (nar .byte x))) dv → Go p e below P T' (mkF m pc' Ls st)) : Go p e below P T (mkF m pc Ls (.int x :: .int j :: .ref a :: st)) := by
  subst hp
  obtain ⟨cl, A1, q1, S1, N1, H1, G1⟩ := A
  have hin := inb_of S1 ⟨hj, hj2⟩
  obtain ⟨T', h', X', e', W', stp⟩ := stB X hx hZ eT A1 hin (g := mkF m pc Ls (.int x :: .int j :: .ref a :: st)) rfl rfl hd
  exact Go.of stp (r T' h' _ X' e' (Fr.snoc X' N ge) W' (Arv.set A1 q1 S1 N1 H1 G1 (fits_nar_byte x) W' i hji hi))
theorem giastore (X : Stand p l e R s m args below meth c T locs cells slots) (hx : p.tables.exec = Jvm.exec) (hZ : Z.Warmed39 s.vm) (eT : T.heap = h) {a : Addr} {k : ClassId} {z j x : Int32} {vs : List Value} {dv : Value} (A : Arv Z h a k .int z vs dv) (hj : ¬ j < 0) (hj2 : j < z) (i : Nat) (hji : j.toNatClampNeg = i) (hi : i < vs.length) {n0 : Nat} (N : Fr n0 locs) (ge : n0 ≤ a) (pc' : Nat) (hd : decode c.code pc = .ok (.iastore, 1)) (hp : pc + 1 = pc') (r : ∀ T' h' L', Stand p l e R s m args below meth c T' L' cells slots → T'.heap = h' → Fr n0 L' → Wr h h' a j.toNatClampNeg (.int (x)) → Arv Z h' a k .int z (vs.set i (.int (x))) dv → Go p e below P T' (mkF m pc' Ls st)) : Go p e below P T (mkF m pc Ls (.int x :: .int j :: .ref a :: st)) := by
  subst hp
  obtain ⟨cl, A1, q1, S1, N1, H1, G1⟩ := A
  have hin := inb_of S1 ⟨hj, hj2⟩
  obtain ⟨T', h', X', e', W', stp⟩ := stI X hx hZ eT A1 hin (g := mkF m pc Ls (.int x :: .int j :: .ref a :: st)) rfl rfl hd
  exact Go.of stp (r T' h' _ X' e' (Fr.snoc X' N ge) W' (Arv.set A1 q1 S1 N1 H1 G1 (rfl) W' i hji hi))
theorem ginitO (X : Stand p l e R s m args below meth c T locs cells slots) (hx : p.tables.exec = Jvm.exec) (hZ : Z.Warmed39 s.vm) {own : String} {idx : Nat} (hown : s.vm.findClass own = some m.cls) (w1 : (Jvm.Cond.methodLink own idx Lib.objectInit).before a0 Z = true) (w2 : (Jvm.Cond.instanceMethod Lib.objectInit).before a0 Z = true) (w3 : (Jvm.Cond.code Lib.objectInit ⟨#[0xb1]⟩ 1 none).before a0 Z = true) (eT : T.heap = h) (hsz : Ls.size = c.maxLocals) {a : Addr} (hf : 1 ≤ R.frames) (W : Nat) (hW : (st.map fun v => v.category).sum ≤ W) (hl : W + 12 ≤ R.locals) (pc' : Nat) (hd : decode c.code pc = .ok (.invokespecial idx, 3)) (hp : pc + 3 = pc') (r : ∀ T', Stand p l e R s m args below meth c T' locs cells slots → T'.heap = h → Go p e below P T' (mkF m pc' Ls st)) : Go p e below P T (mkF m pc Ls (.ref a :: st)) := by
  subst hp
  obtain ⟨T', X', e', stp⟩ := initO X hx hZ hown w1 w2 w3 eT (g := mkF m pc Ls (.ref a :: st)) rfl hsz rfl hd hf (W := W) (by show 2 * 0 + _ ≤ _; omega) hl
  exact Go.of stp (r T' X' e')
theorem gcast (X : Stand p l e R s m args below meth c T locs cells slots) (hx : p.tables.exec = Jvm.exec) (hZ : Z.Warmed39 s.vm) {own K : String} {index : Nat} (hown : s.vm.findClass own = some m.cls) (w : (Jvm.Cond.classLink own index K).before a0 Z = true) (eT : T.heap = h) {a : Addr} (F : Ins Z h a K true) (pc' : Nat) (hd : decode c.code pc = .ok (.checkcast index, 3)) (hp : pc + 3 = pc') (r : ∀ T', Stand p l e R s m args below meth c T' locs cells slots → T'.heap = h → Go p e below P T' (mkF m pc' Ls (.ref a :: st))) : Go p e below P T (mkF m pc Ls (.ref a :: st)) := by
  subst hp
  obtain ⟨T', X', e', stp⟩ := castY X hx hZ hown w eT F (g := mkF m pc Ls (.ref a :: st)) rfl rfl hd
  exact Go.of stp (r T' X' e')
theorem ginstY (X : Stand p l e R s m args below meth c T locs cells slots) (hx : p.tables.exec = Jvm.exec) (hZ : Z.Warmed39 s.vm) {own K : String} {index : Nat} (hown : s.vm.findClass own = some m.cls) (w : (Jvm.Cond.classLink own index K).before a0 Z = true) (eT : T.heap = h) {a : Addr} (F : Ins Z h a K true) (pc' : Nat) (hd : decode c.code pc = .ok (.instanceof index, 3)) (hp : pc + 3 = pc') (r : ∀ T', Stand p l e R s m args below meth c T' locs cells slots → T'.heap = h → Go p e below P T' (mkF m pc' Ls (.int 1 :: st))) : Go p e below P T (mkF m pc Ls (.ref a :: st)) := by
  subst hp
  obtain ⟨T', X', e', stp⟩ := instY X hx hZ hown w eT F (g := mkF m pc Ls (.ref a :: st)) rfl rfl hd
  exact Go.of stp (r T' X' e')
theorem gspecial (X : Stand p l e R s m args below meth c T locs cells slots) (hx : p.tables.exec = Jvm.exec) (hZ : Z.Warmed39 s.vm) {own : String} {index : Nat} (hown : s.vm.findClass own = some m.cls) {y : MethodName} (hy1 : y.name = "<init>") (w1 : (Jvm.Cond.methodLink own index y).before a0 Z = true) (w2 : (Jvm.Cond.instanceMethod y).before a0 Z = true) {bytes : ByteArray} {maxL : Nat} (w3 : (Jvm.Cond.code y bytes maxL none).before a0 Z = true) (hy : y.cls ≠ "java/lang/invoke/MethodHandle" ∧ y.cls ≠ "java/lang/invoke/VarHandle") {W k j : Nat} {argsL : List Value} {a : Addr} (hK : Pays l R p e below s args y 3 W (.ref a :: argsL).toArray h k j Q) (eT : T.heap = h) (hsz : Ls.size = c.maxLocals) (hlen : ∀ sig, parseMethodDescriptor y.desc = some sig → argsL.length = sig.parameters.length) {stk : List Value} (hs : stk = argsL.reverse ++ .ref a :: st) (hW : (st.map fun v => v.category).sum ≤ W) (cells' slots' : Nat) (hcl : cells + k = cells') (hsl : slots + j = slots') (hc : cells' ≤ R.cells) (hl : slots' ≤ R.slots) (pc' : Nat) (hd : decode c.code pc = .ok (.invokespecial index, 3)) (hp : pc + 3 = pc') (r : ∀ v T' h' L' Lc, Stand p l e R s m args below meth c T' L' cells' slots' → T'.heap = h' → L' = locs ++ Lc → Q v h' Lc → Go p e below P T' (mkF m pc' Ls (v.toList ++ st))) : Go p e below P T (mkF m pc Ls stk) := by
  subst hp hcl hsl
  obtain ⟨v, vm₁, ⟨T', L', k', n'⟩, -, X', ⟨Lc, hQ, h1, h2, h3⟩, hst⟩ := X.specialBack hx hy1 hown (mvT hZ w1) (mvT hZ w2) (mvT hZ w3) hy hK (g := mkF m pc Ls stk) rfl hsz (Steps.refl _) hlen hs (by show 2 * 0 + _ ≤ _; omega) hd (fun _ _ => ⟨rfl, eT, hc, hl⟩)
  dsimp only at X' hQ h1 h2 h3 hst
  subst h1 h2 h3
  exact Go.tr hst (r v T' _ _ Lc X' rfl rfl hQ)
theorem gvirtual (X : Stand p l e R s m args below meth c T locs cells slots) (hx : p.tables.exec = Jvm.exec) (hZ : Z.Warmed39 s.vm) {own : String} {index : Nat} (hown : s.vm.findClass own = some m.cls) {C : String} {y z : MethodName} (w1 : (Jvm.Cond.methodLink own index y).before a0 Z = true) (w2 : (Jvm.Cond.declares y).before a0 Z = true) (nf : NotFace s y) (w3 : (Jvm.Cond.selects C y z).before a0 Z = true) (w4 : (Jvm.Cond.instanceMethod z).before a0 Z = true) (hy : y.cls ≠ "java/lang/invoke/MethodHandle" ∧ y.cls ≠ "java/lang/invoke/VarHandle") {a : Addr} (E : Exa Z h a C) {W k j : Nat} {argsL : List Value} (hK : Pays l R p e below s args z 3 W (.ref a :: argsL).toArray h k j Q) (eT : T.heap = h) (hsz : Ls.size = c.maxLocals) (hlen : ∀ sig, parseMethodDescriptor y.desc = some sig → argsL.length = sig.parameters.length) {stk : List Value} (hs : stk = argsL.reverse ++ .ref a :: st) (hW : (st.map fun v => v.category).sum ≤ W) (cells' slots' : Nat) (hcl : cells + k = cells') (hsl : slots + j = slots') (hc : cells' ≤ R.cells) (hl : slots' ≤ R.slots) (pc' : Nat) (hd : decode c.code pc = .ok (.invokevirtual index, 3)) (hp : pc + 3 = pc') (r : ∀ v T' h' L' Lc, Stand p l e R s m args below meth c T' L' cells' slots' → T'.heap = h' → L' = locs ++ Lc → Q v h' Lc → Go p e below P T' (mkF m pc' Ls (v.toList ++ st))) : Go p e below P T (mkF m pc Ls stk) := by
  subst hp hcl hsl
  obtain ⟨v, vm₁, ⟨T', L', k', n'⟩, -, X', ⟨Lc, hQ, h1, h2, h3⟩, hst⟩ := X.virtualBack hx hown (mvT hZ w1) (mvT hZ w2) nf (mvT hZ w3) (mvT hZ w4) hy hK (isOf hZ eT E).choose_spec.choose_spec.1 (isOf hZ eT E).choose_spec.choose_spec.2.2 (g := mkF m pc Ls stk) rfl hsz (Steps.refl _) hlen hs (by show 2 * 0 + _ ≤ _; omega) hd (fun _ _ => ⟨rfl, eT, hc, hl⟩)
  dsimp only at X' hQ h1 h2 h3 hst
  subst h1 h2 h3
  exact Go.tr hst (r v T' _ _ Lc X' rfl rfl hQ)
theorem gstatic (X : Stand p l e R s m args below meth c T locs cells slots) (hx : p.tables.exec = Jvm.exec) (hZ : Z.Warmed39 s.vm) {own : String} {index : Nat} (hown : s.vm.findClass own = some m.cls) {y : MethodName} {bytes : ByteArray} {maxL : Nat} {ret : Option FieldType} (w1 : (Jvm.Cond.methodLink own index y).before a0 Z = true) (w2 : (Jvm.Cond.static y).before a0 Z = true) (w3 : (Jvm.Cond.initialized y.cls).before a0 Z = true) (w4 : (Jvm.Cond.code y bytes maxL ret).before a0 Z = true) (hy : y.cls ≠ "java/lang/invoke/MethodHandle" ∧ y.cls ≠ "java/lang/invoke/VarHandle") {W k j : Nat} {argsL : List Value} (hK : Pays l R p e below s args y 3 W argsL.toArray h k j Q) (eT : T.heap = h) (hsz : Ls.size = c.maxLocals) (hlen : ∀ sig, parseMethodDescriptor y.desc = some sig → argsL.length = sig.parameters.length) {stk : List Value} (hs : stk = argsL.reverse ++ st) (hW : (st.map fun v => v.category).sum ≤ W) (cells' slots' : Nat) (hcl : cells + k = cells') (hsl : slots + j = slots') (hc : cells' ≤ R.cells) (hl : slots' ≤ R.slots) (pc' : Nat) (hd : decode c.code pc = .ok (.invokestatic index, 3)) (hp : pc + 3 = pc') (r : ∀ v T' h' L' Lc, Stand p l e R s m args below meth c T' L' cells' slots' → T'.heap = h' → L' = locs ++ Lc → Q v h' Lc → Go p e below P T' (mkF m pc' Ls (v.toList ++ st))) : Go p e below P T (mkF m pc Ls stk) := by
  subst hp hcl hsl
  obtain ⟨v, vm₁, ⟨T', L', k', n'⟩, -, X', ⟨Lc, hQ, h1, h2, h3⟩, hst⟩ := Jvm.LawKit.callS X hx hown (mvT hZ w1) (mvT hZ w2) (mvT hZ w3) (mvT hZ w4) hy hK (g := mkF m pc Ls stk) rfl hsz hlen hs (by show 2 * 0 + _ ≤ _; omega) hd (fun _ _ => ⟨rfl, eT, hc, hl⟩)
  dsimp only at X' hQ h1 h2 h3 hst
  subst h1 h2 h3
  exact Go.of hst (r v T' _ _ Lc X' rfl rfl hQ)
theorem gspecialS (X : Stand p l e R (s.setVm vm0) m args below meth c T locs cells slots) (hx : p.tables.exec = Jvm.exec) (hZ : Z.Warmed39 vm0) {own : String} {index : Nat} (hown : vm0.findClass own = some m.cls) {y : MethodName} (hy1 : y.name = "<init>") (w1 : (Jvm.Cond.methodLink own index y).before a0 Z = true) (w2 : (Jvm.Cond.instanceMethod y).before a0 Z = true) {bytes : ByteArray} {maxL : Nat} (w3 : (Jvm.Cond.code y bytes maxL none).before a0 Z = true) (hy : y.cls ≠ "java/lang/invoke/MethodHandle" ∧ y.cls ≠ "java/lang/invoke/VarHandle") {W k j : Nat} {argsL : List Value} {a : Addr} (hS : s.Since vm0 k0) (hk : k0 ≤ h.size) (hK : PaysS l R p e below s vm0 args y 3 W (.ref a :: argsL).toArray h k j Z EL Q) (eT : T.heap = h) (hsz : Ls.size = c.maxLocals) (hlen : ∀ sig, parseMethodDescriptor y.desc = some sig → argsL.length = sig.parameters.length) {stk : List Value} (hs : stk = argsL.reverse ++ .ref a :: st) (hW : (st.map fun v => v.category).sum ≤ W) (cells' slots' : Nat) (hcl : cells + k = cells') (hsl : slots + j = slots') (hc : cells' ≤ R.cells) (hl : slots' ≤ R.slots) (pc' : Nat) (hd : decode c.code pc = .ok (.invokespecial index, 3)) (hp : pc + 3 = pc') (r : ∀ v T' h' L' Lc vm1 k1, Stand p l e R (s.setVm vm1) m args below meth c T' L' cells' slots' → T'.heap = h' → L' = locs ++ Lc → s.Since vm1 k1 → k1 ≤ h'.size → Z.Warmed39 vm1 → vm1.findClass own = some m.cls → CHr Z EL vm0 h vm1 h' → Q v h' Lc → Go p e below P T' (mkF m pc' Ls (v.toList ++ st))) : Go p e below P T (mkF m pc Ls stk) := by
  subst hp hcl hsl
  subst eT
  obtain ⟨v, vm₁, ⟨T', L', k', n'⟩, -, X', hS', hgr, ⟨Lc, hQ, h1, h2, h3, hC⟩, hst⟩ := X.specialBackS hx hy1 hown (mvT hZ w1) (mvT hZ w2) (mvT hZ w3) hy hK (g := mkF m pc Ls stk) rfl hsz (Steps.refl _) hlen hs (by show 2 * 0 + _ ≤ _; omega) hd (fun _ _ => ⟨rfl, rfl, hc, hl⟩)
  dsimp only at X' hS' hgr hQ h1 h2 h3 hC hst
  subst h1 h2 h3
  obtain ⟨X2, hS2, hZ2, ho2⟩ := rebS (Z := Z) (own := own) hS hk X' hS' hgr hZ hown
  exact Go.tr hst (r v T' _ _ Lc _ _ X2 rfl rfl hS2 (Nat.le_refl _) hZ2 ho2 hC hQ)
theorem gvirtualS (X : Stand p l e R (s.setVm vm0) m args below meth c T locs cells slots) (hx : p.tables.exec = Jvm.exec) (hZ : Z.Warmed39 vm0) {own : String} {index : Nat} (hown : vm0.findClass own = some m.cls) {C : String} {y z : MethodName} (w1 : (Jvm.Cond.methodLink own index y).before a0 Z = true) (w2 : (Jvm.Cond.declares y).before a0 Z = true) (nf : NotFace (s.setVm vm0) y) (w3 : (Jvm.Cond.selects C y z).before a0 Z = true) (w4 : (Jvm.Cond.instanceMethod z).before a0 Z = true) (hy : y.cls ≠ "java/lang/invoke/MethodHandle" ∧ y.cls ≠ "java/lang/invoke/VarHandle") {a : Addr} (E : Exa Z h a C) {W k j : Nat} {argsL : List Value} (hS : s.Since vm0 k0) (hk : k0 ≤ h.size) (hK : PaysS l R p e below s vm0 args z 3 W (.ref a :: argsL).toArray h k j Z EL Q) (eT : T.heap = h) (hsz : Ls.size = c.maxLocals) (hlen : ∀ sig, parseMethodDescriptor y.desc = some sig → argsL.length = sig.parameters.length) {stk : List Value} (hs : stk = argsL.reverse ++ .ref a :: st) (hW : (st.map fun v => v.category).sum ≤ W) (cells' slots' : Nat) (hcl : cells + k = cells') (hsl : slots + j = slots') (hc : cells' ≤ R.cells) (hl : slots' ≤ R.slots) (pc' : Nat) (hd : decode c.code pc = .ok (.invokevirtual index, 3)) (hp : pc + 3 = pc') (r : ∀ v T' h' L' Lc vm1 k1, Stand p l e R (s.setVm vm1) m args below meth c T' L' cells' slots' → T'.heap = h' → L' = locs ++ Lc → s.Since vm1 k1 → k1 ≤ h'.size → Z.Warmed39 vm1 → vm1.findClass own = some m.cls → CHr Z EL vm0 h vm1 h' → Q v h' Lc → Go p e below P T' (mkF m pc' Ls (v.toList ++ st))) : Go p e below P T (mkF m pc Ls stk) := by
  subst hp hcl hsl
  subst eT
  obtain ⟨v, vm₁, ⟨T', L', k', n'⟩, -, X', hS', hgr, ⟨Lc, hQ, h1, h2, h3, hC⟩, hst⟩ := X.virtualBackS hx hown (mvT hZ w1) (mvT hZ w2) nf (mvT hZ w3) (mvT hZ w4) hy hK (isOf hZ rfl E).choose_spec.choose_spec.1 (isOf hZ rfl E).choose_spec.choose_spec.2.2 (g := mkF m pc Ls stk) rfl hsz (Steps.refl _) hlen hs (by show 2 * 0 + _ ≤ _; omega) hd (fun _ _ => ⟨rfl, rfl, hc, hl⟩)
  dsimp only at X' hS' hgr hQ h1 h2 h3 hC hst
  subst h1 h2 h3
  obtain ⟨X2, hS2, hZ2, ho2⟩ := rebS (Z := Z) (own := own) hS hk X' hS' hgr hZ hown
  exact Go.tr hst (r v T' _ _ Lc _ _ X2 rfl rfl hS2 (Nat.le_refl _) hZ2 ho2 hC hQ)
theorem gstaticS (X : Stand p l e R (s.setVm vm0) m args below meth c T locs cells slots) (hx : p.tables.exec = Jvm.exec) (hZ : Z.Warmed39 vm0) {own : String} {index : Nat} (hown : vm0.findClass own = some m.cls) {y : MethodName} {bytes : ByteArray} {maxL : Nat} {ret : Option FieldType} (w1 : (Jvm.Cond.methodLink own index y).before a0 Z = true) (w2 : (Jvm.Cond.static y).before a0 Z = true) (w3 : (Jvm.Cond.initialized y.cls).before a0 Z = true) (w4 : (Jvm.Cond.code y bytes maxL ret).before a0 Z = true) (hy : y.cls ≠ "java/lang/invoke/MethodHandle" ∧ y.cls ≠ "java/lang/invoke/VarHandle") {W k j : Nat} {argsL : List Value} (hS : s.Since vm0 k0) (hk : k0 ≤ h.size) (hK : PaysS l R p e below s vm0 args y 3 W argsL.toArray h k j Z EL Q) (eT : T.heap = h) (hsz : Ls.size = c.maxLocals) (hlen : ∀ sig, parseMethodDescriptor y.desc = some sig → argsL.length = sig.parameters.length) {stk : List Value} (hs : stk = argsL.reverse ++ st) (hW : (st.map fun v => v.category).sum ≤ W) (cells' slots' : Nat) (hcl : cells + k = cells') (hsl : slots + j = slots') (hc : cells' ≤ R.cells) (hl : slots' ≤ R.slots) (pc' : Nat) (hd : decode c.code pc = .ok (.invokestatic index, 3)) (hp : pc + 3 = pc') (r : ∀ v T' h' L' Lc vm1 k1, Stand p l e R (s.setVm vm1) m args below meth c T' L' cells' slots' → T'.heap = h' → L' = locs ++ Lc → s.Since vm1 k1 → k1 ≤ h'.size → Z.Warmed39 vm1 → vm1.findClass own = some m.cls → CHr Z EL vm0 h vm1 h' → Q v h' Lc → Go p e below P T' (mkF m pc' Ls (v.toList ++ st))) : Go p e below P T (mkF m pc Ls stk) := by
  subst hp hcl hsl
  subst eT
  obtain ⟨v, vm₁, ⟨T', L', k', n'⟩, -, X', hS', hgr, ⟨Lc, hQ, h1, h2, h3, hC⟩, hst⟩ := callSS X hx hown (mvT hZ w1) (mvT hZ w2) (mvT hZ w3) (mvT hZ w4) hy hK (g := mkF m pc Ls stk) rfl hsz hlen hs (by show 2 * 0 + _ ≤ _; omega) hd (fun _ _ => ⟨rfl, rfl, hc, hl⟩)
  dsimp only at X' hS' hgr hQ h1 h2 h3 hC hst
  subst h1 h2 h3
  obtain ⟨X2, hS2, hZ2, ho2⟩ := rebS (Z := Z) (own := own) hS hk X' hS' hgr hZ hown
  exact Go.tr hst (r v T' _ _ Lc _ _ X2 rfl rfl hS2 (Nat.le_refl _) hZ2 ho2 hC hQ)
theorem giface (X : Stand p l e R s m args below meth c T locs cells slots) (hx : p.tables.exec = Jvm.exec) (hZ : Z.Warmed39 s.vm) {own : String} {index : Nat} (hown : s.vm.findClass own = some m.cls) {count : Nat} {C : String} {y z : MethodName} (w1 : (Jvm.Cond.methodLink own index y).before a0 Z = true) (w2 : (Jvm.Cond.declares y).before a0 Z = true) (w3 : (Jvm.Cond.interfaceMethod y.cls y.cls y.name y.desc).before args s = true) (w4 : (Jvm.Cond.selects C y z).before a0 Z = true) (w5 : (Jvm.Cond.instanceMethod z).before a0 Z = true) (w6 : (Jvm.Cond.publicMethod z).before a0 Z = true) (w7 : (Jvm.Cond.unhidden C y.name y.desc).before a0 Z = true) (w8 : (Jvm.Cond.castable C y.cls).before a0 Z = true) (hy : y.cls ≠ "java/lang/invoke/MethodHandle" ∧ y.cls ≠ "java/lang/invoke/VarHandle") {a : Addr} (E : Exa Z h a C) {W k j : Nat} {argsL : List Value} (hK : Pays l R p e below s args z 5 W (.ref a :: argsL).toArray h k j Q) (eT : T.heap = h) (hsz : Ls.size = c.maxLocals) (hlen : ∀ sig, parseMethodDescriptor y.desc = some sig → argsL.length = sig.parameters.length) {stk : List Value} (hs : stk = argsL.reverse ++ .ref a :: st) (hW : (st.map fun v => v.category).sum ≤ W) (cells' slots' : Nat) (hcl : cells + k = cells') (hsl : slots + j = slots') (hc : cells' ≤ R.cells) (hl : slots' ≤ R.slots) (pc' : Nat) (hd : decode c.code pc = .ok (.invokeinterface index count, 5)) (hp : pc + 5 = pc') (r : ∀ v T' h' L' Lc, Stand p l e R s m args below meth c T' L' cells' slots' → T'.heap = h' → L' = locs ++ Lc → Q v h' Lc → Go p e below P T' (mkF m pc' Ls (v.toList ++ st))) : Go p e below P T (mkF m pc Ls stk) := by
  subst hp hcl hsl
  obtain ⟨v, vm₁, ⟨T', L', k', n'⟩, -, X', ⟨Lc, hQ, h1, h2, h3⟩, hst⟩ := X.interfaceBack hx hown (mvT hZ w1) (mvT hZ w2) w3 (mvT hZ w4) (mvT hZ w5) (mvT hZ w6) (mvT hZ w7) (mvT hZ w8) hy hK (isOf hZ eT E).choose_spec.choose_spec.1 (isOf hZ eT E).choose_spec.choose_spec.2.1 (isOf hZ eT E).choose_spec.choose_spec.2.2 (g := mkF m pc Ls stk) rfl hsz (Steps.refl _) hlen hs (by show 2 * 0 + _ ≤ _; omega) hd (fun _ _ => ⟨rfl, eT, hc, hl⟩)
  dsimp only at X' hQ h1 h2 h3 hst
  subst h1 h2 h3
  exact Go.tr hst (r v T' _ _ Lc X' rfl rfl hQ)
theorem gpriv (X : Stand p l e R s m args below meth c T locs cells slots) (hx : p.tables.exec = Jvm.exec) (hZ : Z.Warmed39 s.vm) {own : String} {index : Nat} (hown : s.vm.findClass own = some m.cls) {y : MethodName} {bytes : ByteArray} {maxL : Nat} {ret : Option FieldType} (w1 : (Jvm.Cond.methodLink own index y).before a0 Z = true) (w2 : (Jvm.Cond.instanceMethod y).before a0 Z = true) (w3 : (Jvm.Cond.selects y.cls y y).before a0 Z = true) (w4 : (Jvm.Cond.privateMethod y).before a0 Z = true) (w5 : (Jvm.Cond.code y bytes maxL ret).before a0 Z = true) (hy : y.cls ≠ "java/lang/invoke/MethodHandle" ∧ y.cls ≠ "java/lang/invoke/VarHandle") {a : Addr} {C : String} (E : Exa Z h a C) {W k j : Nat} {argsL : List Value} (hK : Pays l R p e below s args y 3 W (.ref a :: argsL).toArray h k j Q) (eT : T.heap = h) (hsz : Ls.size = c.maxLocals) (hlen : ∀ sig, parseMethodDescriptor y.desc = some sig → argsL.length = sig.parameters.length) {stk : List Value} (hs : stk = argsL.reverse ++ .ref a :: st) (hW : (st.map fun v => v.category).sum ≤ W) (cells' slots' : Nat) (hcl : cells + k = cells') (hsl : slots + j = slots') (hc : cells' ≤ R.cells) (hl : slots' ≤ R.slots) (pc' : Nat) (hd : decode c.code pc = .ok (.invokevirtual index, 3)) (hp : pc + 3 = pc') (r : ∀ v T' h' L' Lc, Stand p l e R s m args below meth c T' L' cells' slots' → T'.heap = h' → L' = locs ++ Lc → Q v h' Lc → Go p e below P T' (mkF m pc' Ls (v.toList ++ st))) : Go p e below P T (mkF m pc Ls stk) := by
  subst hp hcl hsl
  obtain ⟨v, vm₁, ⟨T', L', k', n'⟩, -, X', ⟨Lc, hQ, h1, h2, h3⟩, hst⟩ := X.privateBack hx hown (mvT hZ w1) (mvT hZ w2) (mvT hZ w3) (Cond.privateMethod_at (mvP hZ w4 (args := #[]))) (mvT hZ w5) hy hK (g := mkF m pc Ls stk) rfl hsz (Steps.refl _) (by rw [eT]; exact E.cell.choose_spec.1) E.cell.choose_spec.2 hlen hs (by show 2 * 0 + _ ≤ _; omega) hd (fun _ _ => ⟨rfl, eT, hc, hl⟩)
  dsimp only at X' hQ h1 h2 h3 hst
  subst h1 h2 h3
  exact Go.tr hst (r v T' _ _ Lc X' rfl rfl hQ)
theorem gsuper (X : Stand p l e R s m args below meth c T locs cells slots) (hx : p.tables.exec = Jvm.exec) (hZ : Z.Warmed39 s.vm) {own : String} {index : Nat} (hown : s.vm.findClass own = some m.cls) {y : MethodName} {bytes : ByteArray} {maxL : Nat} {ret : Option FieldType} {K : String} (w1 : (Jvm.Cond.methodLink own index y).before a0 Z = true) (w2 : (Jvm.Cond.sameMethod y.cls y.cls y.name y.desc).before a0 Z = true) (w3 : (Jvm.Cond.instanceMethod y).before a0 Z = true) (w4 : (Jvm.Cond.superclass own y.cls).before a0 Z = true) (hy1 : y.name ≠ "<init>") (wc : (Jvm.Cond.code y bytes maxL ret).before a0 Z = true) {a : Addr} (F : Ins Z h a K true) {W k j : Nat} {argsL : List Value} (hK : Pays l R p e below s args y 3 W (.ref a :: argsL).toArray h k j Q) (eT : T.heap = h) (hsz : Ls.size = c.maxLocals) (hlen : ∀ sig, parseMethodDescriptor y.desc = some sig → argsL.length = sig.parameters.length) {stk : List Value} (hs : stk = argsL.reverse ++ .ref a :: st) (hW : (st.map fun v => v.category).sum ≤ W) (cells' slots' : Nat) (hcl : cells + k = cells') (hsl : slots + j = slots') (hc : cells' ≤ R.cells) (hl : slots' ≤ R.slots) (pc' : Nat) (hd : decode c.code pc = .ok (.invokespecial index, 3)) (hp : pc + 3 = pc') (r : ∀ v T' h' L' Lc, Stand p l e R s m args below meth c T' L' cells' slots' → T'.heap = h' → L' = locs ++ Lc → Q v h' Lc → Go p e below P T' (mkF m pc' Ls (v.toList ++ st))) : Go p e below P T (mkF m pc Ls stk) := by
  subst hp hcl hsl
  obtain ⟨v, vm₁, ⟨T', L', k', n'⟩, -, X', ⟨Lc, hQ, h1, h2, h3⟩, hst⟩ := superBack X hx hZ hown w1 w2 w3 w4 hy1 hK eT F (g := mkF m pc Ls stk) rfl hsz wc hlen hs (by show 2 * 0 + _ ≤ _; omega) hd (fun _ _ => ⟨rfl, eT, hc, hl⟩)
  dsimp only at X' hQ h1 h2 h3 hst
  subst h1 h2 h3
  exact Go.tr hst (r v T' _ _ Lc X' rfl rfl hQ)
theorem gldcO (X : Stand p l e R (s.setVm vm0) m args below meth c T locs cells slots) (hx : p.tables.exec = Jvm.exec) (hZ : Z.Warmed39 vm0) {own text : String} {index : Nat} (hown : vm0.findClass own = some m.cls) (w : (Jvm.Cond.stringLink own index text).before a0 Z = true) (wS : ∀ a ∈ Bundle.stringAtoms, a.before a0 Z = true) (eT : T.heap = h) (hS : s.Since vm0 k0) (hk : k0 ≤ h.size) (hEL : EW Z a0 EL) (H : CHv Z EL vm0 h) (n : Nat) (hn : 4 * text.toList.length ≤ n) (hbig : n ≤ 536870912) (cells' slots' : Nat) (hcl : cells + 2 = cells') (hsl : slots + (n + 4) = slots') (hc : cells' ≤ R.cells) (hl : slots' ≤ R.slots) (pc' : Nat) (hd : decode c.code pc = .ok (.ldc index, 2)) (hp : pc + 2 = pc') (r : ∀ a T' h' vm1 k1, Stand p l e R (s.setVm vm1) m args below meth c T' locs cells' slots' → T'.heap = h' → Ext h h' → s.Since vm1 k1 → k1 ≤ h'.size → Z.Warmed39 vm1 → vm1.findClass own = some m.cls → CHr Z EL vm0 h vm1 h' → Lit (s.setVm vm1) own index a → Go p e below P T' (mkF m pc' Ls (.ref a :: st))) : Go p e below P T (mkF m pc Ls st) := by
  subst hp hcl hsl
  obtain ⟨a, T', h', k1, X', e', E', hS', hk', hZ', ho', hC', hL', stp⟩ := ldcOH X hx hZ hown w wS eT hS hk hEL H (g := mkF m pc Ls st) rfl hd hn hbig hc hl
  exact Go.of stp (r a T' h' _ k1 X' e' E' hS' hk' hZ' ho' hC' hL')
theorem gldcV (X : Stand p l e R (s.setVm vm0) m args below meth c T locs cells slots) (hx : p.tables.exec = Jvm.exec) (hZ : Z.Warmed39 vm0) {own text : String} {index : Nat} (hown : vm0.findClass own = some m.cls) (w : (Jvm.Cond.stringLink own index text).before a0 Z = true) (wS : ∀ a ∈ Bundle.stringAtoms, a.before a0 Z = true) (eT : T.heap = h) (hS : s.Since vm0 k0) (hk : k0 ≤ h.size) (hEL : EW Z a0 EL) (hmem : (own, index) ∈ EL) (H : CHv Z EL vm0 h) (vs : List Value) (z : Int32) (ht : (∀ c ∈ text.toList, c.toNat < 256) ∧ text.toList.map (fun c => Value.int (Jvm.Lit.byteI c.toNat.toUInt16)) = vs) (hz : ¬ z < 0) (hzl : z.toNatClampNeg = vs.length) (n : Nat) (hn : 4 * text.toList.length ≤ n) (hbig : n ≤ 536870912) (cells' slots' : Nat) (hcl : cells + 2 = cells') (hsl : slots + (n + 4) = slots') (hc : cells' ≤ R.cells) (hl : slots' ≤ R.slots) (pc' : Nat) (hd : decode c.code pc = .ok (.ldc index, 2)) (hp : pc + 2 = pc') (r : ∀ a T' h' vm1 k1 b kb, Stand p l e R (s.setVm vm1) m args below meth c T' locs cells' slots' → T'.heap = h' → Ext h h' → s.Since vm1 k1 → k1 ≤ h'.size → Z.Warmed39 vm1 → vm1.findClass own = some m.cls → CHr Z EL vm0 h vm1 h' → Lit (s.setVm vm1) own index a → Exa Z h' a "java/lang/String" → Fld Z h' a "java/lang/String" "coder" "B" (.int 0) → Fld Z h' a "java/lang/String" "value" "[B" (.ref b) → Arv Z h' b kb .byte z vs (.int 0) → (∀ x, Safe Z EL vm1 h' x → x ≠ a ∧ x ≠ b) → Go p e below P T' (mkF m pc' Ls (.ref a :: st))) : Go p e below P T (mkF m pc Ls st) := by
  subst hp hcl hsl
  obtain ⟨a, T', h', k1, b, kb, X', e', E', hS', hk', hZ', ho', q1, q2, q3, q4, -, -, hC', hL', hne, stp⟩ := ldcCH X hx hZ hown w wS eT hS hk hEL hmem H ht hz hzl (g := mkF m pc Ls st) rfl hd hn hbig hc hl
  exact Go.of stp (r a T' h' _ k1 b kb X' e' E' hS' hk' hZ' ho' hC' hL' q1 q2 q3 q4 hne)
end Own
end Jvm.Own
namespace Jvm.Pilot.@@N@@
open Jvm Jvm.ClassFile Sem Op Lib Jvm.Free Jvm.Stand Jvm.LawKit Jvm.RoadKit Bundle Jvm.Own Jvm.Pilot.@@N@@.Jvm.D
theorem own_c0 {P : Int32 → Prop} : ∀ c ∈ ([] : List Int32), P c := fun _ z => nomatch z
theorem own_cS {P : Int32 → Prop} {y : Int32} {L : List Int32} (h : P y) (r : ∀ c ∈ L, P c) : ∀ c ∈ y :: L, P c := fun c z => (List.mem_cons.mp z).elim (fun u => u ▸ h) (r c)
theorem own_lo (x : Int32) : ∃ k : Fin 256, x &&& (255 : Int32) = Int32.ofNat k.val := by
  have h : (x &&& 255).toBitVec.toNat < 256 := by
    simp only [Int32.toBitVec_and, BitVec.toNat_and]
    exact Nat.lt_succ_of_le Nat.and_le_right
  refine ⟨⟨_, h⟩, ?_⟩
  apply Int32.toBitVec_inj.mp
  show _ = BitVec.ofNat 32 _
  rw [BitVec.ofNat_toNat]; simp
theorem own_rng (x : Int32) : ¬ (x &&& (255 : Int32)) < 0 ∧ ¬ (255 : Int32) < (x &&& (255 : Int32)) := by
  obtain ⟨k, e⟩ := own_lo x
  rw [e]; clear e; revert k; decide +kernel
theorem own_i2c8 (x : Int32) : (x &&& (255 : Int32)).toUInt32.toUInt16.toUInt32.toInt32 = (x &&& (255 : Int32)) := by
  obtain ⟨k, e⟩ := own_lo x
  rw [e]; clear e; revert k; decide +kernel
theorem own_nar8 (x : Int32) : nar .char (x &&& (255 : Int32)) = (x &&& (255 : Int32)) := own_i2c8 x
theorem own_nar16 (x : Int32) : nar .char (x &&& (255 : Int32)).toUInt32.toUInt16.toUInt32.toInt32 = (x &&& (255 : Int32)) := by rw [own_i2c8]; exact own_i2c8 x
theorem own_narb (x : Int32) : nar .byte x.toInt8.toInt32 = x.toInt8.toInt32 := by show x.toInt8.toInt32.toInt8.toInt32 = _; rw [Int8.toInt8_toInt32]
theorem own_up (cs : List Int32) (h : ∀ c ∈ cs, ¬ c < 0 ∧ ¬ (255 : Int32) < c) : ∀ c ∈ cs, ¬ c < 0 ∧ ¬ (65535 : Int32) < c := fun c hc => ⟨(h c hc).1, fun q => (h c hc).2 (by rw [Int32.lt_iff_toInt_lt] at q ⊢; have e1 : (65535 : Int32).toInt = 65535 := rfl; have e2 : (255 : Int32).toInt = 255 := rfl; omega)⟩
theorem own_wS {a0 : Array Value} {Z : State} (hw : ∀ d ∈ tables_1, d.before a0 Z = true) : ∀ a ∈ Bundle.stringAtoms, a.before a0 Z = true := fun d hd => hw d ((by decide +kernel : ∀ d ∈ Bundle.stringAtoms, d ∈ tables_1) d hd)
theorem own_hws {a0 : Array Value} {Z : State} (hw : ∀ d ∈ tables_1, d.before a0 Z = true) : ∀ d ∈ StrChars.Road.words, d.before a0 Z = true := fun d hd => hw d ((by decide +kernel : ∀ d ∈ StrChars.Road.words, d ∈ tables_1) d hd)
theorem own_hln {a0 : Array Value} {Z : State} (hw : ∀ d ∈ tables_1, d.before a0 Z = true) : ∀ d ∈ StrChars.Road.wordsLen, d.before a0 Z = true := fun d hd => hw d ((by decide +kernel : ∀ d ∈ StrChars.Road.wordsLen, d ∈ tables_1) d hd)
theorem own_hch {a0 : Array Value} {Z : State} (hw : ∀ d ∈ tables_1, d.before a0 Z = true) : ∀ d ∈ StrChars.Road.wordsChN, d.before a0 Z = true := fun d hd => hw d ((by decide +kernel : ∀ d ∈ StrChars.Road.wordsChN, d ∈ tables_1) d hd)
theorem own_heq {a0 : Array Value} {Z : State} (hw : ∀ d ∈ tables_1, d.before a0 Z = true) : ∀ d ∈ StrChars.Road.wordsEq, d.before a0 Z = true := fun d hd => hw d ((by decide +kernel : ∀ d ∈ StrChars.Road.wordsEq, d ∈ tables_1) d hd)
theorem own_w0 {a0 : Array Value} {Z : State} (hw : ∀ d ∈ tables_1, d.before a0 Z = true) : (Jvm.Cond.constant "com/example/fasten/fasten/sql/DialectOfPinLaw" (7 : Nat) (2147483647 : Int32)).before a0 Z = true := hw _ (List.mem_of_getElem? (i := 0) rfl)
theorem own_w1 {a0 : Array Value} {Z : State} (hw : ∀ d ∈ tables_1, d.before a0 Z = true) : (Jvm.Cond.methodLink "com/example/fasten/fasten/sql/DialectOfPinLaw" (8 : Nat) ({ cls := "com/example/fasten/fasten/sql/DialectOfPinLaw", name := "nameOf", desc := "(I)Ljava/lang/String;" } : Jvm.MethodName)).before a0 Z = true := hw _ (List.mem_of_getElem? (i := 1) rfl)
theorem own_w2 {a0 : Array Value} {Z : State} (hw : ∀ d ∈ tables_1, d.before a0 Z = true) : (Jvm.Cond.static ({ cls := "com/example/fasten/fasten/sql/DialectOfPinLaw", name := "nameOf", desc := "(I)Ljava/lang/String;" } : Jvm.MethodName)).before a0 Z = true := hw _ (List.mem_of_getElem? (i := 2) rfl)
theorem own_w3 {a0 : Array Value} {Z : State} (hw : ∀ d ∈ tables_1, d.before a0 Z = true) : (Jvm.Cond.initialized "com/example/fasten/fasten/sql/DialectOfPinLaw").before a0 Z = true := hw _ (List.mem_of_getElem? (i := 3) rfl)
theorem own_w4 {a0 : Array Value} {Z : State} (hw : ∀ d ∈ tables_1, d.before a0 Z = true) : (Jvm.Cond.code ({ cls := "com/example/fasten/fasten/sql/DialectOfPinLaw", name := "nameOf", desc := "(I)Ljava/lang/String;" } : Jvm.MethodName) method_3_code (1 : Nat) (Option.some (Jvm.ClassFile.FieldType.object "java/lang/String"))).before a0 Z = true := hw _ (List.mem_of_getElem? (i := 4) rfl)
theorem own_w5 {a0 : Array Value} {Z : State} (hw : ∀ d ∈ tables_1, d.before a0 Z = true) : (Jvm.Cond.stringLink "com/example/fasten/fasten/sql/DialectOfPinLaw" (54 : Nat) "MariaDB").before a0 Z = true := hw _ (List.mem_of_getElem? (i := 5) rfl)
theorem own_w6 {a0 : Array Value} {Z : State} (hw : ∀ d ∈ tables_1, d.before a0 Z = true) : (Jvm.Cond.initialized "java/lang/String").before a0 Z = true := hw _ (List.mem_of_getElem? (i := 6) rfl)
theorem own_w7 {a0 : Array Value} {Z : State} (hw : ∀ d ∈ tables_1, d.before a0 Z = true) : (Jvm.Cond.instantiable "java/lang/String" (4 : Nat)).before a0 Z = true := hw _ (List.mem_of_getElem? (i := 7) rfl)
theorem own_w8 {a0 : Array Value} {Z : State} (hw : ∀ d ∈ tables_1, d.before a0 Z = true) : (Jvm.Cond.arrayClass Jvm.ClassFile.FieldType.byte).before a0 Z = true := hw _ (List.mem_of_getElem? (i := 8) rfl)
theorem own_w9 {a0 : Array Value} {Z : State} (hw : ∀ d ∈ tables_1, d.before a0 Z = true) : (Jvm.Cond.laysFinal "java/lang/String" "java/lang/String" "value" "[B").before a0 Z = true := hw _ (List.mem_of_getElem? (i := 9) rfl)
theorem own_w10 {a0 : Array Value} {Z : State} (hw : ∀ d ∈ tables_1, d.before a0 Z = true) : (Jvm.Cond.laysFinal "java/lang/String" "java/lang/String" "coder" "B").before a0 Z = true := hw _ (List.mem_of_getElem? (i := 10) rfl)
theorem own_w13 {a0 : Array Value} {Z : State} (hw : ∀ d ∈ tables_1, d.before a0 Z = true) : (Jvm.Cond.fieldLink "com/example/fasten/fasten/sql/DialectOfPinLaw" (20 : Nat) "com/example/fasten/fasten/sql/Dialect" "MARIADB" "Lcom/example/fasten/fasten/sql/Dialect;").before a0 Z = true := hw _ (List.mem_of_getElem? (i := 13) rfl)
theorem own_w14 {a0 : Array Value} {Z : State} (hw : ∀ d ∈ tables_1, d.before a0 Z = true) : (Jvm.Cond.initialized "com/example/fasten/fasten/sql/Dialect").before a0 Z = true := hw _ (List.mem_of_getElem? (i := 14) rfl)
theorem own_w15 {a0 : Array Value} {Z : State} (hw : ∀ d ∈ tables_1, d.before a0 Z = true) : (Jvm.Cond.laysStatic "com/example/fasten/fasten/sql/Dialect" "MARIADB" "Lcom/example/fasten/fasten/sql/Dialect;").before a0 Z = true := hw _ (List.mem_of_getElem? (i := 15) rfl)
theorem own_w16 {a0 : Array Value} {Z : State} (hw : ∀ d ∈ tables_1, d.before a0 Z = true) : (Jvm.Cond.stringLink "com/example/fasten/fasten/sql/DialectOfPinLaw" (44 : Nat) "").before a0 Z = true := hw _ (List.mem_of_getElem? (i := 16) rfl)
theorem own_w17 {a0 : Array Value} {Z : State} (hw : ∀ d ∈ tables_1, d.before a0 Z = true) : (Jvm.Cond.methodLink "com/example/fasten/fasten/sql/DialectOfPinLaw" (50 : Nat) ({ cls := "com/example/fasten/fasten/sql/Dialect", name := "of", desc := "(Ljava/lang/String;)Lcom/example/fasten/fasten/sql/Dialect;" } : Jvm.MethodName)).before a0 Z = true := hw _ (List.mem_of_getElem? (i := 17) rfl)
theorem own_w18 {a0 : Array Value} {Z : State} (hw : ∀ d ∈ tables_1, d.before a0 Z = true) : (Jvm.Cond.static ({ cls := "com/example/fasten/fasten/sql/Dialect", name := "of", desc := "(Ljava/lang/String;)Lcom/example/fasten/fasten/sql/Dialect;" } : Jvm.MethodName)).before a0 Z = true := hw _ (List.mem_of_getElem? (i := 18) rfl)
theorem own_w19 {a0 : Array Value} {Z : State} (hw : ∀ d ∈ tables_1, d.before a0 Z = true) : (Jvm.Cond.code ({ cls := "com/example/fasten/fasten/sql/Dialect", name := "of", desc := "(Ljava/lang/String;)Lcom/example/fasten/fasten/sql/Dialect;" } : Jvm.MethodName) prog_22_method_6_code (2 : Nat) (Option.some (Jvm.ClassFile.FieldType.object "com/example/fasten/fasten/sql/Dialect"))).before a0 Z = true := hw _ (List.mem_of_getElem? (i := 19) rfl)
theorem own_w20 {a0 : Array Value} {Z : State} (hw : ∀ d ∈ tables_1, d.before a0 Z = true) : (Jvm.Cond.stringLink "com/example/fasten/fasten/sql/Dialect" (33 : Nat) "MariaDB").before a0 Z = true := hw _ (List.mem_of_getElem? (i := 20) rfl)
theorem own_w21 {a0 : Array Value} {Z : State} (hw : ∀ d ∈ tables_1, d.before a0 Z = true) : (Jvm.Cond.methodLink "com/example/fasten/fasten/sql/Dialect" (35 : Nat) ({ cls := "java/lang/String", name := "equals", desc := "(Ljava/lang/Object;)Z" } : Jvm.MethodName)).before a0 Z = true := hw _ (List.mem_of_getElem? (i := 21) rfl)
theorem own_w22 {a0 : Array Value} {Z : State} (hw : ∀ d ∈ tables_1, d.before a0 Z = true) : (Jvm.Cond.declares ({ cls := "java/lang/String", name := "equals", desc := "(Ljava/lang/Object;)Z" } : Jvm.MethodName)).before a0 Z = true := hw _ (List.mem_of_getElem? (i := 22) rfl)
theorem own_w23 {a0 : Array Value} {Z : State} (hw : ∀ d ∈ tables_1, d.before a0 Z = true) : (Jvm.Cond.instanceMethod ({ cls := "java/lang/String", name := "equals", desc := "(Ljava/lang/Object;)Z" } : Jvm.MethodName)).before a0 Z = true := hw _ (List.mem_of_getElem? (i := 23) rfl)
theorem own_w24 {a0 : Array Value} {Z : State} (hw : ∀ d ∈ tables_1, d.before a0 Z = true) : (Jvm.Cond.selects "java/lang/String" ({ cls := "java/lang/String", name := "equals", desc := "(Ljava/lang/Object;)Z" } : Jvm.MethodName) ({ cls := "java/lang/String", name := "equals", desc := "(Ljava/lang/Object;)Z" } : Jvm.MethodName)).before a0 Z = true := hw _ (List.mem_of_getElem? (i := 24) rfl)
theorem own_w26 {a0 : Array Value} {Z : State} (hw : ∀ d ∈ tables_1, d.before a0 Z = true) : (Jvm.Cond.classLink "java/lang/String" (10 : Nat) "java/lang/String").before a0 Z = true := hw _ (List.mem_of_getElem? (i := 26) rfl)
theorem own_w28 {a0 : Array Value} {Z : State} (hw : ∀ d ∈ tables_1, d.before a0 Z = true) : (Jvm.Cond.fieldLink "java/lang/String" (38 : Nat) "java/lang/String" "COMPACT_STRINGS" "Z").before a0 Z = true := hw _ (List.mem_of_getElem? (i := 28) rfl)
theorem own_w29 {a0 : Array Value} {Z : State} (hw : ∀ d ∈ tables_1, d.before a0 Z = true) : (Jvm.Cond.fieldLink "java/lang/String" (15 : Nat) "java/lang/String" "coder" "B").before a0 Z = true := hw _ (List.mem_of_getElem? (i := 29) rfl)
theorem own_w30 {a0 : Array Value} {Z : State} (hw : ∀ d ∈ tables_1, d.before a0 Z = true) : (Jvm.Cond.fieldLink "java/lang/String" (9 : Nat) "java/lang/String" "value" "[B").before a0 Z = true := hw _ (List.mem_of_getElem? (i := 30) rfl)
theorem own_w33 {a0 : Array Value} {Z : State} (hw : ∀ d ∈ tables_1, d.before a0 Z = true) : (Jvm.Cond.initialized "java/lang/StringLatin1").before a0 Z = true := hw _ (List.mem_of_getElem? (i := 33) rfl)
theorem own_w35 {a0 : Array Value} {Z : State} (hw : ∀ d ∈ tables_1, d.before a0 Z = true) : (Jvm.Cond.stringLink "com/example/fasten/fasten/sql/Dialect" (41 : Nat) "MySQL").before a0 Z = true := hw _ (List.mem_of_getElem? (i := 35) rfl)
theorem own_w36 {a0 : Array Value} {Z : State} (hw : ∀ d ∈ tables_1, d.before a0 Z = true) : (Jvm.Cond.stringLink "com/example/fasten/fasten/sql/Dialect" (43 : Nat) "PostgreSQL").before a0 Z = true := hw _ (List.mem_of_getElem? (i := 36) rfl)
theorem own_w37 {a0 : Array Value} {Z : State} (hw : ∀ d ∈ tables_1, d.before a0 Z = true) : (Jvm.Cond.stringLink "com/example/fasten/fasten/sql/DialectOfPinLaw" (56 : Nat) "MySQL").before a0 Z = true := hw _ (List.mem_of_getElem? (i := 37) rfl)
theorem own_w38 {a0 : Array Value} {Z : State} (hw : ∀ d ∈ tables_1, d.before a0 Z = true) : (Jvm.Cond.methodLink "com/example/fasten/fasten/sql/DialectOfPinLaw" (41 : Nat) ({ cls := "com/example/fasten/fasten/sql/DialectOfPinLaw", name := "truncated", desc := "(I)Ljava/lang/String;" } : Jvm.MethodName)).before a0 Z = true := hw _ (List.mem_of_getElem? (i := 38) rfl)
theorem own_w39 {a0 : Array Value} {Z : State} (hw : ∀ d ∈ tables_1, d.before a0 Z = true) : (Jvm.Cond.static ({ cls := "com/example/fasten/fasten/sql/DialectOfPinLaw", name := "truncated", desc := "(I)Ljava/lang/String;" } : Jvm.MethodName)).before a0 Z = true := hw _ (List.mem_of_getElem? (i := 39) rfl)
theorem own_w40 {a0 : Array Value} {Z : State} (hw : ∀ d ∈ tables_1, d.before a0 Z = true) : (Jvm.Cond.code ({ cls := "com/example/fasten/fasten/sql/DialectOfPinLaw", name := "truncated", desc := "(I)Ljava/lang/String;" } : Jvm.MethodName) method_6_code (1 : Nat) (Option.some (Jvm.ClassFile.FieldType.object "java/lang/String"))).before a0 Z = true := hw _ (List.mem_of_getElem? (i := 40) rfl)
theorem own_w41 {a0 : Array Value} {Z : State} (hw : ∀ d ∈ tables_1, d.before a0 Z = true) : (Jvm.Cond.stringLink "com/example/fasten/fasten/sql/DialectOfPinLaw" (65 : Nat) "MySQ").before a0 Z = true := hw _ (List.mem_of_getElem? (i := 41) rfl)
theorem own_w42 {a0 : Array Value} {Z : State} (hw : ∀ d ∈ tables_1, d.before a0 Z = true) : (Jvm.Cond.methodLink "com/example/fasten/fasten/sql/DialectOfPinLaw" (23 : Nat) ({ cls := "com/example/fasten/fasten/sql/DialectOfPinLaw", name := "substituted", desc := "(IIC)Ljava/lang/String;" } : Jvm.MethodName)).before a0 Z = true := hw _ (List.mem_of_getElem? (i := 42) rfl)
theorem own_w43 {a0 : Array Value} {Z : State} (hw : ∀ d ∈ tables_1, d.before a0 Z = true) : (Jvm.Cond.static ({ cls := "com/example/fasten/fasten/sql/DialectOfPinLaw", name := "substituted", desc := "(IIC)Ljava/lang/String;" } : Jvm.MethodName)).before a0 Z = true := hw _ (List.mem_of_getElem? (i := 43) rfl)
theorem own_w44 {a0 : Array Value} {Z : State} (hw : ∀ d ∈ tables_1, d.before a0 Z = true) : (Jvm.Cond.code ({ cls := "com/example/fasten/fasten/sql/DialectOfPinLaw", name := "substituted", desc := "(IIC)Ljava/lang/String;" } : Jvm.MethodName) method_4_code (4 : Nat) (Option.some (Jvm.ClassFile.FieldType.object "java/lang/String"))).before a0 Z = true := hw _ (List.mem_of_getElem? (i := 44) rfl)
theorem own_w45 {a0 : Array Value} {Z : State} (hw : ∀ d ∈ tables_1, d.before a0 Z = true) : (Jvm.Cond.arrayClass Jvm.ClassFile.FieldType.char).before a0 Z = true := hw _ (List.mem_of_getElem? (i := 45) rfl)
theorem own_w46 {a0 : Array Value} {Z : State} (hw : ∀ d ∈ tables_1, d.before a0 Z = true) : (Jvm.Cond.classLink "com/example/fasten/fasten/sql/DialectOfPinLaw" (28 : Nat) "java/lang/String").before a0 Z = true := hw _ (List.mem_of_getElem? (i := 46) rfl)
theorem own_w47 {a0 : Array Value} {Z : State} (hw : ∀ d ∈ tables_1, d.before a0 Z = true) : (Jvm.Cond.methodLink "com/example/fasten/fasten/sql/DialectOfPinLaw" (60 : Nat) ({ cls := "java/lang/String", name := "<init>", desc := "([C)V" } : Jvm.MethodName)).before a0 Z = true := hw _ (List.mem_of_getElem? (i := 47) rfl)
theorem own_w48 {a0 : Array Value} {Z : State} (hw : ∀ d ∈ tables_1, d.before a0 Z = true) : (Jvm.Cond.instanceMethod ({ cls := "java/lang/String", name := "<init>", desc := "([C)V" } : Jvm.MethodName)).before a0 Z = true := hw _ (List.mem_of_getElem? (i := 48) rfl)
theorem own_w49 {a0 : Array Value} {Z : State} (hw : ∀ d ∈ tables_1, d.before a0 Z = true) : (Jvm.Cond.code ({ cls := "java/lang/String", name := "<init>", desc := "([C)V" } : Jvm.MethodName) jdk_42_method_3_code (2 : Nat) (Option.none : Option Jvm.ClassFile.FieldType)).before a0 Z = true := hw _ (List.mem_of_getElem? (i := 49) rfl)
theorem own_w53 {a0 : Array Value} {Z : State} (hw : ∀ d ∈ tables_1, d.before a0 Z = true) : (Jvm.Cond.methodLink "java/lang/String" (1 : Nat) ({ cls := "java/lang/Object", name := "<init>", desc := "()V" } : Jvm.MethodName)).before a0 Z = true := hw _ (List.mem_of_getElem? (i := 53) rfl)
theorem own_w54 {a0 : Array Value} {Z : State} (hw : ∀ d ∈ tables_1, d.before a0 Z = true) : (Jvm.Cond.instanceMethod ({ cls := "java/lang/Object", name := "<init>", desc := "()V" } : Jvm.MethodName)).before a0 Z = true := hw _ (List.mem_of_getElem? (i := 54) rfl)
theorem own_w55 {a0 : Array Value} {Z : State} (hw : ∀ d ∈ tables_1, d.before a0 Z = true) : (Jvm.Cond.code ({ cls := "java/lang/Object", name := "<init>", desc := "()V" } : Jvm.MethodName) object_method_1_code (1 : Nat) (Option.none : Option Jvm.ClassFile.FieldType)).before a0 Z = true := hw _ (List.mem_of_getElem? (i := 55) rfl)
theorem own_w66 {a0 : Array Value} {Z : State} (hw : ∀ d ∈ tables_1, d.before a0 Z = true) : (Jvm.Cond.methodLink "com/example/fasten/fasten/sql/DialectOfPinLaw" (27 : Nat) ({ cls := "java/lang/String", name := "length", desc := "()I" } : Jvm.MethodName)).before a0 Z = true := hw _ (List.mem_of_getElem? (i := 66) rfl)
theorem own_w67 {a0 : Array Value} {Z : State} (hw : ∀ d ∈ tables_1, d.before a0 Z = true) : (Jvm.Cond.declares ({ cls := "java/lang/String", name := "length", desc := "()I" } : Jvm.MethodName)).before a0 Z = true := hw _ (List.mem_of_getElem? (i := 67) rfl)
theorem own_w68 {a0 : Array Value} {Z : State} (hw : ∀ d ∈ tables_1, d.before a0 Z = true) : (Jvm.Cond.instanceMethod ({ cls := "java/lang/String", name := "length", desc := "()I" } : Jvm.MethodName)).before a0 Z = true := hw _ (List.mem_of_getElem? (i := 68) rfl)
theorem own_w69 {a0 : Array Value} {Z : State} (hw : ∀ d ∈ tables_1, d.before a0 Z = true) : (Jvm.Cond.selects "java/lang/String" ({ cls := "java/lang/String", name := "length", desc := "()I" } : Jvm.MethodName) ({ cls := "java/lang/String", name := "length", desc := "()I" } : Jvm.MethodName)).before a0 Z = true := hw _ (List.mem_of_getElem? (i := 69) rfl)
theorem own_w76 {a0 : Array Value} {Z : State} (hw : ∀ d ∈ tables_1, d.before a0 Z = true) : (Jvm.Cond.fieldLink "com/example/fasten/fasten/sql/Dialect" (3 : Nat) "com/example/fasten/fasten/sql/Dialect" "MARIADB" "Lcom/example/fasten/fasten/sql/Dialect;").before a0 Z = true := hw _ (List.mem_of_getElem? (i := 76) rfl)
theorem own_w77 {a0 : Array Value} {Z : State} (hw : ∀ d ∈ tables_1, d.before a0 Z = true) : (Jvm.Cond.methodLink "com/example/fasten/fasten/sql/DialectOfPinLaw" (37 : Nat) ({ cls := "com/example/fasten/fasten/sql/DialectOfPinLaw", name := "appended", desc := "(IC)Ljava/lang/String;" } : Jvm.MethodName)).before a0 Z = true := hw _ (List.mem_of_getElem? (i := 77) rfl)
theorem own_w78 {a0 : Array Value} {Z : State} (hw : ∀ d ∈ tables_1, d.before a0 Z = true) : (Jvm.Cond.static ({ cls := "com/example/fasten/fasten/sql/DialectOfPinLaw", name := "appended", desc := "(IC)Ljava/lang/String;" } : Jvm.MethodName)).before a0 Z = true := hw _ (List.mem_of_getElem? (i := 78) rfl)
theorem own_w79 {a0 : Array Value} {Z : State} (hw : ∀ d ∈ tables_1, d.before a0 Z = true) : (Jvm.Cond.code ({ cls := "com/example/fasten/fasten/sql/DialectOfPinLaw", name := "appended", desc := "(IC)Ljava/lang/String;" } : Jvm.MethodName) method_5_code (3 : Nat) (Option.some (Jvm.ClassFile.FieldType.object "java/lang/String"))).before a0 Z = true := hw _ (List.mem_of_getElem? (i := 79) rfl)
theorem own_w80 {a0 : Array Value} {Z : State} (hw : ∀ d ∈ tables_1, d.before a0 Z = true) : (Jvm.Cond.stringLink "com/example/fasten/fasten/sql/DialectOfPinLaw" (58 : Nat) "PostgreSQL").before a0 Z = true := hw _ (List.mem_of_getElem? (i := 80) rfl)
theorem own_w81 {a0 : Array Value} {Z : State} (hw : ∀ d ∈ tables_1, d.before a0 Z = true) : (Jvm.Cond.fieldLink "com/example/fasten/fasten/sql/DialectOfPinLaw" (14 : Nat) "com/example/fasten/fasten/sql/Dialect" "POSTGRESQL" "Lcom/example/fasten/fasten/sql/Dialect;").before a0 Z = true := hw _ (List.mem_of_getElem? (i := 81) rfl)
theorem own_w82 {a0 : Array Value} {Z : State} (hw : ∀ d ∈ tables_1, d.before a0 Z = true) : (Jvm.Cond.laysStatic "com/example/fasten/fasten/sql/Dialect" "POSTGRESQL" "Lcom/example/fasten/fasten/sql/Dialect;").before a0 Z = true := hw _ (List.mem_of_getElem? (i := 82) rfl)
theorem own_w83 {a0 : Array Value} {Z : State} (hw : ∀ d ∈ tables_1, d.before a0 Z = true) : (Jvm.Cond.stringLink "com/example/fasten/fasten/sql/DialectOfPinLaw" (67 : Nat) "PostgreSQ").before a0 Z = true := hw _ (List.mem_of_getElem? (i := 83) rfl)
theorem own_w84 {a0 : Array Value} {Z : State} (hw : ∀ d ∈ tables_1, d.before a0 Z = true) : (Jvm.Cond.methodLink "com/example/fasten/fasten/sql/DialectOfPinLaw" (46 : Nat) ({ cls := "java/lang/String", name := "valueOf", desc := "(C)Ljava/lang/String;" } : Jvm.MethodName)).before a0 Z = true := hw _ (List.mem_of_getElem? (i := 84) rfl)
theorem own_w85 {a0 : Array Value} {Z : State} (hw : ∀ d ∈ tables_1, d.before a0 Z = true) : (Jvm.Cond.static ({ cls := "java/lang/String", name := "valueOf", desc := "(C)Ljava/lang/String;" } : Jvm.MethodName)).before a0 Z = true := hw _ (List.mem_of_getElem? (i := 85) rfl)
theorem own_w86 {a0 : Array Value} {Z : State} (hw : ∀ d ∈ tables_1, d.before a0 Z = true) : (Jvm.Cond.code ({ cls := "java/lang/String", name := "valueOf", desc := "(C)Ljava/lang/String;" } : Jvm.MethodName) jdk_42_method_139_code (1 : Nat) (Option.some (Jvm.ClassFile.FieldType.object "java/lang/String"))).before a0 Z = true := hw _ (List.mem_of_getElem? (i := 86) rfl)
theorem own_w87 {a0 : Array Value} {Z : State} (hw : ∀ d ∈ tables_1, d.before a0 Z = true) : (Jvm.Cond.methodLink "java/lang/String" (1015 : Nat) ({ cls := "java/lang/StringLatin1", name := "canEncode", desc := "(C)Z" } : Jvm.MethodName)).before a0 Z = true := hw _ (List.mem_of_getElem? (i := 87) rfl)
theorem own_w88 {a0 : Array Value} {Z : State} (hw : ∀ d ∈ tables_1, d.before a0 Z = true) : (Jvm.Cond.static ({ cls := "java/lang/StringLatin1", name := "canEncode", desc := "(C)Z" } : Jvm.MethodName)).before a0 Z = true := hw _ (List.mem_of_getElem? (i := 88) rfl)
theorem own_w89 {a0 : Array Value} {Z : State} (hw : ∀ d ∈ tables_1, d.before a0 Z = true) : (Jvm.Cond.code ({ cls := "java/lang/StringLatin1", name := "canEncode", desc := "(C)Z" } : Jvm.MethodName) jdk_43_method_3_code (1 : Nat) (Option.some Jvm.ClassFile.FieldType.boolean)).before a0 Z = true := hw _ (List.mem_of_getElem? (i := 89) rfl)
theorem own_w90 {a0 : Array Value} {Z : State} (hw : ∀ d ∈ tables_1, d.before a0 Z = true) : (Jvm.Cond.methodLink "java/lang/String" (1018 : Nat) ({ cls := "java/lang/StringLatin1", name := "toBytes", desc := "(C)[B" } : Jvm.MethodName)).before a0 Z = true := hw _ (List.mem_of_getElem? (i := 90) rfl)
theorem own_w91 {a0 : Array Value} {Z : State} (hw : ∀ d ∈ tables_1, d.before a0 Z = true) : (Jvm.Cond.static ({ cls := "java/lang/StringLatin1", name := "toBytes", desc := "(C)[B" } : Jvm.MethodName)).before a0 Z = true := hw _ (List.mem_of_getElem? (i := 91) rfl)
theorem own_w92 {a0 : Array Value} {Z : State} (hw : ∀ d ∈ tables_1, d.before a0 Z = true) : (Jvm.Cond.code ({ cls := "java/lang/StringLatin1", name := "toBytes", desc := "(C)[B" } : Jvm.MethodName) jdk_43_method_46_code (1 : Nat) (Option.some (Jvm.ClassFile.FieldType.array Jvm.ClassFile.FieldType.byte))).before a0 Z = true := hw _ (List.mem_of_getElem? (i := 92) rfl)
theorem own_w93 {a0 : Array Value} {Z : State} (hw : ∀ d ∈ tables_1, d.before a0 Z = true) : (Jvm.Cond.methodLink "java/lang/String" (209 : Nat) ({ cls := "java/lang/String", name := "<init>", desc := "([BB)V" } : Jvm.MethodName)).before a0 Z = true := hw _ (List.mem_of_getElem? (i := 93) rfl)
theorem own_w94 {a0 : Array Value} {Z : State} (hw : ∀ d ∈ tables_1, d.before a0 Z = true) : (Jvm.Cond.instanceMethod ({ cls := "java/lang/String", name := "<init>", desc := "([BB)V" } : Jvm.MethodName)).before a0 Z = true := hw _ (List.mem_of_getElem? (i := 94) rfl)
theorem own_w95 {a0 : Array Value} {Z : State} (hw : ∀ d ∈ tables_1, d.before a0 Z = true) : (Jvm.Cond.code ({ cls := "java/lang/String", name := "<init>", desc := "([BB)V" } : Jvm.MethodName) jdk_42_method_151_code (3 : Nat) (Option.none : Option Jvm.ClassFile.FieldType)).before a0 Z = true := hw _ (List.mem_of_getElem? (i := 95) rfl)
theorem own_w96 {a0 : Array Value} {Z : State} (hw : ∀ d ∈ tables_1, d.before a0 Z = true) : (Jvm.Cond.methodLink "com/example/fasten/fasten/sql/DialectOfPinLaw" (33 : Nat) ({ cls := "java/lang/String", name := "charAt", desc := "(I)C" } : Jvm.MethodName)).before a0 Z = true := hw _ (List.mem_of_getElem? (i := 96) rfl)
theorem own_w97 {a0 : Array Value} {Z : State} (hw : ∀ d ∈ tables_1, d.before a0 Z = true) : (Jvm.Cond.declares ({ cls := "java/lang/String", name := "charAt", desc := "(I)C" } : Jvm.MethodName)).before a0 Z = true := hw _ (List.mem_of_getElem? (i := 97) rfl)
theorem own_w98 {a0 : Array Value} {Z : State} (hw : ∀ d ∈ tables_1, d.before a0 Z = true) : (Jvm.Cond.instanceMethod ({ cls := "java/lang/String", name := "charAt", desc := "(I)C" } : Jvm.MethodName)).before a0 Z = true := hw _ (List.mem_of_getElem? (i := 98) rfl)
theorem own_w99 {a0 : Array Value} {Z : State} (hw : ∀ d ∈ tables_1, d.before a0 Z = true) : (Jvm.Cond.selects "java/lang/String" ({ cls := "java/lang/String", name := "charAt", desc := "(I)C" } : Jvm.MethodName) ({ cls := "java/lang/String", name := "charAt", desc := "(I)C" } : Jvm.MethodName)).before a0 Z = true := hw _ (List.mem_of_getElem? (i := 99) rfl)
theorem own_w117 {a0 : Array Value} {Z : State} (hw : ∀ d ∈ tables_1, d.before a0 Z = true) : (Jvm.Cond.stringLink "com/example/fasten/fasten/sql/DialectOfPinLaw" (63 : Nat) "MariaD").before a0 Z = true := hw _ (List.mem_of_getElem? (i := 117) rfl)
theorem own_w118 {a0 : Array Value} {Z : State} (hw : ∀ d ∈ tables_1, d.before a0 Z = true) : (Jvm.Cond.fieldLink "com/example/fasten/fasten/sql/Dialect" (7 : Nat) "com/example/fasten/fasten/sql/Dialect" "POSTGRESQL" "Lcom/example/fasten/fasten/sql/Dialect;").before a0 Z = true := hw _ (List.mem_of_getElem? (i := 118) rfl)
theorem own_pd0 : parseMethodDescriptor "([C)V" = some ⟨[(.array .char)], none⟩ := by decide +kernel
theorem own_pd1 : parseMethodDescriptor "(C)Z" = some ⟨[.char], some .boolean⟩ := by decide +kernel
theorem own_pd2 : parseMethodDescriptor "(C)[B" = some ⟨[.char], some (.array .byte)⟩ := by decide +kernel
theorem own_pd3 : parseMethodDescriptor "([BB)V" = some ⟨[(.array .byte), .byte], none⟩ := by decide +kernel
theorem own_pd4 : parseMethodDescriptor "(Ljava/lang/Object;)Z" = some ⟨[(.object "java/lang/Object")], some .boolean⟩ := by decide +kernel
theorem own_pd5 : parseMethodDescriptor "(I)Ljava/lang/String;" = some ⟨[.int], some (.object "java/lang/String")⟩ := by decide +kernel
theorem own_pd6 : parseMethodDescriptor "(IIC)Ljava/lang/String;" = some ⟨[.int, .int, .char], some (.object "java/lang/String")⟩ := by decide +kernel
theorem own_pd7 : parseMethodDescriptor "()I" = some ⟨[], some .int⟩ := by decide +kernel
theorem own_pd8 : parseMethodDescriptor "(I)C" = some ⟨[.int], some .char⟩ := by decide +kernel
theorem own_pd9 : parseMethodDescriptor "(Ljava/lang/String;)Lcom/example/fasten/fasten/sql/Dialect;" = some ⟨[(.object "java/lang/String")], some (.object "com/example/fasten/fasten/sql/Dialect")⟩ := by decide +kernel
theorem own_pd10 : parseMethodDescriptor "(IC)Ljava/lang/String;" = some ⟨[.int, .char], some (.object "java/lang/String")⟩ := by decide +kernel
theorem own_pd11 : parseMethodDescriptor "(C)Ljava/lang/String;" = some ⟨[.char], some (.object "java/lang/String")⟩ := by decide +kernel
theorem own_pf0 : parseFieldDescriptor "[B" = some (.array .byte) := by decide +kernel
theorem own_pf1 : parseFieldDescriptor "B" = some .byte := by decide +kernel
theorem own_pn0 : plainName "com/example/fasten/fasten/sql/DialectOfPinLaw" = true := by first | (simp [plainName, overriddenIn]; done) | decide +kernel
theorem own_pn1 : plainName "java/lang/StringLatin1" = true := by first | (simp [plainName, overriddenIn]; done) | decide +kernel
theorem own_pn2 : plainFor (⟨"java/lang/String", "<init>", "([BB)V"⟩ : MethodName) = true := by decide +kernel
theorem own_pn3 : plainFor (⟨"java/lang/String", "valueOf", "(C)Ljava/lang/String;"⟩ : MethodName) = true := by decide +kernel
theorem own_pn4 : plainName "com/example/fasten/fasten/sql/Dialect" = true := by first | (simp [plainName, overriddenIn]; done) | decide +kernel
theorem own_d1_0 : decode method_3_code 0 = .ok (.iload_n 0, 1) := by decide +kernel
theorem own_d1_1 : decode method_3_code 1 = .ok (.ifCond .ne 6, 3) := by decide +kernel
theorem own_d1_4 : decode method_3_code 4 = .ok (.ldc 54, 2) := by decide +kernel
theorem own_d1_6 : decode method_3_code 6 = .ok (.areturn, 1) := by decide +kernel
theorem own_d1_7 : decode method_3_code 7 = .ok (.iload_n 0, 1) := by decide +kernel
theorem own_d1_8 : decode method_3_code 8 = .ok (.iconst 1, 1) := by decide +kernel
theorem own_d1_9 : decode method_3_code 9 = .ok (.if_icmp .ne 6, 3) := by decide +kernel
theorem own_d1_12 : decode method_3_code 12 = .ok (.ldc 56, 2) := by decide +kernel
theorem own_d1_14 : decode method_3_code 14 = .ok (.areturn, 1) := by decide +kernel
theorem own_d1_15 : decode method_3_code 15 = .ok (.ldc 58, 2) := by decide +kernel
theorem own_d1_17 : decode method_3_code 17 = .ok (.areturn, 1) := by decide +kernel
theorem own_d2_0 : decode prog_22_method_6_code 0 = .ok (.aconst_null, 1) := by decide +kernel
theorem own_d2_1 : decode prog_22_method_6_code 1 = .ok (.astore_n 1, 1) := by decide +kernel
theorem own_d2_2 : decode prog_22_method_6_code 2 = .ok (.aload_n 0, 1) := by decide +kernel
theorem own_d2_3 : decode prog_22_method_6_code 3 = .ok (.ldc 33, 2) := by decide +kernel
theorem own_d2_5 : decode prog_22_method_6_code 5 = .ok (.invokevirtual 35, 3) := by decide +kernel
theorem own_d2_8 : decode prog_22_method_6_code 8 = .ok (.ifCond .ne 12, 3) := by decide +kernel
theorem own_d2_11 : decode prog_22_method_6_code 11 = .ok (.aload_n 0, 1) := by decide +kernel
theorem own_d2_12 : decode prog_22_method_6_code 12 = .ok (.ldc 41, 2) := by decide +kernel
theorem own_d2_14 : decode prog_22_method_6_code 14 = .ok (.invokevirtual 35, 3) := by decide +kernel
theorem own_d2_17 : decode prog_22_method_6_code 17 = .ok (.ifCond .eq 10, 3) := by decide +kernel
theorem own_d2_20 : decode prog_22_method_6_code 20 = .ok (.getstatic 3, 3) := by decide +kernel
theorem own_d2_23 : decode prog_22_method_6_code 23 = .ok (.astore_n 1, 1) := by decide +kernel
theorem own_d2_24 : decode prog_22_method_6_code 24 = .ok (.goto 16, 3) := by decide +kernel
theorem own_d2_27 : decode prog_22_method_6_code 27 = .ok (.aload_n 0, 1) := by decide +kernel
theorem own_d2_28 : decode prog_22_method_6_code 28 = .ok (.ldc 43, 2) := by decide +kernel
theorem own_d2_30 : decode prog_22_method_6_code 30 = .ok (.invokevirtual 35, 3) := by decide +kernel
theorem own_d2_33 : decode prog_22_method_6_code 33 = .ok (.ifCond .eq 7, 3) := by decide +kernel
theorem own_d2_36 : decode prog_22_method_6_code 36 = .ok (.getstatic 7, 3) := by decide +kernel
theorem own_d2_39 : decode prog_22_method_6_code 39 = .ok (.astore_n 1, 1) := by decide +kernel
theorem own_d2_40 : decode prog_22_method_6_code 40 = .ok (.aload_n 1, 1) := by decide +kernel
theorem own_d2_41 : decode prog_22_method_6_code 41 = .ok (.areturn, 1) := by decide +kernel
theorem own_d5_0 : decode method_6_code 0 = .ok (.iload_n 0, 1) := by decide +kernel
theorem own_d5_1 : decode method_6_code 1 = .ok (.ifCond .ne 6, 3) := by decide +kernel
theorem own_d5_4 : decode method_6_code 4 = .ok (.ldc 63, 2) := by decide +kernel
theorem own_d5_6 : decode method_6_code 6 = .ok (.areturn, 1) := by decide +kernel
theorem own_d5_7 : decode method_6_code 7 = .ok (.iload_n 0, 1) := by decide +kernel
theorem own_d5_8 : decode method_6_code 8 = .ok (.iconst 1, 1) := by decide +kernel
theorem own_d5_9 : decode method_6_code 9 = .ok (.if_icmp .ne 6, 3) := by decide +kernel
theorem own_d5_12 : decode method_6_code 12 = .ok (.ldc 65, 2) := by decide +kernel
theorem own_d5_14 : decode method_6_code 14 = .ok (.areturn, 1) := by decide +kernel
theorem own_d5_15 : decode method_6_code 15 = .ok (.ldc 67, 2) := by decide +kernel
theorem own_d5_17 : decode method_6_code 17 = .ok (.areturn, 1) := by decide +kernel
theorem own_d6_0 : decode method_4_code 0 = .ok (.iload_n 0, 1) := by decide +kernel
theorem own_d6_1 : decode method_4_code 1 = .ok (.ifCond .ne 63, 3) := by decide +kernel
theorem own_d6_4 : decode method_4_code 4 = .ok (.bipush 7, 2) := by decide +kernel
theorem own_d6_6 : decode method_4_code 6 = .ok (.newarray .char, 2) := by decide +kernel
theorem own_d6_8 : decode method_4_code 8 = .ok (.dup, 1) := by decide +kernel
theorem own_d6_9 : decode method_4_code 9 = .ok (.iconst 0, 1) := by decide +kernel
theorem own_d6_10 : decode method_4_code 10 = .ok (.bipush 77, 2) := by decide +kernel
theorem own_d6_12 : decode method_4_code 12 = .ok (.castore, 1) := by decide +kernel
theorem own_d6_13 : decode method_4_code 13 = .ok (.dup, 1) := by decide +kernel
theorem own_d6_14 : decode method_4_code 14 = .ok (.iconst 1, 1) := by decide +kernel
theorem own_d6_15 : decode method_4_code 15 = .ok (.bipush 97, 2) := by decide +kernel
theorem own_d6_17 : decode method_4_code 17 = .ok (.castore, 1) := by decide +kernel
theorem own_d6_18 : decode method_4_code 18 = .ok (.dup, 1) := by decide +kernel
theorem own_d6_19 : decode method_4_code 19 = .ok (.iconst 2, 1) := by decide +kernel
theorem own_d6_20 : decode method_4_code 20 = .ok (.bipush 114, 2) := by decide +kernel
theorem own_d6_22 : decode method_4_code 22 = .ok (.castore, 1) := by decide +kernel
theorem own_d6_23 : decode method_4_code 23 = .ok (.dup, 1) := by decide +kernel
theorem own_d6_24 : decode method_4_code 24 = .ok (.iconst 3, 1) := by decide +kernel
theorem own_d6_25 : decode method_4_code 25 = .ok (.bipush 105, 2) := by decide +kernel
theorem own_d6_27 : decode method_4_code 27 = .ok (.castore, 1) := by decide +kernel
theorem own_d6_28 : decode method_4_code 28 = .ok (.dup, 1) := by decide +kernel
theorem own_d6_29 : decode method_4_code 29 = .ok (.iconst 4, 1) := by decide +kernel
theorem own_d6_30 : decode method_4_code 30 = .ok (.bipush 97, 2) := by decide +kernel
theorem own_d6_32 : decode method_4_code 32 = .ok (.castore, 1) := by decide +kernel
theorem own_d6_33 : decode method_4_code 33 = .ok (.dup, 1) := by decide +kernel
theorem own_d6_34 : decode method_4_code 34 = .ok (.iconst 5, 1) := by decide +kernel
theorem own_d6_35 : decode method_4_code 35 = .ok (.bipush 68, 2) := by decide +kernel
theorem own_d6_37 : decode method_4_code 37 = .ok (.castore, 1) := by decide +kernel
theorem own_d6_38 : decode method_4_code 38 = .ok (.dup, 1) := by decide +kernel
theorem own_d6_39 : decode method_4_code 39 = .ok (.bipush 6, 2) := by decide +kernel
theorem own_d6_41 : decode method_4_code 41 = .ok (.bipush 66, 2) := by decide +kernel
theorem own_d6_43 : decode method_4_code 43 = .ok (.castore, 1) := by decide +kernel
theorem own_d6_44 : decode method_4_code 44 = .ok (.astore_n 3, 1) := by decide +kernel
theorem own_d6_45 : decode method_4_code 45 = .ok (.iload_n 1, 1) := by decide +kernel
theorem own_d6_46 : decode method_4_code 46 = .ok (.bipush 7, 2) := by decide +kernel
theorem own_d6_48 : decode method_4_code 48 = .ok (.if_icmp .ge 7, 3) := by decide +kernel
theorem own_d6_51 : decode method_4_code 51 = .ok (.aload_n 3, 1) := by decide +kernel
theorem own_d6_52 : decode method_4_code 52 = .ok (.iload_n 1, 1) := by decide +kernel
theorem own_d6_53 : decode method_4_code 53 = .ok (.iload_n 2, 1) := by decide +kernel
theorem own_d6_54 : decode method_4_code 54 = .ok (.castore, 1) := by decide +kernel
theorem own_d6_55 : decode method_4_code 55 = .ok (.new 28, 3) := by decide +kernel
theorem own_d6_58 : decode method_4_code 58 = .ok (.dup, 1) := by decide +kernel
theorem own_d6_59 : decode method_4_code 59 = .ok (.aload_n 3, 1) := by decide +kernel
theorem own_d6_60 : decode method_4_code 60 = .ok (.invokespecial 60, 3) := by decide +kernel
theorem own_d6_63 : decode method_4_code 63 = .ok (.areturn, 1) := by decide +kernel
theorem own_d6_64 : decode method_4_code 64 = .ok (.iload_n 0, 1) := by decide +kernel
theorem own_d6_65 : decode method_4_code 65 = .ok (.iconst 1, 1) := by decide +kernel
theorem own_d6_66 : decode method_4_code 66 = .ok (.if_icmp .ne 50, 3) := by decide +kernel
theorem own_d6_69 : decode method_4_code 69 = .ok (.iconst 5, 1) := by decide +kernel
theorem own_d6_70 : decode method_4_code 70 = .ok (.newarray .char, 2) := by decide +kernel
theorem own_d6_72 : decode method_4_code 72 = .ok (.dup, 1) := by decide +kernel
theorem own_d6_73 : decode method_4_code 73 = .ok (.iconst 0, 1) := by decide +kernel
theorem own_d6_74 : decode method_4_code 74 = .ok (.bipush 77, 2) := by decide +kernel
theorem own_d6_76 : decode method_4_code 76 = .ok (.castore, 1) := by decide +kernel
theorem own_d6_77 : decode method_4_code 77 = .ok (.dup, 1) := by decide +kernel
theorem own_d6_78 : decode method_4_code 78 = .ok (.iconst 1, 1) := by decide +kernel
theorem own_d6_79 : decode method_4_code 79 = .ok (.bipush 121, 2) := by decide +kernel
theorem own_d6_81 : decode method_4_code 81 = .ok (.castore, 1) := by decide +kernel
theorem own_d6_82 : decode method_4_code 82 = .ok (.dup, 1) := by decide +kernel
theorem own_d6_83 : decode method_4_code 83 = .ok (.iconst 2, 1) := by decide +kernel
theorem own_d6_84 : decode method_4_code 84 = .ok (.bipush 83, 2) := by decide +kernel
theorem own_d6_86 : decode method_4_code 86 = .ok (.castore, 1) := by decide +kernel
theorem own_d6_87 : decode method_4_code 87 = .ok (.dup, 1) := by decide +kernel
theorem own_d6_88 : decode method_4_code 88 = .ok (.iconst 3, 1) := by decide +kernel
theorem own_d6_89 : decode method_4_code 89 = .ok (.bipush 81, 2) := by decide +kernel
theorem own_d6_91 : decode method_4_code 91 = .ok (.castore, 1) := by decide +kernel
theorem own_d6_92 : decode method_4_code 92 = .ok (.dup, 1) := by decide +kernel
theorem own_d6_93 : decode method_4_code 93 = .ok (.iconst 4, 1) := by decide +kernel
theorem own_d6_94 : decode method_4_code 94 = .ok (.bipush 76, 2) := by decide +kernel
theorem own_d6_96 : decode method_4_code 96 = .ok (.castore, 1) := by decide +kernel
theorem own_d6_97 : decode method_4_code 97 = .ok (.astore_n 3, 1) := by decide +kernel
theorem own_d6_98 : decode method_4_code 98 = .ok (.iload_n 1, 1) := by decide +kernel
theorem own_d6_99 : decode method_4_code 99 = .ok (.iconst 5, 1) := by decide +kernel
theorem own_d6_100 : decode method_4_code 100 = .ok (.if_icmp .ge 7, 3) := by decide +kernel
theorem own_d6_103 : decode method_4_code 103 = .ok (.aload_n 3, 1) := by decide +kernel
theorem own_d6_104 : decode method_4_code 104 = .ok (.iload_n 1, 1) := by decide +kernel
theorem own_d6_105 : decode method_4_code 105 = .ok (.iload_n 2, 1) := by decide +kernel
theorem own_d6_106 : decode method_4_code 106 = .ok (.castore, 1) := by decide +kernel
theorem own_d6_107 : decode method_4_code 107 = .ok (.new 28, 3) := by decide +kernel
theorem own_d6_110 : decode method_4_code 110 = .ok (.dup, 1) := by decide +kernel
theorem own_d6_111 : decode method_4_code 111 = .ok (.aload_n 3, 1) := by decide +kernel
theorem own_d6_112 : decode method_4_code 112 = .ok (.invokespecial 60, 3) := by decide +kernel
theorem own_d6_115 : decode method_4_code 115 = .ok (.areturn, 1) := by decide +kernel
theorem own_d6_116 : decode method_4_code 116 = .ok (.bipush 10, 2) := by decide +kernel
theorem own_d6_118 : decode method_4_code 118 = .ok (.newarray .char, 2) := by decide +kernel
theorem own_d6_120 : decode method_4_code 120 = .ok (.dup, 1) := by decide +kernel
theorem own_d6_121 : decode method_4_code 121 = .ok (.iconst 0, 1) := by decide +kernel
theorem own_d6_122 : decode method_4_code 122 = .ok (.bipush 80, 2) := by decide +kernel
theorem own_d6_124 : decode method_4_code 124 = .ok (.castore, 1) := by decide +kernel
theorem own_d6_125 : decode method_4_code 125 = .ok (.dup, 1) := by decide +kernel
theorem own_d6_126 : decode method_4_code 126 = .ok (.iconst 1, 1) := by decide +kernel
theorem own_d6_127 : decode method_4_code 127 = .ok (.bipush 111, 2) := by decide +kernel
theorem own_d6_129 : decode method_4_code 129 = .ok (.castore, 1) := by decide +kernel
theorem own_d6_130 : decode method_4_code 130 = .ok (.dup, 1) := by decide +kernel
theorem own_d6_131 : decode method_4_code 131 = .ok (.iconst 2, 1) := by decide +kernel
theorem own_d6_132 : decode method_4_code 132 = .ok (.bipush 115, 2) := by decide +kernel
theorem own_d6_134 : decode method_4_code 134 = .ok (.castore, 1) := by decide +kernel
theorem own_d6_135 : decode method_4_code 135 = .ok (.dup, 1) := by decide +kernel
theorem own_d6_136 : decode method_4_code 136 = .ok (.iconst 3, 1) := by decide +kernel
theorem own_d6_137 : decode method_4_code 137 = .ok (.bipush 116, 2) := by decide +kernel
theorem own_d6_139 : decode method_4_code 139 = .ok (.castore, 1) := by decide +kernel
theorem own_d6_140 : decode method_4_code 140 = .ok (.dup, 1) := by decide +kernel
theorem own_d6_141 : decode method_4_code 141 = .ok (.iconst 4, 1) := by decide +kernel
theorem own_d6_142 : decode method_4_code 142 = .ok (.bipush 103, 2) := by decide +kernel
theorem own_d6_144 : decode method_4_code 144 = .ok (.castore, 1) := by decide +kernel
theorem own_d6_145 : decode method_4_code 145 = .ok (.dup, 1) := by decide +kernel
theorem own_d6_146 : decode method_4_code 146 = .ok (.iconst 5, 1) := by decide +kernel
theorem own_d6_147 : decode method_4_code 147 = .ok (.bipush 114, 2) := by decide +kernel
theorem own_d6_149 : decode method_4_code 149 = .ok (.castore, 1) := by decide +kernel
theorem own_d6_150 : decode method_4_code 150 = .ok (.dup, 1) := by decide +kernel
theorem own_d6_151 : decode method_4_code 151 = .ok (.bipush 6, 2) := by decide +kernel
theorem own_d6_153 : decode method_4_code 153 = .ok (.bipush 101, 2) := by decide +kernel
theorem own_d6_155 : decode method_4_code 155 = .ok (.castore, 1) := by decide +kernel
theorem own_d6_156 : decode method_4_code 156 = .ok (.dup, 1) := by decide +kernel
theorem own_d6_157 : decode method_4_code 157 = .ok (.bipush 7, 2) := by decide +kernel
theorem own_d6_159 : decode method_4_code 159 = .ok (.bipush 83, 2) := by decide +kernel
theorem own_d6_161 : decode method_4_code 161 = .ok (.castore, 1) := by decide +kernel
theorem own_d6_162 : decode method_4_code 162 = .ok (.dup, 1) := by decide +kernel
theorem own_d6_163 : decode method_4_code 163 = .ok (.bipush 8, 2) := by decide +kernel
theorem own_d6_165 : decode method_4_code 165 = .ok (.bipush 81, 2) := by decide +kernel
theorem own_d6_167 : decode method_4_code 167 = .ok (.castore, 1) := by decide +kernel
theorem own_d6_168 : decode method_4_code 168 = .ok (.dup, 1) := by decide +kernel
theorem own_d6_169 : decode method_4_code 169 = .ok (.bipush 9, 2) := by decide +kernel
theorem own_d6_171 : decode method_4_code 171 = .ok (.bipush 76, 2) := by decide +kernel
theorem own_d6_173 : decode method_4_code 173 = .ok (.castore, 1) := by decide +kernel
theorem own_d6_174 : decode method_4_code 174 = .ok (.astore_n 3, 1) := by decide +kernel
theorem own_d6_175 : decode method_4_code 175 = .ok (.iload_n 1, 1) := by decide +kernel
theorem own_d6_176 : decode method_4_code 176 = .ok (.bipush 10, 2) := by decide +kernel
theorem own_d6_178 : decode method_4_code 178 = .ok (.if_icmp .ge 7, 3) := by decide +kernel
theorem own_d6_181 : decode method_4_code 181 = .ok (.aload_n 3, 1) := by decide +kernel
theorem own_d6_182 : decode method_4_code 182 = .ok (.iload_n 1, 1) := by decide +kernel
theorem own_d6_183 : decode method_4_code 183 = .ok (.iload_n 2, 1) := by decide +kernel
theorem own_d6_184 : decode method_4_code 184 = .ok (.castore, 1) := by decide +kernel
theorem own_d6_185 : decode method_4_code 185 = .ok (.new 28, 3) := by decide +kernel
theorem own_d6_188 : decode method_4_code 188 = .ok (.dup, 1) := by decide +kernel
theorem own_d6_189 : decode method_4_code 189 = .ok (.aload_n 3, 1) := by decide +kernel
theorem own_d6_190 : decode method_4_code 190 = .ok (.invokespecial 60, 3) := by decide +kernel
theorem own_d6_193 : decode method_4_code 193 = .ok (.areturn, 1) := by decide +kernel
theorem own_d15_0 : decode method_5_code 0 = .ok (.iload_n 0, 1) := by decide +kernel
theorem own_d15_1 : decode method_5_code 1 = .ok (.ifCond .ne 58, 3) := by decide +kernel
theorem own_d15_4 : decode method_5_code 4 = .ok (.bipush 8, 2) := by decide +kernel
theorem own_d15_6 : decode method_5_code 6 = .ok (.newarray .char, 2) := by decide +kernel
theorem own_d15_8 : decode method_5_code 8 = .ok (.dup, 1) := by decide +kernel
theorem own_d15_9 : decode method_5_code 9 = .ok (.iconst 0, 1) := by decide +kernel
theorem own_d15_10 : decode method_5_code 10 = .ok (.bipush 77, 2) := by decide +kernel
theorem own_d15_12 : decode method_5_code 12 = .ok (.castore, 1) := by decide +kernel
theorem own_d15_13 : decode method_5_code 13 = .ok (.dup, 1) := by decide +kernel
theorem own_d15_14 : decode method_5_code 14 = .ok (.iconst 1, 1) := by decide +kernel
theorem own_d15_15 : decode method_5_code 15 = .ok (.bipush 97, 2) := by decide +kernel
theorem own_d15_17 : decode method_5_code 17 = .ok (.castore, 1) := by decide +kernel
theorem own_d15_18 : decode method_5_code 18 = .ok (.dup, 1) := by decide +kernel
theorem own_d15_19 : decode method_5_code 19 = .ok (.iconst 2, 1) := by decide +kernel
theorem own_d15_20 : decode method_5_code 20 = .ok (.bipush 114, 2) := by decide +kernel
theorem own_d15_22 : decode method_5_code 22 = .ok (.castore, 1) := by decide +kernel
theorem own_d15_23 : decode method_5_code 23 = .ok (.dup, 1) := by decide +kernel
theorem own_d15_24 : decode method_5_code 24 = .ok (.iconst 3, 1) := by decide +kernel
theorem own_d15_25 : decode method_5_code 25 = .ok (.bipush 105, 2) := by decide +kernel
theorem own_d15_27 : decode method_5_code 27 = .ok (.castore, 1) := by decide +kernel
theorem own_d15_28 : decode method_5_code 28 = .ok (.dup, 1) := by decide +kernel
theorem own_d15_29 : decode method_5_code 29 = .ok (.iconst 4, 1) := by decide +kernel
theorem own_d15_30 : decode method_5_code 30 = .ok (.bipush 97, 2) := by decide +kernel
theorem own_d15_32 : decode method_5_code 32 = .ok (.castore, 1) := by decide +kernel
theorem own_d15_33 : decode method_5_code 33 = .ok (.dup, 1) := by decide +kernel
theorem own_d15_34 : decode method_5_code 34 = .ok (.iconst 5, 1) := by decide +kernel
theorem own_d15_35 : decode method_5_code 35 = .ok (.bipush 68, 2) := by decide +kernel
theorem own_d15_37 : decode method_5_code 37 = .ok (.castore, 1) := by decide +kernel
theorem own_d15_38 : decode method_5_code 38 = .ok (.dup, 1) := by decide +kernel
theorem own_d15_39 : decode method_5_code 39 = .ok (.bipush 6, 2) := by decide +kernel
theorem own_d15_41 : decode method_5_code 41 = .ok (.bipush 66, 2) := by decide +kernel
theorem own_d15_43 : decode method_5_code 43 = .ok (.castore, 1) := by decide +kernel
theorem own_d15_44 : decode method_5_code 44 = .ok (.dup, 1) := by decide +kernel
theorem own_d15_45 : decode method_5_code 45 = .ok (.bipush 7, 2) := by decide +kernel
theorem own_d15_47 : decode method_5_code 47 = .ok (.iload_n 1, 1) := by decide +kernel
theorem own_d15_48 : decode method_5_code 48 = .ok (.castore, 1) := by decide +kernel
theorem own_d15_49 : decode method_5_code 49 = .ok (.astore_n 2, 1) := by decide +kernel
theorem own_d15_50 : decode method_5_code 50 = .ok (.new 28, 3) := by decide +kernel
theorem own_d15_53 : decode method_5_code 53 = .ok (.dup, 1) := by decide +kernel
theorem own_d15_54 : decode method_5_code 54 = .ok (.aload_n 2, 1) := by decide +kernel
theorem own_d15_55 : decode method_5_code 55 = .ok (.invokespecial 60, 3) := by decide +kernel
theorem own_d15_58 : decode method_5_code 58 = .ok (.areturn, 1) := by decide +kernel
theorem own_d15_59 : decode method_5_code 59 = .ok (.iload_n 0, 1) := by decide +kernel
theorem own_d15_60 : decode method_5_code 60 = .ok (.iconst 1, 1) := by decide +kernel
theorem own_d15_61 : decode method_5_code 61 = .ok (.if_icmp .ne 46, 3) := by decide +kernel
theorem own_d15_64 : decode method_5_code 64 = .ok (.bipush 6, 2) := by decide +kernel
theorem own_d15_66 : decode method_5_code 66 = .ok (.newarray .char, 2) := by decide +kernel
theorem own_d15_68 : decode method_5_code 68 = .ok (.dup, 1) := by decide +kernel
theorem own_d15_69 : decode method_5_code 69 = .ok (.iconst 0, 1) := by decide +kernel
theorem own_d15_70 : decode method_5_code 70 = .ok (.bipush 77, 2) := by decide +kernel
theorem own_d15_72 : decode method_5_code 72 = .ok (.castore, 1) := by decide +kernel
theorem own_d15_73 : decode method_5_code 73 = .ok (.dup, 1) := by decide +kernel
theorem own_d15_74 : decode method_5_code 74 = .ok (.iconst 1, 1) := by decide +kernel
theorem own_d15_75 : decode method_5_code 75 = .ok (.bipush 121, 2) := by decide +kernel
theorem own_d15_77 : decode method_5_code 77 = .ok (.castore, 1) := by decide +kernel
theorem own_d15_78 : decode method_5_code 78 = .ok (.dup, 1) := by decide +kernel
theorem own_d15_79 : decode method_5_code 79 = .ok (.iconst 2, 1) := by decide +kernel
theorem own_d15_80 : decode method_5_code 80 = .ok (.bipush 83, 2) := by decide +kernel
theorem own_d15_82 : decode method_5_code 82 = .ok (.castore, 1) := by decide +kernel
theorem own_d15_83 : decode method_5_code 83 = .ok (.dup, 1) := by decide +kernel
theorem own_d15_84 : decode method_5_code 84 = .ok (.iconst 3, 1) := by decide +kernel
theorem own_d15_85 : decode method_5_code 85 = .ok (.bipush 81, 2) := by decide +kernel
theorem own_d15_87 : decode method_5_code 87 = .ok (.castore, 1) := by decide +kernel
theorem own_d15_88 : decode method_5_code 88 = .ok (.dup, 1) := by decide +kernel
theorem own_d15_89 : decode method_5_code 89 = .ok (.iconst 4, 1) := by decide +kernel
theorem own_d15_90 : decode method_5_code 90 = .ok (.bipush 76, 2) := by decide +kernel
theorem own_d15_92 : decode method_5_code 92 = .ok (.castore, 1) := by decide +kernel
theorem own_d15_93 : decode method_5_code 93 = .ok (.dup, 1) := by decide +kernel
theorem own_d15_94 : decode method_5_code 94 = .ok (.iconst 5, 1) := by decide +kernel
theorem own_d15_95 : decode method_5_code 95 = .ok (.iload_n 1, 1) := by decide +kernel
theorem own_d15_96 : decode method_5_code 96 = .ok (.castore, 1) := by decide +kernel
theorem own_d15_97 : decode method_5_code 97 = .ok (.astore_n 2, 1) := by decide +kernel
theorem own_d15_98 : decode method_5_code 98 = .ok (.new 28, 3) := by decide +kernel
theorem own_d15_101 : decode method_5_code 101 = .ok (.dup, 1) := by decide +kernel
theorem own_d15_102 : decode method_5_code 102 = .ok (.aload_n 2, 1) := by decide +kernel
theorem own_d15_103 : decode method_5_code 103 = .ok (.invokespecial 60, 3) := by decide +kernel
theorem own_d15_106 : decode method_5_code 106 = .ok (.areturn, 1) := by decide +kernel
theorem own_d15_107 : decode method_5_code 107 = .ok (.bipush 11, 2) := by decide +kernel
theorem own_d15_109 : decode method_5_code 109 = .ok (.newarray .char, 2) := by decide +kernel
theorem own_d15_111 : decode method_5_code 111 = .ok (.dup, 1) := by decide +kernel
theorem own_d15_112 : decode method_5_code 112 = .ok (.iconst 0, 1) := by decide +kernel
theorem own_d15_113 : decode method_5_code 113 = .ok (.bipush 80, 2) := by decide +kernel
theorem own_d15_115 : decode method_5_code 115 = .ok (.castore, 1) := by decide +kernel
theorem own_d15_116 : decode method_5_code 116 = .ok (.dup, 1) := by decide +kernel
theorem own_d15_117 : decode method_5_code 117 = .ok (.iconst 1, 1) := by decide +kernel
theorem own_d15_118 : decode method_5_code 118 = .ok (.bipush 111, 2) := by decide +kernel
theorem own_d15_120 : decode method_5_code 120 = .ok (.castore, 1) := by decide +kernel
theorem own_d15_121 : decode method_5_code 121 = .ok (.dup, 1) := by decide +kernel
theorem own_d15_122 : decode method_5_code 122 = .ok (.iconst 2, 1) := by decide +kernel
theorem own_d15_123 : decode method_5_code 123 = .ok (.bipush 115, 2) := by decide +kernel
theorem own_d15_125 : decode method_5_code 125 = .ok (.castore, 1) := by decide +kernel
theorem own_d15_126 : decode method_5_code 126 = .ok (.dup, 1) := by decide +kernel
theorem own_d15_127 : decode method_5_code 127 = .ok (.iconst 3, 1) := by decide +kernel
theorem own_d15_128 : decode method_5_code 128 = .ok (.bipush 116, 2) := by decide +kernel
theorem own_d15_130 : decode method_5_code 130 = .ok (.castore, 1) := by decide +kernel
theorem own_d15_131 : decode method_5_code 131 = .ok (.dup, 1) := by decide +kernel
theorem own_d15_132 : decode method_5_code 132 = .ok (.iconst 4, 1) := by decide +kernel
theorem own_d15_133 : decode method_5_code 133 = .ok (.bipush 103, 2) := by decide +kernel
theorem own_d15_135 : decode method_5_code 135 = .ok (.castore, 1) := by decide +kernel
theorem own_d15_136 : decode method_5_code 136 = .ok (.dup, 1) := by decide +kernel
theorem own_d15_137 : decode method_5_code 137 = .ok (.iconst 5, 1) := by decide +kernel
theorem own_d15_138 : decode method_5_code 138 = .ok (.bipush 114, 2) := by decide +kernel
theorem own_d15_140 : decode method_5_code 140 = .ok (.castore, 1) := by decide +kernel
theorem own_d15_141 : decode method_5_code 141 = .ok (.dup, 1) := by decide +kernel
theorem own_d15_142 : decode method_5_code 142 = .ok (.bipush 6, 2) := by decide +kernel
theorem own_d15_144 : decode method_5_code 144 = .ok (.bipush 101, 2) := by decide +kernel
theorem own_d15_146 : decode method_5_code 146 = .ok (.castore, 1) := by decide +kernel
theorem own_d15_147 : decode method_5_code 147 = .ok (.dup, 1) := by decide +kernel
theorem own_d15_148 : decode method_5_code 148 = .ok (.bipush 7, 2) := by decide +kernel
theorem own_d15_150 : decode method_5_code 150 = .ok (.bipush 83, 2) := by decide +kernel
theorem own_d15_152 : decode method_5_code 152 = .ok (.castore, 1) := by decide +kernel
theorem own_d15_153 : decode method_5_code 153 = .ok (.dup, 1) := by decide +kernel
theorem own_d15_154 : decode method_5_code 154 = .ok (.bipush 8, 2) := by decide +kernel
theorem own_d15_156 : decode method_5_code 156 = .ok (.bipush 81, 2) := by decide +kernel
theorem own_d15_158 : decode method_5_code 158 = .ok (.castore, 1) := by decide +kernel
theorem own_d15_159 : decode method_5_code 159 = .ok (.dup, 1) := by decide +kernel
theorem own_d15_160 : decode method_5_code 160 = .ok (.bipush 9, 2) := by decide +kernel
theorem own_d15_162 : decode method_5_code 162 = .ok (.bipush 76, 2) := by decide +kernel
theorem own_d15_164 : decode method_5_code 164 = .ok (.castore, 1) := by decide +kernel
theorem own_d15_165 : decode method_5_code 165 = .ok (.dup, 1) := by decide +kernel
theorem own_d15_166 : decode method_5_code 166 = .ok (.bipush 10, 2) := by decide +kernel
theorem own_d15_168 : decode method_5_code 168 = .ok (.iload_n 1, 1) := by decide +kernel
theorem own_d15_169 : decode method_5_code 169 = .ok (.castore, 1) := by decide +kernel
theorem own_d15_170 : decode method_5_code 170 = .ok (.astore_n 2, 1) := by decide +kernel
theorem own_d15_171 : decode method_5_code 171 = .ok (.new 28, 3) := by decide +kernel
theorem own_d15_174 : decode method_5_code 174 = .ok (.dup, 1) := by decide +kernel
theorem own_d15_175 : decode method_5_code 175 = .ok (.aload_n 2, 1) := by decide +kernel
theorem own_d15_176 : decode method_5_code 176 = .ok (.invokespecial 60, 3) := by decide +kernel
theorem own_d15_179 : decode method_5_code 179 = .ok (.areturn, 1) := by decide +kernel
theorem own_d16_0 : decode jdk_42_method_139_code 0 = .ok (.getstatic 38, 3) := by decide +kernel
theorem own_d16_3 : decode jdk_42_method_139_code 3 = .ok (.ifCond .eq 23, 3) := by decide +kernel
theorem own_d16_6 : decode jdk_42_method_139_code 6 = .ok (.iload_n 0, 1) := by decide +kernel
theorem own_d16_7 : decode jdk_42_method_139_code 7 = .ok (.invokestatic 1015, 3) := by decide +kernel
theorem own_d16_10 : decode jdk_42_method_139_code 10 = .ok (.ifCond .eq 16, 3) := by decide +kernel
theorem own_d16_13 : decode jdk_42_method_139_code 13 = .ok (.new 10, 3) := by decide +kernel
theorem own_d16_16 : decode jdk_42_method_139_code 16 = .ok (.dup, 1) := by decide +kernel
theorem own_d16_17 : decode jdk_42_method_139_code 17 = .ok (.iload_n 0, 1) := by decide +kernel
theorem own_d16_18 : decode jdk_42_method_139_code 18 = .ok (.invokestatic 1018, 3) := by decide +kernel
theorem own_d16_21 : decode jdk_42_method_139_code 21 = .ok (.iconst 0, 1) := by decide +kernel
theorem own_d16_22 : decode jdk_42_method_139_code 22 = .ok (.invokespecial 209, 3) := by decide +kernel
theorem own_d16_25 : decode jdk_42_method_139_code 25 = .ok (.areturn, 1) := by decide +kernel
theorem own_d17_0 : decode jdk_43_method_3_code 0 = .ok (.iload_n 0, 1) := by decide +kernel
theorem own_d17_1 : decode jdk_43_method_3_code 1 = .ok (.sipush 255, 3) := by decide +kernel
theorem own_d17_4 : decode jdk_43_method_3_code 4 = .ok (.if_icmp .gt 7, 3) := by decide +kernel
theorem own_d17_7 : decode jdk_43_method_3_code 7 = .ok (.iconst 1, 1) := by decide +kernel
theorem own_d17_8 : decode jdk_43_method_3_code 8 = .ok (.goto 4, 3) := by decide +kernel
theorem own_d17_12 : decode jdk_43_method_3_code 12 = .ok (.ireturn, 1) := by decide +kernel
theorem own_d18_0 : decode jdk_43_method_46_code 0 = .ok (.iconst 1, 1) := by decide +kernel
theorem own_d18_1 : decode jdk_43_method_46_code 1 = .ok (.newarray .byte, 2) := by decide +kernel
theorem own_d18_3 : decode jdk_43_method_46_code 3 = .ok (.dup, 1) := by decide +kernel
theorem own_d18_4 : decode jdk_43_method_46_code 4 = .ok (.iconst 0, 1) := by decide +kernel
theorem own_d18_5 : decode jdk_43_method_46_code 5 = .ok (.iload_n 0, 1) := by decide +kernel
theorem own_d18_6 : decode jdk_43_method_46_code 6 = .ok (.i2b, 1) := by decide +kernel
theorem own_d18_7 : decode jdk_43_method_46_code 7 = .ok (.bastore, 1) := by decide +kernel
theorem own_d18_8 : decode jdk_43_method_46_code 8 = .ok (.areturn, 1) := by decide +kernel
theorem own_d19_0 : decode jdk_42_method_151_code 0 = .ok (.aload_n 0, 1) := by decide +kernel
theorem own_d19_1 : decode jdk_42_method_151_code 1 = .ok (.invokespecial 1, 3) := by decide +kernel
theorem own_d19_4 : decode jdk_42_method_151_code 4 = .ok (.aload_n 0, 1) := by decide +kernel
theorem own_d19_5 : decode jdk_42_method_151_code 5 = .ok (.aload_n 1, 1) := by decide +kernel
theorem own_d19_6 : decode jdk_42_method_151_code 6 = .ok (.putfield 9, 3) := by decide +kernel
theorem own_d19_9 : decode jdk_42_method_151_code 9 = .ok (.aload_n 0, 1) := by decide +kernel
theorem own_d19_10 : decode jdk_42_method_151_code 10 = .ok (.iload_n 2, 1) := by decide +kernel
theorem own_d19_11 : decode jdk_42_method_151_code 11 = .ok (.putfield 15, 3) := by decide +kernel
theorem own_d19_14 : decode jdk_42_method_151_code 14 = .ok (.return_, 1) := by decide +kernel
abbrev own_EL : List (String × Nat) := [("com/example/fasten/fasten/sql/Dialect", 33), ("com/example/fasten/fasten/sql/Dialect", 41), ("com/example/fasten/fasten/sql/Dialect", 43), ("com/example/fasten/fasten/sql/DialectOfPinLaw", 44), ("com/example/fasten/fasten/sql/DialectOfPinLaw", 54), ("com/example/fasten/fasten/sql/DialectOfPinLaw", 56), ("com/example/fasten/fasten/sql/DialectOfPinLaw", 58), ("com/example/fasten/fasten/sql/DialectOfPinLaw", 63), ("com/example/fasten/fasten/sql/DialectOfPinLaw", 65), ("com/example/fasten/fasten/sql/DialectOfPinLaw", 67)]
theorem own_EW {a0 : Array Value} {Z : State} (hw : ∀ d ∈ tables_1, d.before a0 Z = true) : EW Z a0 own_EL := (EW.cons (own_w20 hw) (by decide +kernel) (EW.cons (own_w35 hw) (by decide +kernel) (EW.cons (own_w36 hw) (by decide +kernel) (EW.cons (own_w16 hw) (by decide +kernel) (EW.cons (own_w5 hw) (by decide +kernel) (EW.cons (own_w37 hw) (by decide +kernel) (EW.cons (own_w80 hw) (by decide +kernel) (EW.cons (own_w117 hw) (by decide +kernel) (EW.cons (own_w41 hw) (by decide +kernel) (EW.cons (own_w83 hw) (by decide +kernel) EW.nil))))))))))
theorem own_mem20 : (("com/example/fasten/fasten/sql/Dialect", 33) : String × Nat) ∈ own_EL := List.mem_of_getElem? (i := 0) rfl
theorem own_mem35 : (("com/example/fasten/fasten/sql/Dialect", 41) : String × Nat) ∈ own_EL := List.mem_of_getElem? (i := 1) rfl
theorem own_mem36 : (("com/example/fasten/fasten/sql/Dialect", 43) : String × Nat) ∈ own_EL := List.mem_of_getElem? (i := 2) rfl
theorem own_mem16 : (("com/example/fasten/fasten/sql/DialectOfPinLaw", 44) : String × Nat) ∈ own_EL := List.mem_of_getElem? (i := 3) rfl
theorem own_mem5 : (("com/example/fasten/fasten/sql/DialectOfPinLaw", 54) : String × Nat) ∈ own_EL := List.mem_of_getElem? (i := 4) rfl
theorem own_mem37 : (("com/example/fasten/fasten/sql/DialectOfPinLaw", 56) : String × Nat) ∈ own_EL := List.mem_of_getElem? (i := 5) rfl
theorem own_mem80 : (("com/example/fasten/fasten/sql/DialectOfPinLaw", 58) : String × Nat) ∈ own_EL := List.mem_of_getElem? (i := 6) rfl
theorem own_mem117 : (("com/example/fasten/fasten/sql/DialectOfPinLaw", 63) : String × Nat) ∈ own_EL := List.mem_of_getElem? (i := 7) rfl
theorem own_mem41 : (("com/example/fasten/fasten/sql/DialectOfPinLaw", 65) : String × Nat) ∈ own_EL := List.mem_of_getElem? (i := 8) rfl
theorem own_mem83 : (("com/example/fasten/fasten/sql/DialectOfPinLaw", 67) : String × Nat) ∈ own_EL := List.mem_of_getElem? (i := 9) rfl
section OwnStr
variable {p : Program} {l : Launch} {e : Env} {R : Room} {s : State} {args : Array Value} {below : List Frame} {len W : Nat} {Z : State} {a0 : Array Value} {h h' : Heap} {x t a : Addr} {cs : List Int32} {ws : List Addr} {sl : Nat} {v : Value}
/-- the String at x, of the byte[] at t, spells cs (signs 0 to 255) -/
def Str (Z : State) (h : Heap) (x t : Addr) (cs : List Int32) : Prop := ∃ (kb : ClassId) (n : Int32), Exa Z h x "java/lang/String" ∧ Fld Z h x "java/lang/String" "coder" "B" (.int 0) ∧ Fld Z h x "java/lang/String" "value" "[B" (.ref t) ∧ Arv Z h t kb .byte n ((cs.map fun c => c.toInt8.toInt32).map Value.int) (.int 0) ∧ n = Int32.ofNat cs.length ∧ (∀ c ∈ cs, ¬ c < 0 ∧ ¬ (255 : Int32) < c) ∧ cs.length ≤ 4000
theorem Str.ext (F : Str Z h x t cs) (E : Ext h h') : Str Z h' x t cs := by
  obtain ⟨kb, n, q1, q2, q3, q4, r⟩ := F; exact ⟨kb, n, q1.ext E, q2.ext E, q3.ext E, q4.ext E, r⟩
theorem Str.keep (F : Str Z h x t cs) (K : Keep h h' ws) (n1 : x ∉ ws) (n2 : t ∉ ws) : Str Z h' x t cs := by
  obtain ⟨kb, n, q1, q2, q3, q4, r⟩ := F; exact ⟨kb, n, q1.keep K, q2.keep K n1, q3.keep K n1, q4.keep K n2, r⟩
theorem Str.wr (F : Str Z h x t cs) (W : Wr h h' a sl v) (n1 : x ≠ a) (n2 : t ≠ a) : Str Z h' x t cs := by
  obtain ⟨kb, n, q1, q2, q3, q4, r⟩ := F; exact ⟨kb, n, q1.wr W, q2.other W (Or.inl n1), q3.other W (Or.inl n1), q4.other W n2, r⟩
theorem Str.exa (F : Str Z h x t cs) : Exa Z h x "java/lang/String" := by obtain ⟨kb, n, q1, r⟩ := F; exact q1
theorem Str.lt (F : Str Z h x t cs) : x < h.size := F.exa.lt
theorem Str.lt2 (F : Str Z h x t cs) : t < h.size := by obtain ⟨kb, n, q1, q2, q3, q4, r⟩ := F; exact q4.lt
theorem Str.ne2 {C : String} {k : Nat} (F : Str Z h x t cs) (E : Exa Z h a C) (w : (Jvm.Cond.instantiable C k).before a0 Z = true) : t ≠ a := by obtain ⟨kb, n, q1, q2, q3, q4, r⟩ := F; exact Ne.symm (Exa.neArv E q4 w)
theorem Str.of {kb : ClassId} {n : Int32} {vs : List Value} (q1 : Exa Z h x "java/lang/String") (q2 : Fld Z h x "java/lang/String" "coder" "B" (.int 0)) (q3 : Fld Z h x "java/lang/String" "value" "[B" (.ref t)) (q4 : Arv Z h t kb .byte n vs (.int 0)) (hv : vs = (cs.map fun c => c.toInt8.toInt32).map Value.int) (hn : n = Int32.ofNat cs.length) (hp : ∀ c ∈ cs, ¬ c < 0 ∧ ¬ (255 : Int32) < c) (hl : cs.length ≤ 4000) : Str Z h x t cs := by
  subst hv; exact ⟨kb, n, q1, q2, q3, q4, hn, hp, hl⟩
theorem payNew {b : Addr} {kc : ClassId} {N z : Int32} {d v0 c0 : Value} {n0 n : Nat} {vs : List Value} (hZ : Z.Warmed39 s.vm) (hw : ∀ d ∈ tables_1, d.before a0 Z = true) (hx0 : n0 ≤ x) (hh0 : n0 ≤ h.size) (E : Exa Z h x "java/lang/String") (V : Fld Z h x "java/lang/String" "value" "[B" v0) (C : Fld Z h x "java/lang/String" "coder" "B" c0) (K : Arv Z h b kc .char N vs d) (hv : vs = cs.map Value.int) (S : Sta Z h "java/lang/String" "COMPACT_STRINGS" "Z" (.int z)) (hz : ¬ z = 0)
    (hn : cs.length = n) (hN : N = Int32.ofNat n) (l0 : 0 < n) (l2 : n ≤ 4000) (hp : ∀ c ∈ cs, ¬ c < 0 ∧ ¬ (255 : Int32) < c) (hfr : 4 ≤ R.frames) (hlo : W + 65 ≤ R.locals) :
    Pays l R p e below s args (⟨"java/lang/String", "<init>", "([C)V"⟩ : MethodName) len W #[.ref x, .ref b] h 1 n (fun v h' L => v = none ∧ Fr n0 L ∧ Keep h h' [x] ∧ ∃ t, h.size ≤ t ∧ Str Z h' x t cs) := by
  subst hv hn
  intro m meth c A g ig mk a q1 q2 q3 q4 q5 q6 q7
  obtain ⟨v, B, X, ⟨L, ⟨g1, g2, g3, g4, g5, t, kb, g6, g7, g8, g9, g10⟩, r⟩, st⟩ := StrChars.Road.backV (W := W) (R := R) (l := l) (p := p) (e := e) (s := s) (len := len) (args := args) (below := below) hZ (own_hws hw) (kI := 4) ((own_w7 hw)) (cs := cs) (bs := cs.map (fun c => c.toInt8.toInt32)) hx0 hh0 E V C K S hz rfl hN l0 l2 hp rfl hfr hlo m meth c A g ig mk a q1 q2 q3 q4 q5 q6 q7
  exact ⟨v, B, X, ⟨L, ⟨g1, g2, g3, t, g7, kb, _, g4, g5, g9, g10, hN, hp, l2⟩, r⟩, st⟩
theorem payLen {z : Int32} (hZ : Z.Warmed39 s.vm) (hw : ∀ d ∈ tables_1, d.before a0 Z = true) (F : Str Z h x t cs) (S : Sta Z h "java/lang/String" "COMPACT_STRINGS" "Z" (.int z)) (hz : ¬ z = 0) (hfr : 2 ≤ R.frames) (hlo : W + 25 ≤ R.locals) :
    Pays l R p e below s args (⟨"java/lang/String", "length", "()I"⟩ : MethodName) len W #[.ref x] h 0 0 (fun v h' L => v = some (.int (Int32.ofNat cs.length)) ∧ L = [] ∧ h' = h) := by
  obtain ⟨kb, n, q1, q2, q3, q4, hn, hp, hl⟩ := F
  subst hn
  exact StrChars.Road.lenW (W := W) hZ (own_hln hw) (kI := 4) ((own_w7 hw)) q1 q3 q2 q4 (StrChars.Road.codOf rfl fun c hc => (hp c hc).2) (own_up _ hp) S hz hl hfr hlo
theorem payChr {z j : Int32} {fm : Value} {i : Nat} (hZ : Z.Warmed39 s.vm) (hw : ∀ d ∈ tables_1, d.before a0 Z = true) (F : Str Z h x t cs) (S : Sta Z h "java/lang/String" "COMPACT_STRINGS" "Z" (.int z)) (hz : ¬ z = 0) (S2 : Sta Z h "jdk/internal/util/Preconditions" "SIOOBE_FORMATTER" "Ljava/util/function/BiFunction;" fm) (rf : fm.isRef = true) (hi : i < cs.length) (hj : j = Int32.ofNat i) (hfr : 4 ≤ R.frames) (hlo : W + 53 ≤ R.locals) :
    Pays l R p e below s args (⟨"java/lang/String", "charAt", "(I)C"⟩ : MethodName) len W #[.ref x, .int j] h 0 0 (fun v h' L => v = some (.int (cs.getD i 0)) ∧ L = [] ∧ h' = h) := by
  obtain ⟨kb, n, q1, q2, q3, q4, hn, hp, hl⟩ := F
  subst hn
  exact StrChars.Road.chN (W := W) hZ (own_hch hw) (kI := 4) ((own_w7 hw)) q1 q3 q2 q4 (StrChars.Road.codOf rfl fun c hc => (hp c hc).2) (own_up _ hp) S hz S2 rf hl hi hj hfr hlo
theorem payEq {z : Int32} {y t' : Addr} {ds : List Int32} (hZ : Z.Warmed39 s.vm) (hw : ∀ d ∈ tables_1, d.before a0 Z = true) (F : Str Z h x t cs) (F' : Str Z h y t' ds) (S : Sta Z h "java/lang/String" "COMPACT_STRINGS" "Z" (.int z)) (hz : ¬ z = 0) (hfr : 2 ≤ R.frames) (hlo : W + 28 ≤ R.locals) :
    Pays l R p e below s args (⟨"java/lang/String", "equals", "(Ljava/lang/Object;)Z"⟩ : MethodName) len W #[.ref x, .ref y] h 0 0 (fun v h' L => v = some (.int (if cs = ds then 1 else 0)) ∧ L = [] ∧ h' = h) := by
  obtain ⟨kb, n, q1, q2, q3, q4, hn, hp, hl⟩ := F
  obtain ⟨kb', n', q1', q2', q3', q4', hn', hp', hl'⟩ := F'
  subst hn hn'
  intro m meth c A g ig mk a r1 r2 r3 r4 r5 r6 r7
  obtain ⟨v, B, X, ⟨L, ⟨g1, g2, g3⟩, r⟩, st⟩ := StrChars.Road.eqW (W := W) (R := R) (l := l) (p := p) (e := e) (s := s) (len := len) (args := args) (below := below) hZ (own_heq hw) (kI := 4) ((own_w7 hw)) q1 q3 q2 q4 (StrChars.Road.codOf rfl fun c hc => (hp c hc).2) (own_up _ hp) hl q1' q3' q2' q4' (StrChars.Road.codOf rfl fun c hc => (hp' c hc).2) (own_up _ hp') hl' S hz hfr hlo m meth c A g ig mk a r1 r2 r3 r4 r5 r6 r7
  refine ⟨v, B, X, ⟨L, ⟨?_, g2, g3⟩, r⟩, st⟩
  rcases g1 with ⟨rfl, q⟩ | ⟨rfl, q⟩
  · rw [if_pos q]
  · rw [if_neg q]
end OwnStr
def own_of (cs : List Int32) (dm dg : Addr) : Value := if cs = ([77, 97, 114, 105, 97, 68, 66] : List Int32) then .ref dm else if cs = ([77, 121, 83, 81, 76] : List Int32) then .ref dm else if cs = ([80, 111, 115, 116, 103, 114, 101, 83, 81, 76] : List Int32) then .ref dg else .null
theorem own_ofr (cs : List Int32) (dm dg : Addr) : (own_of cs dm dg).isRef = true := by unfold own_of; split; rfl; split; rfl; split; rfl; rfl
theorem own_of0 {cs : List Int32} {dm dg : Addr} (e0 : cs = ([77, 97, 114, 105, 97, 68, 66] : List Int32)) : own_of cs dm dg = .ref dm := if_pos e0
theorem own_of1 {cs : List Int32} {dm dg : Addr} (e0 : ¬ cs = ([77, 97, 114, 105, 97, 68, 66] : List Int32)) (e1 : cs = ([77, 121, 83, 81, 76] : List Int32)) : own_of cs dm dg = .ref dm := (if_neg e0).trans (if_pos e1)
theorem own_of2 {cs : List Int32} {dm dg : Addr} (e0 : ¬ cs = ([77, 97, 114, 105, 97, 68, 66] : List Int32)) (e1 : ¬ cs = ([77, 121, 83, 81, 76] : List Int32)) (e2 : cs = ([80, 111, 115, 116, 103, 114, 101, 83, 81, 76] : List Int32)) : own_of cs dm dg = .ref dg := (if_neg e0).trans ((if_neg e1).trans (if_pos e2))
theorem own_of3 {cs : List Int32} {dm dg : Addr} (e0 : ¬ cs = ([77, 97, 114, 105, 97, 68, 66] : List Int32)) (e1 : ¬ cs = ([77, 121, 83, 81, 76] : List Int32)) (e2 : ¬ cs = ([80, 111, 115, 116, 103, 114, 101, 83, 81, 76] : List Int32)) : own_of cs dm dg = .null := (if_neg e0).trans ((if_neg e1).trans (if_neg e2))
theorem own_nat {q z : Int32} {n : Nat} (hq : ¬ q < 0) (hz : z.toNatClampNeg = n) (h : q < z) : q.toNatClampNeg < n := by
  have e := nat_of hq
  have hz0 : ¬ z < 0 := fun h2 => hq (by rw [Int32.lt_iff_toInt_lt] at *; omega)
  have e2 := nat_of hz0
  rw [Int32.lt_iff_toInt_lt] at h; omega
theorem own_out {q z : Int32} {n : Nat} (hq : ¬ q < 0) (hz : z.toNatClampNeg = n) (hz0 : ¬ z < 0) (h : ¬ q < z) : n ≤ q.toNatClampNeg := by
  have e := nat_of hq
  have e2 := nat_of hz0
  rw [Int32.lt_iff_toInt_lt] at h; omega
theorem own_narc {c : Int32} (hc : ¬ c < 0 ∧ ¬ (255 : Int32) < c) : nar .char c = c := by
  obtain ⟨h0, h1⟩ := hc
  show c.toUInt32.toUInt16.toUInt32.toInt32 = c
  have q := c_i2c c
  have e0 : (0 : Int32).toInt = 0 := rfl
  have e1 : (255 : Int32).toInt = 255 := rfl
  rw [Int32.lt_iff_toInt_lt] at h0 h1
  apply Int32.toInt_inj.mp; omega
theorem own_mapset (L : List Int32) (i : Nat) (c : Int32) : (L.map Value.int).set i (.int c) = (L.set i c).map Value.int := by rw [List.map_set]
theorem own_setr {L : List Int32} {i : Nat} {c : Int32} (h : ∀ c ∈ L, ¬ c < 0 ∧ ¬ (255 : Int32) < c) (hc : ¬ c < 0 ∧ ¬ (255 : Int32) < c) : ∀ d ∈ L.set i c, ¬ d < 0 ∧ ¬ (255 : Int32) < d := fun d hd => (List.mem_or_eq_of_mem_set hd).elim (h d) (fun e => e ▸ hc)
theorem own_setout {L : List Int32} {q z c : Int32} (hq : ¬ q < 0) (hz : z.toNatClampNeg = L.length ∧ ¬ z < 0) (h : ¬ q < z) : L.set q.toNatClampNeg c = L := List.set_eq_of_length_le (own_out hq hz.1 hz.2 h)
theorem own_mod3 (x : Int32) : (x &&& (2147483647 : Int32)) % (3 : Int32) = 0 ∨ (x &&& (2147483647 : Int32)) % (3 : Int32) = 1 ∨ (x &&& (2147483647 : Int32)) % (3 : Int32) = 2 := by
  have h1 := c_and x 2147483647 (by decide)
  have h2 := (c_iremV (x &&& (2147483647 : Int32)) 3).1 h1.1 (by decide)
  have e3 : (3 : Int32).toInt = 3 := rfl
  have k0 : (0 : Int32).toInt = 0 := rfl
  have k1 : (1 : Int32).toInt = 1 := rfl
  have k2 : (2 : Int32).toInt = 2 := rfl
  have : ((x &&& (2147483647 : Int32)) % (3 : Int32)).toInt = 0 ∨ ((x &&& (2147483647 : Int32)) % (3 : Int32)).toInt = 1 ∨ ((x &&& (2147483647 : Int32)) % (3 : Int32)).toInt = 2 := by omega
  rcases this with h | h | h
  · exact Or.inl (Int32.toInt_inj.mp (h.trans k0.symm))
  · exact Or.inr (Or.inl (Int32.toInt_inj.mp (h.trans k1.symm)))
  · exact Or.inr (Or.inr (Int32.toInt_inj.mp (h.trans k2.symm)))
theorem own_15 (x : Int32) : ¬ (x &&& (15 : Int32)) < 0 := by
  have h1 := c_and x 15 (by decide)
  have k0 : (0 : Int32).toInt = 0 := rfl
  rw [Int32.lt_iff_toInt_lt]; omega
theorem own_back {q : Int32} (hq : ¬ q < 0) : q = Int32.ofNat q.toNatClampNeg := (back32 hq).1.symm
theorem own_len {cs : List Int32} {dm dg : Addr} (h0 : cs.length ≠ 7) (h1 : cs.length ≠ 5) (h2 : cs.length ≠ 10) : own_of cs dm dg = .null := own_of3 (fun e => h0 (by rw [e]; rfl)) (fun e => h1 (by rw [e]; rfl)) (fun e => h2 (by rw [e]; rfl))
theorem own_setget {L : List Int32} {i : Nat} {c : Int32} (h : i < L.length) (e : c = L.getD i 0) : L.set i c = L := by
  subst e; simp [List.getD_eq_getElem?_getD, h]
theorem own_setne {L : List Int32} {i : Nat} {c : Int32} (h : i < L.length) (e : ¬ c = L.getD i 0) : ¬ L.set i c = L := fun q => e (by
  have := congrArg (fun z => z.getD i 0) q
  simpa [List.getD_eq_getElem?_getD, List.getElem?_set, h] using this)
theorem own_nm0 {dm dg : Addr} : own_of ([77, 97, 114, 105, 97, 68, 66] : List Int32) dm dg = (.ref dm) := by unfold own_of; simp
theorem own_s1_0 {p2 p3 : Int32} {dm dg : Addr} (h : (p2 &&& (15 : Int32)) < (7 : Int32)) (e : (p3 &&& (255 : Int32)) = ([77, 97, 114, 105, 97, 68, 66] : List Int32).getD (p2 &&& (15 : Int32)).toNatClampNeg 0) : own_of (([77, 97, 114, 105, 97, 68, 66] : List Int32).set (p2 &&& (15 : Int32)).toNatClampNeg (p3 &&& (255 : Int32))) dm dg = (.ref dm) := by
  rw [own_setget (own_nat (own_15 p2) (by decide) h) e]; exact own_nm0
theorem own_s2_0 {q c : Int32} {dm dg : Addr} (hq : ¬ q < 0) (h : q < (7 : Int32)) (e : ¬ c = ([77, 97, 114, 105, 97, 68, 66] : List Int32).getD q.toNatClampNeg 0) : own_of (([77, 97, 114, 105, 97, 68, 66] : List Int32).set q.toNatClampNeg c) dm dg = .null := by
  have hl : (([77, 97, 114, 105, 97, 68, 66] : List Int32).set q.toNatClampNeg c).length = 7 := by rw [List.length_set]; rfl
  have hne := own_setne (own_nat hq (by decide) h) e
  exact own_of3 hne (fun z => by have := congrArg List.length z; rw [hl] at this; revert this; decide) (fun z => by have := congrArg List.length z; rw [hl] at this; revert this; decide)
theorem own_s3_0 {q c : Int32} {dm dg : Addr} (hq : ¬ q < 0) (h : ¬ q < (7 : Int32)) : own_of (([77, 97, 114, 105, 97, 68, 66] : List Int32).set q.toNatClampNeg c) dm dg = (.ref dm) := by
  rw [own_setout hq (by decide) h]; exact own_nm0
theorem own_nm1 {dm dg : Addr} : own_of ([77, 121, 83, 81, 76] : List Int32) dm dg = (.ref dm) := by unfold own_of; simp
theorem own_s1_1 {p2 p3 : Int32} {dm dg : Addr} (h : (p2 &&& (15 : Int32)) < (5 : Int32)) (e : (p3 &&& (255 : Int32)) = ([77, 121, 83, 81, 76] : List Int32).getD (p2 &&& (15 : Int32)).toNatClampNeg 0) : own_of (([77, 121, 83, 81, 76] : List Int32).set (p2 &&& (15 : Int32)).toNatClampNeg (p3 &&& (255 : Int32))) dm dg = (.ref dm) := by
  rw [own_setget (own_nat (own_15 p2) (by decide) h) e]; exact own_nm1
theorem own_s2_1 {q c : Int32} {dm dg : Addr} (hq : ¬ q < 0) (h : q < (5 : Int32)) (e : ¬ c = ([77, 121, 83, 81, 76] : List Int32).getD q.toNatClampNeg 0) : own_of (([77, 121, 83, 81, 76] : List Int32).set q.toNatClampNeg c) dm dg = .null := by
  have hl : (([77, 121, 83, 81, 76] : List Int32).set q.toNatClampNeg c).length = 5 := by rw [List.length_set]; rfl
  have hne := own_setne (own_nat hq (by decide) h) e
  exact own_of3 (fun z => by have := congrArg List.length z; rw [hl] at this; revert this; decide) hne (fun z => by have := congrArg List.length z; rw [hl] at this; revert this; decide)
theorem own_s3_1 {q c : Int32} {dm dg : Addr} (hq : ¬ q < 0) (h : ¬ q < (5 : Int32)) : own_of (([77, 121, 83, 81, 76] : List Int32).set q.toNatClampNeg c) dm dg = (.ref dm) := by
  rw [own_setout hq (by decide) h]; exact own_nm1
theorem own_nm2 {dm dg : Addr} : own_of ([80, 111, 115, 116, 103, 114, 101, 83, 81, 76] : List Int32) dm dg = (.ref dg) := by unfold own_of; simp
theorem own_s1_2 {p2 p3 : Int32} {dm dg : Addr} (h : (p2 &&& (15 : Int32)) < (10 : Int32)) (e : (p3 &&& (255 : Int32)) = ([80, 111, 115, 116, 103, 114, 101, 83, 81, 76] : List Int32).getD (p2 &&& (15 : Int32)).toNatClampNeg 0) : own_of (([80, 111, 115, 116, 103, 114, 101, 83, 81, 76] : List Int32).set (p2 &&& (15 : Int32)).toNatClampNeg (p3 &&& (255 : Int32))) dm dg = (.ref dg) := by
  rw [own_setget (own_nat (own_15 p2) (by decide) h) e]; exact own_nm2
theorem own_s2_2 {q c : Int32} {dm dg : Addr} (hq : ¬ q < 0) (h : q < (10 : Int32)) (e : ¬ c = ([80, 111, 115, 116, 103, 114, 101, 83, 81, 76] : List Int32).getD q.toNatClampNeg 0) : own_of (([80, 111, 115, 116, 103, 114, 101, 83, 81, 76] : List Int32).set q.toNatClampNeg c) dm dg = .null := by
  have hl : (([80, 111, 115, 116, 103, 114, 101, 83, 81, 76] : List Int32).set q.toNatClampNeg c).length = 10 := by rw [List.length_set]; rfl
  have hne := own_setne (own_nat hq (by decide) h) e
  exact own_of3 (fun z => by have := congrArg List.length z; rw [hl] at this; revert this; decide) (fun z => by have := congrArg List.length z; rw [hl] at this; revert this; decide) hne
theorem own_s3_2 {q c : Int32} {dm dg : Addr} (hq : ¬ q < 0) (h : ¬ q < (10 : Int32)) : own_of (([80, 111, 115, 116, 103, 114, 101, 83, 81, 76] : List Int32).set q.toNatClampNeg c) dm dg = (.ref dg) := by
  rw [own_setout hq (by decide) h]; exact own_nm2
set_option maxRecDepth 65536 in
set_option maxHeartbeats 40000000 in
theorem rm_nameOf0 (l : Launch) (Z : State) (a0 : Array Value) (hw : ∀ d ∈ tables_1, d.before a0 Z = true) (h0 : Heap) (n0 : Nat) (Z0 : n0 ≤ h0.size) :
    CtS l (⟨"com/example/fasten/fasten/sql/DialectOfPinLaw", "nameOf", "(I)Ljava/lang/String;"⟩ : MethodName) method_3_code 1 (some (.object "java/lang/String")) [] ({ frames := 0, cells := 2, slots := 32, locals := 0 } : Room) Z own_EL [] #[(.int (0 : Int32))] h0 (fun v h L => ∃ (x : Addr), ∃ (t : Addr), v = some (.ref x) ∧ Fr n0 L ∧ Keep h0 h [] ∧ Str Z h x t ([77, 97, 114, 105, 97, 68, 66] : List Int32)) := by
  refine CtS.walk (Ls := #[.val (.int (0 : Int32))]) (plainFor_of_name own_pn0) (fun m => by first | (simp [entryFrame, mkF, argsToLocals, Value.category]; done) | rfl) ?_
  intro p e s m below meth cc_ T vm k0 hx hby hml hown hnm hret hlk hZ X eT hS hk C hSL
  have N := Fr.nil n0
  have K0 := Keep.refl h0 []
  have sz_h : h0.size ≤ h0.size := Nat.le_refl _
  refine giloadN (v := (0 : Int32)) X hx 1 (hb hby own_d1_0) rfl rfl ?_
  refine gifNo X hx 4 (hb hby own_d1_1) rfl (by decide) ?_
  refine gldcV X hx hZ hown (own_w5 hw) (own_wS hw) eT hS hk (own_EW hw) own_mem5 C.1 [(.int (77 : Int32)), (.int (97 : Int32)), (.int (114 : Int32)), (.int (105 : Int32)), (.int (97 : Int32)), (.int (68 : Int32)), (.int (66 : Int32))] (7 : Int32) (by decide +kernel) (by decide) rfl 28 (by decide) (by decide) 2 32 rfl rfl (by decide) (by decide) 6 (hb hby own_d1_4) rfl ?_
  clear X eT hS hk hZ hown; clear T k0; intro c2 T h1 vm k0 t10 kb11 X eT E3 hS hk hZ hown CR4 Li5 A6 F7 F8 V9 ns12
  replace K0 := K0.ext E3
  replace C := C.trans CR4
  replace sz_h : h0.size ≤ h1.size := Nat.le_trans sz_h E3.1
  show Go p e below _ T (mkF m 6 #[.val (.int (0 : Int32))] [(.ref c2)])
  have Str13 : Str Z h1 c2 t10 ([77, 97, 114, 105, 97, 68, 66] : List Int32) := Str.of A6 F7 F8 V9 (by decide +kernel) (by decide +kernel) (by decide +kernel) (by decide)
  exact gRetS X hx hlk hret rfl (Or.inr (Or.inr (Or.inr (Or.inr ⟨rfl, rfl, rfl⟩)))) (hb hby own_d1_6) eT hS hk hZ (own_EW hw) C (by decide) (by decide) ⟨c2, t10, rfl, N, K0, Str13⟩
set_option maxRecDepth 65536 in
set_option maxHeartbeats 40000000 in
theorem rm_nameOf1 (l : Launch) (Z : State) (a0 : Array Value) (hw : ∀ d ∈ tables_1, d.before a0 Z = true) (h0 : Heap) (n0 : Nat) (Z0 : n0 ≤ h0.size) :
    CtS l (⟨"com/example/fasten/fasten/sql/DialectOfPinLaw", "nameOf", "(I)Ljava/lang/String;"⟩ : MethodName) method_3_code 1 (some (.object "java/lang/String")) [] ({ frames := 0, cells := 2, slots := 24, locals := 0 } : Room) Z own_EL [] #[(.int (1 : Int32))] h0 (fun v h L => ∃ (x : Addr), ∃ (t : Addr), v = some (.ref x) ∧ Fr n0 L ∧ Keep h0 h [] ∧ Str Z h x t ([77, 121, 83, 81, 76] : List Int32)) := by
  refine CtS.walk (Ls := #[.val (.int (1 : Int32))]) (plainFor_of_name own_pn0) (fun m => by first | (simp [entryFrame, mkF, argsToLocals, Value.category]; done) | rfl) ?_
  intro p e s m below meth cc_ T vm k0 hx hby hml hown hnm hret hlk hZ X eT hS hk C hSL
  have N := Fr.nil n0
  have K0 := Keep.refl h0 []
  have sz_h : h0.size ≤ h0.size := Nat.le_refl _
  refine giloadN (v := (1 : Int32)) X hx 1 (hb hby own_d1_0) rfl rfl ?_
  refine gifYes X hx 7 (hb hby own_d1_1) (by decide) (by decide) (by decide) ?_
  refine giloadN (v := (1 : Int32)) X hx 8 (hb hby own_d1_7) rfl rfl ?_
  refine giconst X hx (1 : Int32) 9 (hb hby own_d1_8) rfl rfl ?_
  refine gicmpNo X hx 12 (hb hby own_d1_9) rfl (by decide) ?_
  refine gldcV X hx hZ hown (own_w37 hw) (own_wS hw) eT hS hk (own_EW hw) own_mem37 C.1 [(.int (77 : Int32)), (.int (121 : Int32)), (.int (83 : Int32)), (.int (81 : Int32)), (.int (76 : Int32))] (5 : Int32) (by decide +kernel) (by decide) rfl 20 (by decide) (by decide) 2 24 rfl rfl (by decide) (by decide) 14 (hb hby own_d1_12) rfl ?_
  clear X eT hS hk hZ hown; clear T k0; intro c2 T h1 vm k0 t10 kb11 X eT E3 hS hk hZ hown CR4 Li5 A6 F7 F8 V9 ns12
  replace K0 := K0.ext E3
  replace C := C.trans CR4
  replace sz_h : h0.size ≤ h1.size := Nat.le_trans sz_h E3.1
  show Go p e below _ T (mkF m 14 #[.val (.int (1 : Int32))] [(.ref c2)])
  have Str13 : Str Z h1 c2 t10 ([77, 121, 83, 81, 76] : List Int32) := Str.of A6 F7 F8 V9 (by decide +kernel) (by decide +kernel) (by decide +kernel) (by decide)
  exact gRetS X hx hlk hret rfl (Or.inr (Or.inr (Or.inr (Or.inr ⟨rfl, rfl, rfl⟩)))) (hb hby own_d1_14) eT hS hk hZ (own_EW hw) C (by decide) (by decide) ⟨c2, t10, rfl, N, K0, Str13⟩
set_option maxRecDepth 65536 in
set_option maxHeartbeats 40000000 in
theorem rm_nameOf2 (l : Launch) (Z : State) (a0 : Array Value) (hw : ∀ d ∈ tables_1, d.before a0 Z = true) (h0 : Heap) (n0 : Nat) (Z0 : n0 ≤ h0.size) :
    CtS l (⟨"com/example/fasten/fasten/sql/DialectOfPinLaw", "nameOf", "(I)Ljava/lang/String;"⟩ : MethodName) method_3_code 1 (some (.object "java/lang/String")) [] ({ frames := 0, cells := 2, slots := 44, locals := 0 } : Room) Z own_EL [] #[(.int (2 : Int32))] h0 (fun v h L => ∃ (x : Addr), ∃ (t : Addr), v = some (.ref x) ∧ Fr n0 L ∧ Keep h0 h [] ∧ Str Z h x t ([80, 111, 115, 116, 103, 114, 101, 83, 81, 76] : List Int32)) := by
  refine CtS.walk (Ls := #[.val (.int (2 : Int32))]) (plainFor_of_name own_pn0) (fun m => by first | (simp [entryFrame, mkF, argsToLocals, Value.category]; done) | rfl) ?_
  intro p e s m below meth cc_ T vm k0 hx hby hml hown hnm hret hlk hZ X eT hS hk C hSL
  have N := Fr.nil n0
  have K0 := Keep.refl h0 []
  have sz_h : h0.size ≤ h0.size := Nat.le_refl _
  refine giloadN (v := (2 : Int32)) X hx 1 (hb hby own_d1_0) rfl rfl ?_
  refine gifYes X hx 7 (hb hby own_d1_1) (by decide) (by decide) (by decide) ?_
  refine giloadN (v := (2 : Int32)) X hx 8 (hb hby own_d1_7) rfl rfl ?_
  refine giconst X hx (1 : Int32) 9 (hb hby own_d1_8) rfl rfl ?_
  refine gicmpYes X hx 15 (hb hby own_d1_9) (by decide) (by decide) (by decide) ?_
  refine gldcV X hx hZ hown (own_w80 hw) (own_wS hw) eT hS hk (own_EW hw) own_mem80 C.1 [(.int (80 : Int32)), (.int (111 : Int32)), (.int (115 : Int32)), (.int (116 : Int32)), (.int (103 : Int32)), (.int (114 : Int32)), (.int (101 : Int32)), (.int (83 : Int32)), (.int (81 : Int32)), (.int (76 : Int32))] (10 : Int32) (by decide +kernel) (by decide) rfl 40 (by decide) (by decide) 2 44 rfl rfl (by decide) (by decide) 17 (hb hby own_d1_15) rfl ?_
  clear X eT hS hk hZ hown; clear T k0; intro c2 T h1 vm k0 t10 kb11 X eT E3 hS hk hZ hown CR4 Li5 A6 F7 F8 V9 ns12
  replace K0 := K0.ext E3
  replace C := C.trans CR4
  replace sz_h : h0.size ≤ h1.size := Nat.le_trans sz_h E3.1
  show Go p e below _ T (mkF m 17 #[.val (.int (2 : Int32))] [(.ref c2)])
  have Str13 : Str Z h1 c2 t10 ([80, 111, 115, 116, 103, 114, 101, 83, 81, 76] : List Int32) := Str.of A6 F7 F8 V9 (by decide +kernel) (by decide +kernel) (by decide +kernel) (by decide)
  exact gRetS X hx hlk hret rfl (Or.inr (Or.inr (Or.inr (Or.inr ⟨rfl, rfl, rfl⟩)))) (hb hby own_d1_17) eT hS hk hZ (own_EW hw) C (by decide) (by decide) ⟨c2, t10, rfl, N, K0, Str13⟩
set_option maxRecDepth 65536 in
set_option maxHeartbeats 40000000 in
theorem rm_truncated0 (l : Launch) (Z : State) (a0 : Array Value) (hw : ∀ d ∈ tables_1, d.before a0 Z = true) (h0 : Heap) (n0 : Nat) (Z0 : n0 ≤ h0.size) :
    CtS l (⟨"com/example/fasten/fasten/sql/DialectOfPinLaw", "truncated", "(I)Ljava/lang/String;"⟩ : MethodName) method_6_code 1 (some (.object "java/lang/String")) [] ({ frames := 0, cells := 2, slots := 28, locals := 0 } : Room) Z own_EL [] #[(.int (0 : Int32))] h0 (fun v h L => ∃ (x : Addr), ∃ (t : Addr), v = some (.ref x) ∧ Fr n0 L ∧ Keep h0 h [] ∧ Str Z h x t ([77, 97, 114, 105, 97, 68] : List Int32)) := by
  refine CtS.walk (Ls := #[.val (.int (0 : Int32))]) (plainFor_of_name own_pn0) (fun m => by first | (simp [entryFrame, mkF, argsToLocals, Value.category]; done) | rfl) ?_
  intro p e s m below meth cc_ T vm k0 hx hby hml hown hnm hret hlk hZ X eT hS hk C hSL
  have N := Fr.nil n0
  have K0 := Keep.refl h0 []
  have sz_h : h0.size ≤ h0.size := Nat.le_refl _
  refine giloadN (v := (0 : Int32)) X hx 1 (hb hby own_d5_0) rfl rfl ?_
  refine gifNo X hx 4 (hb hby own_d5_1) rfl (by decide) ?_
  refine gldcV X hx hZ hown (own_w117 hw) (own_wS hw) eT hS hk (own_EW hw) own_mem117 C.1 [(.int (77 : Int32)), (.int (97 : Int32)), (.int (114 : Int32)), (.int (105 : Int32)), (.int (97 : Int32)), (.int (68 : Int32))] (6 : Int32) (by decide +kernel) (by decide) rfl 24 (by decide) (by decide) 2 28 rfl rfl (by decide) (by decide) 6 (hb hby own_d5_4) rfl ?_
  clear X eT hS hk hZ hown; clear T k0; intro c2 T h1 vm k0 t10 kb11 X eT E3 hS hk hZ hown CR4 Li5 A6 F7 F8 V9 ns12
  replace K0 := K0.ext E3
  replace C := C.trans CR4
  replace sz_h : h0.size ≤ h1.size := Nat.le_trans sz_h E3.1
  show Go p e below _ T (mkF m 6 #[.val (.int (0 : Int32))] [(.ref c2)])
  have Str13 : Str Z h1 c2 t10 ([77, 97, 114, 105, 97, 68] : List Int32) := Str.of A6 F7 F8 V9 (by decide +kernel) (by decide +kernel) (by decide +kernel) (by decide)
  exact gRetS X hx hlk hret rfl (Or.inr (Or.inr (Or.inr (Or.inr ⟨rfl, rfl, rfl⟩)))) (hb hby own_d5_6) eT hS hk hZ (own_EW hw) C (by decide) (by decide) ⟨c2, t10, rfl, N, K0, Str13⟩
set_option maxRecDepth 65536 in
set_option maxHeartbeats 40000000 in
theorem rm_truncated1 (l : Launch) (Z : State) (a0 : Array Value) (hw : ∀ d ∈ tables_1, d.before a0 Z = true) (h0 : Heap) (n0 : Nat) (Z0 : n0 ≤ h0.size) :
    CtS l (⟨"com/example/fasten/fasten/sql/DialectOfPinLaw", "truncated", "(I)Ljava/lang/String;"⟩ : MethodName) method_6_code 1 (some (.object "java/lang/String")) [] ({ frames := 0, cells := 2, slots := 20, locals := 0 } : Room) Z own_EL [] #[(.int (1 : Int32))] h0 (fun v h L => ∃ (x : Addr), ∃ (t : Addr), v = some (.ref x) ∧ Fr n0 L ∧ Keep h0 h [] ∧ Str Z h x t ([77, 121, 83, 81] : List Int32)) := by
  refine CtS.walk (Ls := #[.val (.int (1 : Int32))]) (plainFor_of_name own_pn0) (fun m => by first | (simp [entryFrame, mkF, argsToLocals, Value.category]; done) | rfl) ?_
  intro p e s m below meth cc_ T vm k0 hx hby hml hown hnm hret hlk hZ X eT hS hk C hSL
  have N := Fr.nil n0
  have K0 := Keep.refl h0 []
  have sz_h : h0.size ≤ h0.size := Nat.le_refl _
  refine giloadN (v := (1 : Int32)) X hx 1 (hb hby own_d5_0) rfl rfl ?_
  refine gifYes X hx 7 (hb hby own_d5_1) (by decide) (by decide) (by decide) ?_
  refine giloadN (v := (1 : Int32)) X hx 8 (hb hby own_d5_7) rfl rfl ?_
  refine giconst X hx (1 : Int32) 9 (hb hby own_d5_8) rfl rfl ?_
  refine gicmpNo X hx 12 (hb hby own_d5_9) rfl (by decide) ?_
  refine gldcV X hx hZ hown (own_w41 hw) (own_wS hw) eT hS hk (own_EW hw) own_mem41 C.1 [(.int (77 : Int32)), (.int (121 : Int32)), (.int (83 : Int32)), (.int (81 : Int32))] (4 : Int32) (by decide +kernel) (by decide) rfl 16 (by decide) (by decide) 2 20 rfl rfl (by decide) (by decide) 14 (hb hby own_d5_12) rfl ?_
  clear X eT hS hk hZ hown; clear T k0; intro c2 T h1 vm k0 t10 kb11 X eT E3 hS hk hZ hown CR4 Li5 A6 F7 F8 V9 ns12
  replace K0 := K0.ext E3
  replace C := C.trans CR4
  replace sz_h : h0.size ≤ h1.size := Nat.le_trans sz_h E3.1
  show Go p e below _ T (mkF m 14 #[.val (.int (1 : Int32))] [(.ref c2)])
  have Str13 : Str Z h1 c2 t10 ([77, 121, 83, 81] : List Int32) := Str.of A6 F7 F8 V9 (by decide +kernel) (by decide +kernel) (by decide +kernel) (by decide)
  exact gRetS X hx hlk hret rfl (Or.inr (Or.inr (Or.inr (Or.inr ⟨rfl, rfl, rfl⟩)))) (hb hby own_d5_14) eT hS hk hZ (own_EW hw) C (by decide) (by decide) ⟨c2, t10, rfl, N, K0, Str13⟩
set_option maxRecDepth 65536 in
set_option maxHeartbeats 40000000 in
theorem rm_truncated2 (l : Launch) (Z : State) (a0 : Array Value) (hw : ∀ d ∈ tables_1, d.before a0 Z = true) (h0 : Heap) (n0 : Nat) (Z0 : n0 ≤ h0.size) :
    CtS l (⟨"com/example/fasten/fasten/sql/DialectOfPinLaw", "truncated", "(I)Ljava/lang/String;"⟩ : MethodName) method_6_code 1 (some (.object "java/lang/String")) [] ({ frames := 0, cells := 2, slots := 40, locals := 0 } : Room) Z own_EL [] #[(.int (2 : Int32))] h0 (fun v h L => ∃ (x : Addr), ∃ (t : Addr), v = some (.ref x) ∧ Fr n0 L ∧ Keep h0 h [] ∧ Str Z h x t ([80, 111, 115, 116, 103, 114, 101, 83, 81] : List Int32)) := by
  refine CtS.walk (Ls := #[.val (.int (2 : Int32))]) (plainFor_of_name own_pn0) (fun m => by first | (simp [entryFrame, mkF, argsToLocals, Value.category]; done) | rfl) ?_
  intro p e s m below meth cc_ T vm k0 hx hby hml hown hnm hret hlk hZ X eT hS hk C hSL
  have N := Fr.nil n0
  have K0 := Keep.refl h0 []
  have sz_h : h0.size ≤ h0.size := Nat.le_refl _
  refine giloadN (v := (2 : Int32)) X hx 1 (hb hby own_d5_0) rfl rfl ?_
  refine gifYes X hx 7 (hb hby own_d5_1) (by decide) (by decide) (by decide) ?_
  refine giloadN (v := (2 : Int32)) X hx 8 (hb hby own_d5_7) rfl rfl ?_
  refine giconst X hx (1 : Int32) 9 (hb hby own_d5_8) rfl rfl ?_
  refine gicmpYes X hx 15 (hb hby own_d5_9) (by decide) (by decide) (by decide) ?_
  refine gldcV X hx hZ hown (own_w83 hw) (own_wS hw) eT hS hk (own_EW hw) own_mem83 C.1 [(.int (80 : Int32)), (.int (111 : Int32)), (.int (115 : Int32)), (.int (116 : Int32)), (.int (103 : Int32)), (.int (114 : Int32)), (.int (101 : Int32)), (.int (83 : Int32)), (.int (81 : Int32))] (9 : Int32) (by decide +kernel) (by decide) rfl 36 (by decide) (by decide) 2 40 rfl rfl (by decide) (by decide) 17 (hb hby own_d5_15) rfl ?_
  clear X eT hS hk hZ hown; clear T k0; intro c2 T h1 vm k0 t10 kb11 X eT E3 hS hk hZ hown CR4 Li5 A6 F7 F8 V9 ns12
  replace K0 := K0.ext E3
  replace C := C.trans CR4
  replace sz_h : h0.size ≤ h1.size := Nat.le_trans sz_h E3.1
  show Go p e below _ T (mkF m 17 #[.val (.int (2 : Int32))] [(.ref c2)])
  have Str13 : Str Z h1 c2 t10 ([80, 111, 115, 116, 103, 114, 101, 83, 81] : List Int32) := Str.of A6 F7 F8 V9 (by decide +kernel) (by decide +kernel) (by decide +kernel) (by decide)
  exact gRetS X hx hlk hret rfl (Or.inr (Or.inr (Or.inr (Or.inr ⟨rfl, rfl, rfl⟩)))) (hb hby own_d5_17) eT hS hk hZ (own_EW hw) C (by decide) (by decide) ⟨c2, t10, rfl, N, K0, Str13⟩
set_option maxRecDepth 65536 in
set_option maxHeartbeats 40000000 in
theorem rm_sub0 (l : Launch) (Z : State) (a0 : Array Value) (hw : ∀ d ∈ tables_1, d.before a0 Z = true) (q : Int32) (c : Int32) (G1 : Int32) (h0 : Heap) (n0 : Nat) (Z0 : n0 ≤ h0.size) (P0_Old : Old Z n0 h0) (O2 : Sta Z Z.heap "java/lang/String" "COMPACT_STRINGS" "Z" (.int G1)) (P5 : ¬ G1 = (0 : Int32)) (hq : ¬ q < 0) (hc : ¬ c < 0 ∧ ¬ (255 : Int32) < c) :
    CtP l (⟨"com/example/fasten/fasten/sql/DialectOfPinLaw", "substituted", "(IIC)Ljava/lang/String;"⟩ : MethodName) method_4_code 4 (some (.object "java/lang/String")) [] ({ frames := 4, cells := 3, slots := 18, locals := 66 } : Room) Z #[(.int (0 : Int32)), (.int q), (.int c)] h0 (fun v h L => ∃ (x : Addr), ∃ (t : Addr), v = some (.ref x) ∧ Fr n0 L ∧ Keep h0 h [] ∧ h0.size ≤ x ∧ h0.size ≤ t ∧ Str Z h x t (([77, 97, 114, 105, 97, 68, 66] : List Int32).set q.toNatClampNeg c)) := by
  refine CtP.walk (Ls := #[.val (.int (0 : Int32)), .val (.int q), .val (.int c), .unset]) (plainFor_of_name own_pn0) (fun m => by first | (simp [entryFrame, mkF, argsToLocals, Value.category]; done) | rfl) ?_
  intro p e s m below meth cc_ T hx hby hml hown hnm hret hlk hZ X eT
  have N := Fr.nil n0
  have K0 := Keep.refl h0 []
  have sz_h : h0.size ≤ h0.size := Nat.le_refl _
  refine giloadN (v := (0 : Int32)) X hx 1 (hb hby own_d6_0) rfl rfl ?_
  refine gifNo X hx 4 (hb hby own_d6_1) rfl (by decide) ?_
  refine gbipush X hx (7 : Int32) 6 (hb hby own_d6_4) rfl rfl ?_
  refine gnewP (aty := .char) X hx hZ (own_w45 hw) eT (n := (7 : Int32)) (by decide) 7 (by decide) (by decide) 1 7 rfl rfl (by decide) (by decide) 8 (hb hby own_d6_6) rfl ?_
  clear X eT; clear T; intro T h1 b2 kc5 X eT ga E3 V4
  have le_a := Nat.le_of_eq ga.symm
  have sz_b2 : h0.size ≤ b2 := Nat.le_trans sz_h le_a
  have ge_b2 : n0 ≤ b2 := Nat.le_trans Z0 sz_b2
  clear le_a ga
  replace P0_Old := P0_Old.ext E3
  replace K0 := K0.ext E3
  replace sz_h : h0.size ≤ h1.size := Nat.le_trans sz_h E3.1
  replace V4 : Arv Z h1 b2 kc5 .char (7 : Int32) [(.int (0 : Int32)), (.int (0 : Int32)), (.int (0 : Int32)), (.int (0 : Int32)), (.int (0 : Int32)), (.int (0 : Int32)), (.int (0 : Int32))] (.int 0) := V4.pad (pad_rep [] _ 7)
  refine gdup X hx 9 (hb hby own_d6_8) rfl rfl ?_
  refine giconst X hx (0 : Int32) 10 (hb hby own_d6_9) rfl rfl ?_
  refine gbipush X hx (77 : Int32) 12 (hb hby own_d6_10) rfl rfl ?_
  refine gcastore X hx hZ eT V4 (by decide) (by decide) 0 rfl (Nat.le_of_ble_eq_true rfl) N ge_b2 13 (hb hby own_d6_12) rfl ?_
  clear X eT N; clear T; intro T h7 L X eT N W6 V8
  replace P0_Old := P0_Old.wr W6 ge_b2
  replace K0 := K0.wr W6 (Or.inr sz_b2)
  replace sz_h : h0.size ≤ h7.size := by rw [Wr.size W6]; exact sz_h
  replace V8 : Arv Z h7 b2 kc5 .char (7 : Int32) [(.int (77 : Int32)), (.int (0 : Int32)), (.int (0 : Int32)), (.int (0 : Int32)), (.int (0 : Int32)), (.int (0 : Int32)), (.int (0 : Int32))] (.int 0) := V8
  refine gdup X hx 14 (hb hby own_d6_13) rfl rfl ?_
  refine giconst X hx (1 : Int32) 15 (hb hby own_d6_14) rfl rfl ?_
  refine gbipush X hx (97 : Int32) 17 (hb hby own_d6_15) rfl rfl ?_
  refine gcastore X hx hZ eT V8 (by decide) (by decide) 1 rfl (Nat.le_of_ble_eq_true rfl) N ge_b2 18 (hb hby own_d6_17) rfl ?_
  clear X eT N; clear T; intro T h10 L X eT N W9 V11
  replace P0_Old := P0_Old.wr W9 ge_b2
  replace K0 := K0.wr W9 (Or.inr sz_b2)
  replace sz_h : h0.size ≤ h10.size := by rw [Wr.size W9]; exact sz_h
  replace V11 : Arv Z h10 b2 kc5 .char (7 : Int32) [(.int (77 : Int32)), (.int (97 : Int32)), (.int (0 : Int32)), (.int (0 : Int32)), (.int (0 : Int32)), (.int (0 : Int32)), (.int (0 : Int32))] (.int 0) := V11
  refine gdup X hx 19 (hb hby own_d6_18) rfl rfl ?_
  refine giconst X hx (2 : Int32) 20 (hb hby own_d6_19) rfl rfl ?_
  refine gbipush X hx (114 : Int32) 22 (hb hby own_d6_20) rfl rfl ?_
  refine gcastore X hx hZ eT V11 (by decide) (by decide) 2 rfl (Nat.le_of_ble_eq_true rfl) N ge_b2 23 (hb hby own_d6_22) rfl ?_
  clear X eT N; clear T; intro T h13 L X eT N W12 V14
  replace P0_Old := P0_Old.wr W12 ge_b2
  replace K0 := K0.wr W12 (Or.inr sz_b2)
  replace sz_h : h0.size ≤ h13.size := by rw [Wr.size W12]; exact sz_h
  replace V14 : Arv Z h13 b2 kc5 .char (7 : Int32) [(.int (77 : Int32)), (.int (97 : Int32)), (.int (114 : Int32)), (.int (0 : Int32)), (.int (0 : Int32)), (.int (0 : Int32)), (.int (0 : Int32))] (.int 0) := V14
  refine gdup X hx 24 (hb hby own_d6_23) rfl rfl ?_
  refine giconst X hx (3 : Int32) 25 (hb hby own_d6_24) rfl rfl ?_
  refine gbipush X hx (105 : Int32) 27 (hb hby own_d6_25) rfl rfl ?_
  refine gcastore X hx hZ eT V14 (by decide) (by decide) 3 rfl (Nat.le_of_ble_eq_true rfl) N ge_b2 28 (hb hby own_d6_27) rfl ?_
  clear X eT N; clear T; intro T h16 L X eT N W15 V17
  replace P0_Old := P0_Old.wr W15 ge_b2
  replace K0 := K0.wr W15 (Or.inr sz_b2)
  replace sz_h : h0.size ≤ h16.size := by rw [Wr.size W15]; exact sz_h
  replace V17 : Arv Z h16 b2 kc5 .char (7 : Int32) [(.int (77 : Int32)), (.int (97 : Int32)), (.int (114 : Int32)), (.int (105 : Int32)), (.int (0 : Int32)), (.int (0 : Int32)), (.int (0 : Int32))] (.int 0) := V17
  refine gdup X hx 29 (hb hby own_d6_28) rfl rfl ?_
  refine giconst X hx (4 : Int32) 30 (hb hby own_d6_29) rfl rfl ?_
  refine gbipush X hx (97 : Int32) 32 (hb hby own_d6_30) rfl rfl ?_
  refine gcastore X hx hZ eT V17 (by decide) (by decide) 4 rfl (Nat.le_of_ble_eq_true rfl) N ge_b2 33 (hb hby own_d6_32) rfl ?_
  clear X eT N; clear T; intro T h19 L X eT N W18 V20
  replace P0_Old := P0_Old.wr W18 ge_b2
  replace K0 := K0.wr W18 (Or.inr sz_b2)
  replace sz_h : h0.size ≤ h19.size := by rw [Wr.size W18]; exact sz_h
  replace V20 : Arv Z h19 b2 kc5 .char (7 : Int32) [(.int (77 : Int32)), (.int (97 : Int32)), (.int (114 : Int32)), (.int (105 : Int32)), (.int (97 : Int32)), (.int (0 : Int32)), (.int (0 : Int32))] (.int 0) := V20
  refine gdup X hx 34 (hb hby own_d6_33) rfl rfl ?_
  refine giconst X hx (5 : Int32) 35 (hb hby own_d6_34) rfl rfl ?_
  refine gbipush X hx (68 : Int32) 37 (hb hby own_d6_35) rfl rfl ?_
  refine gcastore X hx hZ eT V20 (by decide) (by decide) 5 rfl (Nat.le_of_ble_eq_true rfl) N ge_b2 38 (hb hby own_d6_37) rfl ?_
  clear X eT N; clear T; intro T h22 L X eT N W21 V23
  replace P0_Old := P0_Old.wr W21 ge_b2
  replace K0 := K0.wr W21 (Or.inr sz_b2)
  replace sz_h : h0.size ≤ h22.size := by rw [Wr.size W21]; exact sz_h
  replace V23 : Arv Z h22 b2 kc5 .char (7 : Int32) [(.int (77 : Int32)), (.int (97 : Int32)), (.int (114 : Int32)), (.int (105 : Int32)), (.int (97 : Int32)), (.int (68 : Int32)), (.int (0 : Int32))] (.int 0) := V23
  refine gdup X hx 39 (hb hby own_d6_38) rfl rfl ?_
  refine gbipush X hx (6 : Int32) 41 (hb hby own_d6_39) rfl rfl ?_
  refine gbipush X hx (66 : Int32) 43 (hb hby own_d6_41) rfl rfl ?_
  refine gcastore X hx hZ eT V23 (by decide) (by decide) 6 rfl (Nat.le_of_ble_eq_true rfl) N ge_b2 44 (hb hby own_d6_43) rfl ?_
  clear X eT N; clear T; intro T h25 L X eT N W24 V26
  replace P0_Old := P0_Old.wr W24 ge_b2
  replace K0 := K0.wr W24 (Or.inr sz_b2)
  replace sz_h : h0.size ≤ h25.size := by rw [Wr.size W24]; exact sz_h
  replace V26 : Arv Z h25 b2 kc5 .char (7 : Int32) [(.int (77 : Int32)), (.int (97 : Int32)), (.int (114 : Int32)), (.int (105 : Int32)), (.int (97 : Int32)), (.int (68 : Int32)), (.int (66 : Int32))] (.int 0) := V26
  refine gastoreN X hx #[.val (.int (0 : Int32)), .val (.int q), .val (.int c), .val (.ref b2)] 45 (hb hby own_d6_44) rfl rfl rfl ?_
  refine giloadN (v := q) X hx 46 (hb hby own_d6_45) rfl rfl ?_
  refine gbipush X hx (7 : Int32) 48 (hb hby own_d6_46) rfl rfl ?_
  rcases Decidable.em (q < (7 : Int32)) with hs48 | hs48
  · refine gicmpNo X hx 51 (hb hby own_d6_48) rfl (tlt hs48).2.1 ?_
    refine galoadN (v := (.ref b2)) X hx 52 (hb hby own_d6_51) rfl rfl rfl ?_
    refine giloadN (v := q) X hx 53 (hb hby own_d6_52) rfl rfl ?_
    refine giloadN (v := c) X hx 54 (hb hby own_d6_53) rfl rfl ?_
    refine gcastore X hx hZ eT V26 hq hs48 q.toNatClampNeg rfl (own_nat hq (by decide) hs48) N ge_b2 55 (hb hby own_d6_54) rfl ?_
    clear X eT N; clear T; intro T h28 L X eT N W27 V29
    replace P0_Old := P0_Old.wr W27 ge_b2
    replace K0 := K0.wr W27 (Or.inr sz_b2)
    replace sz_h : h0.size ≤ h28.size := by rw [Wr.size W27]; exact sz_h
    rw [own_narc hc] at V29
    refine gnewO X hx hZ hown (own_w46 hw) (own_w7 hw) (own_w6 hw) eT 2 11 rfl rfl (by decide) (by decide) 58 (hb hby own_d6_55) rfl ?_
    clear X eT; clear T; intro T h30 b31 X eT ga E32 A33 D34
    have le_a := Nat.le_of_eq ga.symm
    have ne_b2_b31 : b2 ≠ b31 := Nat.ne_of_lt (Nat.lt_of_lt_of_le V29.lt le_a)
    have ne_b31_b2 : b31 ≠ b2 := Ne.symm ne_b2_b31
    have sz_b31 : h0.size ≤ b31 := Nat.le_trans sz_h le_a
    have ge_b31 : n0 ≤ b31 := Nat.le_trans Z0 sz_b31
    clear le_a ga
    replace P0_Old := P0_Old.ext E32
    replace V29 := V29.ext E32
    replace K0 := K0.ext E32
    replace sz_h : h0.size ≤ h30.size := Nat.le_trans sz_h E32.1
    have F_value_b31 : Fld Z h30 b31 "java/lang/String" "value" "[B" .null := D34 (Or.inr (own_w9 hw)) (ty := (.array .byte)) own_pf0
    have F_coder_b31 : Fld Z h30 b31 "java/lang/String" "coder" "B" (.int (0 : Int32)) := D34 (Or.inr (own_w10 hw)) (ty := .byte) own_pf1
    clear D34
    refine gdup X hx 59 (hb hby own_d6_58) rfl rfl ?_
    refine galoadN (v := (.ref b2)) X hx 60 (hb hby own_d6_59) rfl rfl rfl ?_
    refine gspecial (y := (⟨"java/lang/String", "<init>", "([C)V"⟩ : MethodName)) (a := b31) (argsL := [(.ref b2)]) (st := [(.ref b31)]) X hx hZ hown rfl (own_w47 hw) (own_w48 hw) (own_w49 hw) (by decide) (payNew (W := 1) (cs := (([77, 97, 114, 105, 97, 68, 66] : List Int32).set q.toNatClampNeg c)) (n := 7) (n0 := n0) hZ hw ge_b31 (Nat.le_trans Z0 sz_h) A33 F_value_b31 F_coder_b31 V29 (own_mapset ([77, 97, 114, 105, 97, 68, 66] : List Int32) _ _) (O2.ext P0_Old.2) P5 (by rw [List.length_set]; rfl) rfl (by decide) (by decide) (own_setr (by decide) hc) (by decide) (by decide)) eT (by rw [hml]; rfl) (lenOf own_pd0 rfl) rfl (Nat.le_of_eq rfl) 3 18 rfl rfl (by decide) (by decide) 63 (hb hby own_d6_60) rfl ?_
    clear X eT; clear T; intro v T h38 L2 Lc X eT hL hQ39
    obtain ⟨rfl, Nq, K35, t36, zz_t36, Str37⟩ := hQ39
    replace N : Fr n0 L2 := by rw [hL]; exact Fr.app N Nq
    clear Nq hL
    have ne_b2_t36 : b2 ≠ t36 := Nat.ne_of_lt (Nat.lt_of_lt_of_le V29.lt zz_t36)
    have ne_t36_b2 : t36 ≠ b2 := Ne.symm ne_b2_t36
    have ne_b31_t36 : b31 ≠ t36 := Nat.ne_of_lt (Nat.lt_of_lt_of_le A33.lt zz_t36)
    have ne_t36_b31 : t36 ≠ b31 := Ne.symm ne_b31_t36
    have sz_t36 : h0.size ≤ t36 := Nat.le_trans sz_h zz_t36
    have ge_t36 : n0 ≤ t36 := Nat.le_trans Z0 sz_t36
    replace P0_Old := P0_Old.keep K35 (allS ge_b31 all0)
    replace V29 := V29.keep K35 (ninS ne_b2_b31 nin0)
    replace K0 := K0.trans K35 (allS (Or.inr sz_b31) all0)
    replace sz_h : h0.size ≤ h38.size := Nat.le_trans sz_h K35.1
    show Go p e below _ T (mkF m 63 #[.val (.int (0 : Int32)), .val (.int q), .val (.int c), .val (.ref b2)] [(.ref b31)])
    exact gRetP X hx hlk hret rfl (Or.inr (Or.inr (Or.inr (Or.inr ⟨rfl, rfl, rfl⟩)))) (hb hby own_d6_63) eT (by decide) (by decide) ⟨b31, t36, rfl, N, K0, sz_b31, sz_t36, Str37⟩
  · refine gicmpYes X hx 55 (hb hby own_d6_48) (flt hs48).2.1 (by decide) (by decide) ?_
    refine gnewO X hx hZ hown (own_w46 hw) (own_w7 hw) (own_w6 hw) eT 2 11 rfl rfl (by decide) (by decide) 58 (hb hby own_d6_55) rfl ?_
    clear X eT; clear T; intro T h40 b41 X eT ga E42 A43 D44
    have le_a := Nat.le_of_eq ga.symm
    have ne_b2_b41 : b2 ≠ b41 := Nat.ne_of_lt (Nat.lt_of_lt_of_le V26.lt le_a)
    have ne_b41_b2 : b41 ≠ b2 := Ne.symm ne_b2_b41
    have sz_b41 : h0.size ≤ b41 := Nat.le_trans sz_h le_a
    have ge_b41 : n0 ≤ b41 := Nat.le_trans Z0 sz_b41
    clear le_a ga
    replace P0_Old := P0_Old.ext E42
    replace V26 := V26.ext E42
    replace K0 := K0.ext E42
    replace sz_h : h0.size ≤ h40.size := Nat.le_trans sz_h E42.1
    have F_value_b41 : Fld Z h40 b41 "java/lang/String" "value" "[B" .null := D44 (Or.inr (own_w9 hw)) (ty := (.array .byte)) own_pf0
    have F_coder_b41 : Fld Z h40 b41 "java/lang/String" "coder" "B" (.int (0 : Int32)) := D44 (Or.inr (own_w10 hw)) (ty := .byte) own_pf1
    clear D44
    refine gdup X hx 59 (hb hby own_d6_58) rfl rfl ?_
    refine galoadN (v := (.ref b2)) X hx 60 (hb hby own_d6_59) rfl rfl rfl ?_
    refine gspecial (y := (⟨"java/lang/String", "<init>", "([C)V"⟩ : MethodName)) (a := b41) (argsL := [(.ref b2)]) (st := [(.ref b41)]) X hx hZ hown rfl (own_w47 hw) (own_w48 hw) (own_w49 hw) (by decide) (payNew (W := 1) (cs := ([77, 97, 114, 105, 97, 68, 66] : List Int32)) (n := 7) (n0 := n0) hZ hw ge_b41 (Nat.le_trans Z0 sz_h) A43 F_value_b41 F_coder_b41 V26 rfl (O2.ext P0_Old.2) P5 rfl rfl (by decide) (by decide) (by decide) (by decide) (by decide)) eT (by rw [hml]; rfl) (lenOf own_pd0 rfl) rfl (Nat.le_of_eq rfl) 3 18 rfl rfl (by decide) (by decide) 63 (hb hby own_d6_60) rfl ?_
    clear X eT; clear T; intro v T h48 L2 Lc X eT hL hQ49
    obtain ⟨rfl, Nq, K45, t46, zz_t46, Str47⟩ := hQ49
    replace N : Fr n0 L2 := by rw [hL]; exact Fr.app N Nq
    clear Nq hL
    have ne_b2_t46 : b2 ≠ t46 := Nat.ne_of_lt (Nat.lt_of_lt_of_le V26.lt zz_t46)
    have ne_t46_b2 : t46 ≠ b2 := Ne.symm ne_b2_t46
    have ne_b41_t46 : b41 ≠ t46 := Nat.ne_of_lt (Nat.lt_of_lt_of_le A43.lt zz_t46)
    have ne_t46_b41 : t46 ≠ b41 := Ne.symm ne_b41_t46
    have sz_t46 : h0.size ≤ t46 := Nat.le_trans sz_h zz_t46
    have ge_t46 : n0 ≤ t46 := Nat.le_trans Z0 sz_t46
    replace P0_Old := P0_Old.keep K45 (allS ge_b41 all0)
    replace V26 := V26.keep K45 (ninS ne_b2_b41 nin0)
    replace K0 := K0.trans K45 (allS (Or.inr sz_b41) all0)
    replace sz_h : h0.size ≤ h48.size := Nat.le_trans sz_h K45.1
    show Go p e below _ T (mkF m 63 #[.val (.int (0 : Int32)), .val (.int q), .val (.int c), .val (.ref b2)] [(.ref b41)])
    rw [← own_setout (q := q) (c := c) (L := ([77, 97, 114, 105, 97, 68, 66] : List Int32)) hq (by decide) hs48] at Str47
    exact gRetP X hx hlk hret rfl (Or.inr (Or.inr (Or.inr (Or.inr ⟨rfl, rfl, rfl⟩)))) (hb hby own_d6_63) eT (by decide) (by decide) ⟨b41, t46, rfl, N, K0, sz_b41, sz_t46, Str47⟩
set_option maxRecDepth 65536 in
set_option maxHeartbeats 40000000 in
theorem rm_app0 (l : Launch) (Z : State) (a0 : Array Value) (hw : ∀ d ∈ tables_1, d.before a0 Z = true) (c : Int32) (G1 : Int32) (h0 : Heap) (n0 : Nat) (Z0 : n0 ≤ h0.size) (P0_Old : Old Z n0 h0) (O2 : Sta Z Z.heap "java/lang/String" "COMPACT_STRINGS" "Z" (.int G1)) (P5 : ¬ G1 = (0 : Int32)) (hc : ¬ c < 0 ∧ ¬ (255 : Int32) < c) :
    CtP l (⟨"com/example/fasten/fasten/sql/DialectOfPinLaw", "appended", "(IC)Ljava/lang/String;"⟩ : MethodName) method_5_code 3 (some (.object "java/lang/String")) [] ({ frames := 4, cells := 3, slots := 20, locals := 66 } : Room) Z #[(.int (0 : Int32)), (.int c)] h0 (fun v h L => ∃ (x : Addr), ∃ (t : Addr), v = some (.ref x) ∧ Fr n0 L ∧ Keep h0 h [] ∧ h0.size ≤ x ∧ h0.size ≤ t ∧ Str Z h x t ([77, 97, 114, 105, 97, 68, 66, c] : List Int32)) := by
  refine CtP.walk (Ls := #[.val (.int (0 : Int32)), .val (.int c), .unset]) (plainFor_of_name own_pn0) (fun m => by first | (simp [entryFrame, mkF, argsToLocals, Value.category]; done) | rfl) ?_
  intro p e s m below meth cc_ T hx hby hml hown hnm hret hlk hZ X eT
  have N := Fr.nil n0
  have K0 := Keep.refl h0 []
  have sz_h : h0.size ≤ h0.size := Nat.le_refl _
  refine giloadN (v := (0 : Int32)) X hx 1 (hb hby own_d15_0) rfl rfl ?_
  refine gifNo X hx 4 (hb hby own_d15_1) rfl (by decide) ?_
  refine gbipush X hx (8 : Int32) 6 (hb hby own_d15_4) rfl rfl ?_
  refine gnewP (aty := .char) X hx hZ (own_w45 hw) eT (n := (8 : Int32)) (by decide) 8 (by decide) (by decide) 1 8 rfl rfl (by decide) (by decide) 8 (hb hby own_d15_6) rfl ?_
  clear X eT; clear T; intro T h1 b2 kc5 X eT ga E3 V4
  have le_a := Nat.le_of_eq ga.symm
  have sz_b2 : h0.size ≤ b2 := Nat.le_trans sz_h le_a
  have ge_b2 : n0 ≤ b2 := Nat.le_trans Z0 sz_b2
  clear le_a ga
  replace P0_Old := P0_Old.ext E3
  replace K0 := K0.ext E3
  replace sz_h : h0.size ≤ h1.size := Nat.le_trans sz_h E3.1
  replace V4 : Arv Z h1 b2 kc5 .char (8 : Int32) [(.int (0 : Int32)), (.int (0 : Int32)), (.int (0 : Int32)), (.int (0 : Int32)), (.int (0 : Int32)), (.int (0 : Int32)), (.int (0 : Int32)), (.int (0 : Int32))] (.int 0) := V4.pad (pad_rep [] _ 8)
  refine gdup X hx 9 (hb hby own_d15_8) rfl rfl ?_
  refine giconst X hx (0 : Int32) 10 (hb hby own_d15_9) rfl rfl ?_
  refine gbipush X hx (77 : Int32) 12 (hb hby own_d15_10) rfl rfl ?_
  refine gcastore X hx hZ eT V4 (by decide) (by decide) 0 rfl (Nat.le_of_ble_eq_true rfl) N ge_b2 13 (hb hby own_d15_12) rfl ?_
  clear X eT N; clear T; intro T h7 L X eT N W6 V8
  replace P0_Old := P0_Old.wr W6 ge_b2
  replace K0 := K0.wr W6 (Or.inr sz_b2)
  replace sz_h : h0.size ≤ h7.size := by rw [Wr.size W6]; exact sz_h
  replace V8 : Arv Z h7 b2 kc5 .char (8 : Int32) [(.int (77 : Int32)), (.int (0 : Int32)), (.int (0 : Int32)), (.int (0 : Int32)), (.int (0 : Int32)), (.int (0 : Int32)), (.int (0 : Int32)), (.int (0 : Int32))] (.int 0) := V8
  refine gdup X hx 14 (hb hby own_d15_13) rfl rfl ?_
  refine giconst X hx (1 : Int32) 15 (hb hby own_d15_14) rfl rfl ?_
  refine gbipush X hx (97 : Int32) 17 (hb hby own_d15_15) rfl rfl ?_
  refine gcastore X hx hZ eT V8 (by decide) (by decide) 1 rfl (Nat.le_of_ble_eq_true rfl) N ge_b2 18 (hb hby own_d15_17) rfl ?_
  clear X eT N; clear T; intro T h10 L X eT N W9 V11
  replace P0_Old := P0_Old.wr W9 ge_b2
  replace K0 := K0.wr W9 (Or.inr sz_b2)
  replace sz_h : h0.size ≤ h10.size := by rw [Wr.size W9]; exact sz_h
  replace V11 : Arv Z h10 b2 kc5 .char (8 : Int32) [(.int (77 : Int32)), (.int (97 : Int32)), (.int (0 : Int32)), (.int (0 : Int32)), (.int (0 : Int32)), (.int (0 : Int32)), (.int (0 : Int32)), (.int (0 : Int32))] (.int 0) := V11
  refine gdup X hx 19 (hb hby own_d15_18) rfl rfl ?_
  refine giconst X hx (2 : Int32) 20 (hb hby own_d15_19) rfl rfl ?_
  refine gbipush X hx (114 : Int32) 22 (hb hby own_d15_20) rfl rfl ?_
  refine gcastore X hx hZ eT V11 (by decide) (by decide) 2 rfl (Nat.le_of_ble_eq_true rfl) N ge_b2 23 (hb hby own_d15_22) rfl ?_
  clear X eT N; clear T; intro T h13 L X eT N W12 V14
  replace P0_Old := P0_Old.wr W12 ge_b2
  replace K0 := K0.wr W12 (Or.inr sz_b2)
  replace sz_h : h0.size ≤ h13.size := by rw [Wr.size W12]; exact sz_h
  replace V14 : Arv Z h13 b2 kc5 .char (8 : Int32) [(.int (77 : Int32)), (.int (97 : Int32)), (.int (114 : Int32)), (.int (0 : Int32)), (.int (0 : Int32)), (.int (0 : Int32)), (.int (0 : Int32)), (.int (0 : Int32))] (.int 0) := V14
  refine gdup X hx 24 (hb hby own_d15_23) rfl rfl ?_
  refine giconst X hx (3 : Int32) 25 (hb hby own_d15_24) rfl rfl ?_
  refine gbipush X hx (105 : Int32) 27 (hb hby own_d15_25) rfl rfl ?_
  refine gcastore X hx hZ eT V14 (by decide) (by decide) 3 rfl (Nat.le_of_ble_eq_true rfl) N ge_b2 28 (hb hby own_d15_27) rfl ?_
  clear X eT N; clear T; intro T h16 L X eT N W15 V17
  replace P0_Old := P0_Old.wr W15 ge_b2
  replace K0 := K0.wr W15 (Or.inr sz_b2)
  replace sz_h : h0.size ≤ h16.size := by rw [Wr.size W15]; exact sz_h
  replace V17 : Arv Z h16 b2 kc5 .char (8 : Int32) [(.int (77 : Int32)), (.int (97 : Int32)), (.int (114 : Int32)), (.int (105 : Int32)), (.int (0 : Int32)), (.int (0 : Int32)), (.int (0 : Int32)), (.int (0 : Int32))] (.int 0) := V17
  refine gdup X hx 29 (hb hby own_d15_28) rfl rfl ?_
  refine giconst X hx (4 : Int32) 30 (hb hby own_d15_29) rfl rfl ?_
  refine gbipush X hx (97 : Int32) 32 (hb hby own_d15_30) rfl rfl ?_
  refine gcastore X hx hZ eT V17 (by decide) (by decide) 4 rfl (Nat.le_of_ble_eq_true rfl) N ge_b2 33 (hb hby own_d15_32) rfl ?_
  clear X eT N; clear T; intro T h19 L X eT N W18 V20
  replace P0_Old := P0_Old.wr W18 ge_b2
  replace K0 := K0.wr W18 (Or.inr sz_b2)
  replace sz_h : h0.size ≤ h19.size := by rw [Wr.size W18]; exact sz_h
  replace V20 : Arv Z h19 b2 kc5 .char (8 : Int32) [(.int (77 : Int32)), (.int (97 : Int32)), (.int (114 : Int32)), (.int (105 : Int32)), (.int (97 : Int32)), (.int (0 : Int32)), (.int (0 : Int32)), (.int (0 : Int32))] (.int 0) := V20
  refine gdup X hx 34 (hb hby own_d15_33) rfl rfl ?_
  refine giconst X hx (5 : Int32) 35 (hb hby own_d15_34) rfl rfl ?_
  refine gbipush X hx (68 : Int32) 37 (hb hby own_d15_35) rfl rfl ?_
  refine gcastore X hx hZ eT V20 (by decide) (by decide) 5 rfl (Nat.le_of_ble_eq_true rfl) N ge_b2 38 (hb hby own_d15_37) rfl ?_
  clear X eT N; clear T; intro T h22 L X eT N W21 V23
  replace P0_Old := P0_Old.wr W21 ge_b2
  replace K0 := K0.wr W21 (Or.inr sz_b2)
  replace sz_h : h0.size ≤ h22.size := by rw [Wr.size W21]; exact sz_h
  replace V23 : Arv Z h22 b2 kc5 .char (8 : Int32) [(.int (77 : Int32)), (.int (97 : Int32)), (.int (114 : Int32)), (.int (105 : Int32)), (.int (97 : Int32)), (.int (68 : Int32)), (.int (0 : Int32)), (.int (0 : Int32))] (.int 0) := V23
  refine gdup X hx 39 (hb hby own_d15_38) rfl rfl ?_
  refine gbipush X hx (6 : Int32) 41 (hb hby own_d15_39) rfl rfl ?_
  refine gbipush X hx (66 : Int32) 43 (hb hby own_d15_41) rfl rfl ?_
  refine gcastore X hx hZ eT V23 (by decide) (by decide) 6 rfl (Nat.le_of_ble_eq_true rfl) N ge_b2 44 (hb hby own_d15_43) rfl ?_
  clear X eT N; clear T; intro T h25 L X eT N W24 V26
  replace P0_Old := P0_Old.wr W24 ge_b2
  replace K0 := K0.wr W24 (Or.inr sz_b2)
  replace sz_h : h0.size ≤ h25.size := by rw [Wr.size W24]; exact sz_h
  replace V26 : Arv Z h25 b2 kc5 .char (8 : Int32) [(.int (77 : Int32)), (.int (97 : Int32)), (.int (114 : Int32)), (.int (105 : Int32)), (.int (97 : Int32)), (.int (68 : Int32)), (.int (66 : Int32)), (.int (0 : Int32))] (.int 0) := V26
  refine gdup X hx 45 (hb hby own_d15_44) rfl rfl ?_
  refine gbipush X hx (7 : Int32) 47 (hb hby own_d15_45) rfl rfl ?_
  refine giloadN (v := c) X hx 48 (hb hby own_d15_47) rfl rfl ?_
  refine gcastore X hx hZ eT V26 (by decide) (by decide) 7 rfl (Nat.le_of_ble_eq_true rfl) N ge_b2 49 (hb hby own_d15_48) rfl ?_
  clear X eT N; clear T; intro T h28 L X eT N W27 V29
  replace P0_Old := P0_Old.wr W27 ge_b2
  replace K0 := K0.wr W27 (Or.inr sz_b2)
  replace sz_h : h0.size ≤ h28.size := by rw [Wr.size W27]; exact sz_h
  replace V29 : Arv Z h28 b2 kc5 .char (8 : Int32) [(.int (77 : Int32)), (.int (97 : Int32)), (.int (114 : Int32)), (.int (105 : Int32)), (.int (97 : Int32)), (.int (68 : Int32)), (.int (66 : Int32)), (.int c)] (.int 0) := by have z := V29; rw [own_narc hc] at z; exact z
  refine gastoreN X hx #[.val (.int (0 : Int32)), .val (.int c), .val (.ref b2)] 50 (hb hby own_d15_49) rfl rfl rfl ?_
  refine gnewO X hx hZ hown (own_w46 hw) (own_w7 hw) (own_w6 hw) eT 2 12 rfl rfl (by decide) (by decide) 53 (hb hby own_d15_50) rfl ?_
  clear X eT; clear T; intro T h30 b31 X eT ga E32 A33 D34
  have le_a := Nat.le_of_eq ga.symm
  have ne_b2_b31 : b2 ≠ b31 := Nat.ne_of_lt (Nat.lt_of_lt_of_le V29.lt le_a)
  have ne_b31_b2 : b31 ≠ b2 := Ne.symm ne_b2_b31
  have sz_b31 : h0.size ≤ b31 := Nat.le_trans sz_h le_a
  have ge_b31 : n0 ≤ b31 := Nat.le_trans Z0 sz_b31
  clear le_a ga
  replace P0_Old := P0_Old.ext E32
  replace V29 := V29.ext E32
  replace K0 := K0.ext E32
  replace sz_h : h0.size ≤ h30.size := Nat.le_trans sz_h E32.1
  have F_value_b31 : Fld Z h30 b31 "java/lang/String" "value" "[B" .null := D34 (Or.inr (own_w9 hw)) (ty := (.array .byte)) own_pf0
  have F_coder_b31 : Fld Z h30 b31 "java/lang/String" "coder" "B" (.int (0 : Int32)) := D34 (Or.inr (own_w10 hw)) (ty := .byte) own_pf1
  clear D34
  refine gdup X hx 54 (hb hby own_d15_53) rfl rfl ?_
  refine galoadN (v := (.ref b2)) X hx 55 (hb hby own_d15_54) rfl rfl rfl ?_
  refine gspecial (y := (⟨"java/lang/String", "<init>", "([C)V"⟩ : MethodName)) (a := b31) (argsL := [(.ref b2)]) (st := [(.ref b31)]) X hx hZ hown rfl (own_w47 hw) (own_w48 hw) (own_w49 hw) (by decide) (payNew (W := 1) (cs := ([77, 97, 114, 105, 97, 68, 66, c] : List Int32)) (n := 8) (n0 := n0) hZ hw ge_b31 (Nat.le_trans Z0 sz_h) A33 F_value_b31 F_coder_b31 V29 rfl (O2.ext P0_Old.2) P5 rfl rfl (by decide) (by decide) (own_cS (by decide) (own_cS (by decide) (own_cS (by decide) (own_cS (by decide) (own_cS (by decide) (own_cS (by decide) (own_cS (by decide) (own_cS hc own_c0)))))))) (by decide) (by decide)) eT (by rw [hml]; rfl) (lenOf own_pd0 rfl) rfl (Nat.le_of_eq rfl) 3 20 rfl rfl (by decide) (by decide) 58 (hb hby own_d15_55) rfl ?_
  clear X eT; clear T; intro v T h38 L2 Lc X eT hL hQ39
  obtain ⟨rfl, Nq, K35, t36, zz_t36, Str37⟩ := hQ39
  replace N : Fr n0 L2 := by rw [hL]; exact Fr.app N Nq
  clear Nq hL
  have ne_b2_t36 : b2 ≠ t36 := Nat.ne_of_lt (Nat.lt_of_lt_of_le V29.lt zz_t36)
  have ne_t36_b2 : t36 ≠ b2 := Ne.symm ne_b2_t36
  have ne_b31_t36 : b31 ≠ t36 := Nat.ne_of_lt (Nat.lt_of_lt_of_le A33.lt zz_t36)
  have ne_t36_b31 : t36 ≠ b31 := Ne.symm ne_b31_t36
  have sz_t36 : h0.size ≤ t36 := Nat.le_trans sz_h zz_t36
  have ge_t36 : n0 ≤ t36 := Nat.le_trans Z0 sz_t36
  replace P0_Old := P0_Old.keep K35 (allS ge_b31 all0)
  replace V29 := V29.keep K35 (ninS ne_b2_b31 nin0)
  replace K0 := K0.trans K35 (allS (Or.inr sz_b31) all0)
  replace sz_h : h0.size ≤ h38.size := Nat.le_trans sz_h K35.1
  show Go p e below _ T (mkF m 58 #[.val (.int (0 : Int32)), .val (.int c), .val (.ref b2)] [(.ref b31)])
  exact gRetP X hx hlk hret rfl (Or.inr (Or.inr (Or.inr (Or.inr ⟨rfl, rfl, rfl⟩)))) (hb hby own_d15_58) eT (by decide) (by decide) ⟨b31, t36, rfl, N, K0, sz_b31, sz_t36, Str37⟩
set_option maxRecDepth 65536 in
set_option maxHeartbeats 40000000 in
theorem rm_sub1 (l : Launch) (Z : State) (a0 : Array Value) (hw : ∀ d ∈ tables_1, d.before a0 Z = true) (q : Int32) (c : Int32) (G1 : Int32) (h0 : Heap) (n0 : Nat) (Z0 : n0 ≤ h0.size) (P0_Old : Old Z n0 h0) (O2 : Sta Z Z.heap "java/lang/String" "COMPACT_STRINGS" "Z" (.int G1)) (P5 : ¬ G1 = (0 : Int32)) (hq : ¬ q < 0) (hc : ¬ c < 0 ∧ ¬ (255 : Int32) < c) :
    CtP l (⟨"com/example/fasten/fasten/sql/DialectOfPinLaw", "substituted", "(IIC)Ljava/lang/String;"⟩ : MethodName) method_4_code 4 (some (.object "java/lang/String")) [] ({ frames := 4, cells := 3, slots := 14, locals := 66 } : Room) Z #[(.int (1 : Int32)), (.int q), (.int c)] h0 (fun v h L => ∃ (x : Addr), ∃ (t : Addr), v = some (.ref x) ∧ Fr n0 L ∧ Keep h0 h [] ∧ h0.size ≤ x ∧ h0.size ≤ t ∧ Str Z h x t (([77, 121, 83, 81, 76] : List Int32).set q.toNatClampNeg c)) := by
  refine CtP.walk (Ls := #[.val (.int (1 : Int32)), .val (.int q), .val (.int c), .unset]) (plainFor_of_name own_pn0) (fun m => by first | (simp [entryFrame, mkF, argsToLocals, Value.category]; done) | rfl) ?_
  intro p e s m below meth cc_ T hx hby hml hown hnm hret hlk hZ X eT
  have N := Fr.nil n0
  have K0 := Keep.refl h0 []
  have sz_h : h0.size ≤ h0.size := Nat.le_refl _
  refine giloadN (v := (1 : Int32)) X hx 1 (hb hby own_d6_0) rfl rfl ?_
  refine gifYes X hx 64 (hb hby own_d6_1) (by decide) (by decide) (by decide) ?_
  refine giloadN (v := (1 : Int32)) X hx 65 (hb hby own_d6_64) rfl rfl ?_
  refine giconst X hx (1 : Int32) 66 (hb hby own_d6_65) rfl rfl ?_
  refine gicmpNo X hx 69 (hb hby own_d6_66) rfl (by decide) ?_
  refine giconst X hx (5 : Int32) 70 (hb hby own_d6_69) rfl rfl ?_
  refine gnewP (aty := .char) X hx hZ (own_w45 hw) eT (n := (5 : Int32)) (by decide) 5 (by decide) (by decide) 1 5 rfl rfl (by decide) (by decide) 72 (hb hby own_d6_70) rfl ?_
  clear X eT; clear T; intro T h1 b2 kc5 X eT ga E3 V4
  have le_a := Nat.le_of_eq ga.symm
  have sz_b2 : h0.size ≤ b2 := Nat.le_trans sz_h le_a
  have ge_b2 : n0 ≤ b2 := Nat.le_trans Z0 sz_b2
  clear le_a ga
  replace P0_Old := P0_Old.ext E3
  replace K0 := K0.ext E3
  replace sz_h : h0.size ≤ h1.size := Nat.le_trans sz_h E3.1
  replace V4 : Arv Z h1 b2 kc5 .char (5 : Int32) [(.int (0 : Int32)), (.int (0 : Int32)), (.int (0 : Int32)), (.int (0 : Int32)), (.int (0 : Int32))] (.int 0) := V4.pad (pad_rep [] _ 5)
  refine gdup X hx 73 (hb hby own_d6_72) rfl rfl ?_
  refine giconst X hx (0 : Int32) 74 (hb hby own_d6_73) rfl rfl ?_
  refine gbipush X hx (77 : Int32) 76 (hb hby own_d6_74) rfl rfl ?_
  refine gcastore X hx hZ eT V4 (by decide) (by decide) 0 rfl (Nat.le_of_ble_eq_true rfl) N ge_b2 77 (hb hby own_d6_76) rfl ?_
  clear X eT N; clear T; intro T h7 L X eT N W6 V8
  replace P0_Old := P0_Old.wr W6 ge_b2
  replace K0 := K0.wr W6 (Or.inr sz_b2)
  replace sz_h : h0.size ≤ h7.size := by rw [Wr.size W6]; exact sz_h
  replace V8 : Arv Z h7 b2 kc5 .char (5 : Int32) [(.int (77 : Int32)), (.int (0 : Int32)), (.int (0 : Int32)), (.int (0 : Int32)), (.int (0 : Int32))] (.int 0) := V8
  refine gdup X hx 78 (hb hby own_d6_77) rfl rfl ?_
  refine giconst X hx (1 : Int32) 79 (hb hby own_d6_78) rfl rfl ?_
  refine gbipush X hx (121 : Int32) 81 (hb hby own_d6_79) rfl rfl ?_
  refine gcastore X hx hZ eT V8 (by decide) (by decide) 1 rfl (Nat.le_of_ble_eq_true rfl) N ge_b2 82 (hb hby own_d6_81) rfl ?_
  clear X eT N; clear T; intro T h10 L X eT N W9 V11
  replace P0_Old := P0_Old.wr W9 ge_b2
  replace K0 := K0.wr W9 (Or.inr sz_b2)
  replace sz_h : h0.size ≤ h10.size := by rw [Wr.size W9]; exact sz_h
  replace V11 : Arv Z h10 b2 kc5 .char (5 : Int32) [(.int (77 : Int32)), (.int (121 : Int32)), (.int (0 : Int32)), (.int (0 : Int32)), (.int (0 : Int32))] (.int 0) := V11
  refine gdup X hx 83 (hb hby own_d6_82) rfl rfl ?_
  refine giconst X hx (2 : Int32) 84 (hb hby own_d6_83) rfl rfl ?_
  refine gbipush X hx (83 : Int32) 86 (hb hby own_d6_84) rfl rfl ?_
  refine gcastore X hx hZ eT V11 (by decide) (by decide) 2 rfl (Nat.le_of_ble_eq_true rfl) N ge_b2 87 (hb hby own_d6_86) rfl ?_
  clear X eT N; clear T; intro T h13 L X eT N W12 V14
  replace P0_Old := P0_Old.wr W12 ge_b2
  replace K0 := K0.wr W12 (Or.inr sz_b2)
  replace sz_h : h0.size ≤ h13.size := by rw [Wr.size W12]; exact sz_h
  replace V14 : Arv Z h13 b2 kc5 .char (5 : Int32) [(.int (77 : Int32)), (.int (121 : Int32)), (.int (83 : Int32)), (.int (0 : Int32)), (.int (0 : Int32))] (.int 0) := V14
  refine gdup X hx 88 (hb hby own_d6_87) rfl rfl ?_
  refine giconst X hx (3 : Int32) 89 (hb hby own_d6_88) rfl rfl ?_
  refine gbipush X hx (81 : Int32) 91 (hb hby own_d6_89) rfl rfl ?_
  refine gcastore X hx hZ eT V14 (by decide) (by decide) 3 rfl (Nat.le_of_ble_eq_true rfl) N ge_b2 92 (hb hby own_d6_91) rfl ?_
  clear X eT N; clear T; intro T h16 L X eT N W15 V17
  replace P0_Old := P0_Old.wr W15 ge_b2
  replace K0 := K0.wr W15 (Or.inr sz_b2)
  replace sz_h : h0.size ≤ h16.size := by rw [Wr.size W15]; exact sz_h
  replace V17 : Arv Z h16 b2 kc5 .char (5 : Int32) [(.int (77 : Int32)), (.int (121 : Int32)), (.int (83 : Int32)), (.int (81 : Int32)), (.int (0 : Int32))] (.int 0) := V17
  refine gdup X hx 93 (hb hby own_d6_92) rfl rfl ?_
  refine giconst X hx (4 : Int32) 94 (hb hby own_d6_93) rfl rfl ?_
  refine gbipush X hx (76 : Int32) 96 (hb hby own_d6_94) rfl rfl ?_
  refine gcastore X hx hZ eT V17 (by decide) (by decide) 4 rfl (Nat.le_of_ble_eq_true rfl) N ge_b2 97 (hb hby own_d6_96) rfl ?_
  clear X eT N; clear T; intro T h19 L X eT N W18 V20
  replace P0_Old := P0_Old.wr W18 ge_b2
  replace K0 := K0.wr W18 (Or.inr sz_b2)
  replace sz_h : h0.size ≤ h19.size := by rw [Wr.size W18]; exact sz_h
  replace V20 : Arv Z h19 b2 kc5 .char (5 : Int32) [(.int (77 : Int32)), (.int (121 : Int32)), (.int (83 : Int32)), (.int (81 : Int32)), (.int (76 : Int32))] (.int 0) := V20
  refine gastoreN X hx #[.val (.int (1 : Int32)), .val (.int q), .val (.int c), .val (.ref b2)] 98 (hb hby own_d6_97) rfl rfl rfl ?_
  refine giloadN (v := q) X hx 99 (hb hby own_d6_98) rfl rfl ?_
  refine giconst X hx (5 : Int32) 100 (hb hby own_d6_99) rfl rfl ?_
  rcases Decidable.em (q < (5 : Int32)) with hs100 | hs100
  · refine gicmpNo X hx 103 (hb hby own_d6_100) rfl (tlt hs100).2.1 ?_
    refine galoadN (v := (.ref b2)) X hx 104 (hb hby own_d6_103) rfl rfl rfl ?_
    refine giloadN (v := q) X hx 105 (hb hby own_d6_104) rfl rfl ?_
    refine giloadN (v := c) X hx 106 (hb hby own_d6_105) rfl rfl ?_
    refine gcastore X hx hZ eT V20 hq hs100 q.toNatClampNeg rfl (own_nat hq (by decide) hs100) N ge_b2 107 (hb hby own_d6_106) rfl ?_
    clear X eT N; clear T; intro T h22 L X eT N W21 V23
    replace P0_Old := P0_Old.wr W21 ge_b2
    replace K0 := K0.wr W21 (Or.inr sz_b2)
    replace sz_h : h0.size ≤ h22.size := by rw [Wr.size W21]; exact sz_h
    rw [own_narc hc] at V23
    refine gnewO X hx hZ hown (own_w46 hw) (own_w7 hw) (own_w6 hw) eT 2 9 rfl rfl (by decide) (by decide) 110 (hb hby own_d6_107) rfl ?_
    clear X eT; clear T; intro T h24 b25 X eT ga E26 A27 D28
    have le_a := Nat.le_of_eq ga.symm
    have ne_b2_b25 : b2 ≠ b25 := Nat.ne_of_lt (Nat.lt_of_lt_of_le V23.lt le_a)
    have ne_b25_b2 : b25 ≠ b2 := Ne.symm ne_b2_b25
    have sz_b25 : h0.size ≤ b25 := Nat.le_trans sz_h le_a
    have ge_b25 : n0 ≤ b25 := Nat.le_trans Z0 sz_b25
    clear le_a ga
    replace P0_Old := P0_Old.ext E26
    replace V23 := V23.ext E26
    replace K0 := K0.ext E26
    replace sz_h : h0.size ≤ h24.size := Nat.le_trans sz_h E26.1
    have F_value_b25 : Fld Z h24 b25 "java/lang/String" "value" "[B" .null := D28 (Or.inr (own_w9 hw)) (ty := (.array .byte)) own_pf0
    have F_coder_b25 : Fld Z h24 b25 "java/lang/String" "coder" "B" (.int (0 : Int32)) := D28 (Or.inr (own_w10 hw)) (ty := .byte) own_pf1
    clear D28
    refine gdup X hx 111 (hb hby own_d6_110) rfl rfl ?_
    refine galoadN (v := (.ref b2)) X hx 112 (hb hby own_d6_111) rfl rfl rfl ?_
    refine gspecial (y := (⟨"java/lang/String", "<init>", "([C)V"⟩ : MethodName)) (a := b25) (argsL := [(.ref b2)]) (st := [(.ref b25)]) X hx hZ hown rfl (own_w47 hw) (own_w48 hw) (own_w49 hw) (by decide) (payNew (W := 1) (cs := (([77, 121, 83, 81, 76] : List Int32).set q.toNatClampNeg c)) (n := 5) (n0 := n0) hZ hw ge_b25 (Nat.le_trans Z0 sz_h) A27 F_value_b25 F_coder_b25 V23 (own_mapset ([77, 121, 83, 81, 76] : List Int32) _ _) (O2.ext P0_Old.2) P5 (by rw [List.length_set]; rfl) rfl (by decide) (by decide) (own_setr (by decide) hc) (by decide) (by decide)) eT (by rw [hml]; rfl) (lenOf own_pd0 rfl) rfl (Nat.le_of_eq rfl) 3 14 rfl rfl (by decide) (by decide) 115 (hb hby own_d6_112) rfl ?_
    clear X eT; clear T; intro v T h32 L2 Lc X eT hL hQ33
    obtain ⟨rfl, Nq, K29, t30, zz_t30, Str31⟩ := hQ33
    replace N : Fr n0 L2 := by rw [hL]; exact Fr.app N Nq
    clear Nq hL
    have ne_b2_t30 : b2 ≠ t30 := Nat.ne_of_lt (Nat.lt_of_lt_of_le V23.lt zz_t30)
    have ne_t30_b2 : t30 ≠ b2 := Ne.symm ne_b2_t30
    have ne_b25_t30 : b25 ≠ t30 := Nat.ne_of_lt (Nat.lt_of_lt_of_le A27.lt zz_t30)
    have ne_t30_b25 : t30 ≠ b25 := Ne.symm ne_b25_t30
    have sz_t30 : h0.size ≤ t30 := Nat.le_trans sz_h zz_t30
    have ge_t30 : n0 ≤ t30 := Nat.le_trans Z0 sz_t30
    replace P0_Old := P0_Old.keep K29 (allS ge_b25 all0)
    replace V23 := V23.keep K29 (ninS ne_b2_b25 nin0)
    replace K0 := K0.trans K29 (allS (Or.inr sz_b25) all0)
    replace sz_h : h0.size ≤ h32.size := Nat.le_trans sz_h K29.1
    show Go p e below _ T (mkF m 115 #[.val (.int (1 : Int32)), .val (.int q), .val (.int c), .val (.ref b2)] [(.ref b25)])
    exact gRetP X hx hlk hret rfl (Or.inr (Or.inr (Or.inr (Or.inr ⟨rfl, rfl, rfl⟩)))) (hb hby own_d6_115) eT (by decide) (by decide) ⟨b25, t30, rfl, N, K0, sz_b25, sz_t30, Str31⟩
  · refine gicmpYes X hx 107 (hb hby own_d6_100) (flt hs100).2.1 (by decide) (by decide) ?_
    refine gnewO X hx hZ hown (own_w46 hw) (own_w7 hw) (own_w6 hw) eT 2 9 rfl rfl (by decide) (by decide) 110 (hb hby own_d6_107) rfl ?_
    clear X eT; clear T; intro T h34 b35 X eT ga E36 A37 D38
    have le_a := Nat.le_of_eq ga.symm
    have ne_b2_b35 : b2 ≠ b35 := Nat.ne_of_lt (Nat.lt_of_lt_of_le V20.lt le_a)
    have ne_b35_b2 : b35 ≠ b2 := Ne.symm ne_b2_b35
    have sz_b35 : h0.size ≤ b35 := Nat.le_trans sz_h le_a
    have ge_b35 : n0 ≤ b35 := Nat.le_trans Z0 sz_b35
    clear le_a ga
    replace P0_Old := P0_Old.ext E36
    replace V20 := V20.ext E36
    replace K0 := K0.ext E36
    replace sz_h : h0.size ≤ h34.size := Nat.le_trans sz_h E36.1
    have F_value_b35 : Fld Z h34 b35 "java/lang/String" "value" "[B" .null := D38 (Or.inr (own_w9 hw)) (ty := (.array .byte)) own_pf0
    have F_coder_b35 : Fld Z h34 b35 "java/lang/String" "coder" "B" (.int (0 : Int32)) := D38 (Or.inr (own_w10 hw)) (ty := .byte) own_pf1
    clear D38
    refine gdup X hx 111 (hb hby own_d6_110) rfl rfl ?_
    refine galoadN (v := (.ref b2)) X hx 112 (hb hby own_d6_111) rfl rfl rfl ?_
    refine gspecial (y := (⟨"java/lang/String", "<init>", "([C)V"⟩ : MethodName)) (a := b35) (argsL := [(.ref b2)]) (st := [(.ref b35)]) X hx hZ hown rfl (own_w47 hw) (own_w48 hw) (own_w49 hw) (by decide) (payNew (W := 1) (cs := ([77, 121, 83, 81, 76] : List Int32)) (n := 5) (n0 := n0) hZ hw ge_b35 (Nat.le_trans Z0 sz_h) A37 F_value_b35 F_coder_b35 V20 rfl (O2.ext P0_Old.2) P5 rfl rfl (by decide) (by decide) (by decide) (by decide) (by decide)) eT (by rw [hml]; rfl) (lenOf own_pd0 rfl) rfl (Nat.le_of_eq rfl) 3 14 rfl rfl (by decide) (by decide) 115 (hb hby own_d6_112) rfl ?_
    clear X eT; clear T; intro v T h42 L2 Lc X eT hL hQ43
    obtain ⟨rfl, Nq, K39, t40, zz_t40, Str41⟩ := hQ43
    replace N : Fr n0 L2 := by rw [hL]; exact Fr.app N Nq
    clear Nq hL
    have ne_b2_t40 : b2 ≠ t40 := Nat.ne_of_lt (Nat.lt_of_lt_of_le V20.lt zz_t40)
    have ne_t40_b2 : t40 ≠ b2 := Ne.symm ne_b2_t40
    have ne_b35_t40 : b35 ≠ t40 := Nat.ne_of_lt (Nat.lt_of_lt_of_le A37.lt zz_t40)
    have ne_t40_b35 : t40 ≠ b35 := Ne.symm ne_b35_t40
    have sz_t40 : h0.size ≤ t40 := Nat.le_trans sz_h zz_t40
    have ge_t40 : n0 ≤ t40 := Nat.le_trans Z0 sz_t40
    replace P0_Old := P0_Old.keep K39 (allS ge_b35 all0)
    replace V20 := V20.keep K39 (ninS ne_b2_b35 nin0)
    replace K0 := K0.trans K39 (allS (Or.inr sz_b35) all0)
    replace sz_h : h0.size ≤ h42.size := Nat.le_trans sz_h K39.1
    show Go p e below _ T (mkF m 115 #[.val (.int (1 : Int32)), .val (.int q), .val (.int c), .val (.ref b2)] [(.ref b35)])
    rw [← own_setout (q := q) (c := c) (L := ([77, 121, 83, 81, 76] : List Int32)) hq (by decide) hs100] at Str41
    exact gRetP X hx hlk hret rfl (Or.inr (Or.inr (Or.inr (Or.inr ⟨rfl, rfl, rfl⟩)))) (hb hby own_d6_115) eT (by decide) (by decide) ⟨b35, t40, rfl, N, K0, sz_b35, sz_t40, Str41⟩
set_option maxRecDepth 65536 in
set_option maxHeartbeats 40000000 in
theorem rm_app1 (l : Launch) (Z : State) (a0 : Array Value) (hw : ∀ d ∈ tables_1, d.before a0 Z = true) (c : Int32) (G1 : Int32) (h0 : Heap) (n0 : Nat) (Z0 : n0 ≤ h0.size) (P0_Old : Old Z n0 h0) (O2 : Sta Z Z.heap "java/lang/String" "COMPACT_STRINGS" "Z" (.int G1)) (P5 : ¬ G1 = (0 : Int32)) (hc : ¬ c < 0 ∧ ¬ (255 : Int32) < c) :
    CtP l (⟨"com/example/fasten/fasten/sql/DialectOfPinLaw", "appended", "(IC)Ljava/lang/String;"⟩ : MethodName) method_5_code 3 (some (.object "java/lang/String")) [] ({ frames := 4, cells := 3, slots := 16, locals := 66 } : Room) Z #[(.int (1 : Int32)), (.int c)] h0 (fun v h L => ∃ (x : Addr), ∃ (t : Addr), v = some (.ref x) ∧ Fr n0 L ∧ Keep h0 h [] ∧ h0.size ≤ x ∧ h0.size ≤ t ∧ Str Z h x t ([77, 121, 83, 81, 76, c] : List Int32)) := by
  refine CtP.walk (Ls := #[.val (.int (1 : Int32)), .val (.int c), .unset]) (plainFor_of_name own_pn0) (fun m => by first | (simp [entryFrame, mkF, argsToLocals, Value.category]; done) | rfl) ?_
  intro p e s m below meth cc_ T hx hby hml hown hnm hret hlk hZ X eT
  have N := Fr.nil n0
  have K0 := Keep.refl h0 []
  have sz_h : h0.size ≤ h0.size := Nat.le_refl _
  refine giloadN (v := (1 : Int32)) X hx 1 (hb hby own_d15_0) rfl rfl ?_
  refine gifYes X hx 59 (hb hby own_d15_1) (by decide) (by decide) (by decide) ?_
  refine giloadN (v := (1 : Int32)) X hx 60 (hb hby own_d15_59) rfl rfl ?_
  refine giconst X hx (1 : Int32) 61 (hb hby own_d15_60) rfl rfl ?_
  refine gicmpNo X hx 64 (hb hby own_d15_61) rfl (by decide) ?_
  refine gbipush X hx (6 : Int32) 66 (hb hby own_d15_64) rfl rfl ?_
  refine gnewP (aty := .char) X hx hZ (own_w45 hw) eT (n := (6 : Int32)) (by decide) 6 (by decide) (by decide) 1 6 rfl rfl (by decide) (by decide) 68 (hb hby own_d15_66) rfl ?_
  clear X eT; clear T; intro T h1 b2 kc5 X eT ga E3 V4
  have le_a := Nat.le_of_eq ga.symm
  have sz_b2 : h0.size ≤ b2 := Nat.le_trans sz_h le_a
  have ge_b2 : n0 ≤ b2 := Nat.le_trans Z0 sz_b2
  clear le_a ga
  replace P0_Old := P0_Old.ext E3
  replace K0 := K0.ext E3
  replace sz_h : h0.size ≤ h1.size := Nat.le_trans sz_h E3.1
  replace V4 : Arv Z h1 b2 kc5 .char (6 : Int32) [(.int (0 : Int32)), (.int (0 : Int32)), (.int (0 : Int32)), (.int (0 : Int32)), (.int (0 : Int32)), (.int (0 : Int32))] (.int 0) := V4.pad (pad_rep [] _ 6)
  refine gdup X hx 69 (hb hby own_d15_68) rfl rfl ?_
  refine giconst X hx (0 : Int32) 70 (hb hby own_d15_69) rfl rfl ?_
  refine gbipush X hx (77 : Int32) 72 (hb hby own_d15_70) rfl rfl ?_
  refine gcastore X hx hZ eT V4 (by decide) (by decide) 0 rfl (Nat.le_of_ble_eq_true rfl) N ge_b2 73 (hb hby own_d15_72) rfl ?_
  clear X eT N; clear T; intro T h7 L X eT N W6 V8
  replace P0_Old := P0_Old.wr W6 ge_b2
  replace K0 := K0.wr W6 (Or.inr sz_b2)
  replace sz_h : h0.size ≤ h7.size := by rw [Wr.size W6]; exact sz_h
  replace V8 : Arv Z h7 b2 kc5 .char (6 : Int32) [(.int (77 : Int32)), (.int (0 : Int32)), (.int (0 : Int32)), (.int (0 : Int32)), (.int (0 : Int32)), (.int (0 : Int32))] (.int 0) := V8
  refine gdup X hx 74 (hb hby own_d15_73) rfl rfl ?_
  refine giconst X hx (1 : Int32) 75 (hb hby own_d15_74) rfl rfl ?_
  refine gbipush X hx (121 : Int32) 77 (hb hby own_d15_75) rfl rfl ?_
  refine gcastore X hx hZ eT V8 (by decide) (by decide) 1 rfl (Nat.le_of_ble_eq_true rfl) N ge_b2 78 (hb hby own_d15_77) rfl ?_
  clear X eT N; clear T; intro T h10 L X eT N W9 V11
  replace P0_Old := P0_Old.wr W9 ge_b2
  replace K0 := K0.wr W9 (Or.inr sz_b2)
  replace sz_h : h0.size ≤ h10.size := by rw [Wr.size W9]; exact sz_h
  replace V11 : Arv Z h10 b2 kc5 .char (6 : Int32) [(.int (77 : Int32)), (.int (121 : Int32)), (.int (0 : Int32)), (.int (0 : Int32)), (.int (0 : Int32)), (.int (0 : Int32))] (.int 0) := V11
  refine gdup X hx 79 (hb hby own_d15_78) rfl rfl ?_
  refine giconst X hx (2 : Int32) 80 (hb hby own_d15_79) rfl rfl ?_
  refine gbipush X hx (83 : Int32) 82 (hb hby own_d15_80) rfl rfl ?_
  refine gcastore X hx hZ eT V11 (by decide) (by decide) 2 rfl (Nat.le_of_ble_eq_true rfl) N ge_b2 83 (hb hby own_d15_82) rfl ?_
  clear X eT N; clear T; intro T h13 L X eT N W12 V14
  replace P0_Old := P0_Old.wr W12 ge_b2
  replace K0 := K0.wr W12 (Or.inr sz_b2)
  replace sz_h : h0.size ≤ h13.size := by rw [Wr.size W12]; exact sz_h
  replace V14 : Arv Z h13 b2 kc5 .char (6 : Int32) [(.int (77 : Int32)), (.int (121 : Int32)), (.int (83 : Int32)), (.int (0 : Int32)), (.int (0 : Int32)), (.int (0 : Int32))] (.int 0) := V14
  refine gdup X hx 84 (hb hby own_d15_83) rfl rfl ?_
  refine giconst X hx (3 : Int32) 85 (hb hby own_d15_84) rfl rfl ?_
  refine gbipush X hx (81 : Int32) 87 (hb hby own_d15_85) rfl rfl ?_
  refine gcastore X hx hZ eT V14 (by decide) (by decide) 3 rfl (Nat.le_of_ble_eq_true rfl) N ge_b2 88 (hb hby own_d15_87) rfl ?_
  clear X eT N; clear T; intro T h16 L X eT N W15 V17
  replace P0_Old := P0_Old.wr W15 ge_b2
  replace K0 := K0.wr W15 (Or.inr sz_b2)
  replace sz_h : h0.size ≤ h16.size := by rw [Wr.size W15]; exact sz_h
  replace V17 : Arv Z h16 b2 kc5 .char (6 : Int32) [(.int (77 : Int32)), (.int (121 : Int32)), (.int (83 : Int32)), (.int (81 : Int32)), (.int (0 : Int32)), (.int (0 : Int32))] (.int 0) := V17
  refine gdup X hx 89 (hb hby own_d15_88) rfl rfl ?_
  refine giconst X hx (4 : Int32) 90 (hb hby own_d15_89) rfl rfl ?_
  refine gbipush X hx (76 : Int32) 92 (hb hby own_d15_90) rfl rfl ?_
  refine gcastore X hx hZ eT V17 (by decide) (by decide) 4 rfl (Nat.le_of_ble_eq_true rfl) N ge_b2 93 (hb hby own_d15_92) rfl ?_
  clear X eT N; clear T; intro T h19 L X eT N W18 V20
  replace P0_Old := P0_Old.wr W18 ge_b2
  replace K0 := K0.wr W18 (Or.inr sz_b2)
  replace sz_h : h0.size ≤ h19.size := by rw [Wr.size W18]; exact sz_h
  replace V20 : Arv Z h19 b2 kc5 .char (6 : Int32) [(.int (77 : Int32)), (.int (121 : Int32)), (.int (83 : Int32)), (.int (81 : Int32)), (.int (76 : Int32)), (.int (0 : Int32))] (.int 0) := V20
  refine gdup X hx 94 (hb hby own_d15_93) rfl rfl ?_
  refine giconst X hx (5 : Int32) 95 (hb hby own_d15_94) rfl rfl ?_
  refine giloadN (v := c) X hx 96 (hb hby own_d15_95) rfl rfl ?_
  refine gcastore X hx hZ eT V20 (by decide) (by decide) 5 rfl (Nat.le_of_ble_eq_true rfl) N ge_b2 97 (hb hby own_d15_96) rfl ?_
  clear X eT N; clear T; intro T h22 L X eT N W21 V23
  replace P0_Old := P0_Old.wr W21 ge_b2
  replace K0 := K0.wr W21 (Or.inr sz_b2)
  replace sz_h : h0.size ≤ h22.size := by rw [Wr.size W21]; exact sz_h
  replace V23 : Arv Z h22 b2 kc5 .char (6 : Int32) [(.int (77 : Int32)), (.int (121 : Int32)), (.int (83 : Int32)), (.int (81 : Int32)), (.int (76 : Int32)), (.int c)] (.int 0) := by have z := V23; rw [own_narc hc] at z; exact z
  refine gastoreN X hx #[.val (.int (1 : Int32)), .val (.int c), .val (.ref b2)] 98 (hb hby own_d15_97) rfl rfl rfl ?_
  refine gnewO X hx hZ hown (own_w46 hw) (own_w7 hw) (own_w6 hw) eT 2 10 rfl rfl (by decide) (by decide) 101 (hb hby own_d15_98) rfl ?_
  clear X eT; clear T; intro T h24 b25 X eT ga E26 A27 D28
  have le_a := Nat.le_of_eq ga.symm
  have ne_b2_b25 : b2 ≠ b25 := Nat.ne_of_lt (Nat.lt_of_lt_of_le V23.lt le_a)
  have ne_b25_b2 : b25 ≠ b2 := Ne.symm ne_b2_b25
  have sz_b25 : h0.size ≤ b25 := Nat.le_trans sz_h le_a
  have ge_b25 : n0 ≤ b25 := Nat.le_trans Z0 sz_b25
  clear le_a ga
  replace P0_Old := P0_Old.ext E26
  replace V23 := V23.ext E26
  replace K0 := K0.ext E26
  replace sz_h : h0.size ≤ h24.size := Nat.le_trans sz_h E26.1
  have F_value_b25 : Fld Z h24 b25 "java/lang/String" "value" "[B" .null := D28 (Or.inr (own_w9 hw)) (ty := (.array .byte)) own_pf0
  have F_coder_b25 : Fld Z h24 b25 "java/lang/String" "coder" "B" (.int (0 : Int32)) := D28 (Or.inr (own_w10 hw)) (ty := .byte) own_pf1
  clear D28
  refine gdup X hx 102 (hb hby own_d15_101) rfl rfl ?_
  refine galoadN (v := (.ref b2)) X hx 103 (hb hby own_d15_102) rfl rfl rfl ?_
  refine gspecial (y := (⟨"java/lang/String", "<init>", "([C)V"⟩ : MethodName)) (a := b25) (argsL := [(.ref b2)]) (st := [(.ref b25)]) X hx hZ hown rfl (own_w47 hw) (own_w48 hw) (own_w49 hw) (by decide) (payNew (W := 1) (cs := ([77, 121, 83, 81, 76, c] : List Int32)) (n := 6) (n0 := n0) hZ hw ge_b25 (Nat.le_trans Z0 sz_h) A27 F_value_b25 F_coder_b25 V23 rfl (O2.ext P0_Old.2) P5 rfl rfl (by decide) (by decide) (own_cS (by decide) (own_cS (by decide) (own_cS (by decide) (own_cS (by decide) (own_cS (by decide) (own_cS hc own_c0)))))) (by decide) (by decide)) eT (by rw [hml]; rfl) (lenOf own_pd0 rfl) rfl (Nat.le_of_eq rfl) 3 16 rfl rfl (by decide) (by decide) 106 (hb hby own_d15_103) rfl ?_
  clear X eT; clear T; intro v T h32 L2 Lc X eT hL hQ33
  obtain ⟨rfl, Nq, K29, t30, zz_t30, Str31⟩ := hQ33
  replace N : Fr n0 L2 := by rw [hL]; exact Fr.app N Nq
  clear Nq hL
  have ne_b2_t30 : b2 ≠ t30 := Nat.ne_of_lt (Nat.lt_of_lt_of_le V23.lt zz_t30)
  have ne_t30_b2 : t30 ≠ b2 := Ne.symm ne_b2_t30
  have ne_b25_t30 : b25 ≠ t30 := Nat.ne_of_lt (Nat.lt_of_lt_of_le A27.lt zz_t30)
  have ne_t30_b25 : t30 ≠ b25 := Ne.symm ne_b25_t30
  have sz_t30 : h0.size ≤ t30 := Nat.le_trans sz_h zz_t30
  have ge_t30 : n0 ≤ t30 := Nat.le_trans Z0 sz_t30
  replace P0_Old := P0_Old.keep K29 (allS ge_b25 all0)
  replace V23 := V23.keep K29 (ninS ne_b2_b25 nin0)
  replace K0 := K0.trans K29 (allS (Or.inr sz_b25) all0)
  replace sz_h : h0.size ≤ h32.size := Nat.le_trans sz_h K29.1
  show Go p e below _ T (mkF m 106 #[.val (.int (1 : Int32)), .val (.int c), .val (.ref b2)] [(.ref b25)])
  exact gRetP X hx hlk hret rfl (Or.inr (Or.inr (Or.inr (Or.inr ⟨rfl, rfl, rfl⟩)))) (hb hby own_d15_106) eT (by decide) (by decide) ⟨b25, t30, rfl, N, K0, sz_b25, sz_t30, Str31⟩
set_option maxRecDepth 65536 in
set_option maxHeartbeats 40000000 in
theorem rm_sub2 (l : Launch) (Z : State) (a0 : Array Value) (hw : ∀ d ∈ tables_1, d.before a0 Z = true) (q : Int32) (c : Int32) (G1 : Int32) (h0 : Heap) (n0 : Nat) (Z0 : n0 ≤ h0.size) (P0_Old : Old Z n0 h0) (O2 : Sta Z Z.heap "java/lang/String" "COMPACT_STRINGS" "Z" (.int G1)) (P5 : ¬ G1 = (0 : Int32)) (hq : ¬ q < 0) (hc : ¬ c < 0 ∧ ¬ (255 : Int32) < c) :
    CtP l (⟨"com/example/fasten/fasten/sql/DialectOfPinLaw", "substituted", "(IIC)Ljava/lang/String;"⟩ : MethodName) method_4_code 4 (some (.object "java/lang/String")) [] ({ frames := 4, cells := 3, slots := 24, locals := 66 } : Room) Z #[(.int (2 : Int32)), (.int q), (.int c)] h0 (fun v h L => ∃ (x : Addr), ∃ (t : Addr), v = some (.ref x) ∧ Fr n0 L ∧ Keep h0 h [] ∧ h0.size ≤ x ∧ h0.size ≤ t ∧ Str Z h x t (([80, 111, 115, 116, 103, 114, 101, 83, 81, 76] : List Int32).set q.toNatClampNeg c)) := by
  refine CtP.walk (Ls := #[.val (.int (2 : Int32)), .val (.int q), .val (.int c), .unset]) (plainFor_of_name own_pn0) (fun m => by first | (simp [entryFrame, mkF, argsToLocals, Value.category]; done) | rfl) ?_
  intro p e s m below meth cc_ T hx hby hml hown hnm hret hlk hZ X eT
  have N := Fr.nil n0
  have K0 := Keep.refl h0 []
  have sz_h : h0.size ≤ h0.size := Nat.le_refl _
  refine giloadN (v := (2 : Int32)) X hx 1 (hb hby own_d6_0) rfl rfl ?_
  refine gifYes X hx 64 (hb hby own_d6_1) (by decide) (by decide) (by decide) ?_
  refine giloadN (v := (2 : Int32)) X hx 65 (hb hby own_d6_64) rfl rfl ?_
  refine giconst X hx (1 : Int32) 66 (hb hby own_d6_65) rfl rfl ?_
  refine gicmpYes X hx 116 (hb hby own_d6_66) (by decide) (by decide) (by decide) ?_
  refine gbipush X hx (10 : Int32) 118 (hb hby own_d6_116) rfl rfl ?_
  refine gnewP (aty := .char) X hx hZ (own_w45 hw) eT (n := (10 : Int32)) (by decide) 10 (by decide) (by decide) 1 10 rfl rfl (by decide) (by decide) 120 (hb hby own_d6_118) rfl ?_
  clear X eT; clear T; intro T h1 b2 kc5 X eT ga E3 V4
  have le_a := Nat.le_of_eq ga.symm
  have sz_b2 : h0.size ≤ b2 := Nat.le_trans sz_h le_a
  have ge_b2 : n0 ≤ b2 := Nat.le_trans Z0 sz_b2
  clear le_a ga
  replace P0_Old := P0_Old.ext E3
  replace K0 := K0.ext E3
  replace sz_h : h0.size ≤ h1.size := Nat.le_trans sz_h E3.1
  replace V4 : Arv Z h1 b2 kc5 .char (10 : Int32) [(.int (0 : Int32)), (.int (0 : Int32)), (.int (0 : Int32)), (.int (0 : Int32)), (.int (0 : Int32)), (.int (0 : Int32)), (.int (0 : Int32)), (.int (0 : Int32)), (.int (0 : Int32)), (.int (0 : Int32))] (.int 0) := V4.pad (pad_rep [] _ 10)
  refine gdup X hx 121 (hb hby own_d6_120) rfl rfl ?_
  refine giconst X hx (0 : Int32) 122 (hb hby own_d6_121) rfl rfl ?_
  refine gbipush X hx (80 : Int32) 124 (hb hby own_d6_122) rfl rfl ?_
  refine gcastore X hx hZ eT V4 (by decide) (by decide) 0 rfl (Nat.le_of_ble_eq_true rfl) N ge_b2 125 (hb hby own_d6_124) rfl ?_
  clear X eT N; clear T; intro T h7 L X eT N W6 V8
  replace P0_Old := P0_Old.wr W6 ge_b2
  replace K0 := K0.wr W6 (Or.inr sz_b2)
  replace sz_h : h0.size ≤ h7.size := by rw [Wr.size W6]; exact sz_h
  replace V8 : Arv Z h7 b2 kc5 .char (10 : Int32) [(.int (80 : Int32)), (.int (0 : Int32)), (.int (0 : Int32)), (.int (0 : Int32)), (.int (0 : Int32)), (.int (0 : Int32)), (.int (0 : Int32)), (.int (0 : Int32)), (.int (0 : Int32)), (.int (0 : Int32))] (.int 0) := V8
  refine gdup X hx 126 (hb hby own_d6_125) rfl rfl ?_
  refine giconst X hx (1 : Int32) 127 (hb hby own_d6_126) rfl rfl ?_
  refine gbipush X hx (111 : Int32) 129 (hb hby own_d6_127) rfl rfl ?_
  refine gcastore X hx hZ eT V8 (by decide) (by decide) 1 rfl (Nat.le_of_ble_eq_true rfl) N ge_b2 130 (hb hby own_d6_129) rfl ?_
  clear X eT N; clear T; intro T h10 L X eT N W9 V11
  replace P0_Old := P0_Old.wr W9 ge_b2
  replace K0 := K0.wr W9 (Or.inr sz_b2)
  replace sz_h : h0.size ≤ h10.size := by rw [Wr.size W9]; exact sz_h
  replace V11 : Arv Z h10 b2 kc5 .char (10 : Int32) [(.int (80 : Int32)), (.int (111 : Int32)), (.int (0 : Int32)), (.int (0 : Int32)), (.int (0 : Int32)), (.int (0 : Int32)), (.int (0 : Int32)), (.int (0 : Int32)), (.int (0 : Int32)), (.int (0 : Int32))] (.int 0) := V11
  refine gdup X hx 131 (hb hby own_d6_130) rfl rfl ?_
  refine giconst X hx (2 : Int32) 132 (hb hby own_d6_131) rfl rfl ?_
  refine gbipush X hx (115 : Int32) 134 (hb hby own_d6_132) rfl rfl ?_
  refine gcastore X hx hZ eT V11 (by decide) (by decide) 2 rfl (Nat.le_of_ble_eq_true rfl) N ge_b2 135 (hb hby own_d6_134) rfl ?_
  clear X eT N; clear T; intro T h13 L X eT N W12 V14
  replace P0_Old := P0_Old.wr W12 ge_b2
  replace K0 := K0.wr W12 (Or.inr sz_b2)
  replace sz_h : h0.size ≤ h13.size := by rw [Wr.size W12]; exact sz_h
  replace V14 : Arv Z h13 b2 kc5 .char (10 : Int32) [(.int (80 : Int32)), (.int (111 : Int32)), (.int (115 : Int32)), (.int (0 : Int32)), (.int (0 : Int32)), (.int (0 : Int32)), (.int (0 : Int32)), (.int (0 : Int32)), (.int (0 : Int32)), (.int (0 : Int32))] (.int 0) := V14
  refine gdup X hx 136 (hb hby own_d6_135) rfl rfl ?_
  refine giconst X hx (3 : Int32) 137 (hb hby own_d6_136) rfl rfl ?_
  refine gbipush X hx (116 : Int32) 139 (hb hby own_d6_137) rfl rfl ?_
  refine gcastore X hx hZ eT V14 (by decide) (by decide) 3 rfl (Nat.le_of_ble_eq_true rfl) N ge_b2 140 (hb hby own_d6_139) rfl ?_
  clear X eT N; clear T; intro T h16 L X eT N W15 V17
  replace P0_Old := P0_Old.wr W15 ge_b2
  replace K0 := K0.wr W15 (Or.inr sz_b2)
  replace sz_h : h0.size ≤ h16.size := by rw [Wr.size W15]; exact sz_h
  replace V17 : Arv Z h16 b2 kc5 .char (10 : Int32) [(.int (80 : Int32)), (.int (111 : Int32)), (.int (115 : Int32)), (.int (116 : Int32)), (.int (0 : Int32)), (.int (0 : Int32)), (.int (0 : Int32)), (.int (0 : Int32)), (.int (0 : Int32)), (.int (0 : Int32))] (.int 0) := V17
  refine gdup X hx 141 (hb hby own_d6_140) rfl rfl ?_
  refine giconst X hx (4 : Int32) 142 (hb hby own_d6_141) rfl rfl ?_
  refine gbipush X hx (103 : Int32) 144 (hb hby own_d6_142) rfl rfl ?_
  refine gcastore X hx hZ eT V17 (by decide) (by decide) 4 rfl (Nat.le_of_ble_eq_true rfl) N ge_b2 145 (hb hby own_d6_144) rfl ?_
  clear X eT N; clear T; intro T h19 L X eT N W18 V20
  replace P0_Old := P0_Old.wr W18 ge_b2
  replace K0 := K0.wr W18 (Or.inr sz_b2)
  replace sz_h : h0.size ≤ h19.size := by rw [Wr.size W18]; exact sz_h
  replace V20 : Arv Z h19 b2 kc5 .char (10 : Int32) [(.int (80 : Int32)), (.int (111 : Int32)), (.int (115 : Int32)), (.int (116 : Int32)), (.int (103 : Int32)), (.int (0 : Int32)), (.int (0 : Int32)), (.int (0 : Int32)), (.int (0 : Int32)), (.int (0 : Int32))] (.int 0) := V20
  refine gdup X hx 146 (hb hby own_d6_145) rfl rfl ?_
  refine giconst X hx (5 : Int32) 147 (hb hby own_d6_146) rfl rfl ?_
  refine gbipush X hx (114 : Int32) 149 (hb hby own_d6_147) rfl rfl ?_
  refine gcastore X hx hZ eT V20 (by decide) (by decide) 5 rfl (Nat.le_of_ble_eq_true rfl) N ge_b2 150 (hb hby own_d6_149) rfl ?_
  clear X eT N; clear T; intro T h22 L X eT N W21 V23
  replace P0_Old := P0_Old.wr W21 ge_b2
  replace K0 := K0.wr W21 (Or.inr sz_b2)
  replace sz_h : h0.size ≤ h22.size := by rw [Wr.size W21]; exact sz_h
  replace V23 : Arv Z h22 b2 kc5 .char (10 : Int32) [(.int (80 : Int32)), (.int (111 : Int32)), (.int (115 : Int32)), (.int (116 : Int32)), (.int (103 : Int32)), (.int (114 : Int32)), (.int (0 : Int32)), (.int (0 : Int32)), (.int (0 : Int32)), (.int (0 : Int32))] (.int 0) := V23
  refine gdup X hx 151 (hb hby own_d6_150) rfl rfl ?_
  refine gbipush X hx (6 : Int32) 153 (hb hby own_d6_151) rfl rfl ?_
  refine gbipush X hx (101 : Int32) 155 (hb hby own_d6_153) rfl rfl ?_
  refine gcastore X hx hZ eT V23 (by decide) (by decide) 6 rfl (Nat.le_of_ble_eq_true rfl) N ge_b2 156 (hb hby own_d6_155) rfl ?_
  clear X eT N; clear T; intro T h25 L X eT N W24 V26
  replace P0_Old := P0_Old.wr W24 ge_b2
  replace K0 := K0.wr W24 (Or.inr sz_b2)
  replace sz_h : h0.size ≤ h25.size := by rw [Wr.size W24]; exact sz_h
  replace V26 : Arv Z h25 b2 kc5 .char (10 : Int32) [(.int (80 : Int32)), (.int (111 : Int32)), (.int (115 : Int32)), (.int (116 : Int32)), (.int (103 : Int32)), (.int (114 : Int32)), (.int (101 : Int32)), (.int (0 : Int32)), (.int (0 : Int32)), (.int (0 : Int32))] (.int 0) := V26
  refine gdup X hx 157 (hb hby own_d6_156) rfl rfl ?_
  refine gbipush X hx (7 : Int32) 159 (hb hby own_d6_157) rfl rfl ?_
  refine gbipush X hx (83 : Int32) 161 (hb hby own_d6_159) rfl rfl ?_
  refine gcastore X hx hZ eT V26 (by decide) (by decide) 7 rfl (Nat.le_of_ble_eq_true rfl) N ge_b2 162 (hb hby own_d6_161) rfl ?_
  clear X eT N; clear T; intro T h28 L X eT N W27 V29
  replace P0_Old := P0_Old.wr W27 ge_b2
  replace K0 := K0.wr W27 (Or.inr sz_b2)
  replace sz_h : h0.size ≤ h28.size := by rw [Wr.size W27]; exact sz_h
  replace V29 : Arv Z h28 b2 kc5 .char (10 : Int32) [(.int (80 : Int32)), (.int (111 : Int32)), (.int (115 : Int32)), (.int (116 : Int32)), (.int (103 : Int32)), (.int (114 : Int32)), (.int (101 : Int32)), (.int (83 : Int32)), (.int (0 : Int32)), (.int (0 : Int32))] (.int 0) := V29
  refine gdup X hx 163 (hb hby own_d6_162) rfl rfl ?_
  refine gbipush X hx (8 : Int32) 165 (hb hby own_d6_163) rfl rfl ?_
  refine gbipush X hx (81 : Int32) 167 (hb hby own_d6_165) rfl rfl ?_
  refine gcastore X hx hZ eT V29 (by decide) (by decide) 8 rfl (Nat.le_of_ble_eq_true rfl) N ge_b2 168 (hb hby own_d6_167) rfl ?_
  clear X eT N; clear T; intro T h31 L X eT N W30 V32
  replace P0_Old := P0_Old.wr W30 ge_b2
  replace K0 := K0.wr W30 (Or.inr sz_b2)
  replace sz_h : h0.size ≤ h31.size := by rw [Wr.size W30]; exact sz_h
  replace V32 : Arv Z h31 b2 kc5 .char (10 : Int32) [(.int (80 : Int32)), (.int (111 : Int32)), (.int (115 : Int32)), (.int (116 : Int32)), (.int (103 : Int32)), (.int (114 : Int32)), (.int (101 : Int32)), (.int (83 : Int32)), (.int (81 : Int32)), (.int (0 : Int32))] (.int 0) := V32
  refine gdup X hx 169 (hb hby own_d6_168) rfl rfl ?_
  refine gbipush X hx (9 : Int32) 171 (hb hby own_d6_169) rfl rfl ?_
  refine gbipush X hx (76 : Int32) 173 (hb hby own_d6_171) rfl rfl ?_
  refine gcastore X hx hZ eT V32 (by decide) (by decide) 9 rfl (Nat.le_of_ble_eq_true rfl) N ge_b2 174 (hb hby own_d6_173) rfl ?_
  clear X eT N; clear T; intro T h34 L X eT N W33 V35
  replace P0_Old := P0_Old.wr W33 ge_b2
  replace K0 := K0.wr W33 (Or.inr sz_b2)
  replace sz_h : h0.size ≤ h34.size := by rw [Wr.size W33]; exact sz_h
  replace V35 : Arv Z h34 b2 kc5 .char (10 : Int32) [(.int (80 : Int32)), (.int (111 : Int32)), (.int (115 : Int32)), (.int (116 : Int32)), (.int (103 : Int32)), (.int (114 : Int32)), (.int (101 : Int32)), (.int (83 : Int32)), (.int (81 : Int32)), (.int (76 : Int32))] (.int 0) := V35
  refine gastoreN X hx #[.val (.int (2 : Int32)), .val (.int q), .val (.int c), .val (.ref b2)] 175 (hb hby own_d6_174) rfl rfl rfl ?_
  refine giloadN (v := q) X hx 176 (hb hby own_d6_175) rfl rfl ?_
  refine gbipush X hx (10 : Int32) 178 (hb hby own_d6_176) rfl rfl ?_
  rcases Decidable.em (q < (10 : Int32)) with hs178 | hs178
  · refine gicmpNo X hx 181 (hb hby own_d6_178) rfl (tlt hs178).2.1 ?_
    refine galoadN (v := (.ref b2)) X hx 182 (hb hby own_d6_181) rfl rfl rfl ?_
    refine giloadN (v := q) X hx 183 (hb hby own_d6_182) rfl rfl ?_
    refine giloadN (v := c) X hx 184 (hb hby own_d6_183) rfl rfl ?_
    refine gcastore X hx hZ eT V35 hq hs178 q.toNatClampNeg rfl (own_nat hq (by decide) hs178) N ge_b2 185 (hb hby own_d6_184) rfl ?_
    clear X eT N; clear T; intro T h37 L X eT N W36 V38
    replace P0_Old := P0_Old.wr W36 ge_b2
    replace K0 := K0.wr W36 (Or.inr sz_b2)
    replace sz_h : h0.size ≤ h37.size := by rw [Wr.size W36]; exact sz_h
    rw [own_narc hc] at V38
    refine gnewO X hx hZ hown (own_w46 hw) (own_w7 hw) (own_w6 hw) eT 2 14 rfl rfl (by decide) (by decide) 188 (hb hby own_d6_185) rfl ?_
    clear X eT; clear T; intro T h39 b40 X eT ga E41 A42 D43
    have le_a := Nat.le_of_eq ga.symm
    have ne_b2_b40 : b2 ≠ b40 := Nat.ne_of_lt (Nat.lt_of_lt_of_le V38.lt le_a)
    have ne_b40_b2 : b40 ≠ b2 := Ne.symm ne_b2_b40
    have sz_b40 : h0.size ≤ b40 := Nat.le_trans sz_h le_a
    have ge_b40 : n0 ≤ b40 := Nat.le_trans Z0 sz_b40
    clear le_a ga
    replace P0_Old := P0_Old.ext E41
    replace V38 := V38.ext E41
    replace K0 := K0.ext E41
    replace sz_h : h0.size ≤ h39.size := Nat.le_trans sz_h E41.1
    have F_value_b40 : Fld Z h39 b40 "java/lang/String" "value" "[B" .null := D43 (Or.inr (own_w9 hw)) (ty := (.array .byte)) own_pf0
    have F_coder_b40 : Fld Z h39 b40 "java/lang/String" "coder" "B" (.int (0 : Int32)) := D43 (Or.inr (own_w10 hw)) (ty := .byte) own_pf1
    clear D43
    refine gdup X hx 189 (hb hby own_d6_188) rfl rfl ?_
    refine galoadN (v := (.ref b2)) X hx 190 (hb hby own_d6_189) rfl rfl rfl ?_
    refine gspecial (y := (⟨"java/lang/String", "<init>", "([C)V"⟩ : MethodName)) (a := b40) (argsL := [(.ref b2)]) (st := [(.ref b40)]) X hx hZ hown rfl (own_w47 hw) (own_w48 hw) (own_w49 hw) (by decide) (payNew (W := 1) (cs := (([80, 111, 115, 116, 103, 114, 101, 83, 81, 76] : List Int32).set q.toNatClampNeg c)) (n := 10) (n0 := n0) hZ hw ge_b40 (Nat.le_trans Z0 sz_h) A42 F_value_b40 F_coder_b40 V38 (own_mapset ([80, 111, 115, 116, 103, 114, 101, 83, 81, 76] : List Int32) _ _) (O2.ext P0_Old.2) P5 (by rw [List.length_set]; rfl) rfl (by decide) (by decide) (own_setr (by decide) hc) (by decide) (by decide)) eT (by rw [hml]; rfl) (lenOf own_pd0 rfl) rfl (Nat.le_of_eq rfl) 3 24 rfl rfl (by decide) (by decide) 193 (hb hby own_d6_190) rfl ?_
    clear X eT; clear T; intro v T h47 L2 Lc X eT hL hQ48
    obtain ⟨rfl, Nq, K44, t45, zz_t45, Str46⟩ := hQ48
    replace N : Fr n0 L2 := by rw [hL]; exact Fr.app N Nq
    clear Nq hL
    have ne_b2_t45 : b2 ≠ t45 := Nat.ne_of_lt (Nat.lt_of_lt_of_le V38.lt zz_t45)
    have ne_t45_b2 : t45 ≠ b2 := Ne.symm ne_b2_t45
    have ne_b40_t45 : b40 ≠ t45 := Nat.ne_of_lt (Nat.lt_of_lt_of_le A42.lt zz_t45)
    have ne_t45_b40 : t45 ≠ b40 := Ne.symm ne_b40_t45
    have sz_t45 : h0.size ≤ t45 := Nat.le_trans sz_h zz_t45
    have ge_t45 : n0 ≤ t45 := Nat.le_trans Z0 sz_t45
    replace P0_Old := P0_Old.keep K44 (allS ge_b40 all0)
    replace V38 := V38.keep K44 (ninS ne_b2_b40 nin0)
    replace K0 := K0.trans K44 (allS (Or.inr sz_b40) all0)
    replace sz_h : h0.size ≤ h47.size := Nat.le_trans sz_h K44.1
    show Go p e below _ T (mkF m 193 #[.val (.int (2 : Int32)), .val (.int q), .val (.int c), .val (.ref b2)] [(.ref b40)])
    exact gRetP X hx hlk hret rfl (Or.inr (Or.inr (Or.inr (Or.inr ⟨rfl, rfl, rfl⟩)))) (hb hby own_d6_193) eT (by decide) (by decide) ⟨b40, t45, rfl, N, K0, sz_b40, sz_t45, Str46⟩
  · refine gicmpYes X hx 185 (hb hby own_d6_178) (flt hs178).2.1 (by decide) (by decide) ?_
    refine gnewO X hx hZ hown (own_w46 hw) (own_w7 hw) (own_w6 hw) eT 2 14 rfl rfl (by decide) (by decide) 188 (hb hby own_d6_185) rfl ?_
    clear X eT; clear T; intro T h49 b50 X eT ga E51 A52 D53
    have le_a := Nat.le_of_eq ga.symm
    have ne_b2_b50 : b2 ≠ b50 := Nat.ne_of_lt (Nat.lt_of_lt_of_le V35.lt le_a)
    have ne_b50_b2 : b50 ≠ b2 := Ne.symm ne_b2_b50
    have sz_b50 : h0.size ≤ b50 := Nat.le_trans sz_h le_a
    have ge_b50 : n0 ≤ b50 := Nat.le_trans Z0 sz_b50
    clear le_a ga
    replace P0_Old := P0_Old.ext E51
    replace V35 := V35.ext E51
    replace K0 := K0.ext E51
    replace sz_h : h0.size ≤ h49.size := Nat.le_trans sz_h E51.1
    have F_value_b50 : Fld Z h49 b50 "java/lang/String" "value" "[B" .null := D53 (Or.inr (own_w9 hw)) (ty := (.array .byte)) own_pf0
    have F_coder_b50 : Fld Z h49 b50 "java/lang/String" "coder" "B" (.int (0 : Int32)) := D53 (Or.inr (own_w10 hw)) (ty := .byte) own_pf1
    clear D53
    refine gdup X hx 189 (hb hby own_d6_188) rfl rfl ?_
    refine galoadN (v := (.ref b2)) X hx 190 (hb hby own_d6_189) rfl rfl rfl ?_
    refine gspecial (y := (⟨"java/lang/String", "<init>", "([C)V"⟩ : MethodName)) (a := b50) (argsL := [(.ref b2)]) (st := [(.ref b50)]) X hx hZ hown rfl (own_w47 hw) (own_w48 hw) (own_w49 hw) (by decide) (payNew (W := 1) (cs := ([80, 111, 115, 116, 103, 114, 101, 83, 81, 76] : List Int32)) (n := 10) (n0 := n0) hZ hw ge_b50 (Nat.le_trans Z0 sz_h) A52 F_value_b50 F_coder_b50 V35 rfl (O2.ext P0_Old.2) P5 rfl rfl (by decide) (by decide) (by decide) (by decide) (by decide)) eT (by rw [hml]; rfl) (lenOf own_pd0 rfl) rfl (Nat.le_of_eq rfl) 3 24 rfl rfl (by decide) (by decide) 193 (hb hby own_d6_190) rfl ?_
    clear X eT; clear T; intro v T h57 L2 Lc X eT hL hQ58
    obtain ⟨rfl, Nq, K54, t55, zz_t55, Str56⟩ := hQ58
    replace N : Fr n0 L2 := by rw [hL]; exact Fr.app N Nq
    clear Nq hL
    have ne_b2_t55 : b2 ≠ t55 := Nat.ne_of_lt (Nat.lt_of_lt_of_le V35.lt zz_t55)
    have ne_t55_b2 : t55 ≠ b2 := Ne.symm ne_b2_t55
    have ne_b50_t55 : b50 ≠ t55 := Nat.ne_of_lt (Nat.lt_of_lt_of_le A52.lt zz_t55)
    have ne_t55_b50 : t55 ≠ b50 := Ne.symm ne_b50_t55
    have sz_t55 : h0.size ≤ t55 := Nat.le_trans sz_h zz_t55
    have ge_t55 : n0 ≤ t55 := Nat.le_trans Z0 sz_t55
    replace P0_Old := P0_Old.keep K54 (allS ge_b50 all0)
    replace V35 := V35.keep K54 (ninS ne_b2_b50 nin0)
    replace K0 := K0.trans K54 (allS (Or.inr sz_b50) all0)
    replace sz_h : h0.size ≤ h57.size := Nat.le_trans sz_h K54.1
    show Go p e below _ T (mkF m 193 #[.val (.int (2 : Int32)), .val (.int q), .val (.int c), .val (.ref b2)] [(.ref b50)])
    rw [← own_setout (q := q) (c := c) (L := ([80, 111, 115, 116, 103, 114, 101, 83, 81, 76] : List Int32)) hq (by decide) hs178] at Str56
    exact gRetP X hx hlk hret rfl (Or.inr (Or.inr (Or.inr (Or.inr ⟨rfl, rfl, rfl⟩)))) (hb hby own_d6_193) eT (by decide) (by decide) ⟨b50, t55, rfl, N, K0, sz_b50, sz_t55, Str56⟩
set_option maxRecDepth 65536 in
set_option maxHeartbeats 40000000 in
theorem rm_app2 (l : Launch) (Z : State) (a0 : Array Value) (hw : ∀ d ∈ tables_1, d.before a0 Z = true) (c : Int32) (G1 : Int32) (h0 : Heap) (n0 : Nat) (Z0 : n0 ≤ h0.size) (P0_Old : Old Z n0 h0) (O2 : Sta Z Z.heap "java/lang/String" "COMPACT_STRINGS" "Z" (.int G1)) (P5 : ¬ G1 = (0 : Int32)) (hc : ¬ c < 0 ∧ ¬ (255 : Int32) < c) :
    CtP l (⟨"com/example/fasten/fasten/sql/DialectOfPinLaw", "appended", "(IC)Ljava/lang/String;"⟩ : MethodName) method_5_code 3 (some (.object "java/lang/String")) [] ({ frames := 4, cells := 3, slots := 26, locals := 66 } : Room) Z #[(.int (2 : Int32)), (.int c)] h0 (fun v h L => ∃ (x : Addr), ∃ (t : Addr), v = some (.ref x) ∧ Fr n0 L ∧ Keep h0 h [] ∧ h0.size ≤ x ∧ h0.size ≤ t ∧ Str Z h x t ([80, 111, 115, 116, 103, 114, 101, 83, 81, 76, c] : List Int32)) := by
  refine CtP.walk (Ls := #[.val (.int (2 : Int32)), .val (.int c), .unset]) (plainFor_of_name own_pn0) (fun m => by first | (simp [entryFrame, mkF, argsToLocals, Value.category]; done) | rfl) ?_
  intro p e s m below meth cc_ T hx hby hml hown hnm hret hlk hZ X eT
  have N := Fr.nil n0
  have K0 := Keep.refl h0 []
  have sz_h : h0.size ≤ h0.size := Nat.le_refl _
  refine giloadN (v := (2 : Int32)) X hx 1 (hb hby own_d15_0) rfl rfl ?_
  refine gifYes X hx 59 (hb hby own_d15_1) (by decide) (by decide) (by decide) ?_
  refine giloadN (v := (2 : Int32)) X hx 60 (hb hby own_d15_59) rfl rfl ?_
  refine giconst X hx (1 : Int32) 61 (hb hby own_d15_60) rfl rfl ?_
  refine gicmpYes X hx 107 (hb hby own_d15_61) (by decide) (by decide) (by decide) ?_
  refine gbipush X hx (11 : Int32) 109 (hb hby own_d15_107) rfl rfl ?_
  refine gnewP (aty := .char) X hx hZ (own_w45 hw) eT (n := (11 : Int32)) (by decide) 11 (by decide) (by decide) 1 11 rfl rfl (by decide) (by decide) 111 (hb hby own_d15_109) rfl ?_
  clear X eT; clear T; intro T h1 b2 kc5 X eT ga E3 V4
  have le_a := Nat.le_of_eq ga.symm
  have sz_b2 : h0.size ≤ b2 := Nat.le_trans sz_h le_a
  have ge_b2 : n0 ≤ b2 := Nat.le_trans Z0 sz_b2
  clear le_a ga
  replace P0_Old := P0_Old.ext E3
  replace K0 := K0.ext E3
  replace sz_h : h0.size ≤ h1.size := Nat.le_trans sz_h E3.1
  replace V4 : Arv Z h1 b2 kc5 .char (11 : Int32) [(.int (0 : Int32)), (.int (0 : Int32)), (.int (0 : Int32)), (.int (0 : Int32)), (.int (0 : Int32)), (.int (0 : Int32)), (.int (0 : Int32)), (.int (0 : Int32)), (.int (0 : Int32)), (.int (0 : Int32)), (.int (0 : Int32))] (.int 0) := V4.pad (pad_rep [] _ 11)
  refine gdup X hx 112 (hb hby own_d15_111) rfl rfl ?_
  refine giconst X hx (0 : Int32) 113 (hb hby own_d15_112) rfl rfl ?_
  refine gbipush X hx (80 : Int32) 115 (hb hby own_d15_113) rfl rfl ?_
  refine gcastore X hx hZ eT V4 (by decide) (by decide) 0 rfl (Nat.le_of_ble_eq_true rfl) N ge_b2 116 (hb hby own_d15_115) rfl ?_
  clear X eT N; clear T; intro T h7 L X eT N W6 V8
  replace P0_Old := P0_Old.wr W6 ge_b2
  replace K0 := K0.wr W6 (Or.inr sz_b2)
  replace sz_h : h0.size ≤ h7.size := by rw [Wr.size W6]; exact sz_h
  replace V8 : Arv Z h7 b2 kc5 .char (11 : Int32) [(.int (80 : Int32)), (.int (0 : Int32)), (.int (0 : Int32)), (.int (0 : Int32)), (.int (0 : Int32)), (.int (0 : Int32)), (.int (0 : Int32)), (.int (0 : Int32)), (.int (0 : Int32)), (.int (0 : Int32)), (.int (0 : Int32))] (.int 0) := V8
  refine gdup X hx 117 (hb hby own_d15_116) rfl rfl ?_
  refine giconst X hx (1 : Int32) 118 (hb hby own_d15_117) rfl rfl ?_
  refine gbipush X hx (111 : Int32) 120 (hb hby own_d15_118) rfl rfl ?_
  refine gcastore X hx hZ eT V8 (by decide) (by decide) 1 rfl (Nat.le_of_ble_eq_true rfl) N ge_b2 121 (hb hby own_d15_120) rfl ?_
  clear X eT N; clear T; intro T h10 L X eT N W9 V11
  replace P0_Old := P0_Old.wr W9 ge_b2
  replace K0 := K0.wr W9 (Or.inr sz_b2)
  replace sz_h : h0.size ≤ h10.size := by rw [Wr.size W9]; exact sz_h
  replace V11 : Arv Z h10 b2 kc5 .char (11 : Int32) [(.int (80 : Int32)), (.int (111 : Int32)), (.int (0 : Int32)), (.int (0 : Int32)), (.int (0 : Int32)), (.int (0 : Int32)), (.int (0 : Int32)), (.int (0 : Int32)), (.int (0 : Int32)), (.int (0 : Int32)), (.int (0 : Int32))] (.int 0) := V11
  refine gdup X hx 122 (hb hby own_d15_121) rfl rfl ?_
  refine giconst X hx (2 : Int32) 123 (hb hby own_d15_122) rfl rfl ?_
  refine gbipush X hx (115 : Int32) 125 (hb hby own_d15_123) rfl rfl ?_
  refine gcastore X hx hZ eT V11 (by decide) (by decide) 2 rfl (Nat.le_of_ble_eq_true rfl) N ge_b2 126 (hb hby own_d15_125) rfl ?_
  clear X eT N; clear T; intro T h13 L X eT N W12 V14
  replace P0_Old := P0_Old.wr W12 ge_b2
  replace K0 := K0.wr W12 (Or.inr sz_b2)
  replace sz_h : h0.size ≤ h13.size := by rw [Wr.size W12]; exact sz_h
  replace V14 : Arv Z h13 b2 kc5 .char (11 : Int32) [(.int (80 : Int32)), (.int (111 : Int32)), (.int (115 : Int32)), (.int (0 : Int32)), (.int (0 : Int32)), (.int (0 : Int32)), (.int (0 : Int32)), (.int (0 : Int32)), (.int (0 : Int32)), (.int (0 : Int32)), (.int (0 : Int32))] (.int 0) := V14
  refine gdup X hx 127 (hb hby own_d15_126) rfl rfl ?_
  refine giconst X hx (3 : Int32) 128 (hb hby own_d15_127) rfl rfl ?_
  refine gbipush X hx (116 : Int32) 130 (hb hby own_d15_128) rfl rfl ?_
  refine gcastore X hx hZ eT V14 (by decide) (by decide) 3 rfl (Nat.le_of_ble_eq_true rfl) N ge_b2 131 (hb hby own_d15_130) rfl ?_
  clear X eT N; clear T; intro T h16 L X eT N W15 V17
  replace P0_Old := P0_Old.wr W15 ge_b2
  replace K0 := K0.wr W15 (Or.inr sz_b2)
  replace sz_h : h0.size ≤ h16.size := by rw [Wr.size W15]; exact sz_h
  replace V17 : Arv Z h16 b2 kc5 .char (11 : Int32) [(.int (80 : Int32)), (.int (111 : Int32)), (.int (115 : Int32)), (.int (116 : Int32)), (.int (0 : Int32)), (.int (0 : Int32)), (.int (0 : Int32)), (.int (0 : Int32)), (.int (0 : Int32)), (.int (0 : Int32)), (.int (0 : Int32))] (.int 0) := V17
  refine gdup X hx 132 (hb hby own_d15_131) rfl rfl ?_
  refine giconst X hx (4 : Int32) 133 (hb hby own_d15_132) rfl rfl ?_
  refine gbipush X hx (103 : Int32) 135 (hb hby own_d15_133) rfl rfl ?_
  refine gcastore X hx hZ eT V17 (by decide) (by decide) 4 rfl (Nat.le_of_ble_eq_true rfl) N ge_b2 136 (hb hby own_d15_135) rfl ?_
  clear X eT N; clear T; intro T h19 L X eT N W18 V20
  replace P0_Old := P0_Old.wr W18 ge_b2
  replace K0 := K0.wr W18 (Or.inr sz_b2)
  replace sz_h : h0.size ≤ h19.size := by rw [Wr.size W18]; exact sz_h
  replace V20 : Arv Z h19 b2 kc5 .char (11 : Int32) [(.int (80 : Int32)), (.int (111 : Int32)), (.int (115 : Int32)), (.int (116 : Int32)), (.int (103 : Int32)), (.int (0 : Int32)), (.int (0 : Int32)), (.int (0 : Int32)), (.int (0 : Int32)), (.int (0 : Int32)), (.int (0 : Int32))] (.int 0) := V20
  refine gdup X hx 137 (hb hby own_d15_136) rfl rfl ?_
  refine giconst X hx (5 : Int32) 138 (hb hby own_d15_137) rfl rfl ?_
  refine gbipush X hx (114 : Int32) 140 (hb hby own_d15_138) rfl rfl ?_
  refine gcastore X hx hZ eT V20 (by decide) (by decide) 5 rfl (Nat.le_of_ble_eq_true rfl) N ge_b2 141 (hb hby own_d15_140) rfl ?_
  clear X eT N; clear T; intro T h22 L X eT N W21 V23
  replace P0_Old := P0_Old.wr W21 ge_b2
  replace K0 := K0.wr W21 (Or.inr sz_b2)
  replace sz_h : h0.size ≤ h22.size := by rw [Wr.size W21]; exact sz_h
  replace V23 : Arv Z h22 b2 kc5 .char (11 : Int32) [(.int (80 : Int32)), (.int (111 : Int32)), (.int (115 : Int32)), (.int (116 : Int32)), (.int (103 : Int32)), (.int (114 : Int32)), (.int (0 : Int32)), (.int (0 : Int32)), (.int (0 : Int32)), (.int (0 : Int32)), (.int (0 : Int32))] (.int 0) := V23
  refine gdup X hx 142 (hb hby own_d15_141) rfl rfl ?_
  refine gbipush X hx (6 : Int32) 144 (hb hby own_d15_142) rfl rfl ?_
  refine gbipush X hx (101 : Int32) 146 (hb hby own_d15_144) rfl rfl ?_
  refine gcastore X hx hZ eT V23 (by decide) (by decide) 6 rfl (Nat.le_of_ble_eq_true rfl) N ge_b2 147 (hb hby own_d15_146) rfl ?_
  clear X eT N; clear T; intro T h25 L X eT N W24 V26
  replace P0_Old := P0_Old.wr W24 ge_b2
  replace K0 := K0.wr W24 (Or.inr sz_b2)
  replace sz_h : h0.size ≤ h25.size := by rw [Wr.size W24]; exact sz_h
  replace V26 : Arv Z h25 b2 kc5 .char (11 : Int32) [(.int (80 : Int32)), (.int (111 : Int32)), (.int (115 : Int32)), (.int (116 : Int32)), (.int (103 : Int32)), (.int (114 : Int32)), (.int (101 : Int32)), (.int (0 : Int32)), (.int (0 : Int32)), (.int (0 : Int32)), (.int (0 : Int32))] (.int 0) := V26
  refine gdup X hx 148 (hb hby own_d15_147) rfl rfl ?_
  refine gbipush X hx (7 : Int32) 150 (hb hby own_d15_148) rfl rfl ?_
  refine gbipush X hx (83 : Int32) 152 (hb hby own_d15_150) rfl rfl ?_
  refine gcastore X hx hZ eT V26 (by decide) (by decide) 7 rfl (Nat.le_of_ble_eq_true rfl) N ge_b2 153 (hb hby own_d15_152) rfl ?_
  clear X eT N; clear T; intro T h28 L X eT N W27 V29
  replace P0_Old := P0_Old.wr W27 ge_b2
  replace K0 := K0.wr W27 (Or.inr sz_b2)
  replace sz_h : h0.size ≤ h28.size := by rw [Wr.size W27]; exact sz_h
  replace V29 : Arv Z h28 b2 kc5 .char (11 : Int32) [(.int (80 : Int32)), (.int (111 : Int32)), (.int (115 : Int32)), (.int (116 : Int32)), (.int (103 : Int32)), (.int (114 : Int32)), (.int (101 : Int32)), (.int (83 : Int32)), (.int (0 : Int32)), (.int (0 : Int32)), (.int (0 : Int32))] (.int 0) := V29
  refine gdup X hx 154 (hb hby own_d15_153) rfl rfl ?_
  refine gbipush X hx (8 : Int32) 156 (hb hby own_d15_154) rfl rfl ?_
  refine gbipush X hx (81 : Int32) 158 (hb hby own_d15_156) rfl rfl ?_
  refine gcastore X hx hZ eT V29 (by decide) (by decide) 8 rfl (Nat.le_of_ble_eq_true rfl) N ge_b2 159 (hb hby own_d15_158) rfl ?_
  clear X eT N; clear T; intro T h31 L X eT N W30 V32
  replace P0_Old := P0_Old.wr W30 ge_b2
  replace K0 := K0.wr W30 (Or.inr sz_b2)
  replace sz_h : h0.size ≤ h31.size := by rw [Wr.size W30]; exact sz_h
  replace V32 : Arv Z h31 b2 kc5 .char (11 : Int32) [(.int (80 : Int32)), (.int (111 : Int32)), (.int (115 : Int32)), (.int (116 : Int32)), (.int (103 : Int32)), (.int (114 : Int32)), (.int (101 : Int32)), (.int (83 : Int32)), (.int (81 : Int32)), (.int (0 : Int32)), (.int (0 : Int32))] (.int 0) := V32
  refine gdup X hx 160 (hb hby own_d15_159) rfl rfl ?_
  refine gbipush X hx (9 : Int32) 162 (hb hby own_d15_160) rfl rfl ?_
  refine gbipush X hx (76 : Int32) 164 (hb hby own_d15_162) rfl rfl ?_
  refine gcastore X hx hZ eT V32 (by decide) (by decide) 9 rfl (Nat.le_of_ble_eq_true rfl) N ge_b2 165 (hb hby own_d15_164) rfl ?_
  clear X eT N; clear T; intro T h34 L X eT N W33 V35
  replace P0_Old := P0_Old.wr W33 ge_b2
  replace K0 := K0.wr W33 (Or.inr sz_b2)
  replace sz_h : h0.size ≤ h34.size := by rw [Wr.size W33]; exact sz_h
  replace V35 : Arv Z h34 b2 kc5 .char (11 : Int32) [(.int (80 : Int32)), (.int (111 : Int32)), (.int (115 : Int32)), (.int (116 : Int32)), (.int (103 : Int32)), (.int (114 : Int32)), (.int (101 : Int32)), (.int (83 : Int32)), (.int (81 : Int32)), (.int (76 : Int32)), (.int (0 : Int32))] (.int 0) := V35
  refine gdup X hx 166 (hb hby own_d15_165) rfl rfl ?_
  refine gbipush X hx (10 : Int32) 168 (hb hby own_d15_166) rfl rfl ?_
  refine giloadN (v := c) X hx 169 (hb hby own_d15_168) rfl rfl ?_
  refine gcastore X hx hZ eT V35 (by decide) (by decide) 10 rfl (Nat.le_of_ble_eq_true rfl) N ge_b2 170 (hb hby own_d15_169) rfl ?_
  clear X eT N; clear T; intro T h37 L X eT N W36 V38
  replace P0_Old := P0_Old.wr W36 ge_b2
  replace K0 := K0.wr W36 (Or.inr sz_b2)
  replace sz_h : h0.size ≤ h37.size := by rw [Wr.size W36]; exact sz_h
  replace V38 : Arv Z h37 b2 kc5 .char (11 : Int32) [(.int (80 : Int32)), (.int (111 : Int32)), (.int (115 : Int32)), (.int (116 : Int32)), (.int (103 : Int32)), (.int (114 : Int32)), (.int (101 : Int32)), (.int (83 : Int32)), (.int (81 : Int32)), (.int (76 : Int32)), (.int c)] (.int 0) := by have z := V38; rw [own_narc hc] at z; exact z
  refine gastoreN X hx #[.val (.int (2 : Int32)), .val (.int c), .val (.ref b2)] 171 (hb hby own_d15_170) rfl rfl rfl ?_
  refine gnewO X hx hZ hown (own_w46 hw) (own_w7 hw) (own_w6 hw) eT 2 15 rfl rfl (by decide) (by decide) 174 (hb hby own_d15_171) rfl ?_
  clear X eT; clear T; intro T h39 b40 X eT ga E41 A42 D43
  have le_a := Nat.le_of_eq ga.symm
  have ne_b2_b40 : b2 ≠ b40 := Nat.ne_of_lt (Nat.lt_of_lt_of_le V38.lt le_a)
  have ne_b40_b2 : b40 ≠ b2 := Ne.symm ne_b2_b40
  have sz_b40 : h0.size ≤ b40 := Nat.le_trans sz_h le_a
  have ge_b40 : n0 ≤ b40 := Nat.le_trans Z0 sz_b40
  clear le_a ga
  replace P0_Old := P0_Old.ext E41
  replace V38 := V38.ext E41
  replace K0 := K0.ext E41
  replace sz_h : h0.size ≤ h39.size := Nat.le_trans sz_h E41.1
  have F_value_b40 : Fld Z h39 b40 "java/lang/String" "value" "[B" .null := D43 (Or.inr (own_w9 hw)) (ty := (.array .byte)) own_pf0
  have F_coder_b40 : Fld Z h39 b40 "java/lang/String" "coder" "B" (.int (0 : Int32)) := D43 (Or.inr (own_w10 hw)) (ty := .byte) own_pf1
  clear D43
  refine gdup X hx 175 (hb hby own_d15_174) rfl rfl ?_
  refine galoadN (v := (.ref b2)) X hx 176 (hb hby own_d15_175) rfl rfl rfl ?_
  refine gspecial (y := (⟨"java/lang/String", "<init>", "([C)V"⟩ : MethodName)) (a := b40) (argsL := [(.ref b2)]) (st := [(.ref b40)]) X hx hZ hown rfl (own_w47 hw) (own_w48 hw) (own_w49 hw) (by decide) (payNew (W := 1) (cs := ([80, 111, 115, 116, 103, 114, 101, 83, 81, 76, c] : List Int32)) (n := 11) (n0 := n0) hZ hw ge_b40 (Nat.le_trans Z0 sz_h) A42 F_value_b40 F_coder_b40 V38 rfl (O2.ext P0_Old.2) P5 rfl rfl (by decide) (by decide) (own_cS (by decide) (own_cS (by decide) (own_cS (by decide) (own_cS (by decide) (own_cS (by decide) (own_cS (by decide) (own_cS (by decide) (own_cS (by decide) (own_cS (by decide) (own_cS (by decide) (own_cS hc own_c0))))))))))) (by decide) (by decide)) eT (by rw [hml]; rfl) (lenOf own_pd0 rfl) rfl (Nat.le_of_eq rfl) 3 26 rfl rfl (by decide) (by decide) 179 (hb hby own_d15_176) rfl ?_
  clear X eT; clear T; intro v T h47 L2 Lc X eT hL hQ48
  obtain ⟨rfl, Nq, K44, t45, zz_t45, Str46⟩ := hQ48
  replace N : Fr n0 L2 := by rw [hL]; exact Fr.app N Nq
  clear Nq hL
  have ne_b2_t45 : b2 ≠ t45 := Nat.ne_of_lt (Nat.lt_of_lt_of_le V38.lt zz_t45)
  have ne_t45_b2 : t45 ≠ b2 := Ne.symm ne_b2_t45
  have ne_b40_t45 : b40 ≠ t45 := Nat.ne_of_lt (Nat.lt_of_lt_of_le A42.lt zz_t45)
  have ne_t45_b40 : t45 ≠ b40 := Ne.symm ne_b40_t45
  have sz_t45 : h0.size ≤ t45 := Nat.le_trans sz_h zz_t45
  have ge_t45 : n0 ≤ t45 := Nat.le_trans Z0 sz_t45
  replace P0_Old := P0_Old.keep K44 (allS ge_b40 all0)
  replace V38 := V38.keep K44 (ninS ne_b2_b40 nin0)
  replace K0 := K0.trans K44 (allS (Or.inr sz_b40) all0)
  replace sz_h : h0.size ≤ h47.size := Nat.le_trans sz_h K44.1
  show Go p e below _ T (mkF m 179 #[.val (.int (2 : Int32)), .val (.int c), .val (.ref b2)] [(.ref b40)])
  exact gRetP X hx hlk hret rfl (Or.inr (Or.inr (Or.inr (Or.inr ⟨rfl, rfl, rfl⟩)))) (hb hby own_d15_179) eT (by decide) (by decide) ⟨b40, t45, rfl, N, K0, sz_b40, sz_t45, Str46⟩
set_option maxRecDepth 65536 in
set_option maxHeartbeats 40000000 in
theorem rm17 (l : Launch) (Z : State) (a0 : Array Value) (hw : ∀ d ∈ tables_1, d.before a0 Z = true) (c : Int32) (h0 : Heap) (n0 : Nat) (Z0 : n0 ≤ h0.size) (hc : ¬ (255 : Int32) < c) :
    CtP l (⟨"java/lang/StringLatin1", "canEncode", "(C)Z"⟩ : MethodName) jdk_43_method_3_code 1 (some .boolean) [] ({ frames := 0, cells := 0, slots := 0, locals := 0 } : Room) Z #[(.int c)] h0 (fun v h L => v = some (.int (1 : Int32)) ∧ Fr n0 L ∧ h = h0) := by
  refine CtP.walk (Ls := #[.val (.int c)]) (plainFor_of_name own_pn1) (fun m => by first | (simp [entryFrame, mkF, argsToLocals, Value.category]; done) | rfl) ?_
  intro p e s m below meth cc_ T hx hby hml hown hnm hret hlk hZ X eT
  have N := Fr.nil n0
  have sz_h : h0.size ≤ h0.size := Nat.le_refl _
  refine giloadN (v := c) X hx 1 (hb hby own_d17_0) rfl rfl ?_
  refine gsipush X hx (255 : Int32) 4 (hb hby own_d17_1) rfl rfl ?_
  refine gicmpNo X hx 7 (hb hby own_d17_4) rfl (flt hc).2.2.1 ?_
  refine giconst X hx (1 : Int32) 8 (hb hby own_d17_7) rfl rfl ?_
  refine ggoto X hx 12 (hb hby own_d17_8) (by decide) (by decide) ?_
  exact gRetP X hx hlk hret rfl (Or.inl ⟨rfl, by simp, _, rfl⟩) (hb hby own_d17_12) eT (by decide) (by decide) ⟨rfl, N, rfl⟩
set_option maxRecDepth 65536 in
set_option maxHeartbeats 40000000 in
theorem rm18 (l : Launch) (Z : State) (a0 : Array Value) (hw : ∀ d ∈ tables_1, d.before a0 Z = true) (c : Int32) (h0 : Heap) (n0 : Nat) (Z0 : n0 ≤ h0.size) :
    CtP l (⟨"java/lang/StringLatin1", "toBytes", "(C)[B"⟩ : MethodName) jdk_43_method_46_code 1 (some (.array .byte)) [] ({ frames := 0, cells := 1, slots := 1, locals := 0 } : Room) Z #[(.int c)] h0 (fun v h L => ∃ (t : Addr), ∃ (kb : ClassId), v = some (.ref t) ∧ Fr n0 L ∧ Keep h0 h [] ∧ h0.size ≤ t ∧ Arv Z h t kb .byte (1 : Int32) [(.int (c.toInt8.toInt32))] (.int 0)) := by
  refine CtP.walk (Ls := #[.val (.int c)]) (plainFor_of_name own_pn1) (fun m => by first | (simp [entryFrame, mkF, argsToLocals, Value.category]; done) | rfl) ?_
  intro p e s m below meth cc_ T hx hby hml hown hnm hret hlk hZ X eT
  have N := Fr.nil n0
  have K0 := Keep.refl h0 []
  have sz_h : h0.size ≤ h0.size := Nat.le_refl _
  refine giconst X hx (1 : Int32) 1 (hb hby own_d18_0) rfl rfl ?_
  refine gnewP (aty := .byte) X hx hZ (own_w8 hw) eT (n := (1 : Int32)) (by decide) 1 (by decide) (by decide) 1 1 rfl rfl (by decide) (by decide) 3 (hb hby own_d18_1) rfl ?_
  clear X eT; clear T; intro T h1 b2 kc5 X eT ga E3 V4
  have le_a := Nat.le_of_eq ga.symm
  have sz_b2 : h0.size ≤ b2 := Nat.le_trans sz_h le_a
  have ge_b2 : n0 ≤ b2 := Nat.le_trans Z0 sz_b2
  clear le_a ga
  replace K0 := K0.ext E3
  replace sz_h : h0.size ≤ h1.size := Nat.le_trans sz_h E3.1
  replace V4 : Arv Z h1 b2 kc5 .byte (1 : Int32) [(.int (0 : Int32))] (.int 0) := V4.pad (pad_rep [] _ 1)
  refine gdup X hx 4 (hb hby own_d18_3) rfl rfl ?_
  refine giconst X hx (0 : Int32) 5 (hb hby own_d18_4) rfl rfl ?_
  refine giloadN (v := c) X hx 6 (hb hby own_d18_5) rfl rfl ?_
  refine gi2b X hx 7 (hb hby own_d18_6) rfl ?_
  refine gbastore X hx hZ eT V4 (by decide) (by decide) 0 rfl (Nat.le_of_ble_eq_true rfl) N ge_b2 8 (hb hby own_d18_7) rfl ?_
  clear X eT N; clear T; intro T h7 L X eT N W6 V8
  replace K0 := K0.wr W6 (Or.inr sz_b2)
  replace sz_h : h0.size ≤ h7.size := by rw [Wr.size W6]; exact sz_h
  replace V8 : Arv Z h7 b2 kc5 .byte (1 : Int32) [(.int (c.toInt8.toInt32))] (.int 0) := by have z := V8; rw [own_narb] at z; exact z
  exact gRetP X hx hlk hret rfl (Or.inr (Or.inr (Or.inr (Or.inr ⟨rfl, rfl, rfl⟩)))) (hb hby own_d18_8) eT (by decide) (by decide) ⟨b2, kc5, rfl, N, K0, sz_b2, V8⟩
set_option maxRecDepth 65536 in
set_option maxHeartbeats 40000000 in
theorem rm19 (l : Launch) (Z : State) (a0 : Array Value) (hw : ∀ d ∈ tables_1, d.before a0 Z = true) (x : Addr) (t : Addr) (v0 : Value) (c0 : Value) (h0 : Heap) (n0 : Nat) (Z0 : n0 ≤ h0.size) (ge_x : n0 ≤ x) (P0_Exa : Exa Z h0 x "java/lang/String") (P1_Fld : Fld Z h0 x "java/lang/String" "value" "[B" v0) (P2_Fld : Fld Z h0 x "java/lang/String" "coder" "B" c0) :
    CtP l (⟨"java/lang/String", "<init>", "([BB)V"⟩ : MethodName) jdk_42_method_151_code 3 none [] ({ frames := 1, cells := 0, slots := 0, locals := 12 } : Room) Z #[(.ref x), (.ref t), (.int (0 : Int32))] h0 (fun v h L => v = none ∧ Fr n0 L ∧ Keep h0 h [x] ∧ Fld Z h x "java/lang/String" "value" "[B" (.ref t) ∧ Fld Z h x "java/lang/String" "coder" "B" (.int 0)) := by
  refine CtP.walk (Ls := #[.val (.ref x), .val (.ref t), .val (.int (0 : Int32))]) own_pn2 (fun m => by first | (simp [entryFrame, mkF, argsToLocals, Value.category]; done) | rfl) ?_
  intro p e s m below meth cc_ T hx hby hml hown hnm hret hlk hZ X eT
  have N := Fr.nil n0
  have K0 := Keep.refl h0 [x]
  have sz_h : h0.size ≤ h0.size := Nat.le_refl _
  refine galoadN (v := (.ref x)) X hx 1 (hb hby own_d19_0) rfl rfl rfl ?_
  refine ginitO X hx hZ hown (own_w53 hw) (own_w54 hw) (own_w55 hw) eT (by rw [hml]; rfl) (by decide) 0 (Nat.le_of_eq rfl) (by decide) 4 (hb hby own_d19_1) rfl ?_
  clear X eT; clear T; intro T X eT
  refine galoadN (v := (.ref x)) X hx 5 (hb hby own_d19_4) rfl rfl rfl ?_
  refine galoadN (v := (.ref t)) X hx 6 (hb hby own_d19_5) rfl rfl rfl ?_
  refine gputF X hx hZ (host := "") hown (Or.inl (own_w30 hw)) Via.refl eT P1_Fld P0_Exa (Or.inr ⟨(own_w9 hw), rfl, hnm⟩) (own_w7 hw) (ty := (.array .byte)) own_pf0 rfl rfl N ge_x 9 (hb hby own_d19_6) rfl ?_
  clear X eT N; clear T; intro T h1 L X eT N W2
  replace P0_Exa := P0_Exa.wr W2
  replace P1_Fld := P1_Fld.same W2
  replace P2_Fld := P2_Fld.other W2 (Or.inr (slot_ne (Or.inr (own_w10 hw)) (Or.inr (own_w9 hw)) (by decide) own_pf1 own_pf0))
  replace K0 := K0.wr W2 (Or.inl (List.mem_of_getElem? (i := 0) rfl))
  replace sz_h : h0.size ≤ h1.size := by rw [Wr.size W2]; exact sz_h
  refine galoadN (v := (.ref x)) X hx 10 (hb hby own_d19_9) rfl rfl rfl ?_
  refine giloadN (v := (0 : Int32)) X hx 11 (hb hby own_d19_10) rfl rfl ?_
  refine gputF X hx hZ (host := "") hown (Or.inl (own_w29 hw)) Via.refl eT P2_Fld P0_Exa (Or.inr ⟨(own_w10 hw), rfl, hnm⟩) (own_w7 hw) (ty := .byte) own_pf1 rfl rfl N ge_x 14 (hb hby own_d19_11) rfl ?_
  clear X eT N; clear T; intro T h3 L X eT N W4
  replace P0_Exa := P0_Exa.wr W4
  replace P1_Fld := P1_Fld.other W4 (Or.inr (slot_ne (Or.inr (own_w9 hw)) (Or.inr (own_w10 hw)) (by decide) own_pf0 own_pf1))
  replace P2_Fld := P2_Fld.same W4
  replace K0 := K0.wr W4 (Or.inl (List.mem_of_getElem? (i := 0) rfl))
  replace sz_h : h0.size ≤ h3.size := by rw [Wr.size W4]; exact sz_h
  exact gRetP0 X hx hlk hret (hb hby own_d19_14) eT (by decide) (by decide) ⟨rfl, N, K0, P1_Fld, P2_Fld⟩
set_option maxRecDepth 65536 in
set_option maxHeartbeats 40000000 in
theorem rm16 (l : Launch) (Z : State) (a0 : Array Value) (hw : ∀ d ∈ tables_1, d.before a0 Z = true) (c : Int32) (G1 : Int32) (h0 : Heap) (n0 : Nat) (Z0 : n0 ≤ h0.size) (P0_Old : Old Z n0 h0) (hc : ¬ (255 : Int32) < c) (O2 : Sta Z Z.heap "java/lang/String" "COMPACT_STRINGS" "Z" (.int G1)) (P5 : ¬ G1 = (0 : Int32)) :
    CtP l (⟨"java/lang/String", "valueOf", "(C)Ljava/lang/String;"⟩ : MethodName) jdk_42_method_139_code 1 (some (.object "java/lang/String")) [] ({ frames := 2, cells := 2, slots := 5, locals := 27 } : Room) Z #[(.int c)] h0 (fun v h L => ∃ (x : Addr), ∃ (t : Addr), ∃ (kb : ClassId), v = some (.ref x) ∧ Fr n0 L ∧ Keep h0 h [] ∧ h0.size ≤ x ∧ h0.size ≤ t ∧ Exa Z h x "java/lang/String" ∧ Fld Z h x "java/lang/String" "coder" "B" (.int 0) ∧ Fld Z h x "java/lang/String" "value" "[B" (.ref t) ∧ Arv Z h t kb .byte (1 : Int32) [(.int (c.toInt8.toInt32))] (.int 0) ∧ x ≠ t) := by
  refine CtP.walk (Ls := #[.val (.int c)]) own_pn3 (fun m => by first | (simp [entryFrame, mkF, argsToLocals, Value.category]; done) | rfl) ?_
  intro p e s m below meth cc_ T hx hby hml hown hnm hret hlk hZ X eT
  have N := Fr.nil n0
  have K0 := Keep.refl h0 []
  have sz_h : h0.size ≤ h0.size := Nat.le_refl _
  refine ggetS X hx hZ (host := "") hown (Or.inl (own_w28 hw)) Via.refl eT (O2.ext P0_Old.2) 3 (hb hby own_d16_0) rfl ?_
  clear X eT; clear T; intro T X eT
  refine gifNo X hx 6 (hb hby own_d16_3) rfl ((if0 _ _).trans (feq P5).1) ?_
  refine giloadN (v := c) X hx 7 (hb hby own_d16_6) rfl rfl ?_
  refine gstatic (y := (⟨"java/lang/StringLatin1", "canEncode", "(C)Z"⟩ : MethodName)) (argsL := [(.int c)]) (st := []) X hx hZ hown (own_w87 hw) (own_w88 hw) (own_w33 hw) (own_w89 hw) (by decide) (payP (W := 0) (rm17 l Z a0 hw (c) h0 n0 (Nat.le_trans Z0 sz_h) (hc)) hZ (own_w89 hw) (own_w33 hw) (by decide) (by decide)) eT (by rw [hml]; rfl) (lenOf own_pd1 rfl) rfl (Nat.le_of_eq rfl) 0 0 rfl rfl (by decide) (by decide) 10 (hb hby own_d16_7) rfl ?_
  clear X eT; clear T; intro v T h1 L2 Lc X eT hL hQ2
  obtain ⟨rfl, Nq, hh⟩ := hQ2
  replace N : Fr n0 L2 := by rw [hL]; exact Fr.app N Nq
  clear Nq hL
  replace hh := hh.symm; subst hh
  show Go p e below _ T (mkF m 10 #[.val (.int c)] [(.int (1 : Int32))])
  refine gifNo X hx 13 (hb hby own_d16_10) rfl (by decide) ?_
  refine gnewO X hx hZ hown (own_w26 hw) (own_w7 hw) (own_w6 hw) eT 1 4 rfl rfl (by decide) (by decide) 16 (hb hby own_d16_13) rfl ?_
  clear X eT; clear T; intro T h5 b6 X eT ga E7 A8 D9
  have le_a := Nat.le_of_eq ga.symm
  have sz_b6 : h0.size ≤ b6 := Nat.le_trans sz_h le_a
  have ge_b6 : n0 ≤ b6 := Nat.le_trans Z0 sz_b6
  clear le_a ga
  replace P0_Old := P0_Old.ext E7
  replace K0 := K0.ext E7
  replace sz_h : h0.size ≤ h5.size := Nat.le_trans sz_h E7.1
  have F_value_b6 : Fld Z h5 b6 "java/lang/String" "value" "[B" .null := D9 (Or.inr (own_w9 hw)) (ty := (.array .byte)) own_pf0
  have F_coder_b6 : Fld Z h5 b6 "java/lang/String" "coder" "B" (.int (0 : Int32)) := D9 (Or.inr (own_w10 hw)) (ty := .byte) own_pf1
  clear D9
  refine gdup X hx 17 (hb hby own_d16_16) rfl rfl ?_
  refine giloadN (v := c) X hx 18 (hb hby own_d16_17) rfl rfl ?_
  refine gstatic (y := (⟨"java/lang/StringLatin1", "toBytes", "(C)[B"⟩ : MethodName)) (argsL := [(.int c)]) (st := [(.ref b6), (.ref b6)]) X hx hZ hown (own_w90 hw) (own_w91 hw) (own_w33 hw) (own_w92 hw) (by decide) (payP (W := 2) (rm18 l Z a0 hw (c) h5 n0 (Nat.le_trans Z0 sz_h)) hZ (own_w92 hw) (own_w33 hw) (by decide) (by decide)) eT (by rw [hml]; rfl) (lenOf own_pd2 rfl) rfl (Nat.le_of_eq rfl) 2 5 rfl rfl (by decide) (by decide) 21 (hb hby own_d16_18) rfl ?_
  clear X eT; clear T; intro v T h10 L2 Lc X eT hL hQ11
  obtain ⟨t_12, kb_13, rfl, Nq, K14, zz_t_12, G16⟩ := hQ11
  replace N : Fr n0 L2 := by rw [hL]; exact Fr.app N Nq
  clear Nq hL
  have ne_b6_t_12 : b6 ≠ t_12 := Nat.ne_of_lt (Nat.lt_of_lt_of_le A8.lt zz_t_12)
  have ne_t_12_b6 : t_12 ≠ b6 := Ne.symm ne_b6_t_12
  have sz_t_12 : h0.size ≤ t_12 := Nat.le_trans sz_h zz_t_12
  have ge_t_12 : n0 ≤ t_12 := Nat.le_trans Z0 sz_t_12
  replace P0_Old := P0_Old.keep K14 all0
  replace A8 := A8.keep K14
  replace F_value_b6 := F_value_b6.keep K14 nin0
  replace F_coder_b6 := F_coder_b6.keep K14 nin0
  replace K0 := K0.trans K14 all0
  replace sz_h : h0.size ≤ h10.size := Nat.le_trans sz_h K14.1
  show Go p e below _ T (mkF m 21 #[.val (.int c)] [(.ref t_12), (.ref b6), (.ref b6)])
  refine giconst X hx (0 : Int32) 22 (hb hby own_d16_21) rfl rfl ?_
  refine gspecial (y := (⟨"java/lang/String", "<init>", "([BB)V"⟩ : MethodName)) (a := b6) (argsL := [(.ref t_12), (.int (0 : Int32))]) (st := [(.ref b6)]) X hx hZ hown rfl (own_w93 hw) (own_w94 hw) (own_w95 hw) (by decide) (payP (W := 1) (rm19 l Z a0 hw (b6) (t_12) (.null) ((.int (0 : Int32))) h10 n0 (Nat.le_trans Z0 sz_h) ge_b6 A8 F_value_b6 F_coder_b6) hZ (own_w95 hw) (own_w6 hw) (by decide) (by decide)) eT (by rw [hml]; rfl) (lenOf own_pd3 rfl) rfl (Nat.le_of_eq rfl) 2 5 rfl rfl (by decide) (by decide) 25 (hb hby own_d16_22) rfl ?_
  clear X eT; clear T; intro v T h17 L2 Lc X eT hL hQ18
  obtain ⟨rfl, Nq, K19, G21, G22⟩ := hQ18
  replace N : Fr n0 L2 := by rw [hL]; exact Fr.app N Nq
  clear Nq hL
  replace P0_Old := P0_Old.keep K19 (allS ge_b6 all0)
  replace A8 := A8.keep K19
  replace G16 := G16.keep K19 (ninS ne_t_12_b6 nin0)
  replace K0 := K0.trans K19 (allS (Or.inr sz_b6) all0)
  replace sz_h : h0.size ≤ h17.size := Nat.le_trans sz_h K19.1
  show Go p e below _ T (mkF m 25 #[.val (.int c)] [(.ref b6)])
  exact gRetP X hx hlk hret rfl (Or.inr (Or.inr (Or.inr (Or.inr ⟨rfl, rfl, rfl⟩)))) (hb hby own_d16_25) eT (by decide) (by decide) ⟨b6, t_12, kb_13, rfl, N, K0, sz_b6, sz_t_12, A8, G22, G21, G16, ne_b6_t_12⟩
set_option maxRecDepth 65536 in
set_option maxHeartbeats 40000000 in
theorem rm2 (l : Launch) (Z : State) (a0 : Array Value) (hw : ∀ d ∈ tables_1, d.before a0 Z = true) (x : Addr) (t : Addr) (cs : List Int32) (G1 : Int32) (dm : Addr) (dg : Addr) (h0 : Heap) (n0 : Nat) (Z0 : n0 ≤ h0.size) (P0_Str : Str Z h0 x t cs) (P1_Old : Old Z n0 h0) (O2 : Sta Z Z.heap "java/lang/String" "COMPACT_STRINGS" "Z" (.int G1)) (P5 : ¬ G1 = (0 : Int32)) (SM : Sta Z Z.heap "com/example/fasten/fasten/sql/Dialect" "MARIADB" "Lcom/example/fasten/fasten/sql/Dialect;" (.ref dm)) (SG : Sta Z Z.heap "com/example/fasten/fasten/sql/Dialect" "POSTGRESQL" "Lcom/example/fasten/fasten/sql/Dialect;" (.ref dg)) :
    CtS l (⟨"com/example/fasten/fasten/sql/Dialect", "of", "(Ljava/lang/String;)Lcom/example/fasten/fasten/sql/Dialect;"⟩ : MethodName) prog_22_method_6_code 2 (some (.object "com/example/fasten/fasten/sql/Dialect")) [] ({ frames := 2, cells := 6, slots := 100, locals := 28 } : Room) Z own_EL [] #[(.ref x)] h0 (fun v h L => v = some (own_of cs dm dg) ∧ Fr n0 L ∧ Keep h0 h []) := by
  refine CtS.walk (Ls := #[.val (.ref x), .unset]) (plainFor_of_name own_pn4) (fun m => by first | (simp [entryFrame, mkF, argsToLocals, Value.category]; done) | rfl) ?_
  intro p e s m below meth cc_ T vm k0 hx hby hml hown hnm hret hlk hZ X eT hS hk C hSL
  have N := Fr.nil n0
  have K0 := Keep.refl h0 []
  have sz_h : h0.size ≤ h0.size := Nat.le_refl _
  refine gaconstNull X hx 1 (hb hby own_d2_0) rfl ?_
  refine gastoreN X hx #[.val (.ref x), .val .null] 2 (hb hby own_d2_1) rfl rfl rfl ?_
  refine galoadN (v := (.ref x)) X hx 3 (hb hby own_d2_2) rfl rfl rfl ?_
  refine gldcV X hx hZ hown (own_w20 hw) (own_wS hw) eT hS hk (own_EW hw) own_mem20 C.1 [(.int (77 : Int32)), (.int (97 : Int32)), (.int (114 : Int32)), (.int (105 : Int32)), (.int (97 : Int32)), (.int (68 : Int32)), (.int (66 : Int32))] (7 : Int32) (by decide +kernel) (by decide) rfl 28 (by decide) (by decide) 2 32 rfl rfl (by decide) (by decide) 5 (hb hby own_d2_3) rfl ?_
  clear X eT hS hk hZ hown; clear T k0; intro c2 T h1 vm k0 t10 kb11 X eT E3 hS hk hZ hown CR4 Li5 A6 F7 F8 V9 ns12
  replace P0_Str := P0_Str.ext E3
  replace P1_Old := P1_Old.ext E3
  replace K0 := K0.ext E3
  replace C := C.trans CR4
  replace sz_h : h0.size ≤ h1.size := Nat.le_trans sz_h E3.1
  show Go p e below _ T (mkF m 5 #[.val (.ref x), .val .null] [(.ref c2), (.ref x)])
  have Str13 : Str Z h1 c2 t10 ([77, 97, 114, 105, 97, 68, 66] : List Int32) := Str.of A6 F7 F8 V9 (by decide +kernel) (by decide +kernel) (by decide +kernel) (by decide)
  refine gvirtual (y := (⟨"java/lang/String", "equals", "(Ljava/lang/Object;)Z"⟩ : MethodName)) (z := (⟨"java/lang/String", "equals", "(Ljava/lang/Object;)Z"⟩ : MethodName)) (a := x) (argsL := [(.ref c2)]) (st := []) X hx hZ hown (own_w21 hw) (own_w22 hw) (notFace_of_selects (args := #[]) (mvT hZ (own_w24 hw))) (own_w24 hw) (own_w23 hw) (by decide) P0_Str.exa (payEq (W := 0) hZ hw P0_Str Str13 (O2.ext P1_Old.2) P5 (by decide) (by decide)) eT (by rw [hml]; rfl) (lenOf own_pd4 rfl) rfl (Nat.le_of_eq rfl) 2 32 rfl rfl (by decide) (by decide) 8 (hb hby own_d2_5) rfl ?_
  clear X eT; clear T; intro v T h14 L2 Lc X eT hL hQ15
  obtain ⟨rfl, rfl, hh⟩ := hQ15
  replace hh := hh.symm; subst hh
  replace N : Fr n0 L2 := by rw [hL]; exact Fr.app N (Fr.nil n0)
  clear hL
  show Go p e below _ T (mkF m 8 #[.val (.ref x), .val .null] [(.int (if cs = ([77, 97, 114, 105, 97, 68, 66] : List Int32) then 1 else 0))])
  rcases Decidable.em (cs = ([77, 97, 114, 105, 97, 68, 66] : List Int32)) with e0 | e0
  · rw [if_pos e0]
    show Go p e below _ T (mkF m 8 #[.val (.ref x), .val .null] [(.int (1 : Int32))])
    refine gifYes X hx 20 (hb hby own_d2_8) (by decide) (by decide) (by decide) ?_
    refine ggetS X hx hZ (host := "") hown (Or.inl (own_w76 hw)) Via.refl eT (SM.ext P1_Old.2) 23 (hb hby own_d2_20) rfl ?_
    clear X eT; clear T; intro T X eT
    refine gastoreN X hx #[.val (.ref x), .val (.ref dm)] 24 (hb hby own_d2_23) rfl rfl rfl ?_
    refine ggoto X hx 40 (hb hby own_d2_24) (by decide) (by decide) ?_
    refine galoadN (v := (.ref dm)) X hx 41 (hb hby own_d2_40) rfl rfl rfl ?_
    have hv := own_of0 (dm := dm) (dg := dg) e0
    rw [← hv]
    exact gRetS X hx hlk hret rfl (Or.inr (Or.inr (Or.inr (Or.inr ⟨rfl, rfl, (own_ofr cs dm dg)⟩)))) (hb hby own_d2_41) eT hS hk hZ (own_EW hw) C (by decide) (by decide) ⟨rfl, N, K0⟩
  · rw [if_neg e0]
    show Go p e below _ T (mkF m 8 #[.val (.ref x), .val .null] [(.int (0 : Int32))])
    refine gifNo X hx 11 (hb hby own_d2_8) rfl (by decide) ?_
    refine galoadN (v := (.ref x)) X hx 12 (hb hby own_d2_11) rfl rfl rfl ?_
    refine gldcV X hx hZ hown (own_w35 hw) (own_wS hw) eT hS hk (own_EW hw) own_mem35 C.1 [(.int (77 : Int32)), (.int (121 : Int32)), (.int (83 : Int32)), (.int (81 : Int32)), (.int (76 : Int32))] (5 : Int32) (by decide +kernel) (by decide) rfl 20 (by decide) (by decide) 4 56 rfl rfl (by decide) (by decide) 14 (hb hby own_d2_12) rfl ?_
    clear X eT hS hk hZ hown; clear T k0; intro c17 T h16 vm k0 t25 kb26 X eT E18 hS hk hZ hown CR19 Li20 A21 F22 F23 V24 ns27
    replace P0_Str := P0_Str.ext E18
    replace P1_Old := P1_Old.ext E18
    replace Str13 := Str13.ext E18
    replace K0 := K0.ext E18
    replace C := C.trans CR19
    replace sz_h : h0.size ≤ h16.size := Nat.le_trans sz_h E18.1
    show Go p e below _ T (mkF m 14 #[.val (.ref x), .val .null] [(.ref c17), (.ref x)])
    have Str28 : Str Z h16 c17 t25 ([77, 121, 83, 81, 76] : List Int32) := Str.of A21 F22 F23 V24 (by decide +kernel) (by decide +kernel) (by decide +kernel) (by decide)
    refine gvirtual (y := (⟨"java/lang/String", "equals", "(Ljava/lang/Object;)Z"⟩ : MethodName)) (z := (⟨"java/lang/String", "equals", "(Ljava/lang/Object;)Z"⟩ : MethodName)) (a := x) (argsL := [(.ref c17)]) (st := []) X hx hZ hown (own_w21 hw) (own_w22 hw) (notFace_of_selects (args := #[]) (mvT hZ (own_w24 hw))) (own_w24 hw) (own_w23 hw) (by decide) P0_Str.exa (payEq (W := 0) hZ hw P0_Str Str28 (O2.ext P1_Old.2) P5 (by decide) (by decide)) eT (by rw [hml]; rfl) (lenOf own_pd4 rfl) rfl (Nat.le_of_eq rfl) 4 56 rfl rfl (by decide) (by decide) 17 (hb hby own_d2_14) rfl ?_
    clear X eT; clear T; intro v T h29 L2 Lc X eT hL hQ30
    obtain ⟨rfl, rfl, hh⟩ := hQ30
    replace hh := hh.symm; subst hh
    replace N : Fr n0 L2 := by rw [hL]; exact Fr.app N (Fr.nil n0)
    clear hL
    show Go p e below _ T (mkF m 17 #[.val (.ref x), .val .null] [(.int (if cs = ([77, 121, 83, 81, 76] : List Int32) then 1 else 0))])
    rcases Decidable.em (cs = ([77, 121, 83, 81, 76] : List Int32)) with e1 | e1
    · rw [if_pos e1]
      show Go p e below _ T (mkF m 17 #[.val (.ref x), .val .null] [(.int (1 : Int32))])
      refine gifNo X hx 20 (hb hby own_d2_17) rfl (by decide) ?_
      refine ggetS X hx hZ (host := "") hown (Or.inl (own_w76 hw)) Via.refl eT (SM.ext P1_Old.2) 23 (hb hby own_d2_20) rfl ?_
      clear X eT; clear T; intro T X eT
      refine gastoreN X hx #[.val (.ref x), .val (.ref dm)] 24 (hb hby own_d2_23) rfl rfl rfl ?_
      refine ggoto X hx 40 (hb hby own_d2_24) (by decide) (by decide) ?_
      refine galoadN (v := (.ref dm)) X hx 41 (hb hby own_d2_40) rfl rfl rfl ?_
      have hv := own_of1 (dm := dm) (dg := dg) e0 e1
      rw [← hv]
      exact gRetS X hx hlk hret rfl (Or.inr (Or.inr (Or.inr (Or.inr ⟨rfl, rfl, (own_ofr cs dm dg)⟩)))) (hb hby own_d2_41) eT hS hk hZ (own_EW hw) C (by decide) (by decide) ⟨rfl, N, K0⟩
    · rw [if_neg e1]
      show Go p e below _ T (mkF m 17 #[.val (.ref x), .val .null] [(.int (0 : Int32))])
      refine gifYes X hx 27 (hb hby own_d2_17) (by decide) (by decide) (by decide) ?_
      refine galoadN (v := (.ref x)) X hx 28 (hb hby own_d2_27) rfl rfl rfl ?_
      refine gldcV X hx hZ hown (own_w36 hw) (own_wS hw) eT hS hk (own_EW hw) own_mem36 C.1 [(.int (80 : Int32)), (.int (111 : Int32)), (.int (115 : Int32)), (.int (116 : Int32)), (.int (103 : Int32)), (.int (114 : Int32)), (.int (101 : Int32)), (.int (83 : Int32)), (.int (81 : Int32)), (.int (76 : Int32))] (10 : Int32) (by decide +kernel) (by decide) rfl 40 (by decide) (by decide) 6 100 rfl rfl (by decide) (by decide) 30 (hb hby own_d2_28) rfl ?_
      clear X eT hS hk hZ hown; clear T k0; intro c32 T h31 vm k0 t40 kb41 X eT E33 hS hk hZ hown CR34 Li35 A36 F37 F38 V39 ns42
      replace P0_Str := P0_Str.ext E33
      replace P1_Old := P1_Old.ext E33
      replace Str13 := Str13.ext E33
      replace Str28 := Str28.ext E33
      replace K0 := K0.ext E33
      replace C := C.trans CR34
      replace sz_h : h0.size ≤ h31.size := Nat.le_trans sz_h E33.1
      show Go p e below _ T (mkF m 30 #[.val (.ref x), .val .null] [(.ref c32), (.ref x)])
      have Str43 : Str Z h31 c32 t40 ([80, 111, 115, 116, 103, 114, 101, 83, 81, 76] : List Int32) := Str.of A36 F37 F38 V39 (by decide +kernel) (by decide +kernel) (by decide +kernel) (by decide)
      refine gvirtual (y := (⟨"java/lang/String", "equals", "(Ljava/lang/Object;)Z"⟩ : MethodName)) (z := (⟨"java/lang/String", "equals", "(Ljava/lang/Object;)Z"⟩ : MethodName)) (a := x) (argsL := [(.ref c32)]) (st := []) X hx hZ hown (own_w21 hw) (own_w22 hw) (notFace_of_selects (args := #[]) (mvT hZ (own_w24 hw))) (own_w24 hw) (own_w23 hw) (by decide) P0_Str.exa (payEq (W := 0) hZ hw P0_Str Str43 (O2.ext P1_Old.2) P5 (by decide) (by decide)) eT (by rw [hml]; rfl) (lenOf own_pd4 rfl) rfl (Nat.le_of_eq rfl) 6 100 rfl rfl (by decide) (by decide) 33 (hb hby own_d2_30) rfl ?_
      clear X eT; clear T; intro v T h44 L2 Lc X eT hL hQ45
      obtain ⟨rfl, rfl, hh⟩ := hQ45
      replace hh := hh.symm; subst hh
      replace N : Fr n0 L2 := by rw [hL]; exact Fr.app N (Fr.nil n0)
      clear hL
      show Go p e below _ T (mkF m 33 #[.val (.ref x), .val .null] [(.int (if cs = ([80, 111, 115, 116, 103, 114, 101, 83, 81, 76] : List Int32) then 1 else 0))])
      rcases Decidable.em (cs = ([80, 111, 115, 116, 103, 114, 101, 83, 81, 76] : List Int32)) with e2 | e2
      · rw [if_pos e2]
        show Go p e below _ T (mkF m 33 #[.val (.ref x), .val .null] [(.int (1 : Int32))])
        refine gifNo X hx 36 (hb hby own_d2_33) rfl (by decide) ?_
        refine ggetS X hx hZ (host := "") hown (Or.inl (own_w118 hw)) Via.refl eT (SG.ext P1_Old.2) 39 (hb hby own_d2_36) rfl ?_
        clear X eT; clear T; intro T X eT
        refine gastoreN X hx #[.val (.ref x), .val (.ref dg)] 40 (hb hby own_d2_39) rfl rfl rfl ?_
        refine galoadN (v := (.ref dg)) X hx 41 (hb hby own_d2_40) rfl rfl rfl ?_
        have hv := own_of2 (dm := dm) (dg := dg) e0 e1 e2
        rw [← hv]
        exact gRetS X hx hlk hret rfl (Or.inr (Or.inr (Or.inr (Or.inr ⟨rfl, rfl, (own_ofr cs dm dg)⟩)))) (hb hby own_d2_41) eT hS hk hZ (own_EW hw) C (by decide) (by decide) ⟨rfl, N, K0⟩
      · rw [if_neg e2]
        show Go p e below _ T (mkF m 33 #[.val (.ref x), .val .null] [(.int (0 : Int32))])
        refine gifYes X hx 40 (hb hby own_d2_33) (by decide) (by decide) (by decide) ?_
        refine galoadN (v := .null) X hx 41 (hb hby own_d2_40) rfl rfl rfl ?_
        have hv := own_of3 (dm := dm) (dg := dg) e0 e1 e2
        rw [← hv]
        exact gRetS X hx hlk hret rfl (Or.inr (Or.inr (Or.inr (Or.inr ⟨rfl, rfl, (own_ofr cs dm dg)⟩)))) (hb hby own_d2_41) eT hS hk hZ (own_EW hw) C (by decide) (by decide) ⟨rfl, N, K0⟩
set_option maxRecDepth 65536 in
set_option maxHeartbeats 40000000 in
theorem rm0 (l : Launch) (Z : State) (a0 : Array Value) (hw : ∀ d ∈ tables_1, d.before a0 Z = true) (p0 : Int32) (p1 : Int32) (p2 : Int32) (p3 : Int32) (G1 : Int32) (G3 : Value) (dm : Addr) (dg : Addr) (h0 : Heap) (n0 : Nat) (Z0 : n0 ≤ h0.size) (P0_Old : Old Z n0 h0) (O2 : Sta Z Z.heap "java/lang/String" "COMPACT_STRINGS" "Z" (.int G1)) (P5 : ¬ G1 = (0 : Int32)) (O4 : Sta Z Z.heap "jdk/internal/util/Preconditions" "SIOOBE_FORMATTER" "Ljava/util/function/BiFunction;" G3) (rG3 : G3.isRef = true) (SM : Sta Z Z.heap "com/example/fasten/fasten/sql/Dialect" "MARIADB" "Lcom/example/fasten/fasten/sql/Dialect;" (.ref dm)) (SG : Sta Z Z.heap "com/example/fasten/fasten/sql/Dialect" "POSTGRESQL" "Lcom/example/fasten/fasten/sql/Dialect;" (.ref dg)) :
    CtL l x code maxLocals ret tables_1 room_1 Z own_EL #[(.int p0), (.int p1), (.int p2), (.int p3)] h0 (fun v h L => v = some (.int (1 : Int32)) ∧ Fr n0 L ∧ Keep h0 h []) := by
  refine CtL.walk (Ls := #[.val (.int p0), .val (.int p1), .val (.int p2), .val (.int p3), .unset, .unset, .unset, .unset, .unset, .unset, .unset, .unset, .unset]) (plainFor_of_name own_pn0) (fun m => by rcases ref_cases rG3 with rfl | ⟨_, rfl⟩ <;> rfl) ?_
  intro p e s m below meth cc_ T vm k0 hx hby hml hown hnm hret hlk hZ X eT hS hk C
  have N := Fr.nil n0
  have K0 := Keep.refl h0 []
  have sz_h : h0.size ≤ h0.size := Nat.le_refl _
  refine giloadN (v := p0) X hx 1 (hb hby at_0) rfl rfl ?_
  refine gldcI X hx hZ hown (own_w0 hw) 3 (hb hby at_1) rfl ?_
  refine giand X hx 4 (hb hby at_3) rfl ?_
  refine giconst X hx (3 : Int32) 5 (hb hby at_4) rfl rfl ?_
  refine girem X hx 6 (hb hby at_5) rfl (by decide) ?_
  rcases own_mod3 p0 with hb3 | hb3 | hb3
  · rw [hb3]
    show Go p e below _ T (mkF m 6 #[.val (.int p0), .val (.int p1), .val (.int p2), .val (.int p3), .unset, .unset, .unset, .unset, .unset, .unset, .unset, .unset, .unset] [(.int (0 : Int32))])
    refine gistore X hx #[.val (.int p0), .val (.int p1), .val (.int p2), .val (.int p3), .val (.int (0 : Int32)), .unset, .unset, .unset, .unset, .unset, .unset, .unset, .unset] 8 (hb hby at_6) rfl rfl ?_
    refine giloadN (v := p1) X hx 9 (hb hby at_8) rfl rfl ?_
    refine giconst X hx (3 : Int32) 10 (hb hby at_9) rfl rfl ?_
    refine giand X hx 11 (hb hby at_10) rfl ?_
    refine gistore X hx #[.val (.int p0), .val (.int p1), .val (.int p2), .val (.int p3), .val (.int (0 : Int32)), .val (.int (p1 &&& (3 : Int32))), .unset, .unset, .unset, .unset, .unset, .unset, .unset] 13 (hb hby at_11) rfl rfl ?_
    refine giloadN (v := p2) X hx 14 (hb hby at_13) rfl rfl ?_
    refine gbipush X hx (15 : Int32) 16 (hb hby at_14) rfl rfl ?_
    refine giand X hx 17 (hb hby at_16) rfl ?_
    refine gistore X hx #[.val (.int p0), .val (.int p1), .val (.int p2), .val (.int p3), .val (.int (0 : Int32)), .val (.int (p1 &&& (3 : Int32))), .val (.int (p2 &&& (15 : Int32))), .unset, .unset, .unset, .unset, .unset, .unset] 19 (hb hby at_17) rfl rfl ?_
    refine giloadN (v := p3) X hx 20 (hb hby at_19) rfl rfl ?_
    refine gsipush X hx (255 : Int32) 23 (hb hby at_20) rfl rfl ?_
    refine giand X hx 24 (hb hby at_23) rfl ?_
    refine gi2c X hx 25 (hb hby at_24) rfl ?_
    rw [own_i2c8]
    refine gistore X hx #[.val (.int p0), .val (.int p1), .val (.int p2), .val (.int p3), .val (.int (0 : Int32)), .val (.int (p1 &&& (3 : Int32))), .val (.int (p2 &&& (15 : Int32))), .val (.int (p3 &&& (255 : Int32))), .unset, .unset, .unset, .unset, .unset] 27 (hb hby at_25) rfl rfl ?_
    refine giload (v := (0 : Int32)) X hx 29 (hb hby at_27) rfl rfl ?_
    refine gstaticS (y := (⟨"com/example/fasten/fasten/sql/DialectOfPinLaw", "nameOf", "(I)Ljava/lang/String;"⟩ : MethodName)) (argsL := [(.int (0 : Int32))]) (st := []) X hx hZ hown (own_w1 hw) (own_w2 hw) (own_w3 hw) (own_w4 hw) (by decide) hS hk (payS (W := 0) (rm_nameOf0 l Z a0 hw h0 n0 (Nat.le_trans Z0 sz_h)) hZ (own_w4 hw) (own_w3 hw) (by decide) (by decide) (own_EW hw) C.1 all0) eT (by rw [hml]; rfl) (lenOf own_pd5 rfl) rfl (Nat.le_of_eq rfl) 2 32 rfl rfl (by decide) (by decide) 32 (hb hby at_29) rfl ?_
    clear X eT hS hk hZ hown; clear T k0; intro v T h1 L2 Lc vm k0 X eT hL hS hk hZ hown CR6 hQ2
    obtain ⟨x_3, t_4, rfl, Nq, K5, G7⟩ := hQ2
    replace N : Fr n0 L2 := by rw [hL]; exact Fr.app N Nq
    clear Nq hL
    replace P0_Old := P0_Old.keep K5 all0
    replace K0 := K0.trans K5 all0
    replace C := C.trans CR6
    replace sz_h : h0.size ≤ h1.size := Nat.le_trans sz_h K5.1
    show Go p e below _ T (mkF m 32 #[.val (.int p0), .val (.int p1), .val (.int p2), .val (.int p3), .val (.int (0 : Int32)), .val (.int (p1 &&& (3 : Int32))), .val (.int (p2 &&& (15 : Int32))), .val (.int (p3 &&& (255 : Int32))), .unset, .unset, .unset, .unset, .unset] [(.ref x_3)])
    refine gastore X hx #[.val (.int p0), .val (.int p1), .val (.int p2), .val (.int p3), .val (.int (0 : Int32)), .val (.int (p1 &&& (3 : Int32))), .val (.int (p2 &&& (15 : Int32))), .val (.int (p3 &&& (255 : Int32))), .val (.ref x_3), .unset, .unset, .unset, .unset] 34 (hb hby at_32) rfl rfl rfl ?_
    refine giload (v := (0 : Int32)) X hx 36 (hb hby at_34) rfl rfl ?_
    refine giconst X hx (2 : Int32) 37 (hb hby at_36) rfl rfl ?_
    refine gicmpYes X hx 46 (hb hby at_37) (by decide) (by decide) (by decide) ?_
    refine ggetS X hx hZ (host := "") hown (Or.inl (own_w13 hw)) Via.refl eT (SM.ext P0_Old.2) 49 (hb hby at_46) rfl ?_
    clear X eT; clear T; intro T X eT
    refine gastore X hx #[.val (.int p0), .val (.int p1), .val (.int p2), .val (.int p3), .val (.int (0 : Int32)), .val (.int (p1 &&& (3 : Int32))), .val (.int (p2 &&& (15 : Int32))), .val (.int (p3 &&& (255 : Int32))), .val (.ref x_3), .val (.ref dm), .unset, .unset, .unset] 51 (hb hby at_49) rfl rfl rfl ?_
    refine giload (v := (p1 &&& (3 : Int32))) X hx 53 (hb hby at_51) rfl rfl ?_
    rcases Decidable.em ((p1 &&& (3 : Int32)) = (0 : Int32)) with hs53 | hs53
    · refine gifNo X hx 56 (hb hby at_53) rfl ((if0 _ _).trans (teq hs53).2) ?_
      refine giload (v := (0 : Int32)) X hx 58 (hb hby at_56) rfl rfl ?_
      refine giload (v := (p2 &&& (15 : Int32))) X hx 60 (hb hby at_58) rfl rfl ?_
      refine giload (v := (p3 &&& (255 : Int32))) X hx 62 (hb hby at_60) rfl rfl ?_
      refine gstatic (y := (⟨"com/example/fasten/fasten/sql/DialectOfPinLaw", "substituted", "(IIC)Ljava/lang/String;"⟩ : MethodName)) (argsL := [(.int (0 : Int32)), (.int (p2 &&& (15 : Int32))), (.int (p3 &&& (255 : Int32)))]) (st := []) X hx hZ hown (own_w42 hw) (own_w43 hw) (own_w3 hw) (own_w44 hw) (by decide) (payP (W := 0) (rm_sub0 l Z a0 hw ((p2 &&& (15 : Int32))) ((p3 &&& (255 : Int32))) _ h1 n0 (Nat.le_trans Z0 sz_h) P0_Old (O2) (P5) (own_15 p2) (own_rng p3)) hZ (own_w44 hw) (own_w3 hw) (by decide) (by decide)) eT (by rw [hml]; rfl) (lenOf own_pd6 rfl) rfl (Nat.le_of_eq rfl) 5 50 rfl rfl (by decide) (by decide) 65 (hb hby at_62) rfl ?_
      clear X eT; clear T; intro v T h8 L2 Lc X eT hL hQ9
      obtain ⟨x_10, t_11, rfl, Nq, K12, zz_x_10, zz_t_11, G14⟩ := hQ9
      replace N : Fr n0 L2 := by rw [hL]; exact Fr.app N Nq
      clear Nq hL
      have ne_x_3_x_10 : x_3 ≠ x_10 := Nat.ne_of_lt (Nat.lt_of_lt_of_le G7.lt zz_x_10)
      have ne_x_10_x_3 : x_10 ≠ x_3 := Ne.symm ne_x_3_x_10
      have ne_t_4_x_10 : t_4 ≠ x_10 := Nat.ne_of_lt (Nat.lt_of_lt_of_le G7.lt2 zz_x_10)
      have ne_x_10_t_4 : x_10 ≠ t_4 := Ne.symm ne_t_4_x_10
      have sz_x_10 : h0.size ≤ x_10 := Nat.le_trans sz_h zz_x_10
      have ge_x_10 : n0 ≤ x_10 := Nat.le_trans Z0 sz_x_10
      have ne_x_3_t_11 : x_3 ≠ t_11 := Nat.ne_of_lt (Nat.lt_of_lt_of_le G7.lt zz_t_11)
      have ne_t_11_x_3 : t_11 ≠ x_3 := Ne.symm ne_x_3_t_11
      have ne_t_4_t_11 : t_4 ≠ t_11 := Nat.ne_of_lt (Nat.lt_of_lt_of_le G7.lt2 zz_t_11)
      have ne_t_11_t_4 : t_11 ≠ t_4 := Ne.symm ne_t_4_t_11
      have sz_t_11 : h0.size ≤ t_11 := Nat.le_trans sz_h zz_t_11
      have ge_t_11 : n0 ≤ t_11 := Nat.le_trans Z0 sz_t_11
      replace P0_Old := P0_Old.keep K12 all0
      replace G7 := G7.keep K12 nin0 nin0
      replace K0 := K0.trans K12 all0
      replace C := C.trans (CHr.keep K12 sf0 C.1)
      replace hk := Nat.le_trans hk K12.1
      replace sz_h : h0.size ≤ h8.size := Nat.le_trans sz_h K12.1
      show Go p e below _ T (mkF m 65 #[.val (.int p0), .val (.int p1), .val (.int p2), .val (.int p3), .val (.int (0 : Int32)), .val (.int (p1 &&& (3 : Int32))), .val (.int (p2 &&& (15 : Int32))), .val (.int (p3 &&& (255 : Int32))), .val (.ref x_3), .val (.ref dm), .unset, .unset, .unset] [(.ref x_10)])
      refine gastore X hx #[.val (.int p0), .val (.int p1), .val (.int p2), .val (.int p3), .val (.int (0 : Int32)), .val (.int (p1 &&& (3 : Int32))), .val (.int (p2 &&& (15 : Int32))), .val (.int (p3 &&& (255 : Int32))), .val (.ref x_3), .val (.ref dm), .val (.ref x_10), .unset, .unset] 67 (hb hby at_65) rfl rfl rfl ?_
      refine giload (v := (p2 &&& (15 : Int32))) X hx 69 (hb hby at_67) rfl rfl ?_
      refine gaload (v := (.ref x_3)) X hx 71 (hb hby at_69) rfl rfl rfl ?_
      refine gvirtual (y := (⟨"java/lang/String", "length", "()I"⟩ : MethodName)) (z := (⟨"java/lang/String", "length", "()I"⟩ : MethodName)) (a := x_3) (argsL := []) (st := [(.int (p2 &&& (15 : Int32)))]) X hx hZ hown (own_w66 hw) (own_w67 hw) (notFace_of_selects (args := #[]) (mvT hZ (own_w69 hw))) (own_w69 hw) (own_w68 hw) (by decide) G7.exa (payLen (W := 1) hZ hw G7 (O2.ext P0_Old.2) P5 (by decide) (by decide)) eT (by rw [hml]; rfl) (lenOf own_pd7 rfl) rfl (Nat.le_of_eq rfl) 5 50 rfl rfl (by decide) (by decide) 74 (hb hby at_71) rfl ?_
      clear X eT; clear T; intro v T h15 L2 Lc X eT hL hQ16
      obtain ⟨rfl, rfl, hh⟩ := hQ16
      replace hh := hh.symm; subst hh
      replace N : Fr n0 L2 := by rw [hL]; exact Fr.app N (Fr.nil n0)
      clear hL
      show Go p e below _ T (mkF m 74 #[.val (.int p0), .val (.int p1), .val (.int p2), .val (.int p3), .val (.int (0 : Int32)), .val (.int (p1 &&& (3 : Int32))), .val (.int (p2 &&& (15 : Int32))), .val (.int (p3 &&& (255 : Int32))), .val (.ref x_3), .val (.ref dm), .val (.ref x_10), .unset, .unset] [(.int (7 : Int32)), (.int (p2 &&& (15 : Int32)))])
      rcases Decidable.em ((p2 &&& (15 : Int32)) < (7 : Int32)) with hp74 | hp74
      · refine gicmpNo X hx 77 (hb hby at_74) rfl (tlt hp74).2.1 ?_
        refine giload (v := (p3 &&& (255 : Int32))) X hx 79 (hb hby at_77) rfl rfl ?_
        refine gaload (v := (.ref x_3)) X hx 81 (hb hby at_79) rfl rfl rfl ?_
        refine giload (v := (p2 &&& (15 : Int32))) X hx 83 (hb hby at_81) rfl rfl ?_
        refine gvirtual (y := (⟨"java/lang/String", "charAt", "(I)C"⟩ : MethodName)) (z := (⟨"java/lang/String", "charAt", "(I)C"⟩ : MethodName)) (a := x_3) (argsL := [(.int (p2 &&& (15 : Int32)))]) (st := [(.int (p3 &&& (255 : Int32)))]) X hx hZ hown (own_w96 hw) (own_w97 hw) (notFace_of_selects (args := #[]) (mvT hZ (own_w99 hw))) (own_w99 hw) (own_w98 hw) (by decide) G7.exa (payChr (W := 1) (i := (p2 &&& (15 : Int32)).toNatClampNeg) hZ hw G7 (O2.ext P0_Old.2) P5 (O4.ext P0_Old.2) rG3 (own_nat (own_15 p2) (by decide) hp74) (own_back (own_15 p2)) (by decide) (by decide)) eT (by rw [hml]; rfl) (lenOf own_pd8 rfl) rfl (Nat.le_of_eq rfl) 5 50 rfl rfl (by decide) (by decide) 86 (hb hby at_83) rfl ?_
        clear X eT; clear T; intro v T h17 L2 Lc X eT hL hQ18
        obtain ⟨rfl, rfl, hh⟩ := hQ18
        replace hh := hh.symm; subst hh
        replace N : Fr n0 L2 := by rw [hL]; exact Fr.app N (Fr.nil n0)
        clear hL
        show Go p e below _ T (mkF m 86 #[.val (.int p0), .val (.int p1), .val (.int p2), .val (.int p3), .val (.int (0 : Int32)), .val (.int (p1 &&& (3 : Int32))), .val (.int (p2 &&& (15 : Int32))), .val (.int (p3 &&& (255 : Int32))), .val (.ref x_3), .val (.ref dm), .val (.ref x_10), .unset, .unset] [(.int (([77, 97, 114, 105, 97, 68, 66] : List Int32).getD (p2 &&& (15 : Int32)).toNatClampNeg 0)), (.int (p3 &&& (255 : Int32)))])
        rcases Decidable.em ((p3 &&& (255 : Int32)) = (([77, 97, 114, 105, 97, 68, 66] : List Int32).getD (p2 &&& (15 : Int32)).toNatClampNeg 0)) with he86 | he86
        · refine gicmpNo X hx 89 (hb hby at_86) rfl (teq he86).2 ?_
          refine giconst X hx (1 : Int32) 90 (hb hby at_89) rfl rfl ?_
          refine ggoto X hx 94 (hb hby at_90) (by decide) (by decide) ?_
          refine gistore X hx #[.val (.int p0), .val (.int p1), .val (.int p2), .val (.int p3), .val (.int (0 : Int32)), .val (.int (p1 &&& (3 : Int32))), .val (.int (p2 &&& (15 : Int32))), .val (.int (p3 &&& (255 : Int32))), .val (.ref x_3), .val (.ref dm), .val (.ref x_10), .unset, .val (.int (1 : Int32))] 96 (hb hby at_94) rfl rfl ?_
          refine giload (v := (1 : Int32)) X hx 98 (hb hby at_96) rfl rfl ?_
          refine gifNo X hx 101 (hb hby at_98) rfl (by decide) ?_
          refine gaload (v := (.ref dm)) X hx 103 (hb hby at_101) rfl rfl rfl ?_
          refine ggoto X hx 107 (hb hby at_103) (by decide) (by decide) ?_
          refine gastore X hx #[.val (.int p0), .val (.int p1), .val (.int p2), .val (.int p3), .val (.int (0 : Int32)), .val (.int (p1 &&& (3 : Int32))), .val (.int (p2 &&& (15 : Int32))), .val (.int (p3 &&& (255 : Int32))), .val (.ref x_3), .val (.ref dm), .val (.ref x_10), .val (.ref dm), .val (.int (1 : Int32))] 109 (hb hby at_107) rfl rfl rfl ?_
          refine ggoto X hx 174 (hb hby at_109) (by decide) (by decide) ?_
          refine gaload (v := (.ref x_10)) X hx 176 (hb hby at_174) rfl rfl rfl ?_
          refine gstaticS (y := (⟨"com/example/fasten/fasten/sql/Dialect", "of", "(Ljava/lang/String;)Lcom/example/fasten/fasten/sql/Dialect;"⟩ : MethodName)) (argsL := [(.ref x_10)]) (st := []) X hx hZ hown (own_w17 hw) (own_w18 hw) (own_w14 hw) (own_w19 hw) (by decide) hS hk (payS (W := 0) (rm2 l Z a0 hw (x_10) (t_11) ((([77, 97, 114, 105, 97, 68, 66] : List Int32).set (p2 &&& (15 : Int32)).toNatClampNeg (p3 &&& (255 : Int32)))) _ _ _ h8 n0 (Nat.le_trans Z0 sz_h) G14 P0_Old (O2) (P5) (SM) (SG)) hZ (own_w19 hw) (own_w14 hw) (by decide) (by decide) (own_EW hw) C.1 all0) eT (by rw [hml]; rfl) (lenOf own_pd9 rfl) rfl (Nat.le_of_eq rfl) 11 150 rfl rfl (by decide) (by decide) 179 (hb hby at_176) rfl ?_
          clear X eT hS hk hZ hown; clear T k0; intro v T h19 L2 Lc vm k0 X eT hL hS hk hZ hown CR22 hQ20
          obtain ⟨rfl, Nq, K21⟩ := hQ20
          replace N : Fr n0 L2 := by rw [hL]; exact Fr.app N Nq
          clear Nq hL
          replace P0_Old := P0_Old.keep K21 all0
          replace G7 := G7.keep K21 nin0 nin0
          replace G14 := G14.keep K21 nin0 nin0
          replace K0 := K0.trans K21 all0
          replace C := C.trans CR22
          replace sz_h : h0.size ≤ h19.size := Nat.le_trans sz_h K21.1
          show Go p e below _ T (mkF m 179 #[.val (.int p0), .val (.int p1), .val (.int p2), .val (.int p3), .val (.int (0 : Int32)), .val (.int (p1 &&& (3 : Int32))), .val (.int (p2 &&& (15 : Int32))), .val (.int (p3 &&& (255 : Int32))), .val (.ref x_3), .val (.ref dm), .val (.ref x_10), .val (.ref dm), .val (.int (1 : Int32))] [(own_of (([77, 97, 114, 105, 97, 68, 66] : List Int32).set (p2 &&& (15 : Int32)).toNatClampNeg (p3 &&& (255 : Int32))) dm dg)])
          rw [show ((own_of (([77, 97, 114, 105, 97, 68, 66] : List Int32).set (p2 &&& (15 : Int32)).toNatClampNeg (p3 &&& (255 : Int32))) dm dg) : Value) = (.ref dm) from own_s1_0 hp74 he86]
          show Go p e below _ T (mkF m 179 #[.val (.int p0), .val (.int p1), .val (.int p2), .val (.int p3), .val (.int (0 : Int32)), .val (.int (p1 &&& (3 : Int32))), .val (.int (p2 &&& (15 : Int32))), .val (.int (p3 &&& (255 : Int32))), .val (.ref x_3), .val (.ref dm), .val (.ref x_10), .val (.ref dm), .val (.int (1 : Int32))] [(.ref dm)])
          refine gaload (v := (.ref dm)) X hx 181 (hb hby at_179) rfl rfl rfl ?_
          refine gacmp X hx true 184 (hb hby at_181) rfl rfl (decide_eq_true rfl) (by decide) (by decide) ?_
          refine giconst X hx (1 : Int32) 185 (hb hby at_184) rfl rfl ?_
          refine ggoto X hx 189 (hb hby at_185) (by decide) (by decide) ?_
          exact gRetL X hx hlk hret rfl (Or.inl ⟨rfl, by simp, _, rfl⟩) (hb hby at_189) eT hS hk (by decide) (by decide) ⟨rfl, N, K0⟩
        · refine gicmpYes X hx 93 (hb hby at_86) (feq he86).2 (by decide) (by decide) ?_
          refine giconst X hx (0 : Int32) 94 (hb hby at_93) rfl rfl ?_
          refine gistore X hx #[.val (.int p0), .val (.int p1), .val (.int p2), .val (.int p3), .val (.int (0 : Int32)), .val (.int (p1 &&& (3 : Int32))), .val (.int (p2 &&& (15 : Int32))), .val (.int (p3 &&& (255 : Int32))), .val (.ref x_3), .val (.ref dm), .val (.ref x_10), .unset, .val (.int (0 : Int32))] 96 (hb hby at_94) rfl rfl ?_
          refine giload (v := (0 : Int32)) X hx 98 (hb hby at_96) rfl rfl ?_
          refine gifYes X hx 106 (hb hby at_98) (by decide) (by decide) (by decide) ?_
          refine gaconstNull X hx 107 (hb hby at_106) rfl ?_
          refine gastore X hx #[.val (.int p0), .val (.int p1), .val (.int p2), .val (.int p3), .val (.int (0 : Int32)), .val (.int (p1 &&& (3 : Int32))), .val (.int (p2 &&& (15 : Int32))), .val (.int (p3 &&& (255 : Int32))), .val (.ref x_3), .val (.ref dm), .val (.ref x_10), .val .null, .val (.int (0 : Int32))] 109 (hb hby at_107) rfl rfl rfl ?_
          refine ggoto X hx 174 (hb hby at_109) (by decide) (by decide) ?_
          refine gaload (v := (.ref x_10)) X hx 176 (hb hby at_174) rfl rfl rfl ?_
          refine gstaticS (y := (⟨"com/example/fasten/fasten/sql/Dialect", "of", "(Ljava/lang/String;)Lcom/example/fasten/fasten/sql/Dialect;"⟩ : MethodName)) (argsL := [(.ref x_10)]) (st := []) X hx hZ hown (own_w17 hw) (own_w18 hw) (own_w14 hw) (own_w19 hw) (by decide) hS hk (payS (W := 0) (rm2 l Z a0 hw (x_10) (t_11) ((([77, 97, 114, 105, 97, 68, 66] : List Int32).set (p2 &&& (15 : Int32)).toNatClampNeg (p3 &&& (255 : Int32)))) _ _ _ h8 n0 (Nat.le_trans Z0 sz_h) G14 P0_Old (O2) (P5) (SM) (SG)) hZ (own_w19 hw) (own_w14 hw) (by decide) (by decide) (own_EW hw) C.1 all0) eT (by rw [hml]; rfl) (lenOf own_pd9 rfl) rfl (Nat.le_of_eq rfl) 11 150 rfl rfl (by decide) (by decide) 179 (hb hby at_176) rfl ?_
          clear X eT hS hk hZ hown; clear T k0; intro v T h23 L2 Lc vm k0 X eT hL hS hk hZ hown CR26 hQ24
          obtain ⟨rfl, Nq, K25⟩ := hQ24
          replace N : Fr n0 L2 := by rw [hL]; exact Fr.app N Nq
          clear Nq hL
          replace P0_Old := P0_Old.keep K25 all0
          replace G7 := G7.keep K25 nin0 nin0
          replace G14 := G14.keep K25 nin0 nin0
          replace K0 := K0.trans K25 all0
          replace C := C.trans CR26
          replace sz_h : h0.size ≤ h23.size := Nat.le_trans sz_h K25.1
          show Go p e below _ T (mkF m 179 #[.val (.int p0), .val (.int p1), .val (.int p2), .val (.int p3), .val (.int (0 : Int32)), .val (.int (p1 &&& (3 : Int32))), .val (.int (p2 &&& (15 : Int32))), .val (.int (p3 &&& (255 : Int32))), .val (.ref x_3), .val (.ref dm), .val (.ref x_10), .val .null, .val (.int (0 : Int32))] [(own_of (([77, 97, 114, 105, 97, 68, 66] : List Int32).set (p2 &&& (15 : Int32)).toNatClampNeg (p3 &&& (255 : Int32))) dm dg)])
          rw [show ((own_of (([77, 97, 114, 105, 97, 68, 66] : List Int32).set (p2 &&& (15 : Int32)).toNatClampNeg (p3 &&& (255 : Int32))) dm dg) : Value) = .null from own_s2_0 (own_15 p2) hp74 he86]
          show Go p e below _ T (mkF m 179 #[.val (.int p0), .val (.int p1), .val (.int p2), .val (.int p3), .val (.int (0 : Int32)), .val (.int (p1 &&& (3 : Int32))), .val (.int (p2 &&& (15 : Int32))), .val (.int (p3 &&& (255 : Int32))), .val (.ref x_3), .val (.ref dm), .val (.ref x_10), .val .null, .val (.int (0 : Int32))] [.null])
          refine gaload (v := .null) X hx 181 (hb hby at_179) rfl rfl rfl ?_
          refine gacmp X hx true 184 (hb hby at_181) rfl rfl (decide_eq_true rfl) (by decide) (by decide) ?_
          refine giconst X hx (1 : Int32) 185 (hb hby at_184) rfl rfl ?_
          refine ggoto X hx 189 (hb hby at_185) (by decide) (by decide) ?_
          exact gRetL X hx hlk hret rfl (Or.inl ⟨rfl, by simp, _, rfl⟩) (hb hby at_189) eT hS hk (by decide) (by decide) ⟨rfl, N, K0⟩
      · refine gicmpYes X hx 89 (hb hby at_74) (flt hp74).2.1 (by decide) (by decide) ?_
        refine giconst X hx (1 : Int32) 90 (hb hby at_89) rfl rfl ?_
        refine ggoto X hx 94 (hb hby at_90) (by decide) (by decide) ?_
        refine gistore X hx #[.val (.int p0), .val (.int p1), .val (.int p2), .val (.int p3), .val (.int (0 : Int32)), .val (.int (p1 &&& (3 : Int32))), .val (.int (p2 &&& (15 : Int32))), .val (.int (p3 &&& (255 : Int32))), .val (.ref x_3), .val (.ref dm), .val (.ref x_10), .unset, .val (.int (1 : Int32))] 96 (hb hby at_94) rfl rfl ?_
        refine giload (v := (1 : Int32)) X hx 98 (hb hby at_96) rfl rfl ?_
        refine gifNo X hx 101 (hb hby at_98) rfl (by decide) ?_
        refine gaload (v := (.ref dm)) X hx 103 (hb hby at_101) rfl rfl rfl ?_
        refine ggoto X hx 107 (hb hby at_103) (by decide) (by decide) ?_
        refine gastore X hx #[.val (.int p0), .val (.int p1), .val (.int p2), .val (.int p3), .val (.int (0 : Int32)), .val (.int (p1 &&& (3 : Int32))), .val (.int (p2 &&& (15 : Int32))), .val (.int (p3 &&& (255 : Int32))), .val (.ref x_3), .val (.ref dm), .val (.ref x_10), .val (.ref dm), .val (.int (1 : Int32))] 109 (hb hby at_107) rfl rfl rfl ?_
        refine ggoto X hx 174 (hb hby at_109) (by decide) (by decide) ?_
        refine gaload (v := (.ref x_10)) X hx 176 (hb hby at_174) rfl rfl rfl ?_
        refine gstaticS (y := (⟨"com/example/fasten/fasten/sql/Dialect", "of", "(Ljava/lang/String;)Lcom/example/fasten/fasten/sql/Dialect;"⟩ : MethodName)) (argsL := [(.ref x_10)]) (st := []) X hx hZ hown (own_w17 hw) (own_w18 hw) (own_w14 hw) (own_w19 hw) (by decide) hS hk (payS (W := 0) (rm2 l Z a0 hw (x_10) (t_11) ((([77, 97, 114, 105, 97, 68, 66] : List Int32).set (p2 &&& (15 : Int32)).toNatClampNeg (p3 &&& (255 : Int32)))) _ _ _ h8 n0 (Nat.le_trans Z0 sz_h) G14 P0_Old (O2) (P5) (SM) (SG)) hZ (own_w19 hw) (own_w14 hw) (by decide) (by decide) (own_EW hw) C.1 all0) eT (by rw [hml]; rfl) (lenOf own_pd9 rfl) rfl (Nat.le_of_eq rfl) 11 150 rfl rfl (by decide) (by decide) 179 (hb hby at_176) rfl ?_
        clear X eT hS hk hZ hown; clear T k0; intro v T h27 L2 Lc vm k0 X eT hL hS hk hZ hown CR30 hQ28
        obtain ⟨rfl, Nq, K29⟩ := hQ28
        replace N : Fr n0 L2 := by rw [hL]; exact Fr.app N Nq
        clear Nq hL
        replace P0_Old := P0_Old.keep K29 all0
        replace G7 := G7.keep K29 nin0 nin0
        replace G14 := G14.keep K29 nin0 nin0
        replace K0 := K0.trans K29 all0
        replace C := C.trans CR30
        replace sz_h : h0.size ≤ h27.size := Nat.le_trans sz_h K29.1
        show Go p e below _ T (mkF m 179 #[.val (.int p0), .val (.int p1), .val (.int p2), .val (.int p3), .val (.int (0 : Int32)), .val (.int (p1 &&& (3 : Int32))), .val (.int (p2 &&& (15 : Int32))), .val (.int (p3 &&& (255 : Int32))), .val (.ref x_3), .val (.ref dm), .val (.ref x_10), .val (.ref dm), .val (.int (1 : Int32))] [(own_of (([77, 97, 114, 105, 97, 68, 66] : List Int32).set (p2 &&& (15 : Int32)).toNatClampNeg (p3 &&& (255 : Int32))) dm dg)])
        rw [show ((own_of (([77, 97, 114, 105, 97, 68, 66] : List Int32).set (p2 &&& (15 : Int32)).toNatClampNeg (p3 &&& (255 : Int32))) dm dg) : Value) = (.ref dm) from own_s3_0 (own_15 p2) hp74]
        show Go p e below _ T (mkF m 179 #[.val (.int p0), .val (.int p1), .val (.int p2), .val (.int p3), .val (.int (0 : Int32)), .val (.int (p1 &&& (3 : Int32))), .val (.int (p2 &&& (15 : Int32))), .val (.int (p3 &&& (255 : Int32))), .val (.ref x_3), .val (.ref dm), .val (.ref x_10), .val (.ref dm), .val (.int (1 : Int32))] [(.ref dm)])
        refine gaload (v := (.ref dm)) X hx 181 (hb hby at_179) rfl rfl rfl ?_
        refine gacmp X hx true 184 (hb hby at_181) rfl rfl (decide_eq_true rfl) (by decide) (by decide) ?_
        refine giconst X hx (1 : Int32) 185 (hb hby at_184) rfl rfl ?_
        refine ggoto X hx 189 (hb hby at_185) (by decide) (by decide) ?_
        exact gRetL X hx hlk hret rfl (Or.inl ⟨rfl, by simp, _, rfl⟩) (hb hby at_189) eT hS hk (by decide) (by decide) ⟨rfl, N, K0⟩
    · refine gifYes X hx 112 (hb hby at_53) ((if0 _ _).trans (feq hs53).2) (by decide) (by decide) ?_
      refine giload (v := (p1 &&& (3 : Int32))) X hx 114 (hb hby at_112) rfl rfl ?_
      refine giconst X hx (1 : Int32) 115 (hb hby at_114) rfl rfl ?_
      rcases Decidable.em ((p1 &&& (3 : Int32)) = (1 : Int32)) with hs115 | hs115
      · refine gicmpNo X hx 118 (hb hby at_115) rfl (teq hs115).2 ?_
        refine giload (v := (0 : Int32)) X hx 120 (hb hby at_118) rfl rfl ?_
        refine giload (v := (p3 &&& (255 : Int32))) X hx 122 (hb hby at_120) rfl rfl ?_
        refine gstatic (y := (⟨"com/example/fasten/fasten/sql/DialectOfPinLaw", "appended", "(IC)Ljava/lang/String;"⟩ : MethodName)) (argsL := [(.int (0 : Int32)), (.int (p3 &&& (255 : Int32)))]) (st := []) X hx hZ hown (own_w77 hw) (own_w78 hw) (own_w3 hw) (own_w79 hw) (by decide) (payP (W := 0) (rm_app0 l Z a0 hw ((p3 &&& (255 : Int32))) _ h1 n0 (Nat.le_trans Z0 sz_h) P0_Old (O2) (P5) (own_rng p3)) hZ (own_w79 hw) (own_w3 hw) (by decide) (by decide)) eT (by rw [hml]; rfl) (lenOf own_pd10 rfl) rfl (Nat.le_of_eq rfl) 5 52 rfl rfl (by decide) (by decide) 125 (hb hby at_122) rfl ?_
        clear X eT; clear T; intro v T h31 L2 Lc X eT hL hQ32
        obtain ⟨x_33, t_34, rfl, Nq, K35, zz_x_33, zz_t_34, G37⟩ := hQ32
        replace N : Fr n0 L2 := by rw [hL]; exact Fr.app N Nq
        clear Nq hL
        have ne_x_3_x_33 : x_3 ≠ x_33 := Nat.ne_of_lt (Nat.lt_of_lt_of_le G7.lt zz_x_33)
        have ne_x_33_x_3 : x_33 ≠ x_3 := Ne.symm ne_x_3_x_33
        have ne_t_4_x_33 : t_4 ≠ x_33 := Nat.ne_of_lt (Nat.lt_of_lt_of_le G7.lt2 zz_x_33)
        have ne_x_33_t_4 : x_33 ≠ t_4 := Ne.symm ne_t_4_x_33
        have sz_x_33 : h0.size ≤ x_33 := Nat.le_trans sz_h zz_x_33
        have ge_x_33 : n0 ≤ x_33 := Nat.le_trans Z0 sz_x_33
        have ne_x_3_t_34 : x_3 ≠ t_34 := Nat.ne_of_lt (Nat.lt_of_lt_of_le G7.lt zz_t_34)
        have ne_t_34_x_3 : t_34 ≠ x_3 := Ne.symm ne_x_3_t_34
        have ne_t_4_t_34 : t_4 ≠ t_34 := Nat.ne_of_lt (Nat.lt_of_lt_of_le G7.lt2 zz_t_34)
        have ne_t_34_t_4 : t_34 ≠ t_4 := Ne.symm ne_t_4_t_34
        have sz_t_34 : h0.size ≤ t_34 := Nat.le_trans sz_h zz_t_34
        have ge_t_34 : n0 ≤ t_34 := Nat.le_trans Z0 sz_t_34
        replace P0_Old := P0_Old.keep K35 all0
        replace G7 := G7.keep K35 nin0 nin0
        replace K0 := K0.trans K35 all0
        replace C := C.trans (CHr.keep K35 sf0 C.1)
        replace hk := Nat.le_trans hk K35.1
        replace sz_h : h0.size ≤ h31.size := Nat.le_trans sz_h K35.1
        show Go p e below _ T (mkF m 125 #[.val (.int p0), .val (.int p1), .val (.int p2), .val (.int p3), .val (.int (0 : Int32)), .val (.int (p1 &&& (3 : Int32))), .val (.int (p2 &&& (15 : Int32))), .val (.int (p3 &&& (255 : Int32))), .val (.ref x_3), .val (.ref dm), .unset, .unset, .unset] [(.ref x_33)])
        refine gastore X hx #[.val (.int p0), .val (.int p1), .val (.int p2), .val (.int p3), .val (.int (0 : Int32)), .val (.int (p1 &&& (3 : Int32))), .val (.int (p2 &&& (15 : Int32))), .val (.int (p3 &&& (255 : Int32))), .val (.ref x_3), .val (.ref dm), .val (.ref x_33), .unset, .unset] 127 (hb hby at_125) rfl rfl rfl ?_
        refine gaconstNull X hx 128 (hb hby at_127) rfl ?_
        refine gastore X hx #[.val (.int p0), .val (.int p1), .val (.int p2), .val (.int p3), .val (.int (0 : Int32)), .val (.int (p1 &&& (3 : Int32))), .val (.int (p2 &&& (15 : Int32))), .val (.int (p3 &&& (255 : Int32))), .val (.ref x_3), .val (.ref dm), .val (.ref x_33), .val .null, .unset] 130 (hb hby at_128) rfl rfl rfl ?_
        refine ggoto X hx 174 (hb hby at_130) (by decide) (by decide) ?_
        refine gaload (v := (.ref x_33)) X hx 176 (hb hby at_174) rfl rfl rfl ?_
        refine gstaticS (y := (⟨"com/example/fasten/fasten/sql/Dialect", "of", "(Ljava/lang/String;)Lcom/example/fasten/fasten/sql/Dialect;"⟩ : MethodName)) (argsL := [(.ref x_33)]) (st := []) X hx hZ hown (own_w17 hw) (own_w18 hw) (own_w14 hw) (own_w19 hw) (by decide) hS hk (payS (W := 0) (rm2 l Z a0 hw (x_33) (t_34) (([77, 97, 114, 105, 97, 68, 66, (p3 &&& (255 : Int32))] : List Int32)) _ _ _ h31 n0 (Nat.le_trans Z0 sz_h) G37 P0_Old (O2) (P5) (SM) (SG)) hZ (own_w19 hw) (own_w14 hw) (by decide) (by decide) (own_EW hw) C.1 all0) eT (by rw [hml]; rfl) (lenOf own_pd9 rfl) rfl (Nat.le_of_eq rfl) 11 152 rfl rfl (by decide) (by decide) 179 (hb hby at_176) rfl ?_
        clear X eT hS hk hZ hown; clear T k0; intro v T h38 L2 Lc vm k0 X eT hL hS hk hZ hown CR41 hQ39
        obtain ⟨rfl, Nq, K40⟩ := hQ39
        replace N : Fr n0 L2 := by rw [hL]; exact Fr.app N Nq
        clear Nq hL
        replace P0_Old := P0_Old.keep K40 all0
        replace G7 := G7.keep K40 nin0 nin0
        replace G37 := G37.keep K40 nin0 nin0
        replace K0 := K0.trans K40 all0
        replace C := C.trans CR41
        replace sz_h : h0.size ≤ h38.size := Nat.le_trans sz_h K40.1
        show Go p e below _ T (mkF m 179 #[.val (.int p0), .val (.int p1), .val (.int p2), .val (.int p3), .val (.int (0 : Int32)), .val (.int (p1 &&& (3 : Int32))), .val (.int (p2 &&& (15 : Int32))), .val (.int (p3 &&& (255 : Int32))), .val (.ref x_3), .val (.ref dm), .val (.ref x_33), .val .null, .unset] [(own_of ([77, 97, 114, 105, 97, 68, 66, (p3 &&& (255 : Int32))] : List Int32) dm dg)])
        rw [show ((own_of ([77, 97, 114, 105, 97, 68, 66, (p3 &&& (255 : Int32))] : List Int32) dm dg) : Value) = .null from own_len (by simp) (by simp) (by simp)]
        show Go p e below _ T (mkF m 179 #[.val (.int p0), .val (.int p1), .val (.int p2), .val (.int p3), .val (.int (0 : Int32)), .val (.int (p1 &&& (3 : Int32))), .val (.int (p2 &&& (15 : Int32))), .val (.int (p3 &&& (255 : Int32))), .val (.ref x_3), .val (.ref dm), .val (.ref x_33), .val .null, .unset] [.null])
        refine gaload (v := .null) X hx 181 (hb hby at_179) rfl rfl rfl ?_
        refine gacmp X hx true 184 (hb hby at_181) rfl rfl (decide_eq_true rfl) (by decide) (by decide) ?_
        refine giconst X hx (1 : Int32) 185 (hb hby at_184) rfl rfl ?_
        refine ggoto X hx 189 (hb hby at_185) (by decide) (by decide) ?_
        exact gRetL X hx hlk hret rfl (Or.inl ⟨rfl, by simp, _, rfl⟩) (hb hby at_189) eT hS hk (by decide) (by decide) ⟨rfl, N, K0⟩
      · refine gicmpYes X hx 133 (hb hby at_115) (feq hs115).2 (by decide) (by decide) ?_
        refine giload (v := (p1 &&& (3 : Int32))) X hx 135 (hb hby at_133) rfl rfl ?_
        refine giconst X hx (2 : Int32) 136 (hb hby at_135) rfl rfl ?_
        rcases Decidable.em ((p1 &&& (3 : Int32)) = (2 : Int32)) with hs136 | hs136
        · refine gicmpNo X hx 139 (hb hby at_136) rfl (teq hs136).2 ?_
          refine giload (v := (0 : Int32)) X hx 141 (hb hby at_139) rfl rfl ?_
          refine gstaticS (y := (⟨"com/example/fasten/fasten/sql/DialectOfPinLaw", "truncated", "(I)Ljava/lang/String;"⟩ : MethodName)) (argsL := [(.int (0 : Int32))]) (st := []) X hx hZ hown (own_w38 hw) (own_w39 hw) (own_w3 hw) (own_w40 hw) (by decide) hS hk (payS (W := 0) (rm_truncated0 l Z a0 hw h1 n0 (Nat.le_trans Z0 sz_h)) hZ (own_w40 hw) (own_w3 hw) (by decide) (by decide) (own_EW hw) C.1 all0) eT (by rw [hml]; rfl) (lenOf own_pd5 rfl) rfl (Nat.le_of_eq rfl) 4 60 rfl rfl (by decide) (by decide) 144 (hb hby at_141) rfl ?_
          clear X eT hS hk hZ hown; clear T k0; intro v T h42 L2 Lc vm k0 X eT hL hS hk hZ hown CR47 hQ43
          obtain ⟨x_44, t_45, rfl, Nq, K46, G48⟩ := hQ43
          replace N : Fr n0 L2 := by rw [hL]; exact Fr.app N Nq
          clear Nq hL
          replace P0_Old := P0_Old.keep K46 all0
          replace G7 := G7.keep K46 nin0 nin0
          replace K0 := K0.trans K46 all0
          replace C := C.trans CR47
          replace sz_h : h0.size ≤ h42.size := Nat.le_trans sz_h K46.1
          show Go p e below _ T (mkF m 144 #[.val (.int p0), .val (.int p1), .val (.int p2), .val (.int p3), .val (.int (0 : Int32)), .val (.int (p1 &&& (3 : Int32))), .val (.int (p2 &&& (15 : Int32))), .val (.int (p3 &&& (255 : Int32))), .val (.ref x_3), .val (.ref dm), .unset, .unset, .unset] [(.ref x_44)])
          refine gastore X hx #[.val (.int p0), .val (.int p1), .val (.int p2), .val (.int p3), .val (.int (0 : Int32)), .val (.int (p1 &&& (3 : Int32))), .val (.int (p2 &&& (15 : Int32))), .val (.int (p3 &&& (255 : Int32))), .val (.ref x_3), .val (.ref dm), .val (.ref x_44), .unset, .unset] 146 (hb hby at_144) rfl rfl rfl ?_
          refine gaconstNull X hx 147 (hb hby at_146) rfl ?_
          refine gastore X hx #[.val (.int p0), .val (.int p1), .val (.int p2), .val (.int p3), .val (.int (0 : Int32)), .val (.int (p1 &&& (3 : Int32))), .val (.int (p2 &&& (15 : Int32))), .val (.int (p3 &&& (255 : Int32))), .val (.ref x_3), .val (.ref dm), .val (.ref x_44), .val .null, .unset] 149 (hb hby at_147) rfl rfl rfl ?_
          refine ggoto X hx 174 (hb hby at_149) (by decide) (by decide) ?_
          refine gaload (v := (.ref x_44)) X hx 176 (hb hby at_174) rfl rfl rfl ?_
          refine gstaticS (y := (⟨"com/example/fasten/fasten/sql/Dialect", "of", "(Ljava/lang/String;)Lcom/example/fasten/fasten/sql/Dialect;"⟩ : MethodName)) (argsL := [(.ref x_44)]) (st := []) X hx hZ hown (own_w17 hw) (own_w18 hw) (own_w14 hw) (own_w19 hw) (by decide) hS hk (payS (W := 0) (rm2 l Z a0 hw (x_44) (t_45) (([77, 97, 114, 105, 97, 68] : List Int32)) _ _ _ h42 n0 (Nat.le_trans Z0 sz_h) G48 P0_Old (O2) (P5) (SM) (SG)) hZ (own_w19 hw) (own_w14 hw) (by decide) (by decide) (own_EW hw) C.1 all0) eT (by rw [hml]; rfl) (lenOf own_pd9 rfl) rfl (Nat.le_of_eq rfl) 10 160 rfl rfl (by decide) (by decide) 179 (hb hby at_176) rfl ?_
          clear X eT hS hk hZ hown; clear T k0; intro v T h49 L2 Lc vm k0 X eT hL hS hk hZ hown CR52 hQ50
          obtain ⟨rfl, Nq, K51⟩ := hQ50
          replace N : Fr n0 L2 := by rw [hL]; exact Fr.app N Nq
          clear Nq hL
          replace P0_Old := P0_Old.keep K51 all0
          replace G7 := G7.keep K51 nin0 nin0
          replace G48 := G48.keep K51 nin0 nin0
          replace K0 := K0.trans K51 all0
          replace C := C.trans CR52
          replace sz_h : h0.size ≤ h49.size := Nat.le_trans sz_h K51.1
          show Go p e below _ T (mkF m 179 #[.val (.int p0), .val (.int p1), .val (.int p2), .val (.int p3), .val (.int (0 : Int32)), .val (.int (p1 &&& (3 : Int32))), .val (.int (p2 &&& (15 : Int32))), .val (.int (p3 &&& (255 : Int32))), .val (.ref x_3), .val (.ref dm), .val (.ref x_44), .val .null, .unset] [(own_of ([77, 97, 114, 105, 97, 68] : List Int32) dm dg)])
          rw [show ((own_of ([77, 97, 114, 105, 97, 68] : List Int32) dm dg) : Value) = .null from own_len (by simp) (by simp) (by simp)]
          show Go p e below _ T (mkF m 179 #[.val (.int p0), .val (.int p1), .val (.int p2), .val (.int p3), .val (.int (0 : Int32)), .val (.int (p1 &&& (3 : Int32))), .val (.int (p2 &&& (15 : Int32))), .val (.int (p3 &&& (255 : Int32))), .val (.ref x_3), .val (.ref dm), .val (.ref x_44), .val .null, .unset] [.null])
          refine gaload (v := .null) X hx 181 (hb hby at_179) rfl rfl rfl ?_
          refine gacmp X hx true 184 (hb hby at_181) rfl rfl (decide_eq_true rfl) (by decide) (by decide) ?_
          refine giconst X hx (1 : Int32) 185 (hb hby at_184) rfl rfl ?_
          refine ggoto X hx 189 (hb hby at_185) (by decide) (by decide) ?_
          exact gRetL X hx hlk hret rfl (Or.inl ⟨rfl, by simp, _, rfl⟩) (hb hby at_189) eT hS hk (by decide) (by decide) ⟨rfl, N, K0⟩
        · refine gicmpYes X hx 152 (hb hby at_136) (feq hs136).2 (by decide) (by decide) ?_
          refine giload (v := (p2 &&& (15 : Int32))) X hx 154 (hb hby at_152) rfl rfl ?_
          refine giconst X hx (1 : Int32) 155 (hb hby at_154) rfl rfl ?_
          refine giand X hx 156 (hb hby at_155) rfl ?_
          rcases Decidable.em (((p2 &&& (15 : Int32)) &&& (1 : Int32)) = (0 : Int32)) with hs156 | hs156
          · refine gifNo X hx 159 (hb hby at_156) rfl ((if0 _ _).trans (teq hs156).2) ?_
            refine gldcV X hx hZ hown (own_w16 hw) (own_wS hw) eT hS hk (own_EW hw) own_mem16 C.1 [] (0 : Int32) (by decide +kernel) (by decide) rfl 0 (by decide) (by decide) 4 36 rfl rfl (by decide) (by decide) 161 (hb hby at_159) rfl ?_
            clear X eT hS hk hZ hown; clear T k0; intro c54 T h53 vm k0 t62 kb63 X eT E55 hS hk hZ hown CR56 Li57 A58 F59 F60 V61 ns64
            replace P0_Old := P0_Old.ext E55
            replace G7 := G7.ext E55
            replace K0 := K0.ext E55
            replace C := C.trans CR56
            replace sz_h : h0.size ≤ h53.size := Nat.le_trans sz_h E55.1
            show Go p e below _ T (mkF m 161 #[.val (.int p0), .val (.int p1), .val (.int p2), .val (.int p3), .val (.int (0 : Int32)), .val (.int (p1 &&& (3 : Int32))), .val (.int (p2 &&& (15 : Int32))), .val (.int (p3 &&& (255 : Int32))), .val (.ref x_3), .val (.ref dm), .unset, .unset, .unset] [(.ref c54)])
            have Str65 : Str Z h53 c54 t62 ([] : List Int32) := Str.of A58 F59 F60 V61 (by decide +kernel) (by decide +kernel) (by decide +kernel) (by decide)
            refine ggoto X hx 169 (hb hby at_161) (by decide) (by decide) ?_
            refine gastore X hx #[.val (.int p0), .val (.int p1), .val (.int p2), .val (.int p3), .val (.int (0 : Int32)), .val (.int (p1 &&& (3 : Int32))), .val (.int (p2 &&& (15 : Int32))), .val (.int (p3 &&& (255 : Int32))), .val (.ref x_3), .val (.ref dm), .val (.ref c54), .unset, .unset] 171 (hb hby at_169) rfl rfl rfl ?_
            refine gaconstNull X hx 172 (hb hby at_171) rfl ?_
            refine gastore X hx #[.val (.int p0), .val (.int p1), .val (.int p2), .val (.int p3), .val (.int (0 : Int32)), .val (.int (p1 &&& (3 : Int32))), .val (.int (p2 &&& (15 : Int32))), .val (.int (p3 &&& (255 : Int32))), .val (.ref x_3), .val (.ref dm), .val (.ref c54), .val .null, .unset] 174 (hb hby at_172) rfl rfl rfl ?_
            refine gaload (v := (.ref c54)) X hx 176 (hb hby at_174) rfl rfl rfl ?_
            refine gstaticS (y := (⟨"com/example/fasten/fasten/sql/Dialect", "of", "(Ljava/lang/String;)Lcom/example/fasten/fasten/sql/Dialect;"⟩ : MethodName)) (argsL := [(.ref c54)]) (st := []) X hx hZ hown (own_w17 hw) (own_w18 hw) (own_w14 hw) (own_w19 hw) (by decide) hS hk (payS (W := 0) (rm2 l Z a0 hw (c54) (t62) (([] : List Int32)) _ _ _ h53 n0 (Nat.le_trans Z0 sz_h) Str65 P0_Old (O2) (P5) (SM) (SG)) hZ (own_w19 hw) (own_w14 hw) (by decide) (by decide) (own_EW hw) C.1 all0) eT (by rw [hml]; rfl) (lenOf own_pd9 rfl) rfl (Nat.le_of_eq rfl) 10 136 rfl rfl (by decide) (by decide) 179 (hb hby at_176) rfl ?_
            clear X eT hS hk hZ hown; clear T k0; intro v T h66 L2 Lc vm k0 X eT hL hS hk hZ hown CR69 hQ67
            obtain ⟨rfl, Nq, K68⟩ := hQ67
            replace N : Fr n0 L2 := by rw [hL]; exact Fr.app N Nq
            clear Nq hL
            replace P0_Old := P0_Old.keep K68 all0
            replace G7 := G7.keep K68 nin0 nin0
            replace Str65 := Str65.keep K68 nin0 nin0
            replace K0 := K0.trans K68 all0
            replace C := C.trans CR69
            replace sz_h : h0.size ≤ h66.size := Nat.le_trans sz_h K68.1
            show Go p e below _ T (mkF m 179 #[.val (.int p0), .val (.int p1), .val (.int p2), .val (.int p3), .val (.int (0 : Int32)), .val (.int (p1 &&& (3 : Int32))), .val (.int (p2 &&& (15 : Int32))), .val (.int (p3 &&& (255 : Int32))), .val (.ref x_3), .val (.ref dm), .val (.ref c54), .val .null, .unset] [(own_of ([] : List Int32) dm dg)])
            rw [show ((own_of ([] : List Int32) dm dg) : Value) = .null from own_len (by simp) (by simp) (by simp)]
            show Go p e below _ T (mkF m 179 #[.val (.int p0), .val (.int p1), .val (.int p2), .val (.int p3), .val (.int (0 : Int32)), .val (.int (p1 &&& (3 : Int32))), .val (.int (p2 &&& (15 : Int32))), .val (.int (p3 &&& (255 : Int32))), .val (.ref x_3), .val (.ref dm), .val (.ref c54), .val .null, .unset] [.null])
            refine gaload (v := .null) X hx 181 (hb hby at_179) rfl rfl rfl ?_
            refine gacmp X hx true 184 (hb hby at_181) rfl rfl (decide_eq_true rfl) (by decide) (by decide) ?_
            refine giconst X hx (1 : Int32) 185 (hb hby at_184) rfl rfl ?_
            refine ggoto X hx 189 (hb hby at_185) (by decide) (by decide) ?_
            exact gRetL X hx hlk hret rfl (Or.inl ⟨rfl, by simp, _, rfl⟩) (hb hby at_189) eT hS hk (by decide) (by decide) ⟨rfl, N, K0⟩
          · refine gifYes X hx 164 (hb hby at_156) ((if0 _ _).trans (feq hs156).2) (by decide) (by decide) ?_
            refine giload (v := (p3 &&& (255 : Int32))) X hx 166 (hb hby at_164) rfl rfl ?_
            refine gstatic (y := (⟨"java/lang/String", "valueOf", "(C)Ljava/lang/String;"⟩ : MethodName)) (argsL := [(.int (p3 &&& (255 : Int32)))]) (st := []) X hx hZ hown (own_w84 hw) (own_w85 hw) (own_w6 hw) (own_w86 hw) (by decide) (payP (W := 0) (rm16 l Z a0 hw ((p3 &&& (255 : Int32))) _ h1 n0 (Nat.le_trans Z0 sz_h) P0_Old ((own_rng p3).2) (O2) (P5)) hZ (own_w86 hw) (own_w6 hw) (by decide) (by decide)) eT (by rw [hml]; rfl) (lenOf own_pd11 rfl) rfl (Nat.le_of_eq rfl) 4 37 rfl rfl (by decide) (by decide) 169 (hb hby at_166) rfl ?_
            clear X eT; clear T; intro v T h70 L2 Lc X eT hL hQ71
            obtain ⟨x_72, t_73, kb_74, rfl, Nq, K75, zz_x_72, zz_t_73, G77, G78, G79, G80, pp81⟩ := hQ71
            replace N : Fr n0 L2 := by rw [hL]; exact Fr.app N Nq
            clear Nq hL
            have ne_x_3_x_72 : x_3 ≠ x_72 := Nat.ne_of_lt (Nat.lt_of_lt_of_le G7.lt zz_x_72)
            have ne_x_72_x_3 : x_72 ≠ x_3 := Ne.symm ne_x_3_x_72
            have ne_t_4_x_72 : t_4 ≠ x_72 := Nat.ne_of_lt (Nat.lt_of_lt_of_le G7.lt2 zz_x_72)
            have ne_x_72_t_4 : x_72 ≠ t_4 := Ne.symm ne_t_4_x_72
            have sz_x_72 : h0.size ≤ x_72 := Nat.le_trans sz_h zz_x_72
            have ge_x_72 : n0 ≤ x_72 := Nat.le_trans Z0 sz_x_72
            have ne_x_3_t_73 : x_3 ≠ t_73 := Nat.ne_of_lt (Nat.lt_of_lt_of_le G7.lt zz_t_73)
            have ne_t_73_x_3 : t_73 ≠ x_3 := Ne.symm ne_x_3_t_73
            have ne_t_4_t_73 : t_4 ≠ t_73 := Nat.ne_of_lt (Nat.lt_of_lt_of_le G7.lt2 zz_t_73)
            have ne_t_73_t_4 : t_73 ≠ t_4 := Ne.symm ne_t_4_t_73
            have sz_t_73 : h0.size ≤ t_73 := Nat.le_trans sz_h zz_t_73
            have ge_t_73 : n0 ≤ t_73 := Nat.le_trans Z0 sz_t_73
            replace P0_Old := P0_Old.keep K75 all0
            replace G7 := G7.keep K75 nin0 nin0
            replace K0 := K0.trans K75 all0
            replace C := C.trans (CHr.keep K75 sf0 C.1)
            replace hk := Nat.le_trans hk K75.1
            replace sz_h : h0.size ≤ h70.size := Nat.le_trans sz_h K75.1
            show Go p e below _ T (mkF m 169 #[.val (.int p0), .val (.int p1), .val (.int p2), .val (.int p3), .val (.int (0 : Int32)), .val (.int (p1 &&& (3 : Int32))), .val (.int (p2 &&& (15 : Int32))), .val (.int (p3 &&& (255 : Int32))), .val (.ref x_3), .val (.ref dm), .unset, .unset, .unset] [(.ref x_72)])
            have Str82 : Str Z h70 x_72 t_73 ([(p3 &&& (255 : Int32))] : List Int32) := Str.of G77 G78 G79 G80 rfl rfl (own_cS (own_rng p3) own_c0) (Nat.le_of_ble_eq_true rfl)
            refine gastore X hx #[.val (.int p0), .val (.int p1), .val (.int p2), .val (.int p3), .val (.int (0 : Int32)), .val (.int (p1 &&& (3 : Int32))), .val (.int (p2 &&& (15 : Int32))), .val (.int (p3 &&& (255 : Int32))), .val (.ref x_3), .val (.ref dm), .val (.ref x_72), .unset, .unset] 171 (hb hby at_169) rfl rfl rfl ?_
            refine gaconstNull X hx 172 (hb hby at_171) rfl ?_
            refine gastore X hx #[.val (.int p0), .val (.int p1), .val (.int p2), .val (.int p3), .val (.int (0 : Int32)), .val (.int (p1 &&& (3 : Int32))), .val (.int (p2 &&& (15 : Int32))), .val (.int (p3 &&& (255 : Int32))), .val (.ref x_3), .val (.ref dm), .val (.ref x_72), .val .null, .unset] 174 (hb hby at_172) rfl rfl rfl ?_
            refine gaload (v := (.ref x_72)) X hx 176 (hb hby at_174) rfl rfl rfl ?_
            refine gstaticS (y := (⟨"com/example/fasten/fasten/sql/Dialect", "of", "(Ljava/lang/String;)Lcom/example/fasten/fasten/sql/Dialect;"⟩ : MethodName)) (argsL := [(.ref x_72)]) (st := []) X hx hZ hown (own_w17 hw) (own_w18 hw) (own_w14 hw) (own_w19 hw) (by decide) hS hk (payS (W := 0) (rm2 l Z a0 hw (x_72) (t_73) (([(p3 &&& (255 : Int32))] : List Int32)) _ _ _ h70 n0 (Nat.le_trans Z0 sz_h) Str82 P0_Old (O2) (P5) (SM) (SG)) hZ (own_w19 hw) (own_w14 hw) (by decide) (by decide) (own_EW hw) C.1 all0) eT (by rw [hml]; rfl) (lenOf own_pd9 rfl) rfl (Nat.le_of_eq rfl) 10 137 rfl rfl (by decide) (by decide) 179 (hb hby at_176) rfl ?_
            clear X eT hS hk hZ hown; clear T k0; intro v T h83 L2 Lc vm k0 X eT hL hS hk hZ hown CR86 hQ84
            obtain ⟨rfl, Nq, K85⟩ := hQ84
            replace N : Fr n0 L2 := by rw [hL]; exact Fr.app N Nq
            clear Nq hL
            replace P0_Old := P0_Old.keep K85 all0
            replace G7 := G7.keep K85 nin0 nin0
            replace Str82 := Str82.keep K85 nin0 nin0
            replace K0 := K0.trans K85 all0
            replace C := C.trans CR86
            replace sz_h : h0.size ≤ h83.size := Nat.le_trans sz_h K85.1
            show Go p e below _ T (mkF m 179 #[.val (.int p0), .val (.int p1), .val (.int p2), .val (.int p3), .val (.int (0 : Int32)), .val (.int (p1 &&& (3 : Int32))), .val (.int (p2 &&& (15 : Int32))), .val (.int (p3 &&& (255 : Int32))), .val (.ref x_3), .val (.ref dm), .val (.ref x_72), .val .null, .unset] [(own_of ([(p3 &&& (255 : Int32))] : List Int32) dm dg)])
            rw [show ((own_of ([(p3 &&& (255 : Int32))] : List Int32) dm dg) : Value) = .null from own_len (by simp) (by simp) (by simp)]
            show Go p e below _ T (mkF m 179 #[.val (.int p0), .val (.int p1), .val (.int p2), .val (.int p3), .val (.int (0 : Int32)), .val (.int (p1 &&& (3 : Int32))), .val (.int (p2 &&& (15 : Int32))), .val (.int (p3 &&& (255 : Int32))), .val (.ref x_3), .val (.ref dm), .val (.ref x_72), .val .null, .unset] [.null])
            refine gaload (v := .null) X hx 181 (hb hby at_179) rfl rfl rfl ?_
            refine gacmp X hx true 184 (hb hby at_181) rfl rfl (decide_eq_true rfl) (by decide) (by decide) ?_
            refine giconst X hx (1 : Int32) 185 (hb hby at_184) rfl rfl ?_
            refine ggoto X hx 189 (hb hby at_185) (by decide) (by decide) ?_
            exact gRetL X hx hlk hret rfl (Or.inl ⟨rfl, by simp, _, rfl⟩) (hb hby at_189) eT hS hk (by decide) (by decide) ⟨rfl, N, K0⟩
  · rw [hb3]
    show Go p e below _ T (mkF m 6 #[.val (.int p0), .val (.int p1), .val (.int p2), .val (.int p3), .unset, .unset, .unset, .unset, .unset, .unset, .unset, .unset, .unset] [(.int (1 : Int32))])
    refine gistore X hx #[.val (.int p0), .val (.int p1), .val (.int p2), .val (.int p3), .val (.int (1 : Int32)), .unset, .unset, .unset, .unset, .unset, .unset, .unset, .unset] 8 (hb hby at_6) rfl rfl ?_
    refine giloadN (v := p1) X hx 9 (hb hby at_8) rfl rfl ?_
    refine giconst X hx (3 : Int32) 10 (hb hby at_9) rfl rfl ?_
    refine giand X hx 11 (hb hby at_10) rfl ?_
    refine gistore X hx #[.val (.int p0), .val (.int p1), .val (.int p2), .val (.int p3), .val (.int (1 : Int32)), .val (.int (p1 &&& (3 : Int32))), .unset, .unset, .unset, .unset, .unset, .unset, .unset] 13 (hb hby at_11) rfl rfl ?_
    refine giloadN (v := p2) X hx 14 (hb hby at_13) rfl rfl ?_
    refine gbipush X hx (15 : Int32) 16 (hb hby at_14) rfl rfl ?_
    refine giand X hx 17 (hb hby at_16) rfl ?_
    refine gistore X hx #[.val (.int p0), .val (.int p1), .val (.int p2), .val (.int p3), .val (.int (1 : Int32)), .val (.int (p1 &&& (3 : Int32))), .val (.int (p2 &&& (15 : Int32))), .unset, .unset, .unset, .unset, .unset, .unset] 19 (hb hby at_17) rfl rfl ?_
    refine giloadN (v := p3) X hx 20 (hb hby at_19) rfl rfl ?_
    refine gsipush X hx (255 : Int32) 23 (hb hby at_20) rfl rfl ?_
    refine giand X hx 24 (hb hby at_23) rfl ?_
    refine gi2c X hx 25 (hb hby at_24) rfl ?_
    rw [own_i2c8]
    refine gistore X hx #[.val (.int p0), .val (.int p1), .val (.int p2), .val (.int p3), .val (.int (1 : Int32)), .val (.int (p1 &&& (3 : Int32))), .val (.int (p2 &&& (15 : Int32))), .val (.int (p3 &&& (255 : Int32))), .unset, .unset, .unset, .unset, .unset] 27 (hb hby at_25) rfl rfl ?_
    refine giload (v := (1 : Int32)) X hx 29 (hb hby at_27) rfl rfl ?_
    refine gstaticS (y := (⟨"com/example/fasten/fasten/sql/DialectOfPinLaw", "nameOf", "(I)Ljava/lang/String;"⟩ : MethodName)) (argsL := [(.int (1 : Int32))]) (st := []) X hx hZ hown (own_w1 hw) (own_w2 hw) (own_w3 hw) (own_w4 hw) (by decide) hS hk (payS (W := 0) (rm_nameOf1 l Z a0 hw h0 n0 (Nat.le_trans Z0 sz_h)) hZ (own_w4 hw) (own_w3 hw) (by decide) (by decide) (own_EW hw) C.1 all0) eT (by rw [hml]; rfl) (lenOf own_pd5 rfl) rfl (Nat.le_of_eq rfl) 2 24 rfl rfl (by decide) (by decide) 32 (hb hby at_29) rfl ?_
    clear X eT hS hk hZ hown; clear T k0; intro v T h87 L2 Lc vm k0 X eT hL hS hk hZ hown CR92 hQ88
    obtain ⟨x_89, t_90, rfl, Nq, K91, G93⟩ := hQ88
    replace N : Fr n0 L2 := by rw [hL]; exact Fr.app N Nq
    clear Nq hL
    replace P0_Old := P0_Old.keep K91 all0
    replace K0 := K0.trans K91 all0
    replace C := C.trans CR92
    replace sz_h : h0.size ≤ h87.size := Nat.le_trans sz_h K91.1
    show Go p e below _ T (mkF m 32 #[.val (.int p0), .val (.int p1), .val (.int p2), .val (.int p3), .val (.int (1 : Int32)), .val (.int (p1 &&& (3 : Int32))), .val (.int (p2 &&& (15 : Int32))), .val (.int (p3 &&& (255 : Int32))), .unset, .unset, .unset, .unset, .unset] [(.ref x_89)])
    refine gastore X hx #[.val (.int p0), .val (.int p1), .val (.int p2), .val (.int p3), .val (.int (1 : Int32)), .val (.int (p1 &&& (3 : Int32))), .val (.int (p2 &&& (15 : Int32))), .val (.int (p3 &&& (255 : Int32))), .val (.ref x_89), .unset, .unset, .unset, .unset] 34 (hb hby at_32) rfl rfl rfl ?_
    refine giload (v := (1 : Int32)) X hx 36 (hb hby at_34) rfl rfl ?_
    refine giconst X hx (2 : Int32) 37 (hb hby at_36) rfl rfl ?_
    refine gicmpYes X hx 46 (hb hby at_37) (by decide) (by decide) (by decide) ?_
    refine ggetS X hx hZ (host := "") hown (Or.inl (own_w13 hw)) Via.refl eT (SM.ext P0_Old.2) 49 (hb hby at_46) rfl ?_
    clear X eT; clear T; intro T X eT
    refine gastore X hx #[.val (.int p0), .val (.int p1), .val (.int p2), .val (.int p3), .val (.int (1 : Int32)), .val (.int (p1 &&& (3 : Int32))), .val (.int (p2 &&& (15 : Int32))), .val (.int (p3 &&& (255 : Int32))), .val (.ref x_89), .val (.ref dm), .unset, .unset, .unset] 51 (hb hby at_49) rfl rfl rfl ?_
    refine giload (v := (p1 &&& (3 : Int32))) X hx 53 (hb hby at_51) rfl rfl ?_
    rcases Decidable.em ((p1 &&& (3 : Int32)) = (0 : Int32)) with hs53 | hs53
    · refine gifNo X hx 56 (hb hby at_53) rfl ((if0 _ _).trans (teq hs53).2) ?_
      refine giload (v := (1 : Int32)) X hx 58 (hb hby at_56) rfl rfl ?_
      refine giload (v := (p2 &&& (15 : Int32))) X hx 60 (hb hby at_58) rfl rfl ?_
      refine giload (v := (p3 &&& (255 : Int32))) X hx 62 (hb hby at_60) rfl rfl ?_
      refine gstatic (y := (⟨"com/example/fasten/fasten/sql/DialectOfPinLaw", "substituted", "(IIC)Ljava/lang/String;"⟩ : MethodName)) (argsL := [(.int (1 : Int32)), (.int (p2 &&& (15 : Int32))), (.int (p3 &&& (255 : Int32)))]) (st := []) X hx hZ hown (own_w42 hw) (own_w43 hw) (own_w3 hw) (own_w44 hw) (by decide) (payP (W := 0) (rm_sub1 l Z a0 hw ((p2 &&& (15 : Int32))) ((p3 &&& (255 : Int32))) _ h87 n0 (Nat.le_trans Z0 sz_h) P0_Old (O2) (P5) (own_15 p2) (own_rng p3)) hZ (own_w44 hw) (own_w3 hw) (by decide) (by decide)) eT (by rw [hml]; rfl) (lenOf own_pd6 rfl) rfl (Nat.le_of_eq rfl) 5 38 rfl rfl (by decide) (by decide) 65 (hb hby at_62) rfl ?_
      clear X eT; clear T; intro v T h94 L2 Lc X eT hL hQ95
      obtain ⟨x_96, t_97, rfl, Nq, K98, zz_x_96, zz_t_97, G100⟩ := hQ95
      replace N : Fr n0 L2 := by rw [hL]; exact Fr.app N Nq
      clear Nq hL
      have ne_x_89_x_96 : x_89 ≠ x_96 := Nat.ne_of_lt (Nat.lt_of_lt_of_le G93.lt zz_x_96)
      have ne_x_96_x_89 : x_96 ≠ x_89 := Ne.symm ne_x_89_x_96
      have ne_t_90_x_96 : t_90 ≠ x_96 := Nat.ne_of_lt (Nat.lt_of_lt_of_le G93.lt2 zz_x_96)
      have ne_x_96_t_90 : x_96 ≠ t_90 := Ne.symm ne_t_90_x_96
      have sz_x_96 : h0.size ≤ x_96 := Nat.le_trans sz_h zz_x_96
      have ge_x_96 : n0 ≤ x_96 := Nat.le_trans Z0 sz_x_96
      have ne_x_89_t_97 : x_89 ≠ t_97 := Nat.ne_of_lt (Nat.lt_of_lt_of_le G93.lt zz_t_97)
      have ne_t_97_x_89 : t_97 ≠ x_89 := Ne.symm ne_x_89_t_97
      have ne_t_90_t_97 : t_90 ≠ t_97 := Nat.ne_of_lt (Nat.lt_of_lt_of_le G93.lt2 zz_t_97)
      have ne_t_97_t_90 : t_97 ≠ t_90 := Ne.symm ne_t_90_t_97
      have sz_t_97 : h0.size ≤ t_97 := Nat.le_trans sz_h zz_t_97
      have ge_t_97 : n0 ≤ t_97 := Nat.le_trans Z0 sz_t_97
      replace P0_Old := P0_Old.keep K98 all0
      replace G93 := G93.keep K98 nin0 nin0
      replace K0 := K0.trans K98 all0
      replace C := C.trans (CHr.keep K98 sf0 C.1)
      replace hk := Nat.le_trans hk K98.1
      replace sz_h : h0.size ≤ h94.size := Nat.le_trans sz_h K98.1
      show Go p e below _ T (mkF m 65 #[.val (.int p0), .val (.int p1), .val (.int p2), .val (.int p3), .val (.int (1 : Int32)), .val (.int (p1 &&& (3 : Int32))), .val (.int (p2 &&& (15 : Int32))), .val (.int (p3 &&& (255 : Int32))), .val (.ref x_89), .val (.ref dm), .unset, .unset, .unset] [(.ref x_96)])
      refine gastore X hx #[.val (.int p0), .val (.int p1), .val (.int p2), .val (.int p3), .val (.int (1 : Int32)), .val (.int (p1 &&& (3 : Int32))), .val (.int (p2 &&& (15 : Int32))), .val (.int (p3 &&& (255 : Int32))), .val (.ref x_89), .val (.ref dm), .val (.ref x_96), .unset, .unset] 67 (hb hby at_65) rfl rfl rfl ?_
      refine giload (v := (p2 &&& (15 : Int32))) X hx 69 (hb hby at_67) rfl rfl ?_
      refine gaload (v := (.ref x_89)) X hx 71 (hb hby at_69) rfl rfl rfl ?_
      refine gvirtual (y := (⟨"java/lang/String", "length", "()I"⟩ : MethodName)) (z := (⟨"java/lang/String", "length", "()I"⟩ : MethodName)) (a := x_89) (argsL := []) (st := [(.int (p2 &&& (15 : Int32)))]) X hx hZ hown (own_w66 hw) (own_w67 hw) (notFace_of_selects (args := #[]) (mvT hZ (own_w69 hw))) (own_w69 hw) (own_w68 hw) (by decide) G93.exa (payLen (W := 1) hZ hw G93 (O2.ext P0_Old.2) P5 (by decide) (by decide)) eT (by rw [hml]; rfl) (lenOf own_pd7 rfl) rfl (Nat.le_of_eq rfl) 5 38 rfl rfl (by decide) (by decide) 74 (hb hby at_71) rfl ?_
      clear X eT; clear T; intro v T h101 L2 Lc X eT hL hQ102
      obtain ⟨rfl, rfl, hh⟩ := hQ102
      replace hh := hh.symm; subst hh
      replace N : Fr n0 L2 := by rw [hL]; exact Fr.app N (Fr.nil n0)
      clear hL
      show Go p e below _ T (mkF m 74 #[.val (.int p0), .val (.int p1), .val (.int p2), .val (.int p3), .val (.int (1 : Int32)), .val (.int (p1 &&& (3 : Int32))), .val (.int (p2 &&& (15 : Int32))), .val (.int (p3 &&& (255 : Int32))), .val (.ref x_89), .val (.ref dm), .val (.ref x_96), .unset, .unset] [(.int (5 : Int32)), (.int (p2 &&& (15 : Int32)))])
      rcases Decidable.em ((p2 &&& (15 : Int32)) < (5 : Int32)) with hp74 | hp74
      · refine gicmpNo X hx 77 (hb hby at_74) rfl (tlt hp74).2.1 ?_
        refine giload (v := (p3 &&& (255 : Int32))) X hx 79 (hb hby at_77) rfl rfl ?_
        refine gaload (v := (.ref x_89)) X hx 81 (hb hby at_79) rfl rfl rfl ?_
        refine giload (v := (p2 &&& (15 : Int32))) X hx 83 (hb hby at_81) rfl rfl ?_
        refine gvirtual (y := (⟨"java/lang/String", "charAt", "(I)C"⟩ : MethodName)) (z := (⟨"java/lang/String", "charAt", "(I)C"⟩ : MethodName)) (a := x_89) (argsL := [(.int (p2 &&& (15 : Int32)))]) (st := [(.int (p3 &&& (255 : Int32)))]) X hx hZ hown (own_w96 hw) (own_w97 hw) (notFace_of_selects (args := #[]) (mvT hZ (own_w99 hw))) (own_w99 hw) (own_w98 hw) (by decide) G93.exa (payChr (W := 1) (i := (p2 &&& (15 : Int32)).toNatClampNeg) hZ hw G93 (O2.ext P0_Old.2) P5 (O4.ext P0_Old.2) rG3 (own_nat (own_15 p2) (by decide) hp74) (own_back (own_15 p2)) (by decide) (by decide)) eT (by rw [hml]; rfl) (lenOf own_pd8 rfl) rfl (Nat.le_of_eq rfl) 5 38 rfl rfl (by decide) (by decide) 86 (hb hby at_83) rfl ?_
        clear X eT; clear T; intro v T h103 L2 Lc X eT hL hQ104
        obtain ⟨rfl, rfl, hh⟩ := hQ104
        replace hh := hh.symm; subst hh
        replace N : Fr n0 L2 := by rw [hL]; exact Fr.app N (Fr.nil n0)
        clear hL
        show Go p e below _ T (mkF m 86 #[.val (.int p0), .val (.int p1), .val (.int p2), .val (.int p3), .val (.int (1 : Int32)), .val (.int (p1 &&& (3 : Int32))), .val (.int (p2 &&& (15 : Int32))), .val (.int (p3 &&& (255 : Int32))), .val (.ref x_89), .val (.ref dm), .val (.ref x_96), .unset, .unset] [(.int (([77, 121, 83, 81, 76] : List Int32).getD (p2 &&& (15 : Int32)).toNatClampNeg 0)), (.int (p3 &&& (255 : Int32)))])
        rcases Decidable.em ((p3 &&& (255 : Int32)) = (([77, 121, 83, 81, 76] : List Int32).getD (p2 &&& (15 : Int32)).toNatClampNeg 0)) with he86 | he86
        · refine gicmpNo X hx 89 (hb hby at_86) rfl (teq he86).2 ?_
          refine giconst X hx (1 : Int32) 90 (hb hby at_89) rfl rfl ?_
          refine ggoto X hx 94 (hb hby at_90) (by decide) (by decide) ?_
          refine gistore X hx #[.val (.int p0), .val (.int p1), .val (.int p2), .val (.int p3), .val (.int (1 : Int32)), .val (.int (p1 &&& (3 : Int32))), .val (.int (p2 &&& (15 : Int32))), .val (.int (p3 &&& (255 : Int32))), .val (.ref x_89), .val (.ref dm), .val (.ref x_96), .unset, .val (.int (1 : Int32))] 96 (hb hby at_94) rfl rfl ?_
          refine giload (v := (1 : Int32)) X hx 98 (hb hby at_96) rfl rfl ?_
          refine gifNo X hx 101 (hb hby at_98) rfl (by decide) ?_
          refine gaload (v := (.ref dm)) X hx 103 (hb hby at_101) rfl rfl rfl ?_
          refine ggoto X hx 107 (hb hby at_103) (by decide) (by decide) ?_
          refine gastore X hx #[.val (.int p0), .val (.int p1), .val (.int p2), .val (.int p3), .val (.int (1 : Int32)), .val (.int (p1 &&& (3 : Int32))), .val (.int (p2 &&& (15 : Int32))), .val (.int (p3 &&& (255 : Int32))), .val (.ref x_89), .val (.ref dm), .val (.ref x_96), .val (.ref dm), .val (.int (1 : Int32))] 109 (hb hby at_107) rfl rfl rfl ?_
          refine ggoto X hx 174 (hb hby at_109) (by decide) (by decide) ?_
          refine gaload (v := (.ref x_96)) X hx 176 (hb hby at_174) rfl rfl rfl ?_
          refine gstaticS (y := (⟨"com/example/fasten/fasten/sql/Dialect", "of", "(Ljava/lang/String;)Lcom/example/fasten/fasten/sql/Dialect;"⟩ : MethodName)) (argsL := [(.ref x_96)]) (st := []) X hx hZ hown (own_w17 hw) (own_w18 hw) (own_w14 hw) (own_w19 hw) (by decide) hS hk (payS (W := 0) (rm2 l Z a0 hw (x_96) (t_97) ((([77, 121, 83, 81, 76] : List Int32).set (p2 &&& (15 : Int32)).toNatClampNeg (p3 &&& (255 : Int32)))) _ _ _ h94 n0 (Nat.le_trans Z0 sz_h) G100 P0_Old (O2) (P5) (SM) (SG)) hZ (own_w19 hw) (own_w14 hw) (by decide) (by decide) (own_EW hw) C.1 all0) eT (by rw [hml]; rfl) (lenOf own_pd9 rfl) rfl (Nat.le_of_eq rfl) 11 138 rfl rfl (by decide) (by decide) 179 (hb hby at_176) rfl ?_
          clear X eT hS hk hZ hown; clear T k0; intro v T h105 L2 Lc vm k0 X eT hL hS hk hZ hown CR108 hQ106
          obtain ⟨rfl, Nq, K107⟩ := hQ106
          replace N : Fr n0 L2 := by rw [hL]; exact Fr.app N Nq
          clear Nq hL
          replace P0_Old := P0_Old.keep K107 all0
          replace G93 := G93.keep K107 nin0 nin0
          replace G100 := G100.keep K107 nin0 nin0
          replace K0 := K0.trans K107 all0
          replace C := C.trans CR108
          replace sz_h : h0.size ≤ h105.size := Nat.le_trans sz_h K107.1
          show Go p e below _ T (mkF m 179 #[.val (.int p0), .val (.int p1), .val (.int p2), .val (.int p3), .val (.int (1 : Int32)), .val (.int (p1 &&& (3 : Int32))), .val (.int (p2 &&& (15 : Int32))), .val (.int (p3 &&& (255 : Int32))), .val (.ref x_89), .val (.ref dm), .val (.ref x_96), .val (.ref dm), .val (.int (1 : Int32))] [(own_of (([77, 121, 83, 81, 76] : List Int32).set (p2 &&& (15 : Int32)).toNatClampNeg (p3 &&& (255 : Int32))) dm dg)])
          rw [show ((own_of (([77, 121, 83, 81, 76] : List Int32).set (p2 &&& (15 : Int32)).toNatClampNeg (p3 &&& (255 : Int32))) dm dg) : Value) = (.ref dm) from own_s1_1 hp74 he86]
          show Go p e below _ T (mkF m 179 #[.val (.int p0), .val (.int p1), .val (.int p2), .val (.int p3), .val (.int (1 : Int32)), .val (.int (p1 &&& (3 : Int32))), .val (.int (p2 &&& (15 : Int32))), .val (.int (p3 &&& (255 : Int32))), .val (.ref x_89), .val (.ref dm), .val (.ref x_96), .val (.ref dm), .val (.int (1 : Int32))] [(.ref dm)])
          refine gaload (v := (.ref dm)) X hx 181 (hb hby at_179) rfl rfl rfl ?_
          refine gacmp X hx true 184 (hb hby at_181) rfl rfl (decide_eq_true rfl) (by decide) (by decide) ?_
          refine giconst X hx (1 : Int32) 185 (hb hby at_184) rfl rfl ?_
          refine ggoto X hx 189 (hb hby at_185) (by decide) (by decide) ?_
          exact gRetL X hx hlk hret rfl (Or.inl ⟨rfl, by simp, _, rfl⟩) (hb hby at_189) eT hS hk (by decide) (by decide) ⟨rfl, N, K0⟩
        · refine gicmpYes X hx 93 (hb hby at_86) (feq he86).2 (by decide) (by decide) ?_
          refine giconst X hx (0 : Int32) 94 (hb hby at_93) rfl rfl ?_
          refine gistore X hx #[.val (.int p0), .val (.int p1), .val (.int p2), .val (.int p3), .val (.int (1 : Int32)), .val (.int (p1 &&& (3 : Int32))), .val (.int (p2 &&& (15 : Int32))), .val (.int (p3 &&& (255 : Int32))), .val (.ref x_89), .val (.ref dm), .val (.ref x_96), .unset, .val (.int (0 : Int32))] 96 (hb hby at_94) rfl rfl ?_
          refine giload (v := (0 : Int32)) X hx 98 (hb hby at_96) rfl rfl ?_
          refine gifYes X hx 106 (hb hby at_98) (by decide) (by decide) (by decide) ?_
          refine gaconstNull X hx 107 (hb hby at_106) rfl ?_
          refine gastore X hx #[.val (.int p0), .val (.int p1), .val (.int p2), .val (.int p3), .val (.int (1 : Int32)), .val (.int (p1 &&& (3 : Int32))), .val (.int (p2 &&& (15 : Int32))), .val (.int (p3 &&& (255 : Int32))), .val (.ref x_89), .val (.ref dm), .val (.ref x_96), .val .null, .val (.int (0 : Int32))] 109 (hb hby at_107) rfl rfl rfl ?_
          refine ggoto X hx 174 (hb hby at_109) (by decide) (by decide) ?_
          refine gaload (v := (.ref x_96)) X hx 176 (hb hby at_174) rfl rfl rfl ?_
          refine gstaticS (y := (⟨"com/example/fasten/fasten/sql/Dialect", "of", "(Ljava/lang/String;)Lcom/example/fasten/fasten/sql/Dialect;"⟩ : MethodName)) (argsL := [(.ref x_96)]) (st := []) X hx hZ hown (own_w17 hw) (own_w18 hw) (own_w14 hw) (own_w19 hw) (by decide) hS hk (payS (W := 0) (rm2 l Z a0 hw (x_96) (t_97) ((([77, 121, 83, 81, 76] : List Int32).set (p2 &&& (15 : Int32)).toNatClampNeg (p3 &&& (255 : Int32)))) _ _ _ h94 n0 (Nat.le_trans Z0 sz_h) G100 P0_Old (O2) (P5) (SM) (SG)) hZ (own_w19 hw) (own_w14 hw) (by decide) (by decide) (own_EW hw) C.1 all0) eT (by rw [hml]; rfl) (lenOf own_pd9 rfl) rfl (Nat.le_of_eq rfl) 11 138 rfl rfl (by decide) (by decide) 179 (hb hby at_176) rfl ?_
          clear X eT hS hk hZ hown; clear T k0; intro v T h109 L2 Lc vm k0 X eT hL hS hk hZ hown CR112 hQ110
          obtain ⟨rfl, Nq, K111⟩ := hQ110
          replace N : Fr n0 L2 := by rw [hL]; exact Fr.app N Nq
          clear Nq hL
          replace P0_Old := P0_Old.keep K111 all0
          replace G93 := G93.keep K111 nin0 nin0
          replace G100 := G100.keep K111 nin0 nin0
          replace K0 := K0.trans K111 all0
          replace C := C.trans CR112
          replace sz_h : h0.size ≤ h109.size := Nat.le_trans sz_h K111.1
          show Go p e below _ T (mkF m 179 #[.val (.int p0), .val (.int p1), .val (.int p2), .val (.int p3), .val (.int (1 : Int32)), .val (.int (p1 &&& (3 : Int32))), .val (.int (p2 &&& (15 : Int32))), .val (.int (p3 &&& (255 : Int32))), .val (.ref x_89), .val (.ref dm), .val (.ref x_96), .val .null, .val (.int (0 : Int32))] [(own_of (([77, 121, 83, 81, 76] : List Int32).set (p2 &&& (15 : Int32)).toNatClampNeg (p3 &&& (255 : Int32))) dm dg)])
          rw [show ((own_of (([77, 121, 83, 81, 76] : List Int32).set (p2 &&& (15 : Int32)).toNatClampNeg (p3 &&& (255 : Int32))) dm dg) : Value) = .null from own_s2_1 (own_15 p2) hp74 he86]
          show Go p e below _ T (mkF m 179 #[.val (.int p0), .val (.int p1), .val (.int p2), .val (.int p3), .val (.int (1 : Int32)), .val (.int (p1 &&& (3 : Int32))), .val (.int (p2 &&& (15 : Int32))), .val (.int (p3 &&& (255 : Int32))), .val (.ref x_89), .val (.ref dm), .val (.ref x_96), .val .null, .val (.int (0 : Int32))] [.null])
          refine gaload (v := .null) X hx 181 (hb hby at_179) rfl rfl rfl ?_
          refine gacmp X hx true 184 (hb hby at_181) rfl rfl (decide_eq_true rfl) (by decide) (by decide) ?_
          refine giconst X hx (1 : Int32) 185 (hb hby at_184) rfl rfl ?_
          refine ggoto X hx 189 (hb hby at_185) (by decide) (by decide) ?_
          exact gRetL X hx hlk hret rfl (Or.inl ⟨rfl, by simp, _, rfl⟩) (hb hby at_189) eT hS hk (by decide) (by decide) ⟨rfl, N, K0⟩
      · refine gicmpYes X hx 89 (hb hby at_74) (flt hp74).2.1 (by decide) (by decide) ?_
        refine giconst X hx (1 : Int32) 90 (hb hby at_89) rfl rfl ?_
        refine ggoto X hx 94 (hb hby at_90) (by decide) (by decide) ?_
        refine gistore X hx #[.val (.int p0), .val (.int p1), .val (.int p2), .val (.int p3), .val (.int (1 : Int32)), .val (.int (p1 &&& (3 : Int32))), .val (.int (p2 &&& (15 : Int32))), .val (.int (p3 &&& (255 : Int32))), .val (.ref x_89), .val (.ref dm), .val (.ref x_96), .unset, .val (.int (1 : Int32))] 96 (hb hby at_94) rfl rfl ?_
        refine giload (v := (1 : Int32)) X hx 98 (hb hby at_96) rfl rfl ?_
        refine gifNo X hx 101 (hb hby at_98) rfl (by decide) ?_
        refine gaload (v := (.ref dm)) X hx 103 (hb hby at_101) rfl rfl rfl ?_
        refine ggoto X hx 107 (hb hby at_103) (by decide) (by decide) ?_
        refine gastore X hx #[.val (.int p0), .val (.int p1), .val (.int p2), .val (.int p3), .val (.int (1 : Int32)), .val (.int (p1 &&& (3 : Int32))), .val (.int (p2 &&& (15 : Int32))), .val (.int (p3 &&& (255 : Int32))), .val (.ref x_89), .val (.ref dm), .val (.ref x_96), .val (.ref dm), .val (.int (1 : Int32))] 109 (hb hby at_107) rfl rfl rfl ?_
        refine ggoto X hx 174 (hb hby at_109) (by decide) (by decide) ?_
        refine gaload (v := (.ref x_96)) X hx 176 (hb hby at_174) rfl rfl rfl ?_
        refine gstaticS (y := (⟨"com/example/fasten/fasten/sql/Dialect", "of", "(Ljava/lang/String;)Lcom/example/fasten/fasten/sql/Dialect;"⟩ : MethodName)) (argsL := [(.ref x_96)]) (st := []) X hx hZ hown (own_w17 hw) (own_w18 hw) (own_w14 hw) (own_w19 hw) (by decide) hS hk (payS (W := 0) (rm2 l Z a0 hw (x_96) (t_97) ((([77, 121, 83, 81, 76] : List Int32).set (p2 &&& (15 : Int32)).toNatClampNeg (p3 &&& (255 : Int32)))) _ _ _ h94 n0 (Nat.le_trans Z0 sz_h) G100 P0_Old (O2) (P5) (SM) (SG)) hZ (own_w19 hw) (own_w14 hw) (by decide) (by decide) (own_EW hw) C.1 all0) eT (by rw [hml]; rfl) (lenOf own_pd9 rfl) rfl (Nat.le_of_eq rfl) 11 138 rfl rfl (by decide) (by decide) 179 (hb hby at_176) rfl ?_
        clear X eT hS hk hZ hown; clear T k0; intro v T h113 L2 Lc vm k0 X eT hL hS hk hZ hown CR116 hQ114
        obtain ⟨rfl, Nq, K115⟩ := hQ114
        replace N : Fr n0 L2 := by rw [hL]; exact Fr.app N Nq
        clear Nq hL
        replace P0_Old := P0_Old.keep K115 all0
        replace G93 := G93.keep K115 nin0 nin0
        replace G100 := G100.keep K115 nin0 nin0
        replace K0 := K0.trans K115 all0
        replace C := C.trans CR116
        replace sz_h : h0.size ≤ h113.size := Nat.le_trans sz_h K115.1
        show Go p e below _ T (mkF m 179 #[.val (.int p0), .val (.int p1), .val (.int p2), .val (.int p3), .val (.int (1 : Int32)), .val (.int (p1 &&& (3 : Int32))), .val (.int (p2 &&& (15 : Int32))), .val (.int (p3 &&& (255 : Int32))), .val (.ref x_89), .val (.ref dm), .val (.ref x_96), .val (.ref dm), .val (.int (1 : Int32))] [(own_of (([77, 121, 83, 81, 76] : List Int32).set (p2 &&& (15 : Int32)).toNatClampNeg (p3 &&& (255 : Int32))) dm dg)])
        rw [show ((own_of (([77, 121, 83, 81, 76] : List Int32).set (p2 &&& (15 : Int32)).toNatClampNeg (p3 &&& (255 : Int32))) dm dg) : Value) = (.ref dm) from own_s3_1 (own_15 p2) hp74]
        show Go p e below _ T (mkF m 179 #[.val (.int p0), .val (.int p1), .val (.int p2), .val (.int p3), .val (.int (1 : Int32)), .val (.int (p1 &&& (3 : Int32))), .val (.int (p2 &&& (15 : Int32))), .val (.int (p3 &&& (255 : Int32))), .val (.ref x_89), .val (.ref dm), .val (.ref x_96), .val (.ref dm), .val (.int (1 : Int32))] [(.ref dm)])
        refine gaload (v := (.ref dm)) X hx 181 (hb hby at_179) rfl rfl rfl ?_
        refine gacmp X hx true 184 (hb hby at_181) rfl rfl (decide_eq_true rfl) (by decide) (by decide) ?_
        refine giconst X hx (1 : Int32) 185 (hb hby at_184) rfl rfl ?_
        refine ggoto X hx 189 (hb hby at_185) (by decide) (by decide) ?_
        exact gRetL X hx hlk hret rfl (Or.inl ⟨rfl, by simp, _, rfl⟩) (hb hby at_189) eT hS hk (by decide) (by decide) ⟨rfl, N, K0⟩
    · refine gifYes X hx 112 (hb hby at_53) ((if0 _ _).trans (feq hs53).2) (by decide) (by decide) ?_
      refine giload (v := (p1 &&& (3 : Int32))) X hx 114 (hb hby at_112) rfl rfl ?_
      refine giconst X hx (1 : Int32) 115 (hb hby at_114) rfl rfl ?_
      rcases Decidable.em ((p1 &&& (3 : Int32)) = (1 : Int32)) with hs115 | hs115
      · refine gicmpNo X hx 118 (hb hby at_115) rfl (teq hs115).2 ?_
        refine giload (v := (1 : Int32)) X hx 120 (hb hby at_118) rfl rfl ?_
        refine giload (v := (p3 &&& (255 : Int32))) X hx 122 (hb hby at_120) rfl rfl ?_
        refine gstatic (y := (⟨"com/example/fasten/fasten/sql/DialectOfPinLaw", "appended", "(IC)Ljava/lang/String;"⟩ : MethodName)) (argsL := [(.int (1 : Int32)), (.int (p3 &&& (255 : Int32)))]) (st := []) X hx hZ hown (own_w77 hw) (own_w78 hw) (own_w3 hw) (own_w79 hw) (by decide) (payP (W := 0) (rm_app1 l Z a0 hw ((p3 &&& (255 : Int32))) _ h87 n0 (Nat.le_trans Z0 sz_h) P0_Old (O2) (P5) (own_rng p3)) hZ (own_w79 hw) (own_w3 hw) (by decide) (by decide)) eT (by rw [hml]; rfl) (lenOf own_pd10 rfl) rfl (Nat.le_of_eq rfl) 5 40 rfl rfl (by decide) (by decide) 125 (hb hby at_122) rfl ?_
        clear X eT; clear T; intro v T h117 L2 Lc X eT hL hQ118
        obtain ⟨x_119, t_120, rfl, Nq, K121, zz_x_119, zz_t_120, G123⟩ := hQ118
        replace N : Fr n0 L2 := by rw [hL]; exact Fr.app N Nq
        clear Nq hL
        have ne_x_89_x_119 : x_89 ≠ x_119 := Nat.ne_of_lt (Nat.lt_of_lt_of_le G93.lt zz_x_119)
        have ne_x_119_x_89 : x_119 ≠ x_89 := Ne.symm ne_x_89_x_119
        have ne_t_90_x_119 : t_90 ≠ x_119 := Nat.ne_of_lt (Nat.lt_of_lt_of_le G93.lt2 zz_x_119)
        have ne_x_119_t_90 : x_119 ≠ t_90 := Ne.symm ne_t_90_x_119
        have sz_x_119 : h0.size ≤ x_119 := Nat.le_trans sz_h zz_x_119
        have ge_x_119 : n0 ≤ x_119 := Nat.le_trans Z0 sz_x_119
        have ne_x_89_t_120 : x_89 ≠ t_120 := Nat.ne_of_lt (Nat.lt_of_lt_of_le G93.lt zz_t_120)
        have ne_t_120_x_89 : t_120 ≠ x_89 := Ne.symm ne_x_89_t_120
        have ne_t_90_t_120 : t_90 ≠ t_120 := Nat.ne_of_lt (Nat.lt_of_lt_of_le G93.lt2 zz_t_120)
        have ne_t_120_t_90 : t_120 ≠ t_90 := Ne.symm ne_t_90_t_120
        have sz_t_120 : h0.size ≤ t_120 := Nat.le_trans sz_h zz_t_120
        have ge_t_120 : n0 ≤ t_120 := Nat.le_trans Z0 sz_t_120
        replace P0_Old := P0_Old.keep K121 all0
        replace G93 := G93.keep K121 nin0 nin0
        replace K0 := K0.trans K121 all0
        replace C := C.trans (CHr.keep K121 sf0 C.1)
        replace hk := Nat.le_trans hk K121.1
        replace sz_h : h0.size ≤ h117.size := Nat.le_trans sz_h K121.1
        show Go p e below _ T (mkF m 125 #[.val (.int p0), .val (.int p1), .val (.int p2), .val (.int p3), .val (.int (1 : Int32)), .val (.int (p1 &&& (3 : Int32))), .val (.int (p2 &&& (15 : Int32))), .val (.int (p3 &&& (255 : Int32))), .val (.ref x_89), .val (.ref dm), .unset, .unset, .unset] [(.ref x_119)])
        refine gastore X hx #[.val (.int p0), .val (.int p1), .val (.int p2), .val (.int p3), .val (.int (1 : Int32)), .val (.int (p1 &&& (3 : Int32))), .val (.int (p2 &&& (15 : Int32))), .val (.int (p3 &&& (255 : Int32))), .val (.ref x_89), .val (.ref dm), .val (.ref x_119), .unset, .unset] 127 (hb hby at_125) rfl rfl rfl ?_
        refine gaconstNull X hx 128 (hb hby at_127) rfl ?_
        refine gastore X hx #[.val (.int p0), .val (.int p1), .val (.int p2), .val (.int p3), .val (.int (1 : Int32)), .val (.int (p1 &&& (3 : Int32))), .val (.int (p2 &&& (15 : Int32))), .val (.int (p3 &&& (255 : Int32))), .val (.ref x_89), .val (.ref dm), .val (.ref x_119), .val .null, .unset] 130 (hb hby at_128) rfl rfl rfl ?_
        refine ggoto X hx 174 (hb hby at_130) (by decide) (by decide) ?_
        refine gaload (v := (.ref x_119)) X hx 176 (hb hby at_174) rfl rfl rfl ?_
        refine gstaticS (y := (⟨"com/example/fasten/fasten/sql/Dialect", "of", "(Ljava/lang/String;)Lcom/example/fasten/fasten/sql/Dialect;"⟩ : MethodName)) (argsL := [(.ref x_119)]) (st := []) X hx hZ hown (own_w17 hw) (own_w18 hw) (own_w14 hw) (own_w19 hw) (by decide) hS hk (payS (W := 0) (rm2 l Z a0 hw (x_119) (t_120) (([77, 121, 83, 81, 76, (p3 &&& (255 : Int32))] : List Int32)) _ _ _ h117 n0 (Nat.le_trans Z0 sz_h) G123 P0_Old (O2) (P5) (SM) (SG)) hZ (own_w19 hw) (own_w14 hw) (by decide) (by decide) (own_EW hw) C.1 all0) eT (by rw [hml]; rfl) (lenOf own_pd9 rfl) rfl (Nat.le_of_eq rfl) 11 140 rfl rfl (by decide) (by decide) 179 (hb hby at_176) rfl ?_
        clear X eT hS hk hZ hown; clear T k0; intro v T h124 L2 Lc vm k0 X eT hL hS hk hZ hown CR127 hQ125
        obtain ⟨rfl, Nq, K126⟩ := hQ125
        replace N : Fr n0 L2 := by rw [hL]; exact Fr.app N Nq
        clear Nq hL
        replace P0_Old := P0_Old.keep K126 all0
        replace G93 := G93.keep K126 nin0 nin0
        replace G123 := G123.keep K126 nin0 nin0
        replace K0 := K0.trans K126 all0
        replace C := C.trans CR127
        replace sz_h : h0.size ≤ h124.size := Nat.le_trans sz_h K126.1
        show Go p e below _ T (mkF m 179 #[.val (.int p0), .val (.int p1), .val (.int p2), .val (.int p3), .val (.int (1 : Int32)), .val (.int (p1 &&& (3 : Int32))), .val (.int (p2 &&& (15 : Int32))), .val (.int (p3 &&& (255 : Int32))), .val (.ref x_89), .val (.ref dm), .val (.ref x_119), .val .null, .unset] [(own_of ([77, 121, 83, 81, 76, (p3 &&& (255 : Int32))] : List Int32) dm dg)])
        rw [show ((own_of ([77, 121, 83, 81, 76, (p3 &&& (255 : Int32))] : List Int32) dm dg) : Value) = .null from own_len (by simp) (by simp) (by simp)]
        show Go p e below _ T (mkF m 179 #[.val (.int p0), .val (.int p1), .val (.int p2), .val (.int p3), .val (.int (1 : Int32)), .val (.int (p1 &&& (3 : Int32))), .val (.int (p2 &&& (15 : Int32))), .val (.int (p3 &&& (255 : Int32))), .val (.ref x_89), .val (.ref dm), .val (.ref x_119), .val .null, .unset] [.null])
        refine gaload (v := .null) X hx 181 (hb hby at_179) rfl rfl rfl ?_
        refine gacmp X hx true 184 (hb hby at_181) rfl rfl (decide_eq_true rfl) (by decide) (by decide) ?_
        refine giconst X hx (1 : Int32) 185 (hb hby at_184) rfl rfl ?_
        refine ggoto X hx 189 (hb hby at_185) (by decide) (by decide) ?_
        exact gRetL X hx hlk hret rfl (Or.inl ⟨rfl, by simp, _, rfl⟩) (hb hby at_189) eT hS hk (by decide) (by decide) ⟨rfl, N, K0⟩
      · refine gicmpYes X hx 133 (hb hby at_115) (feq hs115).2 (by decide) (by decide) ?_
        refine giload (v := (p1 &&& (3 : Int32))) X hx 135 (hb hby at_133) rfl rfl ?_
        refine giconst X hx (2 : Int32) 136 (hb hby at_135) rfl rfl ?_
        rcases Decidable.em ((p1 &&& (3 : Int32)) = (2 : Int32)) with hs136 | hs136
        · refine gicmpNo X hx 139 (hb hby at_136) rfl (teq hs136).2 ?_
          refine giload (v := (1 : Int32)) X hx 141 (hb hby at_139) rfl rfl ?_
          refine gstaticS (y := (⟨"com/example/fasten/fasten/sql/DialectOfPinLaw", "truncated", "(I)Ljava/lang/String;"⟩ : MethodName)) (argsL := [(.int (1 : Int32))]) (st := []) X hx hZ hown (own_w38 hw) (own_w39 hw) (own_w3 hw) (own_w40 hw) (by decide) hS hk (payS (W := 0) (rm_truncated1 l Z a0 hw h87 n0 (Nat.le_trans Z0 sz_h)) hZ (own_w40 hw) (own_w3 hw) (by decide) (by decide) (own_EW hw) C.1 all0) eT (by rw [hml]; rfl) (lenOf own_pd5 rfl) rfl (Nat.le_of_eq rfl) 4 44 rfl rfl (by decide) (by decide) 144 (hb hby at_141) rfl ?_
          clear X eT hS hk hZ hown; clear T k0; intro v T h128 L2 Lc vm k0 X eT hL hS hk hZ hown CR133 hQ129
          obtain ⟨x_130, t_131, rfl, Nq, K132, G134⟩ := hQ129
          replace N : Fr n0 L2 := by rw [hL]; exact Fr.app N Nq
          clear Nq hL
          replace P0_Old := P0_Old.keep K132 all0
          replace G93 := G93.keep K132 nin0 nin0
          replace K0 := K0.trans K132 all0
          replace C := C.trans CR133
          replace sz_h : h0.size ≤ h128.size := Nat.le_trans sz_h K132.1
          show Go p e below _ T (mkF m 144 #[.val (.int p0), .val (.int p1), .val (.int p2), .val (.int p3), .val (.int (1 : Int32)), .val (.int (p1 &&& (3 : Int32))), .val (.int (p2 &&& (15 : Int32))), .val (.int (p3 &&& (255 : Int32))), .val (.ref x_89), .val (.ref dm), .unset, .unset, .unset] [(.ref x_130)])
          refine gastore X hx #[.val (.int p0), .val (.int p1), .val (.int p2), .val (.int p3), .val (.int (1 : Int32)), .val (.int (p1 &&& (3 : Int32))), .val (.int (p2 &&& (15 : Int32))), .val (.int (p3 &&& (255 : Int32))), .val (.ref x_89), .val (.ref dm), .val (.ref x_130), .unset, .unset] 146 (hb hby at_144) rfl rfl rfl ?_
          refine gaconstNull X hx 147 (hb hby at_146) rfl ?_
          refine gastore X hx #[.val (.int p0), .val (.int p1), .val (.int p2), .val (.int p3), .val (.int (1 : Int32)), .val (.int (p1 &&& (3 : Int32))), .val (.int (p2 &&& (15 : Int32))), .val (.int (p3 &&& (255 : Int32))), .val (.ref x_89), .val (.ref dm), .val (.ref x_130), .val .null, .unset] 149 (hb hby at_147) rfl rfl rfl ?_
          refine ggoto X hx 174 (hb hby at_149) (by decide) (by decide) ?_
          refine gaload (v := (.ref x_130)) X hx 176 (hb hby at_174) rfl rfl rfl ?_
          refine gstaticS (y := (⟨"com/example/fasten/fasten/sql/Dialect", "of", "(Ljava/lang/String;)Lcom/example/fasten/fasten/sql/Dialect;"⟩ : MethodName)) (argsL := [(.ref x_130)]) (st := []) X hx hZ hown (own_w17 hw) (own_w18 hw) (own_w14 hw) (own_w19 hw) (by decide) hS hk (payS (W := 0) (rm2 l Z a0 hw (x_130) (t_131) (([77, 121, 83, 81] : List Int32)) _ _ _ h128 n0 (Nat.le_trans Z0 sz_h) G134 P0_Old (O2) (P5) (SM) (SG)) hZ (own_w19 hw) (own_w14 hw) (by decide) (by decide) (own_EW hw) C.1 all0) eT (by rw [hml]; rfl) (lenOf own_pd9 rfl) rfl (Nat.le_of_eq rfl) 10 144 rfl rfl (by decide) (by decide) 179 (hb hby at_176) rfl ?_
          clear X eT hS hk hZ hown; clear T k0; intro v T h135 L2 Lc vm k0 X eT hL hS hk hZ hown CR138 hQ136
          obtain ⟨rfl, Nq, K137⟩ := hQ136
          replace N : Fr n0 L2 := by rw [hL]; exact Fr.app N Nq
          clear Nq hL
          replace P0_Old := P0_Old.keep K137 all0
          replace G93 := G93.keep K137 nin0 nin0
          replace G134 := G134.keep K137 nin0 nin0
          replace K0 := K0.trans K137 all0
          replace C := C.trans CR138
          replace sz_h : h0.size ≤ h135.size := Nat.le_trans sz_h K137.1
          show Go p e below _ T (mkF m 179 #[.val (.int p0), .val (.int p1), .val (.int p2), .val (.int p3), .val (.int (1 : Int32)), .val (.int (p1 &&& (3 : Int32))), .val (.int (p2 &&& (15 : Int32))), .val (.int (p3 &&& (255 : Int32))), .val (.ref x_89), .val (.ref dm), .val (.ref x_130), .val .null, .unset] [(own_of ([77, 121, 83, 81] : List Int32) dm dg)])
          rw [show ((own_of ([77, 121, 83, 81] : List Int32) dm dg) : Value) = .null from own_len (by simp) (by simp) (by simp)]
          show Go p e below _ T (mkF m 179 #[.val (.int p0), .val (.int p1), .val (.int p2), .val (.int p3), .val (.int (1 : Int32)), .val (.int (p1 &&& (3 : Int32))), .val (.int (p2 &&& (15 : Int32))), .val (.int (p3 &&& (255 : Int32))), .val (.ref x_89), .val (.ref dm), .val (.ref x_130), .val .null, .unset] [.null])
          refine gaload (v := .null) X hx 181 (hb hby at_179) rfl rfl rfl ?_
          refine gacmp X hx true 184 (hb hby at_181) rfl rfl (decide_eq_true rfl) (by decide) (by decide) ?_
          refine giconst X hx (1 : Int32) 185 (hb hby at_184) rfl rfl ?_
          refine ggoto X hx 189 (hb hby at_185) (by decide) (by decide) ?_
          exact gRetL X hx hlk hret rfl (Or.inl ⟨rfl, by simp, _, rfl⟩) (hb hby at_189) eT hS hk (by decide) (by decide) ⟨rfl, N, K0⟩
        · refine gicmpYes X hx 152 (hb hby at_136) (feq hs136).2 (by decide) (by decide) ?_
          refine giload (v := (p2 &&& (15 : Int32))) X hx 154 (hb hby at_152) rfl rfl ?_
          refine giconst X hx (1 : Int32) 155 (hb hby at_154) rfl rfl ?_
          refine giand X hx 156 (hb hby at_155) rfl ?_
          rcases Decidable.em (((p2 &&& (15 : Int32)) &&& (1 : Int32)) = (0 : Int32)) with hs156 | hs156
          · refine gifNo X hx 159 (hb hby at_156) rfl ((if0 _ _).trans (teq hs156).2) ?_
            refine gldcV X hx hZ hown (own_w16 hw) (own_wS hw) eT hS hk (own_EW hw) own_mem16 C.1 [] (0 : Int32) (by decide +kernel) (by decide) rfl 0 (by decide) (by decide) 4 28 rfl rfl (by decide) (by decide) 161 (hb hby at_159) rfl ?_
            clear X eT hS hk hZ hown; clear T k0; intro c140 T h139 vm k0 t148 kb149 X eT E141 hS hk hZ hown CR142 Li143 A144 F145 F146 V147 ns150
            replace P0_Old := P0_Old.ext E141
            replace G93 := G93.ext E141
            replace K0 := K0.ext E141
            replace C := C.trans CR142
            replace sz_h : h0.size ≤ h139.size := Nat.le_trans sz_h E141.1
            show Go p e below _ T (mkF m 161 #[.val (.int p0), .val (.int p1), .val (.int p2), .val (.int p3), .val (.int (1 : Int32)), .val (.int (p1 &&& (3 : Int32))), .val (.int (p2 &&& (15 : Int32))), .val (.int (p3 &&& (255 : Int32))), .val (.ref x_89), .val (.ref dm), .unset, .unset, .unset] [(.ref c140)])
            have Str151 : Str Z h139 c140 t148 ([] : List Int32) := Str.of A144 F145 F146 V147 (by decide +kernel) (by decide +kernel) (by decide +kernel) (by decide)
            refine ggoto X hx 169 (hb hby at_161) (by decide) (by decide) ?_
            refine gastore X hx #[.val (.int p0), .val (.int p1), .val (.int p2), .val (.int p3), .val (.int (1 : Int32)), .val (.int (p1 &&& (3 : Int32))), .val (.int (p2 &&& (15 : Int32))), .val (.int (p3 &&& (255 : Int32))), .val (.ref x_89), .val (.ref dm), .val (.ref c140), .unset, .unset] 171 (hb hby at_169) rfl rfl rfl ?_
            refine gaconstNull X hx 172 (hb hby at_171) rfl ?_
            refine gastore X hx #[.val (.int p0), .val (.int p1), .val (.int p2), .val (.int p3), .val (.int (1 : Int32)), .val (.int (p1 &&& (3 : Int32))), .val (.int (p2 &&& (15 : Int32))), .val (.int (p3 &&& (255 : Int32))), .val (.ref x_89), .val (.ref dm), .val (.ref c140), .val .null, .unset] 174 (hb hby at_172) rfl rfl rfl ?_
            refine gaload (v := (.ref c140)) X hx 176 (hb hby at_174) rfl rfl rfl ?_
            refine gstaticS (y := (⟨"com/example/fasten/fasten/sql/Dialect", "of", "(Ljava/lang/String;)Lcom/example/fasten/fasten/sql/Dialect;"⟩ : MethodName)) (argsL := [(.ref c140)]) (st := []) X hx hZ hown (own_w17 hw) (own_w18 hw) (own_w14 hw) (own_w19 hw) (by decide) hS hk (payS (W := 0) (rm2 l Z a0 hw (c140) (t148) (([] : List Int32)) _ _ _ h139 n0 (Nat.le_trans Z0 sz_h) Str151 P0_Old (O2) (P5) (SM) (SG)) hZ (own_w19 hw) (own_w14 hw) (by decide) (by decide) (own_EW hw) C.1 all0) eT (by rw [hml]; rfl) (lenOf own_pd9 rfl) rfl (Nat.le_of_eq rfl) 10 128 rfl rfl (by decide) (by decide) 179 (hb hby at_176) rfl ?_
            clear X eT hS hk hZ hown; clear T k0; intro v T h152 L2 Lc vm k0 X eT hL hS hk hZ hown CR155 hQ153
            obtain ⟨rfl, Nq, K154⟩ := hQ153
            replace N : Fr n0 L2 := by rw [hL]; exact Fr.app N Nq
            clear Nq hL
            replace P0_Old := P0_Old.keep K154 all0
            replace G93 := G93.keep K154 nin0 nin0
            replace Str151 := Str151.keep K154 nin0 nin0
            replace K0 := K0.trans K154 all0
            replace C := C.trans CR155
            replace sz_h : h0.size ≤ h152.size := Nat.le_trans sz_h K154.1
            show Go p e below _ T (mkF m 179 #[.val (.int p0), .val (.int p1), .val (.int p2), .val (.int p3), .val (.int (1 : Int32)), .val (.int (p1 &&& (3 : Int32))), .val (.int (p2 &&& (15 : Int32))), .val (.int (p3 &&& (255 : Int32))), .val (.ref x_89), .val (.ref dm), .val (.ref c140), .val .null, .unset] [(own_of ([] : List Int32) dm dg)])
            rw [show ((own_of ([] : List Int32) dm dg) : Value) = .null from own_len (by simp) (by simp) (by simp)]
            show Go p e below _ T (mkF m 179 #[.val (.int p0), .val (.int p1), .val (.int p2), .val (.int p3), .val (.int (1 : Int32)), .val (.int (p1 &&& (3 : Int32))), .val (.int (p2 &&& (15 : Int32))), .val (.int (p3 &&& (255 : Int32))), .val (.ref x_89), .val (.ref dm), .val (.ref c140), .val .null, .unset] [.null])
            refine gaload (v := .null) X hx 181 (hb hby at_179) rfl rfl rfl ?_
            refine gacmp X hx true 184 (hb hby at_181) rfl rfl (decide_eq_true rfl) (by decide) (by decide) ?_
            refine giconst X hx (1 : Int32) 185 (hb hby at_184) rfl rfl ?_
            refine ggoto X hx 189 (hb hby at_185) (by decide) (by decide) ?_
            exact gRetL X hx hlk hret rfl (Or.inl ⟨rfl, by simp, _, rfl⟩) (hb hby at_189) eT hS hk (by decide) (by decide) ⟨rfl, N, K0⟩
          · refine gifYes X hx 164 (hb hby at_156) ((if0 _ _).trans (feq hs156).2) (by decide) (by decide) ?_
            refine giload (v := (p3 &&& (255 : Int32))) X hx 166 (hb hby at_164) rfl rfl ?_
            refine gstatic (y := (⟨"java/lang/String", "valueOf", "(C)Ljava/lang/String;"⟩ : MethodName)) (argsL := [(.int (p3 &&& (255 : Int32)))]) (st := []) X hx hZ hown (own_w84 hw) (own_w85 hw) (own_w6 hw) (own_w86 hw) (by decide) (payP (W := 0) (rm16 l Z a0 hw ((p3 &&& (255 : Int32))) _ h87 n0 (Nat.le_trans Z0 sz_h) P0_Old ((own_rng p3).2) (O2) (P5)) hZ (own_w86 hw) (own_w6 hw) (by decide) (by decide)) eT (by rw [hml]; rfl) (lenOf own_pd11 rfl) rfl (Nat.le_of_eq rfl) 4 29 rfl rfl (by decide) (by decide) 169 (hb hby at_166) rfl ?_
            clear X eT; clear T; intro v T h156 L2 Lc X eT hL hQ157
            obtain ⟨x_158, t_159, kb_160, rfl, Nq, K161, zz_x_158, zz_t_159, G163, G164, G165, G166, pp167⟩ := hQ157
            replace N : Fr n0 L2 := by rw [hL]; exact Fr.app N Nq
            clear Nq hL
            have ne_x_89_x_158 : x_89 ≠ x_158 := Nat.ne_of_lt (Nat.lt_of_lt_of_le G93.lt zz_x_158)
            have ne_x_158_x_89 : x_158 ≠ x_89 := Ne.symm ne_x_89_x_158
            have ne_t_90_x_158 : t_90 ≠ x_158 := Nat.ne_of_lt (Nat.lt_of_lt_of_le G93.lt2 zz_x_158)
            have ne_x_158_t_90 : x_158 ≠ t_90 := Ne.symm ne_t_90_x_158
            have sz_x_158 : h0.size ≤ x_158 := Nat.le_trans sz_h zz_x_158
            have ge_x_158 : n0 ≤ x_158 := Nat.le_trans Z0 sz_x_158
            have ne_x_89_t_159 : x_89 ≠ t_159 := Nat.ne_of_lt (Nat.lt_of_lt_of_le G93.lt zz_t_159)
            have ne_t_159_x_89 : t_159 ≠ x_89 := Ne.symm ne_x_89_t_159
            have ne_t_90_t_159 : t_90 ≠ t_159 := Nat.ne_of_lt (Nat.lt_of_lt_of_le G93.lt2 zz_t_159)
            have ne_t_159_t_90 : t_159 ≠ t_90 := Ne.symm ne_t_90_t_159
            have sz_t_159 : h0.size ≤ t_159 := Nat.le_trans sz_h zz_t_159
            have ge_t_159 : n0 ≤ t_159 := Nat.le_trans Z0 sz_t_159
            replace P0_Old := P0_Old.keep K161 all0
            replace G93 := G93.keep K161 nin0 nin0
            replace K0 := K0.trans K161 all0
            replace C := C.trans (CHr.keep K161 sf0 C.1)
            replace hk := Nat.le_trans hk K161.1
            replace sz_h : h0.size ≤ h156.size := Nat.le_trans sz_h K161.1
            show Go p e below _ T (mkF m 169 #[.val (.int p0), .val (.int p1), .val (.int p2), .val (.int p3), .val (.int (1 : Int32)), .val (.int (p1 &&& (3 : Int32))), .val (.int (p2 &&& (15 : Int32))), .val (.int (p3 &&& (255 : Int32))), .val (.ref x_89), .val (.ref dm), .unset, .unset, .unset] [(.ref x_158)])
            have Str168 : Str Z h156 x_158 t_159 ([(p3 &&& (255 : Int32))] : List Int32) := Str.of G163 G164 G165 G166 rfl rfl (own_cS (own_rng p3) own_c0) (Nat.le_of_ble_eq_true rfl)
            refine gastore X hx #[.val (.int p0), .val (.int p1), .val (.int p2), .val (.int p3), .val (.int (1 : Int32)), .val (.int (p1 &&& (3 : Int32))), .val (.int (p2 &&& (15 : Int32))), .val (.int (p3 &&& (255 : Int32))), .val (.ref x_89), .val (.ref dm), .val (.ref x_158), .unset, .unset] 171 (hb hby at_169) rfl rfl rfl ?_
            refine gaconstNull X hx 172 (hb hby at_171) rfl ?_
            refine gastore X hx #[.val (.int p0), .val (.int p1), .val (.int p2), .val (.int p3), .val (.int (1 : Int32)), .val (.int (p1 &&& (3 : Int32))), .val (.int (p2 &&& (15 : Int32))), .val (.int (p3 &&& (255 : Int32))), .val (.ref x_89), .val (.ref dm), .val (.ref x_158), .val .null, .unset] 174 (hb hby at_172) rfl rfl rfl ?_
            refine gaload (v := (.ref x_158)) X hx 176 (hb hby at_174) rfl rfl rfl ?_
            refine gstaticS (y := (⟨"com/example/fasten/fasten/sql/Dialect", "of", "(Ljava/lang/String;)Lcom/example/fasten/fasten/sql/Dialect;"⟩ : MethodName)) (argsL := [(.ref x_158)]) (st := []) X hx hZ hown (own_w17 hw) (own_w18 hw) (own_w14 hw) (own_w19 hw) (by decide) hS hk (payS (W := 0) (rm2 l Z a0 hw (x_158) (t_159) (([(p3 &&& (255 : Int32))] : List Int32)) _ _ _ h156 n0 (Nat.le_trans Z0 sz_h) Str168 P0_Old (O2) (P5) (SM) (SG)) hZ (own_w19 hw) (own_w14 hw) (by decide) (by decide) (own_EW hw) C.1 all0) eT (by rw [hml]; rfl) (lenOf own_pd9 rfl) rfl (Nat.le_of_eq rfl) 10 129 rfl rfl (by decide) (by decide) 179 (hb hby at_176) rfl ?_
            clear X eT hS hk hZ hown; clear T k0; intro v T h169 L2 Lc vm k0 X eT hL hS hk hZ hown CR172 hQ170
            obtain ⟨rfl, Nq, K171⟩ := hQ170
            replace N : Fr n0 L2 := by rw [hL]; exact Fr.app N Nq
            clear Nq hL
            replace P0_Old := P0_Old.keep K171 all0
            replace G93 := G93.keep K171 nin0 nin0
            replace Str168 := Str168.keep K171 nin0 nin0
            replace K0 := K0.trans K171 all0
            replace C := C.trans CR172
            replace sz_h : h0.size ≤ h169.size := Nat.le_trans sz_h K171.1
            show Go p e below _ T (mkF m 179 #[.val (.int p0), .val (.int p1), .val (.int p2), .val (.int p3), .val (.int (1 : Int32)), .val (.int (p1 &&& (3 : Int32))), .val (.int (p2 &&& (15 : Int32))), .val (.int (p3 &&& (255 : Int32))), .val (.ref x_89), .val (.ref dm), .val (.ref x_158), .val .null, .unset] [(own_of ([(p3 &&& (255 : Int32))] : List Int32) dm dg)])
            rw [show ((own_of ([(p3 &&& (255 : Int32))] : List Int32) dm dg) : Value) = .null from own_len (by simp) (by simp) (by simp)]
            show Go p e below _ T (mkF m 179 #[.val (.int p0), .val (.int p1), .val (.int p2), .val (.int p3), .val (.int (1 : Int32)), .val (.int (p1 &&& (3 : Int32))), .val (.int (p2 &&& (15 : Int32))), .val (.int (p3 &&& (255 : Int32))), .val (.ref x_89), .val (.ref dm), .val (.ref x_158), .val .null, .unset] [.null])
            refine gaload (v := .null) X hx 181 (hb hby at_179) rfl rfl rfl ?_
            refine gacmp X hx true 184 (hb hby at_181) rfl rfl (decide_eq_true rfl) (by decide) (by decide) ?_
            refine giconst X hx (1 : Int32) 185 (hb hby at_184) rfl rfl ?_
            refine ggoto X hx 189 (hb hby at_185) (by decide) (by decide) ?_
            exact gRetL X hx hlk hret rfl (Or.inl ⟨rfl, by simp, _, rfl⟩) (hb hby at_189) eT hS hk (by decide) (by decide) ⟨rfl, N, K0⟩
  · rw [hb3]
    show Go p e below _ T (mkF m 6 #[.val (.int p0), .val (.int p1), .val (.int p2), .val (.int p3), .unset, .unset, .unset, .unset, .unset, .unset, .unset, .unset, .unset] [(.int (2 : Int32))])
    refine gistore X hx #[.val (.int p0), .val (.int p1), .val (.int p2), .val (.int p3), .val (.int (2 : Int32)), .unset, .unset, .unset, .unset, .unset, .unset, .unset, .unset] 8 (hb hby at_6) rfl rfl ?_
    refine giloadN (v := p1) X hx 9 (hb hby at_8) rfl rfl ?_
    refine giconst X hx (3 : Int32) 10 (hb hby at_9) rfl rfl ?_
    refine giand X hx 11 (hb hby at_10) rfl ?_
    refine gistore X hx #[.val (.int p0), .val (.int p1), .val (.int p2), .val (.int p3), .val (.int (2 : Int32)), .val (.int (p1 &&& (3 : Int32))), .unset, .unset, .unset, .unset, .unset, .unset, .unset] 13 (hb hby at_11) rfl rfl ?_
    refine giloadN (v := p2) X hx 14 (hb hby at_13) rfl rfl ?_
    refine gbipush X hx (15 : Int32) 16 (hb hby at_14) rfl rfl ?_
    refine giand X hx 17 (hb hby at_16) rfl ?_
    refine gistore X hx #[.val (.int p0), .val (.int p1), .val (.int p2), .val (.int p3), .val (.int (2 : Int32)), .val (.int (p1 &&& (3 : Int32))), .val (.int (p2 &&& (15 : Int32))), .unset, .unset, .unset, .unset, .unset, .unset] 19 (hb hby at_17) rfl rfl ?_
    refine giloadN (v := p3) X hx 20 (hb hby at_19) rfl rfl ?_
    refine gsipush X hx (255 : Int32) 23 (hb hby at_20) rfl rfl ?_
    refine giand X hx 24 (hb hby at_23) rfl ?_
    refine gi2c X hx 25 (hb hby at_24) rfl ?_
    rw [own_i2c8]
    refine gistore X hx #[.val (.int p0), .val (.int p1), .val (.int p2), .val (.int p3), .val (.int (2 : Int32)), .val (.int (p1 &&& (3 : Int32))), .val (.int (p2 &&& (15 : Int32))), .val (.int (p3 &&& (255 : Int32))), .unset, .unset, .unset, .unset, .unset] 27 (hb hby at_25) rfl rfl ?_
    refine giload (v := (2 : Int32)) X hx 29 (hb hby at_27) rfl rfl ?_
    refine gstaticS (y := (⟨"com/example/fasten/fasten/sql/DialectOfPinLaw", "nameOf", "(I)Ljava/lang/String;"⟩ : MethodName)) (argsL := [(.int (2 : Int32))]) (st := []) X hx hZ hown (own_w1 hw) (own_w2 hw) (own_w3 hw) (own_w4 hw) (by decide) hS hk (payS (W := 0) (rm_nameOf2 l Z a0 hw h0 n0 (Nat.le_trans Z0 sz_h)) hZ (own_w4 hw) (own_w3 hw) (by decide) (by decide) (own_EW hw) C.1 all0) eT (by rw [hml]; rfl) (lenOf own_pd5 rfl) rfl (Nat.le_of_eq rfl) 2 44 rfl rfl (by decide) (by decide) 32 (hb hby at_29) rfl ?_
    clear X eT hS hk hZ hown; clear T k0; intro v T h173 L2 Lc vm k0 X eT hL hS hk hZ hown CR178 hQ174
    obtain ⟨x_175, t_176, rfl, Nq, K177, G179⟩ := hQ174
    replace N : Fr n0 L2 := by rw [hL]; exact Fr.app N Nq
    clear Nq hL
    replace P0_Old := P0_Old.keep K177 all0
    replace K0 := K0.trans K177 all0
    replace C := C.trans CR178
    replace sz_h : h0.size ≤ h173.size := Nat.le_trans sz_h K177.1
    show Go p e below _ T (mkF m 32 #[.val (.int p0), .val (.int p1), .val (.int p2), .val (.int p3), .val (.int (2 : Int32)), .val (.int (p1 &&& (3 : Int32))), .val (.int (p2 &&& (15 : Int32))), .val (.int (p3 &&& (255 : Int32))), .unset, .unset, .unset, .unset, .unset] [(.ref x_175)])
    refine gastore X hx #[.val (.int p0), .val (.int p1), .val (.int p2), .val (.int p3), .val (.int (2 : Int32)), .val (.int (p1 &&& (3 : Int32))), .val (.int (p2 &&& (15 : Int32))), .val (.int (p3 &&& (255 : Int32))), .val (.ref x_175), .unset, .unset, .unset, .unset] 34 (hb hby at_32) rfl rfl rfl ?_
    refine giload (v := (2 : Int32)) X hx 36 (hb hby at_34) rfl rfl ?_
    refine giconst X hx (2 : Int32) 37 (hb hby at_36) rfl rfl ?_
    refine gicmpNo X hx 40 (hb hby at_37) rfl (by decide) ?_
    refine ggetS X hx hZ (host := "") hown (Or.inl (own_w81 hw)) Via.refl eT (SG.ext P0_Old.2) 43 (hb hby at_40) rfl ?_
    clear X eT; clear T; intro T X eT
    refine ggoto X hx 49 (hb hby at_43) (by decide) (by decide) ?_
    refine gastore X hx #[.val (.int p0), .val (.int p1), .val (.int p2), .val (.int p3), .val (.int (2 : Int32)), .val (.int (p1 &&& (3 : Int32))), .val (.int (p2 &&& (15 : Int32))), .val (.int (p3 &&& (255 : Int32))), .val (.ref x_175), .val (.ref dg), .unset, .unset, .unset] 51 (hb hby at_49) rfl rfl rfl ?_
    refine giload (v := (p1 &&& (3 : Int32))) X hx 53 (hb hby at_51) rfl rfl ?_
    rcases Decidable.em ((p1 &&& (3 : Int32)) = (0 : Int32)) with hs53 | hs53
    · refine gifNo X hx 56 (hb hby at_53) rfl ((if0 _ _).trans (teq hs53).2) ?_
      refine giload (v := (2 : Int32)) X hx 58 (hb hby at_56) rfl rfl ?_
      refine giload (v := (p2 &&& (15 : Int32))) X hx 60 (hb hby at_58) rfl rfl ?_
      refine giload (v := (p3 &&& (255 : Int32))) X hx 62 (hb hby at_60) rfl rfl ?_
      refine gstatic (y := (⟨"com/example/fasten/fasten/sql/DialectOfPinLaw", "substituted", "(IIC)Ljava/lang/String;"⟩ : MethodName)) (argsL := [(.int (2 : Int32)), (.int (p2 &&& (15 : Int32))), (.int (p3 &&& (255 : Int32)))]) (st := []) X hx hZ hown (own_w42 hw) (own_w43 hw) (own_w3 hw) (own_w44 hw) (by decide) (payP (W := 0) (rm_sub2 l Z a0 hw ((p2 &&& (15 : Int32))) ((p3 &&& (255 : Int32))) _ h173 n0 (Nat.le_trans Z0 sz_h) P0_Old (O2) (P5) (own_15 p2) (own_rng p3)) hZ (own_w44 hw) (own_w3 hw) (by decide) (by decide)) eT (by rw [hml]; rfl) (lenOf own_pd6 rfl) rfl (Nat.le_of_eq rfl) 5 68 rfl rfl (by decide) (by decide) 65 (hb hby at_62) rfl ?_
      clear X eT; clear T; intro v T h180 L2 Lc X eT hL hQ181
      obtain ⟨x_182, t_183, rfl, Nq, K184, zz_x_182, zz_t_183, G186⟩ := hQ181
      replace N : Fr n0 L2 := by rw [hL]; exact Fr.app N Nq
      clear Nq hL
      have ne_x_175_x_182 : x_175 ≠ x_182 := Nat.ne_of_lt (Nat.lt_of_lt_of_le G179.lt zz_x_182)
      have ne_x_182_x_175 : x_182 ≠ x_175 := Ne.symm ne_x_175_x_182
      have ne_t_176_x_182 : t_176 ≠ x_182 := Nat.ne_of_lt (Nat.lt_of_lt_of_le G179.lt2 zz_x_182)
      have ne_x_182_t_176 : x_182 ≠ t_176 := Ne.symm ne_t_176_x_182
      have sz_x_182 : h0.size ≤ x_182 := Nat.le_trans sz_h zz_x_182
      have ge_x_182 : n0 ≤ x_182 := Nat.le_trans Z0 sz_x_182
      have ne_x_175_t_183 : x_175 ≠ t_183 := Nat.ne_of_lt (Nat.lt_of_lt_of_le G179.lt zz_t_183)
      have ne_t_183_x_175 : t_183 ≠ x_175 := Ne.symm ne_x_175_t_183
      have ne_t_176_t_183 : t_176 ≠ t_183 := Nat.ne_of_lt (Nat.lt_of_lt_of_le G179.lt2 zz_t_183)
      have ne_t_183_t_176 : t_183 ≠ t_176 := Ne.symm ne_t_176_t_183
      have sz_t_183 : h0.size ≤ t_183 := Nat.le_trans sz_h zz_t_183
      have ge_t_183 : n0 ≤ t_183 := Nat.le_trans Z0 sz_t_183
      replace P0_Old := P0_Old.keep K184 all0
      replace G179 := G179.keep K184 nin0 nin0
      replace K0 := K0.trans K184 all0
      replace C := C.trans (CHr.keep K184 sf0 C.1)
      replace hk := Nat.le_trans hk K184.1
      replace sz_h : h0.size ≤ h180.size := Nat.le_trans sz_h K184.1
      show Go p e below _ T (mkF m 65 #[.val (.int p0), .val (.int p1), .val (.int p2), .val (.int p3), .val (.int (2 : Int32)), .val (.int (p1 &&& (3 : Int32))), .val (.int (p2 &&& (15 : Int32))), .val (.int (p3 &&& (255 : Int32))), .val (.ref x_175), .val (.ref dg), .unset, .unset, .unset] [(.ref x_182)])
      refine gastore X hx #[.val (.int p0), .val (.int p1), .val (.int p2), .val (.int p3), .val (.int (2 : Int32)), .val (.int (p1 &&& (3 : Int32))), .val (.int (p2 &&& (15 : Int32))), .val (.int (p3 &&& (255 : Int32))), .val (.ref x_175), .val (.ref dg), .val (.ref x_182), .unset, .unset] 67 (hb hby at_65) rfl rfl rfl ?_
      refine giload (v := (p2 &&& (15 : Int32))) X hx 69 (hb hby at_67) rfl rfl ?_
      refine gaload (v := (.ref x_175)) X hx 71 (hb hby at_69) rfl rfl rfl ?_
      refine gvirtual (y := (⟨"java/lang/String", "length", "()I"⟩ : MethodName)) (z := (⟨"java/lang/String", "length", "()I"⟩ : MethodName)) (a := x_175) (argsL := []) (st := [(.int (p2 &&& (15 : Int32)))]) X hx hZ hown (own_w66 hw) (own_w67 hw) (notFace_of_selects (args := #[]) (mvT hZ (own_w69 hw))) (own_w69 hw) (own_w68 hw) (by decide) G179.exa (payLen (W := 1) hZ hw G179 (O2.ext P0_Old.2) P5 (by decide) (by decide)) eT (by rw [hml]; rfl) (lenOf own_pd7 rfl) rfl (Nat.le_of_eq rfl) 5 68 rfl rfl (by decide) (by decide) 74 (hb hby at_71) rfl ?_
      clear X eT; clear T; intro v T h187 L2 Lc X eT hL hQ188
      obtain ⟨rfl, rfl, hh⟩ := hQ188
      replace hh := hh.symm; subst hh
      replace N : Fr n0 L2 := by rw [hL]; exact Fr.app N (Fr.nil n0)
      clear hL
      show Go p e below _ T (mkF m 74 #[.val (.int p0), .val (.int p1), .val (.int p2), .val (.int p3), .val (.int (2 : Int32)), .val (.int (p1 &&& (3 : Int32))), .val (.int (p2 &&& (15 : Int32))), .val (.int (p3 &&& (255 : Int32))), .val (.ref x_175), .val (.ref dg), .val (.ref x_182), .unset, .unset] [(.int (10 : Int32)), (.int (p2 &&& (15 : Int32)))])
      rcases Decidable.em ((p2 &&& (15 : Int32)) < (10 : Int32)) with hp74 | hp74
      · refine gicmpNo X hx 77 (hb hby at_74) rfl (tlt hp74).2.1 ?_
        refine giload (v := (p3 &&& (255 : Int32))) X hx 79 (hb hby at_77) rfl rfl ?_
        refine gaload (v := (.ref x_175)) X hx 81 (hb hby at_79) rfl rfl rfl ?_
        refine giload (v := (p2 &&& (15 : Int32))) X hx 83 (hb hby at_81) rfl rfl ?_
        refine gvirtual (y := (⟨"java/lang/String", "charAt", "(I)C"⟩ : MethodName)) (z := (⟨"java/lang/String", "charAt", "(I)C"⟩ : MethodName)) (a := x_175) (argsL := [(.int (p2 &&& (15 : Int32)))]) (st := [(.int (p3 &&& (255 : Int32)))]) X hx hZ hown (own_w96 hw) (own_w97 hw) (notFace_of_selects (args := #[]) (mvT hZ (own_w99 hw))) (own_w99 hw) (own_w98 hw) (by decide) G179.exa (payChr (W := 1) (i := (p2 &&& (15 : Int32)).toNatClampNeg) hZ hw G179 (O2.ext P0_Old.2) P5 (O4.ext P0_Old.2) rG3 (own_nat (own_15 p2) (by decide) hp74) (own_back (own_15 p2)) (by decide) (by decide)) eT (by rw [hml]; rfl) (lenOf own_pd8 rfl) rfl (Nat.le_of_eq rfl) 5 68 rfl rfl (by decide) (by decide) 86 (hb hby at_83) rfl ?_
        clear X eT; clear T; intro v T h189 L2 Lc X eT hL hQ190
        obtain ⟨rfl, rfl, hh⟩ := hQ190
        replace hh := hh.symm; subst hh
        replace N : Fr n0 L2 := by rw [hL]; exact Fr.app N (Fr.nil n0)
        clear hL
        show Go p e below _ T (mkF m 86 #[.val (.int p0), .val (.int p1), .val (.int p2), .val (.int p3), .val (.int (2 : Int32)), .val (.int (p1 &&& (3 : Int32))), .val (.int (p2 &&& (15 : Int32))), .val (.int (p3 &&& (255 : Int32))), .val (.ref x_175), .val (.ref dg), .val (.ref x_182), .unset, .unset] [(.int (([80, 111, 115, 116, 103, 114, 101, 83, 81, 76] : List Int32).getD (p2 &&& (15 : Int32)).toNatClampNeg 0)), (.int (p3 &&& (255 : Int32)))])
        rcases Decidable.em ((p3 &&& (255 : Int32)) = (([80, 111, 115, 116, 103, 114, 101, 83, 81, 76] : List Int32).getD (p2 &&& (15 : Int32)).toNatClampNeg 0)) with he86 | he86
        · refine gicmpNo X hx 89 (hb hby at_86) rfl (teq he86).2 ?_
          refine giconst X hx (1 : Int32) 90 (hb hby at_89) rfl rfl ?_
          refine ggoto X hx 94 (hb hby at_90) (by decide) (by decide) ?_
          refine gistore X hx #[.val (.int p0), .val (.int p1), .val (.int p2), .val (.int p3), .val (.int (2 : Int32)), .val (.int (p1 &&& (3 : Int32))), .val (.int (p2 &&& (15 : Int32))), .val (.int (p3 &&& (255 : Int32))), .val (.ref x_175), .val (.ref dg), .val (.ref x_182), .unset, .val (.int (1 : Int32))] 96 (hb hby at_94) rfl rfl ?_
          refine giload (v := (1 : Int32)) X hx 98 (hb hby at_96) rfl rfl ?_
          refine gifNo X hx 101 (hb hby at_98) rfl (by decide) ?_
          refine gaload (v := (.ref dg)) X hx 103 (hb hby at_101) rfl rfl rfl ?_
          refine ggoto X hx 107 (hb hby at_103) (by decide) (by decide) ?_
          refine gastore X hx #[.val (.int p0), .val (.int p1), .val (.int p2), .val (.int p3), .val (.int (2 : Int32)), .val (.int (p1 &&& (3 : Int32))), .val (.int (p2 &&& (15 : Int32))), .val (.int (p3 &&& (255 : Int32))), .val (.ref x_175), .val (.ref dg), .val (.ref x_182), .val (.ref dg), .val (.int (1 : Int32))] 109 (hb hby at_107) rfl rfl rfl ?_
          refine ggoto X hx 174 (hb hby at_109) (by decide) (by decide) ?_
          refine gaload (v := (.ref x_182)) X hx 176 (hb hby at_174) rfl rfl rfl ?_
          refine gstaticS (y := (⟨"com/example/fasten/fasten/sql/Dialect", "of", "(Ljava/lang/String;)Lcom/example/fasten/fasten/sql/Dialect;"⟩ : MethodName)) (argsL := [(.ref x_182)]) (st := []) X hx hZ hown (own_w17 hw) (own_w18 hw) (own_w14 hw) (own_w19 hw) (by decide) hS hk (payS (W := 0) (rm2 l Z a0 hw (x_182) (t_183) ((([80, 111, 115, 116, 103, 114, 101, 83, 81, 76] : List Int32).set (p2 &&& (15 : Int32)).toNatClampNeg (p3 &&& (255 : Int32)))) _ _ _ h180 n0 (Nat.le_trans Z0 sz_h) G186 P0_Old (O2) (P5) (SM) (SG)) hZ (own_w19 hw) (own_w14 hw) (by decide) (by decide) (own_EW hw) C.1 all0) eT (by rw [hml]; rfl) (lenOf own_pd9 rfl) rfl (Nat.le_of_eq rfl) 11 168 rfl rfl (by decide) (by decide) 179 (hb hby at_176) rfl ?_
          clear X eT hS hk hZ hown; clear T k0; intro v T h191 L2 Lc vm k0 X eT hL hS hk hZ hown CR194 hQ192
          obtain ⟨rfl, Nq, K193⟩ := hQ192
          replace N : Fr n0 L2 := by rw [hL]; exact Fr.app N Nq
          clear Nq hL
          replace P0_Old := P0_Old.keep K193 all0
          replace G179 := G179.keep K193 nin0 nin0
          replace G186 := G186.keep K193 nin0 nin0
          replace K0 := K0.trans K193 all0
          replace C := C.trans CR194
          replace sz_h : h0.size ≤ h191.size := Nat.le_trans sz_h K193.1
          show Go p e below _ T (mkF m 179 #[.val (.int p0), .val (.int p1), .val (.int p2), .val (.int p3), .val (.int (2 : Int32)), .val (.int (p1 &&& (3 : Int32))), .val (.int (p2 &&& (15 : Int32))), .val (.int (p3 &&& (255 : Int32))), .val (.ref x_175), .val (.ref dg), .val (.ref x_182), .val (.ref dg), .val (.int (1 : Int32))] [(own_of (([80, 111, 115, 116, 103, 114, 101, 83, 81, 76] : List Int32).set (p2 &&& (15 : Int32)).toNatClampNeg (p3 &&& (255 : Int32))) dm dg)])
          rw [show ((own_of (([80, 111, 115, 116, 103, 114, 101, 83, 81, 76] : List Int32).set (p2 &&& (15 : Int32)).toNatClampNeg (p3 &&& (255 : Int32))) dm dg) : Value) = (.ref dg) from own_s1_2 hp74 he86]
          show Go p e below _ T (mkF m 179 #[.val (.int p0), .val (.int p1), .val (.int p2), .val (.int p3), .val (.int (2 : Int32)), .val (.int (p1 &&& (3 : Int32))), .val (.int (p2 &&& (15 : Int32))), .val (.int (p3 &&& (255 : Int32))), .val (.ref x_175), .val (.ref dg), .val (.ref x_182), .val (.ref dg), .val (.int (1 : Int32))] [(.ref dg)])
          refine gaload (v := (.ref dg)) X hx 181 (hb hby at_179) rfl rfl rfl ?_
          refine gacmp X hx true 184 (hb hby at_181) rfl rfl (decide_eq_true rfl) (by decide) (by decide) ?_
          refine giconst X hx (1 : Int32) 185 (hb hby at_184) rfl rfl ?_
          refine ggoto X hx 189 (hb hby at_185) (by decide) (by decide) ?_
          exact gRetL X hx hlk hret rfl (Or.inl ⟨rfl, by simp, _, rfl⟩) (hb hby at_189) eT hS hk (by decide) (by decide) ⟨rfl, N, K0⟩
        · refine gicmpYes X hx 93 (hb hby at_86) (feq he86).2 (by decide) (by decide) ?_
          refine giconst X hx (0 : Int32) 94 (hb hby at_93) rfl rfl ?_
          refine gistore X hx #[.val (.int p0), .val (.int p1), .val (.int p2), .val (.int p3), .val (.int (2 : Int32)), .val (.int (p1 &&& (3 : Int32))), .val (.int (p2 &&& (15 : Int32))), .val (.int (p3 &&& (255 : Int32))), .val (.ref x_175), .val (.ref dg), .val (.ref x_182), .unset, .val (.int (0 : Int32))] 96 (hb hby at_94) rfl rfl ?_
          refine giload (v := (0 : Int32)) X hx 98 (hb hby at_96) rfl rfl ?_
          refine gifYes X hx 106 (hb hby at_98) (by decide) (by decide) (by decide) ?_
          refine gaconstNull X hx 107 (hb hby at_106) rfl ?_
          refine gastore X hx #[.val (.int p0), .val (.int p1), .val (.int p2), .val (.int p3), .val (.int (2 : Int32)), .val (.int (p1 &&& (3 : Int32))), .val (.int (p2 &&& (15 : Int32))), .val (.int (p3 &&& (255 : Int32))), .val (.ref x_175), .val (.ref dg), .val (.ref x_182), .val .null, .val (.int (0 : Int32))] 109 (hb hby at_107) rfl rfl rfl ?_
          refine ggoto X hx 174 (hb hby at_109) (by decide) (by decide) ?_
          refine gaload (v := (.ref x_182)) X hx 176 (hb hby at_174) rfl rfl rfl ?_
          refine gstaticS (y := (⟨"com/example/fasten/fasten/sql/Dialect", "of", "(Ljava/lang/String;)Lcom/example/fasten/fasten/sql/Dialect;"⟩ : MethodName)) (argsL := [(.ref x_182)]) (st := []) X hx hZ hown (own_w17 hw) (own_w18 hw) (own_w14 hw) (own_w19 hw) (by decide) hS hk (payS (W := 0) (rm2 l Z a0 hw (x_182) (t_183) ((([80, 111, 115, 116, 103, 114, 101, 83, 81, 76] : List Int32).set (p2 &&& (15 : Int32)).toNatClampNeg (p3 &&& (255 : Int32)))) _ _ _ h180 n0 (Nat.le_trans Z0 sz_h) G186 P0_Old (O2) (P5) (SM) (SG)) hZ (own_w19 hw) (own_w14 hw) (by decide) (by decide) (own_EW hw) C.1 all0) eT (by rw [hml]; rfl) (lenOf own_pd9 rfl) rfl (Nat.le_of_eq rfl) 11 168 rfl rfl (by decide) (by decide) 179 (hb hby at_176) rfl ?_
          clear X eT hS hk hZ hown; clear T k0; intro v T h195 L2 Lc vm k0 X eT hL hS hk hZ hown CR198 hQ196
          obtain ⟨rfl, Nq, K197⟩ := hQ196
          replace N : Fr n0 L2 := by rw [hL]; exact Fr.app N Nq
          clear Nq hL
          replace P0_Old := P0_Old.keep K197 all0
          replace G179 := G179.keep K197 nin0 nin0
          replace G186 := G186.keep K197 nin0 nin0
          replace K0 := K0.trans K197 all0
          replace C := C.trans CR198
          replace sz_h : h0.size ≤ h195.size := Nat.le_trans sz_h K197.1
          show Go p e below _ T (mkF m 179 #[.val (.int p0), .val (.int p1), .val (.int p2), .val (.int p3), .val (.int (2 : Int32)), .val (.int (p1 &&& (3 : Int32))), .val (.int (p2 &&& (15 : Int32))), .val (.int (p3 &&& (255 : Int32))), .val (.ref x_175), .val (.ref dg), .val (.ref x_182), .val .null, .val (.int (0 : Int32))] [(own_of (([80, 111, 115, 116, 103, 114, 101, 83, 81, 76] : List Int32).set (p2 &&& (15 : Int32)).toNatClampNeg (p3 &&& (255 : Int32))) dm dg)])
          rw [show ((own_of (([80, 111, 115, 116, 103, 114, 101, 83, 81, 76] : List Int32).set (p2 &&& (15 : Int32)).toNatClampNeg (p3 &&& (255 : Int32))) dm dg) : Value) = .null from own_s2_2 (own_15 p2) hp74 he86]
          show Go p e below _ T (mkF m 179 #[.val (.int p0), .val (.int p1), .val (.int p2), .val (.int p3), .val (.int (2 : Int32)), .val (.int (p1 &&& (3 : Int32))), .val (.int (p2 &&& (15 : Int32))), .val (.int (p3 &&& (255 : Int32))), .val (.ref x_175), .val (.ref dg), .val (.ref x_182), .val .null, .val (.int (0 : Int32))] [.null])
          refine gaload (v := .null) X hx 181 (hb hby at_179) rfl rfl rfl ?_
          refine gacmp X hx true 184 (hb hby at_181) rfl rfl (decide_eq_true rfl) (by decide) (by decide) ?_
          refine giconst X hx (1 : Int32) 185 (hb hby at_184) rfl rfl ?_
          refine ggoto X hx 189 (hb hby at_185) (by decide) (by decide) ?_
          exact gRetL X hx hlk hret rfl (Or.inl ⟨rfl, by simp, _, rfl⟩) (hb hby at_189) eT hS hk (by decide) (by decide) ⟨rfl, N, K0⟩
      · refine gicmpYes X hx 89 (hb hby at_74) (flt hp74).2.1 (by decide) (by decide) ?_
        refine giconst X hx (1 : Int32) 90 (hb hby at_89) rfl rfl ?_
        refine ggoto X hx 94 (hb hby at_90) (by decide) (by decide) ?_
        refine gistore X hx #[.val (.int p0), .val (.int p1), .val (.int p2), .val (.int p3), .val (.int (2 : Int32)), .val (.int (p1 &&& (3 : Int32))), .val (.int (p2 &&& (15 : Int32))), .val (.int (p3 &&& (255 : Int32))), .val (.ref x_175), .val (.ref dg), .val (.ref x_182), .unset, .val (.int (1 : Int32))] 96 (hb hby at_94) rfl rfl ?_
        refine giload (v := (1 : Int32)) X hx 98 (hb hby at_96) rfl rfl ?_
        refine gifNo X hx 101 (hb hby at_98) rfl (by decide) ?_
        refine gaload (v := (.ref dg)) X hx 103 (hb hby at_101) rfl rfl rfl ?_
        refine ggoto X hx 107 (hb hby at_103) (by decide) (by decide) ?_
        refine gastore X hx #[.val (.int p0), .val (.int p1), .val (.int p2), .val (.int p3), .val (.int (2 : Int32)), .val (.int (p1 &&& (3 : Int32))), .val (.int (p2 &&& (15 : Int32))), .val (.int (p3 &&& (255 : Int32))), .val (.ref x_175), .val (.ref dg), .val (.ref x_182), .val (.ref dg), .val (.int (1 : Int32))] 109 (hb hby at_107) rfl rfl rfl ?_
        refine ggoto X hx 174 (hb hby at_109) (by decide) (by decide) ?_
        refine gaload (v := (.ref x_182)) X hx 176 (hb hby at_174) rfl rfl rfl ?_
        refine gstaticS (y := (⟨"com/example/fasten/fasten/sql/Dialect", "of", "(Ljava/lang/String;)Lcom/example/fasten/fasten/sql/Dialect;"⟩ : MethodName)) (argsL := [(.ref x_182)]) (st := []) X hx hZ hown (own_w17 hw) (own_w18 hw) (own_w14 hw) (own_w19 hw) (by decide) hS hk (payS (W := 0) (rm2 l Z a0 hw (x_182) (t_183) ((([80, 111, 115, 116, 103, 114, 101, 83, 81, 76] : List Int32).set (p2 &&& (15 : Int32)).toNatClampNeg (p3 &&& (255 : Int32)))) _ _ _ h180 n0 (Nat.le_trans Z0 sz_h) G186 P0_Old (O2) (P5) (SM) (SG)) hZ (own_w19 hw) (own_w14 hw) (by decide) (by decide) (own_EW hw) C.1 all0) eT (by rw [hml]; rfl) (lenOf own_pd9 rfl) rfl (Nat.le_of_eq rfl) 11 168 rfl rfl (by decide) (by decide) 179 (hb hby at_176) rfl ?_
        clear X eT hS hk hZ hown; clear T k0; intro v T h199 L2 Lc vm k0 X eT hL hS hk hZ hown CR202 hQ200
        obtain ⟨rfl, Nq, K201⟩ := hQ200
        replace N : Fr n0 L2 := by rw [hL]; exact Fr.app N Nq
        clear Nq hL
        replace P0_Old := P0_Old.keep K201 all0
        replace G179 := G179.keep K201 nin0 nin0
        replace G186 := G186.keep K201 nin0 nin0
        replace K0 := K0.trans K201 all0
        replace C := C.trans CR202
        replace sz_h : h0.size ≤ h199.size := Nat.le_trans sz_h K201.1
        show Go p e below _ T (mkF m 179 #[.val (.int p0), .val (.int p1), .val (.int p2), .val (.int p3), .val (.int (2 : Int32)), .val (.int (p1 &&& (3 : Int32))), .val (.int (p2 &&& (15 : Int32))), .val (.int (p3 &&& (255 : Int32))), .val (.ref x_175), .val (.ref dg), .val (.ref x_182), .val (.ref dg), .val (.int (1 : Int32))] [(own_of (([80, 111, 115, 116, 103, 114, 101, 83, 81, 76] : List Int32).set (p2 &&& (15 : Int32)).toNatClampNeg (p3 &&& (255 : Int32))) dm dg)])
        rw [show ((own_of (([80, 111, 115, 116, 103, 114, 101, 83, 81, 76] : List Int32).set (p2 &&& (15 : Int32)).toNatClampNeg (p3 &&& (255 : Int32))) dm dg) : Value) = (.ref dg) from own_s3_2 (own_15 p2) hp74]
        show Go p e below _ T (mkF m 179 #[.val (.int p0), .val (.int p1), .val (.int p2), .val (.int p3), .val (.int (2 : Int32)), .val (.int (p1 &&& (3 : Int32))), .val (.int (p2 &&& (15 : Int32))), .val (.int (p3 &&& (255 : Int32))), .val (.ref x_175), .val (.ref dg), .val (.ref x_182), .val (.ref dg), .val (.int (1 : Int32))] [(.ref dg)])
        refine gaload (v := (.ref dg)) X hx 181 (hb hby at_179) rfl rfl rfl ?_
        refine gacmp X hx true 184 (hb hby at_181) rfl rfl (decide_eq_true rfl) (by decide) (by decide) ?_
        refine giconst X hx (1 : Int32) 185 (hb hby at_184) rfl rfl ?_
        refine ggoto X hx 189 (hb hby at_185) (by decide) (by decide) ?_
        exact gRetL X hx hlk hret rfl (Or.inl ⟨rfl, by simp, _, rfl⟩) (hb hby at_189) eT hS hk (by decide) (by decide) ⟨rfl, N, K0⟩
    · refine gifYes X hx 112 (hb hby at_53) ((if0 _ _).trans (feq hs53).2) (by decide) (by decide) ?_
      refine giload (v := (p1 &&& (3 : Int32))) X hx 114 (hb hby at_112) rfl rfl ?_
      refine giconst X hx (1 : Int32) 115 (hb hby at_114) rfl rfl ?_
      rcases Decidable.em ((p1 &&& (3 : Int32)) = (1 : Int32)) with hs115 | hs115
      · refine gicmpNo X hx 118 (hb hby at_115) rfl (teq hs115).2 ?_
        refine giload (v := (2 : Int32)) X hx 120 (hb hby at_118) rfl rfl ?_
        refine giload (v := (p3 &&& (255 : Int32))) X hx 122 (hb hby at_120) rfl rfl ?_
        refine gstatic (y := (⟨"com/example/fasten/fasten/sql/DialectOfPinLaw", "appended", "(IC)Ljava/lang/String;"⟩ : MethodName)) (argsL := [(.int (2 : Int32)), (.int (p3 &&& (255 : Int32)))]) (st := []) X hx hZ hown (own_w77 hw) (own_w78 hw) (own_w3 hw) (own_w79 hw) (by decide) (payP (W := 0) (rm_app2 l Z a0 hw ((p3 &&& (255 : Int32))) _ h173 n0 (Nat.le_trans Z0 sz_h) P0_Old (O2) (P5) (own_rng p3)) hZ (own_w79 hw) (own_w3 hw) (by decide) (by decide)) eT (by rw [hml]; rfl) (lenOf own_pd10 rfl) rfl (Nat.le_of_eq rfl) 5 70 rfl rfl (by decide) (by decide) 125 (hb hby at_122) rfl ?_
        clear X eT; clear T; intro v T h203 L2 Lc X eT hL hQ204
        obtain ⟨x_205, t_206, rfl, Nq, K207, zz_x_205, zz_t_206, G209⟩ := hQ204
        replace N : Fr n0 L2 := by rw [hL]; exact Fr.app N Nq
        clear Nq hL
        have ne_x_175_x_205 : x_175 ≠ x_205 := Nat.ne_of_lt (Nat.lt_of_lt_of_le G179.lt zz_x_205)
        have ne_x_205_x_175 : x_205 ≠ x_175 := Ne.symm ne_x_175_x_205
        have ne_t_176_x_205 : t_176 ≠ x_205 := Nat.ne_of_lt (Nat.lt_of_lt_of_le G179.lt2 zz_x_205)
        have ne_x_205_t_176 : x_205 ≠ t_176 := Ne.symm ne_t_176_x_205
        have sz_x_205 : h0.size ≤ x_205 := Nat.le_trans sz_h zz_x_205
        have ge_x_205 : n0 ≤ x_205 := Nat.le_trans Z0 sz_x_205
        have ne_x_175_t_206 : x_175 ≠ t_206 := Nat.ne_of_lt (Nat.lt_of_lt_of_le G179.lt zz_t_206)
        have ne_t_206_x_175 : t_206 ≠ x_175 := Ne.symm ne_x_175_t_206
        have ne_t_176_t_206 : t_176 ≠ t_206 := Nat.ne_of_lt (Nat.lt_of_lt_of_le G179.lt2 zz_t_206)
        have ne_t_206_t_176 : t_206 ≠ t_176 := Ne.symm ne_t_176_t_206
        have sz_t_206 : h0.size ≤ t_206 := Nat.le_trans sz_h zz_t_206
        have ge_t_206 : n0 ≤ t_206 := Nat.le_trans Z0 sz_t_206
        replace P0_Old := P0_Old.keep K207 all0
        replace G179 := G179.keep K207 nin0 nin0
        replace K0 := K0.trans K207 all0
        replace C := C.trans (CHr.keep K207 sf0 C.1)
        replace hk := Nat.le_trans hk K207.1
        replace sz_h : h0.size ≤ h203.size := Nat.le_trans sz_h K207.1
        show Go p e below _ T (mkF m 125 #[.val (.int p0), .val (.int p1), .val (.int p2), .val (.int p3), .val (.int (2 : Int32)), .val (.int (p1 &&& (3 : Int32))), .val (.int (p2 &&& (15 : Int32))), .val (.int (p3 &&& (255 : Int32))), .val (.ref x_175), .val (.ref dg), .unset, .unset, .unset] [(.ref x_205)])
        refine gastore X hx #[.val (.int p0), .val (.int p1), .val (.int p2), .val (.int p3), .val (.int (2 : Int32)), .val (.int (p1 &&& (3 : Int32))), .val (.int (p2 &&& (15 : Int32))), .val (.int (p3 &&& (255 : Int32))), .val (.ref x_175), .val (.ref dg), .val (.ref x_205), .unset, .unset] 127 (hb hby at_125) rfl rfl rfl ?_
        refine gaconstNull X hx 128 (hb hby at_127) rfl ?_
        refine gastore X hx #[.val (.int p0), .val (.int p1), .val (.int p2), .val (.int p3), .val (.int (2 : Int32)), .val (.int (p1 &&& (3 : Int32))), .val (.int (p2 &&& (15 : Int32))), .val (.int (p3 &&& (255 : Int32))), .val (.ref x_175), .val (.ref dg), .val (.ref x_205), .val .null, .unset] 130 (hb hby at_128) rfl rfl rfl ?_
        refine ggoto X hx 174 (hb hby at_130) (by decide) (by decide) ?_
        refine gaload (v := (.ref x_205)) X hx 176 (hb hby at_174) rfl rfl rfl ?_
        refine gstaticS (y := (⟨"com/example/fasten/fasten/sql/Dialect", "of", "(Ljava/lang/String;)Lcom/example/fasten/fasten/sql/Dialect;"⟩ : MethodName)) (argsL := [(.ref x_205)]) (st := []) X hx hZ hown (own_w17 hw) (own_w18 hw) (own_w14 hw) (own_w19 hw) (by decide) hS hk (payS (W := 0) (rm2 l Z a0 hw (x_205) (t_206) (([80, 111, 115, 116, 103, 114, 101, 83, 81, 76, (p3 &&& (255 : Int32))] : List Int32)) _ _ _ h203 n0 (Nat.le_trans Z0 sz_h) G209 P0_Old (O2) (P5) (SM) (SG)) hZ (own_w19 hw) (own_w14 hw) (by decide) (by decide) (own_EW hw) C.1 all0) eT (by rw [hml]; rfl) (lenOf own_pd9 rfl) rfl (Nat.le_of_eq rfl) 11 170 rfl rfl (by decide) (by decide) 179 (hb hby at_176) rfl ?_
        clear X eT hS hk hZ hown; clear T k0; intro v T h210 L2 Lc vm k0 X eT hL hS hk hZ hown CR213 hQ211
        obtain ⟨rfl, Nq, K212⟩ := hQ211
        replace N : Fr n0 L2 := by rw [hL]; exact Fr.app N Nq
        clear Nq hL
        replace P0_Old := P0_Old.keep K212 all0
        replace G179 := G179.keep K212 nin0 nin0
        replace G209 := G209.keep K212 nin0 nin0
        replace K0 := K0.trans K212 all0
        replace C := C.trans CR213
        replace sz_h : h0.size ≤ h210.size := Nat.le_trans sz_h K212.1
        show Go p e below _ T (mkF m 179 #[.val (.int p0), .val (.int p1), .val (.int p2), .val (.int p3), .val (.int (2 : Int32)), .val (.int (p1 &&& (3 : Int32))), .val (.int (p2 &&& (15 : Int32))), .val (.int (p3 &&& (255 : Int32))), .val (.ref x_175), .val (.ref dg), .val (.ref x_205), .val .null, .unset] [(own_of ([80, 111, 115, 116, 103, 114, 101, 83, 81, 76, (p3 &&& (255 : Int32))] : List Int32) dm dg)])
        rw [show ((own_of ([80, 111, 115, 116, 103, 114, 101, 83, 81, 76, (p3 &&& (255 : Int32))] : List Int32) dm dg) : Value) = .null from own_len (by simp) (by simp) (by simp)]
        show Go p e below _ T (mkF m 179 #[.val (.int p0), .val (.int p1), .val (.int p2), .val (.int p3), .val (.int (2 : Int32)), .val (.int (p1 &&& (3 : Int32))), .val (.int (p2 &&& (15 : Int32))), .val (.int (p3 &&& (255 : Int32))), .val (.ref x_175), .val (.ref dg), .val (.ref x_205), .val .null, .unset] [.null])
        refine gaload (v := .null) X hx 181 (hb hby at_179) rfl rfl rfl ?_
        refine gacmp X hx true 184 (hb hby at_181) rfl rfl (decide_eq_true rfl) (by decide) (by decide) ?_
        refine giconst X hx (1 : Int32) 185 (hb hby at_184) rfl rfl ?_
        refine ggoto X hx 189 (hb hby at_185) (by decide) (by decide) ?_
        exact gRetL X hx hlk hret rfl (Or.inl ⟨rfl, by simp, _, rfl⟩) (hb hby at_189) eT hS hk (by decide) (by decide) ⟨rfl, N, K0⟩
      · refine gicmpYes X hx 133 (hb hby at_115) (feq hs115).2 (by decide) (by decide) ?_
        refine giload (v := (p1 &&& (3 : Int32))) X hx 135 (hb hby at_133) rfl rfl ?_
        refine giconst X hx (2 : Int32) 136 (hb hby at_135) rfl rfl ?_
        rcases Decidable.em ((p1 &&& (3 : Int32)) = (2 : Int32)) with hs136 | hs136
        · refine gicmpNo X hx 139 (hb hby at_136) rfl (teq hs136).2 ?_
          refine giload (v := (2 : Int32)) X hx 141 (hb hby at_139) rfl rfl ?_
          refine gstaticS (y := (⟨"com/example/fasten/fasten/sql/DialectOfPinLaw", "truncated", "(I)Ljava/lang/String;"⟩ : MethodName)) (argsL := [(.int (2 : Int32))]) (st := []) X hx hZ hown (own_w38 hw) (own_w39 hw) (own_w3 hw) (own_w40 hw) (by decide) hS hk (payS (W := 0) (rm_truncated2 l Z a0 hw h173 n0 (Nat.le_trans Z0 sz_h)) hZ (own_w40 hw) (own_w3 hw) (by decide) (by decide) (own_EW hw) C.1 all0) eT (by rw [hml]; rfl) (lenOf own_pd5 rfl) rfl (Nat.le_of_eq rfl) 4 84 rfl rfl (by decide) (by decide) 144 (hb hby at_141) rfl ?_
          clear X eT hS hk hZ hown; clear T k0; intro v T h214 L2 Lc vm k0 X eT hL hS hk hZ hown CR219 hQ215
          obtain ⟨x_216, t_217, rfl, Nq, K218, G220⟩ := hQ215
          replace N : Fr n0 L2 := by rw [hL]; exact Fr.app N Nq
          clear Nq hL
          replace P0_Old := P0_Old.keep K218 all0
          replace G179 := G179.keep K218 nin0 nin0
          replace K0 := K0.trans K218 all0
          replace C := C.trans CR219
          replace sz_h : h0.size ≤ h214.size := Nat.le_trans sz_h K218.1
          show Go p e below _ T (mkF m 144 #[.val (.int p0), .val (.int p1), .val (.int p2), .val (.int p3), .val (.int (2 : Int32)), .val (.int (p1 &&& (3 : Int32))), .val (.int (p2 &&& (15 : Int32))), .val (.int (p3 &&& (255 : Int32))), .val (.ref x_175), .val (.ref dg), .unset, .unset, .unset] [(.ref x_216)])
          refine gastore X hx #[.val (.int p0), .val (.int p1), .val (.int p2), .val (.int p3), .val (.int (2 : Int32)), .val (.int (p1 &&& (3 : Int32))), .val (.int (p2 &&& (15 : Int32))), .val (.int (p3 &&& (255 : Int32))), .val (.ref x_175), .val (.ref dg), .val (.ref x_216), .unset, .unset] 146 (hb hby at_144) rfl rfl rfl ?_
          refine gaconstNull X hx 147 (hb hby at_146) rfl ?_
          refine gastore X hx #[.val (.int p0), .val (.int p1), .val (.int p2), .val (.int p3), .val (.int (2 : Int32)), .val (.int (p1 &&& (3 : Int32))), .val (.int (p2 &&& (15 : Int32))), .val (.int (p3 &&& (255 : Int32))), .val (.ref x_175), .val (.ref dg), .val (.ref x_216), .val .null, .unset] 149 (hb hby at_147) rfl rfl rfl ?_
          refine ggoto X hx 174 (hb hby at_149) (by decide) (by decide) ?_
          refine gaload (v := (.ref x_216)) X hx 176 (hb hby at_174) rfl rfl rfl ?_
          refine gstaticS (y := (⟨"com/example/fasten/fasten/sql/Dialect", "of", "(Ljava/lang/String;)Lcom/example/fasten/fasten/sql/Dialect;"⟩ : MethodName)) (argsL := [(.ref x_216)]) (st := []) X hx hZ hown (own_w17 hw) (own_w18 hw) (own_w14 hw) (own_w19 hw) (by decide) hS hk (payS (W := 0) (rm2 l Z a0 hw (x_216) (t_217) (([80, 111, 115, 116, 103, 114, 101, 83, 81] : List Int32)) _ _ _ h214 n0 (Nat.le_trans Z0 sz_h) G220 P0_Old (O2) (P5) (SM) (SG)) hZ (own_w19 hw) (own_w14 hw) (by decide) (by decide) (own_EW hw) C.1 all0) eT (by rw [hml]; rfl) (lenOf own_pd9 rfl) rfl (Nat.le_of_eq rfl) 10 184 rfl rfl (by decide) (by decide) 179 (hb hby at_176) rfl ?_
          clear X eT hS hk hZ hown; clear T k0; intro v T h221 L2 Lc vm k0 X eT hL hS hk hZ hown CR224 hQ222
          obtain ⟨rfl, Nq, K223⟩ := hQ222
          replace N : Fr n0 L2 := by rw [hL]; exact Fr.app N Nq
          clear Nq hL
          replace P0_Old := P0_Old.keep K223 all0
          replace G179 := G179.keep K223 nin0 nin0
          replace G220 := G220.keep K223 nin0 nin0
          replace K0 := K0.trans K223 all0
          replace C := C.trans CR224
          replace sz_h : h0.size ≤ h221.size := Nat.le_trans sz_h K223.1
          show Go p e below _ T (mkF m 179 #[.val (.int p0), .val (.int p1), .val (.int p2), .val (.int p3), .val (.int (2 : Int32)), .val (.int (p1 &&& (3 : Int32))), .val (.int (p2 &&& (15 : Int32))), .val (.int (p3 &&& (255 : Int32))), .val (.ref x_175), .val (.ref dg), .val (.ref x_216), .val .null, .unset] [(own_of ([80, 111, 115, 116, 103, 114, 101, 83, 81] : List Int32) dm dg)])
          rw [show ((own_of ([80, 111, 115, 116, 103, 114, 101, 83, 81] : List Int32) dm dg) : Value) = .null from own_len (by simp) (by simp) (by simp)]
          show Go p e below _ T (mkF m 179 #[.val (.int p0), .val (.int p1), .val (.int p2), .val (.int p3), .val (.int (2 : Int32)), .val (.int (p1 &&& (3 : Int32))), .val (.int (p2 &&& (15 : Int32))), .val (.int (p3 &&& (255 : Int32))), .val (.ref x_175), .val (.ref dg), .val (.ref x_216), .val .null, .unset] [.null])
          refine gaload (v := .null) X hx 181 (hb hby at_179) rfl rfl rfl ?_
          refine gacmp X hx true 184 (hb hby at_181) rfl rfl (decide_eq_true rfl) (by decide) (by decide) ?_
          refine giconst X hx (1 : Int32) 185 (hb hby at_184) rfl rfl ?_
          refine ggoto X hx 189 (hb hby at_185) (by decide) (by decide) ?_
          exact gRetL X hx hlk hret rfl (Or.inl ⟨rfl, by simp, _, rfl⟩) (hb hby at_189) eT hS hk (by decide) (by decide) ⟨rfl, N, K0⟩
        · refine gicmpYes X hx 152 (hb hby at_136) (feq hs136).2 (by decide) (by decide) ?_
          refine giload (v := (p2 &&& (15 : Int32))) X hx 154 (hb hby at_152) rfl rfl ?_
          refine giconst X hx (1 : Int32) 155 (hb hby at_154) rfl rfl ?_
          refine giand X hx 156 (hb hby at_155) rfl ?_
          rcases Decidable.em (((p2 &&& (15 : Int32)) &&& (1 : Int32)) = (0 : Int32)) with hs156 | hs156
          · refine gifNo X hx 159 (hb hby at_156) rfl ((if0 _ _).trans (teq hs156).2) ?_
            refine gldcV X hx hZ hown (own_w16 hw) (own_wS hw) eT hS hk (own_EW hw) own_mem16 C.1 [] (0 : Int32) (by decide +kernel) (by decide) rfl 0 (by decide) (by decide) 4 48 rfl rfl (by decide) (by decide) 161 (hb hby at_159) rfl ?_
            clear X eT hS hk hZ hown; clear T k0; intro c226 T h225 vm k0 t234 kb235 X eT E227 hS hk hZ hown CR228 Li229 A230 F231 F232 V233 ns236
            replace P0_Old := P0_Old.ext E227
            replace G179 := G179.ext E227
            replace K0 := K0.ext E227
            replace C := C.trans CR228
            replace sz_h : h0.size ≤ h225.size := Nat.le_trans sz_h E227.1
            show Go p e below _ T (mkF m 161 #[.val (.int p0), .val (.int p1), .val (.int p2), .val (.int p3), .val (.int (2 : Int32)), .val (.int (p1 &&& (3 : Int32))), .val (.int (p2 &&& (15 : Int32))), .val (.int (p3 &&& (255 : Int32))), .val (.ref x_175), .val (.ref dg), .unset, .unset, .unset] [(.ref c226)])
            have Str237 : Str Z h225 c226 t234 ([] : List Int32) := Str.of A230 F231 F232 V233 (by decide +kernel) (by decide +kernel) (by decide +kernel) (by decide)
            refine ggoto X hx 169 (hb hby at_161) (by decide) (by decide) ?_
            refine gastore X hx #[.val (.int p0), .val (.int p1), .val (.int p2), .val (.int p3), .val (.int (2 : Int32)), .val (.int (p1 &&& (3 : Int32))), .val (.int (p2 &&& (15 : Int32))), .val (.int (p3 &&& (255 : Int32))), .val (.ref x_175), .val (.ref dg), .val (.ref c226), .unset, .unset] 171 (hb hby at_169) rfl rfl rfl ?_
            refine gaconstNull X hx 172 (hb hby at_171) rfl ?_
            refine gastore X hx #[.val (.int p0), .val (.int p1), .val (.int p2), .val (.int p3), .val (.int (2 : Int32)), .val (.int (p1 &&& (3 : Int32))), .val (.int (p2 &&& (15 : Int32))), .val (.int (p3 &&& (255 : Int32))), .val (.ref x_175), .val (.ref dg), .val (.ref c226), .val .null, .unset] 174 (hb hby at_172) rfl rfl rfl ?_
            refine gaload (v := (.ref c226)) X hx 176 (hb hby at_174) rfl rfl rfl ?_
            refine gstaticS (y := (⟨"com/example/fasten/fasten/sql/Dialect", "of", "(Ljava/lang/String;)Lcom/example/fasten/fasten/sql/Dialect;"⟩ : MethodName)) (argsL := [(.ref c226)]) (st := []) X hx hZ hown (own_w17 hw) (own_w18 hw) (own_w14 hw) (own_w19 hw) (by decide) hS hk (payS (W := 0) (rm2 l Z a0 hw (c226) (t234) (([] : List Int32)) _ _ _ h225 n0 (Nat.le_trans Z0 sz_h) Str237 P0_Old (O2) (P5) (SM) (SG)) hZ (own_w19 hw) (own_w14 hw) (by decide) (by decide) (own_EW hw) C.1 all0) eT (by rw [hml]; rfl) (lenOf own_pd9 rfl) rfl (Nat.le_of_eq rfl) 10 148 rfl rfl (by decide) (by decide) 179 (hb hby at_176) rfl ?_
            clear X eT hS hk hZ hown; clear T k0; intro v T h238 L2 Lc vm k0 X eT hL hS hk hZ hown CR241 hQ239
            obtain ⟨rfl, Nq, K240⟩ := hQ239
            replace N : Fr n0 L2 := by rw [hL]; exact Fr.app N Nq
            clear Nq hL
            replace P0_Old := P0_Old.keep K240 all0
            replace G179 := G179.keep K240 nin0 nin0
            replace Str237 := Str237.keep K240 nin0 nin0
            replace K0 := K0.trans K240 all0
            replace C := C.trans CR241
            replace sz_h : h0.size ≤ h238.size := Nat.le_trans sz_h K240.1
            show Go p e below _ T (mkF m 179 #[.val (.int p0), .val (.int p1), .val (.int p2), .val (.int p3), .val (.int (2 : Int32)), .val (.int (p1 &&& (3 : Int32))), .val (.int (p2 &&& (15 : Int32))), .val (.int (p3 &&& (255 : Int32))), .val (.ref x_175), .val (.ref dg), .val (.ref c226), .val .null, .unset] [(own_of ([] : List Int32) dm dg)])
            rw [show ((own_of ([] : List Int32) dm dg) : Value) = .null from own_len (by simp) (by simp) (by simp)]
            show Go p e below _ T (mkF m 179 #[.val (.int p0), .val (.int p1), .val (.int p2), .val (.int p3), .val (.int (2 : Int32)), .val (.int (p1 &&& (3 : Int32))), .val (.int (p2 &&& (15 : Int32))), .val (.int (p3 &&& (255 : Int32))), .val (.ref x_175), .val (.ref dg), .val (.ref c226), .val .null, .unset] [.null])
            refine gaload (v := .null) X hx 181 (hb hby at_179) rfl rfl rfl ?_
            refine gacmp X hx true 184 (hb hby at_181) rfl rfl (decide_eq_true rfl) (by decide) (by decide) ?_
            refine giconst X hx (1 : Int32) 185 (hb hby at_184) rfl rfl ?_
            refine ggoto X hx 189 (hb hby at_185) (by decide) (by decide) ?_
            exact gRetL X hx hlk hret rfl (Or.inl ⟨rfl, by simp, _, rfl⟩) (hb hby at_189) eT hS hk (by decide) (by decide) ⟨rfl, N, K0⟩
          · refine gifYes X hx 164 (hb hby at_156) ((if0 _ _).trans (feq hs156).2) (by decide) (by decide) ?_
            refine giload (v := (p3 &&& (255 : Int32))) X hx 166 (hb hby at_164) rfl rfl ?_
            refine gstatic (y := (⟨"java/lang/String", "valueOf", "(C)Ljava/lang/String;"⟩ : MethodName)) (argsL := [(.int (p3 &&& (255 : Int32)))]) (st := []) X hx hZ hown (own_w84 hw) (own_w85 hw) (own_w6 hw) (own_w86 hw) (by decide) (payP (W := 0) (rm16 l Z a0 hw ((p3 &&& (255 : Int32))) _ h173 n0 (Nat.le_trans Z0 sz_h) P0_Old ((own_rng p3).2) (O2) (P5)) hZ (own_w86 hw) (own_w6 hw) (by decide) (by decide)) eT (by rw [hml]; rfl) (lenOf own_pd11 rfl) rfl (Nat.le_of_eq rfl) 4 49 rfl rfl (by decide) (by decide) 169 (hb hby at_166) rfl ?_
            clear X eT; clear T; intro v T h242 L2 Lc X eT hL hQ243
            obtain ⟨x_244, t_245, kb_246, rfl, Nq, K247, zz_x_244, zz_t_245, G249, G250, G251, G252, pp253⟩ := hQ243
            replace N : Fr n0 L2 := by rw [hL]; exact Fr.app N Nq
            clear Nq hL
            have ne_x_175_x_244 : x_175 ≠ x_244 := Nat.ne_of_lt (Nat.lt_of_lt_of_le G179.lt zz_x_244)
            have ne_x_244_x_175 : x_244 ≠ x_175 := Ne.symm ne_x_175_x_244
            have ne_t_176_x_244 : t_176 ≠ x_244 := Nat.ne_of_lt (Nat.lt_of_lt_of_le G179.lt2 zz_x_244)
            have ne_x_244_t_176 : x_244 ≠ t_176 := Ne.symm ne_t_176_x_244
            have sz_x_244 : h0.size ≤ x_244 := Nat.le_trans sz_h zz_x_244
            have ge_x_244 : n0 ≤ x_244 := Nat.le_trans Z0 sz_x_244
            have ne_x_175_t_245 : x_175 ≠ t_245 := Nat.ne_of_lt (Nat.lt_of_lt_of_le G179.lt zz_t_245)
            have ne_t_245_x_175 : t_245 ≠ x_175 := Ne.symm ne_x_175_t_245
            have ne_t_176_t_245 : t_176 ≠ t_245 := Nat.ne_of_lt (Nat.lt_of_lt_of_le G179.lt2 zz_t_245)
            have ne_t_245_t_176 : t_245 ≠ t_176 := Ne.symm ne_t_176_t_245
            have sz_t_245 : h0.size ≤ t_245 := Nat.le_trans sz_h zz_t_245
            have ge_t_245 : n0 ≤ t_245 := Nat.le_trans Z0 sz_t_245
            replace P0_Old := P0_Old.keep K247 all0
            replace G179 := G179.keep K247 nin0 nin0
            replace K0 := K0.trans K247 all0
            replace C := C.trans (CHr.keep K247 sf0 C.1)
            replace hk := Nat.le_trans hk K247.1
            replace sz_h : h0.size ≤ h242.size := Nat.le_trans sz_h K247.1
            show Go p e below _ T (mkF m 169 #[.val (.int p0), .val (.int p1), .val (.int p2), .val (.int p3), .val (.int (2 : Int32)), .val (.int (p1 &&& (3 : Int32))), .val (.int (p2 &&& (15 : Int32))), .val (.int (p3 &&& (255 : Int32))), .val (.ref x_175), .val (.ref dg), .unset, .unset, .unset] [(.ref x_244)])
            have Str254 : Str Z h242 x_244 t_245 ([(p3 &&& (255 : Int32))] : List Int32) := Str.of G249 G250 G251 G252 rfl rfl (own_cS (own_rng p3) own_c0) (Nat.le_of_ble_eq_true rfl)
            refine gastore X hx #[.val (.int p0), .val (.int p1), .val (.int p2), .val (.int p3), .val (.int (2 : Int32)), .val (.int (p1 &&& (3 : Int32))), .val (.int (p2 &&& (15 : Int32))), .val (.int (p3 &&& (255 : Int32))), .val (.ref x_175), .val (.ref dg), .val (.ref x_244), .unset, .unset] 171 (hb hby at_169) rfl rfl rfl ?_
            refine gaconstNull X hx 172 (hb hby at_171) rfl ?_
            refine gastore X hx #[.val (.int p0), .val (.int p1), .val (.int p2), .val (.int p3), .val (.int (2 : Int32)), .val (.int (p1 &&& (3 : Int32))), .val (.int (p2 &&& (15 : Int32))), .val (.int (p3 &&& (255 : Int32))), .val (.ref x_175), .val (.ref dg), .val (.ref x_244), .val .null, .unset] 174 (hb hby at_172) rfl rfl rfl ?_
            refine gaload (v := (.ref x_244)) X hx 176 (hb hby at_174) rfl rfl rfl ?_
            refine gstaticS (y := (⟨"com/example/fasten/fasten/sql/Dialect", "of", "(Ljava/lang/String;)Lcom/example/fasten/fasten/sql/Dialect;"⟩ : MethodName)) (argsL := [(.ref x_244)]) (st := []) X hx hZ hown (own_w17 hw) (own_w18 hw) (own_w14 hw) (own_w19 hw) (by decide) hS hk (payS (W := 0) (rm2 l Z a0 hw (x_244) (t_245) (([(p3 &&& (255 : Int32))] : List Int32)) _ _ _ h242 n0 (Nat.le_trans Z0 sz_h) Str254 P0_Old (O2) (P5) (SM) (SG)) hZ (own_w19 hw) (own_w14 hw) (by decide) (by decide) (own_EW hw) C.1 all0) eT (by rw [hml]; rfl) (lenOf own_pd9 rfl) rfl (Nat.le_of_eq rfl) 10 149 rfl rfl (by decide) (by decide) 179 (hb hby at_176) rfl ?_
            clear X eT hS hk hZ hown; clear T k0; intro v T h255 L2 Lc vm k0 X eT hL hS hk hZ hown CR258 hQ256
            obtain ⟨rfl, Nq, K257⟩ := hQ256
            replace N : Fr n0 L2 := by rw [hL]; exact Fr.app N Nq
            clear Nq hL
            replace P0_Old := P0_Old.keep K257 all0
            replace G179 := G179.keep K257 nin0 nin0
            replace Str254 := Str254.keep K257 nin0 nin0
            replace K0 := K0.trans K257 all0
            replace C := C.trans CR258
            replace sz_h : h0.size ≤ h255.size := Nat.le_trans sz_h K257.1
            show Go p e below _ T (mkF m 179 #[.val (.int p0), .val (.int p1), .val (.int p2), .val (.int p3), .val (.int (2 : Int32)), .val (.int (p1 &&& (3 : Int32))), .val (.int (p2 &&& (15 : Int32))), .val (.int (p3 &&& (255 : Int32))), .val (.ref x_175), .val (.ref dg), .val (.ref x_244), .val .null, .unset] [(own_of ([(p3 &&& (255 : Int32))] : List Int32) dm dg)])
            rw [show ((own_of ([(p3 &&& (255 : Int32))] : List Int32) dm dg) : Value) = .null from own_len (by simp) (by simp) (by simp)]
            show Go p e below _ T (mkF m 179 #[.val (.int p0), .val (.int p1), .val (.int p2), .val (.int p3), .val (.int (2 : Int32)), .val (.int (p1 &&& (3 : Int32))), .val (.int (p2 &&& (15 : Int32))), .val (.int (p3 &&& (255 : Int32))), .val (.ref x_175), .val (.ref dg), .val (.ref x_244), .val .null, .unset] [.null])
            refine gaload (v := .null) X hx 181 (hb hby at_179) rfl rfl rfl ?_
            refine gacmp X hx true 184 (hb hby at_181) rfl rfl (decide_eq_true rfl) (by decide) (by decide) ?_
            refine giconst X hx (1 : Int32) 185 (hb hby at_184) rfl rfl ?_
            refine ggoto X hx 189 (hb hby at_185) (by decide) (by decide) ?_
            exact gRetL X hx hlk hret rfl (Or.inl ⟨rfl, by simp, _, rfl⟩) (hb hby at_189) eT hS hk (by decide) (by decide) ⟨rfl, N, K0⟩
set_option maxRecDepth 65536 in
set_option maxHeartbeats 40000000 in
theorem comes_1 {Post : Tables → Env → Array Value → State → Outcome → State → Prop} (hpost : ∀ tb e args s v u, (limb_1_1.after args s (.returned v) u = true ∧ limb_1_2.after args s (.returned v) u = true ∧ True) → FramedW s (.returned v) u (Jvm.fieldLocs frame_1_writes args s ++ Jvm.arrayLocs frame_1_arrays args s ++ Jvm.staticLocs frame_1_statics s) 40 10432 → Post tb e args s (.returned v) u) :
    ArmFor flags0 classFile x code maxLocals ret World_1 tables_1 room_1 Calls_1 rest_1 Pre_1 Post := by
  intro l hfl _ _ p e ha hc hk s m args below hf hA hF happ hP
  obtain ⟨hcalls, hrest, hpre⟩ := hP
  obtain ⟨-, -, -, hnamed, -, -, -, hat⟩ := (Spec.applies_iff hf).mp happ
  obtain ⟨hg, hn⟩ := and_e (Cond.before_iff.mp (show (Jvm.Cond.and given_1 narrow_1).before args s = true from hpre))
  obtain ⟨h1, g0⟩ := and_e hg
  obtain ⟨k0, g1⟩ := and_e g0
  obtain ⟨k1, g2⟩ := and_e g1
  obtain ⟨k2, g3⟩ := and_e g2
  obtain ⟨w0, w1, w2, w3, rfl⟩ : ∃ w0 w1 w2 w3 : Value, args = #[w0, w1, w2, w3] := by
    have hs : args.size = 4 := by simpa [Cond.value, given_1] using h1
    obtain ⟨L⟩ := args
    match L, hs with
    | [w0, w1, w2, w3], _ => exact ⟨w0, w1, w2, w3, rfl⟩
  have hw := fun d (hd : d ∈ tables_1) => atoms_spec (ws := Jvm.Cond.code x code maxLocals ret :: tables_1) hat d (List.mem_cons_of_mem _ hd)
  obtain ⟨hsets, hown0⟩ := atoms_of _ (rest_1_c_eq ▸ (show rest_1_c.before _ s = true from hrest))
  obtain ⟨i0, e0⟩ := is_v k0
  obtain rfl : w0 = (.int i0) := Option.some.inj e0
  obtain ⟨i1, e1⟩ := is_v k1
  obtain rfl : w1 = (.int i1) := Option.some.inj e1
  obtain ⟨i2, e2⟩ := is_v k2
  obtain rfl : w2 = (.int i2) := Option.some.inj e2
  obtain ⟨i3, e3⟩ := is_v g3
  obtain rfl : w3 = (.int i3) := Option.some.inj e3
  have n3 := not_v (Cond.before_iff.mp (hsets _ (List.mem_of_getElem? (i := 2) rfl)))
  obtain ⟨j7, f6⟩ := is_v (Cond.before_iff.mp (hsets _ (List.mem_of_getElem? (i := 1) rfl)))
  have S8 : Sta s s.heap "java/lang/String" "COMPACT_STRINGS" "Z" (.int j7) := Sta.start f6 (Or.inl (hsets _ (List.mem_of_getElem? (i := 0) rfl)))
  have c13 : ¬ (j7 = (0 : Int32)) := gotF (Cond.eq_ints f6 (Term.int_eval (0))) n3
  obtain ⟨v9, e10, r11⟩ := isR_v (Cond.before_iff.mp (hsets _ (List.mem_of_getElem? (i := 8) rfl)))
  have S12 : Sta s s.heap "jdk/internal/util/Preconditions" "SIOOBE_FORMATTER" "Ljava/util/function/BiFunction;" v9 := Sta.start e10 (Or.inl (hsets _ (List.mem_of_getElem? (i := 7) rfl)))
  obtain ⟨n1, n2⟩ := and_e (show (Jvm.Cond.and _ _).value _ s none s [] = some true from hn)
  obtain ⟨dm, em⟩ := exa_v n1
  obtain ⟨dg, eg⟩ := exa_v n2
  have SM : Sta s s.heap "com/example/fasten/fasten/sql/Dialect" "MARIADB" "Lcom/example/fasten/fasten/sql/Dialect;" (.ref dm) := Sta.start em (Or.inr ⟨(own_w14 hw), (own_w15 hw)⟩)
  have SG : Sta s s.heap "com/example/fasten/fasten/sql/Dialect" "POSTGRESQL" "Lcom/example/fasten/fasten/sql/Dialect;" (.ref dg) := Sta.start eg (Or.inr ⟨(own_w14 hw), (own_w82 hw)⟩)
  obtain ⟨n, o, h1, h2, h3, _, L, rfl, ⟨rfl, N, -⟩, hq⟩ := rm0 l s _ hw i0 i1 i2 i3 j7 v9 dm dg s.heap s.heap.size (Nat.le_refl _) (Old.start s) S8 c13 S12 r11 SM SG p e ha hc hk s m _ below hf ((Spec.applies_iff_loose hf).mp happ).1 ⟨rfl, State.Warmed39.refl s, rfl, CHv.start (own_EW hw) (fun p hp => hcalls.1 p hp) (hsets _ (List.mem_of_getElem? (i := 2) rfl)) (own_w8 hw) (own_w7 hw)⟩ trivial
  refine ⟨n, _, h1, h2, h3, hpost _ _ _ _ _ _ ⟨Cond.after_iff.mpr rfl, Cond.after_iff.mpr (eq_i res_at (Term.int_eval (1)) rfl), trivial⟩ ⟨hq.1, hq.2.1, hq.2.2.1, (hq.2.2.2.sift fun y hy => Or.inr (N y hy)).mono (by decide) (by decide)⟩⟩
theorem main_1_1 : Claimed_1_1 := comes_1 fun _ _ _ _ _ _ h hF => ⟨h.1, hF⟩
theorem main_1_2 : Claimed_1_2 := comes_1 fun _ _ _ _ _ _ h hF => ⟨h.2.1, hF⟩
end Jvm.Pilot.@@N@@
namespace Jvm.Pilot.@@N@@
open Jvm Jvm.ClassFile Sem Op Lib Jvm.Free Jvm.Stand Jvm.Pilot.@@N@@.Jvm.D
/-! MADE BY PROGRAM (witnessworld.py) out of the Statement's table words and the real class files: 23 classes; the members and pool entries that the words name. The judged class is class 1, her method 1. -/
namespace start1
open Jvm.ClassFile
def u (s : String) : CpInfo := .utf8 (stringToUtf16 s)
/-- a pool by its gaps: so many unusable entries, then the entry; so many at the end -/
def gap : Nat → List CpInfo → List CpInfo
  | 0, r => r
  | n + 1, r => .unusable :: gap n r
def poolList (es : List (Nat × CpInfo)) (last : Nat) : List CpInfo := es.foldr (fun e r => gap e.1 (e.2 :: r)) (gap last [])
def pool (es : List (Nat × CpInfo)) (last : Nat) : Array CpInfo := ⟨poolList es last⟩
def fileOf (pool : Array CpInfo) (this : Nat) (attrs : Array Attribute := #[]) (ms : Array MethodInfo := #[]) (fl : Nat := 33) (sup : Nat := 0) (ifs : Array Nat := #[]) (fds : Array FieldInfo := #[]) : ClassFile where
  minorVersion := 0
  majorVersion := 65
  constantPool := pool
  accessFlags := fl
  thisClass := this
  superClass := sup
  interfaces := ifs
  fields := fds
  methods := ms
  attributes := attrs
def plain (name : String) (sup : Option ClassId) : Class where
  name := name
  kind := .ordinary
  loader := none
  accessFlags := 33
  super := sup
  interfaces := #[]
  cf := none
  fields := #[]
  methods := #[]
  instanceTypes := #[]
  staticTypes := #[]
  resolved := #[]
  callSites := []
  init := .initialized
  statics := none
  mirror := none

def pool0 : Array CpInfo := pool [(5, u "<init>"), (0, u "()V"), (1, .class_ 10), (1, u "java/lang/Object")] 113

def k0c0 : Code := { maxStack := 0, maxLocals := 1, code := object_method_1_code, exceptionTable := #[], attributes := #[] }
def k0m0 : Method := { name := "<init>", desc := "()V", sig := { parameters := [], returnType := none }, accessFlags := 1, code := some k0c0 }
/-- java/lang/Object -/
def k0 : Class := { plain "java/lang/Object" none with
  accessFlags := 33
  interfaces := #[]
  cf := some (fileOf pool0 8 #[] #[{ accessFlags := 1, nameIndex := 5, descriptorIndex := 6, attributes := #[] }] 33 0 #[] #[])
  fields := #[]
  methods := #[k0m0]
  instanceTypes := #[]
  staticTypes := #[]
  resolved := Array.replicate 124 none
  statics := none }

def pool1 : Array CpInfo := pool [(2, .class_ 4), (1, u "java/lang/Object"), (0, u "<init>"), (0, u "()V"), (0, .integer 2147483647), (0, .methodref 9 10), (0, .class_ 11), (0, .nameAndType 12 13), (0, u "com/example/fasten/fasten/sql/DialectOfPinLaw"), (0, u "nameOf"), (0, u "(I)Ljava/lang/String;"), (0, .fieldref 15 16), (0, .class_ 17), (0, .nameAndType 18 19), (0, u "com/example/fasten/fasten/sql/Dialect"), (0, u "POSTGRESQL"), (0, u "Lcom/example/fasten/fasten/sql/Dialect;"), (0, .fieldref 15 21), (0, .nameAndType 22 19), (0, u "MARIADB"), (0, .methodref 9 24), (0, .nameAndType 25 26), (0, u "substituted"), (0, u "(IIC)Ljava/lang/String;"), (0, .methodref 28 29), (0, .class_ 30), (0, .nameAndType 31 32), (0, u "java/lang/String"), (0, u "length"), (0, u "()I"), (0, .methodref 28 34), (0, .nameAndType 35 36), (0, u "charAt"), (0, u "(I)C"), (0, .methodref 9 38), (0, .nameAndType 39 40), (0, u "appended"), (0, u "(IC)Ljava/lang/String;"), (0, .methodref 9 42), (0, .nameAndType 43 13), (0, u "truncated"), (0, .string 45), (0, u ""), (0, .methodref 28 47), (0, .nameAndType 48 49), (0, u "valueOf"), (0, u "(C)Ljava/lang/String;"), (0, .methodref 15 51), (0, .nameAndType 52 53), (0, u "of"), (0, u "(Ljava/lang/String;)Lcom/example/fasten/fasten/sql/Dialect;"), (0, .string 55), (0, u "MariaDB"), (0, .string 57), (0, u "MySQL"), (0, .string 59), (0, u "PostgreSQL"), (0, .methodref 28 61), (0, .nameAndType 5 62), (0, u "([C)V"), (0, .string 64), (0, u "MariaD"), (0, .string 66), (0, u "MySQ"), (0, .string 68), (0, u "PostgreSQ"), (2, u "law"), (0, u "(IIII)Z")] 5

def k1m0 : Method := { name := "<init>", desc := "()V", sig := { parameters := [], returnType := none }, accessFlags := 1, code := none }
def k1c1 : Code := { maxStack := 3, maxLocals := 13, code := code, exceptionTable := #[], attributes := #[] }
def k1m1 : Method := { name := "law", desc := "(IIII)Z", sig := { parameters := [.int, .int, .int, .int], returnType := some .boolean }, accessFlags := 9, code := some k1c1 }
def k1c2 : Code := { maxStack := 2, maxLocals := 1, code := method_3_code, exceptionTable := #[], attributes := #[] }
def k1m2 : Method := { name := "nameOf", desc := "(I)Ljava/lang/String;", sig := { parameters := [.int], returnType := some (.object "java/lang/String") }, accessFlags := 10, code := some k1c2 }
def k1c3 : Code := { maxStack := 4, maxLocals := 4, code := method_4_code, exceptionTable := #[], attributes := #[] }
def k1m3 : Method := { name := "substituted", desc := "(IIC)Ljava/lang/String;", sig := { parameters := [.int, .int, .char], returnType := some (.object "java/lang/String") }, accessFlags := 10, code := some k1c3 }
def k1c4 : Code := { maxStack := 4, maxLocals := 3, code := method_5_code, exceptionTable := #[], attributes := #[] }
def k1m4 : Method := { name := "appended", desc := "(IC)Ljava/lang/String;", sig := { parameters := [.int, .char], returnType := some (.object "java/lang/String") }, accessFlags := 10, code := some k1c4 }
def k1c5 : Code := { maxStack := 2, maxLocals := 1, code := method_6_code, exceptionTable := #[], attributes := #[] }
def k1m5 : Method := { name := "truncated", desc := "(I)Ljava/lang/String;", sig := { parameters := [.int], returnType := some (.object "java/lang/String") }, accessFlags := 10, code := some k1c5 }
/-- com/example/fasten/fasten/sql/DialectOfPinLaw -/
def k1 : Class := { plain "com/example/fasten/fasten/sql/DialectOfPinLaw" (some 0) with
  accessFlags := 49
  interfaces := #[]
  cf := some (fileOf pool1 9 #[] #[{ accessFlags := 1, nameIndex := 5, descriptorIndex := 6, attributes := #[] }, { accessFlags := 9, nameIndex := 71, descriptorIndex := 72, attributes := #[] }, { accessFlags := 10, nameIndex := 12, descriptorIndex := 13, attributes := #[] }, { accessFlags := 10, nameIndex := 25, descriptorIndex := 26, attributes := #[] }, { accessFlags := 10, nameIndex := 39, descriptorIndex := 40, attributes := #[] }, { accessFlags := 10, nameIndex := 43, descriptorIndex := 13, attributes := #[] }] 49 2 #[] #[])
  fields := #[]
  methods := #[k1m0, k1m1, k1m2, k1m3, k1m4, k1m5]
  instanceTypes := #[]
  staticTypes := #[]
  resolved := Array.replicate 78 none
  statics := none }

def pool2 : Array CpInfo := pool [(1, .class_ 2), (0, u "java/io/Serializable"), (0, .class_ 4), (0, u "java/lang/Object")] 2

/-- java/io/Serializable -/
def k2 : Class := { plain "java/io/Serializable" (some 0) with
  accessFlags := 1537
  interfaces := #[]
  cf := some (fileOf pool2 1 #[] #[] 1537 3 #[] #[])
  fields := #[]
  methods := #[]
  instanceTypes := #[]
  staticTypes := #[]
  resolved := Array.replicate 7 none
  statics := none }

def pool3 : Array CpInfo := pool [(1, .class_ 2), (0, u "java/lang/Comparable"), (0, .class_ 4), (0, u "java/lang/Object")] 7

/-- java/lang/Comparable -/
def k3 : Class := { plain "java/lang/Comparable" (some 0) with
  accessFlags := 1537
  interfaces := #[]
  cf := some (fileOf pool3 1 #[] #[] 1537 3 #[] #[])
  fields := #[]
  methods := #[]
  instanceTypes := #[]
  staticTypes := #[]
  resolved := Array.replicate 12 none
  statics := none }

def pool4 : Array CpInfo := pool [(2, .class_ 4), (1, u "java/lang/CharSequence"), (42, .class_ 48), (0, u "java/lang/CharSequence$1CodePointIterator"), (10, .class_ 60), (0, u "java/lang/CharSequence$1CharIterator"), (5, .class_ 67), (0, u "java/lang/Object")] 63

/-- java/lang/CharSequence -/
def k4 : Class := { plain "java/lang/CharSequence" (some 0) with
  accessFlags := 1537
  interfaces := #[]
  cf := some (fileOf pool4 2 #[.nestMembers #[47, 59]] #[] 1537 66 #[] #[])
  fields := #[]
  methods := #[]
  instanceTypes := #[]
  staticTypes := #[]
  resolved := Array.replicate 131 none
  statics := none }

def pool5 : Array CpInfo := pool [(1, .class_ 2), (0, u "java/lang/constant/Constable"), (0, .class_ 4), (0, u "java/lang/Object")] 6

/-- java/lang/constant/Constable -/
def k5 : Class := { plain "java/lang/constant/Constable" (some 0) with
  accessFlags := 1537
  interfaces := #[]
  cf := some (fileOf pool5 1 #[] #[] 1537 3 #[] #[])
  fields := #[]
  methods := #[]
  instanceTypes := #[]
  staticTypes := #[]
  resolved := Array.replicate 11 none
  statics := none }

def pool6 : Array CpInfo := pool [(1, .class_ 2), (0, u "java/lang/constant/ConstantDesc"), (0, .class_ 4), (0, u "java/lang/Object")] 32

/-- java/lang/constant/ConstantDesc -/
def k6 : Class := { plain "java/lang/constant/ConstantDesc" (some 0) with
  accessFlags := 1537
  interfaces := #[]
  cf := some (fileOf pool6 1 #[] #[] 1537 3 #[] #[])
  fields := #[]
  methods := #[]
  instanceTypes := #[]
  staticTypes := #[]
  resolved := Array.replicate 37 none
  statics := none }

def pool7 : Array CpInfo := pool [(1, .methodref 2 3), (0, .class_ 4), (0, .nameAndType 5 6), (0, u "java/lang/Object"), (0, u "<init>"), (0, u "()V"), (2, .fieldref 10 11), (0, .class_ 12), (0, .nameAndType 13 14), (0, u "java/lang/String"), (0, u "value"), (0, u "[B"), (0, .fieldref 10 16), (0, .nameAndType 17 18), (0, u "coder"), (0, u "B"), (2, u "hash"), (0, u "I"), (2, u "hashIsZero"), (0, u "Z"), (0, .methodref 10 28), (0, .nameAndType 5 29), (0, u "([CIILjava/lang/Void;)V"), (8, .fieldref 10 39), (0, .nameAndType 40 26), (0, u "COMPACT_STRINGS"), (1, .class_ 44), (1, u "java/lang/StringUTF16"), (0, u "compress"), (1, .methodref 42 48), (0, .nameAndType 49 50), (0, u "coderFromArrayLen"), (0, u "([BI)B"), (2, u "toBytes"), (53, .class_ 109), (1, u "java/lang/StringLatin1"), (32, u "()Z"), (34, .methodref 42 178), (0, .nameAndType 45 179), (0, u "([CII)[B"), (29, .methodref 10 210), (0, .nameAndType 5 211), (0, u "([BB)V"), (122, u "()I"), (0, .methodref 10 336), (0, .nameAndType 17 337), (0, u "()B"), (25, u "([BI)C"), (5, u "(C)Z"), (21, u "(II)V"), (35, u "(I)C"), (64, .methodref 10 493), (0, .nameAndType 494 142), (0, u "isLatin1"), (0, .methodref 107 496), (0, .nameAndType 497 363), (0, u "charAt"), (3, u "checkIndex"), (5, u "length"), (33, .methodref 107 542), (0, .nameAndType 543 544), (0, u "equals"), (0, u "([B[B)Z"), (28, u "(Ljava/lang/Object;)Z"), (1, .class_ 576), (0, u "java/lang/CharSequence"), (22, u "CASE_INSENSITIVE_ORDER"), (0, u "Ljava/util/Comparator;"), (181, u "valueOf"), (0, u "(C)Ljava/lang/String;"), (226, u "([C)V"), (4, .methodref 107 1016), (0, .nameAndType 1017 369), (0, u "canEncode"), (0, .methodref 107 1019), (0, .nameAndType 53 1020), (0, u "(C)[B"), (32, .fieldref 1054 1055), (0, .class_ 1056), (0, .nameAndType 1057 1058), (0, u "jdk/internal/util/Preconditions"), (0, u "SIOOBE_FORMATTER"), (0, u "Ljava/util/function/BiFunction;"), (0, .methodref 1054 1060), (0, .nameAndType 501 1061), (0, u "(IILjava/util/function/BiFunction;)I"), (39, u "serialPersistentFields"), (0, u "[Ljava/io/ObjectStreamField;"), (0, .class_ 1104), (0, u "java/lang/String$CaseInsensitiveComparator"), (1, .class_ 1107), (0, u "java/io/Serializable"), (0, .class_ 1109), (0, u "java/lang/Comparable"), (0, .class_ 1111), (0, u "java/lang/constant/Constable"), (0, .class_ 1113), (0, u "java/lang/constant/ConstantDesc"), (2, u "serialVersionUID"), (0, u "J"), (3, u "REPL"), (0, u "C"), (2, u "LATIN1"), (1, u "UTF16")] 323

def k7m0 : Method := { name := "<init>", desc := "()V", sig := { parameters := [], returnType := none }, accessFlags := 1, code := none }
def k7c1 : Code := { maxStack := 5, maxLocals := 2, code := jdk_42_method_3_code, exceptionTable := #[], attributes := #[] }
def k7m1 : Method := { name := "<init>", desc := "([C)V", sig := { parameters := [(.array .char)], returnType := none }, accessFlags := 1, code := some k7c1 }
def k7c2 : Code := { maxStack := 2, maxLocals := 1, code := jdk_42_method_54_code, exceptionTable := #[], attributes := #[] }
def k7m2 : Method := { name := "length", desc := "()I", sig := { parameters := [], returnType := some .int }, accessFlags := 1, code := some k7c2 }
def k7c3 : Code := { maxStack := 2, maxLocals := 2, code := jdk_42_method_56_code, exceptionTable := #[], attributes := #[] }
def k7m3 : Method := { name := "charAt", desc := "(I)C", sig := { parameters := [.int], returnType := some .char }, accessFlags := 1, code := some k7c3 }
def k7c4 : Code := { maxStack := 2, maxLocals := 3, code := jdk_42_method_66_code, exceptionTable := #[], attributes := #[] }
def k7m4 : Method := { name := "equals", desc := "(Ljava/lang/Object;)Z", sig := { parameters := [(.object "java/lang/Object")], returnType := some .boolean }, accessFlags := 1, code := some k7c4 }
def k7c5 : Code := { maxStack := 4, maxLocals := 1, code := jdk_42_method_139_code, exceptionTable := #[], attributes := #[] }
def k7m5 : Method := { name := "valueOf", desc := "(C)Ljava/lang/String;", sig := { parameters := [.char], returnType := some (.object "java/lang/String") }, accessFlags := 9, code := some k7c5 }
def k7c6 : Code := { maxStack := 4, maxLocals := 6, code := jdk_42_method_149_code, exceptionTable := #[], attributes := #[] }
def k7m6 : Method := { name := "<init>", desc := "([CIILjava/lang/Void;)V", sig := { parameters := [(.array .char), .int, .int, (.object "java/lang/Void")], returnType := none }, accessFlags := 2, code := some k7c6 }
def k7c7 : Code := { maxStack := 2, maxLocals := 3, code := jdk_42_method_151_code, exceptionTable := #[], attributes := #[] }
def k7m7 : Method := { name := "<init>", desc := "([BB)V", sig := { parameters := [(.array .byte), .byte], returnType := none }, accessFlags := 0, code := some k7c7 }
def k7c8 : Code := { maxStack := 1, maxLocals := 1, code := jdk_42_method_152_code, exceptionTable := #[], attributes := #[] }
def k7m8 : Method := { name := "coder", desc := "()B", sig := { parameters := [], returnType := some .byte }, accessFlags := 0, code := some k7c8 }
def k7c9 : Code := { maxStack := 1, maxLocals := 1, code := jdk_42_method_154_code, exceptionTable := #[], attributes := #[] }
def k7m9 : Method := { name := "isLatin1", desc := "()Z", sig := { parameters := [], returnType := some .boolean }, accessFlags := 0, code := some k7c9 }
def k7c10 : Code := { maxStack := 3, maxLocals := 2, code := jdk_42_method_155_code, exceptionTable := #[], attributes := #[] }
def k7m10 : Method := { name := "checkIndex", desc := "(II)V", sig := { parameters := [.int, .int], returnType := none }, accessFlags := 8, code := some k7c10 }
/-- java/lang/String -/
def k7 : Class := { plain "java/lang/String" (some 0) with
  accessFlags := 49
  interfaces := #[2, 3, 4, 5, 6]
  cf := some (fileOf pool7 10 #[.nestMembers #[1103]] #[{ accessFlags := 1, nameIndex := 5, descriptorIndex := 6, attributes := #[] }, { accessFlags := 1, nameIndex := 5, descriptorIndex := 1010, attributes := #[] }, { accessFlags := 1, nameIndex := 507, descriptorIndex := 334, attributes := #[] }, { accessFlags := 1, nameIndex := 497, descriptorIndex := 427, attributes := #[] }, { accessFlags := 1, nameIndex := 543, descriptorIndex := 573, attributes := #[] }, { accessFlags := 9, nameIndex := 782, descriptorIndex := 783, attributes := #[] }, { accessFlags := 2, nameIndex := 5, descriptorIndex := 29, attributes := #[] }, { accessFlags := 0, nameIndex := 5, descriptorIndex := 211, attributes := #[] }, { accessFlags := 0, nameIndex := 17, descriptorIndex := 337, attributes := #[] }, { accessFlags := 0, nameIndex := 494, descriptorIndex := 142, attributes := #[] }, { accessFlags := 8, nameIndex := 501, descriptorIndex := 391, attributes := #[] }] 49 2 #[1106, 1108, 575, 1110, 1112] #[{ accessFlags := 18, nameIndex := 13, descriptorIndex := 14, attributes := #[] }, { accessFlags := 18, nameIndex := 17, descriptorIndex := 18, attributes := #[] }, { accessFlags := 2, nameIndex := 21, descriptorIndex := 22, attributes := #[] }, { accessFlags := 2, nameIndex := 25, descriptorIndex := 26, attributes := #[] }, { accessFlags := 26, nameIndex := 1116, descriptorIndex := 1117, attributes := #[] }, { accessFlags := 24, nameIndex := 40, descriptorIndex := 26, attributes := #[] }, { accessFlags := 26, nameIndex := 1101, descriptorIndex := 1102, attributes := #[] }, { accessFlags := 26, nameIndex := 1121, descriptorIndex := 1122, attributes := #[] }, { accessFlags := 25, nameIndex := 599, descriptorIndex := 600, attributes := #[] }, { accessFlags := 24, nameIndex := 1125, descriptorIndex := 18, attributes := #[] }, { accessFlags := 24, nameIndex := 1127, descriptorIndex := 18, attributes := #[] }])
  fields := #[{ name := "value", type := (.array .byte), accessFlags := 18, slot := 0, constantValue := 0 }, { name := "coder", type := .byte, accessFlags := 18, slot := 1, constantValue := 0 }, { name := "hash", type := .int, accessFlags := 2, slot := 2, constantValue := 0 }, { name := "hashIsZero", type := .boolean, accessFlags := 2, slot := 3, constantValue := 0 }, { name := "serialVersionUID", type := .long, accessFlags := 26, slot := 0, constantValue := 0 }, { name := "COMPACT_STRINGS", type := .boolean, accessFlags := 24, slot := 1, constantValue := 0 }, { name := "serialPersistentFields", type := (.array (.object "java/io/ObjectStreamField")), accessFlags := 26, slot := 2, constantValue := 0 }, { name := "REPL", type := .char, accessFlags := 26, slot := 3, constantValue := 0 }, { name := "CASE_INSENSITIVE_ORDER", type := (.object "java/util/Comparator"), accessFlags := 25, slot := 4, constantValue := 0 }, { name := "LATIN1", type := .byte, accessFlags := 24, slot := 5, constantValue := 0 }, { name := "UTF16", type := .byte, accessFlags := 24, slot := 6, constantValue := 0 }]
  methods := #[k7m0, k7m1, k7m2, k7m3, k7m4, k7m5, k7m6, k7m7, k7m8, k7m9, k7m10]
  instanceTypes := #[(.array .byte), .byte, .int, .boolean]
  staticTypes := #[.long, .boolean, (.array (.object "java/io/ObjectStreamField")), .char, (.object "java/util/Comparator"), .byte, .byte]
  resolved := Array.replicate 1451 none
  statics := some 0 }

def pool8 : Array CpInfo := pool [(2, .class_ 4), (1, u "java/lang/Enum"), (0, u "name"), (0, u "Ljava/lang/String;"), (2, u "ordinal"), (0, u "I"), (1, .class_ 14), (1, u "java/lang/Object"), (4, u "hash"), (86, .class_ 108), (1, u "java/lang/Enum$EnumDesc"), (2, .class_ 112), (0, u "java/lang/constant/Constable"), (0, .class_ 114), (0, u "java/lang/Comparable"), (0, .class_ 116), (0, u "java/io/Serializable")] 87

/-- java/lang/Enum -/
def k8 : Class := { plain "java/lang/Enum" (some 0) with
  accessFlags := 1057
  interfaces := #[5, 3, 2]
  cf := some (fileOf pool8 2 #[.nestMembers #[106]] #[] 1057 12 #[111, 113, 115] #[{ accessFlags := 18, nameIndex := 5, descriptorIndex := 6, attributes := #[] }, { accessFlags := 18, nameIndex := 9, descriptorIndex := 10, attributes := #[] }, { accessFlags := 2, nameIndex := 19, descriptorIndex := 10, attributes := #[] }])
  fields := #[{ name := "name", type := (.object "java/lang/String"), accessFlags := 18, slot := 0, constantValue := 0 }, { name := "ordinal", type := .int, accessFlags := 18, slot := 1, constantValue := 0 }, { name := "hash", type := .int, accessFlags := 2, slot := 2, constantValue := 0 }]
  methods := #[]
  instanceTypes := #[(.object "java/lang/String"), .int, .int]
  staticTypes := #[]
  resolved := Array.replicate 204 none
  statics := none }

def pool9 : Array CpInfo := pool [(1, .class_ 2), (0, u "com/example/fasten/fasten/sql/Dialect"), (0, .fieldref 1 4), (0, .nameAndType 5 6), (0, u "MARIADB"), (0, u "Lcom/example/fasten/fasten/sql/Dialect;"), (0, .fieldref 1 8), (0, .nameAndType 9 6), (0, u "POSTGRESQL"), (2, u "$VALUES"), (0, u "[Lcom/example/fasten/fasten/sql/Dialect;"), (6, .class_ 22), (1, u "java/lang/Enum"), (8, u "now"), (0, u "Ljava/lang/String;"), (0, .string 34), (0, u "MariaDB"), (0, .methodref 36 37), (0, .class_ 38), (0, .nameAndType 39 40), (0, u "java/lang/String"), (0, u "equals"), (0, u "(Ljava/lang/Object;)Z"), (0, .string 42), (0, u "MySQL"), (0, .string 44), (0, u "PostgreSQL"), (0, .class_ 46), (0, u "com/example/fasten/fasten/sql/Dialect$1"), (6, .class_ 54), (0, u "com/example/fasten/fasten/sql/Dialect$2"), (11, u "(Ljava/lang/String;)Lcom/example/fasten/fasten/sql/Dialect;"), (7, u "of")] 9

def k9c0 : Code := { maxStack := 2, maxLocals := 2, code := prog_22_method_6_code, exceptionTable := #[], attributes := #[] }
def k9m0 : Method := { name := "of", desc := "(Ljava/lang/String;)Lcom/example/fasten/fasten/sql/Dialect;", sig := { parameters := [(.object "java/lang/String")], returnType := some (.object "com/example/fasten/fasten/sql/Dialect") }, accessFlags := 8, code := some k9c0 }
/-- com/example/fasten/fasten/sql/Dialect -/
def k9 : Class := { plain "com/example/fasten/fasten/sql/Dialect" (some 8) with
  accessFlags := 17440
  interfaces := #[]
  cf := some (fileOf pool9 1 #[.nestMembers #[53, 45]] #[{ accessFlags := 8, nameIndex := 74, descriptorIndex := 66, attributes := #[] }] 17440 20 #[] #[{ accessFlags := 16409, nameIndex := 5, descriptorIndex := 6, attributes := #[] }, { accessFlags := 16409, nameIndex := 9, descriptorIndex := 6, attributes := #[] }, { accessFlags := 16, nameIndex := 31, descriptorIndex := 32, attributes := #[] }, { accessFlags := 4122, nameIndex := 12, descriptorIndex := 13, attributes := #[] }])
  fields := #[{ name := "MARIADB", type := (.object "com/example/fasten/fasten/sql/Dialect"), accessFlags := 16409, slot := 0, constantValue := 0 }, { name := "POSTGRESQL", type := (.object "com/example/fasten/fasten/sql/Dialect"), accessFlags := 16409, slot := 1, constantValue := 0 }, { name := "now", type := (.object "java/lang/String"), accessFlags := 16, slot := 3, constantValue := 0 }, { name := "$VALUES", type := (.array (.object "com/example/fasten/fasten/sql/Dialect")), accessFlags := 4122, slot := 2, constantValue := 0 }]
  methods := #[k9m0]
  instanceTypes := #[(.object "java/lang/String"), .int, .int, (.object "java/lang/String")]
  staticTypes := #[(.object "com/example/fasten/fasten/sql/Dialect"), (.object "com/example/fasten/fasten/sql/Dialect"), (.array (.object "com/example/fasten/fasten/sql/Dialect"))]
  resolved := Array.replicate 84 none
  statics := some 1 }

def pool10 : Array CpInfo := pool [(1, .class_ 2), (0, u "java/lang/String"), (1, .class_ 6), (1, u "java/lang/Object"), (0, u "<init>"), (0, u "()V"), (0, .methodref 1 10), (0, .nameAndType 11 12), (0, u "checkIndex"), (0, u "(II)V"), (1, .class_ 16), (1, u "java/lang/StringLatin1"), (36, u "([BI)C"), (36, u "canEncode"), (14, u "(C)Z"), (15, u "$assertionsDisabled"), (0, u "Z"), (98, .class_ 223), (1, u "java/lang/StringLatin1$LinesSpliterator"), (28, u "charAt"), (28, u "equals"), (0, u "([B[B)Z"), (97, u "toBytes"), (1, u "(C)[B"), (7, .class_ 391), (0, u "java/lang/StringLatin1$CharsSpliterator")] 3

def k10m0 : Method := { name := "<init>", desc := "()V", sig := { parameters := [], returnType := none }, accessFlags := 0, code := none }
def k10c1 : Code := { maxStack := 2, maxLocals := 2, code := jdk_43_method_2_code, exceptionTable := #[], attributes := #[] }
def k10m1 : Method := { name := "charAt", desc := "([BI)C", sig := { parameters := [(.array .byte), .int], returnType := some .char }, accessFlags := 9, code := some k10c1 }
def k10c2 : Code := { maxStack := 2, maxLocals := 1, code := jdk_43_method_3_code, exceptionTable := #[], attributes := #[] }
def k10m2 : Method := { name := "canEncode", desc := "(C)Z", sig := { parameters := [.char], returnType := some .boolean }, accessFlags := 9, code := some k10c2 }
def k10c3 : Code := { maxStack := 3, maxLocals := 3, code := jdk_43_method_13_code, exceptionTable := #[], attributes := #[] }
def k10m3 : Method := { name := "equals", desc := "([B[B)Z", sig := { parameters := [(.array .byte), (.array .byte)], returnType := some .boolean }, accessFlags := 9, code := some k10c3 }
def k10c4 : Code := { maxStack := 4, maxLocals := 1, code := jdk_43_method_46_code, exceptionTable := #[], attributes := #[] }
def k10m4 : Method := { name := "toBytes", desc := "(C)[B", sig := { parameters := [.char], returnType := some (.array .byte) }, accessFlags := 9, code := some k10c4 }
/-- java/lang/StringLatin1 -/
def k10 : Class := { plain "java/lang/StringLatin1" (some 0) with
  accessFlags := 48
  interfaces := #[]
  cf := some (fileOf pool10 14 #[.nestMembers #[390, 221]] #[{ accessFlags := 0, nameIndex := 7, descriptorIndex := 8, attributes := #[] }, { accessFlags := 9, nameIndex := 252, descriptorIndex := 53, attributes := #[] }, { accessFlags := 9, nameIndex := 90, descriptorIndex := 105, attributes := #[] }, { accessFlags := 9, nameIndex := 281, descriptorIndex := 282, attributes := #[] }, { accessFlags := 9, nameIndex := 380, descriptorIndex := 382, attributes := #[] }] 48 4 #[] #[{ accessFlags := 4120, nameIndex := 121, descriptorIndex := 122, attributes := #[] }])
  fields := #[{ name := "$assertionsDisabled", type := .boolean, accessFlags := 4120, slot := 0, constantValue := 0 }]
  methods := #[k10m0, k10m1, k10m2, k10m3, k10m4]
  instanceTypes := #[]
  staticTypes := #[.boolean]
  resolved := Array.replicate 395 none
  statics := none }

def pool11 : Array CpInfo := pool [(6, .class_ 8), (1, u "java/lang/Object"), (0, u "<init>"), (0, u "()V"), (1, .class_ 14), (1, u "java/lang/StringUTF16"), (31, u "$assertionsDisabled"), (0, u "Z"), (13, u "HI_BYTE_SHIFT"), (0, u "I"), (2, u "LO_BYTE_SHIFT"), (49, .methodref 12 116), (0, .nameAndType 117 118), (0, u "compress"), (0, u "([CI[BII)I"), (3, u "([CII)[B"), (138, u "coderFromArrayLen"), (0, u "([BI)B"), (106, .class_ 371), (1, u "java/lang/StringUTF16$LinesSpliterator"), (58, u "MAX_LENGTH"), (196, .class_ 628), (0, u "java/lang/StringUTF16$CodePointsSpliterator"), (0, .class_ 630), (0, u "java/lang/StringUTF16$CharsSpliterator")] 4

def k11m0 : Method := { name := "<init>", desc := "()V", sig := { parameters := [], returnType := none }, accessFlags := 0, code := none }
def k11c1 : Code := { maxStack := 2, maxLocals := 2, code := jdk_52_method_15_code, exceptionTable := #[], attributes := #[] }
def k11m1 : Method := { name := "coderFromArrayLen", desc := "([BI)B", sig := { parameters := [(.array .byte), .int], returnType := some .byte }, accessFlags := 8, code := some k11c1 }
def k11c2 : Code := { maxStack := 5, maxLocals := 6, code := jdk_52_method_16_code, exceptionTable := #[], attributes := #[] }
def k11m2 : Method := { name := "compress", desc := "([CII)[B", sig := { parameters := [(.array .char), .int, .int], returnType := some (.array .byte) }, accessFlags := 9, code := some k11c2 }
def k11c3 : Code := { maxStack := 3, maxLocals := 7, code := jdk_52_method_21_code, exceptionTable := #[], attributes := #[] }
def k11m3 : Method := { name := "compress", desc := "([CI[BII)I", sig := { parameters := [(.array .char), .int, (.array .byte), .int, .int], returnType := some .int }, accessFlags := 9, code := some k11c3 }
/-- java/lang/StringUTF16 -/
def k11 : Class := { plain "java/lang/StringUTF16" (some 0) with
  accessFlags := 48
  interfaces := #[]
  cf := some (fileOf pool11 12 #[.nestMembers #[627, 629, 369]] #[{ accessFlags := 0, nameIndex := 9, descriptorIndex := 10, attributes := #[] }, { accessFlags := 8, nameIndex := 261, descriptorIndex := 262, attributes := #[] }, { accessFlags := 9, nameIndex := 117, descriptorIndex := 122, attributes := #[] }, { accessFlags := 9, nameIndex := 117, descriptorIndex := 118, attributes := #[] }] 48 6 #[] #[{ accessFlags := 26, nameIndex := 61, descriptorIndex := 62, attributes := #[] }, { accessFlags := 26, nameIndex := 65, descriptorIndex := 62, attributes := #[] }, { accessFlags := 24, nameIndex := 430, descriptorIndex := 62, attributes := #[] }, { accessFlags := 4120, nameIndex := 46, descriptorIndex := 47, attributes := #[] }])
  fields := #[{ name := "HI_BYTE_SHIFT", type := .int, accessFlags := 26, slot := 0, constantValue := 0 }, { name := "LO_BYTE_SHIFT", type := .int, accessFlags := 26, slot := 1, constantValue := 0 }, { name := "MAX_LENGTH", type := .int, accessFlags := 24, slot := 2, constantValue := 0 }, { name := "$assertionsDisabled", type := .boolean, accessFlags := 4120, slot := 3, constantValue := 0 }]
  methods := #[k11m0, k11m1, k11m2, k11m3]
  instanceTypes := #[]
  staticTypes := #[.int, .int, .int, .boolean]
  resolved := Array.replicate 635 none
  statics := none }

def pool12 : Array CpInfo := pool [(2, .class_ 4), (1, u "java/lang/Object"), (0, u "<init>"), (0, u "()V"), (17, .class_ 26), (1, u "jdk/internal/util/Preconditions"), (6, u "checkIndex"), (21, .class_ 56), (0, u "jdk/internal/util/Preconditions$4"), (57, .class_ 115), (0, u "jdk/internal/util/Preconditions$1"), (7, u "SIOOBE_FORMATTER"), (0, u "Ljava/util/function/BiFunction;"), (0, .class_ 126), (0, u "jdk/internal/util/Preconditions$2"), (3, u "AIOOBE_FORMATTER"), (0, .class_ 132), (0, u "jdk/internal/util/Preconditions$3"), (3, u "IOOBE_FORMATTER"), (41, u "(IILjava/util/function/BiFunction;)I")] 15

def k12m0 : Method := { name := "<init>", desc := "()V", sig := { parameters := [], returnType := none }, accessFlags := 1, code := none }
def k12c1 : Code := { maxStack := 3, maxLocals := 3, code := jdk_41_method_11_code, exceptionTable := #[], attributes := #[] }
def k12m1 : Method := { name := "checkIndex", desc := "(IILjava/util/function/BiFunction;)I", sig := { parameters := [.int, .int, (.object "java/util/function/BiFunction")], returnType := some .int }, accessFlags := 9, code := some k12c1 }
/-- jdk/internal/util/Preconditions -/
def k12 : Class := { plain "jdk/internal/util/Preconditions" (some 0) with
  accessFlags := 33
  interfaces := #[]
  cf := some (fileOf pool12 24 #[.nestMembers #[55, 131, 125, 114]] #[{ accessFlags := 1, nameIndex := 5, descriptorIndex := 6, attributes := #[] }, { accessFlags := 9, nameIndex := 33, descriptorIndex := 178, attributes := #[] }] 33 2 #[] #[{ accessFlags := 25, nameIndex := 123, descriptorIndex := 124, attributes := #[] }, { accessFlags := 25, nameIndex := 130, descriptorIndex := 124, attributes := #[] }, { accessFlags := 25, nameIndex := 136, descriptorIndex := 124, attributes := #[] }])
  fields := #[{ name := "SIOOBE_FORMATTER", type := (.object "java/util/function/BiFunction"), accessFlags := 25, slot := 0, constantValue := 0 }, { name := "AIOOBE_FORMATTER", type := (.object "java/util/function/BiFunction"), accessFlags := 25, slot := 1, constantValue := 0 }, { name := "IOOBE_FORMATTER", type := (.object "java/util/function/BiFunction"), accessFlags := 25, slot := 2, constantValue := 0 }]
  methods := #[k12m0, k12m1]
  instanceTypes := #[]
  staticTypes := #[(.object "java/util/function/BiFunction"), (.object "java/util/function/BiFunction"), (.object "java/util/function/BiFunction")]
  resolved := Array.replicate 194 none
  statics := some 2 }

def pool13 : Array CpInfo := pool [(9, u "<init>"), (6, .class_ 18), (1, u "java/lang/Object"), (0, u "()V"), (1, .class_ 23), (1, u "jdk/internal/util/ArraysSupport"), (0, u "LOG2_ARRAY_LONG_INDEX_SCALE"), (0, u "I"), (2, u "U"), (0, u "Ljdk/internal/misc/Unsafe;"), (8, u "BIG_ENDIAN"), (0, u "Z"), (8, u "LOG2_BYTE_BIT_SIZE"), (4, u "LOG2_ARRAY_INT_INDEX_SCALE"), (54, u "JLA"), (0, u "Ljdk/internal/access/JavaLangAccess;"), (11, u "LOG2_ARRAY_BOOLEAN_INDEX_SCALE"), (9, u "LOG2_ARRAY_BYTE_INDEX_SCALE"), (5, u "LOG2_ARRAY_CHAR_INDEX_SCALE"), (5, u "LOG2_ARRAY_SHORT_INDEX_SCALE"), (18, u "LOG2_ARRAY_FLOAT_INDEX_SCALE"), (24, u "LOG2_ARRAY_DOUBLE_INDEX_SCALE"), (89, u "T_BOOLEAN"), (2, u "T_CHAR"), (1, u "T_FLOAT"), (1, u "T_DOUBLE"), (1, u "T_BYTE"), (1, u "T_SHORT"), (1, u "T_INT"), (1, u "T_LONG"), (1, u "SOFT_MAX_ARRAY_LENGTH")] 83

def k13m0 : Method := { name := "<init>", desc := "()V", sig := { parameters := [], returnType := none }, accessFlags := 2, code := none }
/-- jdk/internal/util/ArraysSupport -/
def k13 : Class := { plain "jdk/internal/util/ArraysSupport" (some 0) with
  accessFlags := 33
  interfaces := #[]
  cf := some (fileOf pool13 21 #[] #[{ accessFlags := 2, nameIndex := 9, descriptorIndex := 19, attributes := #[] }] 33 16 #[] #[{ accessFlags := 24, nameIndex := 28, descriptorIndex := 29, attributes := #[] }, { accessFlags := 26, nameIndex := 38, descriptorIndex := 39, attributes := #[] }, { accessFlags := 25, nameIndex := 121, descriptorIndex := 25, attributes := #[] }, { accessFlags := 25, nameIndex := 131, descriptorIndex := 25, attributes := #[] }, { accessFlags := 25, nameIndex := 137, descriptorIndex := 25, attributes := #[] }, { accessFlags := 25, nameIndex := 143, descriptorIndex := 25, attributes := #[] }, { accessFlags := 25, nameIndex := 53, descriptorIndex := 25, attributes := #[] }, { accessFlags := 25, nameIndex := 24, descriptorIndex := 25, attributes := #[] }, { accessFlags := 25, nameIndex := 162, descriptorIndex := 25, attributes := #[] }, { accessFlags := 25, nameIndex := 187, descriptorIndex := 25, attributes := #[] }, { accessFlags := 26, nameIndex := 48, descriptorIndex := 25, attributes := #[] }, { accessFlags := 25, nameIndex := 277, descriptorIndex := 25, attributes := #[] }, { accessFlags := 25, nameIndex := 280, descriptorIndex := 25, attributes := #[] }, { accessFlags := 25, nameIndex := 282, descriptorIndex := 25, attributes := #[] }, { accessFlags := 25, nameIndex := 284, descriptorIndex := 25, attributes := #[] }, { accessFlags := 25, nameIndex := 286, descriptorIndex := 25, attributes := #[] }, { accessFlags := 25, nameIndex := 288, descriptorIndex := 25, attributes := #[] }, { accessFlags := 25, nameIndex := 290, descriptorIndex := 25, attributes := #[] }, { accessFlags := 25, nameIndex := 292, descriptorIndex := 25, attributes := #[] }, { accessFlags := 26, nameIndex := 108, descriptorIndex := 109, attributes := #[] }, { accessFlags := 25, nameIndex := 294, descriptorIndex := 25, attributes := #[] }])
  fields := #[{ name := "U", type := (.object "jdk/internal/misc/Unsafe"), accessFlags := 24, slot := 0, constantValue := 0 }, { name := "BIG_ENDIAN", type := .boolean, accessFlags := 26, slot := 1, constantValue := 0 }, { name := "LOG2_ARRAY_BOOLEAN_INDEX_SCALE", type := .int, accessFlags := 25, slot := 2, constantValue := 0 }, { name := "LOG2_ARRAY_BYTE_INDEX_SCALE", type := .int, accessFlags := 25, slot := 3, constantValue := 0 }, { name := "LOG2_ARRAY_CHAR_INDEX_SCALE", type := .int, accessFlags := 25, slot := 4, constantValue := 0 }, { name := "LOG2_ARRAY_SHORT_INDEX_SCALE", type := .int, accessFlags := 25, slot := 5, constantValue := 0 }, { name := "LOG2_ARRAY_INT_INDEX_SCALE", type := .int, accessFlags := 25, slot := 6, constantValue := 0 }, { name := "LOG2_ARRAY_LONG_INDEX_SCALE", type := .int, accessFlags := 25, slot := 7, constantValue := 0 }, { name := "LOG2_ARRAY_FLOAT_INDEX_SCALE", type := .int, accessFlags := 25, slot := 8, constantValue := 0 }, { name := "LOG2_ARRAY_DOUBLE_INDEX_SCALE", type := .int, accessFlags := 25, slot := 9, constantValue := 0 }, { name := "LOG2_BYTE_BIT_SIZE", type := .int, accessFlags := 26, slot := 10, constantValue := 0 }, { name := "T_BOOLEAN", type := .int, accessFlags := 25, slot := 11, constantValue := 0 }, { name := "T_CHAR", type := .int, accessFlags := 25, slot := 12, constantValue := 0 }, { name := "T_FLOAT", type := .int, accessFlags := 25, slot := 13, constantValue := 0 }, { name := "T_DOUBLE", type := .int, accessFlags := 25, slot := 14, constantValue := 0 }, { name := "T_BYTE", type := .int, accessFlags := 25, slot := 15, constantValue := 0 }, { name := "T_SHORT", type := .int, accessFlags := 25, slot := 16, constantValue := 0 }, { name := "T_INT", type := .int, accessFlags := 25, slot := 17, constantValue := 0 }, { name := "T_LONG", type := .int, accessFlags := 25, slot := 18, constantValue := 0 }, { name := "JLA", type := (.object "jdk/internal/access/JavaLangAccess"), accessFlags := 26, slot := 19, constantValue := 0 }, { name := "SOFT_MAX_ARRAY_LENGTH", type := .int, accessFlags := 25, slot := 20, constantValue := 0 }]
  methods := #[k13m0]
  instanceTypes := #[]
  staticTypes := #[(.object "jdk/internal/misc/Unsafe"), .boolean, .int, .int, .int, .int, .int, .int, .int, .int, .int, .int, .int, .int, .int, .int, .int, .int, .int, (.object "jdk/internal/access/JavaLangAccess"), .int]
  resolved := Array.replicate 378 none
  statics := none }

def pool14 : Array CpInfo := pool [(2, .class_ 4), (1, u "com/example/fasten/fasten/sql/Dialect"), (3, .class_ 10), (1, u "com/example/fasten/fasten/sql/Dialect$1")] 37

/-- com/example/fasten/fasten/sql/Dialect$1 -/
def k14 : Class := { plain "com/example/fasten/fasten/sql/Dialect$1" (some 9) with
  accessFlags := 16432
  interfaces := #[]
  cf := some (fileOf pool14 8 #[.nestHost 2] #[] 16432 2 #[] #[])
  fields := #[]
  methods := #[]
  instanceTypes := #[(.object "java/lang/String"), .int, .int, (.object "java/lang/String")]
  staticTypes := #[]
  resolved := Array.replicate 48 none
  statics := none }

def pool15 : Array CpInfo := pool [(2, .class_ 4), (1, u "com/example/fasten/fasten/sql/Dialect"), (3, .class_ 10), (1, u "com/example/fasten/fasten/sql/Dialect$2")] 37

/-- com/example/fasten/fasten/sql/Dialect$2 -/
def k15 : Class := { plain "com/example/fasten/fasten/sql/Dialect$2" (some 9) with
  accessFlags := 16432
  interfaces := #[]
  cf := some (fileOf pool15 8 #[.nestHost 2] #[] 16432 2 #[] #[])
  fields := #[]
  methods := #[]
  instanceTypes := #[(.object "java/lang/String"), .int, .int, (.object "java/lang/String")]
  staticTypes := #[]
  resolved := Array.replicate 48 none
  statics := none }

def pool16 : Array CpInfo := pool [(1, u "java/lang/Cloneable"), (0, .class_ 1), (0, u "java/lang/Object"), (0, .class_ 3)] 3

/-- java/lang/Cloneable -/
def k16 : Class := { plain "java/lang/Cloneable" (some 0) with
  accessFlags := 1537
  interfaces := #[]
  cf := some (fileOf pool16 2 #[] #[] 1537 4 #[] #[])
  fields := #[]
  methods := #[]
  instanceTypes := #[]
  staticTypes := #[]
  resolved := Array.replicate 8 none
  statics := none }

/-- the primitive byte -/
def k17 : Class := { plain "byte" none with kind := .primitive 'B', accessFlags := 0x411 }
/-- [B -/
def k18 : Class := { plain "[B" (some 0) with kind := .array 17 .byte, interfaces := #[16, 2], accessFlags := 1041 }

/-- the primitive char -/
def k19 : Class := { plain "char" none with kind := .primitive 'C', accessFlags := 0x411 }
/-- [C -/
def k20 : Class := { plain "[C" (some 0) with kind := .array 19 .char, interfaces := #[16, 2], accessFlags := 1041 }

/-- the primitive int -/
def k21 : Class := { plain "int" none with kind := .primitive 'I', accessFlags := 0x411 }
/-- [I -/
def k22 : Class := { plain "[I" (some 0) with kind := .array 21 .int, interfaces := #[16, 2], accessFlags := 1041 }

def heap : Heap := #[{ cls := 7, slots := #[.long 0, .int 1, .null, .int 0, .null, .int 0, .int 0], vm := .statics 7 },
  { cls := 9, slots := #[.ref 3, .ref 4, .null], vm := .statics 9 },
  { cls := 12, slots := #[.null, .null, .null], vm := .statics 12 },
  { cls := 14, slots := #[.null, .int 0, .int 0, .null], vm := .none },
  { cls := 15, slots := #[.null, .int 1, .int 0, .null], vm := .none }]
def classes : Array Class := #[k0, k1, k2, k3, k4, k5, k6, k7, k8, k9, k10, k11, k12, k13, k14, k15, k16, k17, k18, k19, k20, k21, k22]
def interned : List (Array UInt16 × Addr) := []
def slotsUsed : Nat := 21
def theMethod : MethodId := ⟨1, 1⟩
def args0 : Array Value := #[.int 5, .int 7, .int 3, .int 4]
def aboutOver (below : List Frame) : State where
  vm := { classes := classes, interned := interned.toArray }
  heap := heap
  slotsUsed := slotsUsed
  threads := #[{ frames := .invoking theMethod args0 :: below }]
def below0 : List Frame := [.native { method := ⟨0, 0⟩, args := #[] }]
def about1 : State := aboutOver below0
def p0 : Program := .bare "" "" ""
def e0 : Env := launch0.env 0 0 0
theorem w_frames : about1.frames = Frame.invoking theMethod args0 :: below0 := rfl
set_option maxRecDepth 65536 in
theorem w_args : argsFit about1.vm theMethod args0 = true := by decide +kernel
set_option maxRecDepth 65536 in
theorem w_heap : heapFits about1 = true := by decide +kernel
set_option maxRecDepth 65536 in
theorem w_runnable : about1.curStatus? = some .runnable := by decide +kernel
set_option maxRecDepth 65536 in
theorem w_alone : about1.alone = true := by decide +kernel
set_option maxRecDepth 65536 in
theorem w_named : about1.methodNamed? x = some theMethod := by decide +kernel
set_option maxRecDepth 65536 in
theorem w_hears : about1.hears theMethod below0 = true := by decide +kernel
set_option maxRecDepth 65536 in
theorem w_ripe : about1.ripe theMethod args0 below0 = true := by decide +kernel
theorem w_running : about1.status = .running := rfl
set_option maxRecDepth 65536 in
theorem w_room : about1.hasRoom e0.platform room_1 = true :=
  launch0.hasRoom_least _ room_1 (by decide +kernel) (by decide +kernel) (by decide +kernel) (by decide +kernel) (by decide +kernel) (by decide +kernel)
theorem allAtoms_all (ts : List Jvm.Cond) (a : Array Jvm.Value) (st : Jvm.State) : (allAtoms ts).before a st = ts.all (fun c => c.before a st) := by
  induction ts with
  | nil => rfl
  | cons c t ih =>
    show (Jvm.Cond.and c (allAtoms t)).before a st = _
    rw [Jvm.Cond.before_and, ih, List.all_cons]
def words1 : List Jvm.Cond := Jvm.Cond.code x code maxLocals ret :: tables_1
/-- a 'code' word, met by the world's own term for the bytes: nothing is compared byte by byte -/
theorem code_word {y : MethodName} {bytes : ByteArray} {mx : Nat} {rt : Option FieldType} {a : Array Value} {s : State} {m : MethodId} {meth : Method} {c : Code} (h1 : s.methodNamed? y = some m) (h2 : s.vm.method? m = some meth) (h3 : meth.code = some c) (h4 : c.code = bytes)
    (h5 : (c.maxLocals == mx && c.exceptionTable.isEmpty && decide (c.maxStack ≤ mostOperands) && decide (meth.sig.returnType = rt) && !meth.locks && decide (parseMethodDescriptor y.desc = some meth.sig)) = true) : (Jvm.Cond.code y bytes mx rt).before a s = true := by
  simp only [Bool.and_eq_true, beq_iff_eq, Bool.not_eq_true', decide_eq_true_eq] at h5
  obtain ⟨⟨⟨⟨⟨g1, g2⟩, g3⟩, g4⟩, g5⟩, g6⟩ := h5
  simp [Cond.before, Cond.holds, Cond.value, h1, h2, h3, h4, g1, g2, g3, g4, g5, g6]
def isCode : Jvm.Cond → Bool
  | .code _ _ _ _ => true
  | _ => false
theorem all_split {L : List Jvm.Cond} {P : Jvm.Cond → Bool} (h1 : L.all (fun c => isCode c || P c) = true) (h2 : ∀ c ∈ L.filter isCode, P c = true) : L.all P = true := by
  refine List.all_eq_true.mpr fun c hc => ?_
  have h := List.all_eq_true.mp h1 c hc
  rcases Bool.eq_false_or_eq_true (isCode c) with hi | hi
  · exact h2 c (List.mem_filter.mpr ⟨hc, hi⟩)
  · simpa [hi] using h
set_option maxRecDepth 65536 in
theorem w_c0 : (Jvm.Cond.code x code maxLocals ret).before args0 about1 = true := code_word (m := ⟨1, 1⟩) (meth := k1m1) (c := k1c1) (by decide +kernel) rfl rfl rfl (by decide +kernel)
set_option maxRecDepth 65536 in
theorem w_c1 : (Jvm.Cond.code ({ cls := "com/example/fasten/fasten/sql/DialectOfPinLaw", name := "nameOf", desc := "(I)Ljava/lang/String;" } : Jvm.MethodName) method_3_code (1 : Nat) (Option.some (Jvm.ClassFile.FieldType.object "java/lang/String"))).before args0 about1 = true := code_word (m := ⟨1, 2⟩) (meth := k1m2) (c := k1c2) (by decide +kernel) rfl rfl rfl (by decide +kernel)
set_option maxRecDepth 65536 in
theorem w_c2 : (Jvm.Cond.code ({ cls := "com/example/fasten/fasten/sql/Dialect", name := "of", desc := "(Ljava/lang/String;)Lcom/example/fasten/fasten/sql/Dialect;" } : Jvm.MethodName) prog_22_method_6_code (2 : Nat) (Option.some (Jvm.ClassFile.FieldType.object "com/example/fasten/fasten/sql/Dialect"))).before args0 about1 = true := code_word (m := ⟨9, 0⟩) (meth := k9m0) (c := k9c0) (by decide +kernel) rfl rfl rfl (by decide +kernel)
set_option maxRecDepth 65536 in
theorem w_c3 : (Jvm.Cond.code ({ cls := "java/lang/String", name := "equals", desc := "(Ljava/lang/Object;)Z" } : Jvm.MethodName) jdk_42_method_66_code (3 : Nat) (Option.some Jvm.ClassFile.FieldType.boolean)).before args0 about1 = true := code_word (m := ⟨7, 4⟩) (meth := k7m4) (c := k7c4) (by decide +kernel) rfl rfl rfl (by decide +kernel)
set_option maxRecDepth 65536 in
theorem w_c4 : (Jvm.Cond.code ({ cls := "java/lang/StringLatin1", name := "equals", desc := "([B[B)Z" } : Jvm.MethodName) jdk_43_method_13_code (3 : Nat) (Option.some Jvm.ClassFile.FieldType.boolean)).before args0 about1 = true := code_word (m := ⟨10, 3⟩) (meth := k10m3) (c := k10c3) (by decide +kernel) rfl rfl rfl (by decide +kernel)
set_option maxRecDepth 65536 in
theorem w_c5 : (Jvm.Cond.code ({ cls := "com/example/fasten/fasten/sql/DialectOfPinLaw", name := "truncated", desc := "(I)Ljava/lang/String;" } : Jvm.MethodName) method_6_code (1 : Nat) (Option.some (Jvm.ClassFile.FieldType.object "java/lang/String"))).before args0 about1 = true := code_word (m := ⟨1, 5⟩) (meth := k1m5) (c := k1c5) (by decide +kernel) rfl rfl rfl (by decide +kernel)
set_option maxRecDepth 65536 in
theorem w_c6 : (Jvm.Cond.code ({ cls := "com/example/fasten/fasten/sql/DialectOfPinLaw", name := "substituted", desc := "(IIC)Ljava/lang/String;" } : Jvm.MethodName) method_4_code (4 : Nat) (Option.some (Jvm.ClassFile.FieldType.object "java/lang/String"))).before args0 about1 = true := code_word (m := ⟨1, 3⟩) (meth := k1m3) (c := k1c3) (by decide +kernel) rfl rfl rfl (by decide +kernel)
set_option maxRecDepth 65536 in
theorem w_c7 : (Jvm.Cond.code ({ cls := "java/lang/String", name := "<init>", desc := "([C)V" } : Jvm.MethodName) jdk_42_method_3_code (2 : Nat) (Option.none : Option Jvm.ClassFile.FieldType)).before args0 about1 = true := code_word (m := ⟨7, 1⟩) (meth := k7m1) (c := k7c1) (by decide +kernel) rfl rfl rfl (by decide +kernel)
set_option maxRecDepth 65536 in
theorem w_c8 : (Jvm.Cond.code ({ cls := "java/lang/String", name := "<init>", desc := "([CIILjava/lang/Void;)V" } : Jvm.MethodName) jdk_42_method_149_code (6 : Nat) (Option.none : Option Jvm.ClassFile.FieldType)).before args0 about1 = true := code_word (m := ⟨7, 6⟩) (meth := k7m6) (c := k7c6) (by decide +kernel) rfl rfl rfl (by decide +kernel)
set_option maxRecDepth 65536 in
theorem w_c9 : (Jvm.Cond.code ({ cls := "java/lang/Object", name := "<init>", desc := "()V" } : Jvm.MethodName) object_method_1_code (1 : Nat) (Option.none : Option Jvm.ClassFile.FieldType)).before args0 about1 = true := code_word (m := ⟨0, 0⟩) (meth := k0m0) (c := k0c0) (by decide +kernel) rfl rfl rfl (by decide +kernel)
set_option maxRecDepth 65536 in
theorem w_c10 : (Jvm.Cond.code ({ cls := "java/lang/StringUTF16", name := "compress", desc := "([CII)[B" } : Jvm.MethodName) jdk_52_method_16_code (6 : Nat) (Option.some (Jvm.ClassFile.FieldType.array Jvm.ClassFile.FieldType.byte))).before args0 about1 = true := code_word (m := ⟨11, 2⟩) (meth := k11m2) (c := k11c2) (by decide +kernel) rfl rfl rfl (by decide +kernel)
set_option maxRecDepth 65536 in
theorem w_c11 : (Jvm.Cond.code ({ cls := "java/lang/StringUTF16", name := "compress", desc := "([CI[BII)I" } : Jvm.MethodName) jdk_52_method_21_code (7 : Nat) (Option.some Jvm.ClassFile.FieldType.int)).before args0 about1 = true := code_word (m := ⟨11, 3⟩) (meth := k11m3) (c := k11c3) (by decide +kernel) rfl rfl rfl (by decide +kernel)
set_option maxRecDepth 65536 in
theorem w_c12 : (Jvm.Cond.code ({ cls := "java/lang/StringUTF16", name := "coderFromArrayLen", desc := "([BI)B" } : Jvm.MethodName) jdk_52_method_15_code (2 : Nat) (Option.some Jvm.ClassFile.FieldType.byte)).before args0 about1 = true := code_word (m := ⟨11, 1⟩) (meth := k11m1) (c := k11c1) (by decide +kernel) rfl rfl rfl (by decide +kernel)
set_option maxRecDepth 65536 in
theorem w_c13 : (Jvm.Cond.code ({ cls := "java/lang/String", name := "length", desc := "()I" } : Jvm.MethodName) jdk_42_method_54_code (1 : Nat) (Option.some Jvm.ClassFile.FieldType.int)).before args0 about1 = true := code_word (m := ⟨7, 2⟩) (meth := k7m2) (c := k7c2) (by decide +kernel) rfl rfl rfl (by decide +kernel)
set_option maxRecDepth 65536 in
theorem w_c14 : (Jvm.Cond.code ({ cls := "java/lang/String", name := "coder", desc := "()B" } : Jvm.MethodName) jdk_42_method_152_code (1 : Nat) (Option.some Jvm.ClassFile.FieldType.byte)).before args0 about1 = true := code_word (m := ⟨7, 8⟩) (meth := k7m8) (c := k7c8) (by decide +kernel) rfl rfl rfl (by decide +kernel)
set_option maxRecDepth 65536 in
theorem w_c15 : (Jvm.Cond.code ({ cls := "com/example/fasten/fasten/sql/DialectOfPinLaw", name := "appended", desc := "(IC)Ljava/lang/String;" } : Jvm.MethodName) method_5_code (3 : Nat) (Option.some (Jvm.ClassFile.FieldType.object "java/lang/String"))).before args0 about1 = true := code_word (m := ⟨1, 4⟩) (meth := k1m4) (c := k1c4) (by decide +kernel) rfl rfl rfl (by decide +kernel)
set_option maxRecDepth 65536 in
theorem w_c16 : (Jvm.Cond.code ({ cls := "java/lang/String", name := "valueOf", desc := "(C)Ljava/lang/String;" } : Jvm.MethodName) jdk_42_method_139_code (1 : Nat) (Option.some (Jvm.ClassFile.FieldType.object "java/lang/String"))).before args0 about1 = true := code_word (m := ⟨7, 5⟩) (meth := k7m5) (c := k7c5) (by decide +kernel) rfl rfl rfl (by decide +kernel)
set_option maxRecDepth 65536 in
theorem w_c17 : (Jvm.Cond.code ({ cls := "java/lang/StringLatin1", name := "canEncode", desc := "(C)Z" } : Jvm.MethodName) jdk_43_method_3_code (1 : Nat) (Option.some Jvm.ClassFile.FieldType.boolean)).before args0 about1 = true := code_word (m := ⟨10, 2⟩) (meth := k10m2) (c := k10c2) (by decide +kernel) rfl rfl rfl (by decide +kernel)
set_option maxRecDepth 65536 in
theorem w_c18 : (Jvm.Cond.code ({ cls := "java/lang/StringLatin1", name := "toBytes", desc := "(C)[B" } : Jvm.MethodName) jdk_43_method_46_code (1 : Nat) (Option.some (Jvm.ClassFile.FieldType.array Jvm.ClassFile.FieldType.byte))).before args0 about1 = true := code_word (m := ⟨10, 4⟩) (meth := k10m4) (c := k10c4) (by decide +kernel) rfl rfl rfl (by decide +kernel)
set_option maxRecDepth 65536 in
theorem w_c19 : (Jvm.Cond.code ({ cls := "java/lang/String", name := "<init>", desc := "([BB)V" } : Jvm.MethodName) jdk_42_method_151_code (3 : Nat) (Option.none : Option Jvm.ClassFile.FieldType)).before args0 about1 = true := code_word (m := ⟨7, 7⟩) (meth := k7m7) (c := k7c7) (by decide +kernel) rfl rfl rfl (by decide +kernel)
set_option maxRecDepth 65536 in
theorem w_c20 : (Jvm.Cond.code ({ cls := "java/lang/String", name := "charAt", desc := "(I)C" } : Jvm.MethodName) jdk_42_method_56_code (2 : Nat) (Option.some Jvm.ClassFile.FieldType.char)).before args0 about1 = true := code_word (m := ⟨7, 3⟩) (meth := k7m3) (c := k7c3) (by decide +kernel) rfl rfl rfl (by decide +kernel)
set_option maxRecDepth 65536 in
theorem w_c21 : (Jvm.Cond.code ({ cls := "java/lang/String", name := "isLatin1", desc := "()Z" } : Jvm.MethodName) jdk_42_method_154_code (1 : Nat) (Option.some Jvm.ClassFile.FieldType.boolean)).before args0 about1 = true := code_word (m := ⟨7, 9⟩) (meth := k7m9) (c := k7c9) (by decide +kernel) rfl rfl rfl (by decide +kernel)
set_option maxRecDepth 65536 in
theorem w_c22 : (Jvm.Cond.code ({ cls := "java/lang/StringLatin1", name := "charAt", desc := "([BI)C" } : Jvm.MethodName) jdk_43_method_2_code (2 : Nat) (Option.some Jvm.ClassFile.FieldType.char)).before args0 about1 = true := code_word (m := ⟨10, 1⟩) (meth := k10m1) (c := k10c1) (by decide +kernel) rfl rfl rfl (by decide +kernel)
set_option maxRecDepth 65536 in
theorem w_c23 : (Jvm.Cond.code ({ cls := "java/lang/String", name := "checkIndex", desc := "(II)V" } : Jvm.MethodName) jdk_42_method_155_code (2 : Nat) (Option.none : Option Jvm.ClassFile.FieldType)).before args0 about1 = true := code_word (m := ⟨7, 10⟩) (meth := k7m10) (c := k7c10) (by decide +kernel) rfl rfl rfl (by decide +kernel)
set_option maxRecDepth 65536 in
theorem w_c24 : (Jvm.Cond.code ({ cls := "jdk/internal/util/Preconditions", name := "checkIndex", desc := "(IILjava/util/function/BiFunction;)I" } : Jvm.MethodName) jdk_41_method_11_code (3 : Nat) (Option.some Jvm.ClassFile.FieldType.int)).before args0 about1 = true := code_word (m := ⟨12, 1⟩) (meth := k12m1) (c := k12c1) (by decide +kernel) rfl rfl rfl (by decide +kernel)
def codes1 : List Jvm.Cond := [Jvm.Cond.code x code maxLocals ret, Jvm.Cond.code ({ cls := "com/example/fasten/fasten/sql/DialectOfPinLaw", name := "nameOf", desc := "(I)Ljava/lang/String;" } : Jvm.MethodName) method_3_code (1 : Nat) (Option.some (Jvm.ClassFile.FieldType.object "java/lang/String")), Jvm.Cond.code ({ cls := "com/example/fasten/fasten/sql/Dialect", name := "of", desc := "(Ljava/lang/String;)Lcom/example/fasten/fasten/sql/Dialect;" } : Jvm.MethodName) prog_22_method_6_code (2 : Nat) (Option.some (Jvm.ClassFile.FieldType.object "com/example/fasten/fasten/sql/Dialect")), Jvm.Cond.code ({ cls := "java/lang/String", name := "equals", desc := "(Ljava/lang/Object;)Z" } : Jvm.MethodName) jdk_42_method_66_code (3 : Nat) (Option.some Jvm.ClassFile.FieldType.boolean), Jvm.Cond.code ({ cls := "java/lang/StringLatin1", name := "equals", desc := "([B[B)Z" } : Jvm.MethodName) jdk_43_method_13_code (3 : Nat) (Option.some Jvm.ClassFile.FieldType.boolean), Jvm.Cond.code ({ cls := "com/example/fasten/fasten/sql/DialectOfPinLaw", name := "truncated", desc := "(I)Ljava/lang/String;" } : Jvm.MethodName) method_6_code (1 : Nat) (Option.some (Jvm.ClassFile.FieldType.object "java/lang/String")), Jvm.Cond.code ({ cls := "com/example/fasten/fasten/sql/DialectOfPinLaw", name := "substituted", desc := "(IIC)Ljava/lang/String;" } : Jvm.MethodName) method_4_code (4 : Nat) (Option.some (Jvm.ClassFile.FieldType.object "java/lang/String")), Jvm.Cond.code ({ cls := "java/lang/String", name := "<init>", desc := "([C)V" } : Jvm.MethodName) jdk_42_method_3_code (2 : Nat) (Option.none : Option Jvm.ClassFile.FieldType), Jvm.Cond.code ({ cls := "java/lang/String", name := "<init>", desc := "([CIILjava/lang/Void;)V" } : Jvm.MethodName) jdk_42_method_149_code (6 : Nat) (Option.none : Option Jvm.ClassFile.FieldType), Jvm.Cond.code ({ cls := "java/lang/Object", name := "<init>", desc := "()V" } : Jvm.MethodName) object_method_1_code (1 : Nat) (Option.none : Option Jvm.ClassFile.FieldType), Jvm.Cond.code ({ cls := "java/lang/StringUTF16", name := "compress", desc := "([CII)[B" } : Jvm.MethodName) jdk_52_method_16_code (6 : Nat) (Option.some (Jvm.ClassFile.FieldType.array Jvm.ClassFile.FieldType.byte)), Jvm.Cond.code ({ cls := "java/lang/StringUTF16", name := "compress", desc := "([CI[BII)I" } : Jvm.MethodName) jdk_52_method_21_code (7 : Nat) (Option.some Jvm.ClassFile.FieldType.int), Jvm.Cond.code ({ cls := "java/lang/StringUTF16", name := "coderFromArrayLen", desc := "([BI)B" } : Jvm.MethodName) jdk_52_method_15_code (2 : Nat) (Option.some Jvm.ClassFile.FieldType.byte), Jvm.Cond.code ({ cls := "java/lang/String", name := "length", desc := "()I" } : Jvm.MethodName) jdk_42_method_54_code (1 : Nat) (Option.some Jvm.ClassFile.FieldType.int), Jvm.Cond.code ({ cls := "java/lang/String", name := "coder", desc := "()B" } : Jvm.MethodName) jdk_42_method_152_code (1 : Nat) (Option.some Jvm.ClassFile.FieldType.byte), Jvm.Cond.code ({ cls := "com/example/fasten/fasten/sql/DialectOfPinLaw", name := "appended", desc := "(IC)Ljava/lang/String;" } : Jvm.MethodName) method_5_code (3 : Nat) (Option.some (Jvm.ClassFile.FieldType.object "java/lang/String")), Jvm.Cond.code ({ cls := "java/lang/String", name := "valueOf", desc := "(C)Ljava/lang/String;" } : Jvm.MethodName) jdk_42_method_139_code (1 : Nat) (Option.some (Jvm.ClassFile.FieldType.object "java/lang/String")), Jvm.Cond.code ({ cls := "java/lang/StringLatin1", name := "canEncode", desc := "(C)Z" } : Jvm.MethodName) jdk_43_method_3_code (1 : Nat) (Option.some Jvm.ClassFile.FieldType.boolean), Jvm.Cond.code ({ cls := "java/lang/StringLatin1", name := "toBytes", desc := "(C)[B" } : Jvm.MethodName) jdk_43_method_46_code (1 : Nat) (Option.some (Jvm.ClassFile.FieldType.array Jvm.ClassFile.FieldType.byte)), Jvm.Cond.code ({ cls := "java/lang/String", name := "<init>", desc := "([BB)V" } : Jvm.MethodName) jdk_42_method_151_code (3 : Nat) (Option.none : Option Jvm.ClassFile.FieldType), Jvm.Cond.code ({ cls := "java/lang/String", name := "charAt", desc := "(I)C" } : Jvm.MethodName) jdk_42_method_56_code (2 : Nat) (Option.some Jvm.ClassFile.FieldType.char), Jvm.Cond.code ({ cls := "java/lang/String", name := "isLatin1", desc := "()Z" } : Jvm.MethodName) jdk_42_method_154_code (1 : Nat) (Option.some Jvm.ClassFile.FieldType.boolean), Jvm.Cond.code ({ cls := "java/lang/StringLatin1", name := "charAt", desc := "([BI)C" } : Jvm.MethodName) jdk_43_method_2_code (2 : Nat) (Option.some Jvm.ClassFile.FieldType.char), Jvm.Cond.code ({ cls := "java/lang/String", name := "checkIndex", desc := "(II)V" } : Jvm.MethodName) jdk_42_method_155_code (2 : Nat) (Option.none : Option Jvm.ClassFile.FieldType), Jvm.Cond.code ({ cls := "jdk/internal/util/Preconditions", name := "checkIndex", desc := "(IILjava/util/function/BiFunction;)I" } : Jvm.MethodName) jdk_41_method_11_code (3 : Nat) (Option.some Jvm.ClassFile.FieldType.int)]
set_option maxRecDepth 65536 in
theorem codes_eq : words1.filter isCode = codes1 := rfl
theorem w_codes : ∀ c ∈ words1.filter isCode, c.before args0 about1 = true := by
  rw [codes_eq]
  intro c hc
  simp only [codes1, List.mem_cons, List.not_mem_nil, or_false] at hc
  rcases hc with rfl | rfl | rfl | rfl | rfl | rfl | rfl | rfl | rfl | rfl | rfl | rfl | rfl | rfl | rfl | rfl | rfl | rfl | rfl | rfl | rfl | rfl | rfl | rfl | rfl
  · exact w_c0
  · exact w_c1
  · exact w_c2
  · exact w_c3
  · exact w_c4
  · exact w_c5
  · exact w_c6
  · exact w_c7
  · exact w_c8
  · exact w_c9
  · exact w_c10
  · exact w_c11
  · exact w_c12
  · exact w_c13
  · exact w_c14
  · exact w_c15
  · exact w_c16
  · exact w_c17
  · exact w_c18
  · exact w_c19
  · exact w_c20
  · exact w_c21
  · exact w_c22
  · exact w_c23
  · exact w_c24
set_option maxRecDepth 65536 in
theorem w_t1 : (words1.take 24).all (fun c => isCode c || c.before args0 about1) = true := by decide +kernel
set_option maxRecDepth 65536 in
theorem w_t2 : ((words1.drop 24).take 24).all (fun c => isCode c || c.before args0 about1) = true := by decide +kernel
set_option maxRecDepth 65536 in
theorem w_t3 : (((words1.drop 24).drop 24).take 24).all (fun c => isCode c || c.before args0 about1) = true := by decide +kernel
set_option maxRecDepth 65536 in
theorem w_t4 : ((((words1.drop 24).drop 24).drop 24).take 24).all (fun c => isCode c || c.before args0 about1) = true := by decide +kernel
set_option maxRecDepth 65536 in
theorem w_t5 : ((((words1.drop 24).drop 24).drop 24).drop 24).all (fun c => isCode c || c.before args0 about1) = true := by decide +kernel
theorem w_tables : (allAtoms (Jvm.Cond.code x code maxLocals ret :: tables_1)).before args0 about1 = true := by
  rw [allAtoms_all]
  show words1.all (fun c => c.before args0 about1) = true
  refine all_split ?_ w_codes
  rw [← List.take_append_drop 24 words1, List.all_append, w_t1, ← List.take_append_drop 24 (words1.drop 24), List.all_append, w_t2, ← List.take_append_drop 24 ((words1.drop 24).drop 24), List.all_append, w_t3, ← List.take_append_drop 24 (((words1.drop 24).drop 24).drop 24), List.all_append, w_t4, w_t5]
  rfl
set_option maxRecDepth 65536 in
theorem w_rest : rest_1_c.before args0 about1 = true := by decide +kernel
set_option maxRecDepth 65536 in
theorem w_case : (Jvm.Cond.and given_1 narrow_1).before args0 about1 = true := by decide +kernel
set_option maxRecDepth 65536 in
theorem w_consts : constsHeld consts_1 about1 := Jvm.Lit.constsHeldB_iff.mp (by decide +kernel)
theorem w_applies : (headSpec (Jvm.Cond.code x code maxLocals ret :: tables_1) room_1).applies x e0.platform about1 = true :=
  (Spec.applies_iff w_frames).mpr ⟨w_running, w_runnable, w_alone, w_named, w_hears, w_ripe, w_room, w_tables⟩
theorem atStart : AtStart classFile x code maxLocals ret World_1 tables_1 room_1 Calls_1 rest_1 Pre_1 launch0 p0 e0 about1 theMethod args0 below0 :=
  ⟨lists_1, trivial, launch0.admits_env _ _ _, launch0.least_env, fairChoices_fair.cas, fairChoices_fair.clock, w_frames, w_args, w_heap, w_applies, ⟨w_consts, trivial⟩, w_rest, w_case⟩
end start1
theorem witness_1 : WitnessClaimed_1 := ⟨start1.p0, start1.e0, start1.about1, start1.theMethod, start1.args0, start1.below0, start1.atStart⟩
end Jvm.Pilot.@@N@@
