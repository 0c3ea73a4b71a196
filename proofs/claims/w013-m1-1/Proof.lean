import JvmDerived
import JvmDerived.Pilot.@@N@@Statement
import JvmDerived.Pilot.@@N@@Code
set_option linter.unusedVariables false
set_option linter.unusedSimpArgs false
/- laws to paste: Road.backV (cut by pick.py; bodies as the Statement names them) -/
namespace Jvm.Pilot.@@N@@
namespace StrChars
open Jvm Sem ClassFile Op Lib Jvm.Stand Jvm.Free.XT Jvm.Free.ALB Jvm.Free.JM Jvm.Free
open Jvm.Lib.Cold (StaticIs)
/-- a char array whose places are chars -/
def Ch (a : Addr) (A : Cell) (U : State) : Prop := Arr .char a A U ∧ Typed .char A
theorem Ch.mv {a : Addr} {A : Cell} {U U' : State} (h : Ch a A U) (hal : U.vm.Alike U'.vm) (hh : U'.heap = U.heap) : Ch a A U' := ⟨h.1.mv hal hh, h.2⟩
theorem Ch.keep {a : Addr} {A : Cell} {U U' : State} (h : Ch a A U) (hal : U.vm.Alike U'.vm) (hk : U'.heap[a]? = some A) : Ch a A U' := ⟨h.1.keep hal hk, h.2⟩
/-- what place i of a char[]'s cell holds -/
def cv (A : Cell) (i : Nat) : Int32 := match A.slots[i]? with | some (.int x) => x | _ => 0
theorem Ch.get {a : Addr} {A : Cell} {U : State} (h : Ch a A U) {i : Nat} (hi : i < A.slots.size) : A.slots[i]? = some (.int (cv A i)) := by
  have e := Array.getElem?_eq_getElem hi
  have f := h.2 i _ e
  unfold cv; rw [e]
  generalize A.slots[i] = v at f
  cases v <;> simp [fits] at f ⊢
/-- the byte that i2b leaves of a char -/
def lo8 (x : Int32) : Int32 := x.toInt8.toInt32
theorem fits_lo8 (y : Int32) : fits .byte (.int (lo8 y)) = true := by
  have h1 := y.toInt8.le_toInt
  have h2 := y.toInt8.toInt_lt
  simp only [lo8, fits, Bool.and_eq_true, decide_eq_true_eq, Int32.le_iff_toInt_le, Int8.toInt_toInt32, show (-128 : Int32).toInt = -128 from by decide, show (127 : Int32).toInt = 127 from by decide]
  omega
/-- A' is A but that each place j of lo .. hi - 1 holds f j -/
def Laid (A A' : Cell) (lo hi : Nat) (f : Nat → Value) : Prop := A'.cls = A.cls ∧ A'.vm = A.vm ∧ A'.slots.size = A.slots.size ∧ ∀ i, A'.slots[i]? = if lo ≤ i ∧ i < hi then some (f i) else A.slots[i]?
theorem Laid.zero (A : Cell) (lo : Nat) (f : Nat → Value) : Laid A A lo (lo + 0) f := ⟨rfl, rfl, rfl, fun i => by rw [if_neg (by omega)]⟩
theorem Laid.step {A Ak : Cell} {lo k : Nat} {f : Nat → Value} {v : Value} (h : Laid A Ak lo k f) (hlo : lo ≤ k) (hk : k < Ak.slots.size) (hv : v = f k) : Laid A (Ak.setSlot k v) lo (k + 1) f := by
  refine ⟨h.1, h.2.1, by simpa [Cell.setSlot] using h.2.2.1, fun i => ?_⟩
  by_cases e : k = i
  · subst e; rw [Cell.slots_setSlot_self v hk, if_pos (by omega), hv]
  · rw [Cell.slots_setSlot_ne v e, h.2.2.2 i]
    by_cases q : lo ≤ i ∧ i < k
    · rw [if_pos q, if_pos (by omega)]
    · rw [if_neg q, if_neg (by omega)]
def U16 : String := "java/lang/StringUTF16"
namespace Cmp5
def yN : MethodName := ⟨"java/lang/StringUTF16", "compress", "([CI[BII)I"⟩
abbrev yB : ByteArray := jdk_52_method_21_code
theorem d0 : decode yB 0 = .ok (.iconst 0, 1) := by decide +kernel
theorem d1 : decode yB 1 = .ok (.istore 5, 2) := by decide +kernel
theorem d3 : decode yB 3 = .ok (.iload 5, 2) := by decide +kernel
theorem d5 : decode yB 5 = .ok (.iload 4, 2) := by decide +kernel
theorem d7 : decode yB 7 = .ok (.if_icmp (.ge) 37, 3) := by decide +kernel
theorem d10 : decode yB 10 = .ok (.aload_n 0, 1) := by decide +kernel
theorem d11 : decode yB 11 = .ok (.iload_n 1, 1) := by decide +kernel
theorem d12 : decode yB 12 = .ok (.caload, 1) := by decide +kernel
theorem d13 : decode yB 13 = .ok (.istore 6, 2) := by decide +kernel
theorem d15 : decode yB 15 = .ok (.iload 6, 2) := by decide +kernel
theorem d17 : decode yB 17 = .ok (.sipush 255, 3) := by decide +kernel
theorem d20 : decode yB 20 = .ok (.if_icmp (.le) 6, 3) := by decide +kernel
theorem d26 : decode yB 26 = .ok (.aload_n 2, 1) := by decide +kernel
theorem d27 : decode yB 27 = .ok (.iload_n 3, 1) := by decide +kernel
theorem d28 : decode yB 28 = .ok (.iload 6, 2) := by decide +kernel
theorem d30 : decode yB 30 = .ok (.i2b, 1) := by decide +kernel
theorem d31 : decode yB 31 = .ok (.bastore, 1) := by decide +kernel
theorem d32 : decode yB 32 = .ok (.iinc 1 1, 3) := by decide +kernel
theorem d35 : decode yB 35 = .ok (.iinc 3 1, 3) := by decide +kernel
theorem d38 : decode yB 38 = .ok (.iinc 5 1, 3) := by decide +kernel
theorem d41 : decode yB 41 = .ok (.goto (-38), 3) := by decide +kernel
theorem d44 : decode yB 44 = .ok (.iload 4, 2) := by decide +kernel
theorem d46 : decode yB 46 = .ok (.ireturn, 1) := by decide +kernel
def site : List Cond := []
def tab : Cond := tabOf yN yB 7 (some .int) site
def P (b : Addr) (A : Cell) (d : Addr) (B : Cell) (o q len : Nat) (args : Array Value) (s : State) : Prop := args = #[.ref b, .int (Int32.ofNat o), .ref d, .int (Int32.ofNat q), .int (Int32.ofNat len)] ∧ Ch b A s ∧ Arr .byte d B s ∧ b ≠ d ∧ o + len ≤ A.slots.size ∧ q + len ≤ B.slots.size ∧ ∀ i, i < len → ¬ 255 < cv A (o + i)
def E (b : Addr) (A : Cell) (d : Addr) (B : Cell) (o q len : Nat) (r : Option Value) (s u : State) : Prop := r = some (.int (Int32.ofNat len)) ∧ ∃ B', Put d B' s u ∧ Laid B B' q (q + len) (fun j => Value.int (lo8 (cv A (o + (j - q)))))
/-- no char of the range above 255: len; the places written hold each char's low byte -/
theorem law (l : Launch) (b : Addr) (A : Cell) (d : Addr) (B : Cell) (o q len : Nat) : Law l yN 5 5 0 0 yB 7 (some .int) site (P b A d B o q len) (E b A d B o q len) (copyLocs d q len) 0 0 := by
  refine Law.of_walk (plainFor_of_name (by decide +kernel)) (by decide +kernel) (by decide +kernel) (by decide) (fun _ _ h => by rw [h.1]; rfl) (fun _ U U' hal hh h => ⟨h.1, h.2.1.mv hal hh, h.2.2.1.mv hal hh, h.2.2.2⟩) (fun r U U' V V' h1 hal h2 h => ⟨h.1, h.2.elim fun B' q => ⟨B', q.1.mv h1 h2, q.2⟩⟩) ?_
  intro p e s m args below meth c s₁ X0 hexec hbytes hml hret hlk hnm hown hh0 W hP
  obtain ⟨rfl, hA, hB, hne, l1, l2, hp⟩ := hP
  have c1 : Steps p.tables e below (s₁.setTop (entryFrame m #[.ref b, .int (Int32.ofNat o), .ref d, .int (Int32.ofNat q), .int (Int32.ofNat len)] 7)) (s₁.setTop (mkF m 0 #[.val (.ref b), .val (.int (Int32.ofNat o)), .val (.ref d), .val (.int (Int32.ofNat q)), .val (.int (Int32.ofNat len)), .unset, .unset] [])) := entry rfl
  have hA0 := hA.1.mv X0.warmed.alike hh0
  have hB0 := hB.mv X0.warmed.alike hh0
  have a31 := hA.1.2.2.2
  have c2 : Steps p.tables e below (s₁.setTop (entryFrame m #[.ref b, .int (Int32.ofNat o), .ref d, .int (Int32.ofNat q), .int (Int32.ofNat len)] 7)) (s₁.setTop (mkF m 3 #[.val (.ref b), .val (.int (Int32.ofNat o)), .val (.ref d), .val (.int (Int32.ofNat q)), .val (.int (Int32.ofNat len)), .val (.int 0), .unset] [])) := c1.trans (by
    refine iconstV X0.here hexec rfl 0 (hb hbytes d0) (by decide) ?_
    refine XS.istore X0.here hexec rfl (hb hbytes d1) rfl rfl ?_
    exact Steps.refl _)
  have loop : ∀ (r i : Nat), i + r = len → ∀ (z : Slot), (z = .unset ∨ ∃ w, z = .val w ∧ w.category = 1) → ∀ (Tl : State) (Bk : Cell), Stand p l e { frames := 0, locals := 0, cells := 0, slots := 0 } s m #[.ref b, .int (Int32.ofNat o), .ref d, .int (Int32.ofNat q), .int (Int32.ofNat len)] below meth c Tl ([] ++ copyLocs d q i) 0 0 → Put d Bk s₁ Tl → Laid B Bk q (q + i) (fun j => Value.int (lo8 (cv A (o + (j - q))))) →
      Steps p.tables e below (s₁.setTop (entryFrame m #[.ref b, .int (Int32.ofNat o), .ref d, .int (Int32.ofNat q), .int (Int32.ofNat len)] 7)) (Tl.setTop (mkF m 3 #[.val (.ref b), .val (.int (Int32.ofNat (o + i))), .val (.ref d), .val (.int (Int32.ofNat (q + i))), .val (.int (Int32.ofNat len)), .val (.int (Int32.ofNat i)), z] [])) → ∃ (T' : State) (B' : Cell) (z' : Slot), Stand p l e { frames := 0, locals := 0, cells := 0, slots := 0 } s m #[.ref b, .int (Int32.ofNat o), .ref d, .int (Int32.ofNat q), .int (Int32.ofNat len)] below meth c T' ([] ++ copyLocs d q len) 0 0 ∧ Put d B' s₁ T' ∧ Laid B B' q (q + len) (fun j => Value.int (lo8 (cv A (o + (j - q))))) ∧
      Steps p.tables e below (s₁.setTop (entryFrame m #[.ref b, .int (Int32.ofNat o), .ref d, .int (Int32.ofNat q), .int (Int32.ofNat len)] 7)) (T'.setTop (mkF m 3 #[.val (.ref b), .val (.int (Int32.ofNat (o + len))), .val (.ref d), .val (.int (Int32.ofNat (q + len))), .val (.int (Int32.ofNat len)), .val (.int (Int32.ofNat len)), z'] [])) := by
    intro r
    induction r with
    | zero =>
      intro i hi z hz Tl Bk Xl pl fl cl
      have hil : i = len := by omega
      rw [hil] at Xl fl cl
      exact ⟨Tl, Bk, z, Xl, pl, fl, cl⟩
    | succ r ih =>
      intro i hi z hz Tl Bk Xl pl fl cl
      have all := X0.warmed.alike.symm.trans Xl.warmed.alike
      have hAl := hA0.keep all (pl.other hne hA0.1)
      have hBk := hB0.like all pl.1 fl.1 fl.2.1 fl.2.2.1
      have hlt : q + i < Bk.slots.size := by rw [fl.2.2.1]; omega
      have c3 : Steps p.tables e below (s₁.setTop (entryFrame m #[.ref b, .int (Int32.ofNat o), .ref d, .int (Int32.ofNat q), .int (Int32.ofNat len)] 7)) (Tl.setTop (mkF m 12 #[.val (.ref b), .val (.int (Int32.ofNat (o + i))), .val (.ref d), .val (.int (Int32.ofNat (q + i))), .val (.int (Int32.ofNat len)), .val (.int (Int32.ofNat i)), z] [.int (Int32.ofNat (o + i)), .ref b])) := cl.trans (by
        refine XS.iload Xl.here hexec rfl (hb hbytes d3) rfl ?_
        refine XS.iload Xl.here hexec rfl (hb hbytes d5) rfl ?_
        refine XS.icmpNo Xl.here hexec rfl (hb hbytes d7) rfl (ii_ge_f (lt32 (by omega) (by omega))) ?_
        refine XS.aloadN Xl.here hexec rfl (hb hbytes d10) rfl rfl ?_
        refine XS.iloadN Xl.here hexec rfl (hb hbytes d11) rfl ?_
        exact Steps.refl _)
      have c4 : Steps p.tables e below (s₁.setTop (entryFrame m #[.ref b, .int (Int32.ofNat o), .ref d, .int (Int32.ofNat q), .int (Int32.ofNat len)] 7)) (Tl.setTop (mkF m 13 #[.val (.ref b), .val (.int (Int32.ofNat (o + i))), .val (.ref d), .val (.int (Int32.ofNat (q + i))), .val (.int (Int32.ofNat len)), .val (.int (Int32.ofNat i)), z] [.int (cv A (o + i))])) := c3.trans (by
        refine Xl.aget hexec hAl rfl (hA.get (i := o + i) (by omega)) rfl rfl (hb hbytes d12) ?_
        exact Steps.refl _)
      have c5 : Steps p.tables e below (s₁.setTop (entryFrame m #[.ref b, .int (Int32.ofNat o), .ref d, .int (Int32.ofNat q), .int (Int32.ofNat len)] 7)) (Tl.setTop (mkF m 15 #[.val (.ref b), .val (.int (Int32.ofNat (o + i))), .val (.ref d), .val (.int (Int32.ofNat (q + i))), .val (.int (Int32.ofNat len)), .val (.int (Int32.ofNat i)), .val (.int (cv A (o + i)))] [])) := c4.trans (by
        refine XS.istoreS Xl.here hexec rfl (hb hbytes d13) rfl rfl hz ?_
        exact Steps.refl _)
      have c6 : Steps p.tables e below (s₁.setTop (entryFrame m #[.ref b, .int (Int32.ofNat o), .ref d, .int (Int32.ofNat q), .int (Int32.ofNat len)] 7)) (Tl.setTop (mkF m 31 #[.val (.ref b), .val (.int (Int32.ofNat (o + i))), .val (.ref d), .val (.int (Int32.ofNat (q + i))), .val (.int (Int32.ofNat len)), .val (.int (Int32.ofNat i)), .val (.int (cv A (o + i)))] [.int (lo8 (cv A (o + i))), .int (Int32.ofNat (q + i)), .ref d])) := c5.trans (by
        refine XS.iload Xl.here hexec rfl (hb hbytes d15) rfl ?_
        refine sipushV Xl.here hexec rfl 255 (hb hbytes d17) (by decide) ?_
        refine XS.icmpYes Xl.here hexec rfl (pc0 := 20) rfl (hb hbytes d20) rfl (ii_le_t (hp i (by omega))) (by decide) rfl ?_
        refine XS.aloadN Xl.here hexec rfl (hb hbytes d26) rfl rfl ?_
        refine XS.iloadN Xl.here hexec rfl (hb hbytes d27) rfl ?_
        refine XS.iload Xl.here hexec rfl (hb hbytes d28) rfl ?_
        refine i2b Xl.here hexec rfl (hb hbytes d30) rfl ?_
        exact Steps.refl _)
      obtain ⟨T7, X7, p7, st7⟩ := Xl.aput hexec hBk rfl hlt rfl (fits_lo8 (cv A (o + i))) (g := (mkF m 31 #[.val (.ref b), .val (.int (Int32.ofNat (o + i))), .val (.ref d), .val (.int (Int32.ofNat (q + i))), .val (.int (Int32.ofNat len)), .val (.int (Int32.ofNat i)), .val (.int (cv A (o + i)))] [.int (lo8 (cv A (o + i))), .int (Int32.ofNat (q + i)), .ref d])) rfl (rest := []) rfl (hb hbytes d31)
      have c8 : Steps p.tables e below (s₁.setTop (entryFrame m #[.ref b, .int (Int32.ofNat o), .ref d, .int (Int32.ofNat q), .int (Int32.ofNat len)] 7)) (T7.setTop (mkF m 32 #[.val (.ref b), .val (.int (Int32.ofNat (o + i))), .val (.ref d), .val (.int (Int32.ofNat (q + i))), .val (.int (Int32.ofNat len)), .val (.int (Int32.ofNat i)), .val (.int (cv A (o + i)))] [])) := c6.trans (st7 _ (Steps.refl _))
      have c9 : Steps p.tables e below (s₁.setTop (entryFrame m #[.ref b, .int (Int32.ofNat o), .ref d, .int (Int32.ofNat q), .int (Int32.ofNat len)] 7)) (T7.setTop (mkF m 3 #[.val (.ref b), .val (.int (Int32.ofNat (o + i) + 1)), .val (.ref d), .val (.int (Int32.ofNat (q + i) + 1)), .val (.int (Int32.ofNat len)), .val (.int (Int32.ofNat i + 1)), .val (.int (cv A (o + i)))] [])) := c8.trans (by
        refine iincV X7.here hexec rfl 1 (hb hbytes d32) (by decide) rfl rfl ?_
        refine iincV X7.here hexec rfl 1 (hb hbytes d35) (by decide) rfl rfl ?_
        refine iincV X7.here hexec rfl 1 (hb hbytes d38) (by decide) rfl rfl ?_
        refine XS.goto X7.here hexec rfl (pc0 := 41) rfl (hb hbytes d41) (by decide) rfl ?_
        exact Steps.refl _)
      have c10 : Steps p.tables e below (s₁.setTop (entryFrame m #[.ref b, .int (Int32.ofNat o), .ref d, .int (Int32.ofNat q), .int (Int32.ofNat len)] 7)) (T7.setTop (mkF m 3 #[.val (.ref b), .val (.int (Int32.ofNat (o + (i + 1)))), .val (.ref d), .val (.int (Int32.ofNat (q + (i + 1)))), .val (.int (Int32.ofNat len)), .val (.int (Int32.ofNat (i + 1))), .val (.int (cv A (o + i)))] [])) := by
        have := c9
        rw [succ32, succ32, succ32] at this
        exact this
      exact ih (i + 1) (by omega) _ (Or.inr ⟨_, rfl, rfl⟩) T7 _ (by rw [copyLocs_step, ← List.append_assoc]; exact X7) (pl.trans p7) (fl.step (by omega) hlt (by simp)) c10
  obtain ⟨T9, B9, z9, X9, p9, f9, g9⟩ := loop len 0 (by omega) .unset (Or.inl rfl) s₁ B (by simpa [copyLocs] using X0) ⟨hB0.1, fun _ _ => rfl, rfl⟩ (Laid.zero _ _ _) c2
  have c11 : Steps p.tables e below (s₁.setTop (entryFrame m #[.ref b, .int (Int32.ofNat o), .ref d, .int (Int32.ofNat q), .int (Int32.ofNat len)] 7)) (T9.setTop (mkF m 46 #[.val (.ref b), .val (.int (Int32.ofNat (o + len))), .val (.ref d), .val (.int (Int32.ofNat (q + len))), .val (.int (Int32.ofNat len)), .val (.int (Int32.ofNat len)), z9] [.int (Int32.ofNat len)])) := g9.trans (by
    refine XS.iload X9.here hexec rfl (hb hbytes d3) rfl ?_
    refine XS.iload X9.here hexec rfl (hb hbytes d5) rfl ?_
    refine XS.icmpYes X9.here hexec rfl (pc0 := 7) rfl (hb hbytes d7) rfl (ii_ge_t (nlt32 (by omega) (Nat.le_refl _))) (by decide) rfl ?_
    refine XS.iload X9.here hexec rfl (hb hbytes d44) rfl ?_
    exact Steps.refl _)
  exact ⟨T9, some (.int (Int32.ofNat len)), _, _, _, X9, by simp, rfl, rfl, (fun h => by cases h), ⟨rfl, B9, p9.from hh0, f9⟩, fun fs hl => c11.trans (X9.ireturnOut hexec hret rfl (Or.inl rfl) (hb hbytes d46) hl)⟩
end Cmp5
namespace Cmp3
def yN : MethodName := ⟨"java/lang/StringUTF16", "compress", "([CII)[B"⟩
abbrev yB : ByteArray := jdk_52_method_16_code
theorem d0 : decode yB 0 = .ok (.iload_n 2, 1) := by decide +kernel
theorem d1 : decode yB 1 = .ok (.newarray .byte, 2) := by decide +kernel
theorem d3 : decode yB 3 = .ok (.astore_n 3, 1) := by decide +kernel
theorem d4 : decode yB 4 = .ok (.aload_n 0, 1) := by decide +kernel
theorem d5 : decode yB 5 = .ok (.iload_n 1, 1) := by decide +kernel
theorem d6 : decode yB 6 = .ok (.aload_n 3, 1) := by decide +kernel
theorem d7 : decode yB 7 = .ok (.iconst 0, 1) := by decide +kernel
theorem d8 : decode yB 8 = .ok (.iload_n 2, 1) := by decide +kernel
theorem d9 : decode yB 9 = .ok (.invokestatic 115, 3) := by decide +kernel
theorem d12 : decode yB 12 = .ok (.istore 4, 2) := by decide +kernel
theorem d14 : decode yB 14 = .ok (.iload 4, 2) := by decide +kernel
theorem d16 : decode yB 16 = .ok (.iload_n 2, 1) := by decide +kernel
theorem d17 : decode yB 17 = .ok (.if_icmp (.eq) 40, 3) := by decide +kernel
theorem d57 : decode yB 57 = .ok (.aload_n 3, 1) := by decide +kernel
theorem d58 : decode yB 58 = .ok (.areturn, 1) := by decide +kernel
def site : List Cond := [.arrayClass .byte, Cmp5.tab] ++ staticW U16 115 Cmp5.yN
def tab : Cond := tabOf yN yB 6 (some (.array .byte)) site
def P (b : Addr) (A : Cell) (o len : Nat) (args : Array Value) (s : State) : Prop := args = #[.ref b, .int (Int32.ofNat o), .int (Int32.ofNat len)] ∧ Ch b A s ∧ o + len ≤ A.slots.size ∧ len ≤ 536870912 ∧ ∀ i, i < len → ¬ 255 < cv A (o + i)
def E (b : Addr) (A : Cell) (o len : Nat) (r : Option Value) (s u : State) : Prop := NewArr .byte "[B" len (fun j => .int (lo8 (cv A (o + j)))) r s u ∧ u.heap.size = s.heap.size + 1
/-- no char of the range above 255: a new byte[] of their low bytes -/
theorem law (l : Launch) (b : Addr) (A : Cell) (o len : Nat) : Law l yN 3 3 1 18 yB 6 (some (.array .byte)) site (P b A o len) (E b A o len) [] 1 len := by
  refine Law.of_walk (plainFor_of_name (by decide +kernel)) (by decide +kernel) (by decide +kernel) (by decide) (fun _ _ h => by rw [h.1]; rfl) (fun _ U U' hal hh h => ⟨h.1, h.2.1.mv hal hh, h.2.2⟩) (fun r U U' V V' h1 hal h2 h => ⟨NewArr.mv r U U' V V' h1 hal h2 h.1, by rw [h1, h2]; exact h.2⟩) ?_
  intro p e s m args below meth c s₁ X0 hexec hbytes hml hret hlk hnm hown hh0 W hP
  obtain ⟨rfl, hA, l1, l2, hp⟩ := hP
  have a31 := hA.1.2.2.2
  have c1 : Steps p.tables e below (s₁.setTop (entryFrame m #[.ref b, .int (Int32.ofNat o), .int (Int32.ofNat len)] 6)) (s₁.setTop (mkF m 0 #[.val (.ref b), .val (.int (Int32.ofNat o)), .val (.int (Int32.ofNat len)), .unset, .unset, .unset] [])) := entry rfl
  have c2 : Steps p.tables e below (s₁.setTop (entryFrame m #[.ref b, .int (Int32.ofNat o), .int (Int32.ofNat len)] 6)) (s₁.setTop (mkF m 1 #[.val (.ref b), .val (.int (Int32.ofNat o)), .val (.int (Int32.ofNat len)), .unset, .unset, .unset] [.int (Int32.ofNat len)])) := c1.trans (by
    refine XS.iloadN X0.here hexec rfl (hb hbytes d0) rfl ?_
    exact Steps.refl _)
  obtain ⟨T3, B3, X3, ba3, bs3, bv3, bh3, bf3, st3⟩ := X0.anew hexec (atype := .byte) (wk W (.arrayClass .byte)) rfl (by show len * 1 ≤ _; omega) (by omega) (g := (mkF m 1 #[.val (.ref b), .val (.int (Int32.ofNat o)), .val (.int (Int32.ofNat len)), .unset, .unset, .unset] [.int (Int32.ofNat len)])) rfl (hb hbytes d1) (rest := []) rfl (Nat.le_refl _) (by show 0 + len ≤ len; omega)
  rw [hh0] at ba3 st3
  have kp3 : XT.Kept s T3 := (XT.Kept.of_eq hh0).push bh3
  have hA3 := hA.keep X3.warmed.alike (kp3 _ _ hA.1.1)
  have hne : b ≠ s.heap.size := hA.1.ne
  have c4 : Steps p.tables e below (s₁.setTop (entryFrame m #[.ref b, .int (Int32.ofNat o), .int (Int32.ofNat len)] 6)) (T3.setTop (mkF m 3 #[.val (.ref b), .val (.int (Int32.ofNat o)), .val (.int (Int32.ofNat len)), .unset, .unset, .unset] [.ref s.heap.size])) := c2.trans (st3 _ (Steps.refl _))
  have c5 : Steps p.tables e below (s₁.setTop (entryFrame m #[.ref b, .int (Int32.ofNat o), .int (Int32.ofNat len)] 6)) (T3.setTop (mkF m 9 #[.val (.ref b), .val (.int (Int32.ofNat o)), .val (.int (Int32.ofNat len)), .val (.ref s.heap.size), .unset, .unset] [.int (Int32.ofNat len), .int 0, .ref s.heap.size, .int (Int32.ofNat o), .ref b])) := c4.trans (by
    refine XS.astoreN X3.here hexec rfl (hb hbytes d3) rfl rfl rfl ?_
    refine XS.aloadN X3.here hexec rfl (hb hbytes d4) rfl rfl ?_
    refine XS.iloadN X3.here hexec rfl (hb hbytes d5) rfl ?_
    refine XS.aloadN X3.here hexec rfl (hb hbytes d6) rfl rfl ?_
    refine iconstV X3.here hexec rfl 0 (hb hbytes d7) (by decide) ?_
    refine XS.iloadN X3.here hexec rfl (hb hbytes d8) rfl ?_
    exact Steps.refl _)
  obtain ⟨v6, T6, X6, E6, g6⟩ := X3.callS hexec (Cmp5.law l b A s.heap.size B3 o 0 len) hown (wks W (staticW U16 115 Cmp5.yN)) (wk W Cmp5.tab) (W := 0) (Nat.le_of_ble_eq_true rfl) (Nat.le_of_ble_eq_true rfl) (Nat.le_refl _) (by show 0 + len + 0 ≤ len; omega) (g := (mkF m 9 #[.val (.ref b), .val (.int (Int32.ofNat o)), .val (.int (Int32.ofNat len)), .val (.ref s.heap.size), .unset, .unset] [.int (Int32.ofNat len), .int (Int32.ofNat 0), .ref s.heap.size, .int (Int32.ofNat o), .ref b])) rfl (by rw [hml]; rfl) c5 (argsL := [.ref b, .int (Int32.ofNat o), .ref s.heap.size, .int (Int32.ofNat 0), .int (Int32.ofNat len)]) (rest := []) rfl rfl (by show 2 * 0 + 0 ≤ _; decide) (hb hbytes d9) (⟨rfl, hA3, ba3, hne, l1, by rw [bs3]; simp, hp⟩)
  obtain ⟨rfl, B6, p6, f6⟩ := E6
  have c7 : Steps p.tables e below (s₁.setTop (entryFrame m #[.ref b, .int (Int32.ofNat o), .int (Int32.ofNat len)] 6)) (T6.setTop (mkF m 12 #[.val (.ref b), .val (.int (Int32.ofNat o)), .val (.int (Int32.ofNat len)), .val (.ref s.heap.size), .unset, .unset] [.int (Int32.ofNat len)])) := g6
  have c8 : Steps p.tables e below (s₁.setTop (entryFrame m #[.ref b, .int (Int32.ofNat o), .int (Int32.ofNat len)] 6)) (T6.setTop (mkF m 58 #[.val (.ref b), .val (.int (Int32.ofNat o)), .val (.int (Int32.ofNat len)), .val (.ref s.heap.size), .val (.int (Int32.ofNat len)), .unset] [.ref s.heap.size])) := c7.trans (by
    refine XS.istore X6.here hexec rfl (hb hbytes d12) rfl rfl ?_
    refine XS.iload X6.here hexec rfl (hb hbytes d14) rfl ?_
    refine XS.iloadN X6.here hexec rfl (hb hbytes d16) rfl ?_
    refine XS.icmpYes X6.here hexec rfl (pc0 := 17) rfl (hb hbytes d17) rfl (ii_eq_t rfl) (by decide) rfl ?_
    refine XS.aloadN X6.here hexec rfl (hb hbytes d57) rfl rfl ?_
    exact Steps.refl _)
  have X8 := X6.wide (L' := []) (cells' := 1) (slots' := len) (fun x hx hlt => by
    simp only [List.nil_append, copyLocs, List.mem_map, List.mem_range] at hx
    obtain ⟨i, -, rfl⟩ := hx
    exact absurd hlt (Nat.lt_irrefl _)) (Nat.le_refl _) (by omega)
  exact ⟨T6, some (.ref s.heap.size), _, _, _, X8, rfl, rfl, rfl, (fun h => by cases h), ⟨⟨rfl, B6, ba3.like (X3.warmed.alike.symm.trans X6.warmed.alike) p6.1 f6.1 f6.2.1 f6.2.2.1, f6.2.1.trans bv3, by rw [X6.warmed.alike.findClass, f6.1]; exact bf3, by rw [f6.2.2.1, bs3]; simp, fun j hj => by rw [f6.2.2.2 j, if_pos (by omega)]; rfl, kp3.put p6 (Nat.le_refl _)⟩, by rw [p6.2.2, bh3, hh0]; simp⟩, fun fs hl => c8.trans (X8.areturnOut hexec rfl hret rfl (hb hbytes d58) hl)⟩
end Cmp3
namespace CodL
def yN : MethodName := ⟨"java/lang/StringUTF16", "coderFromArrayLen", "([BI)B"⟩
abbrev yB : ByteArray := jdk_52_method_15_code
theorem d0 : decode yB 0 = .ok (.iload_n 1, 1) := by decide +kernel
theorem d1 : decode yB 1 = .ok (.aload_n 0, 1) := by decide +kernel
theorem d2 : decode yB 2 = .ok (.arraylength, 1) := by decide +kernel
theorem d3 : decode yB 3 = .ok (.isub, 1) := by decide +kernel
theorem d4 : decode yB 4 = .ok (.bipush 31, 2) := by decide +kernel
theorem d6 : decode yB 6 = .ok (.iushr, 1) := by decide +kernel
theorem d7 : decode yB 7 = .ok (.i2b, 1) := by decide +kernel
theorem d8 : decode yB 8 = .ok (.ireturn, 1) := by decide +kernel
def site : List Cond := []
def tab : Cond := tabOf yN yB 2 (some .byte) site
def P (d : Addr) (B : Cell) (args : Array Value) (s : State) : Prop := args = #[.ref d, .int (Int32.ofNat B.slots.size)] ∧ Arr .byte d B s
def E (r : Option Value) (s u : State) : Prop := XT.PureE (some (.int 0)) r s u
/-- an array as long as the number of chars: LATIN1 -/
theorem law (l : Launch) (d : Addr) (B : Cell) : Law l yN 2 2 0 0 yB 2 (some .byte) site (P d B) E [] 0 0 := by
  refine Law.of_walk (plainFor_of_name (by decide +kernel)) (by decide +kernel) (by decide +kernel) (by decide) (fun _ _ h => by rw [h.1]; rfl) (fun _ U U' hal hh h => ⟨h.1, h.2.mv hal hh⟩) (fun r U U' V V' h1 hal h2 h => XT.PureE.mv r U U' V V' h1 hal h2 h) ?_
  intro p e s m args below meth c s₁ X0 hexec hbytes hml hret hlk hnm hown hh0 W hP
  obtain ⟨rfl, hB⟩ := hP
  have hB0 := hB.mv X0.warmed.alike hh0
  have c1 : Steps p.tables e below (s₁.setTop (entryFrame m #[.ref d, .int (Int32.ofNat B.slots.size)] 2)) (s₁.setTop (mkF m 0 #[.val (.ref d), .val (.int (Int32.ofNat B.slots.size))] [])) := entry rfl
  have c2 : Steps p.tables e below (s₁.setTop (entryFrame m #[.ref d, .int (Int32.ofNat B.slots.size)] 2)) (s₁.setTop (mkF m 2 #[.val (.ref d), .val (.int (Int32.ofNat B.slots.size))] [.ref d, .int (Int32.ofNat B.slots.size)])) := c1.trans (by
    refine XS.iloadN X0.here hexec rfl (hb hbytes d0) rfl ?_
    refine XS.aloadN X0.here hexec rfl (hb hbytes d1) rfl rfl ?_
    exact Steps.refl _)
  have c3 : Steps p.tables e below (s₁.setTop (entryFrame m #[.ref d, .int (Int32.ofNat B.slots.size)] 2)) (s₁.setTop (mkF m 8 #[.val (.ref d), .val (.int (Int32.ofNat B.slots.size))] [.int (lo8 (ushr (Int32.ofNat B.slots.size - Int32.ofNat B.slots.size) 31))])) := c2.trans (by
    refine X0.alen hexec hB0 rfl rfl (hb hbytes d2) ?_
    refine XS.isub X0.here hexec rfl (hb hbytes d3) rfl ?_
    refine bipushV X0.here hexec rfl 31 (hb hbytes d4) (by decide) ?_
    refine iushr X0.here hexec rfl (hb hbytes d6) rfl ?_
    refine i2b X0.here hexec rfl (hb hbytes d7) rfl ?_
    exact Steps.refl _)
  have e0 : lo8 (ushr (Int32.ofNat B.slots.size - Int32.ofNat B.slots.size) 31) = 0 := by rw [Int32.sub_self]; decide
  rw [e0] at c3
  exact ⟨s₁, some (.int 0), _, _, _, X0, rfl, rfl, rfl, (fun h => by cases h), ⟨rfl, hh0⟩, fun fs hl => c3.trans (X0.ireturnOut hexec hret rfl (Or.inr (Or.inr (Or.inl rfl))) (hb hbytes d8) hl)⟩
end CodL
/-- the String at a is Latin-1 over a new byte[] (the heap's one new cell): the low bytes of the len chars of A from o on; every cell but a is kept -/
def Got (a : Addr) (D : Cell) (fV fC : Field) (A : Cell) (o len : Nat) (r : Option Value) (s u : State) : Prop := r = none ∧ ∃ D' V : Cell, Blank "java/lang/String" a D' u ∧ Same D D' [fV.slot, fC.slot] ∧ D'.slots[fV.slot]? = some (.ref s.heap.size) ∧ D'.slots[fC.slot]? = some (.int 0) ∧ Arr .byte s.heap.size V u ∧ V.vm = .none ∧ u.vm.findClass "[B" = some V.cls ∧ V.slots.size = len ∧ (∀ j, j < len → V.slots[j]? = some (.int (lo8 (cv A (o + j))))) ∧ (∀ (y : Addr) (c : Cell), y ≠ a → s.heap[y]? = some c → u.heap[y]? = some c) ∧ u.heap.size = s.heap.size + 1
theorem Got.mv {a : Addr} {D A : Cell} {fV fC : Field} {o len : Nat} : ∀ r (U U' V V' : State), U'.heap = U.heap → V.vm.Alike V'.vm → V'.heap = V.heap → Got a D fV fC A o len r U V → Got a D fV fC A o len r U' V' :=
  fun r U U' V V' h1 hal h2 ⟨e0, D', X, a1, a2, a3, a4, a5, a6, a7, a8, a9, a10, a11⟩ => ⟨e0, D', X, a1.mv hal h2, a2, by rw [h1]; exact a3, a4, by rw [h1]; exact a5.mv hal h2, a6, by rw [hal.findClass]; exact a7, a8, a9, by rw [h1, h2]; exact a10, by rw [h1, h2]; exact a11⟩
namespace New4
def yN : MethodName := ⟨"java/lang/String", "<init>", "([CIILjava/lang/Void;)V"⟩
abbrev yB : ByteArray := jdk_42_method_149_code
theorem d0 : decode yB 0 = .ok (.aload_n 0, 1) := by decide +kernel
theorem d1 : decode yB 1 = .ok (.invokespecial 1, 3) := by decide +kernel
theorem d4 : decode yB 4 = .ok (.iload_n 3, 1) := by decide +kernel
theorem d5 : decode yB 5 = .ok (.ifCond (.ne) 22, 3) := by decide +kernel
theorem d27 : decode yB 27 = .ok (.getstatic 38, 3) := by decide +kernel
theorem d30 : decode yB 30 = .ok (.ifCond (.eq) 28, 3) := by decide +kernel
theorem d33 : decode yB 33 = .ok (.aload_n 1, 1) := by decide +kernel
theorem d34 : decode yB 34 = .ok (.iload_n 2, 1) := by decide +kernel
theorem d35 : decode yB 35 = .ok (.iload_n 3, 1) := by decide +kernel
theorem d36 : decode yB 36 = .ok (.invokestatic 177, 3) := by decide +kernel
theorem d39 : decode yB 39 = .ok (.astore 5, 2) := by decide +kernel
theorem d41 : decode yB 41 = .ok (.aload_n 0, 1) := by decide +kernel
theorem d42 : decode yB 42 = .ok (.aload 5, 2) := by decide +kernel
theorem d44 : decode yB 44 = .ok (.iload_n 3, 1) := by decide +kernel
theorem d45 : decode yB 45 = .ok (.invokestatic 47, 3) := by decide +kernel
theorem d48 : decode yB 48 = .ok (.putfield 15, 3) := by decide +kernel
theorem d51 : decode yB 51 = .ok (.aload_n 0, 1) := by decide +kernel
theorem d52 : decode yB 52 = .ok (.aload 5, 2) := by decide +kernel
theorem d54 : decode yB 54 = .ok (.putfield 9, 3) := by decide +kernel
theorem d57 : decode yB 57 = .ok (.return_, 1) := by decide +kernel
def site : List Cond := [.fieldLink "java/lang/String" 38 "java/lang/String" "COMPACT_STRINGS" "Z", Cmp3.tab, CodL.tab, .laysFinal "java/lang/String" "java/lang/String" "value" "[B", .fieldLink "java/lang/String" 9 "java/lang/String" "value" "[B", .laysFinal "java/lang/String" "java/lang/String" "coder" "B", .fieldLink "java/lang/String" 15 "java/lang/String" "coder" "B"] ++ objW "java/lang/String" 1 ++ staticW "java/lang/String" 177 Cmp3.yN ++ staticW "java/lang/String" 47 CodL.yN
def tab : Cond := tabOf yN yB 6 none site
def P (a : Addr) (D : Cell) (fV fC : Field) (b : Addr) (A : Cell) (z : Int32) (o len : Nat) (args : Array Value) (s : State) : Prop := args = #[.ref a, .ref b, .int (Int32.ofNat o), .int (Int32.ofNat len), .null] ∧ Blank "java/lang/String" a D s ∧ Found "java/lang/String" "value" "[B" fV s ∧ Found "java/lang/String" "coder" "B" fC s ∧ Ch b A s ∧ StaticIs s "java/lang/String" "COMPACT_STRINGS" "Z" (.int z) ∧ ¬ z = 0 ∧ 0 < len ∧ o + len ≤ A.slots.size ∧ len ≤ 536870912 ∧ ∀ i, i < len → ¬ 255 < cv A (o + i)
def E (a : Addr) (D : Cell) (fV fC : Field) (A : Cell) (o len : Nat) (r : Option Value) (s u : State) : Prop := Got a D fV fC A o len r s u
/-- len > 0, no char of the range above 255: a Latin-1 String of their low bytes -/
theorem law (l : Launch) (a : Addr) (D : Cell) (fV fC : Field) (b : Addr) (A : Cell) (z : Int32) (o len : Nat) : Law l yN 5 4 2 35 yB 6 none site (P a D fV fC b A z o len) (E a D fV fC A o len) [⟨a, fC.slot⟩, ⟨a, fV.slot⟩] 1 len := by
  refine Law.of_walk (plainFor_of_name (by decide +kernel)) (by decide +kernel) (by decide +kernel) (by decide) (fun _ _ h => by rw [h.1]; rfl) (fun _ U U' hal hh h => ⟨h.1, h.2.1.mv hal hh, h.2.2.1.al hal, h.2.2.2.1.al hal, h.2.2.2.2.1.mv hal hh, h.2.2.2.2.2.1.there hal hh, h.2.2.2.2.2.2⟩) (fun r U U' V V' h1 hal h2 h => Got.mv r U U' V V' h1 hal h2 h) ?_
  intro p e s m args below meth c s₁ X0 hexec hbytes hml hret hlk hnm hown hh0 W hP
  obtain ⟨rfl, hB, f1, f2, hA, s1, hz, l0, l1, l2, hp⟩ := hP
  have a31 := hA.1.2.2.2
  have c1 : Steps p.tables e below (s₁.setTop (entryFrame m #[.ref a, .ref b, .int (Int32.ofNat o), .int (Int32.ofNat len), .null] 6)) (s₁.setTop (mkF m 0 #[.val (.ref a), .val (.ref b), .val (.int (Int32.ofNat o)), .val (.int (Int32.ofNat len)), .val .null, .unset] [])) := entry rfl
  have c2 : Steps p.tables e below (s₁.setTop (entryFrame m #[.ref a, .ref b, .int (Int32.ofNat o), .int (Int32.ofNat len), .null] 6)) (s₁.setTop (mkF m 1 #[.val (.ref a), .val (.ref b), .val (.int (Int32.ofNat o)), .val (.int (Int32.ofNat len)), .val .null, .unset] [.ref a])) := c1.trans (by
    refine XS.aloadN X0.here hexec rfl (hb hbytes d0) rfl rfl ?_
    exact Steps.refl _)
  obtain ⟨T3, X3, q3, st3⟩ := X0.oinit hexec hown (wks W (objW "java/lang/String" 1)) (g := (mkF m 1 #[.val (.ref a), .val (.ref b), .val (.int (Int32.ofNat o)), .val (.int (Int32.ofNat len)), .val .null, .unset] [.ref a])) rfl (by rw [hml]; rfl) (rest := []) rfl (hb hbytes d1) (W := 0) (by show 2 * 0 + 0 ≤ _; decide) (Nat.le_of_ble_eq_true rfl) (Nat.le_of_ble_eq_true rfl)
  have hh3 := q3.trans hh0
  have c4 : Steps p.tables e below (s₁.setTop (entryFrame m #[.ref a, .ref b, .int (Int32.ofNat o), .int (Int32.ofNat len), .null] 6)) (T3.setTop (mkF m 27 #[.val (.ref a), .val (.ref b), .val (.int (Int32.ofNat o)), .val (.int (Int32.ofNat len)), .val .null, .unset] [])) := (c2.trans (st3 _ (Steps.refl _))).trans (by
    refine XS.iloadN X3.here hexec rfl (hb hbytes d4) rfl ?_
    refine XS.ifYes X3.here hexec rfl (pc0 := 5) rfl (hb hbytes d5) rfl (i0_ne_t (nz32 (by omega) l0)) (by decide) rfl ?_
    exact Steps.refl _)
  obtain ⟨T5, X5, q5, st5⟩ := X3.sget hexec hown (wk W (.fieldLink "java/lang/String" 38 "java/lang/String" "COMPACT_STRINGS" "Z")) s1 (fun _ _ h => by rw [hh3]; exact h) (g := (mkF m 27 #[.val (.ref a), .val (.ref b), .val (.int (Int32.ofNat o)), .val (.int (Int32.ofNat len)), .val .null, .unset] [])) rfl (hb hbytes d27)
  have hh5 := q5.trans hh3
  have c6 : Steps p.tables e below (s₁.setTop (entryFrame m #[.ref a, .ref b, .int (Int32.ofNat o), .int (Int32.ofNat len), .null] 6)) (T5.setTop (mkF m 30 #[.val (.ref a), .val (.ref b), .val (.int (Int32.ofNat o)), .val (.int (Int32.ofNat len)), .val .null, .unset] [.int z])) := c4.trans (st5 _ (Steps.refl _))
  have c7 : Steps p.tables e below (s₁.setTop (entryFrame m #[.ref a, .ref b, .int (Int32.ofNat o), .int (Int32.ofNat len), .null] 6)) (T5.setTop (mkF m 36 #[.val (.ref a), .val (.ref b), .val (.int (Int32.ofNat o)), .val (.int (Int32.ofNat len)), .val .null, .unset] [.int (Int32.ofNat len), .int (Int32.ofNat o), .ref b])) := c6.trans (by
    refine XS.ifNo X5.here hexec rfl (hb hbytes d30) rfl (i0_eq_f hz) ?_
    refine XS.aloadN X5.here hexec rfl (hb hbytes d33) rfl rfl ?_
    refine XS.iloadN X5.here hexec rfl (hb hbytes d34) rfl ?_
    refine XS.iloadN X5.here hexec rfl (hb hbytes d35) rfl ?_
    exact Steps.refl _)
  obtain ⟨v8, T8, X8, E8, g8⟩ := X5.callS hexec (Cmp3.law l b A o len) hown (wks W (staticW "java/lang/String" 177 Cmp3.yN)) (wk W Cmp3.tab) (W := 0) (Nat.le_of_ble_eq_true rfl) (Nat.le_of_ble_eq_true rfl) (Nat.le_refl _) (by show 0 + len ≤ len; omega) (g := (mkF m 36 #[.val (.ref a), .val (.ref b), .val (.int (Int32.ofNat o)), .val (.int (Int32.ofNat len)), .val .null, .unset] [.int (Int32.ofNat len), .int (Int32.ofNat o), .ref b])) rfl (by rw [hml]; rfl) c7 (argsL := [.ref b, .int (Int32.ofNat o), .int (Int32.ofNat len)]) (rest := []) rfl rfl (by show 2 * 0 + 0 ≤ _; decide) (hb hbytes d36) (⟨rfl, hA.mv X5.warmed.alike hh5, l1, l2, hp⟩)
  obtain ⟨e8, z8⟩ := E8
  obtain ⟨rfl, N, n1, n2, n3, n4, n5, n6⟩ := NewArr.mv _ T5 s _ _ hh5.symm (Vm.Alike.refl _) rfl e8
  rw [hh5] at z8
  have hB1 := hB.keep X8.warmed.alike (n6 _ _ hB.1)
  have hne : s.heap.size ≠ a := (Nat.ne_of_lt (Array.getElem?_eq_some_iff.mp hB.1).1).symm
  have c9 : Steps p.tables e below (s₁.setTop (entryFrame m #[.ref a, .ref b, .int (Int32.ofNat o), .int (Int32.ofNat len), .null] 6)) (T8.setTop (mkF m 39 #[.val (.ref a), .val (.ref b), .val (.int (Int32.ofNat o)), .val (.int (Int32.ofNat len)), .val .null, .unset] [.ref s.heap.size])) := g8
  have c10 : Steps p.tables e below (s₁.setTop (entryFrame m #[.ref a, .ref b, .int (Int32.ofNat o), .int (Int32.ofNat len), .null] 6)) (T8.setTop (mkF m 45 #[.val (.ref a), .val (.ref b), .val (.int (Int32.ofNat o)), .val (.int (Int32.ofNat len)), .val .null, .val (.ref s.heap.size)] [.int (Int32.ofNat N.slots.size), .ref s.heap.size, .ref a])) := by
    have hc : Steps p.tables e below (s₁.setTop (entryFrame m #[.ref a, .ref b, .int (Int32.ofNat o), .int (Int32.ofNat len), .null] 6)) (T8.setTop (mkF m 45 #[.val (.ref a), .val (.ref b), .val (.int (Int32.ofNat o)), .val (.int (Int32.ofNat len)), .val .null, .val (.ref s.heap.size)] [.int (Int32.ofNat len), .ref s.heap.size, .ref a])) := c9.trans (by
      refine XS.astore X8.here hexec rfl (hb hbytes d39) rfl rfl rfl ?_
      refine XS.aloadN X8.here hexec rfl (hb hbytes d41) rfl rfl ?_
      refine XS.aload X8.here hexec rfl (hb hbytes d42) rfl rfl ?_
      refine XS.iloadN X8.here hexec rfl (hb hbytes d44) rfl ?_
      exact Steps.refl _)
    rw [n4]; exact hc
  obtain ⟨v11, T11, X11, E11, g11⟩ := X8.callS hexec (CodL.law l s.heap.size N) hown (wks W (staticW "java/lang/String" 47 CodL.yN)) (wk W CodL.tab) (W := 1) (Nat.le_of_ble_eq_true rfl) (Nat.le_of_ble_eq_true rfl) (Nat.le_refl _) (by show 0 + len + 0 ≤ len; omega) (g := (mkF m 45 #[.val (.ref a), .val (.ref b), .val (.int (Int32.ofNat o)), .val (.int (Int32.ofNat len)), .val .null, .val (.ref s.heap.size)] [.int (Int32.ofNat N.slots.size), .ref s.heap.size, .ref a])) rfl (by rw [hml]; rfl) c10 (argsL := [.ref s.heap.size, .int (Int32.ofNat N.slots.size)]) (rest := [.ref a]) rfl rfl (by show 2 * 0 + (1 + 0) ≤ _; decide) (hb hbytes d45) (⟨rfl, n1⟩)
  obtain ⟨rfl, q11⟩ := E11
  have hB11 := hB1.mv (X8.warmed.alike.symm.trans X11.warmed.alike) q11
  have c12 : Steps p.tables e below (s₁.setTop (entryFrame m #[.ref a, .ref b, .int (Int32.ofNat o), .int (Int32.ofNat len), .null] 6)) (T11.setTop (mkF m 48 #[.val (.ref a), .val (.ref b), .val (.int (Int32.ofNat o)), .val (.int (Int32.ofNat len)), .val .null, .val (.ref s.heap.size)] [.int 0, .ref a])) := g11
  obtain ⟨T13, X13, p13, bl13, sl13, st13⟩ := X11.finit hexec hown (wk W (.fieldLink "java/lang/String" 15 "java/lang/String" "coder" "B")) (Or.inr ⟨_, (wk W (.laysFinal "java/lang/String" "java/lang/String" "coder" "B"))⟩) (Or.inl ⟨rfl, hnm⟩) f2 (Or.inl rfl) hB11 (t := .byte) (by decide +kernel) rfl (g := (mkF m 48 #[.val (.ref a), .val (.ref b), .val (.int (Int32.ofNat o)), .val (.int (Int32.ofNat len)), .val .null, .val (.ref s.heap.size)] [.int 0, .ref a])) rfl (rest := []) rfl (hb hbytes d48)
  have c14 : Steps p.tables e below (s₁.setTop (entryFrame m #[.ref a, .ref b, .int (Int32.ofNat o), .int (Int32.ofNat len), .null] 6)) (T13.setTop (mkF m 54 #[.val (.ref a), .val (.ref b), .val (.int (Int32.ofNat o)), .val (.int (Int32.ofNat len)), .val .null, .val (.ref s.heap.size)] [.ref s.heap.size, .ref a])) := (c12.trans (st13 _ (Steps.refl _))).trans (by
    refine XS.aloadN X13.here hexec rfl (hb hbytes d51) rfl rfl ?_
    refine XS.aload X13.here hexec rfl (hb hbytes d52) rfl rfl ?_
    exact Steps.refl _)
  obtain ⟨T15, X15, p15, bl15, sl15, st15⟩ := X13.finit hexec hown (wk W (.fieldLink "java/lang/String" 9 "java/lang/String" "value" "[B")) (Or.inr ⟨_, (wk W (.laysFinal "java/lang/String" "java/lang/String" "value" "[B"))⟩) (Or.inl ⟨rfl, hnm⟩) f1 (Or.inl rfl) bl13 (t := (.array .byte)) (by decide +kernel) rfl (g := (mkF m 54 #[.val (.ref a), .val (.ref b), .val (.int (Int32.ofNat o)), .val (.int (Int32.ofNat len)), .val .null, .val (.ref s.heap.size)] [.ref s.heap.size, .ref a])) rfl (rest := []) rfl (hb hbytes d54)
  have c16 : Steps p.tables e below (s₁.setTop (entryFrame m #[.ref a, .ref b, .int (Int32.ofNat o), .int (Int32.ofNat len), .null] 6)) (T15.setTop (mkF m 57 #[.val (.ref a), .val (.ref b), .val (.int (Int32.ofNat o)), .val (.int (Int32.ofNat len)), .val .null, .val (.ref s.heap.size)] [])) := c14.trans (st15 _ (Steps.refl _))
  have ap := apart (Or.inr ⟨_, (wk W (.laysFinal "java/lang/String" "java/lang/String" "value" "[B"))⟩) (Or.inr ⟨_, (wk W (.laysFinal "java/lang/String" "java/lang/String" "coder" "B"))⟩) f1 f2 (t₁ := .array .byte) (t₂ := .byte) (by decide +kernel) (by decide +kernel) (by decide)
  have al := X8.warmed.alike.symm.trans X15.warmed.alike
  have n7 : T11.heap[s.heap.size]? = some N := by rw [q11]; exact n1.1
  exact ⟨T15, none, _, _, _, X15, by simp, rfl, by omega, (fun _ => rfl), ⟨rfl, _, N, bl15, ((Same.refl D _).set _ (by simp)).set _ (by simp), sl15, (Cell.slots_setSlot_ne _ ap).trans sl13, n1.keep al (p15.other hne (p13.other hne n7)), n2, by rw [al.findClass]; exact n3, n4, n5, fun y c h1 h2 => p15.other h1 (p13.other h1 (by rw [q11]; exact n6 y c h2)), by rw [p15.2.2, p13.2.2, q11]; exact z8⟩, fun fs hl => c16.trans (X15.returnOut hexec hret (hb hbytes d57) hl)⟩
end New4
namespace New1
def yN : MethodName := ⟨"java/lang/String", "<init>", "([C)V"⟩
abbrev yB : ByteArray := jdk_42_method_3_code
theorem d0 : decode yB 0 = .ok (.aload_n 0, 1) := by decide +kernel
theorem d1 : decode yB 1 = .ok (.aload_n 1, 1) := by decide +kernel
theorem d2 : decode yB 2 = .ok (.iconst 0, 1) := by decide +kernel
theorem d3 : decode yB 3 = .ok (.aload_n 1, 1) := by decide +kernel
theorem d4 : decode yB 4 = .ok (.arraylength, 1) := by decide +kernel
theorem d5 : decode yB 5 = .ok (.aconst_null, 1) := by decide +kernel
theorem d6 : decode yB 6 = .ok (.invokespecial 27, 3) := by decide +kernel
theorem d9 : decode yB 9 = .ok (.return_, 1) := by decide +kernel
def site : List Cond := [New4.tab] ++ initW "java/lang/String" 27 New4.yN
def tab : Cond := tabOf yN yB 2 none site
def P (a : Addr) (D : Cell) (fV fC : Field) (b : Addr) (A : Cell) (z : Int32) (args : Array Value) (s : State) : Prop := args = #[.ref a, .ref b] ∧ Blank "java/lang/String" a D s ∧ Found "java/lang/String" "value" "[B" fV s ∧ Found "java/lang/String" "coder" "B" fC s ∧ Ch b A s ∧ StaticIs s "java/lang/String" "COMPACT_STRINGS" "Z" (.int z) ∧ ¬ z = 0 ∧ 0 < A.slots.size ∧ A.slots.size ≤ 536870912 ∧ ∀ i, i < A.slots.size → ¬ 255 < cv A i
def E (a : Addr) (D : Cell) (fV fC : Field) (A : Cell) (r : Option Value) (s u : State) : Prop := Got a D fV fC A 0 A.slots.size r s u
/-- new String(chars), not empty, no char above 255: a Latin-1 String of their low bytes -/
theorem law (l : Launch) (a : Addr) (D : Cell) (fV fC : Field) (b : Addr) (A : Cell) (z : Int32) : Law l yN 2 1 3 52 yB 2 none site (P a D fV fC b A z) (E a D fV fC A) [⟨a, fC.slot⟩, ⟨a, fV.slot⟩] 1 A.slots.size := by
  refine Law.of_walk (plainFor_of_name (by decide +kernel)) (by decide +kernel) (by decide +kernel) (by decide) (fun _ _ h => by rw [h.1]; rfl) (fun _ U U' hal hh h => ⟨h.1, h.2.1.mv hal hh, h.2.2.1.al hal, h.2.2.2.1.al hal, h.2.2.2.2.1.mv hal hh, h.2.2.2.2.2.1.there hal hh, h.2.2.2.2.2.2⟩) (fun r U U' V V' h1 hal h2 h => Got.mv r U U' V V' h1 hal h2 h) ?_
  intro p e s m args below meth c s₁ X0 hexec hbytes hml hret hlk hnm hown hh0 W hP
  obtain ⟨rfl, hB, f1, f2, hA, s1, hz, l0, l2, hp⟩ := hP
  have c1 : Steps p.tables e below (s₁.setTop (entryFrame m #[.ref a, .ref b] 2)) (s₁.setTop (mkF m 0 #[.val (.ref a), .val (.ref b)] [])) := entry rfl
  have c2 : Steps p.tables e below (s₁.setTop (entryFrame m #[.ref a, .ref b] 2)) (s₁.setTop (mkF m 6 #[.val (.ref a), .val (.ref b)] [.null, .int (Int32.ofNat A.slots.size), .int 0, .ref b, .ref a])) := c1.trans (by
    refine XS.aloadN X0.here hexec rfl (hb hbytes d0) rfl rfl ?_
    refine XS.aloadN X0.here hexec rfl (hb hbytes d1) rfl rfl ?_
    refine iconstV X0.here hexec rfl 0 (hb hbytes d2) (by decide) ?_
    refine XS.aloadN X0.here hexec rfl (hb hbytes d3) rfl rfl ?_
    refine X0.alen hexec (hA.1.mv X0.warmed.alike hh0) rfl rfl (hb hbytes d4) ?_
    refine XS.aconstNull X0.here hexec rfl (hb hbytes d5) ?_
    exact Steps.refl _)
  obtain ⟨v3, T3, X3, E3, g3⟩ := X0.callN hexec (New4.law l a D fV fC b A z 0 A.slots.size) rfl hown (wks W (initW "java/lang/String" 27 New4.yN)) (W New4.tab (by simp only [site, List.mem_cons, List.mem_append, true_or, or_true])) (W := 0) (Nat.le_of_ble_eq_true rfl) (Nat.le_of_ble_eq_true rfl) (Nat.le_refl _) (by show 0 + A.slots.size ≤ A.slots.size; omega) (g := (mkF m 6 #[.val (.ref a), .val (.ref b)] [.null, .int (Int32.ofNat A.slots.size), .int (Int32.ofNat 0), .ref b, .ref a])) rfl (by rw [hml]; rfl) c2 (argsL := [.ref b, .int (Int32.ofNat 0), .int (Int32.ofNat A.slots.size), .null]) (rest := []) rfl rfl (by show 2 * 0 + 0 ≤ _; decide) (hb hbytes d6) (⟨rfl, hB.mv X0.warmed.alike hh0, f1.al X0.warmed.alike, f2.al X0.warmed.alike, hA.mv X0.warmed.alike hh0, s1.there X0.warmed.alike hh0, hz, l0, by omega, l2, fun i hi => by rw [Nat.zero_add]; exact hp i hi⟩)
  have e0 := Got.mv _ s₁ s _ _ hh0.symm (Vm.Alike.refl _) rfl E3
  obtain rfl := e0.1
  have c4 : Steps p.tables e below (s₁.setTop (entryFrame m #[.ref a, .ref b] 2)) (T3.setTop (mkF m 9 #[.val (.ref a), .val (.ref b)] [])) := g3
  exact ⟨T3, none, _, _, _, X3, by simp, rfl, by omega, (fun _ => rfl), e0, fun fs hl => c4.trans (X3.returnOut hexec hret (hb hbytes d9) hl)⟩
theorem pays {l : Launch} {R : Room} {p : Program} {e : Env} {below : List Frame} {s : State} {sargs : Array Value} {len W : Nat} (a : Addr) (D : Cell) (fV fC : Field) (b : Addr) (A : Cell) (z : Int32) (htab : tab.before sargs s = true) (hfr : 4 ≤ R.frames) (hlo : W + 65 ≤ R.locals) :
    Back l R p e below s sargs yN len W (fun A₁ a₁ => A₁.cells + 1 ≤ R.cells ∧ A₁.slots + A.slots.size ≤ R.slots ∧ P a D fV fC b A z a₁ A₁.U) (fun A₁ _ v₁ B₁ => E a D fV fC A v₁ A₁.U B₁.U ∧ B₁.locs = A₁.locs ++ [⟨a, fC.slot⟩, ⟨a, fV.slot⟩] ∧ B₁.cells = A₁.cells + 1 ∧ B₁.slots = A₁.slots + A.slots.size) :=
  (law l a D fV fC b A z).pays htab hfr (by omega)
end New1
end StrChars
namespace StrChars.Road
open Jvm Sem ClassFile Op Lib Jvm.Stand Jvm.Free Jvm.Free.XT
open Jvm.Lib.Cold (StaticIs)
abbrev ST : String := "java/lang/String"
/-- every table word that New1's law asks, flat -/
abbrev words : List Jvm.Cond := [.code New1.yN New1.yB 2 none, .initialized ST, .methodLink ST 27 New4.yN, .instanceMethod New4.yN,
  .code New4.yN New4.yB 6 none, .fieldLink ST 38 ST "COMPACT_STRINGS" "Z", .laysFinal ST ST "value" "[B", .fieldLink ST 9 ST "value" "[B", .laysFinal ST ST "coder" "B", .fieldLink ST 15 ST "coder" "B",
  .methodLink ST 1 Lib.objectInit, .instanceMethod Lib.objectInit, .code Lib.objectInit ⟨#[0xb1]⟩ 1 none, .methodLink ST 177 Cmp3.yN, .static Cmp3.yN, .methodLink ST 47 CodL.yN, .static CodL.yN,
  .code Cmp3.yN Cmp3.yB 6 (some (.array .byte)), .initialized U16, .arrayClass .byte, .methodLink U16 115 Cmp5.yN, .static Cmp5.yN, .code Cmp5.yN Cmp5.yB 7 (some .int), .code CodL.yN CodL.yB 2 (some .byte)]
theorem tab_of {a : Array Value} {s : State} (h : ∀ w ∈ words, w.before a s = true) : New1.tab.before a s = true := by
  have h5 : Cmp5.tab.before a s = true := unparts (wk h (.code Cmp5.yN Cmp5.yB 7 (some .int))) (wks h (.initialized Cmp5.yN.cls :: Cmp5.site))
  have hc : CodL.tab.before a s = true := unparts (wk h (.code CodL.yN CodL.yB 2 (some .byte))) (wks h (.initialized CodL.yN.cls :: CodL.site))
  have q5 : ∀ w ∈ Cmp5.tab :: words, w.before a s = true := fun w hw => (List.mem_cons.mp hw).elim (fun e => e ▸ h5) (h w)
  have h3 : Cmp3.tab.before a s = true := unparts (wk q5 (.code Cmp3.yN Cmp3.yB 6 (some (.array .byte)))) (wks q5 (.initialized Cmp3.yN.cls :: Cmp3.site))
  have q3 : ∀ w ∈ Cmp3.tab :: CodL.tab :: words, w.before a s = true := fun w hw => (List.mem_cons.mp hw).elim (fun e => e ▸ h3) fun hw => (List.mem_cons.mp hw).elim (fun e => e ▸ hc) (h w)
  have h4 : New4.tab.before a s = true := unparts (wk q3 (.code New4.yN New4.yB 6 none)) (wks q3 (.initialized New4.yN.cls :: New4.site))
  have q4 : ∀ w ∈ New4.tab :: words, w.before a s = true := fun w hw => (List.mem_cons.mp hw).elim (fun e => e ▸ h4) (h w)
  exact unparts (wk q4 (.code New1.yN New1.yB 2 none)) (wks q4 (.initialized New1.yN.cls :: New1.site))
/-- the words ride from the start Z to the walk's own state -/
theorem moved {Z s : State} {a0 args : Array Value} (hZ : Z.Warmed39 s.vm) (hw : ∀ d ∈ words, d.before a0 Z = true) : ∀ d ∈ words, d.before args s = true := fun d hd => by
  have q := hw d hd
  have t : ∀ d ∈ words, d = .arrayClass .byte ∨ (d.onTables && d.keepsFace) = true := by decide +kernel
  rcases t d hd with rfl | t
  · exact RoadKit.mvA hZ q
  · exact RoadKit.mv hZ q t
/-- WHAT COMES BACK, over the tables of the start Z: h the heap at the call, h' behind it -/
def Q (Z : State) (x : Addr) (A : Cell) (h : Heap) (v : Option Value) (h' : Heap) (L : List Loc) : Prop := v = none ∧ (∀ y ∈ L, y.base = x) ∧ RoadKit.Keep h h' [x] ∧ h'.size = h.size + 1 ∧ RoadKit.Exa Z h' x ST ∧ RoadKit.Fld Z h' x ST "value" "[B" (.ref h.size) ∧ RoadKit.Fld Z h' x ST "coder" "B" (.int 0) ∧
  (∃ V : Cell, RoadKit.Arr Z h' h.size V .byte ∧ V.vm = .none ∧ Z.vm.findClass "[B" = some V.cls ∧ V.slots.size = A.slots.size ∧ ∀ j, j < A.slots.size → V.slots[j]? = some (.int (lo8 (cv A j)))) ∧
  ∀ (O n d : String) (w : Value), RoadKit.Fld Z h x O n d w → RoadKit.slotOf Z O n d ≠ RoadKit.slotOf Z ST "value" "[B" → RoadKit.slotOf Z O n d ≠ RoadKit.slotOf Z ST "coder" "B" → RoadKit.Fld Z h' x O n d w
/-- **new String(chars) AT A CALL, IN THE ROAD'S FORM**: for specialBack behind newO: x the fresh String, b the char[] with the cell A -/
theorem back {p : Program} {l : Launch} {e : Env} {R : Room} {s : State} {args : Array Value} {below : List Frame} {len W : Nat} {Z : State} {a0 : Array Value} {h : Heap} (hZ : Z.Warmed39 s.vm) (hw : ∀ d ∈ words, d.before a0 Z = true) {kI : Nat} (wi : (Jvm.Cond.instantiable ST kI).before a0 Z = true)
    {x b : Addr} {A : Cell} {z : Int32} {v0 c0 : Value} (E : RoadKit.Exa Z h x ST) (V : RoadKit.Fld Z h x ST "value" "[B" v0) (C : RoadKit.Fld Z h x ST "coder" "B" c0) (K : RoadKit.Arr Z h b A .char) (hty : Typed .char A) (S : RoadKit.Sta Z h ST "COMPACT_STRINGS" "Z" (.int z)) (hz : ¬ z = 0)
    (l0 : 0 < A.slots.size) (l2 : A.slots.size ≤ 536870912) (hp : ∀ i, i < A.slots.size → ¬ 255 < cv A i) (hfr : 4 ≤ R.frames) (hlo : W + 65 ≤ R.locals) :
    Back l R p e below s args New1.yN len W (fun P a => a = #[.ref x, .ref b] ∧ P.U.heap = h ∧ P.cells + 1 ≤ R.cells ∧ P.slots + A.slots.size ≤ R.slots)
      (fun P _ v B => ∃ L, Q Z x A h v B.U.heap L ∧ B.locs = P.locs ++ L ∧ B.cells = P.cells + 1 ∧ B.slots = P.slots + A.slots.size) := by
  intro m meth c P g ig mk a X hg hsize hdg hW hn hp'
  obtain ⟨rfl, rfl, r1, r2⟩ := hp'
  have al : Z.vm.Alike P.U.vm := hZ.alike.trans X.warmed.alike
  obtain ⟨D, cfV, kV, iV, fV, hD, gV, stV, knV, obV, asV, slV⟩ := id V
  obtain ⟨D', cfC, kC, iC, fC, hD', gC, stC, -, -, asC, slC⟩ := id C
  cases hD.symm.trans hD'
  obtain ⟨D2, kD, e1, e2, e3, e4, e5⟩ := id E
  cases hD.symm.trans e1
  obtain ⟨c2, k2, i1, i2, i3, -⟩ := Cond.instantiable_spec wi
  cases e2.symm.trans i1
  cases e3.symm.trans i2
  obtain ⟨kU, u1, u2⟩ := al.2.2 _ _ e3
  have hB : Blank ST x D P.U := ⟨hD, ⟨knV, fun q hq => by rw [hq] at obV; cases obV⟩, by rw [al.findClass]; exact e2, kU, u1, by rw [u2]; exact i3, by rw [u2]; exact e5 i3⟩
  have F1 : Found ST "value" "[B" fV P.U := ⟨SBG.found_only al ⟨cfV, kV, iV, gV⟩, stV⟩
  have F2 : Found ST "coder" "B" fC P.U := ⟨SBG.found_only al ⟨cfC, kC, iC, gC⟩, stC⟩
  have hA : Ch b A P.U := ⟨⟨K.1, State.isArrayOf_alike al K.2.1, K.2.2, by omega⟩, hty⟩
  have hS : StaticIs P.U ST "COMPACT_STRINGS" "Z" (.int z) := by
    obtain ⟨cfS, iS, kS, fS, st, cS, t1, t2, t3, t4, t5, t6, t7⟩ := S
    exact StaticIs.there (s := { Z with heap := P.U.heap }) ⟨cfS, iS, kS, fS, st, cS, t1, t2, t3, t4, t5, (fun q => by rw [q] at t6; cases t6), t7⟩ al rfl
  obtain ⟨v, B, X', ⟨⟨hv, E', V', q1, q2, q3, q4, q5, q6, q7, q8, q9, q10, q11⟩, hl, hc, hs⟩, st⟩ := New1.pays x D fV fC b A z (tab_of (moved hZ hw)) hfr hlo m meth c P g ig mk _ X hg hsize hdg hW hn ⟨r1, r2, rfl, hB, F1, F2, hA, hS, hz, l0, l2, hp⟩
  have al' : Z.vm.Alike B.U.vm := hZ.alike.trans X'.warmed.alike
  have hsz : E'.slots.size = D.slots.size := by
    obtain ⟨-, -, -, kB, w1, w2, w3⟩ := q1
    obtain ⟨kB', y1, y2⟩ := al'.2.2 _ _ e3
    rw [q2.2.1] at w1
    cases w1.symm.trans y1
    rw [w3, e5 i3, y2]
  refine ⟨v, B, X', ⟨_, ⟨hv, ?_, ⟨by omega, fun y cy hy hn' => q10 y cy (by simpa using hn') hy, fun y cy hy => ?_⟩, q11, ⟨E', _, q1.1, by rw [q2.2.1]; exact e2, by rw [q2.2.1]; exact e3, by rw [q2.1]; exact obV, fun _ => by rw [hsz]; exact e5 i3⟩,
    ⟨E', cfV, kV, iV, fV, q1.1, gV, stV, by rw [q2.1]; exact knV, by rw [q2.1]; exact obV, by rw [q2.2.1]; exact asV, q3⟩, ⟨E', cfC, kC, iC, fC, q1.1, gC, stC, by rw [q2.1]; exact knV, by rw [q2.1]; exact obV, by rw [q2.2.1]; exact asC, q4⟩,
    ⟨V', ⟨q5.1, State.isArrayOf_alike al'.symm q5.2.1, q5.2.2.1⟩, q6, by rw [← al'.findClass]; exact q7, q8, fun j hj => by have := q9 j hj; rwa [Nat.zero_add] at this⟩, fun O n d w F n1 n2 => ?_⟩, hl, hc, hs⟩, st⟩
  · intro y hy
    simp only [List.mem_cons, List.not_mem_nil, or_false] at hy
    rcases hy with rfl | rfl <;> rfl
  · by_cases q : y = x
    · subst q
      cases hD.symm.trans hy
      exact ⟨E', q1.1, q2.2.1, q2.1, hsz⟩
    · exact ⟨cy, q10 y cy q hy, rfl, rfl, rfl⟩
  · obtain ⟨D3, cf, k, i, f, g1, g2, g3, g4, g5, g6, g7⟩ := F
    cases hD.symm.trans g1
    simp only [RoadKit.slotOf, g2, gV, gC, Option.map_some, Option.getD_some] at n1 n2
    exact ⟨E', cf, k, i, f, q1.1, g2, g3, by rw [q2.1]; exact g4, by rw [q2.1]; exact g5, by rw [q2.2.1]; exact g6, by rw [q2.2.2 f.slot (by simp [n1, n2])]; exact g7⟩
end StrChars.Road
namespace StrChars.Road
open Jvm Sem ClassFile Op Lib Jvm.Stand Jvm.Free Jvm.Free.XT
/-- WHAT COMES BACK, the byte[] as a list of values -/
def QA (Z : State) (x : Addr) (zn : Int32) (cs : List Int32) (h : Heap) (v : Option Value) (h' : Heap) (L : List Loc) : Prop := v = none ∧ (∀ y ∈ L, y.base = x) ∧ RoadKit.Keep h h' [x] ∧ h'.size = h.size + 1 ∧ RoadKit.Exa Z h' x ST ∧ RoadKit.Fld Z h' x ST "value" "[B" (.ref h.size) ∧ RoadKit.Fld Z h' x ST "coder" "B" (.int 0) ∧
  (∃ kb, Z.vm.findClass "[B" = some kb ∧ RoadKit.Arv Z h' h.size kb .byte zn (cs.map fun c => .int (lo8 c)) (.int 0)) ∧
  ∀ (O n d : String) (w : Value), RoadKit.Fld Z h x O n d w → RoadKit.slotOf Z O n d ≠ RoadKit.slotOf Z ST "value" "[B" → RoadKit.slotOf Z O n d ≠ RoadKit.slotOf Z ST "coder" "B" → RoadKit.Fld Z h' x O n d w
/-- **new String(chars) AT A CALL, THE ARRAYS AS LISTS**: the char[] at b holds cs, not empty, no char above 255 -/
theorem backArv {p : Program} {l : Launch} {e : Env} {R : Room} {s : State} {args : Array Value} {below : List Frame} {len W : Nat} {Z : State} {a0 : Array Value} {h : Heap} (hZ : Z.Warmed39 s.vm) (hw : ∀ d ∈ words, d.before a0 Z = true) {kI : Nat} (wi : (Jvm.Cond.instantiable ST kI).before a0 Z = true)
    {x b : Addr} {k : ClassId} {zn z : Int32} {cs : List Int32} {dv v0 c0 : Value} (E : RoadKit.Exa Z h x ST) (V : RoadKit.Fld Z h x ST "value" "[B" v0) (C : RoadKit.Fld Z h x ST "coder" "B" c0) (K : RoadKit.Arv Z h b k .char zn (cs.map Value.int) dv) (S : RoadKit.Sta Z h ST "COMPACT_STRINGS" "Z" (.int z)) (hz : ¬ z = 0)
    (hlen : zn.toNatClampNeg = cs.length) (h0 : 0 < cs.length) (hbig : cs.length ≤ 536870912) (hall : ∀ c ∈ cs, ¬ 255 < c) (hfr : 4 ≤ R.frames) (hlo : W + 65 ≤ R.locals) :
    Back l R p e below s args New1.yN len W (fun P a => a = #[.ref x, .ref b] ∧ P.U.heap = h ∧ P.cells + 1 ≤ R.cells ∧ P.slots + cs.length ≤ R.slots)
      (fun P _ v B => ∃ L, QA Z x zn cs h v B.U.heap L ∧ B.locs = P.locs ++ L ∧ B.cells = P.cells + 1 ∧ B.slots = P.slots + cs.length) := by
  obtain ⟨A, K1, K2, K3, K4, K5, K6⟩ := K
  have e : A.slots.size = cs.length := K3.trans hlen
  have hat : ∀ (i : Nat) (hi : i < cs.length), A.slots[i]? = some (.int cs[i]) := fun i hi => by rw [K5 i (by omega)]; simp [List.getD_eq_getElem?_getD, hi]
  have hcv : ∀ (i : Nat) (hi : i < cs.length), cv A i = cs[i] := fun i hi => by unfold cv; rw [hat i hi]
  have hty : Typed .char A := fun i v hv => by
    have hi : i < A.slots.size := (Array.getElem?_eq_some_iff.mp hv).1
    have q := K5 i hi
    rw [hv] at q
    rw [Option.some.inj q]
    exact K6 i hi
  refine Back.mono (back hZ hw wi E V C K1 hty S hz (by omega) (by omega) (fun i hi => by rw [hcv i (by omega)]; exact hall _ (List.getElem_mem _)) hfr hlo) (fun P a hp => ⟨hp.1, hp.2.1, hp.2.2.1, by rw [e]; exact hp.2.2.2⟩) (fun P a v B hp hq => ?_)
  obtain ⟨L, ⟨q1, q2, q3, q4, q5, q6, q7, ⟨V', v1, v2, v3, v4, v5⟩, q9⟩, hl, hc, hs⟩ := hq
  refine ⟨L, ⟨q1, q2, q3, q4, q5, q6, q7, ⟨V'.cls, v3, V', v1, rfl, by rw [v4, e, hlen], K4, fun i hi => ?_, fun i hi => ?_⟩, q9⟩, hl, hc, by rw [hs, e]⟩
  · have hi' : i < cs.length := by omega
    rw [v5 i (by omega), hcv i hi']; simp [List.getD_eq_getElem?_getD, hi']
  · have hi' : i < cs.length := by omega
    simp only [List.getD_eq_getElem?_getD, List.getElem?_map, List.getElem?_eq_getElem hi', Option.map_some, Option.getD_some]
    exact fits_lo8 _
end StrChars.Road
namespace StrChars.Road
open Jvm Sem ClassFile Op Lib Jvm.Stand Jvm.Free Jvm.Free.XT
/-- WHAT COMES BACK, in the writer's own shape -/
def QV (Z : State) (x : Addr) (N : Int32) (bs : List Int32) (h : Heap) (n0 : Nat) (v : Option Value) (h' : Heap) (L : List Loc) : Prop := v = none ∧ RoadKit.Fr n0 L ∧ RoadKit.Keep h h' [x] ∧ RoadKit.Exa Z h' x ST ∧ RoadKit.Fld Z h' x ST "coder" "B" (.int 0) ∧
  ∃ (t : Addr) (kb : ClassId), n0 ≤ t ∧ h.size ≤ t ∧ ¬ t = x ∧ RoadKit.Fld Z h' x ST "value" "[B" (.ref t) ∧ RoadKit.Arv Z h' t kb .byte N (bs.map Value.int) (.int 0)
/-- **new String(chars) AT A CALL, FOR THE WRITER**: a char[] of n known ints, each 0 to 255 -/
theorem backV {p : Program} {l : Launch} {e : Env} {R : Room} {s : State} {args : Array Value} {below : List Frame} {len W : Nat} {Z : State} {a0 : Array Value} {h : Heap} (hZ : Z.Warmed39 s.vm) (hw : ∀ d ∈ words, d.before a0 Z = true) {kI : Nat} (wi : (Jvm.Cond.instantiable ST kI).before a0 Z = true)
    {x b : Addr} {kC : ClassId} {cs bs : List Int32} {d v0 c0 : Value} {z N : Int32} {n n0 : Nat} (hx0 : n0 ≤ x) (hh0 : n0 ≤ h.size) (E : RoadKit.Exa Z h x ST) (V : RoadKit.Fld Z h x ST "value" "[B" v0) (C : RoadKit.Fld Z h x ST "coder" "B" c0) (K : RoadKit.Arv Z h b kC .char N (cs.map Value.int) d) (S : RoadKit.Sta Z h ST "COMPACT_STRINGS" "Z" (.int z)) (hz : ¬ z = 0)
    (hn : cs.length = n) (hN : N = Int32.ofNat n) (l0 : 0 < n) (l2 : n ≤ 4000) (hp : ∀ c ∈ cs, ¬ c < 0 ∧ ¬ (255 : Int32) < c) (hb : bs = cs.map (fun c => c.toInt8.toInt32)) (hfr : 4 ≤ R.frames) (hlo : W + 65 ≤ R.locals) :
    Back l R p e below s args (⟨"java/lang/String", "<init>", "([C)V"⟩ : MethodName) len W (fun P a => a = #[.ref x, .ref b] ∧ P.U.heap = h ∧ P.cells + 1 ≤ R.cells ∧ P.slots + n ≤ R.slots)
      (fun P _ v B => ∃ L, QV Z x N bs h n0 v B.U.heap L ∧ B.locs = P.locs ++ L ∧ B.cells = P.cells + 1 ∧ B.slots = P.slots + n) := by
  subst hn hN hb
  refine Back.mono (backArv hZ hw wi E V C K S hz (n32 (by omega)) l0 (by omega) (fun c hc => (hp c hc).2) hfr hlo) (fun P a hp => hp) (fun P a v B hp hq => ?_)
  obtain ⟨L, ⟨q1, q2, q3, q4, q5, q6, q7, ⟨kb, v1, v2⟩, q9⟩, hl, hc, hs⟩ := hq
  exact ⟨L, ⟨q1, fun y hy => by rw [q2 y hy]; exact hx0, q3, q5, q7, h.size, kb, hh0, Nat.le_refl _, Nat.ne_of_gt E.lt, q6, by rw [List.map_map]; exact v2⟩, hl, hc, hs⟩
end StrChars.Road
end Jvm.Pilot.@@N@@

namespace Jvm.Pilot.@@N@@
open Jvm Jvm.ClassFile Sem Op Lib Jvm.Free Jvm.Stand Jvm.LawKit Jvm.RoadKit Bundle Jvm.Pilot.@@N@@.Jvm.D
/-! the goal form of a walk: from S the run ends in Q -/
def own_Gl (p : Program) (e : Env) (below : List Frame) (Q : Outcome → State → Prop) (S : State) : Prop := ∃ s₂ o, Steps p.tables e below S s₂ ∧ s₂.status = .running ∧ Ended s₂ below o ∧ Q o s₂
def own_Post (s : State) (Q : Option Value → Heap → List Loc → Prop) (C N : Nat) : Outcome → State → Prop := fun o U' => ∃ v L, o = .returned v ∧ Q v U'.heap L ∧ FrameEnd s o U' L C N
section Own
variable {p : Program} {l : Launch} {e : Env} {R : Room} {s : State} {m : MethodId} {args : Array Value} {below : List Frame} {meth : Method} {c : Code} {T : State} {locs : List Loc} {cells slots : Nat} {Q : Outcome → State → Prop} {QQ : Option Value → Heap → List Loc → Prop} {S S' : State} {C N : Nat} {h : Heap}
theorem own_st (st : ∀ t, Steps p.tables e below S' t → Steps p.tables e below S t) (g : own_Gl p e below Q S') : own_Gl p e below Q S := by
  obtain ⟨s₂, o, h1, h2⟩ := g; exact ⟨s₂, o, st _ h1, h2⟩
theorem own_tr (st : Steps p.tables e below S S') (g : own_Gl p e below Q S') : own_Gl p e below Q S := by
  obtain ⟨s₂, o, h1, h2⟩ := g; exact ⟨s₂, o, st.trans h1, h2⟩
theorem own_retO (X : Stand p l e R s m args below meth c T locs cells slots) (hx : p.tables.exec = Jvm.exec) (hlk : meth.locks = false) {pc : Nat} {Ls : Array Slot} {w : Value} {t : FieldType} {i : Instr} {rest : List Value} (hret : meth.sig.returnType = some t) (hn : narrow t w = w)
    (hi : (i = .ireturn ∧ (t = .int ∨ t = .boolean ∨ t = .byte ∨ t = .char ∨ t = .short) ∧ ∃ z, w = .int z) ∨ (i = .lreturn ∧ t = .long ∧ ∃ z, w = .long z) ∨ (i = .dreturn ∧ t = .double ∧ ∃ z, w = .double z) ∨ (i = .freturn ∧ t = .float ∧ ∃ z, w = .float z) ∨ (i = .areturn ∧ t.isReference = true ∧ w.isRef = true))
    (hd : decode c.code pc = .ok (i, 1)) (hc : cells ≤ C) (hs : slots ≤ N) (eT : T.heap = h) (hq : QQ (some w) h locs) : own_Gl p e below (own_Post s QQ C N) (T.setTop (mkF m pc Ls (w :: rest))) := by
  obtain ⟨fs, hr, hrun, hended, hW, hsame⟩ := X.leave (v := some w) (fun h => by rw [hret] at h; cases h) hlk
  subst eT
  exact ⟨_, _, retOut X hx hret hn hi hd hr, hrun, hended, _, _, rfl, hq, ⟨_, rfl⟩, hW, hsame.mono hc hs⟩
theorem own_retI (X : Stand p l e R s m args below meth c T locs cells slots) (hx : p.tables.exec = Jvm.exec) (hlk : meth.locks = false) {pc : Nat} {Ls : Array Slot} {z : Int32} {rest : List Value} (hret : meth.sig.returnType = some .int)
    (hd : decode c.code pc = .ok (.ireturn, 1)) (hc : cells ≤ C) (hs : slots ≤ N) (eT : T.heap = h) (hq : QQ (some (.int z)) h locs) : own_Gl p e below (own_Post s QQ C N) (T.setTop (mkF m pc Ls (.int z :: rest))) :=
  own_retO X hx hlk hret rfl (Or.inl ⟨rfl, Or.inl rfl, z, rfl⟩) hd hc hs eT hq
theorem own_retL (X : Stand p l e R s m args below meth c T locs cells slots) (hx : p.tables.exec = Jvm.exec) (hlk : meth.locks = false) {pc : Nat} {Ls : Array Slot} {z : Int64} {rest : List Value} (hret : meth.sig.returnType = some .long)
    (hd : decode c.code pc = .ok (.lreturn, 1)) (hc : cells ≤ C) (hs : slots ≤ N) (eT : T.heap = h) (hq : QQ (some (.long z)) h locs) : own_Gl p e below (own_Post s QQ C N) (T.setTop (mkF m pc Ls (.long z :: rest))) :=
  own_retO X hx hlk hret rfl (Or.inr (Or.inl ⟨rfl, rfl, z, rfl⟩)) hd hc hs eT hq
theorem own_nref {t : FieldType} {w : Value} (h : w.isRef = true) : narrow t w = w := by cases t <;> cases w <;> first | rfl | simp [Value.isRef] at h
theorem own_retA (X : Stand p l e R s m args below meth c T locs cells slots) (hx : p.tables.exec = Jvm.exec) (hlk : meth.locks = false) {pc : Nat} {Ls : Array Slot} {w : Value} {t : FieldType} {rest : List Value} (hret : meth.sig.returnType = some t) (ht : t.isReference = true) (hw : w.isRef = true)
    (hd : decode c.code pc = .ok (.areturn, 1)) (hc : cells ≤ C) (hs : slots ≤ N) (eT : T.heap = h) (hq : QQ (some w) h locs) : own_Gl p e below (own_Post s QQ C N) (T.setTop (mkF m pc Ls (w :: rest))) :=
  own_retO X hx hlk hret (own_nref hw) (Or.inr (Or.inr (Or.inr (Or.inr ⟨rfl, ht, hw⟩)))) hd hc hs eT hq
theorem own_retN (X : Stand p l e R s m args below meth c T locs cells slots) (hx : p.tables.exec = Jvm.exec) (hlk : meth.locks = false) {pc : Nat} {Ls : Array Slot} {z : Int32} {t : FieldType} {rest : List Value} (hret : meth.sig.returnType = some t) (ht : t = .boolean ∨ t = .byte ∨ t = .char ∨ t = .short)
    (hd : decode c.code pc = .ok (.ireturn, 1)) (hc : cells ≤ C) (hs : slots ≤ N) (eT : T.heap = h) (hq : QQ (some (.int (nar t z))) h locs) : own_Gl p e below (own_Post s QQ C N) (T.setTop (mkF m pc Ls (.int z :: rest))) := by
  obtain ⟨fs, hr, hrun, hended, hW, hsame⟩ := X.leave (v := some (.int (nar t z))) (fun h => by rw [hret] at h; cases h) hlk
  subst eT
  exact ⟨_, _, retN X hx hret ht hd hr, hrun, hended, _, _, rfl, hq, ⟨_, rfl⟩, hW, hsame.mono hc hs⟩
theorem own_retV (X : Stand p l e R s m args below meth c T locs cells slots) (hx : p.tables.exec = Jvm.exec) (hlk : meth.locks = false) {pc : Nat} {Ls : Array Slot} (hret : meth.sig.returnType = none)
    (hd : decode c.code pc = .ok (.return_, 1)) (hc : cells ≤ C) (hs : slots ≤ N) (eT : T.heap = h) (hq : QQ none h locs) : own_Gl p e below (own_Post s QQ C N) (T.setTop (mkF m pc Ls [])) := by
  obtain ⟨fs, hr, hrun, hended, hW, hsame⟩ := X.leave (v := none) (fun _ => rfl) hlk
  subst eT
  exact ⟨_, _, X.returnOut hx hret hd hr, hrun, hended, _, _, rfl, hq, ⟨_, rfl⟩, hW, hsame.mono hc hs⟩
theorem own_ext_refl (h : Heap) : Ext h h := ⟨Nat.le_refl _, fun _ _ q => q⟩
theorem own_ext_tr {h0 h h' : Heap} (A : Ext h0 h) (B : Ext h h') : Ext h0 h' := ⟨Nat.le_trans A.1 B.1, fun x c q => B.2 x c (A.2 x c q)⟩
theorem own_ext_keep {h0 h h' : Heap} {ws : List Addr} (A : Ext h0 h) (K : Keep h h' ws) (q : ∀ x ∈ ws, h0.size ≤ x) : Ext h0 h' := ⟨Nat.le_trans A.1 K.1, fun x c r => K.2.1 x c (A.2 x c r) fun z => absurd (Array.getElem?_eq_some_iff.mp r).1 (Nat.not_lt.mpr (q x z))⟩
theorem own_ext_wr {h0 h h' : Heap} {a : Addr} {sl : Nat} {v : Value} (A : Ext h0 h) (W : Wr h h' a sl v) (q : h0.size ≤ a) : Ext h0 h' := own_ext_keep A (Keep.of_wr W) (allS q all0)
theorem own_sta_keep {Z : State} {h h' : Heap} {ws : List Addr} {C n d : String} {v : Value} (F : Sta Z h C n d v) (K : Keep h h' ws) (q : ∀ x ∈ ws, ∀ cell : Cell, h[x]? = some cell → cell.vm.isStatics = false) : Sta Z h' C n d v := by
  obtain ⟨cf, i, k, f, st, cell, h1, h2, h3, h4, h5, h6, h7⟩ := F
  exact ⟨cf, i, k, f, st, cell, h1, h2, h3, h4, K.2.1 _ _ h5 (fun z => by rw [q _ z _ h5] at h6; cases h6), h6, h7⟩
end Own
section Words
variable {Z : State} {args : Array Value} {t u : Term} {a : Addr} {cl : Cell} {ty : FieldType}
theorem own_fldI {C n d : String} {k : Int32} (ht : t.eval args Z none [] Z = some (.ref a)) (h : (Cond.eq (Term.field t C n d) (Term.int k)).value args Z none Z [] = some true) : Fld Z Z.heap a C n d (.int k) := by
  refine Fld.start ?_
  have e := fld_at (C := C) (n := n) (dd := d) ht
  cases hv : Z.fieldOf? a C n d with
  | none => rw [hv] at e; simp [Cond.value, e] at h
  | some v => rw [hv] at e; have ek := Term.int_eval (args := args) (first := Z) (o := none) (idx := []) (s := Z) k; cases v <;> simp only [Cond.value, e, ek] at h <;> first | (cases h; done) | (simp at h; rw [h])
theorem own_fldL {C n d : String} {k : Int64} (ht : t.eval args Z none [] Z = some (.ref a)) (h : (Cond.eq (Term.field t C n d) (Term.long k)).value args Z none Z [] = some true) : Fld Z Z.heap a C n d (.long k) := by
  refine Fld.start ?_
  have e := fld_at (C := C) (n := n) (dd := d) ht
  cases hv : Z.fieldOf? a C n d with
  | none => rw [hv] at e; simp [Cond.value, e] at h
  | some v => rw [hv] at e; have ek : (Term.long k).eval args Z none [] Z = some (.long k) := rfl; cases v <;> simp only [Cond.value, e, ek] at h <;> first | (cases h; done) | (simp at h; rw [h])
theorem own_fldR {C n d : String} {b : Addr} (ht : t.eval args Z none [] Z = some (.ref a)) (h : (Term.field t C n d).eval args Z none [] Z = some (.ref b)) : Fld Z Z.heap a C n d (.ref b) := Fld.start ((fld_at ht).symm.trans h)
theorem own_len {n : Int32} (ht : t.eval args Z none [] Z = some (.ref a)) (A : Arr Z Z.heap a cl ty) (h : (Cond.eq (Term.length t) (Term.int n)).value args Z none Z [] = some true) : cl.slots.size < 2 ^ 31 ∧ cl.slots.size.toInt32 = n := by
  have ha := A.fin (Vm.Alike.refl _)
  have ek : (Term.int n).eval args Z none [] Z = some (.int n) := rfl
  by_cases hl : cl.slots.size < 2 ^ 31
  · have e := len_f ht ha hl
    simp only [Cond.value, e, ek] at h
    exact ⟨hl, by simpa using h⟩
  · exfalso
    have e : (Term.length t).eval args Z none [] Z = none := by simp [Term.eval, ht, ha, hl]
    simp [Cond.value, e] at h
theorem own_elemI {j k : Int32} (ht : t.eval args Z none [] Z = some (.ref a)) (A : Arr Z Z.heap a cl ty) (h : (Cond.eq (Term.elem t (Term.int j)) (Term.int k)).value args Z none Z [] = some true) : cl.slots[j.toNatClampNeg]? = some (.int k) := by
  have ek : (Term.int k).eval args Z none [] Z = some (.int k) := rfl
  cases hv : (Term.elem t (Term.int j)).eval args Z none [] Z with
  | none => simp [Cond.value, hv] at h
  | some v =>
    have q := (elem_in hv ht (Term.int_eval j) A.1).2
    rw [q]
    cases v <;> simp only [Cond.value, hv, ek] at h <;> first | (cases h; done) | (simp at h; rw [h])
theorem own_elemR {j : Int32} {b : Addr} (ht : t.eval args Z none [] Z = some (.ref a)) (A : Arr Z Z.heap a cl ty) (hu : u.eval args Z none [] Z = some (.ref b)) (h : (Cond.eq (Term.elem t (Term.int j)) u).value args Z none Z [] = some true) : cl.slots[j.toNatClampNeg]? = some (.ref b) := by
  cases hv : (Term.elem t (Term.int j)).eval args Z none [] Z with
  | none => simp [Cond.value, hv] at h
  | some v =>
    have q := (elem_in hv ht (Term.int_eval j) A.1).2
    rw [q]
    cases v <;> simp only [Cond.value, hv, hu] at h <;> first | (cases h; done) | (simp at h; rw [h])
end Words
theorem own_narb {b : Int32} (h : fits .byte (.int b) = true) : nar .byte b = b := by
  have := rng_byte h
  have c := c_i2b b
  show b.toInt8.toInt32 = b
  rw [Int32.lt_iff_toInt_lt, Int32.lt_iff_toInt_lt] at this
  have e1 : (-128 : Int32).toInt = -128 := by decide
  have e2 : (127 : Int32).toInt = 127 := by decide
  exact Int32.toInt_inj.mp (by omega)
theorem own_narb8 (x : Int32) : nar .byte x.toInt8.toInt32 = x.toInt8.toInt32 := own_narb (fits_nar_byte x)
theorem own_narc {c : Int32} (h0 : ¬ c < 0) (h1 : ¬ (255 : Int32) < c) : nar .char c = c := by
  have q := c_i2c c
  show c.toUInt32.toUInt16.toUInt32.toInt32 = c
  rw [Int32.lt_iff_toInt_lt] at h0 h1
  have e1 : (0 : Int32).toInt = 0 := by decide
  have e2 : (255 : Int32).toInt = 255 := by decide
  exact Int32.toInt_inj.mp (by omega)
theorem own_fitc {c : Int32} (h0 : ¬ c < 0) (h1 : ¬ (255 : Int32) < c) : fits .char (.int c) = true := by
  have := fits_nar_char c; rwa [own_narc h0 h1] at this
def own_EL : List (String × Nat) := [("com/example/highwater/highwater/store/StoredMessage", 45)]
/-! the same, where a String constant may be loaded: the wide end -/
def own_WPost (Z s : State) (Q : Option Value → Heap → List Loc → Prop) (C N : Nat) : Outcome → State → Prop := fun o U' => ∃ v L, o = .returned v ∧ Q v U'.heap L ∧ CHr Z own_EL s.vm s.heap U'.vm U'.heap ∧ ReturnedEndW s o U' L C N
def own_LPost (s : State) (Q : Option Value → Heap → List Loc → Prop) (C N : Nat) : Outcome → State → Prop := fun o U' => ∃ v L, o = .returned v ∧ Q v U'.heap L ∧ ReturnedEndW s o U' L C N
theorem own_endW {s t : State} {o : Outcome} {L : List Loc} {k n k' n' : Nat} (h : ReturnedEndW s o t L k n) (hk : k ≤ k') (hn : n ≤ n') : ReturnedEndW s o t L k' n' := ⟨h.1, h.2.1, h.2.2.1, h.2.2.2.mono hk hn⟩
section OwnW
variable {p : Program} {l : Launch} {e : Env} {R : Room} {s : State} {m : MethodId} {args : Array Value} {below : List Frame} {meth : Method} {c : Code} {T : State} {locs : List Loc} {cells slots : Nat} {QQ : Option Value → Heap → List Loc → Prop} {C N : Nat} {h h0 : Heap} {vm0 : Vm} {k0 : Nat} {Z : State}
theorem own_lretO (X : Stand p l e R (s.setVm vm0) m args below meth c T locs cells slots) (hx : p.tables.exec = Jvm.exec) (hlk : meth.locks = false) {pc : Nat} {Ls : Array Slot} {w : Value} {t : FieldType} {i : Instr} {rest : List Value} (hret : meth.sig.returnType = some t) (hn : narrow t w = w)
    (hi : (i = .ireturn ∧ (t = .int ∨ t = .boolean ∨ t = .byte ∨ t = .char ∨ t = .short) ∧ ∃ z, w = .int z) ∨ (i = .lreturn ∧ t = .long ∧ ∃ z, w = .long z) ∨ (i = .dreturn ∧ t = .double ∧ ∃ z, w = .double z) ∨ (i = .freturn ∧ t = .float ∧ ∃ z, w = .float z) ∨ (i = .areturn ∧ t.isReference = true ∧ w.isRef = true))
    (hd : decode c.code pc = .ok (i, 1)) (hc : cells ≤ C) (hs : slots ≤ N) (eT : T.heap = h) (hS : s.Since vm0 k0) (hk : k0 ≤ h.size) (hq : QQ (some w) h locs) : own_Gl p e below (fun o U' => (∃ v L, o = .returned v ∧ QQ v U'.heap L ∧ ReturnedEndW s o U' L C N) ∧ U'.vm = T.vm ∧ U'.heap = T.heap) (T.setTop (mkF m pc Ls (w :: rest))) := by
  subst eT
  obtain ⟨fs, hr, hrun, hended, hE⟩ := X.leaveW hS hk (v := some w) (fun h => by rw [hret] at h; cases h) hlk
  exact ⟨_, _, retOut X hx hret hn hi hd hr, hrun, hended, ⟨_, _, rfl, hq, own_endW hE hc hs⟩, rfl, rfl⟩
theorem own_gl_mono {Q Q' : Outcome → State → Prop} {S : State} (g : own_Gl p e below Q S) (hm : ∀ o U, Q o U → Q' o U) : own_Gl p e below Q' S := by
  obtain ⟨s₂, o, h1, h2, h3, h4⟩ := g; exact ⟨s₂, o, h1, h2, h3, hm _ _ h4⟩
theorem own_wretO (X : Stand p l e R (s.setVm vm0) m args below meth c T locs cells slots) (hx : p.tables.exec = Jvm.exec) (hlk : meth.locks = false) {pc : Nat} {Ls : Array Slot} {w : Value} {t : FieldType} {i : Instr} {rest : List Value} (hret : meth.sig.returnType = some t) (hn : narrow t w = w)
    (hi : (i = .ireturn ∧ (t = .int ∨ t = .boolean ∨ t = .byte ∨ t = .char ∨ t = .short) ∧ ∃ z, w = .int z) ∨ (i = .lreturn ∧ t = .long ∧ ∃ z, w = .long z) ∨ (i = .dreturn ∧ t = .double ∧ ∃ z, w = .double z) ∨ (i = .freturn ∧ t = .float ∧ ∃ z, w = .float z) ∨ (i = .areturn ∧ t.isReference = true ∧ w.isRef = true))
    (hd : decode c.code pc = .ok (i, 1)) (hc : cells ≤ C) (hs : slots ≤ N) (eT : T.heap = h) (hS : s.Since vm0 k0) (hk : k0 ≤ h.size) (hh : s.heap = h0) (hC : CHr Z own_EL s.vm h0 T.vm h) (hq : QQ (some w) h locs) : own_Gl p e below (own_WPost Z s QQ C N) (T.setTop (mkF m pc Ls (w :: rest))) := by
  refine own_gl_mono (own_lretO X hx hlk hret hn hi hd hc hs eT hS hk hq) fun o U ⟨⟨v, L, h1, h2, h3⟩, h4, h5⟩ => ⟨v, L, h1, h2, ?_, h3⟩
  rw [h4, h5, eT, hh]; exact hC
theorem own_wretA (X : Stand p l e R (s.setVm vm0) m args below meth c T locs cells slots) (hx : p.tables.exec = Jvm.exec) (hlk : meth.locks = false) {pc : Nat} {Ls : Array Slot} {w : Value} {t : FieldType} {rest : List Value} (hret : meth.sig.returnType = some t) (ht : t.isReference = true) (hw : w.isRef = true)
    (hd : decode c.code pc = .ok (.areturn, 1)) (hc : cells ≤ C) (hs : slots ≤ N) (eT : T.heap = h) (hS : s.Since vm0 k0) (hk : k0 ≤ h.size) (hh : s.heap = h0) (hC : CHr Z own_EL s.vm h0 T.vm h) (hq : QQ (some w) h locs) : own_Gl p e below (own_WPost Z s QQ C N) (T.setTop (mkF m pc Ls (w :: rest))) :=
  own_wretO X hx hlk hret (own_nref hw) (Or.inr (Or.inr (Or.inr (Or.inr ⟨rfl, ht, hw⟩)))) hd hc hs eT hS hk hh hC hq
theorem own_wlretN (X : Stand p l e R (s.setVm vm0) m args below meth c T locs cells slots) (hx : p.tables.exec = Jvm.exec) (hlk : meth.locks = false) {pc : Nat} {Ls : Array Slot} {z : Int32} {t : FieldType} {rest : List Value} (hret : meth.sig.returnType = some t) (ht : t = .boolean ∨ t = .byte ∨ t = .char ∨ t = .short)
    (hd : decode c.code pc = .ok (.ireturn, 1)) (hc : cells ≤ C) (hs : slots ≤ N) (eT : T.heap = h) (hS : s.Since vm0 k0) (hk : k0 ≤ h.size) (hq : QQ (some (.int (nar t z))) h locs) : own_Gl p e below (own_LPost s QQ C N) (T.setTop (mkF m pc Ls (.int z :: rest))) := by
  subst eT
  obtain ⟨fs, hr, hrun, hended, hE⟩ := X.leaveW hS hk (v := some (.int (nar t z))) (fun h => by rw [hret] at h; cases h) hlk
  exact ⟨_, _, retN X hx hret ht hd hr, hrun, hended, _, _, rfl, hq, own_endW hE hc hs⟩
theorem own_wretV (X : Stand p l e R (s.setVm vm0) m args below meth c T locs cells slots) (hx : p.tables.exec = Jvm.exec) (hlk : meth.locks = false) {pc : Nat} {Ls : Array Slot} (hret : meth.sig.returnType = none)
    (hd : decode c.code pc = .ok (.return_, 1)) (hc : cells ≤ C) (hs : slots ≤ N) (eT : T.heap = h) (hS : s.Since vm0 k0) (hk : k0 ≤ h.size) (hh : s.heap = h0) (hC : CHr Z own_EL s.vm h0 T.vm h) (hq : QQ none h locs) : own_Gl p e below (own_WPost Z s QQ C N) (T.setTop (mkF m pc Ls [])) := by
  subst eT
  obtain ⟨fs, hr, hrun, hended, hE⟩ := X.leaveW hS hk (v := none) (fun _ => rfl) hlk
  refine ⟨_, _, X.returnOut hx hret hd hr, hrun, hended, _, _, rfl, hq, ?_, own_endW hE hc hs⟩
  rw [hh]; exact hC
theorem own_wretN (X : Stand p l e R (s.setVm vm0) m args below meth c T locs cells slots) (hx : p.tables.exec = Jvm.exec) (hlk : meth.locks = false) {pc : Nat} {Ls : Array Slot} {z : Int32} {t : FieldType} {rest : List Value} (hret : meth.sig.returnType = some t) (ht : t = .boolean ∨ t = .byte ∨ t = .char ∨ t = .short)
    (hd : decode c.code pc = .ok (.ireturn, 1)) (hc : cells ≤ C) (hs : slots ≤ N) (eT : T.heap = h) (hS : s.Since vm0 k0) (hk : k0 ≤ h.size) (hh : s.heap = h0) (hC : CHr Z own_EL s.vm h0 T.vm h) (hq : QQ (some (.int (nar t z))) h locs) : own_Gl p e below (own_WPost Z s QQ C N) (T.setTop (mkF m pc Ls (.int z :: rest))) := by
  subst eT
  obtain ⟨fs, hr, hrun, hended, hE⟩ := X.leaveW hS hk (v := some (.int (nar t z))) (fun h => by rw [hret] at h; cases h) hlk
  refine ⟨_, _, retN X hx hret ht hd hr, hrun, hended, _, _, rfl, hq, ?_, own_endW hE hc hs⟩
  rw [hh]; exact hC
end OwnW
theorem own_ew {Z : State} {a0 : Array Value} (hw : ∀ d ∈ tables_1, d.before a0 Z = true) : EW Z a0 own_EL := EW.cons (text := "") (hw _ (List.mem_of_getElem? (i := 80) rfl)) (by decide) EW.nil
theorem own_wS {Z : State} {a0 : Array Value} (hw : ∀ d ∈ tables_1, d.before a0 Z = true) : ∀ d ∈ Bundle.stringAtoms, d.before a0 Z = true := fun d hd => hw d ((by decide +kernel : ∀ d ∈ Bundle.stringAtoms, d ∈ tables_1) d hd)
theorem own_m8 (y m : Int32) (hm : 0 ≤ m.toInt) (hm2 : m.toInt ≤ 255) : ¬ (y &&& m).toUInt32.toUInt16.toUInt32.toInt32 < 0 ∧ ¬ (255 : Int32) < (y &&& m).toUInt32.toUInt16.toUInt32.toInt32 := by
  have h1 := c_and y m hm
  have h4 := c_i2c (y &&& m)
  have e3 : (0 : Int32).toInt = 0 := by decide
  have e4 : (255 : Int32).toInt = 255 := by decide
  rw [Int32.lt_iff_toInt_lt, Int32.lt_iff_toInt_lt, e3, e4]
  omega
theorem own_nz {Z : State} {args : Array Value} {t : Term} {z : Int32} (ht : t.eval args Z none [] Z = some (.int z)) (h : (Cond.not (Cond.eq t (Term.int 0))).value args Z none Z [] = some true) : ¬ z = 0 := fun e => by
  subst e; simp [Cond.value, ht, Term.eval] at h
theorem own_all {P : Int32 → Prop} {x : Int32} {l : List Int32} (h : P x) (t : ∀ c ∈ l, P c) : ∀ c ∈ x :: l, P c := fun c hc => (List.mem_cons.mp hc).elim (fun e => e ▸ h) (t c)
theorem own_nb0 : nar .boolean (nar .boolean 1) = 1 := by decide
theorem own_pn0 : plainName "java/lang/StringLatin1" = true := by first | (simp [plainName, overriddenIn]; done) | decide +kernel
theorem own_d_jdk_43_method_3_code_0 : decode jdk_43_method_3_code 0 = .ok (.iload_n 0, 1) := by decide +kernel
theorem own_d_jdk_43_method_3_code_1 : decode jdk_43_method_3_code 1 = .ok (.sipush 255, 3) := by decide +kernel
theorem own_d_jdk_43_method_3_code_4 : decode jdk_43_method_3_code 4 = .ok (.if_icmp .gt 7, 3) := by decide +kernel
theorem own_d_jdk_43_method_3_code_7 : decode jdk_43_method_3_code 7 = .ok (.iconst 1, 1) := by decide +kernel
theorem own_d_jdk_43_method_3_code_8 : decode jdk_43_method_3_code 8 = .ok (.goto 4, 3) := by decide +kernel
theorem own_d_jdk_43_method_3_code_12 : decode jdk_43_method_3_code 12 = .ok (.ireturn, 1) := by decide +kernel
theorem own_ef_can (m : MethodId) (x0 : Int32) : entryFrame m #[(.int x0)] 1 = mkF m 0 #[.val (.int x0)] [] := by first | (simp [entryFrame, mkF, argsToLocals, Value.category]; done) | rfl
def own_Q_can (Z : State) (ch : Int32) (h0 : Heap) (n0 : Nat) (v : Option Value) (h : Heap) (L : List Loc) : Prop := v = some (.int 1) ∧ Fr n0 L ∧ h = h0
set_option maxRecDepth 65536 in
set_option maxHeartbeats 40000000 in
theorem own_rm_can (l : Launch) (Z : State) (a0 : Array Value) (hw : ∀ d ∈ tables_1, d.before a0 Z = true) (ws : List Jvm.Cond) (ch : Int32) (h0 : Heap) (n0 : Nat) (Z0 : n0 ≤ h0.size) (hc : (¬ ch < 0 ∧ ¬ (255 : Int32) < ch)) :
    MetFree l (⟨"java/lang/StringLatin1", "canEncode", "(C)Z"⟩ : MethodName) (head1 (Jvm.Cond.code (⟨"java/lang/StringLatin1", "canEncode", "(C)Z"⟩ : MethodName) jdk_43_method_3_code 1 (some .boolean) :: ws) ({ frames := 0, cells := 0, slots := 0, locals := 0 } : Room)) (fun aa UU => aa = #[(.int ch)] ∧ Z.Warmed39 UU.vm ∧ UU.heap = h0) (fun _ _ _ _ _ => True) (fun _ UU oo UU' => ∃ vv LL, oo = .returned vv ∧ own_Q_can Z ch h0 n0 vv UU'.heap LL ∧ FrameEnd UU oo UU' LL ({ frames := 0, cells := 0, slots := 0, locals := 0 } : Room).cells ({ frames := 0, cells := 0, slots := 0, locals := 0 } : Room).slots) := by
  refine MetFree.of_bodySF (plainFor_of_name own_pn0) hisR ?_
  intro p e s m args below meth c s₁ Bd hml0 hP hK
  obtain ⟨rfl, hZ, hh⟩ := hP
  have hx := Bd.exec
  have hby := Bd.bytes
  have hml : c.maxLocals = 1 := hml0
  have hown : s.vm.findClass "java/lang/StringLatin1" = some m.cls := findClass_of_methodNamed Bd.named
  have hnm := (name_of_methodNamed Bd.named Bd.method).1
  have X0 : Stand p l e ({ frames := 0, cells := 0, slots := 0, locals := 0 } : Room) s m #[(.int ch)] below meth c s₁ [] 0 0 := Stand.of_body Bd
  have e0 : s₁.heap = h0 := by rw [← hh, Bd.state]; rfl
  have N0 := Fr.nil n0
  show own_Gl p e below (own_Post s (own_Q_can Z ch h0 n0) ({ frames := 0, cells := 0, slots := 0, locals := 0 } : Room).cells ({ frames := 0, cells := 0, slots := 0, locals := 0 } : Room).slots) _
  refine own_st (fun tg_ kg_ => castTop (own_ef_can m ch) kg_) ?_
  show own_Gl p e below _ (s₁.setTop (mkF m 0 #[.val (.int ch)] []))
  refine own_st (fun tg_ kg_ => XS.iloadN X0.here hx rfl (hb hby own_d_jdk_43_method_3_code_0) rfl kg_) ?_
  show own_Gl p e below _ (s₁.setTop (mkF m 1 #[.val (.int ch)] [(.int ch)]))
  refine own_st (fun tg_ kg_ => XS.sipush X0.here hx rfl (hb hby own_d_jdk_43_method_3_code_1) kg_) ?_
  show own_Gl p e below _ (s₁.setTop (mkF m 4 #[.val (.int ch)] [(.int (255 : Int32)), (.int ch)]))
  refine own_st (fun tg_ kg_ => XS.icmpNo X0.here hx rfl (hb hby own_d_jdk_43_method_3_code_4) rfl (flt (hc.2)).2.2.1 kg_) ?_
  show own_Gl p e below _ (s₁.setTop (mkF m 7 #[.val (.int ch)] []))
  refine own_st (fun tg_ kg_ => XS.iconst X0.here hx rfl (hb hby own_d_jdk_43_method_3_code_7) kg_) ?_
  show own_Gl p e below _ (s₁.setTop (mkF m 8 #[.val (.int ch)] [(.int (1 : Int32))]))
  refine own_st (fun tg_ kg_ => XS.goto X0.here hx rfl (pc0 := 8) (pc' := 12) rfl (hb hby own_d_jdk_43_method_3_code_8) (by decide) (by decide) kg_) ?_
  show own_Gl p e below _ (s₁.setTop (mkF m 12 #[.val (.int ch)] [(.int (1 : Int32))]))
  exact own_retN X0 hx Bd.notSynchronized (t := .boolean) Bd.returns (by simp) (hb hby own_d_jdk_43_method_3_code_12) (by decide) (by decide) e0 (⟨rfl, N0, rfl⟩)
theorem own_d_jdk_43_method_46_code_0 : decode jdk_43_method_46_code 0 = .ok (.iconst 1, 1) := by decide +kernel
theorem own_d_jdk_43_method_46_code_1 : decode jdk_43_method_46_code 1 = .ok (.newarray .byte, 2) := by decide +kernel
theorem own_d_jdk_43_method_46_code_3 : decode jdk_43_method_46_code 3 = .ok (.dup, 1) := by decide +kernel
theorem own_d_jdk_43_method_46_code_4 : decode jdk_43_method_46_code 4 = .ok (.iconst 0, 1) := by decide +kernel
theorem own_d_jdk_43_method_46_code_5 : decode jdk_43_method_46_code 5 = .ok (.iload_n 0, 1) := by decide +kernel
theorem own_d_jdk_43_method_46_code_6 : decode jdk_43_method_46_code 6 = .ok (.i2b, 1) := by decide +kernel
theorem own_d_jdk_43_method_46_code_7 : decode jdk_43_method_46_code 7 = .ok (.bastore, 1) := by decide +kernel
theorem own_d_jdk_43_method_46_code_8 : decode jdk_43_method_46_code 8 = .ok (.areturn, 1) := by decide +kernel
theorem own_ef_tob (m : MethodId) (x0 : Int32) : entryFrame m #[(.int x0)] 1 = mkF m 0 #[.val (.int x0)] [] := by first | (simp [entryFrame, mkF, argsToLocals, Value.category]; done) | rfl
def own_Q_tob (Z : State) (ch : Int32) (h0 : Heap) (n0 : Nat) (v : Option Value) (h : Heap) (L : List Loc) : Prop := (∃ t, v = some (.ref t) ∧ h0.size ≤ t) ∧ Fr n0 L ∧ Ext h0 h
set_option maxRecDepth 65536 in
set_option maxHeartbeats 40000000 in
theorem own_rm_tob (l : Launch) (Z : State) (a0 : Array Value) (hw : ∀ d ∈ tables_1, d.before a0 Z = true) (ws : List Jvm.Cond) (ch : Int32) (h0 : Heap) (n0 : Nat) (Z0 : n0 ≤ h0.size)  :
    MetFree l (⟨"java/lang/StringLatin1", "toBytes", "(C)[B"⟩ : MethodName) (head1 (Jvm.Cond.code (⟨"java/lang/StringLatin1", "toBytes", "(C)[B"⟩ : MethodName) jdk_43_method_46_code 1 (some (.array .byte)) :: ws) ({ frames := 0, cells := 1, slots := 1, locals := 0 } : Room)) (fun aa UU => aa = #[(.int ch)] ∧ Z.Warmed39 UU.vm ∧ UU.heap = h0) (fun _ _ _ _ _ => True) (fun _ UU oo UU' => ∃ vv LL, oo = .returned vv ∧ own_Q_tob Z ch h0 n0 vv UU'.heap LL ∧ FrameEnd UU oo UU' LL ({ frames := 0, cells := 1, slots := 1, locals := 0 } : Room).cells ({ frames := 0, cells := 1, slots := 1, locals := 0 } : Room).slots) := by
  refine MetFree.of_bodySF (plainFor_of_name own_pn0) hisR ?_
  intro p e s m args below meth c s₁ Bd hml0 hP hK
  obtain ⟨rfl, hZ, hh⟩ := hP
  have hx := Bd.exec
  have hby := Bd.bytes
  have hml : c.maxLocals = 1 := hml0
  have hown : s.vm.findClass "java/lang/StringLatin1" = some m.cls := findClass_of_methodNamed Bd.named
  have hnm := (name_of_methodNamed Bd.named Bd.method).1
  have X0 : Stand p l e ({ frames := 0, cells := 1, slots := 1, locals := 0 } : Room) s m #[(.int ch)] below meth c s₁ [] 0 0 := Stand.of_body Bd
  have e0 : s₁.heap = h0 := by rw [← hh, Bd.state]; rfl
  have N0 := Fr.nil n0
  show own_Gl p e below (own_Post s (own_Q_tob Z ch h0 n0) ({ frames := 0, cells := 1, slots := 1, locals := 0 } : Room).cells ({ frames := 0, cells := 1, slots := 1, locals := 0 } : Room).slots) _
  refine own_st (fun tg_ kg_ => castTop (own_ef_tob m ch) kg_) ?_
  show own_Gl p e below _ (s₁.setTop (mkF m 0 #[.val (.int ch)] []))
  refine own_st (fun tg_ kg_ => XS.iconst X0.here hx rfl (hb hby own_d_jdk_43_method_46_code_0) kg_) ?_
  show own_Gl p e below _ (s₁.setTop (mkF m 1 #[.val (.int ch)] [(.int (1 : Int32))]))
  obtain ⟨T1, h1, k1, X1, e1, E1, A1, st1⟩ := newP X0 hx hZ (hw _ (List.mem_of_getElem? (i := 15) rfl)) e0 (g := (mkF m 1 #[.val (.int ch)] [(.int (1 : Int32))])) rfl (hb hby own_d_jdk_43_method_46_code_1) rfl (by decide) (cap := 1) (by decide) (by decide) (by decide) (by decide)
  obtain ⟨t, g1⟩ : ∃ z, z = h0.size := ⟨_, rfl⟩
  have sz_t : h0.size ≤ t := Nat.le_of_eq g1.symm
  have g_t : n0 ≤ t := Nat.le_trans Z0 sz_t
  rw [← g1] at A1 st1
  have V_t : Arv Z h1 t k1 .byte (1 : Int32) [(.int (0 : Int32))] (.int (0 : Int32)) := (Arv.new A1 (by decide)).pad (pad_rep [] (.int (0 : Int32)) 1)
  refine own_st st1 ?_
  try clear st1
  show own_Gl p e below _ (T1.setTop (mkF m 3 #[.val (.int ch)] [(.ref t)]))
  refine own_st (fun tg_ kg_ => XS.dup X1.here hx rfl (hb hby own_d_jdk_43_method_46_code_3) rfl rfl kg_) ?_
  show own_Gl p e below _ (T1.setTop (mkF m 4 #[.val (.int ch)] [(.ref t), (.ref t)]))
  refine own_st (fun tg_ kg_ => XS.iconst X1.here hx rfl (hb hby own_d_jdk_43_method_46_code_4) kg_) ?_
  show own_Gl p e below _ (T1.setTop (mkF m 5 #[.val (.int ch)] [(.int (0 : Int32)), (.ref t), (.ref t)]))
  refine own_st (fun tg_ kg_ => XS.iloadN X1.here hx rfl (hb hby own_d_jdk_43_method_46_code_5) rfl kg_) ?_
  show own_Gl p e below _ (T1.setTop (mkF m 6 #[.val (.int ch)] [(.int ch), (.int (0 : Int32)), (.ref t), (.ref t)]))
  refine own_st (fun tg_ kg_ => XS.i2b X1.here hx rfl (hb hby own_d_jdk_43_method_46_code_6) rfl kg_) ?_
  show own_Gl p e below _ (T1.setTop (mkF m 7 #[.val (.int ch)] [(.int (ch.toInt8.toInt32)), (.int (0 : Int32)), (.ref t), (.ref t)]))
  obtain ⟨cl3, Ar3, qa3, Sa3, Na3, Ha3, Ga3⟩ := id V_t
  have hin4 : ¬ ((0 : Int32) < 0 ∨ cl3.slots.size ≤ ((0 : Int32)).toNatClampNeg) := inb_of Sa3 ⟨by decide, by decide⟩
  obtain ⟨T4, h4, X4, e4, W4, st4⟩ := stB X1 hx hZ e1 Ar3 (j := (0 : Int32)) hin4 (g := (mkF m 7 #[.val (.int ch)] [(.int (ch.toInt8.toInt32)), (.int (0 : Int32)), (.ref t), (.ref t)])) rfl rfl (hb hby own_d_jdk_43_method_46_code_7)
  have N4 := Fr.snoc X4 N0 g_t
  have K5 := own_ext_wr E1 W4 sz_t
  try clear E1
  replace V_t : Arv Z h4 t k1 .byte (1 : Int32) [(.int (nar .byte (ch.toInt8.toInt32)))] (.int (0 : Int32)) := Arv.set Ar3 qa3 Sa3 Na3 Ha3 Ga3 (fits_nar_byte _) W4 0 rfl (Nat.le_of_ble_eq_true rfl)
  try clear Ga3
  try clear Ha3
  try clear Na3
  try clear Sa3
  try clear qa3
  try clear W4
  try clear hin4
  try clear Ar3
  try clear cl3
  refine own_st st4 ?_
  try clear st4
  try clear e1
  try clear X1
  try clear T1
  show own_Gl p e below _ (T4.setTop (mkF m 8 #[.val (.int ch)] [(.ref t)]))
  exact own_retA X4 hx Bd.notSynchronized Bd.returns rfl rfl (hb hby own_d_jdk_43_method_46_code_8) (by decide) (by decide) e4 (⟨⟨_, rfl, sz_t⟩, N4, K5⟩)
theorem own_pn1 : plainName "java/lang/String" = true := by first | (simp [plainName, overriddenIn]; done) | decide +kernel
theorem own_d_jdk_42_method_151_code_0 : decode jdk_42_method_151_code 0 = .ok (.aload_n 0, 1) := by decide +kernel
theorem own_d_jdk_42_method_151_code_1 : decode jdk_42_method_151_code 1 = .ok (.invokespecial 1, 3) := by decide +kernel
theorem own_d_jdk_42_method_151_code_4 : decode jdk_42_method_151_code 4 = .ok (.aload_n 0, 1) := by decide +kernel
theorem own_d_jdk_42_method_151_code_5 : decode jdk_42_method_151_code 5 = .ok (.aload_n 1, 1) := by decide +kernel
theorem own_d_jdk_42_method_151_code_6 : decode jdk_42_method_151_code 6 = .ok (.putfield 9, 3) := by decide +kernel
theorem own_d_jdk_42_method_151_code_9 : decode jdk_42_method_151_code 9 = .ok (.aload_n 0, 1) := by decide +kernel
theorem own_d_jdk_42_method_151_code_10 : decode jdk_42_method_151_code 10 = .ok (.iload_n 2, 1) := by decide +kernel
theorem own_d_jdk_42_method_151_code_11 : decode jdk_42_method_151_code 11 = .ok (.putfield 15, 3) := by decide +kernel
theorem own_d_jdk_42_method_151_code_14 : decode jdk_42_method_151_code 14 = .ok (.return_, 1) := by decide +kernel
theorem own_ef_sib (m : MethodId) (x0 : Addr) (x1 : Addr) (x2 : Int32) : entryFrame m #[(.ref x0), (.ref x1), (.int x2)] 3 = mkF m 0 #[.val (.ref x0), .val (.ref x1), .val (.int x2)] [] := by first | (simp [entryFrame, mkF, argsToLocals, Value.category]; done) | rfl
def own_Q_sib (Z : State) (x t : Addr) (h0 : Heap) (n0 : Nat) (v : Option Value) (h : Heap) (L : List Loc) : Prop := v = none ∧ Fr n0 L ∧ Keep h0 h [x]
set_option maxRecDepth 65536 in
set_option maxHeartbeats 40000000 in
theorem own_rm_sib (l : Launch) (Z : State) (a0 : Array Value) (hw : ∀ d ∈ tables_1, d.before a0 Z = true) (ws : List Jvm.Cond) (x t : Addr) (h0 : Heap) (n0 : Nat) (Z0 : n0 ≤ h0.size) (E_x : Exa Z h0 x "java/lang/String") (F_v : Fld Z h0 x "java/lang/String" "value" "[B" .null) (F_c : Fld Z h0 x "java/lang/String" "coder" "B" (.int (0 : Int32))) (g_x : n0 ≤ x) :
    MetFree l (⟨"java/lang/String", "<init>", "([BB)V"⟩ : MethodName) (head1 (Jvm.Cond.code (⟨"java/lang/String", "<init>", "([BB)V"⟩ : MethodName) jdk_42_method_151_code 3 none :: ws) ({ frames := 1, cells := 0, slots := 0, locals := 12 } : Room)) (fun aa UU => aa = #[(.ref x), (.ref t), (.int (0 : Int32))] ∧ Z.Warmed39 UU.vm ∧ UU.heap = h0) (fun _ _ _ _ _ => True) (fun _ UU oo UU' => ∃ vv LL, oo = .returned vv ∧ own_Q_sib Z x t h0 n0 vv UU'.heap LL ∧ FrameEnd UU oo UU' LL ({ frames := 1, cells := 0, slots := 0, locals := 12 } : Room).cells ({ frames := 1, cells := 0, slots := 0, locals := 12 } : Room).slots) := by
  refine MetFree.of_bodySF (plainFor_of_name own_pn1) hisR ?_
  intro p e s m args below meth c s₁ Bd hml0 hP hK
  obtain ⟨rfl, hZ, hh⟩ := hP
  have hx := Bd.exec
  have hby := Bd.bytes
  have hml : c.maxLocals = 3 := hml0
  have hown : s.vm.findClass "java/lang/String" = some m.cls := findClass_of_methodNamed Bd.named
  have hnm := (name_of_methodNamed Bd.named Bd.method).1
  have X0 : Stand p l e ({ frames := 1, cells := 0, slots := 0, locals := 12 } : Room) s m #[(.ref x), (.ref t), (.int (0 : Int32))] below meth c s₁ [] 0 0 := Stand.of_body Bd
  have e0 : s₁.heap = h0 := by rw [← hh, Bd.state]; rfl
  have N0 := Fr.nil n0
  have K0 : Keep h0 h0 [x] := Keep.refl h0 _
  show own_Gl p e below (own_Post s (own_Q_sib Z x t h0 n0) ({ frames := 1, cells := 0, slots := 0, locals := 12 } : Room).cells ({ frames := 1, cells := 0, slots := 0, locals := 12 } : Room).slots) _
  refine own_st (fun tg_ kg_ => castTop (own_ef_sib m x t (0 : Int32)) kg_) ?_
  show own_Gl p e below _ (s₁.setTop (mkF m 0 #[.val (.ref x), .val (.ref t), .val (.int (0 : Int32))] []))
  refine own_st (fun tg_ kg_ => XS.aloadN X0.here hx rfl (hb hby own_d_jdk_42_method_151_code_0) rfl rfl kg_) ?_
  show own_Gl p e below _ (s₁.setTop (mkF m 1 #[.val (.ref x), .val (.ref t), .val (.int (0 : Int32))] [(.ref x)]))
  obtain ⟨T1, X1, e1, st1⟩ := initO X0 hx hZ hown (hw _ (List.mem_of_getElem? (i := 20) rfl)) (hw _ (List.mem_of_getElem? (i := 21) rfl)) (hw _ (List.mem_of_getElem? (i := 22) rfl)) e0 (g := (mkF m 1 #[.val (.ref x), .val (.ref t), .val (.int (0 : Int32))] [(.ref x)])) rfl (by rw [hml]; rfl) rfl (hb hby own_d_jdk_42_method_151_code_1) (by decide) (W := 0) (by show 2 * 0 + _ ≤ _; exact Nat.le_of_eq rfl) (by decide)
  refine own_st st1 ?_
  try clear st1
  show own_Gl p e below _ (T1.setTop (mkF m 4 #[.val (.ref x), .val (.ref t), .val (.int (0 : Int32))] []))
  refine own_st (fun tg_ kg_ => XS.aloadN X1.here hx rfl (hb hby own_d_jdk_42_method_151_code_4) rfl rfl kg_) ?_
  show own_Gl p e below _ (T1.setTop (mkF m 5 #[.val (.ref x), .val (.ref t), .val (.int (0 : Int32))] [(.ref x)]))
  refine own_st (fun tg_ kg_ => XS.aloadN X1.here hx rfl (hb hby own_d_jdk_42_method_151_code_5) rfl rfl kg_) ?_
  show own_Gl p e below _ (T1.setTop (mkF m 6 #[.val (.ref x), .val (.ref t), .val (.int (0 : Int32))] [(.ref t), (.ref x)]))
  obtain ⟨T2, h2, X2, e2, W2, st2⟩ := putF X1 hx hZ hown (host := "") (Or.inl (hw _ (List.mem_of_getElem? (i := 23) rfl))) Via.refl e1 F_v E_x (Or.inr ⟨(hw _ (List.mem_of_getElem? (i := 24) rfl)), rfl, hnm⟩) (hw _ (List.mem_of_getElem? (i := 11) rfl)) (ty := (.array .byte)) (by decide) rfl rfl (g := (mkF m 6 #[.val (.ref x), .val (.ref t), .val (.int (0 : Int32))] [(.ref t), (.ref x)])) rfl rfl (hb hby own_d_jdk_42_method_151_code_6)
  have N2 := Fr.snoc X2 N0 g_x
  replace E_x := E_x.wr W2
  replace F_v := F_v.same W2
  replace F_c := F_c.other W2 (Or.inr (slot_ne (Or.inr (hw _ (List.mem_of_getElem? (i := 26) rfl))) (Or.inr (hw _ (List.mem_of_getElem? (i := 24) rfl))) (by decide) (t := .byte) (t' := (.array .byte)) (by decide) (by decide)))
  have K3 : Keep h0 h2 [x] := K0.wr W2 (Or.inl (List.mem_of_getElem? (i := 0) rfl))
  refine own_st st2 ?_
  try clear st2
  try clear e1
  try clear X1
  try clear T1
  show own_Gl p e below _ (T2.setTop (mkF m 9 #[.val (.ref x), .val (.ref t), .val (.int (0 : Int32))] []))
  refine own_st (fun tg_ kg_ => XS.aloadN X2.here hx rfl (hb hby own_d_jdk_42_method_151_code_9) rfl rfl kg_) ?_
  show own_Gl p e below _ (T2.setTop (mkF m 10 #[.val (.ref x), .val (.ref t), .val (.int (0 : Int32))] [(.ref x)]))
  refine own_st (fun tg_ kg_ => XS.iloadN X2.here hx rfl (hb hby own_d_jdk_42_method_151_code_10) rfl kg_) ?_
  show own_Gl p e below _ (T2.setTop (mkF m 11 #[.val (.ref x), .val (.ref t), .val (.int (0 : Int32))] [(.int (0 : Int32)), (.ref x)]))
  obtain ⟨T4, h4, X4, e4, W4, st4⟩ := putFN X2 hx hZ hown (hw _ (List.mem_of_getElem? (i := 25) rfl)) Via.refl e2 F_c E_x (Or.inr ⟨(hw _ (List.mem_of_getElem? (i := 26) rfl)), rfl, hnm⟩) (hw _ (List.mem_of_getElem? (i := 11) rfl)) (ty := .byte) (v' := (.int (nar .byte (0 : Int32)))) (by decide) rfl (fits_nar_byte _) (g := (mkF m 11 #[.val (.ref x), .val (.ref t), .val (.int (0 : Int32))] [(.int (0 : Int32)), (.ref x)])) rfl rfl (hb hby own_d_jdk_42_method_151_code_11)
  have N4 := Fr.snoc X4 N2 g_x
  try clear N2
  replace E_x := E_x.wr W4
  replace F_v := F_v.other W4 (Or.inr (slot_ne (Or.inr (hw _ (List.mem_of_getElem? (i := 24) rfl))) (Or.inr (hw _ (List.mem_of_getElem? (i := 26) rfl))) (by decide) (t := (.array .byte)) (t' := .byte) (by decide) (by decide)))
  replace F_c := F_c.same W4
  have K5 : Keep h0 h4 [x] := K3.wr W4 (Or.inl (List.mem_of_getElem? (i := 0) rfl))
  try clear K3
  refine own_st st4 ?_
  try clear st4
  try clear e2
  try clear X2
  try clear T2
  show own_Gl p e below _ (T4.setTop (mkF m 14 #[.val (.ref x), .val (.ref t), .val (.int (0 : Int32))] []))
  exact own_retV X4 hx Bd.notSynchronized Bd.returns (hb hby own_d_jdk_42_method_151_code_14) (by decide) (by decide) e4 (⟨rfl, N4, K5⟩)
theorem own_pd0 : parseMethodDescriptor "(C)Z" = some ⟨[.char], some .boolean⟩ := by decide +kernel
theorem own_pd1 : parseMethodDescriptor "(C)[B" = some ⟨[.char], some (.array .byte)⟩ := by decide +kernel
theorem own_pd2 : parseMethodDescriptor "([BB)V" = some ⟨[(.array .byte), .byte], none⟩ := by decide +kernel
theorem own_d_jdk_42_method_139_code_0 : decode jdk_42_method_139_code 0 = .ok (.getstatic 38, 3) := by decide +kernel
theorem own_d_jdk_42_method_139_code_3 : decode jdk_42_method_139_code 3 = .ok (.ifCond .eq 23, 3) := by decide +kernel
theorem own_d_jdk_42_method_139_code_6 : decode jdk_42_method_139_code 6 = .ok (.iload_n 0, 1) := by decide +kernel
theorem own_d_jdk_42_method_139_code_7 : decode jdk_42_method_139_code 7 = .ok (.invokestatic 1015, 3) := by decide +kernel
theorem own_d_jdk_42_method_139_code_10 : decode jdk_42_method_139_code 10 = .ok (.ifCond .eq 16, 3) := by decide +kernel
theorem own_d_jdk_42_method_139_code_13 : decode jdk_42_method_139_code 13 = .ok (.new 10, 3) := by decide +kernel
theorem own_d_jdk_42_method_139_code_16 : decode jdk_42_method_139_code 16 = .ok (.dup, 1) := by decide +kernel
theorem own_d_jdk_42_method_139_code_17 : decode jdk_42_method_139_code 17 = .ok (.iload_n 0, 1) := by decide +kernel
theorem own_d_jdk_42_method_139_code_18 : decode jdk_42_method_139_code 18 = .ok (.invokestatic 1018, 3) := by decide +kernel
theorem own_d_jdk_42_method_139_code_21 : decode jdk_42_method_139_code 21 = .ok (.iconst 0, 1) := by decide +kernel
theorem own_d_jdk_42_method_139_code_22 : decode jdk_42_method_139_code 22 = .ok (.invokespecial 209, 3) := by decide +kernel
theorem own_d_jdk_42_method_139_code_25 : decode jdk_42_method_139_code 25 = .ok (.areturn, 1) := by decide +kernel
theorem own_ef_val (m : MethodId) (x0 : Int32) : entryFrame m #[(.int x0)] 1 = mkF m 0 #[.val (.int x0)] [] := by first | (simp [entryFrame, mkF, argsToLocals, Value.category]; done) | rfl
def own_Q_val (Z : State) (ch zc : Int32) (h0 : Heap) (n0 : Nat) (v : Option Value) (h : Heap) (L : List Loc) : Prop := (∃ x, v = some (.ref x) ∧ h0.size ≤ x ∧ Exa Z h x "java/lang/String") ∧ Fr n0 L ∧ Ext h0 h
set_option maxRecDepth 65536 in
set_option maxHeartbeats 40000000 in
theorem own_rm_val (l : Launch) (Z : State) (a0 : Array Value) (hw : ∀ d ∈ tables_1, d.before a0 Z = true) (ws : List Jvm.Cond) (ch zc : Int32) (h0 : Heap) (n0 : Nat) (Z0 : n0 ≤ h0.size) (S_C : Sta Z h0 "java/lang/String" "COMPACT_STRINGS" "Z" (.int zc)) (hzc : ¬ zc = 0)(hc : (¬ ch < 0 ∧ ¬ (255 : Int32) < ch)) :
    MetFree l (⟨"java/lang/String", "valueOf", "(C)Ljava/lang/String;"⟩ : MethodName) (head1 (Jvm.Cond.code (⟨"java/lang/String", "valueOf", "(C)Ljava/lang/String;"⟩ : MethodName) jdk_42_method_139_code 1 (some (.object "java/lang/String")) :: ws) ({ frames := 2, cells := 2, slots := 5, locals := 27 } : Room)) (fun aa UU => aa = #[(.int ch)] ∧ Z.Warmed39 UU.vm ∧ UU.heap = h0) (fun _ _ _ _ _ => True) (fun _ UU oo UU' => ∃ vv LL, oo = .returned vv ∧ own_Q_val Z ch zc h0 n0 vv UU'.heap LL ∧ FrameEnd UU oo UU' LL ({ frames := 2, cells := 2, slots := 5, locals := 27 } : Room).cells ({ frames := 2, cells := 2, slots := 5, locals := 27 } : Room).slots) := by
  refine MetFree.of_bodySF (plainFor_of_name own_pn1) hisR ?_
  intro p e s m args below meth c s₁ Bd hml0 hP hK
  obtain ⟨rfl, hZ, hh⟩ := hP
  have hx := Bd.exec
  have hby := Bd.bytes
  have hml : c.maxLocals = 1 := hml0
  have hown : s.vm.findClass "java/lang/String" = some m.cls := findClass_of_methodNamed Bd.named
  have hnm := (name_of_methodNamed Bd.named Bd.method).1
  have X0 : Stand p l e ({ frames := 2, cells := 2, slots := 5, locals := 27 } : Room) s m #[(.int ch)] below meth c s₁ [] 0 0 := Stand.of_body Bd
  have e0 : s₁.heap = h0 := by rw [← hh, Bd.state]; rfl
  have N0 := Fr.nil n0
  show own_Gl p e below (own_Post s (own_Q_val Z ch zc h0 n0) ({ frames := 2, cells := 2, slots := 5, locals := 27 } : Room).cells ({ frames := 2, cells := 2, slots := 5, locals := 27 } : Room).slots) _
  refine own_st (fun tg_ kg_ => castTop (own_ef_val m ch) kg_) ?_
  show own_Gl p e below _ (s₁.setTop (mkF m 0 #[.val (.int ch)] []))
  obtain ⟨T1, X1, e1, st1⟩ := getS2 X0 hx hZ hown (host := "") (Or.inl (hw _ (List.mem_of_getElem? (i := 5) rfl))) Via.refl e0 S_C (g := (mkF m 0 #[.val (.int ch)] [])) rfl (hb hby own_d_jdk_42_method_139_code_0)
  refine own_st st1 ?_
  try clear st1
  show own_Gl p e below _ (T1.setTop (mkF m 3 #[.val (.int ch)] [(.int zc)]))
  refine own_st (fun tg_ kg_ => XS.ifNo X1.here hx rfl (hb hby own_d_jdk_42_method_139_code_3) rfl ((if0 _ _).trans (feq (hzc)).1) kg_) ?_
  show own_Gl p e below _ (T1.setTop (mkF m 6 #[.val (.int ch)] []))
  refine own_st (fun tg_ kg_ => XS.iloadN X1.here hx rfl (hb hby own_d_jdk_42_method_139_code_6) rfl kg_) ?_
  show own_Gl p e below _ (T1.setTop (mkF m 7 #[.val (.int ch)] [(.int ch)]))
  obtain ⟨_, _, ⟨T2, L2, k2, n2⟩, -, X2, ⟨Lc2, hQ2, l2, y2, z2⟩, st2⟩ := Jvm.LawKit.callS X1 hx (y := (⟨"java/lang/StringLatin1", "canEncode", "(C)Z"⟩ : MethodName)) hown (mvT hZ (hw _ (List.mem_of_getElem? (i := 6) rfl))) (mvT hZ (hw _ (List.mem_of_getElem? (i := 7) rfl))) (mvT hZ (hw _ (List.mem_of_getElem? (i := 8) rfl))) (mvT hZ (hw _ (List.mem_of_getElem? (i := 9) rfl))) (by decide) (backOf (W := 0) (own_rm_can l Z a0 hw [] ch h0 n0 Z0 hc) hZ (hw _ (List.mem_of_getElem? (i := 9) rfl)) (hw _ (List.mem_of_getElem? (i := 8) rfl)) (by decide) (by decide)) (g := (mkF m 7 #[.val (.int ch)] [(.int ch)])) rfl (by rw [hml]; rfl) (argsL := [(.int ch)]) (rest := []) (lenOf own_pd0 rfl) rfl (by show 2 * 0 + _ ≤ _; exact Nat.le_of_eq rfl) (hb hby own_d_jdk_42_method_139_code_7) (fun _ _ => ⟨rfl, e1, (by decide : 0 + 0 ≤ _), (by decide : 0 + 0 ≤ _)⟩)
  dsimp only [Pt.U, Pt.locs, Pt.cells, Pt.slots] at X2 l2 y2 z2 st2 hQ2
  obtain rfl : k2 = 0 := y2
  obtain rfl : n2 = 0 := z2
  obtain ⟨rfl, N2q, e2⟩ := hQ2
  have N2 : Fr n0 L2 := by rw [l2]; exact Fr.app N0 N2q
  try clear l2
  refine own_st st2 ?_
  show own_Gl p e below _ (T2.setTop (mkF m 10 #[.val (.int ch)] [(.int (1 : Int32))]))
  try clear st2
  try clear N2q
  try clear e1
  try clear X1
  try clear T1
  refine own_st (fun tg_ kg_ => XS.ifNo X2.here hx rfl (hb hby own_d_jdk_42_method_139_code_10) rfl ((if0 _ _).trans (feq ((by decide : ¬ ((1 : Int32) = (0 : Int32))))).1) kg_) ?_
  show own_Gl p e below _ (T2.setTop (mkF m 13 #[.val (.int ch)] []))
  obtain ⟨T3, h3, X3, e3, E3, A3, D3, -, st3⟩ := newO X2 hx hZ hown (hw _ (List.mem_of_getElem? (i := 10) rfl)) (hw _ (List.mem_of_getElem? (i := 11) rfl)) (hw _ (List.mem_of_getElem? (i := 3) rfl)) e2 (g := (mkF m 13 #[.val (.int ch)] [])) rfl (hb hby own_d_jdk_42_method_139_code_13) (by decide) (by decide)
  obtain ⟨x, g3⟩ : ∃ z, z = h0.size := ⟨_, rfl⟩
  have sz_x : h0.size ≤ x := Nat.le_of_eq g3.symm
  have g_x : n0 ≤ x := Nat.le_trans Z0 sz_x
  rw [← g3] at A3 D3 st3
  have E_x := A3
  have F_value_x : Fld Z h3 x "java/lang/String" "value" "[B" .null := D3 (Or.inr (hw _ (List.mem_of_getElem? (i := 24) rfl))) (ty := (.array .byte)) (by decide)
  have F_coder_x : Fld Z h3 x "java/lang/String" "coder" "B" (.int (0 : Int32)) := D3 (Or.inr (hw _ (List.mem_of_getElem? (i := 26) rfl))) (ty := .byte) (by decide)
  refine own_st st3 ?_
  try clear st3
  try clear e2
  try clear X2
  try clear T2
  show own_Gl p e below _ (T3.setTop (mkF m 16 #[.val (.int ch)] [(.ref x)]))
  refine own_st (fun tg_ kg_ => XS.dup X3.here hx rfl (hb hby own_d_jdk_42_method_139_code_16) rfl rfl kg_) ?_
  show own_Gl p e below _ (T3.setTop (mkF m 17 #[.val (.int ch)] [(.ref x), (.ref x)]))
  refine own_st (fun tg_ kg_ => XS.iloadN X3.here hx rfl (hb hby own_d_jdk_42_method_139_code_17) rfl kg_) ?_
  show own_Gl p e below _ (T3.setTop (mkF m 18 #[.val (.int ch)] [(.int ch), (.ref x), (.ref x)]))
  obtain ⟨_, _, ⟨T5, L5, k5, n5⟩, -, X5, ⟨Lc5, hQ5, l5, y5, z5⟩, st5⟩ := Jvm.LawKit.callS X3 hx (y := (⟨"java/lang/StringLatin1", "toBytes", "(C)[B"⟩ : MethodName)) hown (mvT hZ (hw _ (List.mem_of_getElem? (i := 12) rfl))) (mvT hZ (hw _ (List.mem_of_getElem? (i := 13) rfl))) (mvT hZ (hw _ (List.mem_of_getElem? (i := 8) rfl))) (mvT hZ (hw _ (List.mem_of_getElem? (i := 14) rfl))) (by decide) (backOf (W := 2) (own_rm_tob l Z a0 hw [] ch h3 n0 (Nat.le_trans Z0 E3.1)) hZ (hw _ (List.mem_of_getElem? (i := 14) rfl)) (hw _ (List.mem_of_getElem? (i := 8) rfl)) (by decide) (by decide)) (g := (mkF m 18 #[.val (.int ch)] [(.int ch), (.ref x), (.ref x)])) rfl (by rw [hml]; rfl) (argsL := [(.int ch)]) (rest := [(.ref x), (.ref x)]) (lenOf own_pd1 rfl) rfl (by show 2 * 0 + _ ≤ _; exact Nat.le_of_eq rfl) (hb hby own_d_jdk_42_method_139_code_18) (fun _ _ => ⟨rfl, e3, (by decide : 1 + 1 ≤ _), (by decide : 4 + 1 ≤ _)⟩)
  dsimp only [Pt.U, Pt.locs, Pt.cells, Pt.slots] at X5 l5 y5 z5 st5 hQ5
  obtain rfl : k5 = 2 := y5
  obtain rfl : n5 = 5 := z5
  obtain ⟨⟨t, rfl, szc5⟩, N5q, Kc5⟩ := hQ5
  have N5 : Fr n0 L5 := by rw [l5]; exact Fr.app N2 N5q
  try clear l5
  refine own_st st5 ?_
  have ne_x_t : x ≠ t := Nat.ne_of_lt (Nat.lt_of_lt_of_le E_x.lt szc5)
  have sz_t : h0.size ≤ t := Nat.le_trans E3.1 szc5
  have g_t : n0 ≤ t := Nat.le_trans Z0 sz_t
  replace E_x := E_x.ext Kc5
  replace F_value_x := F_value_x.ext Kc5
  replace F_coder_x := F_coder_x.ext Kc5
  have K6 := own_ext_tr E3 Kc5
  try clear Kc5
  try clear E3
  show own_Gl p e below _ (T5.setTop (mkF m 21 #[.val (.int ch)] [(.ref t), (.ref x), (.ref x)]))
  try clear st5
  try clear N5q
  try clear N2
  try clear e3
  try clear X3
  try clear T3
  refine own_st (fun tg_ kg_ => XS.iconst X5.here hx rfl (hb hby own_d_jdk_42_method_139_code_21) kg_) ?_
  show own_Gl p e below _ (T5.setTop (mkF m 22 #[.val (.int ch)] [(.int (0 : Int32)), (.ref t), (.ref x), (.ref x)]))
  obtain ⟨_, _, ⟨T7, L7, k7, n7⟩, -, X7, ⟨Lc7, hQ7, l7, y7, z7⟩, st7⟩ := X5.specialBack hx (y := (⟨"java/lang/String", "<init>", "([BB)V"⟩ : MethodName)) rfl hown (mvT hZ (hw _ (List.mem_of_getElem? (i := 16) rfl))) (mvT hZ (hw _ (List.mem_of_getElem? (i := 17) rfl))) (mvT hZ (hw _ (List.mem_of_getElem? (i := 19) rfl))) (by decide) (backOf (W := 1) (own_rm_sib l Z a0 hw [] x t T5.heap n0 (Nat.le_trans Z0 K6.1) E_x F_value_x F_coder_x g_x) hZ (hw _ (List.mem_of_getElem? (i := 19) rfl)) (hw _ (List.mem_of_getElem? (i := 3) rfl)) (by decide) (by decide)) (g := (mkF m 22 #[.val (.int ch)] [(.int (0 : Int32)), (.ref t), (.ref x), (.ref x)])) rfl (by rw [hml]; rfl) (Steps.refl _) (a := x) (argsL := [(.ref t), (.int (0 : Int32))]) (rest := [(.ref x)]) (lenOf own_pd2 rfl) rfl (by show 2 * 0 + _ ≤ _; exact Nat.le_of_eq rfl) (hb hby own_d_jdk_42_method_139_code_22) (fun _ _ => ⟨rfl, rfl, (by decide : 2 + 0 ≤ _), (by decide : 5 + 0 ≤ _)⟩)
  dsimp only [Pt.U, Pt.locs, Pt.cells, Pt.slots] at X7 l7 y7 z7 st7 hQ7
  obtain rfl : k7 = 2 := y7
  obtain rfl : n7 = 5 := z7
  obtain ⟨rfl, N7q, Kc7⟩ := hQ7
  have N7 : Fr n0 L7 := by rw [l7]; exact Fr.app N5 N7q
  try clear l7
  refine own_tr st7 ?_
  replace E_x := E_x.keep Kc7
  have K8 := own_ext_keep K6 Kc7 (allS sz_x all0)
  try clear Kc7
  try clear K6
  show own_Gl p e below _ (T7.setTop (mkF m 25 #[.val (.int ch)] [(.ref x)]))
  try clear st7
  try clear N7q
  try clear N5
  try clear X5
  try clear T5
  exact own_retA X7 hx Bd.notSynchronized Bd.returns rfl rfl (hb hby own_d_jdk_42_method_139_code_25) (by decide) (by decide) rfl (⟨⟨_, rfl, sz_x, E_x⟩, N7, K8⟩)
theorem own_pn2 : plainName "com/example/highwater/highwater/store/StoredMessage" = true := by first | (simp [plainName, overriddenIn]; done) | decide +kernel
theorem own_d_prog_31_method_1_code_0 : decode prog_31_method_1_code 0 = .ok (.aload_n 0, 1) := by decide +kernel
theorem own_d_prog_31_method_1_code_1 : decode prog_31_method_1_code 1 = .ok (.invokespecial 1, 3) := by decide +kernel
theorem own_d_prog_31_method_1_code_4 : decode prog_31_method_1_code 4 = .ok (.aload_n 0, 1) := by decide +kernel
theorem own_d_prog_31_method_1_code_5 : decode prog_31_method_1_code 5 = .ok (.lload_n 1, 1) := by decide +kernel
theorem own_d_prog_31_method_1_code_6 : decode prog_31_method_1_code 6 = .ok (.putfield 7, 3) := by decide +kernel
theorem own_d_prog_31_method_1_code_9 : decode prog_31_method_1_code 9 = .ok (.aload_n 0, 1) := by decide +kernel
theorem own_d_prog_31_method_1_code_10 : decode prog_31_method_1_code 10 = .ok (.lload_n 3, 1) := by decide +kernel
theorem own_d_prog_31_method_1_code_11 : decode prog_31_method_1_code 11 = .ok (.putfield 13, 3) := by decide +kernel
theorem own_d_prog_31_method_1_code_14 : decode prog_31_method_1_code 14 = .ok (.aload_n 0, 1) := by decide +kernel
theorem own_d_prog_31_method_1_code_15 : decode prog_31_method_1_code 15 = .ok (.lload 5, 2) := by decide +kernel
theorem own_d_prog_31_method_1_code_17 : decode prog_31_method_1_code 17 = .ok (.putfield 16, 3) := by decide +kernel
theorem own_d_prog_31_method_1_code_20 : decode prog_31_method_1_code 20 = .ok (.aload_n 0, 1) := by decide +kernel
theorem own_d_prog_31_method_1_code_21 : decode prog_31_method_1_code 21 = .ok (.aload 7, 2) := by decide +kernel
theorem own_d_prog_31_method_1_code_23 : decode prog_31_method_1_code 23 = .ok (.putfield 19, 3) := by decide +kernel
theorem own_d_prog_31_method_1_code_26 : decode prog_31_method_1_code 26 = .ok (.aload_n 0, 1) := by decide +kernel
theorem own_d_prog_31_method_1_code_27 : decode prog_31_method_1_code 27 = .ok (.aload 8, 2) := by decide +kernel
theorem own_d_prog_31_method_1_code_29 : decode prog_31_method_1_code 29 = .ok (.putfield 23, 3) := by decide +kernel
theorem own_d_prog_31_method_1_code_32 : decode prog_31_method_1_code 32 = .ok (.aload_n 0, 1) := by decide +kernel
theorem own_d_prog_31_method_1_code_33 : decode prog_31_method_1_code 33 = .ok (.lload 9, 2) := by decide +kernel
theorem own_d_prog_31_method_1_code_35 : decode prog_31_method_1_code 35 = .ok (.putfield 26, 3) := by decide +kernel
theorem own_d_prog_31_method_1_code_38 : decode prog_31_method_1_code 38 = .ok (.aload_n 0, 1) := by decide +kernel
theorem own_d_prog_31_method_1_code_39 : decode prog_31_method_1_code 39 = .ok (.aload 11, 2) := by decide +kernel
theorem own_d_prog_31_method_1_code_41 : decode prog_31_method_1_code 41 = .ok (.putfield 29, 3) := by decide +kernel
theorem own_d_prog_31_method_1_code_44 : decode prog_31_method_1_code 44 = .ok (.aload_n 0, 1) := by decide +kernel
theorem own_d_prog_31_method_1_code_45 : decode prog_31_method_1_code 45 = .ok (.aload 12, 2) := by decide +kernel
theorem own_d_prog_31_method_1_code_47 : decode prog_31_method_1_code 47 = .ok (.putfield 32, 3) := by decide +kernel
theorem own_d_prog_31_method_1_code_50 : decode prog_31_method_1_code 50 = .ok (.aload_n 0, 1) := by decide +kernel
theorem own_d_prog_31_method_1_code_51 : decode prog_31_method_1_code 51 = .ok (.lload 13, 2) := by decide +kernel
theorem own_d_prog_31_method_1_code_53 : decode prog_31_method_1_code 53 = .ok (.putfield 35, 3) := by decide +kernel
theorem own_d_prog_31_method_1_code_56 : decode prog_31_method_1_code 56 = .ok (.aload_n 0, 1) := by decide +kernel
theorem own_d_prog_31_method_1_code_57 : decode prog_31_method_1_code 57 = .ok (.iload 15, 2) := by decide +kernel
theorem own_d_prog_31_method_1_code_59 : decode prog_31_method_1_code 59 = .ok (.putfield 38, 3) := by decide +kernel
theorem own_d_prog_31_method_1_code_62 : decode prog_31_method_1_code 62 = .ok (.aload_n 0, 1) := by decide +kernel
theorem own_d_prog_31_method_1_code_63 : decode prog_31_method_1_code 63 = .ok (.lload 16, 2) := by decide +kernel
theorem own_d_prog_31_method_1_code_65 : decode prog_31_method_1_code 65 = .ok (.putfield 42, 3) := by decide +kernel
theorem own_d_prog_31_method_1_code_68 : decode prog_31_method_1_code 68 = .ok (.return_, 1) := by decide +kernel
theorem own_ef_smiN (m : MethodId) (x0 : Addr) (x1 : Int64) (x2 : Int64) (x3 : Int64) (x4 : Addr) (x6 : Int64) (x7 : Addr) (x8 : Addr) (x9 : Int64) (x10 : Int32) (x11 : Int64) : entryFrame m #[(.ref x0), (.long x1), (.long x2), (.long x3), (.ref x4), .null, (.long x6), (.ref x7), (.ref x8), (.long x9), (.int x10), (.long x11)] 18 = mkF m 0 #[.val (.ref x0), .val (.long x1), .second, .val (.long x2), .second, .val (.long x3), .second, .val (.ref x4), .val .null, .val (.long x6), .second, .val (.ref x7), .val (.ref x8), .val (.long x9), .second, .val (.int x10), .val (.long x11), .second] [] := by first | (simp [entryFrame, mkF, argsToLocals, Value.category]; done) | rfl
def own_Q_smiN (Z : State) (a f cm bd : Addr) (q1 q2 q3 q4 q5 q6 : Int64) (rv : Int32) (h0 : Heap) (n0 : Nat) (v : Option Value) (h : Heap) (L : List Loc) : Prop := v = none ∧ Fr n0 L ∧ Keep h0 h [a] ∧ Fld Z h a "com/example/highwater/highwater/store/StoredMessage" "serverMsgId" "J" (.long q1) ∧ Fld Z h a "com/example/highwater/highwater/store/StoredMessage" "conversationId" "J" (.long q2) ∧ Fld Z h a "com/example/highwater/highwater/store/StoredMessage" "msgSeq" "J" (.long q3) ∧ Fld Z h a "com/example/highwater/highwater/store/StoredMessage" "from" "Ljava/lang/String;" (.ref f) ∧ Fld Z h a "com/example/highwater/highwater/store/StoredMessage" "to" "Ljava/lang/String;" .null ∧ Fld Z h a "com/example/highwater/highwater/store/StoredMessage" "groupId" "J" (.long q4) ∧ Fld Z h a "com/example/highwater/highwater/store/StoredMessage" "clientMsgId" "Ljava/lang/String;" (.ref cm) ∧ Fld Z h a "com/example/highwater/highwater/store/StoredMessage" "body" "Ljava/lang/String;" (.ref bd) ∧ Fld Z h a "com/example/highwater/highwater/store/StoredMessage" "ts" "J" (.long q5) ∧ Fld Z h a "com/example/highwater/highwater/store/StoredMessage" "revoked" "Z" (.int (nar .boolean rv)) ∧ Fld Z h a "com/example/highwater/highwater/store/StoredMessage" "revokedTs" "J" (.long q6)
set_option maxRecDepth 65536 in
set_option maxHeartbeats 40000000 in
theorem own_rm_smiN (l : Launch) (Z : State) (a0 : Array Value) (hw : ∀ d ∈ tables_1, d.before a0 Z = true) (ws : List Jvm.Cond) (a f cm bd : Addr) (q1 q2 q3 q4 q5 q6 : Int64) (rv : Int32) (h0 : Heap) (n0 : Nat) (Z0 : n0 ≤ h0.size) (E_a : Exa Z h0 a "com/example/highwater/highwater/store/StoredMessage") (F_serverMsgId : Fld Z h0 a "com/example/highwater/highwater/store/StoredMessage" "serverMsgId" "J" (.long (0 : Int64))) (F_conversationId : Fld Z h0 a "com/example/highwater/highwater/store/StoredMessage" "conversationId" "J" (.long (0 : Int64))) (F_msgSeq : Fld Z h0 a "com/example/highwater/highwater/store/StoredMessage" "msgSeq" "J" (.long (0 : Int64))) (F_from : Fld Z h0 a "com/example/highwater/highwater/store/StoredMessage" "from" "Ljava/lang/String;" .null) (F_to : Fld Z h0 a "com/example/highwater/highwater/store/StoredMessage" "to" "Ljava/lang/String;" .null) (F_groupId : Fld Z h0 a "com/example/highwater/highwater/store/StoredMessage" "groupId" "J" (.long (0 : Int64))) (F_clientMsgId : Fld Z h0 a "com/example/highwater/highwater/store/StoredMessage" "clientMsgId" "Ljava/lang/String;" .null) (F_body : Fld Z h0 a "com/example/highwater/highwater/store/StoredMessage" "body" "Ljava/lang/String;" .null) (F_ts : Fld Z h0 a "com/example/highwater/highwater/store/StoredMessage" "ts" "J" (.long (0 : Int64))) (F_revoked : Fld Z h0 a "com/example/highwater/highwater/store/StoredMessage" "revoked" "Z" (.int (0 : Int32))) (F_revokedTs : Fld Z h0 a "com/example/highwater/highwater/store/StoredMessage" "revokedTs" "J" (.long (0 : Int64))) (g_a : n0 ≤ a) :
    MetFree l (⟨"com/example/highwater/highwater/store/StoredMessage", "<init>", "(JJJLjava/lang/String;Ljava/lang/String;JLjava/lang/String;Ljava/lang/String;JZJ)V"⟩ : MethodName) (head1 (Jvm.Cond.code (⟨"com/example/highwater/highwater/store/StoredMessage", "<init>", "(JJJLjava/lang/String;Ljava/lang/String;JLjava/lang/String;Ljava/lang/String;JZJ)V"⟩ : MethodName) prog_31_method_1_code 18 none :: ws) ({ frames := 1, cells := 0, slots := 0, locals := 12 } : Room)) (fun aa UU => aa = #[(.ref a), (.long q1), (.long q2), (.long q3), (.ref f), .null, (.long q4), (.ref cm), (.ref bd), (.long q5), (.int rv), (.long q6)] ∧ Z.Warmed39 UU.vm ∧ UU.heap = h0) (fun _ _ _ _ _ => True) (fun _ UU oo UU' => ∃ vv LL, oo = .returned vv ∧ own_Q_smiN Z a f cm bd q1 q2 q3 q4 q5 q6 rv h0 n0 vv UU'.heap LL ∧ FrameEnd UU oo UU' LL ({ frames := 1, cells := 0, slots := 0, locals := 12 } : Room).cells ({ frames := 1, cells := 0, slots := 0, locals := 12 } : Room).slots) := by
  refine MetFree.of_bodySF (plainFor_of_name own_pn2) hisR ?_
  intro p e s m args below meth c s₁ Bd hml0 hP hK
  obtain ⟨rfl, hZ, hh⟩ := hP
  have hx := Bd.exec
  have hby := Bd.bytes
  have hml : c.maxLocals = 18 := hml0
  have hown : s.vm.findClass "com/example/highwater/highwater/store/StoredMessage" = some m.cls := findClass_of_methodNamed Bd.named
  have hnm := (name_of_methodNamed Bd.named Bd.method).1
  have X0 : Stand p l e ({ frames := 1, cells := 0, slots := 0, locals := 12 } : Room) s m #[(.ref a), (.long q1), (.long q2), (.long q3), (.ref f), .null, (.long q4), (.ref cm), (.ref bd), (.long q5), (.int rv), (.long q6)] below meth c s₁ [] 0 0 := Stand.of_body Bd
  have e0 : s₁.heap = h0 := by rw [← hh, Bd.state]; rfl
  have N0 := Fr.nil n0
  have K0 : Keep h0 h0 [a] := Keep.refl h0 _
  show own_Gl p e below (own_Post s (own_Q_smiN Z a f cm bd q1 q2 q3 q4 q5 q6 rv h0 n0) ({ frames := 1, cells := 0, slots := 0, locals := 12 } : Room).cells ({ frames := 1, cells := 0, slots := 0, locals := 12 } : Room).slots) _
  refine own_st (fun tg_ kg_ => castTop (own_ef_smiN m a q1 q2 q3 f q4 cm bd q5 rv q6) kg_) ?_
  show own_Gl p e below _ (s₁.setTop (mkF m 0 #[.val (.ref a), .val (.long q1), .second, .val (.long q2), .second, .val (.long q3), .second, .val (.ref f), .val .null, .val (.long q4), .second, .val (.ref cm), .val (.ref bd), .val (.long q5), .second, .val (.int rv), .val (.long q6), .second] []))
  refine own_st (fun tg_ kg_ => XS.aloadN X0.here hx rfl (hb hby own_d_prog_31_method_1_code_0) rfl rfl kg_) ?_
  show own_Gl p e below _ (s₁.setTop (mkF m 1 #[.val (.ref a), .val (.long q1), .second, .val (.long q2), .second, .val (.long q3), .second, .val (.ref f), .val .null, .val (.long q4), .second, .val (.ref cm), .val (.ref bd), .val (.long q5), .second, .val (.int rv), .val (.long q6), .second] [(.ref a)]))
  obtain ⟨T1, X1, e1, st1⟩ := initO X0 hx hZ hown (hw _ (List.mem_of_getElem? (i := 51) rfl)) (hw _ (List.mem_of_getElem? (i := 21) rfl)) (hw _ (List.mem_of_getElem? (i := 22) rfl)) e0 (g := (mkF m 1 #[.val (.ref a), .val (.long q1), .second, .val (.long q2), .second, .val (.long q3), .second, .val (.ref f), .val .null, .val (.long q4), .second, .val (.ref cm), .val (.ref bd), .val (.long q5), .second, .val (.int rv), .val (.long q6), .second] [(.ref a)])) rfl (by rw [hml]; rfl) rfl (hb hby own_d_prog_31_method_1_code_1) (by decide) (W := 0) (by show 2 * 0 + _ ≤ _; exact Nat.le_of_eq rfl) (by decide)
  refine own_st st1 ?_
  try clear st1
  show own_Gl p e below _ (T1.setTop (mkF m 4 #[.val (.ref a), .val (.long q1), .second, .val (.long q2), .second, .val (.long q3), .second, .val (.ref f), .val .null, .val (.long q4), .second, .val (.ref cm), .val (.ref bd), .val (.long q5), .second, .val (.int rv), .val (.long q6), .second] []))
  refine own_st (fun tg_ kg_ => XS.aloadN X1.here hx rfl (hb hby own_d_prog_31_method_1_code_4) rfl rfl kg_) ?_
  show own_Gl p e below _ (T1.setTop (mkF m 5 #[.val (.ref a), .val (.long q1), .second, .val (.long q2), .second, .val (.long q3), .second, .val (.ref f), .val .null, .val (.long q4), .second, .val (.ref cm), .val (.ref bd), .val (.long q5), .second, .val (.int rv), .val (.long q6), .second] [(.ref a)]))
  refine own_st (fun tg_ kg_ => XS.lloadN X1.here hx rfl (hb hby own_d_prog_31_method_1_code_5) rfl kg_) ?_
  show own_Gl p e below _ (T1.setTop (mkF m 6 #[.val (.ref a), .val (.long q1), .second, .val (.long q2), .second, .val (.long q3), .second, .val (.ref f), .val .null, .val (.long q4), .second, .val (.ref cm), .val (.ref bd), .val (.long q5), .second, .val (.int rv), .val (.long q6), .second] [(.long q1), (.ref a)]))
  obtain ⟨T2, h2, X2, e2, W2, st2⟩ := putF X1 hx hZ hown (host := "") (Or.inl (hw _ (List.mem_of_getElem? (i := 52) rfl))) Via.refl e1 F_serverMsgId E_a (Or.inr ⟨(hw _ (List.mem_of_getElem? (i := 53) rfl)), rfl, hnm⟩) (hw _ (List.mem_of_getElem? (i := 46) rfl)) (ty := .long) (by decide) rfl rfl (g := (mkF m 6 #[.val (.ref a), .val (.long q1), .second, .val (.long q2), .second, .val (.long q3), .second, .val (.ref f), .val .null, .val (.long q4), .second, .val (.ref cm), .val (.ref bd), .val (.long q5), .second, .val (.int rv), .val (.long q6), .second] [(.long q1), (.ref a)])) rfl rfl (hb hby own_d_prog_31_method_1_code_6)
  have N2 := Fr.snoc X2 N0 g_a
  replace E_a := E_a.wr W2
  replace F_serverMsgId := F_serverMsgId.same W2
  replace F_conversationId := F_conversationId.other W2 (Or.inr (slot_ne (Or.inr (hw _ (List.mem_of_getElem? (i := 55) rfl))) (Or.inr (hw _ (List.mem_of_getElem? (i := 53) rfl))) (by decide) (t := .long) (t' := .long) (by decide) (by decide)))
  replace F_msgSeq := F_msgSeq.other W2 (Or.inr (slot_ne (Or.inr (hw _ (List.mem_of_getElem? (i := 57) rfl))) (Or.inr (hw _ (List.mem_of_getElem? (i := 53) rfl))) (by decide) (t := .long) (t' := .long) (by decide) (by decide)))
  replace F_from := F_from.other W2 (Or.inr (slot_ne (Or.inr (hw _ (List.mem_of_getElem? (i := 59) rfl))) (Or.inr (hw _ (List.mem_of_getElem? (i := 53) rfl))) (by decide) (t := (.object "java/lang/String")) (t' := .long) (by decide) (by decide)))
  replace F_to := F_to.other W2 (Or.inr (slot_ne (Or.inr (hw _ (List.mem_of_getElem? (i := 61) rfl))) (Or.inr (hw _ (List.mem_of_getElem? (i := 53) rfl))) (by decide) (t := (.object "java/lang/String")) (t' := .long) (by decide) (by decide)))
  replace F_groupId := F_groupId.other W2 (Or.inr (slot_ne (Or.inr (hw _ (List.mem_of_getElem? (i := 63) rfl))) (Or.inr (hw _ (List.mem_of_getElem? (i := 53) rfl))) (by decide) (t := .long) (t' := .long) (by decide) (by decide)))
  replace F_clientMsgId := F_clientMsgId.other W2 (Or.inr (slot_ne (Or.inr (hw _ (List.mem_of_getElem? (i := 65) rfl))) (Or.inr (hw _ (List.mem_of_getElem? (i := 53) rfl))) (by decide) (t := (.object "java/lang/String")) (t' := .long) (by decide) (by decide)))
  replace F_body := F_body.other W2 (Or.inr (slot_ne (Or.inr (hw _ (List.mem_of_getElem? (i := 67) rfl))) (Or.inr (hw _ (List.mem_of_getElem? (i := 53) rfl))) (by decide) (t := (.object "java/lang/String")) (t' := .long) (by decide) (by decide)))
  replace F_ts := F_ts.other W2 (Or.inr (slot_ne (Or.inr (hw _ (List.mem_of_getElem? (i := 69) rfl))) (Or.inr (hw _ (List.mem_of_getElem? (i := 53) rfl))) (by decide) (t := .long) (t' := .long) (by decide) (by decide)))
  replace F_revoked := F_revoked.other W2 (Or.inr (slot_ne (Or.inr (hw _ (List.mem_of_getElem? (i := 71) rfl))) (Or.inr (hw _ (List.mem_of_getElem? (i := 53) rfl))) (by decide) (t := .boolean) (t' := .long) (by decide) (by decide)))
  replace F_revokedTs := F_revokedTs.other W2 (Or.inr (slot_ne (Or.inr (hw _ (List.mem_of_getElem? (i := 73) rfl))) (Or.inr (hw _ (List.mem_of_getElem? (i := 53) rfl))) (by decide) (t := .long) (t' := .long) (by decide) (by decide)))
  have K3 : Keep h0 h2 [a] := K0.wr W2 (Or.inl (List.mem_of_getElem? (i := 0) rfl))
  refine own_st st2 ?_
  try clear st2
  try clear e1
  try clear X1
  try clear T1
  show own_Gl p e below _ (T2.setTop (mkF m 9 #[.val (.ref a), .val (.long q1), .second, .val (.long q2), .second, .val (.long q3), .second, .val (.ref f), .val .null, .val (.long q4), .second, .val (.ref cm), .val (.ref bd), .val (.long q5), .second, .val (.int rv), .val (.long q6), .second] []))
  refine own_st (fun tg_ kg_ => XS.aloadN X2.here hx rfl (hb hby own_d_prog_31_method_1_code_9) rfl rfl kg_) ?_
  show own_Gl p e below _ (T2.setTop (mkF m 10 #[.val (.ref a), .val (.long q1), .second, .val (.long q2), .second, .val (.long q3), .second, .val (.ref f), .val .null, .val (.long q4), .second, .val (.ref cm), .val (.ref bd), .val (.long q5), .second, .val (.int rv), .val (.long q6), .second] [(.ref a)]))
  refine own_st (fun tg_ kg_ => XS.lloadN X2.here hx rfl (hb hby own_d_prog_31_method_1_code_10) rfl kg_) ?_
  show own_Gl p e below _ (T2.setTop (mkF m 11 #[.val (.ref a), .val (.long q1), .second, .val (.long q2), .second, .val (.long q3), .second, .val (.ref f), .val .null, .val (.long q4), .second, .val (.ref cm), .val (.ref bd), .val (.long q5), .second, .val (.int rv), .val (.long q6), .second] [(.long q2), (.ref a)]))
  obtain ⟨T4, h4, X4, e4, W4, st4⟩ := putF X2 hx hZ hown (host := "") (Or.inl (hw _ (List.mem_of_getElem? (i := 54) rfl))) Via.refl e2 F_conversationId E_a (Or.inr ⟨(hw _ (List.mem_of_getElem? (i := 55) rfl)), rfl, hnm⟩) (hw _ (List.mem_of_getElem? (i := 46) rfl)) (ty := .long) (by decide) rfl rfl (g := (mkF m 11 #[.val (.ref a), .val (.long q1), .second, .val (.long q2), .second, .val (.long q3), .second, .val (.ref f), .val .null, .val (.long q4), .second, .val (.ref cm), .val (.ref bd), .val (.long q5), .second, .val (.int rv), .val (.long q6), .second] [(.long q2), (.ref a)])) rfl rfl (hb hby own_d_prog_31_method_1_code_11)
  have N4 := Fr.snoc X4 N2 g_a
  try clear N2
  replace E_a := E_a.wr W4
  replace F_serverMsgId := F_serverMsgId.other W4 (Or.inr (slot_ne (Or.inr (hw _ (List.mem_of_getElem? (i := 53) rfl))) (Or.inr (hw _ (List.mem_of_getElem? (i := 55) rfl))) (by decide) (t := .long) (t' := .long) (by decide) (by decide)))
  replace F_conversationId := F_conversationId.same W4
  replace F_msgSeq := F_msgSeq.other W4 (Or.inr (slot_ne (Or.inr (hw _ (List.mem_of_getElem? (i := 57) rfl))) (Or.inr (hw _ (List.mem_of_getElem? (i := 55) rfl))) (by decide) (t := .long) (t' := .long) (by decide) (by decide)))
  replace F_from := F_from.other W4 (Or.inr (slot_ne (Or.inr (hw _ (List.mem_of_getElem? (i := 59) rfl))) (Or.inr (hw _ (List.mem_of_getElem? (i := 55) rfl))) (by decide) (t := (.object "java/lang/String")) (t' := .long) (by decide) (by decide)))
  replace F_to := F_to.other W4 (Or.inr (slot_ne (Or.inr (hw _ (List.mem_of_getElem? (i := 61) rfl))) (Or.inr (hw _ (List.mem_of_getElem? (i := 55) rfl))) (by decide) (t := (.object "java/lang/String")) (t' := .long) (by decide) (by decide)))
  replace F_groupId := F_groupId.other W4 (Or.inr (slot_ne (Or.inr (hw _ (List.mem_of_getElem? (i := 63) rfl))) (Or.inr (hw _ (List.mem_of_getElem? (i := 55) rfl))) (by decide) (t := .long) (t' := .long) (by decide) (by decide)))
  replace F_clientMsgId := F_clientMsgId.other W4 (Or.inr (slot_ne (Or.inr (hw _ (List.mem_of_getElem? (i := 65) rfl))) (Or.inr (hw _ (List.mem_of_getElem? (i := 55) rfl))) (by decide) (t := (.object "java/lang/String")) (t' := .long) (by decide) (by decide)))
  replace F_body := F_body.other W4 (Or.inr (slot_ne (Or.inr (hw _ (List.mem_of_getElem? (i := 67) rfl))) (Or.inr (hw _ (List.mem_of_getElem? (i := 55) rfl))) (by decide) (t := (.object "java/lang/String")) (t' := .long) (by decide) (by decide)))
  replace F_ts := F_ts.other W4 (Or.inr (slot_ne (Or.inr (hw _ (List.mem_of_getElem? (i := 69) rfl))) (Or.inr (hw _ (List.mem_of_getElem? (i := 55) rfl))) (by decide) (t := .long) (t' := .long) (by decide) (by decide)))
  replace F_revoked := F_revoked.other W4 (Or.inr (slot_ne (Or.inr (hw _ (List.mem_of_getElem? (i := 71) rfl))) (Or.inr (hw _ (List.mem_of_getElem? (i := 55) rfl))) (by decide) (t := .boolean) (t' := .long) (by decide) (by decide)))
  replace F_revokedTs := F_revokedTs.other W4 (Or.inr (slot_ne (Or.inr (hw _ (List.mem_of_getElem? (i := 73) rfl))) (Or.inr (hw _ (List.mem_of_getElem? (i := 55) rfl))) (by decide) (t := .long) (t' := .long) (by decide) (by decide)))
  have K5 : Keep h0 h4 [a] := K3.wr W4 (Or.inl (List.mem_of_getElem? (i := 0) rfl))
  try clear K3
  refine own_st st4 ?_
  try clear st4
  try clear e2
  try clear X2
  try clear T2
  show own_Gl p e below _ (T4.setTop (mkF m 14 #[.val (.ref a), .val (.long q1), .second, .val (.long q2), .second, .val (.long q3), .second, .val (.ref f), .val .null, .val (.long q4), .second, .val (.ref cm), .val (.ref bd), .val (.long q5), .second, .val (.int rv), .val (.long q6), .second] []))
  refine own_st (fun tg_ kg_ => XS.aloadN X4.here hx rfl (hb hby own_d_prog_31_method_1_code_14) rfl rfl kg_) ?_
  show own_Gl p e below _ (T4.setTop (mkF m 15 #[.val (.ref a), .val (.long q1), .second, .val (.long q2), .second, .val (.long q3), .second, .val (.ref f), .val .null, .val (.long q4), .second, .val (.ref cm), .val (.ref bd), .val (.long q5), .second, .val (.int rv), .val (.long q6), .second] [(.ref a)]))
  refine own_st (fun tg_ kg_ => XS.lload X4.here hx rfl (hb hby own_d_prog_31_method_1_code_15) rfl kg_) ?_
  show own_Gl p e below _ (T4.setTop (mkF m 17 #[.val (.ref a), .val (.long q1), .second, .val (.long q2), .second, .val (.long q3), .second, .val (.ref f), .val .null, .val (.long q4), .second, .val (.ref cm), .val (.ref bd), .val (.long q5), .second, .val (.int rv), .val (.long q6), .second] [(.long q3), (.ref a)]))
  obtain ⟨T6, h6, X6, e6, W6, st6⟩ := putF X4 hx hZ hown (host := "") (Or.inl (hw _ (List.mem_of_getElem? (i := 56) rfl))) Via.refl e4 F_msgSeq E_a (Or.inr ⟨(hw _ (List.mem_of_getElem? (i := 57) rfl)), rfl, hnm⟩) (hw _ (List.mem_of_getElem? (i := 46) rfl)) (ty := .long) (by decide) rfl rfl (g := (mkF m 17 #[.val (.ref a), .val (.long q1), .second, .val (.long q2), .second, .val (.long q3), .second, .val (.ref f), .val .null, .val (.long q4), .second, .val (.ref cm), .val (.ref bd), .val (.long q5), .second, .val (.int rv), .val (.long q6), .second] [(.long q3), (.ref a)])) rfl rfl (hb hby own_d_prog_31_method_1_code_17)
  have N6 := Fr.snoc X6 N4 g_a
  try clear N4
  replace E_a := E_a.wr W6
  replace F_serverMsgId := F_serverMsgId.other W6 (Or.inr (slot_ne (Or.inr (hw _ (List.mem_of_getElem? (i := 53) rfl))) (Or.inr (hw _ (List.mem_of_getElem? (i := 57) rfl))) (by decide) (t := .long) (t' := .long) (by decide) (by decide)))
  replace F_conversationId := F_conversationId.other W6 (Or.inr (slot_ne (Or.inr (hw _ (List.mem_of_getElem? (i := 55) rfl))) (Or.inr (hw _ (List.mem_of_getElem? (i := 57) rfl))) (by decide) (t := .long) (t' := .long) (by decide) (by decide)))
  replace F_msgSeq := F_msgSeq.same W6
  replace F_from := F_from.other W6 (Or.inr (slot_ne (Or.inr (hw _ (List.mem_of_getElem? (i := 59) rfl))) (Or.inr (hw _ (List.mem_of_getElem? (i := 57) rfl))) (by decide) (t := (.object "java/lang/String")) (t' := .long) (by decide) (by decide)))
  replace F_to := F_to.other W6 (Or.inr (slot_ne (Or.inr (hw _ (List.mem_of_getElem? (i := 61) rfl))) (Or.inr (hw _ (List.mem_of_getElem? (i := 57) rfl))) (by decide) (t := (.object "java/lang/String")) (t' := .long) (by decide) (by decide)))
  replace F_groupId := F_groupId.other W6 (Or.inr (slot_ne (Or.inr (hw _ (List.mem_of_getElem? (i := 63) rfl))) (Or.inr (hw _ (List.mem_of_getElem? (i := 57) rfl))) (by decide) (t := .long) (t' := .long) (by decide) (by decide)))
  replace F_clientMsgId := F_clientMsgId.other W6 (Or.inr (slot_ne (Or.inr (hw _ (List.mem_of_getElem? (i := 65) rfl))) (Or.inr (hw _ (List.mem_of_getElem? (i := 57) rfl))) (by decide) (t := (.object "java/lang/String")) (t' := .long) (by decide) (by decide)))
  replace F_body := F_body.other W6 (Or.inr (slot_ne (Or.inr (hw _ (List.mem_of_getElem? (i := 67) rfl))) (Or.inr (hw _ (List.mem_of_getElem? (i := 57) rfl))) (by decide) (t := (.object "java/lang/String")) (t' := .long) (by decide) (by decide)))
  replace F_ts := F_ts.other W6 (Or.inr (slot_ne (Or.inr (hw _ (List.mem_of_getElem? (i := 69) rfl))) (Or.inr (hw _ (List.mem_of_getElem? (i := 57) rfl))) (by decide) (t := .long) (t' := .long) (by decide) (by decide)))
  replace F_revoked := F_revoked.other W6 (Or.inr (slot_ne (Or.inr (hw _ (List.mem_of_getElem? (i := 71) rfl))) (Or.inr (hw _ (List.mem_of_getElem? (i := 57) rfl))) (by decide) (t := .boolean) (t' := .long) (by decide) (by decide)))
  replace F_revokedTs := F_revokedTs.other W6 (Or.inr (slot_ne (Or.inr (hw _ (List.mem_of_getElem? (i := 73) rfl))) (Or.inr (hw _ (List.mem_of_getElem? (i := 57) rfl))) (by decide) (t := .long) (t' := .long) (by decide) (by decide)))
  have K7 : Keep h0 h6 [a] := K5.wr W6 (Or.inl (List.mem_of_getElem? (i := 0) rfl))
  try clear K5
  refine own_st st6 ?_
  try clear st6
  try clear e4
  try clear X4
  try clear T4
  show own_Gl p e below _ (T6.setTop (mkF m 20 #[.val (.ref a), .val (.long q1), .second, .val (.long q2), .second, .val (.long q3), .second, .val (.ref f), .val .null, .val (.long q4), .second, .val (.ref cm), .val (.ref bd), .val (.long q5), .second, .val (.int rv), .val (.long q6), .second] []))
  refine own_st (fun tg_ kg_ => XS.aloadN X6.here hx rfl (hb hby own_d_prog_31_method_1_code_20) rfl rfl kg_) ?_
  show own_Gl p e below _ (T6.setTop (mkF m 21 #[.val (.ref a), .val (.long q1), .second, .val (.long q2), .second, .val (.long q3), .second, .val (.ref f), .val .null, .val (.long q4), .second, .val (.ref cm), .val (.ref bd), .val (.long q5), .second, .val (.int rv), .val (.long q6), .second] [(.ref a)]))
  refine own_st (fun tg_ kg_ => XS.aload X6.here hx rfl (hb hby own_d_prog_31_method_1_code_21) rfl rfl kg_) ?_
  show own_Gl p e below _ (T6.setTop (mkF m 23 #[.val (.ref a), .val (.long q1), .second, .val (.long q2), .second, .val (.long q3), .second, .val (.ref f), .val .null, .val (.long q4), .second, .val (.ref cm), .val (.ref bd), .val (.long q5), .second, .val (.int rv), .val (.long q6), .second] [(.ref f), (.ref a)]))
  obtain ⟨T8, h8, X8, e8, W8, st8⟩ := putF X6 hx hZ hown (host := "") (Or.inl (hw _ (List.mem_of_getElem? (i := 58) rfl))) Via.refl e6 F_from E_a (Or.inr ⟨(hw _ (List.mem_of_getElem? (i := 59) rfl)), rfl, hnm⟩) (hw _ (List.mem_of_getElem? (i := 46) rfl)) (ty := (.object "java/lang/String")) (by decide) rfl rfl (g := (mkF m 23 #[.val (.ref a), .val (.long q1), .second, .val (.long q2), .second, .val (.long q3), .second, .val (.ref f), .val .null, .val (.long q4), .second, .val (.ref cm), .val (.ref bd), .val (.long q5), .second, .val (.int rv), .val (.long q6), .second] [(.ref f), (.ref a)])) rfl rfl (hb hby own_d_prog_31_method_1_code_23)
  have N8 := Fr.snoc X8 N6 g_a
  try clear N6
  replace E_a := E_a.wr W8
  replace F_serverMsgId := F_serverMsgId.other W8 (Or.inr (slot_ne (Or.inr (hw _ (List.mem_of_getElem? (i := 53) rfl))) (Or.inr (hw _ (List.mem_of_getElem? (i := 59) rfl))) (by decide) (t := .long) (t' := (.object "java/lang/String")) (by decide) (by decide)))
  replace F_conversationId := F_conversationId.other W8 (Or.inr (slot_ne (Or.inr (hw _ (List.mem_of_getElem? (i := 55) rfl))) (Or.inr (hw _ (List.mem_of_getElem? (i := 59) rfl))) (by decide) (t := .long) (t' := (.object "java/lang/String")) (by decide) (by decide)))
  replace F_msgSeq := F_msgSeq.other W8 (Or.inr (slot_ne (Or.inr (hw _ (List.mem_of_getElem? (i := 57) rfl))) (Or.inr (hw _ (List.mem_of_getElem? (i := 59) rfl))) (by decide) (t := .long) (t' := (.object "java/lang/String")) (by decide) (by decide)))
  replace F_from := F_from.same W8
  replace F_to := F_to.other W8 (Or.inr (slot_ne (Or.inr (hw _ (List.mem_of_getElem? (i := 61) rfl))) (Or.inr (hw _ (List.mem_of_getElem? (i := 59) rfl))) (by decide) (t := (.object "java/lang/String")) (t' := (.object "java/lang/String")) (by decide) (by decide)))
  replace F_groupId := F_groupId.other W8 (Or.inr (slot_ne (Or.inr (hw _ (List.mem_of_getElem? (i := 63) rfl))) (Or.inr (hw _ (List.mem_of_getElem? (i := 59) rfl))) (by decide) (t := .long) (t' := (.object "java/lang/String")) (by decide) (by decide)))
  replace F_clientMsgId := F_clientMsgId.other W8 (Or.inr (slot_ne (Or.inr (hw _ (List.mem_of_getElem? (i := 65) rfl))) (Or.inr (hw _ (List.mem_of_getElem? (i := 59) rfl))) (by decide) (t := (.object "java/lang/String")) (t' := (.object "java/lang/String")) (by decide) (by decide)))
  replace F_body := F_body.other W8 (Or.inr (slot_ne (Or.inr (hw _ (List.mem_of_getElem? (i := 67) rfl))) (Or.inr (hw _ (List.mem_of_getElem? (i := 59) rfl))) (by decide) (t := (.object "java/lang/String")) (t' := (.object "java/lang/String")) (by decide) (by decide)))
  replace F_ts := F_ts.other W8 (Or.inr (slot_ne (Or.inr (hw _ (List.mem_of_getElem? (i := 69) rfl))) (Or.inr (hw _ (List.mem_of_getElem? (i := 59) rfl))) (by decide) (t := .long) (t' := (.object "java/lang/String")) (by decide) (by decide)))
  replace F_revoked := F_revoked.other W8 (Or.inr (slot_ne (Or.inr (hw _ (List.mem_of_getElem? (i := 71) rfl))) (Or.inr (hw _ (List.mem_of_getElem? (i := 59) rfl))) (by decide) (t := .boolean) (t' := (.object "java/lang/String")) (by decide) (by decide)))
  replace F_revokedTs := F_revokedTs.other W8 (Or.inr (slot_ne (Or.inr (hw _ (List.mem_of_getElem? (i := 73) rfl))) (Or.inr (hw _ (List.mem_of_getElem? (i := 59) rfl))) (by decide) (t := .long) (t' := (.object "java/lang/String")) (by decide) (by decide)))
  have K9 : Keep h0 h8 [a] := K7.wr W8 (Or.inl (List.mem_of_getElem? (i := 0) rfl))
  try clear K7
  refine own_st st8 ?_
  try clear st8
  try clear e6
  try clear X6
  try clear T6
  show own_Gl p e below _ (T8.setTop (mkF m 26 #[.val (.ref a), .val (.long q1), .second, .val (.long q2), .second, .val (.long q3), .second, .val (.ref f), .val .null, .val (.long q4), .second, .val (.ref cm), .val (.ref bd), .val (.long q5), .second, .val (.int rv), .val (.long q6), .second] []))
  refine own_st (fun tg_ kg_ => XS.aloadN X8.here hx rfl (hb hby own_d_prog_31_method_1_code_26) rfl rfl kg_) ?_
  show own_Gl p e below _ (T8.setTop (mkF m 27 #[.val (.ref a), .val (.long q1), .second, .val (.long q2), .second, .val (.long q3), .second, .val (.ref f), .val .null, .val (.long q4), .second, .val (.ref cm), .val (.ref bd), .val (.long q5), .second, .val (.int rv), .val (.long q6), .second] [(.ref a)]))
  refine own_st (fun tg_ kg_ => XS.aload X8.here hx rfl (hb hby own_d_prog_31_method_1_code_27) rfl rfl kg_) ?_
  show own_Gl p e below _ (T8.setTop (mkF m 29 #[.val (.ref a), .val (.long q1), .second, .val (.long q2), .second, .val (.long q3), .second, .val (.ref f), .val .null, .val (.long q4), .second, .val (.ref cm), .val (.ref bd), .val (.long q5), .second, .val (.int rv), .val (.long q6), .second] [.null, (.ref a)]))
  obtain ⟨T10, h10, X10, e10, W10, st10⟩ := putF X8 hx hZ hown (host := "") (Or.inl (hw _ (List.mem_of_getElem? (i := 60) rfl))) Via.refl e8 F_to E_a (Or.inr ⟨(hw _ (List.mem_of_getElem? (i := 61) rfl)), rfl, hnm⟩) (hw _ (List.mem_of_getElem? (i := 46) rfl)) (ty := (.object "java/lang/String")) (by decide) rfl rfl (g := (mkF m 29 #[.val (.ref a), .val (.long q1), .second, .val (.long q2), .second, .val (.long q3), .second, .val (.ref f), .val .null, .val (.long q4), .second, .val (.ref cm), .val (.ref bd), .val (.long q5), .second, .val (.int rv), .val (.long q6), .second] [.null, (.ref a)])) rfl rfl (hb hby own_d_prog_31_method_1_code_29)
  have N10 := Fr.snoc X10 N8 g_a
  try clear N8
  replace E_a := E_a.wr W10
  replace F_serverMsgId := F_serverMsgId.other W10 (Or.inr (slot_ne (Or.inr (hw _ (List.mem_of_getElem? (i := 53) rfl))) (Or.inr (hw _ (List.mem_of_getElem? (i := 61) rfl))) (by decide) (t := .long) (t' := (.object "java/lang/String")) (by decide) (by decide)))
  replace F_conversationId := F_conversationId.other W10 (Or.inr (slot_ne (Or.inr (hw _ (List.mem_of_getElem? (i := 55) rfl))) (Or.inr (hw _ (List.mem_of_getElem? (i := 61) rfl))) (by decide) (t := .long) (t' := (.object "java/lang/String")) (by decide) (by decide)))
  replace F_msgSeq := F_msgSeq.other W10 (Or.inr (slot_ne (Or.inr (hw _ (List.mem_of_getElem? (i := 57) rfl))) (Or.inr (hw _ (List.mem_of_getElem? (i := 61) rfl))) (by decide) (t := .long) (t' := (.object "java/lang/String")) (by decide) (by decide)))
  replace F_from := F_from.other W10 (Or.inr (slot_ne (Or.inr (hw _ (List.mem_of_getElem? (i := 59) rfl))) (Or.inr (hw _ (List.mem_of_getElem? (i := 61) rfl))) (by decide) (t := (.object "java/lang/String")) (t' := (.object "java/lang/String")) (by decide) (by decide)))
  replace F_to := F_to.same W10
  replace F_groupId := F_groupId.other W10 (Or.inr (slot_ne (Or.inr (hw _ (List.mem_of_getElem? (i := 63) rfl))) (Or.inr (hw _ (List.mem_of_getElem? (i := 61) rfl))) (by decide) (t := .long) (t' := (.object "java/lang/String")) (by decide) (by decide)))
  replace F_clientMsgId := F_clientMsgId.other W10 (Or.inr (slot_ne (Or.inr (hw _ (List.mem_of_getElem? (i := 65) rfl))) (Or.inr (hw _ (List.mem_of_getElem? (i := 61) rfl))) (by decide) (t := (.object "java/lang/String")) (t' := (.object "java/lang/String")) (by decide) (by decide)))
  replace F_body := F_body.other W10 (Or.inr (slot_ne (Or.inr (hw _ (List.mem_of_getElem? (i := 67) rfl))) (Or.inr (hw _ (List.mem_of_getElem? (i := 61) rfl))) (by decide) (t := (.object "java/lang/String")) (t' := (.object "java/lang/String")) (by decide) (by decide)))
  replace F_ts := F_ts.other W10 (Or.inr (slot_ne (Or.inr (hw _ (List.mem_of_getElem? (i := 69) rfl))) (Or.inr (hw _ (List.mem_of_getElem? (i := 61) rfl))) (by decide) (t := .long) (t' := (.object "java/lang/String")) (by decide) (by decide)))
  replace F_revoked := F_revoked.other W10 (Or.inr (slot_ne (Or.inr (hw _ (List.mem_of_getElem? (i := 71) rfl))) (Or.inr (hw _ (List.mem_of_getElem? (i := 61) rfl))) (by decide) (t := .boolean) (t' := (.object "java/lang/String")) (by decide) (by decide)))
  replace F_revokedTs := F_revokedTs.other W10 (Or.inr (slot_ne (Or.inr (hw _ (List.mem_of_getElem? (i := 73) rfl))) (Or.inr (hw _ (List.mem_of_getElem? (i := 61) rfl))) (by decide) (t := .long) (t' := (.object "java/lang/String")) (by decide) (by decide)))
  have K11 : Keep h0 h10 [a] := K9.wr W10 (Or.inl (List.mem_of_getElem? (i := 0) rfl))
  try clear K9
  refine own_st st10 ?_
  try clear st10
  try clear e8
  try clear X8
  try clear T8
  show own_Gl p e below _ (T10.setTop (mkF m 32 #[.val (.ref a), .val (.long q1), .second, .val (.long q2), .second, .val (.long q3), .second, .val (.ref f), .val .null, .val (.long q4), .second, .val (.ref cm), .val (.ref bd), .val (.long q5), .second, .val (.int rv), .val (.long q6), .second] []))
  refine own_st (fun tg_ kg_ => XS.aloadN X10.here hx rfl (hb hby own_d_prog_31_method_1_code_32) rfl rfl kg_) ?_
  show own_Gl p e below _ (T10.setTop (mkF m 33 #[.val (.ref a), .val (.long q1), .second, .val (.long q2), .second, .val (.long q3), .second, .val (.ref f), .val .null, .val (.long q4), .second, .val (.ref cm), .val (.ref bd), .val (.long q5), .second, .val (.int rv), .val (.long q6), .second] [(.ref a)]))
  refine own_st (fun tg_ kg_ => XS.lload X10.here hx rfl (hb hby own_d_prog_31_method_1_code_33) rfl kg_) ?_
  show own_Gl p e below _ (T10.setTop (mkF m 35 #[.val (.ref a), .val (.long q1), .second, .val (.long q2), .second, .val (.long q3), .second, .val (.ref f), .val .null, .val (.long q4), .second, .val (.ref cm), .val (.ref bd), .val (.long q5), .second, .val (.int rv), .val (.long q6), .second] [(.long q4), (.ref a)]))
  obtain ⟨T12, h12, X12, e12, W12, st12⟩ := putF X10 hx hZ hown (host := "") (Or.inl (hw _ (List.mem_of_getElem? (i := 62) rfl))) Via.refl e10 F_groupId E_a (Or.inr ⟨(hw _ (List.mem_of_getElem? (i := 63) rfl)), rfl, hnm⟩) (hw _ (List.mem_of_getElem? (i := 46) rfl)) (ty := .long) (by decide) rfl rfl (g := (mkF m 35 #[.val (.ref a), .val (.long q1), .second, .val (.long q2), .second, .val (.long q3), .second, .val (.ref f), .val .null, .val (.long q4), .second, .val (.ref cm), .val (.ref bd), .val (.long q5), .second, .val (.int rv), .val (.long q6), .second] [(.long q4), (.ref a)])) rfl rfl (hb hby own_d_prog_31_method_1_code_35)
  have N12 := Fr.snoc X12 N10 g_a
  try clear N10
  replace E_a := E_a.wr W12
  replace F_serverMsgId := F_serverMsgId.other W12 (Or.inr (slot_ne (Or.inr (hw _ (List.mem_of_getElem? (i := 53) rfl))) (Or.inr (hw _ (List.mem_of_getElem? (i := 63) rfl))) (by decide) (t := .long) (t' := .long) (by decide) (by decide)))
  replace F_conversationId := F_conversationId.other W12 (Or.inr (slot_ne (Or.inr (hw _ (List.mem_of_getElem? (i := 55) rfl))) (Or.inr (hw _ (List.mem_of_getElem? (i := 63) rfl))) (by decide) (t := .long) (t' := .long) (by decide) (by decide)))
  replace F_msgSeq := F_msgSeq.other W12 (Or.inr (slot_ne (Or.inr (hw _ (List.mem_of_getElem? (i := 57) rfl))) (Or.inr (hw _ (List.mem_of_getElem? (i := 63) rfl))) (by decide) (t := .long) (t' := .long) (by decide) (by decide)))
  replace F_from := F_from.other W12 (Or.inr (slot_ne (Or.inr (hw _ (List.mem_of_getElem? (i := 59) rfl))) (Or.inr (hw _ (List.mem_of_getElem? (i := 63) rfl))) (by decide) (t := (.object "java/lang/String")) (t' := .long) (by decide) (by decide)))
  replace F_to := F_to.other W12 (Or.inr (slot_ne (Or.inr (hw _ (List.mem_of_getElem? (i := 61) rfl))) (Or.inr (hw _ (List.mem_of_getElem? (i := 63) rfl))) (by decide) (t := (.object "java/lang/String")) (t' := .long) (by decide) (by decide)))
  replace F_groupId := F_groupId.same W12
  replace F_clientMsgId := F_clientMsgId.other W12 (Or.inr (slot_ne (Or.inr (hw _ (List.mem_of_getElem? (i := 65) rfl))) (Or.inr (hw _ (List.mem_of_getElem? (i := 63) rfl))) (by decide) (t := (.object "java/lang/String")) (t' := .long) (by decide) (by decide)))
  replace F_body := F_body.other W12 (Or.inr (slot_ne (Or.inr (hw _ (List.mem_of_getElem? (i := 67) rfl))) (Or.inr (hw _ (List.mem_of_getElem? (i := 63) rfl))) (by decide) (t := (.object "java/lang/String")) (t' := .long) (by decide) (by decide)))
  replace F_ts := F_ts.other W12 (Or.inr (slot_ne (Or.inr (hw _ (List.mem_of_getElem? (i := 69) rfl))) (Or.inr (hw _ (List.mem_of_getElem? (i := 63) rfl))) (by decide) (t := .long) (t' := .long) (by decide) (by decide)))
  replace F_revoked := F_revoked.other W12 (Or.inr (slot_ne (Or.inr (hw _ (List.mem_of_getElem? (i := 71) rfl))) (Or.inr (hw _ (List.mem_of_getElem? (i := 63) rfl))) (by decide) (t := .boolean) (t' := .long) (by decide) (by decide)))
  replace F_revokedTs := F_revokedTs.other W12 (Or.inr (slot_ne (Or.inr (hw _ (List.mem_of_getElem? (i := 73) rfl))) (Or.inr (hw _ (List.mem_of_getElem? (i := 63) rfl))) (by decide) (t := .long) (t' := .long) (by decide) (by decide)))
  have K13 : Keep h0 h12 [a] := K11.wr W12 (Or.inl (List.mem_of_getElem? (i := 0) rfl))
  try clear K11
  refine own_st st12 ?_
  try clear st12
  try clear e10
  try clear X10
  try clear T10
  show own_Gl p e below _ (T12.setTop (mkF m 38 #[.val (.ref a), .val (.long q1), .second, .val (.long q2), .second, .val (.long q3), .second, .val (.ref f), .val .null, .val (.long q4), .second, .val (.ref cm), .val (.ref bd), .val (.long q5), .second, .val (.int rv), .val (.long q6), .second] []))
  refine own_st (fun tg_ kg_ => XS.aloadN X12.here hx rfl (hb hby own_d_prog_31_method_1_code_38) rfl rfl kg_) ?_
  show own_Gl p e below _ (T12.setTop (mkF m 39 #[.val (.ref a), .val (.long q1), .second, .val (.long q2), .second, .val (.long q3), .second, .val (.ref f), .val .null, .val (.long q4), .second, .val (.ref cm), .val (.ref bd), .val (.long q5), .second, .val (.int rv), .val (.long q6), .second] [(.ref a)]))
  refine own_st (fun tg_ kg_ => XS.aload X12.here hx rfl (hb hby own_d_prog_31_method_1_code_39) rfl rfl kg_) ?_
  show own_Gl p e below _ (T12.setTop (mkF m 41 #[.val (.ref a), .val (.long q1), .second, .val (.long q2), .second, .val (.long q3), .second, .val (.ref f), .val .null, .val (.long q4), .second, .val (.ref cm), .val (.ref bd), .val (.long q5), .second, .val (.int rv), .val (.long q6), .second] [(.ref cm), (.ref a)]))
  obtain ⟨T14, h14, X14, e14, W14, st14⟩ := putF X12 hx hZ hown (host := "") (Or.inl (hw _ (List.mem_of_getElem? (i := 64) rfl))) Via.refl e12 F_clientMsgId E_a (Or.inr ⟨(hw _ (List.mem_of_getElem? (i := 65) rfl)), rfl, hnm⟩) (hw _ (List.mem_of_getElem? (i := 46) rfl)) (ty := (.object "java/lang/String")) (by decide) rfl rfl (g := (mkF m 41 #[.val (.ref a), .val (.long q1), .second, .val (.long q2), .second, .val (.long q3), .second, .val (.ref f), .val .null, .val (.long q4), .second, .val (.ref cm), .val (.ref bd), .val (.long q5), .second, .val (.int rv), .val (.long q6), .second] [(.ref cm), (.ref a)])) rfl rfl (hb hby own_d_prog_31_method_1_code_41)
  have N14 := Fr.snoc X14 N12 g_a
  try clear N12
  replace E_a := E_a.wr W14
  replace F_serverMsgId := F_serverMsgId.other W14 (Or.inr (slot_ne (Or.inr (hw _ (List.mem_of_getElem? (i := 53) rfl))) (Or.inr (hw _ (List.mem_of_getElem? (i := 65) rfl))) (by decide) (t := .long) (t' := (.object "java/lang/String")) (by decide) (by decide)))
  replace F_conversationId := F_conversationId.other W14 (Or.inr (slot_ne (Or.inr (hw _ (List.mem_of_getElem? (i := 55) rfl))) (Or.inr (hw _ (List.mem_of_getElem? (i := 65) rfl))) (by decide) (t := .long) (t' := (.object "java/lang/String")) (by decide) (by decide)))
  replace F_msgSeq := F_msgSeq.other W14 (Or.inr (slot_ne (Or.inr (hw _ (List.mem_of_getElem? (i := 57) rfl))) (Or.inr (hw _ (List.mem_of_getElem? (i := 65) rfl))) (by decide) (t := .long) (t' := (.object "java/lang/String")) (by decide) (by decide)))
  replace F_from := F_from.other W14 (Or.inr (slot_ne (Or.inr (hw _ (List.mem_of_getElem? (i := 59) rfl))) (Or.inr (hw _ (List.mem_of_getElem? (i := 65) rfl))) (by decide) (t := (.object "java/lang/String")) (t' := (.object "java/lang/String")) (by decide) (by decide)))
  replace F_to := F_to.other W14 (Or.inr (slot_ne (Or.inr (hw _ (List.mem_of_getElem? (i := 61) rfl))) (Or.inr (hw _ (List.mem_of_getElem? (i := 65) rfl))) (by decide) (t := (.object "java/lang/String")) (t' := (.object "java/lang/String")) (by decide) (by decide)))
  replace F_groupId := F_groupId.other W14 (Or.inr (slot_ne (Or.inr (hw _ (List.mem_of_getElem? (i := 63) rfl))) (Or.inr (hw _ (List.mem_of_getElem? (i := 65) rfl))) (by decide) (t := .long) (t' := (.object "java/lang/String")) (by decide) (by decide)))
  replace F_clientMsgId := F_clientMsgId.same W14
  replace F_body := F_body.other W14 (Or.inr (slot_ne (Or.inr (hw _ (List.mem_of_getElem? (i := 67) rfl))) (Or.inr (hw _ (List.mem_of_getElem? (i := 65) rfl))) (by decide) (t := (.object "java/lang/String")) (t' := (.object "java/lang/String")) (by decide) (by decide)))
  replace F_ts := F_ts.other W14 (Or.inr (slot_ne (Or.inr (hw _ (List.mem_of_getElem? (i := 69) rfl))) (Or.inr (hw _ (List.mem_of_getElem? (i := 65) rfl))) (by decide) (t := .long) (t' := (.object "java/lang/String")) (by decide) (by decide)))
  replace F_revoked := F_revoked.other W14 (Or.inr (slot_ne (Or.inr (hw _ (List.mem_of_getElem? (i := 71) rfl))) (Or.inr (hw _ (List.mem_of_getElem? (i := 65) rfl))) (by decide) (t := .boolean) (t' := (.object "java/lang/String")) (by decide) (by decide)))
  replace F_revokedTs := F_revokedTs.other W14 (Or.inr (slot_ne (Or.inr (hw _ (List.mem_of_getElem? (i := 73) rfl))) (Or.inr (hw _ (List.mem_of_getElem? (i := 65) rfl))) (by decide) (t := .long) (t' := (.object "java/lang/String")) (by decide) (by decide)))
  have K15 : Keep h0 h14 [a] := K13.wr W14 (Or.inl (List.mem_of_getElem? (i := 0) rfl))
  try clear K13
  refine own_st st14 ?_
  try clear st14
  try clear e12
  try clear X12
  try clear T12
  show own_Gl p e below _ (T14.setTop (mkF m 44 #[.val (.ref a), .val (.long q1), .second, .val (.long q2), .second, .val (.long q3), .second, .val (.ref f), .val .null, .val (.long q4), .second, .val (.ref cm), .val (.ref bd), .val (.long q5), .second, .val (.int rv), .val (.long q6), .second] []))
  refine own_st (fun tg_ kg_ => XS.aloadN X14.here hx rfl (hb hby own_d_prog_31_method_1_code_44) rfl rfl kg_) ?_
  show own_Gl p e below _ (T14.setTop (mkF m 45 #[.val (.ref a), .val (.long q1), .second, .val (.long q2), .second, .val (.long q3), .second, .val (.ref f), .val .null, .val (.long q4), .second, .val (.ref cm), .val (.ref bd), .val (.long q5), .second, .val (.int rv), .val (.long q6), .second] [(.ref a)]))
  refine own_st (fun tg_ kg_ => XS.aload X14.here hx rfl (hb hby own_d_prog_31_method_1_code_45) rfl rfl kg_) ?_
  show own_Gl p e below _ (T14.setTop (mkF m 47 #[.val (.ref a), .val (.long q1), .second, .val (.long q2), .second, .val (.long q3), .second, .val (.ref f), .val .null, .val (.long q4), .second, .val (.ref cm), .val (.ref bd), .val (.long q5), .second, .val (.int rv), .val (.long q6), .second] [(.ref bd), (.ref a)]))
  obtain ⟨T16, h16, X16, e16, W16, st16⟩ := putF X14 hx hZ hown (host := "") (Or.inl (hw _ (List.mem_of_getElem? (i := 66) rfl))) Via.refl e14 F_body E_a (Or.inr ⟨(hw _ (List.mem_of_getElem? (i := 67) rfl)), rfl, hnm⟩) (hw _ (List.mem_of_getElem? (i := 46) rfl)) (ty := (.object "java/lang/String")) (by decide) rfl rfl (g := (mkF m 47 #[.val (.ref a), .val (.long q1), .second, .val (.long q2), .second, .val (.long q3), .second, .val (.ref f), .val .null, .val (.long q4), .second, .val (.ref cm), .val (.ref bd), .val (.long q5), .second, .val (.int rv), .val (.long q6), .second] [(.ref bd), (.ref a)])) rfl rfl (hb hby own_d_prog_31_method_1_code_47)
  have N16 := Fr.snoc X16 N14 g_a
  try clear N14
  replace E_a := E_a.wr W16
  replace F_serverMsgId := F_serverMsgId.other W16 (Or.inr (slot_ne (Or.inr (hw _ (List.mem_of_getElem? (i := 53) rfl))) (Or.inr (hw _ (List.mem_of_getElem? (i := 67) rfl))) (by decide) (t := .long) (t' := (.object "java/lang/String")) (by decide) (by decide)))
  replace F_conversationId := F_conversationId.other W16 (Or.inr (slot_ne (Or.inr (hw _ (List.mem_of_getElem? (i := 55) rfl))) (Or.inr (hw _ (List.mem_of_getElem? (i := 67) rfl))) (by decide) (t := .long) (t' := (.object "java/lang/String")) (by decide) (by decide)))
  replace F_msgSeq := F_msgSeq.other W16 (Or.inr (slot_ne (Or.inr (hw _ (List.mem_of_getElem? (i := 57) rfl))) (Or.inr (hw _ (List.mem_of_getElem? (i := 67) rfl))) (by decide) (t := .long) (t' := (.object "java/lang/String")) (by decide) (by decide)))
  replace F_from := F_from.other W16 (Or.inr (slot_ne (Or.inr (hw _ (List.mem_of_getElem? (i := 59) rfl))) (Or.inr (hw _ (List.mem_of_getElem? (i := 67) rfl))) (by decide) (t := (.object "java/lang/String")) (t' := (.object "java/lang/String")) (by decide) (by decide)))
  replace F_to := F_to.other W16 (Or.inr (slot_ne (Or.inr (hw _ (List.mem_of_getElem? (i := 61) rfl))) (Or.inr (hw _ (List.mem_of_getElem? (i := 67) rfl))) (by decide) (t := (.object "java/lang/String")) (t' := (.object "java/lang/String")) (by decide) (by decide)))
  replace F_groupId := F_groupId.other W16 (Or.inr (slot_ne (Or.inr (hw _ (List.mem_of_getElem? (i := 63) rfl))) (Or.inr (hw _ (List.mem_of_getElem? (i := 67) rfl))) (by decide) (t := .long) (t' := (.object "java/lang/String")) (by decide) (by decide)))
  replace F_clientMsgId := F_clientMsgId.other W16 (Or.inr (slot_ne (Or.inr (hw _ (List.mem_of_getElem? (i := 65) rfl))) (Or.inr (hw _ (List.mem_of_getElem? (i := 67) rfl))) (by decide) (t := (.object "java/lang/String")) (t' := (.object "java/lang/String")) (by decide) (by decide)))
  replace F_body := F_body.same W16
  replace F_ts := F_ts.other W16 (Or.inr (slot_ne (Or.inr (hw _ (List.mem_of_getElem? (i := 69) rfl))) (Or.inr (hw _ (List.mem_of_getElem? (i := 67) rfl))) (by decide) (t := .long) (t' := (.object "java/lang/String")) (by decide) (by decide)))
  replace F_revoked := F_revoked.other W16 (Or.inr (slot_ne (Or.inr (hw _ (List.mem_of_getElem? (i := 71) rfl))) (Or.inr (hw _ (List.mem_of_getElem? (i := 67) rfl))) (by decide) (t := .boolean) (t' := (.object "java/lang/String")) (by decide) (by decide)))
  replace F_revokedTs := F_revokedTs.other W16 (Or.inr (slot_ne (Or.inr (hw _ (List.mem_of_getElem? (i := 73) rfl))) (Or.inr (hw _ (List.mem_of_getElem? (i := 67) rfl))) (by decide) (t := .long) (t' := (.object "java/lang/String")) (by decide) (by decide)))
  have K17 : Keep h0 h16 [a] := K15.wr W16 (Or.inl (List.mem_of_getElem? (i := 0) rfl))
  try clear K15
  refine own_st st16 ?_
  try clear st16
  try clear e14
  try clear X14
  try clear T14
  show own_Gl p e below _ (T16.setTop (mkF m 50 #[.val (.ref a), .val (.long q1), .second, .val (.long q2), .second, .val (.long q3), .second, .val (.ref f), .val .null, .val (.long q4), .second, .val (.ref cm), .val (.ref bd), .val (.long q5), .second, .val (.int rv), .val (.long q6), .second] []))
  refine own_st (fun tg_ kg_ => XS.aloadN X16.here hx rfl (hb hby own_d_prog_31_method_1_code_50) rfl rfl kg_) ?_
  show own_Gl p e below _ (T16.setTop (mkF m 51 #[.val (.ref a), .val (.long q1), .second, .val (.long q2), .second, .val (.long q3), .second, .val (.ref f), .val .null, .val (.long q4), .second, .val (.ref cm), .val (.ref bd), .val (.long q5), .second, .val (.int rv), .val (.long q6), .second] [(.ref a)]))
  refine own_st (fun tg_ kg_ => XS.lload X16.here hx rfl (hb hby own_d_prog_31_method_1_code_51) rfl kg_) ?_
  show own_Gl p e below _ (T16.setTop (mkF m 53 #[.val (.ref a), .val (.long q1), .second, .val (.long q2), .second, .val (.long q3), .second, .val (.ref f), .val .null, .val (.long q4), .second, .val (.ref cm), .val (.ref bd), .val (.long q5), .second, .val (.int rv), .val (.long q6), .second] [(.long q5), (.ref a)]))
  obtain ⟨T18, h18, X18, e18, W18, st18⟩ := putF X16 hx hZ hown (host := "") (Or.inl (hw _ (List.mem_of_getElem? (i := 68) rfl))) Via.refl e16 F_ts E_a (Or.inr ⟨(hw _ (List.mem_of_getElem? (i := 69) rfl)), rfl, hnm⟩) (hw _ (List.mem_of_getElem? (i := 46) rfl)) (ty := .long) (by decide) rfl rfl (g := (mkF m 53 #[.val (.ref a), .val (.long q1), .second, .val (.long q2), .second, .val (.long q3), .second, .val (.ref f), .val .null, .val (.long q4), .second, .val (.ref cm), .val (.ref bd), .val (.long q5), .second, .val (.int rv), .val (.long q6), .second] [(.long q5), (.ref a)])) rfl rfl (hb hby own_d_prog_31_method_1_code_53)
  have N18 := Fr.snoc X18 N16 g_a
  try clear N16
  replace E_a := E_a.wr W18
  replace F_serverMsgId := F_serverMsgId.other W18 (Or.inr (slot_ne (Or.inr (hw _ (List.mem_of_getElem? (i := 53) rfl))) (Or.inr (hw _ (List.mem_of_getElem? (i := 69) rfl))) (by decide) (t := .long) (t' := .long) (by decide) (by decide)))
  replace F_conversationId := F_conversationId.other W18 (Or.inr (slot_ne (Or.inr (hw _ (List.mem_of_getElem? (i := 55) rfl))) (Or.inr (hw _ (List.mem_of_getElem? (i := 69) rfl))) (by decide) (t := .long) (t' := .long) (by decide) (by decide)))
  replace F_msgSeq := F_msgSeq.other W18 (Or.inr (slot_ne (Or.inr (hw _ (List.mem_of_getElem? (i := 57) rfl))) (Or.inr (hw _ (List.mem_of_getElem? (i := 69) rfl))) (by decide) (t := .long) (t' := .long) (by decide) (by decide)))
  replace F_from := F_from.other W18 (Or.inr (slot_ne (Or.inr (hw _ (List.mem_of_getElem? (i := 59) rfl))) (Or.inr (hw _ (List.mem_of_getElem? (i := 69) rfl))) (by decide) (t := (.object "java/lang/String")) (t' := .long) (by decide) (by decide)))
  replace F_to := F_to.other W18 (Or.inr (slot_ne (Or.inr (hw _ (List.mem_of_getElem? (i := 61) rfl))) (Or.inr (hw _ (List.mem_of_getElem? (i := 69) rfl))) (by decide) (t := (.object "java/lang/String")) (t' := .long) (by decide) (by decide)))
  replace F_groupId := F_groupId.other W18 (Or.inr (slot_ne (Or.inr (hw _ (List.mem_of_getElem? (i := 63) rfl))) (Or.inr (hw _ (List.mem_of_getElem? (i := 69) rfl))) (by decide) (t := .long) (t' := .long) (by decide) (by decide)))
  replace F_clientMsgId := F_clientMsgId.other W18 (Or.inr (slot_ne (Or.inr (hw _ (List.mem_of_getElem? (i := 65) rfl))) (Or.inr (hw _ (List.mem_of_getElem? (i := 69) rfl))) (by decide) (t := (.object "java/lang/String")) (t' := .long) (by decide) (by decide)))
  replace F_body := F_body.other W18 (Or.inr (slot_ne (Or.inr (hw _ (List.mem_of_getElem? (i := 67) rfl))) (Or.inr (hw _ (List.mem_of_getElem? (i := 69) rfl))) (by decide) (t := (.object "java/lang/String")) (t' := .long) (by decide) (by decide)))
  replace F_ts := F_ts.same W18
  replace F_revoked := F_revoked.other W18 (Or.inr (slot_ne (Or.inr (hw _ (List.mem_of_getElem? (i := 71) rfl))) (Or.inr (hw _ (List.mem_of_getElem? (i := 69) rfl))) (by decide) (t := .boolean) (t' := .long) (by decide) (by decide)))
  replace F_revokedTs := F_revokedTs.other W18 (Or.inr (slot_ne (Or.inr (hw _ (List.mem_of_getElem? (i := 73) rfl))) (Or.inr (hw _ (List.mem_of_getElem? (i := 69) rfl))) (by decide) (t := .long) (t' := .long) (by decide) (by decide)))
  have K19 : Keep h0 h18 [a] := K17.wr W18 (Or.inl (List.mem_of_getElem? (i := 0) rfl))
  try clear K17
  refine own_st st18 ?_
  try clear st18
  try clear e16
  try clear X16
  try clear T16
  show own_Gl p e below _ (T18.setTop (mkF m 56 #[.val (.ref a), .val (.long q1), .second, .val (.long q2), .second, .val (.long q3), .second, .val (.ref f), .val .null, .val (.long q4), .second, .val (.ref cm), .val (.ref bd), .val (.long q5), .second, .val (.int rv), .val (.long q6), .second] []))
  refine own_st (fun tg_ kg_ => XS.aloadN X18.here hx rfl (hb hby own_d_prog_31_method_1_code_56) rfl rfl kg_) ?_
  show own_Gl p e below _ (T18.setTop (mkF m 57 #[.val (.ref a), .val (.long q1), .second, .val (.long q2), .second, .val (.long q3), .second, .val (.ref f), .val .null, .val (.long q4), .second, .val (.ref cm), .val (.ref bd), .val (.long q5), .second, .val (.int rv), .val (.long q6), .second] [(.ref a)]))
  refine own_st (fun tg_ kg_ => XS.iload X18.here hx rfl (hb hby own_d_prog_31_method_1_code_57) rfl kg_) ?_
  show own_Gl p e below _ (T18.setTop (mkF m 59 #[.val (.ref a), .val (.long q1), .second, .val (.long q2), .second, .val (.long q3), .second, .val (.ref f), .val .null, .val (.long q4), .second, .val (.ref cm), .val (.ref bd), .val (.long q5), .second, .val (.int rv), .val (.long q6), .second] [(.int rv), (.ref a)]))
  obtain ⟨T20, h20, X20, e20, W20, st20⟩ := putFN X18 hx hZ hown (hw _ (List.mem_of_getElem? (i := 70) rfl)) Via.refl e18 F_revoked E_a (Or.inr ⟨(hw _ (List.mem_of_getElem? (i := 71) rfl)), rfl, hnm⟩) (hw _ (List.mem_of_getElem? (i := 46) rfl)) (ty := .boolean) (v' := (.int (nar .boolean rv))) (by decide) rfl (fits_nar_bool _) (g := (mkF m 59 #[.val (.ref a), .val (.long q1), .second, .val (.long q2), .second, .val (.long q3), .second, .val (.ref f), .val .null, .val (.long q4), .second, .val (.ref cm), .val (.ref bd), .val (.long q5), .second, .val (.int rv), .val (.long q6), .second] [(.int rv), (.ref a)])) rfl rfl (hb hby own_d_prog_31_method_1_code_59)
  have N20 := Fr.snoc X20 N18 g_a
  try clear N18
  replace E_a := E_a.wr W20
  replace F_serverMsgId := F_serverMsgId.other W20 (Or.inr (slot_ne (Or.inr (hw _ (List.mem_of_getElem? (i := 53) rfl))) (Or.inr (hw _ (List.mem_of_getElem? (i := 71) rfl))) (by decide) (t := .long) (t' := .boolean) (by decide) (by decide)))
  replace F_conversationId := F_conversationId.other W20 (Or.inr (slot_ne (Or.inr (hw _ (List.mem_of_getElem? (i := 55) rfl))) (Or.inr (hw _ (List.mem_of_getElem? (i := 71) rfl))) (by decide) (t := .long) (t' := .boolean) (by decide) (by decide)))
  replace F_msgSeq := F_msgSeq.other W20 (Or.inr (slot_ne (Or.inr (hw _ (List.mem_of_getElem? (i := 57) rfl))) (Or.inr (hw _ (List.mem_of_getElem? (i := 71) rfl))) (by decide) (t := .long) (t' := .boolean) (by decide) (by decide)))
  replace F_from := F_from.other W20 (Or.inr (slot_ne (Or.inr (hw _ (List.mem_of_getElem? (i := 59) rfl))) (Or.inr (hw _ (List.mem_of_getElem? (i := 71) rfl))) (by decide) (t := (.object "java/lang/String")) (t' := .boolean) (by decide) (by decide)))
  replace F_to := F_to.other W20 (Or.inr (slot_ne (Or.inr (hw _ (List.mem_of_getElem? (i := 61) rfl))) (Or.inr (hw _ (List.mem_of_getElem? (i := 71) rfl))) (by decide) (t := (.object "java/lang/String")) (t' := .boolean) (by decide) (by decide)))
  replace F_groupId := F_groupId.other W20 (Or.inr (slot_ne (Or.inr (hw _ (List.mem_of_getElem? (i := 63) rfl))) (Or.inr (hw _ (List.mem_of_getElem? (i := 71) rfl))) (by decide) (t := .long) (t' := .boolean) (by decide) (by decide)))
  replace F_clientMsgId := F_clientMsgId.other W20 (Or.inr (slot_ne (Or.inr (hw _ (List.mem_of_getElem? (i := 65) rfl))) (Or.inr (hw _ (List.mem_of_getElem? (i := 71) rfl))) (by decide) (t := (.object "java/lang/String")) (t' := .boolean) (by decide) (by decide)))
  replace F_body := F_body.other W20 (Or.inr (slot_ne (Or.inr (hw _ (List.mem_of_getElem? (i := 67) rfl))) (Or.inr (hw _ (List.mem_of_getElem? (i := 71) rfl))) (by decide) (t := (.object "java/lang/String")) (t' := .boolean) (by decide) (by decide)))
  replace F_ts := F_ts.other W20 (Or.inr (slot_ne (Or.inr (hw _ (List.mem_of_getElem? (i := 69) rfl))) (Or.inr (hw _ (List.mem_of_getElem? (i := 71) rfl))) (by decide) (t := .long) (t' := .boolean) (by decide) (by decide)))
  replace F_revoked := F_revoked.same W20
  replace F_revokedTs := F_revokedTs.other W20 (Or.inr (slot_ne (Or.inr (hw _ (List.mem_of_getElem? (i := 73) rfl))) (Or.inr (hw _ (List.mem_of_getElem? (i := 71) rfl))) (by decide) (t := .long) (t' := .boolean) (by decide) (by decide)))
  have K21 : Keep h0 h20 [a] := K19.wr W20 (Or.inl (List.mem_of_getElem? (i := 0) rfl))
  try clear K19
  refine own_st st20 ?_
  try clear st20
  try clear e18
  try clear X18
  try clear T18
  show own_Gl p e below _ (T20.setTop (mkF m 62 #[.val (.ref a), .val (.long q1), .second, .val (.long q2), .second, .val (.long q3), .second, .val (.ref f), .val .null, .val (.long q4), .second, .val (.ref cm), .val (.ref bd), .val (.long q5), .second, .val (.int rv), .val (.long q6), .second] []))
  refine own_st (fun tg_ kg_ => XS.aloadN X20.here hx rfl (hb hby own_d_prog_31_method_1_code_62) rfl rfl kg_) ?_
  show own_Gl p e below _ (T20.setTop (mkF m 63 #[.val (.ref a), .val (.long q1), .second, .val (.long q2), .second, .val (.long q3), .second, .val (.ref f), .val .null, .val (.long q4), .second, .val (.ref cm), .val (.ref bd), .val (.long q5), .second, .val (.int rv), .val (.long q6), .second] [(.ref a)]))
  refine own_st (fun tg_ kg_ => XS.lload X20.here hx rfl (hb hby own_d_prog_31_method_1_code_63) rfl kg_) ?_
  show own_Gl p e below _ (T20.setTop (mkF m 65 #[.val (.ref a), .val (.long q1), .second, .val (.long q2), .second, .val (.long q3), .second, .val (.ref f), .val .null, .val (.long q4), .second, .val (.ref cm), .val (.ref bd), .val (.long q5), .second, .val (.int rv), .val (.long q6), .second] [(.long q6), (.ref a)]))
  obtain ⟨T22, h22, X22, e22, W22, st22⟩ := putF X20 hx hZ hown (host := "") (Or.inl (hw _ (List.mem_of_getElem? (i := 72) rfl))) Via.refl e20 F_revokedTs E_a (Or.inr ⟨(hw _ (List.mem_of_getElem? (i := 73) rfl)), rfl, hnm⟩) (hw _ (List.mem_of_getElem? (i := 46) rfl)) (ty := .long) (by decide) rfl rfl (g := (mkF m 65 #[.val (.ref a), .val (.long q1), .second, .val (.long q2), .second, .val (.long q3), .second, .val (.ref f), .val .null, .val (.long q4), .second, .val (.ref cm), .val (.ref bd), .val (.long q5), .second, .val (.int rv), .val (.long q6), .second] [(.long q6), (.ref a)])) rfl rfl (hb hby own_d_prog_31_method_1_code_65)
  have N22 := Fr.snoc X22 N20 g_a
  try clear N20
  replace E_a := E_a.wr W22
  replace F_serverMsgId := F_serverMsgId.other W22 (Or.inr (slot_ne (Or.inr (hw _ (List.mem_of_getElem? (i := 53) rfl))) (Or.inr (hw _ (List.mem_of_getElem? (i := 73) rfl))) (by decide) (t := .long) (t' := .long) (by decide) (by decide)))
  replace F_conversationId := F_conversationId.other W22 (Or.inr (slot_ne (Or.inr (hw _ (List.mem_of_getElem? (i := 55) rfl))) (Or.inr (hw _ (List.mem_of_getElem? (i := 73) rfl))) (by decide) (t := .long) (t' := .long) (by decide) (by decide)))
  replace F_msgSeq := F_msgSeq.other W22 (Or.inr (slot_ne (Or.inr (hw _ (List.mem_of_getElem? (i := 57) rfl))) (Or.inr (hw _ (List.mem_of_getElem? (i := 73) rfl))) (by decide) (t := .long) (t' := .long) (by decide) (by decide)))
  replace F_from := F_from.other W22 (Or.inr (slot_ne (Or.inr (hw _ (List.mem_of_getElem? (i := 59) rfl))) (Or.inr (hw _ (List.mem_of_getElem? (i := 73) rfl))) (by decide) (t := (.object "java/lang/String")) (t' := .long) (by decide) (by decide)))
  replace F_to := F_to.other W22 (Or.inr (slot_ne (Or.inr (hw _ (List.mem_of_getElem? (i := 61) rfl))) (Or.inr (hw _ (List.mem_of_getElem? (i := 73) rfl))) (by decide) (t := (.object "java/lang/String")) (t' := .long) (by decide) (by decide)))
  replace F_groupId := F_groupId.other W22 (Or.inr (slot_ne (Or.inr (hw _ (List.mem_of_getElem? (i := 63) rfl))) (Or.inr (hw _ (List.mem_of_getElem? (i := 73) rfl))) (by decide) (t := .long) (t' := .long) (by decide) (by decide)))
  replace F_clientMsgId := F_clientMsgId.other W22 (Or.inr (slot_ne (Or.inr (hw _ (List.mem_of_getElem? (i := 65) rfl))) (Or.inr (hw _ (List.mem_of_getElem? (i := 73) rfl))) (by decide) (t := (.object "java/lang/String")) (t' := .long) (by decide) (by decide)))
  replace F_body := F_body.other W22 (Or.inr (slot_ne (Or.inr (hw _ (List.mem_of_getElem? (i := 67) rfl))) (Or.inr (hw _ (List.mem_of_getElem? (i := 73) rfl))) (by decide) (t := (.object "java/lang/String")) (t' := .long) (by decide) (by decide)))
  replace F_ts := F_ts.other W22 (Or.inr (slot_ne (Or.inr (hw _ (List.mem_of_getElem? (i := 69) rfl))) (Or.inr (hw _ (List.mem_of_getElem? (i := 73) rfl))) (by decide) (t := .long) (t' := .long) (by decide) (by decide)))
  replace F_revoked := F_revoked.other W22 (Or.inr (slot_ne (Or.inr (hw _ (List.mem_of_getElem? (i := 71) rfl))) (Or.inr (hw _ (List.mem_of_getElem? (i := 73) rfl))) (by decide) (t := .boolean) (t' := .long) (by decide) (by decide)))
  replace F_revokedTs := F_revokedTs.same W22
  have K23 : Keep h0 h22 [a] := K21.wr W22 (Or.inl (List.mem_of_getElem? (i := 0) rfl))
  try clear K21
  refine own_st st22 ?_
  try clear st22
  try clear e20
  try clear X20
  try clear T20
  show own_Gl p e below _ (T22.setTop (mkF m 68 #[.val (.ref a), .val (.long q1), .second, .val (.long q2), .second, .val (.long q3), .second, .val (.ref f), .val .null, .val (.long q4), .second, .val (.ref cm), .val (.ref bd), .val (.long q5), .second, .val (.int rv), .val (.long q6), .second] []))
  exact own_retV X22 hx Bd.notSynchronized Bd.returns (hb hby own_d_prog_31_method_1_code_68) (by decide) (by decide) e22 (⟨rfl, N22, K23, F_serverMsgId, F_conversationId, F_msgSeq, F_from, F_to, F_groupId, F_clientMsgId, F_body, F_ts, F_revoked, F_revokedTs⟩)
theorem own_ef_smiR (m : MethodId) (x0 : Addr) (x1 : Int64) (x2 : Int64) (x3 : Int64) (x4 : Addr) (x5 : Addr) (x6 : Int64) (x7 : Addr) (x8 : Addr) (x9 : Int64) (x10 : Int32) (x11 : Int64) : entryFrame m #[(.ref x0), (.long x1), (.long x2), (.long x3), (.ref x4), (.ref x5), (.long x6), (.ref x7), (.ref x8), (.long x9), (.int x10), (.long x11)] 18 = mkF m 0 #[.val (.ref x0), .val (.long x1), .second, .val (.long x2), .second, .val (.long x3), .second, .val (.ref x4), .val (.ref x5), .val (.long x6), .second, .val (.ref x7), .val (.ref x8), .val (.long x9), .second, .val (.int x10), .val (.long x11), .second] [] := by first | (simp [entryFrame, mkF, argsToLocals, Value.category]; done) | rfl
def own_Q_smiR (Z : State) (a f to cm bd : Addr) (q1 q2 q3 q4 q5 q6 : Int64) (rv : Int32) (h0 : Heap) (n0 : Nat) (v : Option Value) (h : Heap) (L : List Loc) : Prop := v = none ∧ Fr n0 L ∧ Keep h0 h [a] ∧ Fld Z h a "com/example/highwater/highwater/store/StoredMessage" "serverMsgId" "J" (.long q1) ∧ Fld Z h a "com/example/highwater/highwater/store/StoredMessage" "conversationId" "J" (.long q2) ∧ Fld Z h a "com/example/highwater/highwater/store/StoredMessage" "msgSeq" "J" (.long q3) ∧ Fld Z h a "com/example/highwater/highwater/store/StoredMessage" "from" "Ljava/lang/String;" (.ref f) ∧ Fld Z h a "com/example/highwater/highwater/store/StoredMessage" "to" "Ljava/lang/String;" (.ref to) ∧ Fld Z h a "com/example/highwater/highwater/store/StoredMessage" "groupId" "J" (.long q4) ∧ Fld Z h a "com/example/highwater/highwater/store/StoredMessage" "clientMsgId" "Ljava/lang/String;" (.ref cm) ∧ Fld Z h a "com/example/highwater/highwater/store/StoredMessage" "body" "Ljava/lang/String;" (.ref bd) ∧ Fld Z h a "com/example/highwater/highwater/store/StoredMessage" "ts" "J" (.long q5) ∧ Fld Z h a "com/example/highwater/highwater/store/StoredMessage" "revoked" "Z" (.int (nar .boolean rv)) ∧ Fld Z h a "com/example/highwater/highwater/store/StoredMessage" "revokedTs" "J" (.long q6)
set_option maxRecDepth 65536 in
set_option maxHeartbeats 40000000 in
theorem own_rm_smiR (l : Launch) (Z : State) (a0 : Array Value) (hw : ∀ d ∈ tables_1, d.before a0 Z = true) (ws : List Jvm.Cond) (a f to cm bd : Addr) (q1 q2 q3 q4 q5 q6 : Int64) (rv : Int32) (h0 : Heap) (n0 : Nat) (Z0 : n0 ≤ h0.size) (E_a : Exa Z h0 a "com/example/highwater/highwater/store/StoredMessage") (F_serverMsgId : Fld Z h0 a "com/example/highwater/highwater/store/StoredMessage" "serverMsgId" "J" (.long (0 : Int64))) (F_conversationId : Fld Z h0 a "com/example/highwater/highwater/store/StoredMessage" "conversationId" "J" (.long (0 : Int64))) (F_msgSeq : Fld Z h0 a "com/example/highwater/highwater/store/StoredMessage" "msgSeq" "J" (.long (0 : Int64))) (F_from : Fld Z h0 a "com/example/highwater/highwater/store/StoredMessage" "from" "Ljava/lang/String;" .null) (F_to : Fld Z h0 a "com/example/highwater/highwater/store/StoredMessage" "to" "Ljava/lang/String;" .null) (F_groupId : Fld Z h0 a "com/example/highwater/highwater/store/StoredMessage" "groupId" "J" (.long (0 : Int64))) (F_clientMsgId : Fld Z h0 a "com/example/highwater/highwater/store/StoredMessage" "clientMsgId" "Ljava/lang/String;" .null) (F_body : Fld Z h0 a "com/example/highwater/highwater/store/StoredMessage" "body" "Ljava/lang/String;" .null) (F_ts : Fld Z h0 a "com/example/highwater/highwater/store/StoredMessage" "ts" "J" (.long (0 : Int64))) (F_revoked : Fld Z h0 a "com/example/highwater/highwater/store/StoredMessage" "revoked" "Z" (.int (0 : Int32))) (F_revokedTs : Fld Z h0 a "com/example/highwater/highwater/store/StoredMessage" "revokedTs" "J" (.long (0 : Int64))) (g_a : n0 ≤ a) :
    MetFree l (⟨"com/example/highwater/highwater/store/StoredMessage", "<init>", "(JJJLjava/lang/String;Ljava/lang/String;JLjava/lang/String;Ljava/lang/String;JZJ)V"⟩ : MethodName) (head1 (Jvm.Cond.code (⟨"com/example/highwater/highwater/store/StoredMessage", "<init>", "(JJJLjava/lang/String;Ljava/lang/String;JLjava/lang/String;Ljava/lang/String;JZJ)V"⟩ : MethodName) prog_31_method_1_code 18 none :: ws) ({ frames := 1, cells := 0, slots := 0, locals := 12 } : Room)) (fun aa UU => aa = #[(.ref a), (.long q1), (.long q2), (.long q3), (.ref f), (.ref to), (.long q4), (.ref cm), (.ref bd), (.long q5), (.int rv), (.long q6)] ∧ Z.Warmed39 UU.vm ∧ UU.heap = h0) (fun _ _ _ _ _ => True) (fun _ UU oo UU' => ∃ vv LL, oo = .returned vv ∧ own_Q_smiR Z a f to cm bd q1 q2 q3 q4 q5 q6 rv h0 n0 vv UU'.heap LL ∧ FrameEnd UU oo UU' LL ({ frames := 1, cells := 0, slots := 0, locals := 12 } : Room).cells ({ frames := 1, cells := 0, slots := 0, locals := 12 } : Room).slots) := by
  refine MetFree.of_bodySF (plainFor_of_name own_pn2) hisR ?_
  intro p e s m args below meth c s₁ Bd hml0 hP hK
  obtain ⟨rfl, hZ, hh⟩ := hP
  have hx := Bd.exec
  have hby := Bd.bytes
  have hml : c.maxLocals = 18 := hml0
  have hown : s.vm.findClass "com/example/highwater/highwater/store/StoredMessage" = some m.cls := findClass_of_methodNamed Bd.named
  have hnm := (name_of_methodNamed Bd.named Bd.method).1
  have X0 : Stand p l e ({ frames := 1, cells := 0, slots := 0, locals := 12 } : Room) s m #[(.ref a), (.long q1), (.long q2), (.long q3), (.ref f), (.ref to), (.long q4), (.ref cm), (.ref bd), (.long q5), (.int rv), (.long q6)] below meth c s₁ [] 0 0 := Stand.of_body Bd
  have e0 : s₁.heap = h0 := by rw [← hh, Bd.state]; rfl
  have N0 := Fr.nil n0
  have K0 : Keep h0 h0 [a] := Keep.refl h0 _
  show own_Gl p e below (own_Post s (own_Q_smiR Z a f to cm bd q1 q2 q3 q4 q5 q6 rv h0 n0) ({ frames := 1, cells := 0, slots := 0, locals := 12 } : Room).cells ({ frames := 1, cells := 0, slots := 0, locals := 12 } : Room).slots) _
  refine own_st (fun tg_ kg_ => castTop (own_ef_smiR m a q1 q2 q3 f to q4 cm bd q5 rv q6) kg_) ?_
  show own_Gl p e below _ (s₁.setTop (mkF m 0 #[.val (.ref a), .val (.long q1), .second, .val (.long q2), .second, .val (.long q3), .second, .val (.ref f), .val (.ref to), .val (.long q4), .second, .val (.ref cm), .val (.ref bd), .val (.long q5), .second, .val (.int rv), .val (.long q6), .second] []))
  refine own_st (fun tg_ kg_ => XS.aloadN X0.here hx rfl (hb hby own_d_prog_31_method_1_code_0) rfl rfl kg_) ?_
  show own_Gl p e below _ (s₁.setTop (mkF m 1 #[.val (.ref a), .val (.long q1), .second, .val (.long q2), .second, .val (.long q3), .second, .val (.ref f), .val (.ref to), .val (.long q4), .second, .val (.ref cm), .val (.ref bd), .val (.long q5), .second, .val (.int rv), .val (.long q6), .second] [(.ref a)]))
  obtain ⟨T1, X1, e1, st1⟩ := initO X0 hx hZ hown (hw _ (List.mem_of_getElem? (i := 51) rfl)) (hw _ (List.mem_of_getElem? (i := 21) rfl)) (hw _ (List.mem_of_getElem? (i := 22) rfl)) e0 (g := (mkF m 1 #[.val (.ref a), .val (.long q1), .second, .val (.long q2), .second, .val (.long q3), .second, .val (.ref f), .val (.ref to), .val (.long q4), .second, .val (.ref cm), .val (.ref bd), .val (.long q5), .second, .val (.int rv), .val (.long q6), .second] [(.ref a)])) rfl (by rw [hml]; rfl) rfl (hb hby own_d_prog_31_method_1_code_1) (by decide) (W := 0) (by show 2 * 0 + _ ≤ _; exact Nat.le_of_eq rfl) (by decide)
  refine own_st st1 ?_
  try clear st1
  show own_Gl p e below _ (T1.setTop (mkF m 4 #[.val (.ref a), .val (.long q1), .second, .val (.long q2), .second, .val (.long q3), .second, .val (.ref f), .val (.ref to), .val (.long q4), .second, .val (.ref cm), .val (.ref bd), .val (.long q5), .second, .val (.int rv), .val (.long q6), .second] []))
  refine own_st (fun tg_ kg_ => XS.aloadN X1.here hx rfl (hb hby own_d_prog_31_method_1_code_4) rfl rfl kg_) ?_
  show own_Gl p e below _ (T1.setTop (mkF m 5 #[.val (.ref a), .val (.long q1), .second, .val (.long q2), .second, .val (.long q3), .second, .val (.ref f), .val (.ref to), .val (.long q4), .second, .val (.ref cm), .val (.ref bd), .val (.long q5), .second, .val (.int rv), .val (.long q6), .second] [(.ref a)]))
  refine own_st (fun tg_ kg_ => XS.lloadN X1.here hx rfl (hb hby own_d_prog_31_method_1_code_5) rfl kg_) ?_
  show own_Gl p e below _ (T1.setTop (mkF m 6 #[.val (.ref a), .val (.long q1), .second, .val (.long q2), .second, .val (.long q3), .second, .val (.ref f), .val (.ref to), .val (.long q4), .second, .val (.ref cm), .val (.ref bd), .val (.long q5), .second, .val (.int rv), .val (.long q6), .second] [(.long q1), (.ref a)]))
  obtain ⟨T2, h2, X2, e2, W2, st2⟩ := putF X1 hx hZ hown (host := "") (Or.inl (hw _ (List.mem_of_getElem? (i := 52) rfl))) Via.refl e1 F_serverMsgId E_a (Or.inr ⟨(hw _ (List.mem_of_getElem? (i := 53) rfl)), rfl, hnm⟩) (hw _ (List.mem_of_getElem? (i := 46) rfl)) (ty := .long) (by decide) rfl rfl (g := (mkF m 6 #[.val (.ref a), .val (.long q1), .second, .val (.long q2), .second, .val (.long q3), .second, .val (.ref f), .val (.ref to), .val (.long q4), .second, .val (.ref cm), .val (.ref bd), .val (.long q5), .second, .val (.int rv), .val (.long q6), .second] [(.long q1), (.ref a)])) rfl rfl (hb hby own_d_prog_31_method_1_code_6)
  have N2 := Fr.snoc X2 N0 g_a
  replace E_a := E_a.wr W2
  replace F_serverMsgId := F_serverMsgId.same W2
  replace F_conversationId := F_conversationId.other W2 (Or.inr (slot_ne (Or.inr (hw _ (List.mem_of_getElem? (i := 55) rfl))) (Or.inr (hw _ (List.mem_of_getElem? (i := 53) rfl))) (by decide) (t := .long) (t' := .long) (by decide) (by decide)))
  replace F_msgSeq := F_msgSeq.other W2 (Or.inr (slot_ne (Or.inr (hw _ (List.mem_of_getElem? (i := 57) rfl))) (Or.inr (hw _ (List.mem_of_getElem? (i := 53) rfl))) (by decide) (t := .long) (t' := .long) (by decide) (by decide)))
  replace F_from := F_from.other W2 (Or.inr (slot_ne (Or.inr (hw _ (List.mem_of_getElem? (i := 59) rfl))) (Or.inr (hw _ (List.mem_of_getElem? (i := 53) rfl))) (by decide) (t := (.object "java/lang/String")) (t' := .long) (by decide) (by decide)))
  replace F_to := F_to.other W2 (Or.inr (slot_ne (Or.inr (hw _ (List.mem_of_getElem? (i := 61) rfl))) (Or.inr (hw _ (List.mem_of_getElem? (i := 53) rfl))) (by decide) (t := (.object "java/lang/String")) (t' := .long) (by decide) (by decide)))
  replace F_groupId := F_groupId.other W2 (Or.inr (slot_ne (Or.inr (hw _ (List.mem_of_getElem? (i := 63) rfl))) (Or.inr (hw _ (List.mem_of_getElem? (i := 53) rfl))) (by decide) (t := .long) (t' := .long) (by decide) (by decide)))
  replace F_clientMsgId := F_clientMsgId.other W2 (Or.inr (slot_ne (Or.inr (hw _ (List.mem_of_getElem? (i := 65) rfl))) (Or.inr (hw _ (List.mem_of_getElem? (i := 53) rfl))) (by decide) (t := (.object "java/lang/String")) (t' := .long) (by decide) (by decide)))
  replace F_body := F_body.other W2 (Or.inr (slot_ne (Or.inr (hw _ (List.mem_of_getElem? (i := 67) rfl))) (Or.inr (hw _ (List.mem_of_getElem? (i := 53) rfl))) (by decide) (t := (.object "java/lang/String")) (t' := .long) (by decide) (by decide)))
  replace F_ts := F_ts.other W2 (Or.inr (slot_ne (Or.inr (hw _ (List.mem_of_getElem? (i := 69) rfl))) (Or.inr (hw _ (List.mem_of_getElem? (i := 53) rfl))) (by decide) (t := .long) (t' := .long) (by decide) (by decide)))
  replace F_revoked := F_revoked.other W2 (Or.inr (slot_ne (Or.inr (hw _ (List.mem_of_getElem? (i := 71) rfl))) (Or.inr (hw _ (List.mem_of_getElem? (i := 53) rfl))) (by decide) (t := .boolean) (t' := .long) (by decide) (by decide)))
  replace F_revokedTs := F_revokedTs.other W2 (Or.inr (slot_ne (Or.inr (hw _ (List.mem_of_getElem? (i := 73) rfl))) (Or.inr (hw _ (List.mem_of_getElem? (i := 53) rfl))) (by decide) (t := .long) (t' := .long) (by decide) (by decide)))
  have K3 : Keep h0 h2 [a] := K0.wr W2 (Or.inl (List.mem_of_getElem? (i := 0) rfl))
  refine own_st st2 ?_
  try clear st2
  try clear e1
  try clear X1
  try clear T1
  show own_Gl p e below _ (T2.setTop (mkF m 9 #[.val (.ref a), .val (.long q1), .second, .val (.long q2), .second, .val (.long q3), .second, .val (.ref f), .val (.ref to), .val (.long q4), .second, .val (.ref cm), .val (.ref bd), .val (.long q5), .second, .val (.int rv), .val (.long q6), .second] []))
  refine own_st (fun tg_ kg_ => XS.aloadN X2.here hx rfl (hb hby own_d_prog_31_method_1_code_9) rfl rfl kg_) ?_
  show own_Gl p e below _ (T2.setTop (mkF m 10 #[.val (.ref a), .val (.long q1), .second, .val (.long q2), .second, .val (.long q3), .second, .val (.ref f), .val (.ref to), .val (.long q4), .second, .val (.ref cm), .val (.ref bd), .val (.long q5), .second, .val (.int rv), .val (.long q6), .second] [(.ref a)]))
  refine own_st (fun tg_ kg_ => XS.lloadN X2.here hx rfl (hb hby own_d_prog_31_method_1_code_10) rfl kg_) ?_
  show own_Gl p e below _ (T2.setTop (mkF m 11 #[.val (.ref a), .val (.long q1), .second, .val (.long q2), .second, .val (.long q3), .second, .val (.ref f), .val (.ref to), .val (.long q4), .second, .val (.ref cm), .val (.ref bd), .val (.long q5), .second, .val (.int rv), .val (.long q6), .second] [(.long q2), (.ref a)]))
  obtain ⟨T4, h4, X4, e4, W4, st4⟩ := putF X2 hx hZ hown (host := "") (Or.inl (hw _ (List.mem_of_getElem? (i := 54) rfl))) Via.refl e2 F_conversationId E_a (Or.inr ⟨(hw _ (List.mem_of_getElem? (i := 55) rfl)), rfl, hnm⟩) (hw _ (List.mem_of_getElem? (i := 46) rfl)) (ty := .long) (by decide) rfl rfl (g := (mkF m 11 #[.val (.ref a), .val (.long q1), .second, .val (.long q2), .second, .val (.long q3), .second, .val (.ref f), .val (.ref to), .val (.long q4), .second, .val (.ref cm), .val (.ref bd), .val (.long q5), .second, .val (.int rv), .val (.long q6), .second] [(.long q2), (.ref a)])) rfl rfl (hb hby own_d_prog_31_method_1_code_11)
  have N4 := Fr.snoc X4 N2 g_a
  try clear N2
  replace E_a := E_a.wr W4
  replace F_serverMsgId := F_serverMsgId.other W4 (Or.inr (slot_ne (Or.inr (hw _ (List.mem_of_getElem? (i := 53) rfl))) (Or.inr (hw _ (List.mem_of_getElem? (i := 55) rfl))) (by decide) (t := .long) (t' := .long) (by decide) (by decide)))
  replace F_conversationId := F_conversationId.same W4
  replace F_msgSeq := F_msgSeq.other W4 (Or.inr (slot_ne (Or.inr (hw _ (List.mem_of_getElem? (i := 57) rfl))) (Or.inr (hw _ (List.mem_of_getElem? (i := 55) rfl))) (by decide) (t := .long) (t' := .long) (by decide) (by decide)))
  replace F_from := F_from.other W4 (Or.inr (slot_ne (Or.inr (hw _ (List.mem_of_getElem? (i := 59) rfl))) (Or.inr (hw _ (List.mem_of_getElem? (i := 55) rfl))) (by decide) (t := (.object "java/lang/String")) (t' := .long) (by decide) (by decide)))
  replace F_to := F_to.other W4 (Or.inr (slot_ne (Or.inr (hw _ (List.mem_of_getElem? (i := 61) rfl))) (Or.inr (hw _ (List.mem_of_getElem? (i := 55) rfl))) (by decide) (t := (.object "java/lang/String")) (t' := .long) (by decide) (by decide)))
  replace F_groupId := F_groupId.other W4 (Or.inr (slot_ne (Or.inr (hw _ (List.mem_of_getElem? (i := 63) rfl))) (Or.inr (hw _ (List.mem_of_getElem? (i := 55) rfl))) (by decide) (t := .long) (t' := .long) (by decide) (by decide)))
  replace F_clientMsgId := F_clientMsgId.other W4 (Or.inr (slot_ne (Or.inr (hw _ (List.mem_of_getElem? (i := 65) rfl))) (Or.inr (hw _ (List.mem_of_getElem? (i := 55) rfl))) (by decide) (t := (.object "java/lang/String")) (t' := .long) (by decide) (by decide)))
  replace F_body := F_body.other W4 (Or.inr (slot_ne (Or.inr (hw _ (List.mem_of_getElem? (i := 67) rfl))) (Or.inr (hw _ (List.mem_of_getElem? (i := 55) rfl))) (by decide) (t := (.object "java/lang/String")) (t' := .long) (by decide) (by decide)))
  replace F_ts := F_ts.other W4 (Or.inr (slot_ne (Or.inr (hw _ (List.mem_of_getElem? (i := 69) rfl))) (Or.inr (hw _ (List.mem_of_getElem? (i := 55) rfl))) (by decide) (t := .long) (t' := .long) (by decide) (by decide)))
  replace F_revoked := F_revoked.other W4 (Or.inr (slot_ne (Or.inr (hw _ (List.mem_of_getElem? (i := 71) rfl))) (Or.inr (hw _ (List.mem_of_getElem? (i := 55) rfl))) (by decide) (t := .boolean) (t' := .long) (by decide) (by decide)))
  replace F_revokedTs := F_revokedTs.other W4 (Or.inr (slot_ne (Or.inr (hw _ (List.mem_of_getElem? (i := 73) rfl))) (Or.inr (hw _ (List.mem_of_getElem? (i := 55) rfl))) (by decide) (t := .long) (t' := .long) (by decide) (by decide)))
  have K5 : Keep h0 h4 [a] := K3.wr W4 (Or.inl (List.mem_of_getElem? (i := 0) rfl))
  try clear K3
  refine own_st st4 ?_
  try clear st4
  try clear e2
  try clear X2
  try clear T2
  show own_Gl p e below _ (T4.setTop (mkF m 14 #[.val (.ref a), .val (.long q1), .second, .val (.long q2), .second, .val (.long q3), .second, .val (.ref f), .val (.ref to), .val (.long q4), .second, .val (.ref cm), .val (.ref bd), .val (.long q5), .second, .val (.int rv), .val (.long q6), .second] []))
  refine own_st (fun tg_ kg_ => XS.aloadN X4.here hx rfl (hb hby own_d_prog_31_method_1_code_14) rfl rfl kg_) ?_
  show own_Gl p e below _ (T4.setTop (mkF m 15 #[.val (.ref a), .val (.long q1), .second, .val (.long q2), .second, .val (.long q3), .second, .val (.ref f), .val (.ref to), .val (.long q4), .second, .val (.ref cm), .val (.ref bd), .val (.long q5), .second, .val (.int rv), .val (.long q6), .second] [(.ref a)]))
  refine own_st (fun tg_ kg_ => XS.lload X4.here hx rfl (hb hby own_d_prog_31_method_1_code_15) rfl kg_) ?_
  show own_Gl p e below _ (T4.setTop (mkF m 17 #[.val (.ref a), .val (.long q1), .second, .val (.long q2), .second, .val (.long q3), .second, .val (.ref f), .val (.ref to), .val (.long q4), .second, .val (.ref cm), .val (.ref bd), .val (.long q5), .second, .val (.int rv), .val (.long q6), .second] [(.long q3), (.ref a)]))
  obtain ⟨T6, h6, X6, e6, W6, st6⟩ := putF X4 hx hZ hown (host := "") (Or.inl (hw _ (List.mem_of_getElem? (i := 56) rfl))) Via.refl e4 F_msgSeq E_a (Or.inr ⟨(hw _ (List.mem_of_getElem? (i := 57) rfl)), rfl, hnm⟩) (hw _ (List.mem_of_getElem? (i := 46) rfl)) (ty := .long) (by decide) rfl rfl (g := (mkF m 17 #[.val (.ref a), .val (.long q1), .second, .val (.long q2), .second, .val (.long q3), .second, .val (.ref f), .val (.ref to), .val (.long q4), .second, .val (.ref cm), .val (.ref bd), .val (.long q5), .second, .val (.int rv), .val (.long q6), .second] [(.long q3), (.ref a)])) rfl rfl (hb hby own_d_prog_31_method_1_code_17)
  have N6 := Fr.snoc X6 N4 g_a
  try clear N4
  replace E_a := E_a.wr W6
  replace F_serverMsgId := F_serverMsgId.other W6 (Or.inr (slot_ne (Or.inr (hw _ (List.mem_of_getElem? (i := 53) rfl))) (Or.inr (hw _ (List.mem_of_getElem? (i := 57) rfl))) (by decide) (t := .long) (t' := .long) (by decide) (by decide)))
  replace F_conversationId := F_conversationId.other W6 (Or.inr (slot_ne (Or.inr (hw _ (List.mem_of_getElem? (i := 55) rfl))) (Or.inr (hw _ (List.mem_of_getElem? (i := 57) rfl))) (by decide) (t := .long) (t' := .long) (by decide) (by decide)))
  replace F_msgSeq := F_msgSeq.same W6
  replace F_from := F_from.other W6 (Or.inr (slot_ne (Or.inr (hw _ (List.mem_of_getElem? (i := 59) rfl))) (Or.inr (hw _ (List.mem_of_getElem? (i := 57) rfl))) (by decide) (t := (.object "java/lang/String")) (t' := .long) (by decide) (by decide)))
  replace F_to := F_to.other W6 (Or.inr (slot_ne (Or.inr (hw _ (List.mem_of_getElem? (i := 61) rfl))) (Or.inr (hw _ (List.mem_of_getElem? (i := 57) rfl))) (by decide) (t := (.object "java/lang/String")) (t' := .long) (by decide) (by decide)))
  replace F_groupId := F_groupId.other W6 (Or.inr (slot_ne (Or.inr (hw _ (List.mem_of_getElem? (i := 63) rfl))) (Or.inr (hw _ (List.mem_of_getElem? (i := 57) rfl))) (by decide) (t := .long) (t' := .long) (by decide) (by decide)))
  replace F_clientMsgId := F_clientMsgId.other W6 (Or.inr (slot_ne (Or.inr (hw _ (List.mem_of_getElem? (i := 65) rfl))) (Or.inr (hw _ (List.mem_of_getElem? (i := 57) rfl))) (by decide) (t := (.object "java/lang/String")) (t' := .long) (by decide) (by decide)))
  replace F_body := F_body.other W6 (Or.inr (slot_ne (Or.inr (hw _ (List.mem_of_getElem? (i := 67) rfl))) (Or.inr (hw _ (List.mem_of_getElem? (i := 57) rfl))) (by decide) (t := (.object "java/lang/String")) (t' := .long) (by decide) (by decide)))
  replace F_ts := F_ts.other W6 (Or.inr (slot_ne (Or.inr (hw _ (List.mem_of_getElem? (i := 69) rfl))) (Or.inr (hw _ (List.mem_of_getElem? (i := 57) rfl))) (by decide) (t := .long) (t' := .long) (by decide) (by decide)))
  replace F_revoked := F_revoked.other W6 (Or.inr (slot_ne (Or.inr (hw _ (List.mem_of_getElem? (i := 71) rfl))) (Or.inr (hw _ (List.mem_of_getElem? (i := 57) rfl))) (by decide) (t := .boolean) (t' := .long) (by decide) (by decide)))
  replace F_revokedTs := F_revokedTs.other W6 (Or.inr (slot_ne (Or.inr (hw _ (List.mem_of_getElem? (i := 73) rfl))) (Or.inr (hw _ (List.mem_of_getElem? (i := 57) rfl))) (by decide) (t := .long) (t' := .long) (by decide) (by decide)))
  have K7 : Keep h0 h6 [a] := K5.wr W6 (Or.inl (List.mem_of_getElem? (i := 0) rfl))
  try clear K5
  refine own_st st6 ?_
  try clear st6
  try clear e4
  try clear X4
  try clear T4
  show own_Gl p e below _ (T6.setTop (mkF m 20 #[.val (.ref a), .val (.long q1), .second, .val (.long q2), .second, .val (.long q3), .second, .val (.ref f), .val (.ref to), .val (.long q4), .second, .val (.ref cm), .val (.ref bd), .val (.long q5), .second, .val (.int rv), .val (.long q6), .second] []))
  refine own_st (fun tg_ kg_ => XS.aloadN X6.here hx rfl (hb hby own_d_prog_31_method_1_code_20) rfl rfl kg_) ?_
  show own_Gl p e below _ (T6.setTop (mkF m 21 #[.val (.ref a), .val (.long q1), .second, .val (.long q2), .second, .val (.long q3), .second, .val (.ref f), .val (.ref to), .val (.long q4), .second, .val (.ref cm), .val (.ref bd), .val (.long q5), .second, .val (.int rv), .val (.long q6), .second] [(.ref a)]))
  refine own_st (fun tg_ kg_ => XS.aload X6.here hx rfl (hb hby own_d_prog_31_method_1_code_21) rfl rfl kg_) ?_
  show own_Gl p e below _ (T6.setTop (mkF m 23 #[.val (.ref a), .val (.long q1), .second, .val (.long q2), .second, .val (.long q3), .second, .val (.ref f), .val (.ref to), .val (.long q4), .second, .val (.ref cm), .val (.ref bd), .val (.long q5), .second, .val (.int rv), .val (.long q6), .second] [(.ref f), (.ref a)]))
  obtain ⟨T8, h8, X8, e8, W8, st8⟩ := putF X6 hx hZ hown (host := "") (Or.inl (hw _ (List.mem_of_getElem? (i := 58) rfl))) Via.refl e6 F_from E_a (Or.inr ⟨(hw _ (List.mem_of_getElem? (i := 59) rfl)), rfl, hnm⟩) (hw _ (List.mem_of_getElem? (i := 46) rfl)) (ty := (.object "java/lang/String")) (by decide) rfl rfl (g := (mkF m 23 #[.val (.ref a), .val (.long q1), .second, .val (.long q2), .second, .val (.long q3), .second, .val (.ref f), .val (.ref to), .val (.long q4), .second, .val (.ref cm), .val (.ref bd), .val (.long q5), .second, .val (.int rv), .val (.long q6), .second] [(.ref f), (.ref a)])) rfl rfl (hb hby own_d_prog_31_method_1_code_23)
  have N8 := Fr.snoc X8 N6 g_a
  try clear N6
  replace E_a := E_a.wr W8
  replace F_serverMsgId := F_serverMsgId.other W8 (Or.inr (slot_ne (Or.inr (hw _ (List.mem_of_getElem? (i := 53) rfl))) (Or.inr (hw _ (List.mem_of_getElem? (i := 59) rfl))) (by decide) (t := .long) (t' := (.object "java/lang/String")) (by decide) (by decide)))
  replace F_conversationId := F_conversationId.other W8 (Or.inr (slot_ne (Or.inr (hw _ (List.mem_of_getElem? (i := 55) rfl))) (Or.inr (hw _ (List.mem_of_getElem? (i := 59) rfl))) (by decide) (t := .long) (t' := (.object "java/lang/String")) (by decide) (by decide)))
  replace F_msgSeq := F_msgSeq.other W8 (Or.inr (slot_ne (Or.inr (hw _ (List.mem_of_getElem? (i := 57) rfl))) (Or.inr (hw _ (List.mem_of_getElem? (i := 59) rfl))) (by decide) (t := .long) (t' := (.object "java/lang/String")) (by decide) (by decide)))
  replace F_from := F_from.same W8
  replace F_to := F_to.other W8 (Or.inr (slot_ne (Or.inr (hw _ (List.mem_of_getElem? (i := 61) rfl))) (Or.inr (hw _ (List.mem_of_getElem? (i := 59) rfl))) (by decide) (t := (.object "java/lang/String")) (t' := (.object "java/lang/String")) (by decide) (by decide)))
  replace F_groupId := F_groupId.other W8 (Or.inr (slot_ne (Or.inr (hw _ (List.mem_of_getElem? (i := 63) rfl))) (Or.inr (hw _ (List.mem_of_getElem? (i := 59) rfl))) (by decide) (t := .long) (t' := (.object "java/lang/String")) (by decide) (by decide)))
  replace F_clientMsgId := F_clientMsgId.other W8 (Or.inr (slot_ne (Or.inr (hw _ (List.mem_of_getElem? (i := 65) rfl))) (Or.inr (hw _ (List.mem_of_getElem? (i := 59) rfl))) (by decide) (t := (.object "java/lang/String")) (t' := (.object "java/lang/String")) (by decide) (by decide)))
  replace F_body := F_body.other W8 (Or.inr (slot_ne (Or.inr (hw _ (List.mem_of_getElem? (i := 67) rfl))) (Or.inr (hw _ (List.mem_of_getElem? (i := 59) rfl))) (by decide) (t := (.object "java/lang/String")) (t' := (.object "java/lang/String")) (by decide) (by decide)))
  replace F_ts := F_ts.other W8 (Or.inr (slot_ne (Or.inr (hw _ (List.mem_of_getElem? (i := 69) rfl))) (Or.inr (hw _ (List.mem_of_getElem? (i := 59) rfl))) (by decide) (t := .long) (t' := (.object "java/lang/String")) (by decide) (by decide)))
  replace F_revoked := F_revoked.other W8 (Or.inr (slot_ne (Or.inr (hw _ (List.mem_of_getElem? (i := 71) rfl))) (Or.inr (hw _ (List.mem_of_getElem? (i := 59) rfl))) (by decide) (t := .boolean) (t' := (.object "java/lang/String")) (by decide) (by decide)))
  replace F_revokedTs := F_revokedTs.other W8 (Or.inr (slot_ne (Or.inr (hw _ (List.mem_of_getElem? (i := 73) rfl))) (Or.inr (hw _ (List.mem_of_getElem? (i := 59) rfl))) (by decide) (t := .long) (t' := (.object "java/lang/String")) (by decide) (by decide)))
  have K9 : Keep h0 h8 [a] := K7.wr W8 (Or.inl (List.mem_of_getElem? (i := 0) rfl))
  try clear K7
  refine own_st st8 ?_
  try clear st8
  try clear e6
  try clear X6
  try clear T6
  show own_Gl p e below _ (T8.setTop (mkF m 26 #[.val (.ref a), .val (.long q1), .second, .val (.long q2), .second, .val (.long q3), .second, .val (.ref f), .val (.ref to), .val (.long q4), .second, .val (.ref cm), .val (.ref bd), .val (.long q5), .second, .val (.int rv), .val (.long q6), .second] []))
  refine own_st (fun tg_ kg_ => XS.aloadN X8.here hx rfl (hb hby own_d_prog_31_method_1_code_26) rfl rfl kg_) ?_
  show own_Gl p e below _ (T8.setTop (mkF m 27 #[.val (.ref a), .val (.long q1), .second, .val (.long q2), .second, .val (.long q3), .second, .val (.ref f), .val (.ref to), .val (.long q4), .second, .val (.ref cm), .val (.ref bd), .val (.long q5), .second, .val (.int rv), .val (.long q6), .second] [(.ref a)]))
  refine own_st (fun tg_ kg_ => XS.aload X8.here hx rfl (hb hby own_d_prog_31_method_1_code_27) rfl rfl kg_) ?_
  show own_Gl p e below _ (T8.setTop (mkF m 29 #[.val (.ref a), .val (.long q1), .second, .val (.long q2), .second, .val (.long q3), .second, .val (.ref f), .val (.ref to), .val (.long q4), .second, .val (.ref cm), .val (.ref bd), .val (.long q5), .second, .val (.int rv), .val (.long q6), .second] [(.ref to), (.ref a)]))
  obtain ⟨T10, h10, X10, e10, W10, st10⟩ := putF X8 hx hZ hown (host := "") (Or.inl (hw _ (List.mem_of_getElem? (i := 60) rfl))) Via.refl e8 F_to E_a (Or.inr ⟨(hw _ (List.mem_of_getElem? (i := 61) rfl)), rfl, hnm⟩) (hw _ (List.mem_of_getElem? (i := 46) rfl)) (ty := (.object "java/lang/String")) (by decide) rfl rfl (g := (mkF m 29 #[.val (.ref a), .val (.long q1), .second, .val (.long q2), .second, .val (.long q3), .second, .val (.ref f), .val (.ref to), .val (.long q4), .second, .val (.ref cm), .val (.ref bd), .val (.long q5), .second, .val (.int rv), .val (.long q6), .second] [(.ref to), (.ref a)])) rfl rfl (hb hby own_d_prog_31_method_1_code_29)
  have N10 := Fr.snoc X10 N8 g_a
  try clear N8
  replace E_a := E_a.wr W10
  replace F_serverMsgId := F_serverMsgId.other W10 (Or.inr (slot_ne (Or.inr (hw _ (List.mem_of_getElem? (i := 53) rfl))) (Or.inr (hw _ (List.mem_of_getElem? (i := 61) rfl))) (by decide) (t := .long) (t' := (.object "java/lang/String")) (by decide) (by decide)))
  replace F_conversationId := F_conversationId.other W10 (Or.inr (slot_ne (Or.inr (hw _ (List.mem_of_getElem? (i := 55) rfl))) (Or.inr (hw _ (List.mem_of_getElem? (i := 61) rfl))) (by decide) (t := .long) (t' := (.object "java/lang/String")) (by decide) (by decide)))
  replace F_msgSeq := F_msgSeq.other W10 (Or.inr (slot_ne (Or.inr (hw _ (List.mem_of_getElem? (i := 57) rfl))) (Or.inr (hw _ (List.mem_of_getElem? (i := 61) rfl))) (by decide) (t := .long) (t' := (.object "java/lang/String")) (by decide) (by decide)))
  replace F_from := F_from.other W10 (Or.inr (slot_ne (Or.inr (hw _ (List.mem_of_getElem? (i := 59) rfl))) (Or.inr (hw _ (List.mem_of_getElem? (i := 61) rfl))) (by decide) (t := (.object "java/lang/String")) (t' := (.object "java/lang/String")) (by decide) (by decide)))
  replace F_to := F_to.same W10
  replace F_groupId := F_groupId.other W10 (Or.inr (slot_ne (Or.inr (hw _ (List.mem_of_getElem? (i := 63) rfl))) (Or.inr (hw _ (List.mem_of_getElem? (i := 61) rfl))) (by decide) (t := .long) (t' := (.object "java/lang/String")) (by decide) (by decide)))
  replace F_clientMsgId := F_clientMsgId.other W10 (Or.inr (slot_ne (Or.inr (hw _ (List.mem_of_getElem? (i := 65) rfl))) (Or.inr (hw _ (List.mem_of_getElem? (i := 61) rfl))) (by decide) (t := (.object "java/lang/String")) (t' := (.object "java/lang/String")) (by decide) (by decide)))
  replace F_body := F_body.other W10 (Or.inr (slot_ne (Or.inr (hw _ (List.mem_of_getElem? (i := 67) rfl))) (Or.inr (hw _ (List.mem_of_getElem? (i := 61) rfl))) (by decide) (t := (.object "java/lang/String")) (t' := (.object "java/lang/String")) (by decide) (by decide)))
  replace F_ts := F_ts.other W10 (Or.inr (slot_ne (Or.inr (hw _ (List.mem_of_getElem? (i := 69) rfl))) (Or.inr (hw _ (List.mem_of_getElem? (i := 61) rfl))) (by decide) (t := .long) (t' := (.object "java/lang/String")) (by decide) (by decide)))
  replace F_revoked := F_revoked.other W10 (Or.inr (slot_ne (Or.inr (hw _ (List.mem_of_getElem? (i := 71) rfl))) (Or.inr (hw _ (List.mem_of_getElem? (i := 61) rfl))) (by decide) (t := .boolean) (t' := (.object "java/lang/String")) (by decide) (by decide)))
  replace F_revokedTs := F_revokedTs.other W10 (Or.inr (slot_ne (Or.inr (hw _ (List.mem_of_getElem? (i := 73) rfl))) (Or.inr (hw _ (List.mem_of_getElem? (i := 61) rfl))) (by decide) (t := .long) (t' := (.object "java/lang/String")) (by decide) (by decide)))
  have K11 : Keep h0 h10 [a] := K9.wr W10 (Or.inl (List.mem_of_getElem? (i := 0) rfl))
  try clear K9
  refine own_st st10 ?_
  try clear st10
  try clear e8
  try clear X8
  try clear T8
  show own_Gl p e below _ (T10.setTop (mkF m 32 #[.val (.ref a), .val (.long q1), .second, .val (.long q2), .second, .val (.long q3), .second, .val (.ref f), .val (.ref to), .val (.long q4), .second, .val (.ref cm), .val (.ref bd), .val (.long q5), .second, .val (.int rv), .val (.long q6), .second] []))
  refine own_st (fun tg_ kg_ => XS.aloadN X10.here hx rfl (hb hby own_d_prog_31_method_1_code_32) rfl rfl kg_) ?_
  show own_Gl p e below _ (T10.setTop (mkF m 33 #[.val (.ref a), .val (.long q1), .second, .val (.long q2), .second, .val (.long q3), .second, .val (.ref f), .val (.ref to), .val (.long q4), .second, .val (.ref cm), .val (.ref bd), .val (.long q5), .second, .val (.int rv), .val (.long q6), .second] [(.ref a)]))
  refine own_st (fun tg_ kg_ => XS.lload X10.here hx rfl (hb hby own_d_prog_31_method_1_code_33) rfl kg_) ?_
  show own_Gl p e below _ (T10.setTop (mkF m 35 #[.val (.ref a), .val (.long q1), .second, .val (.long q2), .second, .val (.long q3), .second, .val (.ref f), .val (.ref to), .val (.long q4), .second, .val (.ref cm), .val (.ref bd), .val (.long q5), .second, .val (.int rv), .val (.long q6), .second] [(.long q4), (.ref a)]))
  obtain ⟨T12, h12, X12, e12, W12, st12⟩ := putF X10 hx hZ hown (host := "") (Or.inl (hw _ (List.mem_of_getElem? (i := 62) rfl))) Via.refl e10 F_groupId E_a (Or.inr ⟨(hw _ (List.mem_of_getElem? (i := 63) rfl)), rfl, hnm⟩) (hw _ (List.mem_of_getElem? (i := 46) rfl)) (ty := .long) (by decide) rfl rfl (g := (mkF m 35 #[.val (.ref a), .val (.long q1), .second, .val (.long q2), .second, .val (.long q3), .second, .val (.ref f), .val (.ref to), .val (.long q4), .second, .val (.ref cm), .val (.ref bd), .val (.long q5), .second, .val (.int rv), .val (.long q6), .second] [(.long q4), (.ref a)])) rfl rfl (hb hby own_d_prog_31_method_1_code_35)
  have N12 := Fr.snoc X12 N10 g_a
  try clear N10
  replace E_a := E_a.wr W12
  replace F_serverMsgId := F_serverMsgId.other W12 (Or.inr (slot_ne (Or.inr (hw _ (List.mem_of_getElem? (i := 53) rfl))) (Or.inr (hw _ (List.mem_of_getElem? (i := 63) rfl))) (by decide) (t := .long) (t' := .long) (by decide) (by decide)))
  replace F_conversationId := F_conversationId.other W12 (Or.inr (slot_ne (Or.inr (hw _ (List.mem_of_getElem? (i := 55) rfl))) (Or.inr (hw _ (List.mem_of_getElem? (i := 63) rfl))) (by decide) (t := .long) (t' := .long) (by decide) (by decide)))
  replace F_msgSeq := F_msgSeq.other W12 (Or.inr (slot_ne (Or.inr (hw _ (List.mem_of_getElem? (i := 57) rfl))) (Or.inr (hw _ (List.mem_of_getElem? (i := 63) rfl))) (by decide) (t := .long) (t' := .long) (by decide) (by decide)))
  replace F_from := F_from.other W12 (Or.inr (slot_ne (Or.inr (hw _ (List.mem_of_getElem? (i := 59) rfl))) (Or.inr (hw _ (List.mem_of_getElem? (i := 63) rfl))) (by decide) (t := (.object "java/lang/String")) (t' := .long) (by decide) (by decide)))
  replace F_to := F_to.other W12 (Or.inr (slot_ne (Or.inr (hw _ (List.mem_of_getElem? (i := 61) rfl))) (Or.inr (hw _ (List.mem_of_getElem? (i := 63) rfl))) (by decide) (t := (.object "java/lang/String")) (t' := .long) (by decide) (by decide)))
  replace F_groupId := F_groupId.same W12
  replace F_clientMsgId := F_clientMsgId.other W12 (Or.inr (slot_ne (Or.inr (hw _ (List.mem_of_getElem? (i := 65) rfl))) (Or.inr (hw _ (List.mem_of_getElem? (i := 63) rfl))) (by decide) (t := (.object "java/lang/String")) (t' := .long) (by decide) (by decide)))
  replace F_body := F_body.other W12 (Or.inr (slot_ne (Or.inr (hw _ (List.mem_of_getElem? (i := 67) rfl))) (Or.inr (hw _ (List.mem_of_getElem? (i := 63) rfl))) (by decide) (t := (.object "java/lang/String")) (t' := .long) (by decide) (by decide)))
  replace F_ts := F_ts.other W12 (Or.inr (slot_ne (Or.inr (hw _ (List.mem_of_getElem? (i := 69) rfl))) (Or.inr (hw _ (List.mem_of_getElem? (i := 63) rfl))) (by decide) (t := .long) (t' := .long) (by decide) (by decide)))
  replace F_revoked := F_revoked.other W12 (Or.inr (slot_ne (Or.inr (hw _ (List.mem_of_getElem? (i := 71) rfl))) (Or.inr (hw _ (List.mem_of_getElem? (i := 63) rfl))) (by decide) (t := .boolean) (t' := .long) (by decide) (by decide)))
  replace F_revokedTs := F_revokedTs.other W12 (Or.inr (slot_ne (Or.inr (hw _ (List.mem_of_getElem? (i := 73) rfl))) (Or.inr (hw _ (List.mem_of_getElem? (i := 63) rfl))) (by decide) (t := .long) (t' := .long) (by decide) (by decide)))
  have K13 : Keep h0 h12 [a] := K11.wr W12 (Or.inl (List.mem_of_getElem? (i := 0) rfl))
  try clear K11
  refine own_st st12 ?_
  try clear st12
  try clear e10
  try clear X10
  try clear T10
  show own_Gl p e below _ (T12.setTop (mkF m 38 #[.val (.ref a), .val (.long q1), .second, .val (.long q2), .second, .val (.long q3), .second, .val (.ref f), .val (.ref to), .val (.long q4), .second, .val (.ref cm), .val (.ref bd), .val (.long q5), .second, .val (.int rv), .val (.long q6), .second] []))
  refine own_st (fun tg_ kg_ => XS.aloadN X12.here hx rfl (hb hby own_d_prog_31_method_1_code_38) rfl rfl kg_) ?_
  show own_Gl p e below _ (T12.setTop (mkF m 39 #[.val (.ref a), .val (.long q1), .second, .val (.long q2), .second, .val (.long q3), .second, .val (.ref f), .val (.ref to), .val (.long q4), .second, .val (.ref cm), .val (.ref bd), .val (.long q5), .second, .val (.int rv), .val (.long q6), .second] [(.ref a)]))
  refine own_st (fun tg_ kg_ => XS.aload X12.here hx rfl (hb hby own_d_prog_31_method_1_code_39) rfl rfl kg_) ?_
  show own_Gl p e below _ (T12.setTop (mkF m 41 #[.val (.ref a), .val (.long q1), .second, .val (.long q2), .second, .val (.long q3), .second, .val (.ref f), .val (.ref to), .val (.long q4), .second, .val (.ref cm), .val (.ref bd), .val (.long q5), .second, .val (.int rv), .val (.long q6), .second] [(.ref cm), (.ref a)]))
  obtain ⟨T14, h14, X14, e14, W14, st14⟩ := putF X12 hx hZ hown (host := "") (Or.inl (hw _ (List.mem_of_getElem? (i := 64) rfl))) Via.refl e12 F_clientMsgId E_a (Or.inr ⟨(hw _ (List.mem_of_getElem? (i := 65) rfl)), rfl, hnm⟩) (hw _ (List.mem_of_getElem? (i := 46) rfl)) (ty := (.object "java/lang/String")) (by decide) rfl rfl (g := (mkF m 41 #[.val (.ref a), .val (.long q1), .second, .val (.long q2), .second, .val (.long q3), .second, .val (.ref f), .val (.ref to), .val (.long q4), .second, .val (.ref cm), .val (.ref bd), .val (.long q5), .second, .val (.int rv), .val (.long q6), .second] [(.ref cm), (.ref a)])) rfl rfl (hb hby own_d_prog_31_method_1_code_41)
  have N14 := Fr.snoc X14 N12 g_a
  try clear N12
  replace E_a := E_a.wr W14
  replace F_serverMsgId := F_serverMsgId.other W14 (Or.inr (slot_ne (Or.inr (hw _ (List.mem_of_getElem? (i := 53) rfl))) (Or.inr (hw _ (List.mem_of_getElem? (i := 65) rfl))) (by decide) (t := .long) (t' := (.object "java/lang/String")) (by decide) (by decide)))
  replace F_conversationId := F_conversationId.other W14 (Or.inr (slot_ne (Or.inr (hw _ (List.mem_of_getElem? (i := 55) rfl))) (Or.inr (hw _ (List.mem_of_getElem? (i := 65) rfl))) (by decide) (t := .long) (t' := (.object "java/lang/String")) (by decide) (by decide)))
  replace F_msgSeq := F_msgSeq.other W14 (Or.inr (slot_ne (Or.inr (hw _ (List.mem_of_getElem? (i := 57) rfl))) (Or.inr (hw _ (List.mem_of_getElem? (i := 65) rfl))) (by decide) (t := .long) (t' := (.object "java/lang/String")) (by decide) (by decide)))
  replace F_from := F_from.other W14 (Or.inr (slot_ne (Or.inr (hw _ (List.mem_of_getElem? (i := 59) rfl))) (Or.inr (hw _ (List.mem_of_getElem? (i := 65) rfl))) (by decide) (t := (.object "java/lang/String")) (t' := (.object "java/lang/String")) (by decide) (by decide)))
  replace F_to := F_to.other W14 (Or.inr (slot_ne (Or.inr (hw _ (List.mem_of_getElem? (i := 61) rfl))) (Or.inr (hw _ (List.mem_of_getElem? (i := 65) rfl))) (by decide) (t := (.object "java/lang/String")) (t' := (.object "java/lang/String")) (by decide) (by decide)))
  replace F_groupId := F_groupId.other W14 (Or.inr (slot_ne (Or.inr (hw _ (List.mem_of_getElem? (i := 63) rfl))) (Or.inr (hw _ (List.mem_of_getElem? (i := 65) rfl))) (by decide) (t := .long) (t' := (.object "java/lang/String")) (by decide) (by decide)))
  replace F_clientMsgId := F_clientMsgId.same W14
  replace F_body := F_body.other W14 (Or.inr (slot_ne (Or.inr (hw _ (List.mem_of_getElem? (i := 67) rfl))) (Or.inr (hw _ (List.mem_of_getElem? (i := 65) rfl))) (by decide) (t := (.object "java/lang/String")) (t' := (.object "java/lang/String")) (by decide) (by decide)))
  replace F_ts := F_ts.other W14 (Or.inr (slot_ne (Or.inr (hw _ (List.mem_of_getElem? (i := 69) rfl))) (Or.inr (hw _ (List.mem_of_getElem? (i := 65) rfl))) (by decide) (t := .long) (t' := (.object "java/lang/String")) (by decide) (by decide)))
  replace F_revoked := F_revoked.other W14 (Or.inr (slot_ne (Or.inr (hw _ (List.mem_of_getElem? (i := 71) rfl))) (Or.inr (hw _ (List.mem_of_getElem? (i := 65) rfl))) (by decide) (t := .boolean) (t' := (.object "java/lang/String")) (by decide) (by decide)))
  replace F_revokedTs := F_revokedTs.other W14 (Or.inr (slot_ne (Or.inr (hw _ (List.mem_of_getElem? (i := 73) rfl))) (Or.inr (hw _ (List.mem_of_getElem? (i := 65) rfl))) (by decide) (t := .long) (t' := (.object "java/lang/String")) (by decide) (by decide)))
  have K15 : Keep h0 h14 [a] := K13.wr W14 (Or.inl (List.mem_of_getElem? (i := 0) rfl))
  try clear K13
  refine own_st st14 ?_
  try clear st14
  try clear e12
  try clear X12
  try clear T12
  show own_Gl p e below _ (T14.setTop (mkF m 44 #[.val (.ref a), .val (.long q1), .second, .val (.long q2), .second, .val (.long q3), .second, .val (.ref f), .val (.ref to), .val (.long q4), .second, .val (.ref cm), .val (.ref bd), .val (.long q5), .second, .val (.int rv), .val (.long q6), .second] []))
  refine own_st (fun tg_ kg_ => XS.aloadN X14.here hx rfl (hb hby own_d_prog_31_method_1_code_44) rfl rfl kg_) ?_
  show own_Gl p e below _ (T14.setTop (mkF m 45 #[.val (.ref a), .val (.long q1), .second, .val (.long q2), .second, .val (.long q3), .second, .val (.ref f), .val (.ref to), .val (.long q4), .second, .val (.ref cm), .val (.ref bd), .val (.long q5), .second, .val (.int rv), .val (.long q6), .second] [(.ref a)]))
  refine own_st (fun tg_ kg_ => XS.aload X14.here hx rfl (hb hby own_d_prog_31_method_1_code_45) rfl rfl kg_) ?_
  show own_Gl p e below _ (T14.setTop (mkF m 47 #[.val (.ref a), .val (.long q1), .second, .val (.long q2), .second, .val (.long q3), .second, .val (.ref f), .val (.ref to), .val (.long q4), .second, .val (.ref cm), .val (.ref bd), .val (.long q5), .second, .val (.int rv), .val (.long q6), .second] [(.ref bd), (.ref a)]))
  obtain ⟨T16, h16, X16, e16, W16, st16⟩ := putF X14 hx hZ hown (host := "") (Or.inl (hw _ (List.mem_of_getElem? (i := 66) rfl))) Via.refl e14 F_body E_a (Or.inr ⟨(hw _ (List.mem_of_getElem? (i := 67) rfl)), rfl, hnm⟩) (hw _ (List.mem_of_getElem? (i := 46) rfl)) (ty := (.object "java/lang/String")) (by decide) rfl rfl (g := (mkF m 47 #[.val (.ref a), .val (.long q1), .second, .val (.long q2), .second, .val (.long q3), .second, .val (.ref f), .val (.ref to), .val (.long q4), .second, .val (.ref cm), .val (.ref bd), .val (.long q5), .second, .val (.int rv), .val (.long q6), .second] [(.ref bd), (.ref a)])) rfl rfl (hb hby own_d_prog_31_method_1_code_47)
  have N16 := Fr.snoc X16 N14 g_a
  try clear N14
  replace E_a := E_a.wr W16
  replace F_serverMsgId := F_serverMsgId.other W16 (Or.inr (slot_ne (Or.inr (hw _ (List.mem_of_getElem? (i := 53) rfl))) (Or.inr (hw _ (List.mem_of_getElem? (i := 67) rfl))) (by decide) (t := .long) (t' := (.object "java/lang/String")) (by decide) (by decide)))
  replace F_conversationId := F_conversationId.other W16 (Or.inr (slot_ne (Or.inr (hw _ (List.mem_of_getElem? (i := 55) rfl))) (Or.inr (hw _ (List.mem_of_getElem? (i := 67) rfl))) (by decide) (t := .long) (t' := (.object "java/lang/String")) (by decide) (by decide)))
  replace F_msgSeq := F_msgSeq.other W16 (Or.inr (slot_ne (Or.inr (hw _ (List.mem_of_getElem? (i := 57) rfl))) (Or.inr (hw _ (List.mem_of_getElem? (i := 67) rfl))) (by decide) (t := .long) (t' := (.object "java/lang/String")) (by decide) (by decide)))
  replace F_from := F_from.other W16 (Or.inr (slot_ne (Or.inr (hw _ (List.mem_of_getElem? (i := 59) rfl))) (Or.inr (hw _ (List.mem_of_getElem? (i := 67) rfl))) (by decide) (t := (.object "java/lang/String")) (t' := (.object "java/lang/String")) (by decide) (by decide)))
  replace F_to := F_to.other W16 (Or.inr (slot_ne (Or.inr (hw _ (List.mem_of_getElem? (i := 61) rfl))) (Or.inr (hw _ (List.mem_of_getElem? (i := 67) rfl))) (by decide) (t := (.object "java/lang/String")) (t' := (.object "java/lang/String")) (by decide) (by decide)))
  replace F_groupId := F_groupId.other W16 (Or.inr (slot_ne (Or.inr (hw _ (List.mem_of_getElem? (i := 63) rfl))) (Or.inr (hw _ (List.mem_of_getElem? (i := 67) rfl))) (by decide) (t := .long) (t' := (.object "java/lang/String")) (by decide) (by decide)))
  replace F_clientMsgId := F_clientMsgId.other W16 (Or.inr (slot_ne (Or.inr (hw _ (List.mem_of_getElem? (i := 65) rfl))) (Or.inr (hw _ (List.mem_of_getElem? (i := 67) rfl))) (by decide) (t := (.object "java/lang/String")) (t' := (.object "java/lang/String")) (by decide) (by decide)))
  replace F_body := F_body.same W16
  replace F_ts := F_ts.other W16 (Or.inr (slot_ne (Or.inr (hw _ (List.mem_of_getElem? (i := 69) rfl))) (Or.inr (hw _ (List.mem_of_getElem? (i := 67) rfl))) (by decide) (t := .long) (t' := (.object "java/lang/String")) (by decide) (by decide)))
  replace F_revoked := F_revoked.other W16 (Or.inr (slot_ne (Or.inr (hw _ (List.mem_of_getElem? (i := 71) rfl))) (Or.inr (hw _ (List.mem_of_getElem? (i := 67) rfl))) (by decide) (t := .boolean) (t' := (.object "java/lang/String")) (by decide) (by decide)))
  replace F_revokedTs := F_revokedTs.other W16 (Or.inr (slot_ne (Or.inr (hw _ (List.mem_of_getElem? (i := 73) rfl))) (Or.inr (hw _ (List.mem_of_getElem? (i := 67) rfl))) (by decide) (t := .long) (t' := (.object "java/lang/String")) (by decide) (by decide)))
  have K17 : Keep h0 h16 [a] := K15.wr W16 (Or.inl (List.mem_of_getElem? (i := 0) rfl))
  try clear K15
  refine own_st st16 ?_
  try clear st16
  try clear e14
  try clear X14
  try clear T14
  show own_Gl p e below _ (T16.setTop (mkF m 50 #[.val (.ref a), .val (.long q1), .second, .val (.long q2), .second, .val (.long q3), .second, .val (.ref f), .val (.ref to), .val (.long q4), .second, .val (.ref cm), .val (.ref bd), .val (.long q5), .second, .val (.int rv), .val (.long q6), .second] []))
  refine own_st (fun tg_ kg_ => XS.aloadN X16.here hx rfl (hb hby own_d_prog_31_method_1_code_50) rfl rfl kg_) ?_
  show own_Gl p e below _ (T16.setTop (mkF m 51 #[.val (.ref a), .val (.long q1), .second, .val (.long q2), .second, .val (.long q3), .second, .val (.ref f), .val (.ref to), .val (.long q4), .second, .val (.ref cm), .val (.ref bd), .val (.long q5), .second, .val (.int rv), .val (.long q6), .second] [(.ref a)]))
  refine own_st (fun tg_ kg_ => XS.lload X16.here hx rfl (hb hby own_d_prog_31_method_1_code_51) rfl kg_) ?_
  show own_Gl p e below _ (T16.setTop (mkF m 53 #[.val (.ref a), .val (.long q1), .second, .val (.long q2), .second, .val (.long q3), .second, .val (.ref f), .val (.ref to), .val (.long q4), .second, .val (.ref cm), .val (.ref bd), .val (.long q5), .second, .val (.int rv), .val (.long q6), .second] [(.long q5), (.ref a)]))
  obtain ⟨T18, h18, X18, e18, W18, st18⟩ := putF X16 hx hZ hown (host := "") (Or.inl (hw _ (List.mem_of_getElem? (i := 68) rfl))) Via.refl e16 F_ts E_a (Or.inr ⟨(hw _ (List.mem_of_getElem? (i := 69) rfl)), rfl, hnm⟩) (hw _ (List.mem_of_getElem? (i := 46) rfl)) (ty := .long) (by decide) rfl rfl (g := (mkF m 53 #[.val (.ref a), .val (.long q1), .second, .val (.long q2), .second, .val (.long q3), .second, .val (.ref f), .val (.ref to), .val (.long q4), .second, .val (.ref cm), .val (.ref bd), .val (.long q5), .second, .val (.int rv), .val (.long q6), .second] [(.long q5), (.ref a)])) rfl rfl (hb hby own_d_prog_31_method_1_code_53)
  have N18 := Fr.snoc X18 N16 g_a
  try clear N16
  replace E_a := E_a.wr W18
  replace F_serverMsgId := F_serverMsgId.other W18 (Or.inr (slot_ne (Or.inr (hw _ (List.mem_of_getElem? (i := 53) rfl))) (Or.inr (hw _ (List.mem_of_getElem? (i := 69) rfl))) (by decide) (t := .long) (t' := .long) (by decide) (by decide)))
  replace F_conversationId := F_conversationId.other W18 (Or.inr (slot_ne (Or.inr (hw _ (List.mem_of_getElem? (i := 55) rfl))) (Or.inr (hw _ (List.mem_of_getElem? (i := 69) rfl))) (by decide) (t := .long) (t' := .long) (by decide) (by decide)))
  replace F_msgSeq := F_msgSeq.other W18 (Or.inr (slot_ne (Or.inr (hw _ (List.mem_of_getElem? (i := 57) rfl))) (Or.inr (hw _ (List.mem_of_getElem? (i := 69) rfl))) (by decide) (t := .long) (t' := .long) (by decide) (by decide)))
  replace F_from := F_from.other W18 (Or.inr (slot_ne (Or.inr (hw _ (List.mem_of_getElem? (i := 59) rfl))) (Or.inr (hw _ (List.mem_of_getElem? (i := 69) rfl))) (by decide) (t := (.object "java/lang/String")) (t' := .long) (by decide) (by decide)))
  replace F_to := F_to.other W18 (Or.inr (slot_ne (Or.inr (hw _ (List.mem_of_getElem? (i := 61) rfl))) (Or.inr (hw _ (List.mem_of_getElem? (i := 69) rfl))) (by decide) (t := (.object "java/lang/String")) (t' := .long) (by decide) (by decide)))
  replace F_groupId := F_groupId.other W18 (Or.inr (slot_ne (Or.inr (hw _ (List.mem_of_getElem? (i := 63) rfl))) (Or.inr (hw _ (List.mem_of_getElem? (i := 69) rfl))) (by decide) (t := .long) (t' := .long) (by decide) (by decide)))
  replace F_clientMsgId := F_clientMsgId.other W18 (Or.inr (slot_ne (Or.inr (hw _ (List.mem_of_getElem? (i := 65) rfl))) (Or.inr (hw _ (List.mem_of_getElem? (i := 69) rfl))) (by decide) (t := (.object "java/lang/String")) (t' := .long) (by decide) (by decide)))
  replace F_body := F_body.other W18 (Or.inr (slot_ne (Or.inr (hw _ (List.mem_of_getElem? (i := 67) rfl))) (Or.inr (hw _ (List.mem_of_getElem? (i := 69) rfl))) (by decide) (t := (.object "java/lang/String")) (t' := .long) (by decide) (by decide)))
  replace F_ts := F_ts.same W18
  replace F_revoked := F_revoked.other W18 (Or.inr (slot_ne (Or.inr (hw _ (List.mem_of_getElem? (i := 71) rfl))) (Or.inr (hw _ (List.mem_of_getElem? (i := 69) rfl))) (by decide) (t := .boolean) (t' := .long) (by decide) (by decide)))
  replace F_revokedTs := F_revokedTs.other W18 (Or.inr (slot_ne (Or.inr (hw _ (List.mem_of_getElem? (i := 73) rfl))) (Or.inr (hw _ (List.mem_of_getElem? (i := 69) rfl))) (by decide) (t := .long) (t' := .long) (by decide) (by decide)))
  have K19 : Keep h0 h18 [a] := K17.wr W18 (Or.inl (List.mem_of_getElem? (i := 0) rfl))
  try clear K17
  refine own_st st18 ?_
  try clear st18
  try clear e16
  try clear X16
  try clear T16
  show own_Gl p e below _ (T18.setTop (mkF m 56 #[.val (.ref a), .val (.long q1), .second, .val (.long q2), .second, .val (.long q3), .second, .val (.ref f), .val (.ref to), .val (.long q4), .second, .val (.ref cm), .val (.ref bd), .val (.long q5), .second, .val (.int rv), .val (.long q6), .second] []))
  refine own_st (fun tg_ kg_ => XS.aloadN X18.here hx rfl (hb hby own_d_prog_31_method_1_code_56) rfl rfl kg_) ?_
  show own_Gl p e below _ (T18.setTop (mkF m 57 #[.val (.ref a), .val (.long q1), .second, .val (.long q2), .second, .val (.long q3), .second, .val (.ref f), .val (.ref to), .val (.long q4), .second, .val (.ref cm), .val (.ref bd), .val (.long q5), .second, .val (.int rv), .val (.long q6), .second] [(.ref a)]))
  refine own_st (fun tg_ kg_ => XS.iload X18.here hx rfl (hb hby own_d_prog_31_method_1_code_57) rfl kg_) ?_
  show own_Gl p e below _ (T18.setTop (mkF m 59 #[.val (.ref a), .val (.long q1), .second, .val (.long q2), .second, .val (.long q3), .second, .val (.ref f), .val (.ref to), .val (.long q4), .second, .val (.ref cm), .val (.ref bd), .val (.long q5), .second, .val (.int rv), .val (.long q6), .second] [(.int rv), (.ref a)]))
  obtain ⟨T20, h20, X20, e20, W20, st20⟩ := putFN X18 hx hZ hown (hw _ (List.mem_of_getElem? (i := 70) rfl)) Via.refl e18 F_revoked E_a (Or.inr ⟨(hw _ (List.mem_of_getElem? (i := 71) rfl)), rfl, hnm⟩) (hw _ (List.mem_of_getElem? (i := 46) rfl)) (ty := .boolean) (v' := (.int (nar .boolean rv))) (by decide) rfl (fits_nar_bool _) (g := (mkF m 59 #[.val (.ref a), .val (.long q1), .second, .val (.long q2), .second, .val (.long q3), .second, .val (.ref f), .val (.ref to), .val (.long q4), .second, .val (.ref cm), .val (.ref bd), .val (.long q5), .second, .val (.int rv), .val (.long q6), .second] [(.int rv), (.ref a)])) rfl rfl (hb hby own_d_prog_31_method_1_code_59)
  have N20 := Fr.snoc X20 N18 g_a
  try clear N18
  replace E_a := E_a.wr W20
  replace F_serverMsgId := F_serverMsgId.other W20 (Or.inr (slot_ne (Or.inr (hw _ (List.mem_of_getElem? (i := 53) rfl))) (Or.inr (hw _ (List.mem_of_getElem? (i := 71) rfl))) (by decide) (t := .long) (t' := .boolean) (by decide) (by decide)))
  replace F_conversationId := F_conversationId.other W20 (Or.inr (slot_ne (Or.inr (hw _ (List.mem_of_getElem? (i := 55) rfl))) (Or.inr (hw _ (List.mem_of_getElem? (i := 71) rfl))) (by decide) (t := .long) (t' := .boolean) (by decide) (by decide)))
  replace F_msgSeq := F_msgSeq.other W20 (Or.inr (slot_ne (Or.inr (hw _ (List.mem_of_getElem? (i := 57) rfl))) (Or.inr (hw _ (List.mem_of_getElem? (i := 71) rfl))) (by decide) (t := .long) (t' := .boolean) (by decide) (by decide)))
  replace F_from := F_from.other W20 (Or.inr (slot_ne (Or.inr (hw _ (List.mem_of_getElem? (i := 59) rfl))) (Or.inr (hw _ (List.mem_of_getElem? (i := 71) rfl))) (by decide) (t := (.object "java/lang/String")) (t' := .boolean) (by decide) (by decide)))
  replace F_to := F_to.other W20 (Or.inr (slot_ne (Or.inr (hw _ (List.mem_of_getElem? (i := 61) rfl))) (Or.inr (hw _ (List.mem_of_getElem? (i := 71) rfl))) (by decide) (t := (.object "java/lang/String")) (t' := .boolean) (by decide) (by decide)))
  replace F_groupId := F_groupId.other W20 (Or.inr (slot_ne (Or.inr (hw _ (List.mem_of_getElem? (i := 63) rfl))) (Or.inr (hw _ (List.mem_of_getElem? (i := 71) rfl))) (by decide) (t := .long) (t' := .boolean) (by decide) (by decide)))
  replace F_clientMsgId := F_clientMsgId.other W20 (Or.inr (slot_ne (Or.inr (hw _ (List.mem_of_getElem? (i := 65) rfl))) (Or.inr (hw _ (List.mem_of_getElem? (i := 71) rfl))) (by decide) (t := (.object "java/lang/String")) (t' := .boolean) (by decide) (by decide)))
  replace F_body := F_body.other W20 (Or.inr (slot_ne (Or.inr (hw _ (List.mem_of_getElem? (i := 67) rfl))) (Or.inr (hw _ (List.mem_of_getElem? (i := 71) rfl))) (by decide) (t := (.object "java/lang/String")) (t' := .boolean) (by decide) (by decide)))
  replace F_ts := F_ts.other W20 (Or.inr (slot_ne (Or.inr (hw _ (List.mem_of_getElem? (i := 69) rfl))) (Or.inr (hw _ (List.mem_of_getElem? (i := 71) rfl))) (by decide) (t := .long) (t' := .boolean) (by decide) (by decide)))
  replace F_revoked := F_revoked.same W20
  replace F_revokedTs := F_revokedTs.other W20 (Or.inr (slot_ne (Or.inr (hw _ (List.mem_of_getElem? (i := 73) rfl))) (Or.inr (hw _ (List.mem_of_getElem? (i := 71) rfl))) (by decide) (t := .long) (t' := .boolean) (by decide) (by decide)))
  have K21 : Keep h0 h20 [a] := K19.wr W20 (Or.inl (List.mem_of_getElem? (i := 0) rfl))
  try clear K19
  refine own_st st20 ?_
  try clear st20
  try clear e18
  try clear X18
  try clear T18
  show own_Gl p e below _ (T20.setTop (mkF m 62 #[.val (.ref a), .val (.long q1), .second, .val (.long q2), .second, .val (.long q3), .second, .val (.ref f), .val (.ref to), .val (.long q4), .second, .val (.ref cm), .val (.ref bd), .val (.long q5), .second, .val (.int rv), .val (.long q6), .second] []))
  refine own_st (fun tg_ kg_ => XS.aloadN X20.here hx rfl (hb hby own_d_prog_31_method_1_code_62) rfl rfl kg_) ?_
  show own_Gl p e below _ (T20.setTop (mkF m 63 #[.val (.ref a), .val (.long q1), .second, .val (.long q2), .second, .val (.long q3), .second, .val (.ref f), .val (.ref to), .val (.long q4), .second, .val (.ref cm), .val (.ref bd), .val (.long q5), .second, .val (.int rv), .val (.long q6), .second] [(.ref a)]))
  refine own_st (fun tg_ kg_ => XS.lload X20.here hx rfl (hb hby own_d_prog_31_method_1_code_63) rfl kg_) ?_
  show own_Gl p e below _ (T20.setTop (mkF m 65 #[.val (.ref a), .val (.long q1), .second, .val (.long q2), .second, .val (.long q3), .second, .val (.ref f), .val (.ref to), .val (.long q4), .second, .val (.ref cm), .val (.ref bd), .val (.long q5), .second, .val (.int rv), .val (.long q6), .second] [(.long q6), (.ref a)]))
  obtain ⟨T22, h22, X22, e22, W22, st22⟩ := putF X20 hx hZ hown (host := "") (Or.inl (hw _ (List.mem_of_getElem? (i := 72) rfl))) Via.refl e20 F_revokedTs E_a (Or.inr ⟨(hw _ (List.mem_of_getElem? (i := 73) rfl)), rfl, hnm⟩) (hw _ (List.mem_of_getElem? (i := 46) rfl)) (ty := .long) (by decide) rfl rfl (g := (mkF m 65 #[.val (.ref a), .val (.long q1), .second, .val (.long q2), .second, .val (.long q3), .second, .val (.ref f), .val (.ref to), .val (.long q4), .second, .val (.ref cm), .val (.ref bd), .val (.long q5), .second, .val (.int rv), .val (.long q6), .second] [(.long q6), (.ref a)])) rfl rfl (hb hby own_d_prog_31_method_1_code_65)
  have N22 := Fr.snoc X22 N20 g_a
  try clear N20
  replace E_a := E_a.wr W22
  replace F_serverMsgId := F_serverMsgId.other W22 (Or.inr (slot_ne (Or.inr (hw _ (List.mem_of_getElem? (i := 53) rfl))) (Or.inr (hw _ (List.mem_of_getElem? (i := 73) rfl))) (by decide) (t := .long) (t' := .long) (by decide) (by decide)))
  replace F_conversationId := F_conversationId.other W22 (Or.inr (slot_ne (Or.inr (hw _ (List.mem_of_getElem? (i := 55) rfl))) (Or.inr (hw _ (List.mem_of_getElem? (i := 73) rfl))) (by decide) (t := .long) (t' := .long) (by decide) (by decide)))
  replace F_msgSeq := F_msgSeq.other W22 (Or.inr (slot_ne (Or.inr (hw _ (List.mem_of_getElem? (i := 57) rfl))) (Or.inr (hw _ (List.mem_of_getElem? (i := 73) rfl))) (by decide) (t := .long) (t' := .long) (by decide) (by decide)))
  replace F_from := F_from.other W22 (Or.inr (slot_ne (Or.inr (hw _ (List.mem_of_getElem? (i := 59) rfl))) (Or.inr (hw _ (List.mem_of_getElem? (i := 73) rfl))) (by decide) (t := (.object "java/lang/String")) (t' := .long) (by decide) (by decide)))
  replace F_to := F_to.other W22 (Or.inr (slot_ne (Or.inr (hw _ (List.mem_of_getElem? (i := 61) rfl))) (Or.inr (hw _ (List.mem_of_getElem? (i := 73) rfl))) (by decide) (t := (.object "java/lang/String")) (t' := .long) (by decide) (by decide)))
  replace F_groupId := F_groupId.other W22 (Or.inr (slot_ne (Or.inr (hw _ (List.mem_of_getElem? (i := 63) rfl))) (Or.inr (hw _ (List.mem_of_getElem? (i := 73) rfl))) (by decide) (t := .long) (t' := .long) (by decide) (by decide)))
  replace F_clientMsgId := F_clientMsgId.other W22 (Or.inr (slot_ne (Or.inr (hw _ (List.mem_of_getElem? (i := 65) rfl))) (Or.inr (hw _ (List.mem_of_getElem? (i := 73) rfl))) (by decide) (t := (.object "java/lang/String")) (t' := .long) (by decide) (by decide)))
  replace F_body := F_body.other W22 (Or.inr (slot_ne (Or.inr (hw _ (List.mem_of_getElem? (i := 67) rfl))) (Or.inr (hw _ (List.mem_of_getElem? (i := 73) rfl))) (by decide) (t := (.object "java/lang/String")) (t' := .long) (by decide) (by decide)))
  replace F_ts := F_ts.other W22 (Or.inr (slot_ne (Or.inr (hw _ (List.mem_of_getElem? (i := 69) rfl))) (Or.inr (hw _ (List.mem_of_getElem? (i := 73) rfl))) (by decide) (t := .long) (t' := .long) (by decide) (by decide)))
  replace F_revoked := F_revoked.other W22 (Or.inr (slot_ne (Or.inr (hw _ (List.mem_of_getElem? (i := 71) rfl))) (Or.inr (hw _ (List.mem_of_getElem? (i := 73) rfl))) (by decide) (t := .boolean) (t' := .long) (by decide) (by decide)))
  replace F_revokedTs := F_revokedTs.same W22
  have K23 : Keep h0 h22 [a] := K21.wr W22 (Or.inl (List.mem_of_getElem? (i := 0) rfl))
  try clear K21
  refine own_st st22 ?_
  try clear st22
  try clear e20
  try clear X20
  try clear T20
  show own_Gl p e below _ (T22.setTop (mkF m 68 #[.val (.ref a), .val (.long q1), .second, .val (.long q2), .second, .val (.long q3), .second, .val (.ref f), .val (.ref to), .val (.long q4), .second, .val (.ref cm), .val (.ref bd), .val (.long q5), .second, .val (.int rv), .val (.long q6), .second] []))
  exact own_retV X22 hx Bd.notSynchronized Bd.returns (hb hby own_d_prog_31_method_1_code_68) (by decide) (by decide) e22 (⟨rfl, N22, K23, F_serverMsgId, F_conversationId, F_msgSeq, F_from, F_to, F_groupId, F_clientMsgId, F_body, F_ts, F_revoked, F_revokedTs⟩)
theorem own_pd3 : parseMethodDescriptor "(JJJLjava/lang/String;Ljava/lang/String;JLjava/lang/String;Ljava/lang/String;JZJ)V" = some ⟨[.long, .long, .long, (.object "java/lang/String"), (.object "java/lang/String"), .long, (.object "java/lang/String"), (.object "java/lang/String"), .long, .boolean, .long], none⟩ := by decide +kernel
theorem own_d_prog_31_method_2_code_0 : decode prog_31_method_2_code 0 = .ok (.new 8, 3) := by decide +kernel
theorem own_d_prog_31_method_2_code_3 : decode prog_31_method_2_code 3 = .ok (.dup, 1) := by decide +kernel
theorem own_d_prog_31_method_2_code_4 : decode prog_31_method_2_code 4 = .ok (.aload_n 0, 1) := by decide +kernel
theorem own_d_prog_31_method_2_code_5 : decode prog_31_method_2_code 5 = .ok (.getfield 7, 3) := by decide +kernel
theorem own_d_prog_31_method_2_code_8 : decode prog_31_method_2_code 8 = .ok (.aload_n 0, 1) := by decide +kernel
theorem own_d_prog_31_method_2_code_9 : decode prog_31_method_2_code 9 = .ok (.getfield 13, 3) := by decide +kernel
theorem own_d_prog_31_method_2_code_12 : decode prog_31_method_2_code 12 = .ok (.aload_n 0, 1) := by decide +kernel
theorem own_d_prog_31_method_2_code_13 : decode prog_31_method_2_code 13 = .ok (.getfield 16, 3) := by decide +kernel
theorem own_d_prog_31_method_2_code_16 : decode prog_31_method_2_code 16 = .ok (.aload_n 0, 1) := by decide +kernel
theorem own_d_prog_31_method_2_code_17 : decode prog_31_method_2_code 17 = .ok (.getfield 19, 3) := by decide +kernel
theorem own_d_prog_31_method_2_code_20 : decode prog_31_method_2_code 20 = .ok (.aload_n 0, 1) := by decide +kernel
theorem own_d_prog_31_method_2_code_21 : decode prog_31_method_2_code 21 = .ok (.getfield 23, 3) := by decide +kernel
theorem own_d_prog_31_method_2_code_24 : decode prog_31_method_2_code 24 = .ok (.aload_n 0, 1) := by decide +kernel
theorem own_d_prog_31_method_2_code_25 : decode prog_31_method_2_code 25 = .ok (.getfield 26, 3) := by decide +kernel
theorem own_d_prog_31_method_2_code_28 : decode prog_31_method_2_code 28 = .ok (.aload_n 0, 1) := by decide +kernel
theorem own_d_prog_31_method_2_code_29 : decode prog_31_method_2_code 29 = .ok (.getfield 29, 3) := by decide +kernel
theorem own_d_prog_31_method_2_code_32 : decode prog_31_method_2_code 32 = .ok (.ldc 45, 2) := by decide +kernel
theorem own_d_prog_31_method_2_code_34 : decode prog_31_method_2_code 34 = .ok (.aload_n 0, 1) := by decide +kernel
theorem own_d_prog_31_method_2_code_35 : decode prog_31_method_2_code 35 = .ok (.getfield 35, 3) := by decide +kernel
theorem own_d_prog_31_method_2_code_38 : decode prog_31_method_2_code 38 = .ok (.iconst 1, 1) := by decide +kernel
theorem own_d_prog_31_method_2_code_39 : decode prog_31_method_2_code 39 = .ok (.lload_n 1, 1) := by decide +kernel
theorem own_d_prog_31_method_2_code_40 : decode prog_31_method_2_code 40 = .ok (.invokespecial 47, 3) := by decide +kernel
theorem own_d_prog_31_method_2_code_43 : decode prog_31_method_2_code 43 = .ok (.areturn, 1) := by decide +kernel
theorem own_ef_revN (m : MethodId) (x0 : Addr) (x1 : Int64) : entryFrame m #[(.ref x0), (.long x1)] 3 = mkF m 0 #[.val (.ref x0), .val (.long x1), .second] [] := by first | (simp [entryFrame, mkF, argsToLocals, Value.category]; done) | rfl
def own_Q_revN (Z : State) (a f cm bd : Addr) (q1 q2 q3 q4 q5 q6 wh : Int64) (rv : Int32) (h0 : Heap) (n0 : Nat) (v : Option Value) (h : Heap) (L : List Loc) : Prop := (∃ b lit t kt, v = some (.ref b) ∧ h0.size ≤ b ∧ Exa Z h b "com/example/highwater/highwater/store/StoredMessage" ∧ Exa Z h lit "java/lang/String" ∧ Fld Z h lit "java/lang/String" "value" "[B" (.ref t) ∧ Arv Z h t kt .byte (0 : Int32) [] (.int 0) ∧ Fld Z h b "com/example/highwater/highwater/store/StoredMessage" "serverMsgId" "J" (.long q1) ∧ Fld Z h b "com/example/highwater/highwater/store/StoredMessage" "conversationId" "J" (.long q2) ∧ Fld Z h b "com/example/highwater/highwater/store/StoredMessage" "msgSeq" "J" (.long q3) ∧ Fld Z h b "com/example/highwater/highwater/store/StoredMessage" "from" "Ljava/lang/String;" (.ref f) ∧ Fld Z h b "com/example/highwater/highwater/store/StoredMessage" "to" "Ljava/lang/String;" .null ∧ Fld Z h b "com/example/highwater/highwater/store/StoredMessage" "groupId" "J" (.long q4) ∧ Fld Z h b "com/example/highwater/highwater/store/StoredMessage" "clientMsgId" "Ljava/lang/String;" (.ref cm) ∧ Fld Z h b "com/example/highwater/highwater/store/StoredMessage" "body" "Ljava/lang/String;" (.ref lit) ∧ Fld Z h b "com/example/highwater/highwater/store/StoredMessage" "ts" "J" (.long q5) ∧ Fld Z h b "com/example/highwater/highwater/store/StoredMessage" "revoked" "Z" (.int (nar .boolean 1)) ∧ Fld Z h b "com/example/highwater/highwater/store/StoredMessage" "revokedTs" "J" (.long wh)) ∧ Fr n0 L ∧ Ext h0 h
set_option maxRecDepth 65536 in
set_option maxHeartbeats 40000000 in
theorem own_rm_revN (l : Launch) (Z : State) (a0 : Array Value) (hw : ∀ d ∈ tables_1, d.before a0 Z = true) (ws : List Jvm.Cond) (a f cm bd : Addr) (q1 q2 q3 q4 q5 q6 wh : Int64) (rv : Int32) (h0 : Heap) (n0 : Nat) (Z0 : n0 ≤ h0.size) (F_serverMsgId : Fld Z h0 a "com/example/highwater/highwater/store/StoredMessage" "serverMsgId" "J" (.long q1)) (F_conversationId : Fld Z h0 a "com/example/highwater/highwater/store/StoredMessage" "conversationId" "J" (.long q2)) (F_msgSeq : Fld Z h0 a "com/example/highwater/highwater/store/StoredMessage" "msgSeq" "J" (.long q3)) (F_from : Fld Z h0 a "com/example/highwater/highwater/store/StoredMessage" "from" "Ljava/lang/String;" (.ref f)) (F_to : Fld Z h0 a "com/example/highwater/highwater/store/StoredMessage" "to" "Ljava/lang/String;" .null) (F_groupId : Fld Z h0 a "com/example/highwater/highwater/store/StoredMessage" "groupId" "J" (.long q4)) (F_clientMsgId : Fld Z h0 a "com/example/highwater/highwater/store/StoredMessage" "clientMsgId" "Ljava/lang/String;" (.ref cm)) (F_body : Fld Z h0 a "com/example/highwater/highwater/store/StoredMessage" "body" "Ljava/lang/String;" (.ref bd)) (F_ts : Fld Z h0 a "com/example/highwater/highwater/store/StoredMessage" "ts" "J" (.long q5)) (F_revoked : Fld Z h0 a "com/example/highwater/highwater/store/StoredMessage" "revoked" "Z" (.int (nar .boolean rv))) (F_revokedTs : Fld Z h0 a "com/example/highwater/highwater/store/StoredMessage" "revokedTs" "J" (.long q6)) :
    MetFree l (⟨"com/example/highwater/highwater/store/StoredMessage", "revokedAt", "(J)Lcom/example/highwater/highwater/store/StoredMessage;"⟩ : MethodName) (head1 (Jvm.Cond.code (⟨"com/example/highwater/highwater/store/StoredMessage", "revokedAt", "(J)Lcom/example/highwater/highwater/store/StoredMessage;"⟩ : MethodName) prog_31_method_2_code 3 (some (.object "com/example/highwater/highwater/store/StoredMessage")) :: ws) ({ frames := 2, cells := 3, slots := 15, locals := 42 } : Room)) (fun aa UU => aa = #[(.ref a), (.long wh)] ∧ Z.Warmed39 UU.vm ∧ UU.heap = h0 ∧ CHv Z own_EL UU.vm h0) (fun _ _ _ _ _ => True) (fun _ UU oo UU' => ∃ vv LL, oo = .returned vv ∧ own_Q_revN Z a f cm bd q1 q2 q3 q4 q5 q6 wh rv h0 n0 vv UU'.heap LL ∧ CHr Z own_EL UU.vm UU.heap UU'.vm UU'.heap ∧ ReturnedEndW UU oo UU' LL ({ frames := 2, cells := 3, slots := 15, locals := 42 } : Room).cells ({ frames := 2, cells := 3, slots := 15, locals := 42 } : Room).slots) := by
  refine MetFree.of_bodySF (plainFor_of_name own_pn2) hisR ?_
  intro p e s m args below meth c s₁ Bd hml0 hP hK
  obtain ⟨rfl, hZ, hh, hCH⟩ := hP
  have hx := Bd.exec
  have hby := Bd.bytes
  have hml : c.maxLocals = 3 := hml0
  have hown : s.vm.findClass "com/example/highwater/highwater/store/StoredMessage" = some m.cls := findClass_of_methodNamed Bd.named
  have hnm := (name_of_methodNamed Bd.named Bd.method).1
  have X0 : Stand p l e ({ frames := 2, cells := 3, slots := 15, locals := 42 } : Room) (s.setVm s.vm) m #[(.ref a), (.long wh)] below meth c s₁ [] 0 0 := Stand.of_body Bd
  have e0 : s₁.heap = h0 := by rw [← hh, Bd.state]; rfl
  have N0 := Fr.nil n0
  have hZ : Z.Warmed39 (s.setVm s.vm).vm := hZ
  have hown : (s.setVm s.vm).vm.findClass "com/example/highwater/highwater/store/StoredMessage" = some m.cls := hown
  have hS0 : s.Since s.vm 0 := (State.WarmedH.refl s).since 0
  have hEL : EW Z a0 own_EL := own_ew hw
  have C0 : CHr Z own_EL s.vm h0 s.vm h0 := CHr.refl hCH
  show own_Gl p e below (own_WPost Z s (own_Q_revN Z a f cm bd q1 q2 q3 q4 q5 q6 wh rv h0 n0) ({ frames := 2, cells := 3, slots := 15, locals := 42 } : Room).cells ({ frames := 2, cells := 3, slots := 15, locals := 42 } : Room).slots) _
  refine own_st (fun tg_ kg_ => castTop (own_ef_revN m a wh) kg_) ?_
  show own_Gl p e below _ (s₁.setTop (mkF m 0 #[.val (.ref a), .val (.long wh), .second] []))
  obtain ⟨T1, h1, X1, e1, E1, A1, D1, -, st1⟩ := newO X0 hx hZ hown (hw _ (List.mem_of_getElem? (i := 79) rfl)) (hw _ (List.mem_of_getElem? (i := 46) rfl)) (hw _ (List.mem_of_getElem? (i := 47) rfl)) e0 (g := (mkF m 0 #[.val (.ref a), .val (.long wh), .second] [])) rfl (hb hby own_d_prog_31_method_2_code_0) (by decide) (by decide)
  obtain ⟨b, g1⟩ : ∃ z, z = h0.size := ⟨_, rfl⟩
  have ne_a_b : a ≠ b := Nat.ne_of_lt (Nat.lt_of_lt_of_le F_serverMsgId.lt (Nat.le_of_eq g1.symm))
  have sz_b : h0.size ≤ b := Nat.le_of_eq g1.symm
  have g_b : n0 ≤ b := Nat.le_trans Z0 sz_b
  have sf_b : Safe Z own_EL s.vm h0 b := Safe.new (Nat.le_of_eq g1.symm)
  rw [← g1] at A1 D1 st1
  have sf_b := Safe.ext E1 C0.1 sf_b
  have C2 := C0.trans (CHr.ext E1 C0.1)
  have E_b := A1
  have F_serverMsgId_b : Fld Z h1 b "com/example/highwater/highwater/store/StoredMessage" "serverMsgId" "J" (.long (0 : Int64)) := D1 (Or.inr (hw _ (List.mem_of_getElem? (i := 53) rfl))) (ty := .long) (by decide)
  have F_conversationId_b : Fld Z h1 b "com/example/highwater/highwater/store/StoredMessage" "conversationId" "J" (.long (0 : Int64)) := D1 (Or.inr (hw _ (List.mem_of_getElem? (i := 55) rfl))) (ty := .long) (by decide)
  have F_msgSeq_b : Fld Z h1 b "com/example/highwater/highwater/store/StoredMessage" "msgSeq" "J" (.long (0 : Int64)) := D1 (Or.inr (hw _ (List.mem_of_getElem? (i := 57) rfl))) (ty := .long) (by decide)
  have F_from_b : Fld Z h1 b "com/example/highwater/highwater/store/StoredMessage" "from" "Ljava/lang/String;" .null := D1 (Or.inr (hw _ (List.mem_of_getElem? (i := 59) rfl))) (ty := (.object "java/lang/String")) (by decide)
  have F_to_b : Fld Z h1 b "com/example/highwater/highwater/store/StoredMessage" "to" "Ljava/lang/String;" .null := D1 (Or.inr (hw _ (List.mem_of_getElem? (i := 61) rfl))) (ty := (.object "java/lang/String")) (by decide)
  have F_groupId_b : Fld Z h1 b "com/example/highwater/highwater/store/StoredMessage" "groupId" "J" (.long (0 : Int64)) := D1 (Or.inr (hw _ (List.mem_of_getElem? (i := 63) rfl))) (ty := .long) (by decide)
  have F_clientMsgId_b : Fld Z h1 b "com/example/highwater/highwater/store/StoredMessage" "clientMsgId" "Ljava/lang/String;" .null := D1 (Or.inr (hw _ (List.mem_of_getElem? (i := 65) rfl))) (ty := (.object "java/lang/String")) (by decide)
  have F_body_b : Fld Z h1 b "com/example/highwater/highwater/store/StoredMessage" "body" "Ljava/lang/String;" .null := D1 (Or.inr (hw _ (List.mem_of_getElem? (i := 67) rfl))) (ty := (.object "java/lang/String")) (by decide)
  have F_ts_b : Fld Z h1 b "com/example/highwater/highwater/store/StoredMessage" "ts" "J" (.long (0 : Int64)) := D1 (Or.inr (hw _ (List.mem_of_getElem? (i := 69) rfl))) (ty := .long) (by decide)
  have F_revoked_b : Fld Z h1 b "com/example/highwater/highwater/store/StoredMessage" "revoked" "Z" (.int (0 : Int32)) := D1 (Or.inr (hw _ (List.mem_of_getElem? (i := 71) rfl))) (ty := .boolean) (by decide)
  have F_revokedTs_b : Fld Z h1 b "com/example/highwater/highwater/store/StoredMessage" "revokedTs" "J" (.long (0 : Int64)) := D1 (Or.inr (hw _ (List.mem_of_getElem? (i := 73) rfl))) (ty := .long) (by decide)
  refine own_st st1 ?_
  try clear st1
  show own_Gl p e below _ (T1.setTop (mkF m 3 #[.val (.ref a), .val (.long wh), .second] [(.ref b)]))
  refine own_st (fun tg_ kg_ => XS.dup X1.here hx rfl (hb hby own_d_prog_31_method_2_code_3) rfl rfl kg_) ?_
  show own_Gl p e below _ (T1.setTop (mkF m 4 #[.val (.ref a), .val (.long wh), .second] [(.ref b), (.ref b)]))
  refine own_st (fun tg_ kg_ => XS.aloadN X1.here hx rfl (hb hby own_d_prog_31_method_2_code_4) rfl rfl kg_) ?_
  show own_Gl p e below _ (T1.setTop (mkF m 5 #[.val (.ref a), .val (.long wh), .second] [(.ref a), (.ref b), (.ref b)]))
  obtain ⟨T4, X4, e4, st4⟩ := getF X1 hx hZ hown (host := "") (Or.inl (hw _ (List.mem_of_getElem? (i := 52) rfl))) Via.refl e1 (F_serverMsgId.ext E1) (g := (mkF m 5 #[.val (.ref a), .val (.long wh), .second] [(.ref a), (.ref b), (.ref b)])) rfl rfl (hb hby own_d_prog_31_method_2_code_5)
  refine own_st st4 ?_
  try clear st4
  try clear e1
  try clear X1
  try clear T1
  show own_Gl p e below _ (T4.setTop (mkF m 8 #[.val (.ref a), .val (.long wh), .second] [(.long q1), (.ref b), (.ref b)]))
  refine own_st (fun tg_ kg_ => XS.aloadN X4.here hx rfl (hb hby own_d_prog_31_method_2_code_8) rfl rfl kg_) ?_
  show own_Gl p e below _ (T4.setTop (mkF m 9 #[.val (.ref a), .val (.long wh), .second] [(.ref a), (.long q1), (.ref b), (.ref b)]))
  obtain ⟨T5, X5, e5, st5⟩ := getF X4 hx hZ hown (host := "") (Or.inl (hw _ (List.mem_of_getElem? (i := 54) rfl))) Via.refl e4 (F_conversationId.ext E1) (g := (mkF m 9 #[.val (.ref a), .val (.long wh), .second] [(.ref a), (.long q1), (.ref b), (.ref b)])) rfl rfl (hb hby own_d_prog_31_method_2_code_9)
  refine own_st st5 ?_
  try clear st5
  try clear e4
  try clear X4
  try clear T4
  show own_Gl p e below _ (T5.setTop (mkF m 12 #[.val (.ref a), .val (.long wh), .second] [(.long q2), (.long q1), (.ref b), (.ref b)]))
  refine own_st (fun tg_ kg_ => XS.aloadN X5.here hx rfl (hb hby own_d_prog_31_method_2_code_12) rfl rfl kg_) ?_
  show own_Gl p e below _ (T5.setTop (mkF m 13 #[.val (.ref a), .val (.long wh), .second] [(.ref a), (.long q2), (.long q1), (.ref b), (.ref b)]))
  obtain ⟨T6, X6, e6, st6⟩ := getF X5 hx hZ hown (host := "") (Or.inl (hw _ (List.mem_of_getElem? (i := 56) rfl))) Via.refl e5 (F_msgSeq.ext E1) (g := (mkF m 13 #[.val (.ref a), .val (.long wh), .second] [(.ref a), (.long q2), (.long q1), (.ref b), (.ref b)])) rfl rfl (hb hby own_d_prog_31_method_2_code_13)
  refine own_st st6 ?_
  try clear st6
  try clear e5
  try clear X5
  try clear T5
  show own_Gl p e below _ (T6.setTop (mkF m 16 #[.val (.ref a), .val (.long wh), .second] [(.long q3), (.long q2), (.long q1), (.ref b), (.ref b)]))
  refine own_st (fun tg_ kg_ => XS.aloadN X6.here hx rfl (hb hby own_d_prog_31_method_2_code_16) rfl rfl kg_) ?_
  show own_Gl p e below _ (T6.setTop (mkF m 17 #[.val (.ref a), .val (.long wh), .second] [(.ref a), (.long q3), (.long q2), (.long q1), (.ref b), (.ref b)]))
  obtain ⟨T7, X7, e7, st7⟩ := getF X6 hx hZ hown (host := "") (Or.inl (hw _ (List.mem_of_getElem? (i := 58) rfl))) Via.refl e6 (F_from.ext E1) (g := (mkF m 17 #[.val (.ref a), .val (.long wh), .second] [(.ref a), (.long q3), (.long q2), (.long q1), (.ref b), (.ref b)])) rfl rfl (hb hby own_d_prog_31_method_2_code_17)
  refine own_st st7 ?_
  try clear st7
  try clear e6
  try clear X6
  try clear T6
  show own_Gl p e below _ (T7.setTop (mkF m 20 #[.val (.ref a), .val (.long wh), .second] [(.ref f), (.long q3), (.long q2), (.long q1), (.ref b), (.ref b)]))
  refine own_st (fun tg_ kg_ => XS.aloadN X7.here hx rfl (hb hby own_d_prog_31_method_2_code_20) rfl rfl kg_) ?_
  show own_Gl p e below _ (T7.setTop (mkF m 21 #[.val (.ref a), .val (.long wh), .second] [(.ref a), (.ref f), (.long q3), (.long q2), (.long q1), (.ref b), (.ref b)]))
  obtain ⟨T8, X8, e8, st8⟩ := getF X7 hx hZ hown (host := "") (Or.inl (hw _ (List.mem_of_getElem? (i := 60) rfl))) Via.refl e7 (F_to.ext E1) (g := (mkF m 21 #[.val (.ref a), .val (.long wh), .second] [(.ref a), (.ref f), (.long q3), (.long q2), (.long q1), (.ref b), (.ref b)])) rfl rfl (hb hby own_d_prog_31_method_2_code_21)
  refine own_st st8 ?_
  try clear st8
  try clear e7
  try clear X7
  try clear T7
  show own_Gl p e below _ (T8.setTop (mkF m 24 #[.val (.ref a), .val (.long wh), .second] [.null, (.ref f), (.long q3), (.long q2), (.long q1), (.ref b), (.ref b)]))
  refine own_st (fun tg_ kg_ => XS.aloadN X8.here hx rfl (hb hby own_d_prog_31_method_2_code_24) rfl rfl kg_) ?_
  show own_Gl p e below _ (T8.setTop (mkF m 25 #[.val (.ref a), .val (.long wh), .second] [(.ref a), .null, (.ref f), (.long q3), (.long q2), (.long q1), (.ref b), (.ref b)]))
  obtain ⟨T9, X9, e9, st9⟩ := getF X8 hx hZ hown (host := "") (Or.inl (hw _ (List.mem_of_getElem? (i := 62) rfl))) Via.refl e8 (F_groupId.ext E1) (g := (mkF m 25 #[.val (.ref a), .val (.long wh), .second] [(.ref a), .null, (.ref f), (.long q3), (.long q2), (.long q1), (.ref b), (.ref b)])) rfl rfl (hb hby own_d_prog_31_method_2_code_25)
  refine own_st st9 ?_
  try clear st9
  try clear e8
  try clear X8
  try clear T8
  show own_Gl p e below _ (T9.setTop (mkF m 28 #[.val (.ref a), .val (.long wh), .second] [(.long q4), .null, (.ref f), (.long q3), (.long q2), (.long q1), (.ref b), (.ref b)]))
  refine own_st (fun tg_ kg_ => XS.aloadN X9.here hx rfl (hb hby own_d_prog_31_method_2_code_28) rfl rfl kg_) ?_
  show own_Gl p e below _ (T9.setTop (mkF m 29 #[.val (.ref a), .val (.long wh), .second] [(.ref a), (.long q4), .null, (.ref f), (.long q3), (.long q2), (.long q1), (.ref b), (.ref b)]))
  obtain ⟨T10, X10, e10, st10⟩ := getF X9 hx hZ hown (host := "") (Or.inl (hw _ (List.mem_of_getElem? (i := 64) rfl))) Via.refl e9 (F_clientMsgId.ext E1) (g := (mkF m 29 #[.val (.ref a), .val (.long wh), .second] [(.ref a), (.long q4), .null, (.ref f), (.long q3), (.long q2), (.long q1), (.ref b), (.ref b)])) rfl rfl (hb hby own_d_prog_31_method_2_code_29)
  refine own_st st10 ?_
  try clear st10
  try clear e9
  try clear X9
  try clear T9
  show own_Gl p e below _ (T10.setTop (mkF m 32 #[.val (.ref a), .val (.long wh), .second] [(.ref cm), (.long q4), .null, (.ref f), (.long q3), (.long q2), (.long q1), (.ref b), (.ref b)]))
  have lt12 : b < h1.size := E_b.lt
  obtain ⟨lit, T11, h11, k11, lit_b, lit_k, X11, e11, E11, hSb11, hk11, hZ, hown, E_lit, Fc_lit, Fv_lit, V_lit_b, -, -, CC11, -, nl11, st11⟩ := ldcCH X10 hx hZ hown (text := "") (hw _ (List.mem_of_getElem? (i := 80) rfl)) (own_wS hw) e10 hS0 (Nat.zero_le _) hEL (by decide) C2.1 (vs := []) (z := (0 : Int32)) ⟨by decide, by decide⟩ (by decide) rfl (g := (mkF m 32 #[.val (.ref a), .val (.long wh), .second] [(.ref cm), (.long q4), .null, (.ref f), (.long q3), (.long q2), (.long q1), (.ref b), (.ref b)])) rfl (hb hby own_d_prog_31_method_2_code_32) (n := 0) (by decide) (by decide) (by decide) (by decide)
  have hk := hk11
  replace E_b := E_b.ext E11
  replace F_serverMsgId_b := F_serverMsgId_b.ext E11
  replace F_conversationId_b := F_conversationId_b.ext E11
  replace F_msgSeq_b := F_msgSeq_b.ext E11
  replace F_from_b := F_from_b.ext E11
  replace F_to_b := F_to_b.ext E11
  replace F_groupId_b := F_groupId_b.ext E11
  replace F_clientMsgId_b := F_clientMsgId_b.ext E11
  replace F_body_b := F_body_b.ext E11
  replace F_ts_b := F_ts_b.ext E11
  replace F_revoked_b := F_revoked_b.ext E11
  replace F_revokedTs_b := F_revokedTs_b.ext E11
  have K13 := own_ext_tr E1 E11
  try clear E11
  try clear E1
  have sf_b := CHr.safe CC11 lt12 sf_b
  have C11 := C2.trans CC11
  obtain ⟨ne_b_lit, ne_b_lit_b⟩ := nl11 b sf_b
  refine own_st st11 ?_
  try clear st11
  try clear e10
  try clear X10
  try clear T10
  show own_Gl p e below _ (T11.setTop (mkF m 34 #[.val (.ref a), .val (.long wh), .second] [(.ref lit), (.ref cm), (.long q4), .null, (.ref f), (.long q3), (.long q2), (.long q1), (.ref b), (.ref b)]))
  refine own_st (fun tg_ kg_ => XS.aloadN X11.here hx rfl (hb hby own_d_prog_31_method_2_code_34) rfl rfl kg_) ?_
  show own_Gl p e below _ (T11.setTop (mkF m 35 #[.val (.ref a), .val (.long wh), .second] [(.ref a), (.ref lit), (.ref cm), (.long q4), .null, (.ref f), (.long q3), (.long q2), (.long q1), (.ref b), (.ref b)]))
  obtain ⟨T14, X14, e14, st14⟩ := getF X11 hx hZ hown (host := "") (Or.inl (hw _ (List.mem_of_getElem? (i := 68) rfl))) Via.refl e11 (F_ts.ext K13) (g := (mkF m 35 #[.val (.ref a), .val (.long wh), .second] [(.ref a), (.ref lit), (.ref cm), (.long q4), .null, (.ref f), (.long q3), (.long q2), (.long q1), (.ref b), (.ref b)])) rfl rfl (hb hby own_d_prog_31_method_2_code_35)
  refine own_st st14 ?_
  try clear st14
  try clear e11
  try clear X11
  try clear T11
  show own_Gl p e below _ (T14.setTop (mkF m 38 #[.val (.ref a), .val (.long wh), .second] [(.long q5), (.ref lit), (.ref cm), (.long q4), .null, (.ref f), (.long q3), (.long q2), (.long q1), (.ref b), (.ref b)]))
  refine own_st (fun tg_ kg_ => XS.iconst X14.here hx rfl (hb hby own_d_prog_31_method_2_code_38) kg_) ?_
  show own_Gl p e below _ (T14.setTop (mkF m 39 #[.val (.ref a), .val (.long wh), .second] [(.int (1 : Int32)), (.long q5), (.ref lit), (.ref cm), (.long q4), .null, (.ref f), (.long q3), (.long q2), (.long q1), (.ref b), (.ref b)]))
  refine own_st (fun tg_ kg_ => XS.lloadN X14.here hx rfl (hb hby own_d_prog_31_method_2_code_39) rfl kg_) ?_
  show own_Gl p e below _ (T14.setTop (mkF m 40 #[.val (.ref a), .val (.long wh), .second] [(.long wh), (.int (1 : Int32)), (.long q5), (.ref lit), (.ref cm), (.long q4), .null, (.ref f), (.long q3), (.long q2), (.long q1), (.ref b), (.ref b)]))
  obtain ⟨_, _, ⟨T15, L15, k15, n15⟩, -, X15, ⟨Lc15, hQ15, l15, y15, z15⟩, st15⟩ := X14.specialBack hx (y := (⟨"com/example/highwater/highwater/store/StoredMessage", "<init>", "(JJJLjava/lang/String;Ljava/lang/String;JLjava/lang/String;Ljava/lang/String;JZJ)V"⟩ : MethodName)) rfl hown (mvT hZ (hw _ (List.mem_of_getElem? (i := 83) rfl))) (mvT hZ (hw _ (List.mem_of_getElem? (i := 49) rfl))) (mvT hZ (hw _ (List.mem_of_getElem? (i := 50) rfl))) (by decide) (backOf (W := 1) (own_rm_smiN l Z a0 hw [] b f cm lit q1 q2 q3 q4 q5 wh (1 : Int32) h11 n0 (Nat.le_trans Z0 K13.1) E_b F_serverMsgId_b F_conversationId_b F_msgSeq_b F_from_b F_to_b F_groupId_b F_clientMsgId_b F_body_b F_ts_b F_revoked_b F_revokedTs_b g_b) hZ (hw _ (List.mem_of_getElem? (i := 50) rfl)) (hw _ (List.mem_of_getElem? (i := 47) rfl)) (by decide) (by decide)) (g := (mkF m 40 #[.val (.ref a), .val (.long wh), .second] [(.long wh), (.int (1 : Int32)), (.long q5), (.ref lit), (.ref cm), (.long q4), .null, (.ref f), (.long q3), (.long q2), (.long q1), (.ref b), (.ref b)])) rfl (by rw [hml]; rfl) (Steps.refl _) (a := b) (argsL := [(.long q1), (.long q2), (.long q3), (.ref f), .null, (.long q4), (.ref cm), (.ref lit), (.long q5), (.int (1 : Int32)), (.long wh)]) (rest := [(.ref b)]) (lenOf own_pd3 rfl) rfl (by show 2 * 0 + _ ≤ _; exact Nat.le_of_eq rfl) (hb hby own_d_prog_31_method_2_code_40) (fun _ _ => ⟨rfl, e14, (by decide : 3 + 0 ≤ _), (by decide : 15 + 0 ≤ _)⟩)
  dsimp only [Pt.U, Pt.locs, Pt.cells, Pt.slots] at X15 l15 y15 z15 st15 hQ15
  obtain rfl : k15 = 3 := y15
  obtain rfl : n15 = 15 := z15
  obtain ⟨rfl, N15q, Kc15, G_serverMsgId, G_conversationId, G_msgSeq, G_from, G_to, G_groupId, G_clientMsgId, G_body, G_ts, G_revoked, G_revokedTs⟩ := hQ15
  have N15 : Fr n0 L15 := by rw [l15]; exact Fr.app N0 N15q
  try clear l15
  refine own_tr st15 ?_
  have hk := Nat.le_trans hk Kc15.1
  have sf_b' := Safe.keep Kc15 (sfS sf_b sf0) C11.1 sf_b
  have C16 := C11.trans (CHr.keep Kc15 (sfS sf_b sf0) C11.1)
  have sf_b := sf_b'
  replace E_b := E_b.keep Kc15
  replace E_lit := E_lit.keep Kc15
  replace Fc_lit := Fc_lit.keep Kc15 (ninS ne_b_lit.symm nin0)
  replace Fv_lit := Fv_lit.keep Kc15 (ninS ne_b_lit.symm nin0)
  replace V_lit_b := V_lit_b.keep Kc15 (ninS ne_b_lit_b.symm nin0)
  have K17 := own_ext_keep K13 Kc15 (allS sz_b all0)
  try clear Kc15
  try clear K13
  show own_Gl p e below _ (T15.setTop (mkF m 43 #[.val (.ref a), .val (.long wh), .second] [(.ref b)]))
  try clear st15
  try clear N15q
  try clear e14
  try clear X14
  try clear T14
  exact own_wretA X15 hx Bd.notSynchronized Bd.returns rfl rfl (hb hby own_d_prog_31_method_2_code_43) (by decide) (by decide) rfl hSb11 hk hh (C16.trans (CHv.at X15 hZ hEL C16.1)) (⟨⟨_, _, _, _, rfl, sz_b, E_b, E_lit, Fv_lit, V_lit_b, G_serverMsgId, G_conversationId, G_msgSeq, G_from, G_to, G_groupId, G_clientMsgId, G_body, G_ts, G_revoked, G_revokedTs⟩, N15, K17⟩)
theorem own_ef_revR (m : MethodId) (x0 : Addr) (x1 : Int64) : entryFrame m #[(.ref x0), (.long x1)] 3 = mkF m 0 #[.val (.ref x0), .val (.long x1), .second] [] := by first | (simp [entryFrame, mkF, argsToLocals, Value.category]; done) | rfl
def own_Q_revR (Z : State) (a f to cm bd : Addr) (q1 q2 q3 q4 q5 q6 wh : Int64) (rv : Int32) (h0 : Heap) (n0 : Nat) (v : Option Value) (h : Heap) (L : List Loc) : Prop := (∃ b lit t kt, v = some (.ref b) ∧ h0.size ≤ b ∧ Exa Z h b "com/example/highwater/highwater/store/StoredMessage" ∧ Exa Z h lit "java/lang/String" ∧ Fld Z h lit "java/lang/String" "value" "[B" (.ref t) ∧ Arv Z h t kt .byte (0 : Int32) [] (.int 0) ∧ Fld Z h b "com/example/highwater/highwater/store/StoredMessage" "serverMsgId" "J" (.long q1) ∧ Fld Z h b "com/example/highwater/highwater/store/StoredMessage" "conversationId" "J" (.long q2) ∧ Fld Z h b "com/example/highwater/highwater/store/StoredMessage" "msgSeq" "J" (.long q3) ∧ Fld Z h b "com/example/highwater/highwater/store/StoredMessage" "from" "Ljava/lang/String;" (.ref f) ∧ Fld Z h b "com/example/highwater/highwater/store/StoredMessage" "to" "Ljava/lang/String;" (.ref to) ∧ Fld Z h b "com/example/highwater/highwater/store/StoredMessage" "groupId" "J" (.long q4) ∧ Fld Z h b "com/example/highwater/highwater/store/StoredMessage" "clientMsgId" "Ljava/lang/String;" (.ref cm) ∧ Fld Z h b "com/example/highwater/highwater/store/StoredMessage" "body" "Ljava/lang/String;" (.ref lit) ∧ Fld Z h b "com/example/highwater/highwater/store/StoredMessage" "ts" "J" (.long q5) ∧ Fld Z h b "com/example/highwater/highwater/store/StoredMessage" "revoked" "Z" (.int (nar .boolean 1)) ∧ Fld Z h b "com/example/highwater/highwater/store/StoredMessage" "revokedTs" "J" (.long wh)) ∧ Fr n0 L ∧ Ext h0 h
set_option maxRecDepth 65536 in
set_option maxHeartbeats 40000000 in
theorem own_rm_revR (l : Launch) (Z : State) (a0 : Array Value) (hw : ∀ d ∈ tables_1, d.before a0 Z = true) (ws : List Jvm.Cond) (a f to cm bd : Addr) (q1 q2 q3 q4 q5 q6 wh : Int64) (rv : Int32) (h0 : Heap) (n0 : Nat) (Z0 : n0 ≤ h0.size) (F_serverMsgId : Fld Z h0 a "com/example/highwater/highwater/store/StoredMessage" "serverMsgId" "J" (.long q1)) (F_conversationId : Fld Z h0 a "com/example/highwater/highwater/store/StoredMessage" "conversationId" "J" (.long q2)) (F_msgSeq : Fld Z h0 a "com/example/highwater/highwater/store/StoredMessage" "msgSeq" "J" (.long q3)) (F_from : Fld Z h0 a "com/example/highwater/highwater/store/StoredMessage" "from" "Ljava/lang/String;" (.ref f)) (F_to : Fld Z h0 a "com/example/highwater/highwater/store/StoredMessage" "to" "Ljava/lang/String;" (.ref to)) (F_groupId : Fld Z h0 a "com/example/highwater/highwater/store/StoredMessage" "groupId" "J" (.long q4)) (F_clientMsgId : Fld Z h0 a "com/example/highwater/highwater/store/StoredMessage" "clientMsgId" "Ljava/lang/String;" (.ref cm)) (F_body : Fld Z h0 a "com/example/highwater/highwater/store/StoredMessage" "body" "Ljava/lang/String;" (.ref bd)) (F_ts : Fld Z h0 a "com/example/highwater/highwater/store/StoredMessage" "ts" "J" (.long q5)) (F_revoked : Fld Z h0 a "com/example/highwater/highwater/store/StoredMessage" "revoked" "Z" (.int (nar .boolean rv))) (F_revokedTs : Fld Z h0 a "com/example/highwater/highwater/store/StoredMessage" "revokedTs" "J" (.long q6)) :
    MetFree l (⟨"com/example/highwater/highwater/store/StoredMessage", "revokedAt", "(J)Lcom/example/highwater/highwater/store/StoredMessage;"⟩ : MethodName) (head1 (Jvm.Cond.code (⟨"com/example/highwater/highwater/store/StoredMessage", "revokedAt", "(J)Lcom/example/highwater/highwater/store/StoredMessage;"⟩ : MethodName) prog_31_method_2_code 3 (some (.object "com/example/highwater/highwater/store/StoredMessage")) :: ws) ({ frames := 2, cells := 3, slots := 15, locals := 42 } : Room)) (fun aa UU => aa = #[(.ref a), (.long wh)] ∧ Z.Warmed39 UU.vm ∧ UU.heap = h0 ∧ CHv Z own_EL UU.vm h0) (fun _ _ _ _ _ => True) (fun _ UU oo UU' => ∃ vv LL, oo = .returned vv ∧ own_Q_revR Z a f to cm bd q1 q2 q3 q4 q5 q6 wh rv h0 n0 vv UU'.heap LL ∧ CHr Z own_EL UU.vm UU.heap UU'.vm UU'.heap ∧ ReturnedEndW UU oo UU' LL ({ frames := 2, cells := 3, slots := 15, locals := 42 } : Room).cells ({ frames := 2, cells := 3, slots := 15, locals := 42 } : Room).slots) := by
  refine MetFree.of_bodySF (plainFor_of_name own_pn2) hisR ?_
  intro p e s m args below meth c s₁ Bd hml0 hP hK
  obtain ⟨rfl, hZ, hh, hCH⟩ := hP
  have hx := Bd.exec
  have hby := Bd.bytes
  have hml : c.maxLocals = 3 := hml0
  have hown : s.vm.findClass "com/example/highwater/highwater/store/StoredMessage" = some m.cls := findClass_of_methodNamed Bd.named
  have hnm := (name_of_methodNamed Bd.named Bd.method).1
  have X0 : Stand p l e ({ frames := 2, cells := 3, slots := 15, locals := 42 } : Room) (s.setVm s.vm) m #[(.ref a), (.long wh)] below meth c s₁ [] 0 0 := Stand.of_body Bd
  have e0 : s₁.heap = h0 := by rw [← hh, Bd.state]; rfl
  have N0 := Fr.nil n0
  have hZ : Z.Warmed39 (s.setVm s.vm).vm := hZ
  have hown : (s.setVm s.vm).vm.findClass "com/example/highwater/highwater/store/StoredMessage" = some m.cls := hown
  have hS0 : s.Since s.vm 0 := (State.WarmedH.refl s).since 0
  have hEL : EW Z a0 own_EL := own_ew hw
  have C0 : CHr Z own_EL s.vm h0 s.vm h0 := CHr.refl hCH
  show own_Gl p e below (own_WPost Z s (own_Q_revR Z a f to cm bd q1 q2 q3 q4 q5 q6 wh rv h0 n0) ({ frames := 2, cells := 3, slots := 15, locals := 42 } : Room).cells ({ frames := 2, cells := 3, slots := 15, locals := 42 } : Room).slots) _
  refine own_st (fun tg_ kg_ => castTop (own_ef_revR m a wh) kg_) ?_
  show own_Gl p e below _ (s₁.setTop (mkF m 0 #[.val (.ref a), .val (.long wh), .second] []))
  obtain ⟨T1, h1, X1, e1, E1, A1, D1, -, st1⟩ := newO X0 hx hZ hown (hw _ (List.mem_of_getElem? (i := 79) rfl)) (hw _ (List.mem_of_getElem? (i := 46) rfl)) (hw _ (List.mem_of_getElem? (i := 47) rfl)) e0 (g := (mkF m 0 #[.val (.ref a), .val (.long wh), .second] [])) rfl (hb hby own_d_prog_31_method_2_code_0) (by decide) (by decide)
  obtain ⟨b, g1⟩ : ∃ z, z = h0.size := ⟨_, rfl⟩
  have ne_a_b : a ≠ b := Nat.ne_of_lt (Nat.lt_of_lt_of_le F_serverMsgId.lt (Nat.le_of_eq g1.symm))
  have sz_b : h0.size ≤ b := Nat.le_of_eq g1.symm
  have g_b : n0 ≤ b := Nat.le_trans Z0 sz_b
  have sf_b : Safe Z own_EL s.vm h0 b := Safe.new (Nat.le_of_eq g1.symm)
  rw [← g1] at A1 D1 st1
  have sf_b := Safe.ext E1 C0.1 sf_b
  have C2 := C0.trans (CHr.ext E1 C0.1)
  have E_b := A1
  have F_serverMsgId_b : Fld Z h1 b "com/example/highwater/highwater/store/StoredMessage" "serverMsgId" "J" (.long (0 : Int64)) := D1 (Or.inr (hw _ (List.mem_of_getElem? (i := 53) rfl))) (ty := .long) (by decide)
  have F_conversationId_b : Fld Z h1 b "com/example/highwater/highwater/store/StoredMessage" "conversationId" "J" (.long (0 : Int64)) := D1 (Or.inr (hw _ (List.mem_of_getElem? (i := 55) rfl))) (ty := .long) (by decide)
  have F_msgSeq_b : Fld Z h1 b "com/example/highwater/highwater/store/StoredMessage" "msgSeq" "J" (.long (0 : Int64)) := D1 (Or.inr (hw _ (List.mem_of_getElem? (i := 57) rfl))) (ty := .long) (by decide)
  have F_from_b : Fld Z h1 b "com/example/highwater/highwater/store/StoredMessage" "from" "Ljava/lang/String;" .null := D1 (Or.inr (hw _ (List.mem_of_getElem? (i := 59) rfl))) (ty := (.object "java/lang/String")) (by decide)
  have F_to_b : Fld Z h1 b "com/example/highwater/highwater/store/StoredMessage" "to" "Ljava/lang/String;" .null := D1 (Or.inr (hw _ (List.mem_of_getElem? (i := 61) rfl))) (ty := (.object "java/lang/String")) (by decide)
  have F_groupId_b : Fld Z h1 b "com/example/highwater/highwater/store/StoredMessage" "groupId" "J" (.long (0 : Int64)) := D1 (Or.inr (hw _ (List.mem_of_getElem? (i := 63) rfl))) (ty := .long) (by decide)
  have F_clientMsgId_b : Fld Z h1 b "com/example/highwater/highwater/store/StoredMessage" "clientMsgId" "Ljava/lang/String;" .null := D1 (Or.inr (hw _ (List.mem_of_getElem? (i := 65) rfl))) (ty := (.object "java/lang/String")) (by decide)
  have F_body_b : Fld Z h1 b "com/example/highwater/highwater/store/StoredMessage" "body" "Ljava/lang/String;" .null := D1 (Or.inr (hw _ (List.mem_of_getElem? (i := 67) rfl))) (ty := (.object "java/lang/String")) (by decide)
  have F_ts_b : Fld Z h1 b "com/example/highwater/highwater/store/StoredMessage" "ts" "J" (.long (0 : Int64)) := D1 (Or.inr (hw _ (List.mem_of_getElem? (i := 69) rfl))) (ty := .long) (by decide)
  have F_revoked_b : Fld Z h1 b "com/example/highwater/highwater/store/StoredMessage" "revoked" "Z" (.int (0 : Int32)) := D1 (Or.inr (hw _ (List.mem_of_getElem? (i := 71) rfl))) (ty := .boolean) (by decide)
  have F_revokedTs_b : Fld Z h1 b "com/example/highwater/highwater/store/StoredMessage" "revokedTs" "J" (.long (0 : Int64)) := D1 (Or.inr (hw _ (List.mem_of_getElem? (i := 73) rfl))) (ty := .long) (by decide)
  refine own_st st1 ?_
  try clear st1
  show own_Gl p e below _ (T1.setTop (mkF m 3 #[.val (.ref a), .val (.long wh), .second] [(.ref b)]))
  refine own_st (fun tg_ kg_ => XS.dup X1.here hx rfl (hb hby own_d_prog_31_method_2_code_3) rfl rfl kg_) ?_
  show own_Gl p e below _ (T1.setTop (mkF m 4 #[.val (.ref a), .val (.long wh), .second] [(.ref b), (.ref b)]))
  refine own_st (fun tg_ kg_ => XS.aloadN X1.here hx rfl (hb hby own_d_prog_31_method_2_code_4) rfl rfl kg_) ?_
  show own_Gl p e below _ (T1.setTop (mkF m 5 #[.val (.ref a), .val (.long wh), .second] [(.ref a), (.ref b), (.ref b)]))
  obtain ⟨T4, X4, e4, st4⟩ := getF X1 hx hZ hown (host := "") (Or.inl (hw _ (List.mem_of_getElem? (i := 52) rfl))) Via.refl e1 (F_serverMsgId.ext E1) (g := (mkF m 5 #[.val (.ref a), .val (.long wh), .second] [(.ref a), (.ref b), (.ref b)])) rfl rfl (hb hby own_d_prog_31_method_2_code_5)
  refine own_st st4 ?_
  try clear st4
  try clear e1
  try clear X1
  try clear T1
  show own_Gl p e below _ (T4.setTop (mkF m 8 #[.val (.ref a), .val (.long wh), .second] [(.long q1), (.ref b), (.ref b)]))
  refine own_st (fun tg_ kg_ => XS.aloadN X4.here hx rfl (hb hby own_d_prog_31_method_2_code_8) rfl rfl kg_) ?_
  show own_Gl p e below _ (T4.setTop (mkF m 9 #[.val (.ref a), .val (.long wh), .second] [(.ref a), (.long q1), (.ref b), (.ref b)]))
  obtain ⟨T5, X5, e5, st5⟩ := getF X4 hx hZ hown (host := "") (Or.inl (hw _ (List.mem_of_getElem? (i := 54) rfl))) Via.refl e4 (F_conversationId.ext E1) (g := (mkF m 9 #[.val (.ref a), .val (.long wh), .second] [(.ref a), (.long q1), (.ref b), (.ref b)])) rfl rfl (hb hby own_d_prog_31_method_2_code_9)
  refine own_st st5 ?_
  try clear st5
  try clear e4
  try clear X4
  try clear T4
  show own_Gl p e below _ (T5.setTop (mkF m 12 #[.val (.ref a), .val (.long wh), .second] [(.long q2), (.long q1), (.ref b), (.ref b)]))
  refine own_st (fun tg_ kg_ => XS.aloadN X5.here hx rfl (hb hby own_d_prog_31_method_2_code_12) rfl rfl kg_) ?_
  show own_Gl p e below _ (T5.setTop (mkF m 13 #[.val (.ref a), .val (.long wh), .second] [(.ref a), (.long q2), (.long q1), (.ref b), (.ref b)]))
  obtain ⟨T6, X6, e6, st6⟩ := getF X5 hx hZ hown (host := "") (Or.inl (hw _ (List.mem_of_getElem? (i := 56) rfl))) Via.refl e5 (F_msgSeq.ext E1) (g := (mkF m 13 #[.val (.ref a), .val (.long wh), .second] [(.ref a), (.long q2), (.long q1), (.ref b), (.ref b)])) rfl rfl (hb hby own_d_prog_31_method_2_code_13)
  refine own_st st6 ?_
  try clear st6
  try clear e5
  try clear X5
  try clear T5
  show own_Gl p e below _ (T6.setTop (mkF m 16 #[.val (.ref a), .val (.long wh), .second] [(.long q3), (.long q2), (.long q1), (.ref b), (.ref b)]))
  refine own_st (fun tg_ kg_ => XS.aloadN X6.here hx rfl (hb hby own_d_prog_31_method_2_code_16) rfl rfl kg_) ?_
  show own_Gl p e below _ (T6.setTop (mkF m 17 #[.val (.ref a), .val (.long wh), .second] [(.ref a), (.long q3), (.long q2), (.long q1), (.ref b), (.ref b)]))
  obtain ⟨T7, X7, e7, st7⟩ := getF X6 hx hZ hown (host := "") (Or.inl (hw _ (List.mem_of_getElem? (i := 58) rfl))) Via.refl e6 (F_from.ext E1) (g := (mkF m 17 #[.val (.ref a), .val (.long wh), .second] [(.ref a), (.long q3), (.long q2), (.long q1), (.ref b), (.ref b)])) rfl rfl (hb hby own_d_prog_31_method_2_code_17)
  refine own_st st7 ?_
  try clear st7
  try clear e6
  try clear X6
  try clear T6
  show own_Gl p e below _ (T7.setTop (mkF m 20 #[.val (.ref a), .val (.long wh), .second] [(.ref f), (.long q3), (.long q2), (.long q1), (.ref b), (.ref b)]))
  refine own_st (fun tg_ kg_ => XS.aloadN X7.here hx rfl (hb hby own_d_prog_31_method_2_code_20) rfl rfl kg_) ?_
  show own_Gl p e below _ (T7.setTop (mkF m 21 #[.val (.ref a), .val (.long wh), .second] [(.ref a), (.ref f), (.long q3), (.long q2), (.long q1), (.ref b), (.ref b)]))
  obtain ⟨T8, X8, e8, st8⟩ := getF X7 hx hZ hown (host := "") (Or.inl (hw _ (List.mem_of_getElem? (i := 60) rfl))) Via.refl e7 (F_to.ext E1) (g := (mkF m 21 #[.val (.ref a), .val (.long wh), .second] [(.ref a), (.ref f), (.long q3), (.long q2), (.long q1), (.ref b), (.ref b)])) rfl rfl (hb hby own_d_prog_31_method_2_code_21)
  refine own_st st8 ?_
  try clear st8
  try clear e7
  try clear X7
  try clear T7
  show own_Gl p e below _ (T8.setTop (mkF m 24 #[.val (.ref a), .val (.long wh), .second] [(.ref to), (.ref f), (.long q3), (.long q2), (.long q1), (.ref b), (.ref b)]))
  refine own_st (fun tg_ kg_ => XS.aloadN X8.here hx rfl (hb hby own_d_prog_31_method_2_code_24) rfl rfl kg_) ?_
  show own_Gl p e below _ (T8.setTop (mkF m 25 #[.val (.ref a), .val (.long wh), .second] [(.ref a), (.ref to), (.ref f), (.long q3), (.long q2), (.long q1), (.ref b), (.ref b)]))
  obtain ⟨T9, X9, e9, st9⟩ := getF X8 hx hZ hown (host := "") (Or.inl (hw _ (List.mem_of_getElem? (i := 62) rfl))) Via.refl e8 (F_groupId.ext E1) (g := (mkF m 25 #[.val (.ref a), .val (.long wh), .second] [(.ref a), (.ref to), (.ref f), (.long q3), (.long q2), (.long q1), (.ref b), (.ref b)])) rfl rfl (hb hby own_d_prog_31_method_2_code_25)
  refine own_st st9 ?_
  try clear st9
  try clear e8
  try clear X8
  try clear T8
  show own_Gl p e below _ (T9.setTop (mkF m 28 #[.val (.ref a), .val (.long wh), .second] [(.long q4), (.ref to), (.ref f), (.long q3), (.long q2), (.long q1), (.ref b), (.ref b)]))
  refine own_st (fun tg_ kg_ => XS.aloadN X9.here hx rfl (hb hby own_d_prog_31_method_2_code_28) rfl rfl kg_) ?_
  show own_Gl p e below _ (T9.setTop (mkF m 29 #[.val (.ref a), .val (.long wh), .second] [(.ref a), (.long q4), (.ref to), (.ref f), (.long q3), (.long q2), (.long q1), (.ref b), (.ref b)]))
  obtain ⟨T10, X10, e10, st10⟩ := getF X9 hx hZ hown (host := "") (Or.inl (hw _ (List.mem_of_getElem? (i := 64) rfl))) Via.refl e9 (F_clientMsgId.ext E1) (g := (mkF m 29 #[.val (.ref a), .val (.long wh), .second] [(.ref a), (.long q4), (.ref to), (.ref f), (.long q3), (.long q2), (.long q1), (.ref b), (.ref b)])) rfl rfl (hb hby own_d_prog_31_method_2_code_29)
  refine own_st st10 ?_
  try clear st10
  try clear e9
  try clear X9
  try clear T9
  show own_Gl p e below _ (T10.setTop (mkF m 32 #[.val (.ref a), .val (.long wh), .second] [(.ref cm), (.long q4), (.ref to), (.ref f), (.long q3), (.long q2), (.long q1), (.ref b), (.ref b)]))
  have lt12 : b < h1.size := E_b.lt
  obtain ⟨lit, T11, h11, k11, lit_b, lit_k, X11, e11, E11, hSb11, hk11, hZ, hown, E_lit, Fc_lit, Fv_lit, V_lit_b, -, -, CC11, -, nl11, st11⟩ := ldcCH X10 hx hZ hown (text := "") (hw _ (List.mem_of_getElem? (i := 80) rfl)) (own_wS hw) e10 hS0 (Nat.zero_le _) hEL (by decide) C2.1 (vs := []) (z := (0 : Int32)) ⟨by decide, by decide⟩ (by decide) rfl (g := (mkF m 32 #[.val (.ref a), .val (.long wh), .second] [(.ref cm), (.long q4), (.ref to), (.ref f), (.long q3), (.long q2), (.long q1), (.ref b), (.ref b)])) rfl (hb hby own_d_prog_31_method_2_code_32) (n := 0) (by decide) (by decide) (by decide) (by decide)
  have hk := hk11
  replace E_b := E_b.ext E11
  replace F_serverMsgId_b := F_serverMsgId_b.ext E11
  replace F_conversationId_b := F_conversationId_b.ext E11
  replace F_msgSeq_b := F_msgSeq_b.ext E11
  replace F_from_b := F_from_b.ext E11
  replace F_to_b := F_to_b.ext E11
  replace F_groupId_b := F_groupId_b.ext E11
  replace F_clientMsgId_b := F_clientMsgId_b.ext E11
  replace F_body_b := F_body_b.ext E11
  replace F_ts_b := F_ts_b.ext E11
  replace F_revoked_b := F_revoked_b.ext E11
  replace F_revokedTs_b := F_revokedTs_b.ext E11
  have K13 := own_ext_tr E1 E11
  try clear E11
  try clear E1
  have sf_b := CHr.safe CC11 lt12 sf_b
  have C11 := C2.trans CC11
  obtain ⟨ne_b_lit, ne_b_lit_b⟩ := nl11 b sf_b
  refine own_st st11 ?_
  try clear st11
  try clear e10
  try clear X10
  try clear T10
  show own_Gl p e below _ (T11.setTop (mkF m 34 #[.val (.ref a), .val (.long wh), .second] [(.ref lit), (.ref cm), (.long q4), (.ref to), (.ref f), (.long q3), (.long q2), (.long q1), (.ref b), (.ref b)]))
  refine own_st (fun tg_ kg_ => XS.aloadN X11.here hx rfl (hb hby own_d_prog_31_method_2_code_34) rfl rfl kg_) ?_
  show own_Gl p e below _ (T11.setTop (mkF m 35 #[.val (.ref a), .val (.long wh), .second] [(.ref a), (.ref lit), (.ref cm), (.long q4), (.ref to), (.ref f), (.long q3), (.long q2), (.long q1), (.ref b), (.ref b)]))
  obtain ⟨T14, X14, e14, st14⟩ := getF X11 hx hZ hown (host := "") (Or.inl (hw _ (List.mem_of_getElem? (i := 68) rfl))) Via.refl e11 (F_ts.ext K13) (g := (mkF m 35 #[.val (.ref a), .val (.long wh), .second] [(.ref a), (.ref lit), (.ref cm), (.long q4), (.ref to), (.ref f), (.long q3), (.long q2), (.long q1), (.ref b), (.ref b)])) rfl rfl (hb hby own_d_prog_31_method_2_code_35)
  refine own_st st14 ?_
  try clear st14
  try clear e11
  try clear X11
  try clear T11
  show own_Gl p e below _ (T14.setTop (mkF m 38 #[.val (.ref a), .val (.long wh), .second] [(.long q5), (.ref lit), (.ref cm), (.long q4), (.ref to), (.ref f), (.long q3), (.long q2), (.long q1), (.ref b), (.ref b)]))
  refine own_st (fun tg_ kg_ => XS.iconst X14.here hx rfl (hb hby own_d_prog_31_method_2_code_38) kg_) ?_
  show own_Gl p e below _ (T14.setTop (mkF m 39 #[.val (.ref a), .val (.long wh), .second] [(.int (1 : Int32)), (.long q5), (.ref lit), (.ref cm), (.long q4), (.ref to), (.ref f), (.long q3), (.long q2), (.long q1), (.ref b), (.ref b)]))
  refine own_st (fun tg_ kg_ => XS.lloadN X14.here hx rfl (hb hby own_d_prog_31_method_2_code_39) rfl kg_) ?_
  show own_Gl p e below _ (T14.setTop (mkF m 40 #[.val (.ref a), .val (.long wh), .second] [(.long wh), (.int (1 : Int32)), (.long q5), (.ref lit), (.ref cm), (.long q4), (.ref to), (.ref f), (.long q3), (.long q2), (.long q1), (.ref b), (.ref b)]))
  obtain ⟨_, _, ⟨T15, L15, k15, n15⟩, -, X15, ⟨Lc15, hQ15, l15, y15, z15⟩, st15⟩ := X14.specialBack hx (y := (⟨"com/example/highwater/highwater/store/StoredMessage", "<init>", "(JJJLjava/lang/String;Ljava/lang/String;JLjava/lang/String;Ljava/lang/String;JZJ)V"⟩ : MethodName)) rfl hown (mvT hZ (hw _ (List.mem_of_getElem? (i := 83) rfl))) (mvT hZ (hw _ (List.mem_of_getElem? (i := 49) rfl))) (mvT hZ (hw _ (List.mem_of_getElem? (i := 50) rfl))) (by decide) (backOf (W := 1) (own_rm_smiR l Z a0 hw [] b f to cm lit q1 q2 q3 q4 q5 wh (1 : Int32) h11 n0 (Nat.le_trans Z0 K13.1) E_b F_serverMsgId_b F_conversationId_b F_msgSeq_b F_from_b F_to_b F_groupId_b F_clientMsgId_b F_body_b F_ts_b F_revoked_b F_revokedTs_b g_b) hZ (hw _ (List.mem_of_getElem? (i := 50) rfl)) (hw _ (List.mem_of_getElem? (i := 47) rfl)) (by decide) (by decide)) (g := (mkF m 40 #[.val (.ref a), .val (.long wh), .second] [(.long wh), (.int (1 : Int32)), (.long q5), (.ref lit), (.ref cm), (.long q4), (.ref to), (.ref f), (.long q3), (.long q2), (.long q1), (.ref b), (.ref b)])) rfl (by rw [hml]; rfl) (Steps.refl _) (a := b) (argsL := [(.long q1), (.long q2), (.long q3), (.ref f), (.ref to), (.long q4), (.ref cm), (.ref lit), (.long q5), (.int (1 : Int32)), (.long wh)]) (rest := [(.ref b)]) (lenOf own_pd3 rfl) rfl (by show 2 * 0 + _ ≤ _; exact Nat.le_of_eq rfl) (hb hby own_d_prog_31_method_2_code_40) (fun _ _ => ⟨rfl, e14, (by decide : 3 + 0 ≤ _), (by decide : 15 + 0 ≤ _)⟩)
  dsimp only [Pt.U, Pt.locs, Pt.cells, Pt.slots] at X15 l15 y15 z15 st15 hQ15
  obtain rfl : k15 = 3 := y15
  obtain rfl : n15 = 15 := z15
  obtain ⟨rfl, N15q, Kc15, G_serverMsgId, G_conversationId, G_msgSeq, G_from, G_to, G_groupId, G_clientMsgId, G_body, G_ts, G_revoked, G_revokedTs⟩ := hQ15
  have N15 : Fr n0 L15 := by rw [l15]; exact Fr.app N0 N15q
  try clear l15
  refine own_tr st15 ?_
  have hk := Nat.le_trans hk Kc15.1
  have sf_b' := Safe.keep Kc15 (sfS sf_b sf0) C11.1 sf_b
  have C16 := C11.trans (CHr.keep Kc15 (sfS sf_b sf0) C11.1)
  have sf_b := sf_b'
  replace E_b := E_b.keep Kc15
  replace E_lit := E_lit.keep Kc15
  replace Fc_lit := Fc_lit.keep Kc15 (ninS ne_b_lit.symm nin0)
  replace Fv_lit := Fv_lit.keep Kc15 (ninS ne_b_lit.symm nin0)
  replace V_lit_b := V_lit_b.keep Kc15 (ninS ne_b_lit_b.symm nin0)
  have K17 := own_ext_keep K13 Kc15 (allS sz_b all0)
  try clear Kc15
  try clear K13
  show own_Gl p e below _ (T15.setTop (mkF m 43 #[.val (.ref a), .val (.long wh), .second] [(.ref b)]))
  try clear st15
  try clear N15q
  try clear e14
  try clear X14
  try clear T14
  exact own_wretA X15 hx Bd.notSynchronized Bd.returns rfl rfl (hb hby own_d_prog_31_method_2_code_43) (by decide) (by decide) rfl hSb11 hk hh (C16.trans (CHv.at X15 hZ hEL C16.1)) (⟨⟨_, _, _, _, rfl, sz_b, E_b, E_lit, Fv_lit, V_lit_b, G_serverMsgId, G_conversationId, G_msgSeq, G_from, G_to, G_groupId, G_clientMsgId, G_body, G_ts, G_revoked, G_revokedTs⟩, N15, K17⟩)
theorem own_d_prog_31_method_3_code_0 : decode prog_31_method_3_code 0 = .ok (.aload_n 0, 1) := by decide +kernel
theorem own_d_prog_31_method_3_code_1 : decode prog_31_method_3_code 1 = .ok (.getfield 7, 3) := by decide +kernel
theorem own_d_prog_31_method_3_code_4 : decode prog_31_method_3_code 4 = .ok (.lreturn, 1) := by decide +kernel
theorem own_ef_g_serverMsgId (m : MethodId) (x0 : Addr) : entryFrame m #[(.ref x0)] 1 = mkF m 0 #[.val (.ref x0)] [] := by first | (simp [entryFrame, mkF, argsToLocals, Value.category]; done) | rfl
def own_Q_g_serverMsgId (Z : State) (a : Addr) (x : Int64) (h0 : Heap) (n0 : Nat) (v : Option Value) (h : Heap) (L : List Loc) : Prop := v = some (.long x) ∧ Fr n0 L ∧ h = h0
set_option maxRecDepth 65536 in
set_option maxHeartbeats 40000000 in
theorem own_rm_g_serverMsgId (l : Launch) (Z : State) (a0 : Array Value) (hw : ∀ d ∈ tables_1, d.before a0 Z = true) (ws : List Jvm.Cond) (a : Addr) (x : Int64) (h0 : Heap) (n0 : Nat) (Z0 : n0 ≤ h0.size) (F : Fld Z h0 a "com/example/highwater/highwater/store/StoredMessage" "serverMsgId" "J" (.long x)) :
    MetFree l (⟨"com/example/highwater/highwater/store/StoredMessage", "serverMsgId", "()J"⟩ : MethodName) (head1 (Jvm.Cond.code (⟨"com/example/highwater/highwater/store/StoredMessage", "serverMsgId", "()J"⟩ : MethodName) prog_31_method_3_code 1 (some .long) :: ws) ({ frames := 0, cells := 0, slots := 0, locals := 0 } : Room)) (fun aa UU => aa = #[(.ref a)] ∧ Z.Warmed39 UU.vm ∧ UU.heap = h0) (fun _ _ _ _ _ => True) (fun _ UU oo UU' => ∃ vv LL, oo = .returned vv ∧ own_Q_g_serverMsgId Z a x h0 n0 vv UU'.heap LL ∧ FrameEnd UU oo UU' LL ({ frames := 0, cells := 0, slots := 0, locals := 0 } : Room).cells ({ frames := 0, cells := 0, slots := 0, locals := 0 } : Room).slots) := by
  refine MetFree.of_bodySF (plainFor_of_name own_pn2) hisR ?_
  intro p e s m args below meth c s₁ Bd hml0 hP hK
  obtain ⟨rfl, hZ, hh⟩ := hP
  have hx := Bd.exec
  have hby := Bd.bytes
  have hml : c.maxLocals = 1 := hml0
  have hown : s.vm.findClass "com/example/highwater/highwater/store/StoredMessage" = some m.cls := findClass_of_methodNamed Bd.named
  have hnm := (name_of_methodNamed Bd.named Bd.method).1
  have X0 : Stand p l e ({ frames := 0, cells := 0, slots := 0, locals := 0 } : Room) s m #[(.ref a)] below meth c s₁ [] 0 0 := Stand.of_body Bd
  have e0 : s₁.heap = h0 := by rw [← hh, Bd.state]; rfl
  have N0 := Fr.nil n0
  show own_Gl p e below (own_Post s (own_Q_g_serverMsgId Z a x h0 n0) ({ frames := 0, cells := 0, slots := 0, locals := 0 } : Room).cells ({ frames := 0, cells := 0, slots := 0, locals := 0 } : Room).slots) _
  refine own_st (fun tg_ kg_ => castTop (own_ef_g_serverMsgId m a) kg_) ?_
  show own_Gl p e below _ (s₁.setTop (mkF m 0 #[.val (.ref a)] []))
  refine own_st (fun tg_ kg_ => XS.aloadN X0.here hx rfl (hb hby own_d_prog_31_method_3_code_0) rfl rfl kg_) ?_
  show own_Gl p e below _ (s₁.setTop (mkF m 1 #[.val (.ref a)] [(.ref a)]))
  obtain ⟨T1, X1, e1, st1⟩ := getF X0 hx hZ hown (host := "") (Or.inl (hw _ (List.mem_of_getElem? (i := 52) rfl))) Via.refl e0 F (g := (mkF m 1 #[.val (.ref a)] [(.ref a)])) rfl rfl (hb hby own_d_prog_31_method_3_code_1)
  refine own_st st1 ?_
  try clear st1
  show own_Gl p e below _ (T1.setTop (mkF m 4 #[.val (.ref a)] [(.long x)]))
  exact own_retL X1 hx Bd.notSynchronized Bd.returns (hb hby own_d_prog_31_method_3_code_4) (by decide) (by decide) e1 (⟨rfl, N0, rfl⟩)
theorem own_d_prog_31_method_4_code_0 : decode prog_31_method_4_code 0 = .ok (.aload_n 0, 1) := by decide +kernel
theorem own_d_prog_31_method_4_code_1 : decode prog_31_method_4_code 1 = .ok (.getfield 13, 3) := by decide +kernel
theorem own_d_prog_31_method_4_code_4 : decode prog_31_method_4_code 4 = .ok (.lreturn, 1) := by decide +kernel
theorem own_ef_g_conversationId (m : MethodId) (x0 : Addr) : entryFrame m #[(.ref x0)] 1 = mkF m 0 #[.val (.ref x0)] [] := by first | (simp [entryFrame, mkF, argsToLocals, Value.category]; done) | rfl
def own_Q_g_conversationId (Z : State) (a : Addr) (x : Int64) (h0 : Heap) (n0 : Nat) (v : Option Value) (h : Heap) (L : List Loc) : Prop := v = some (.long x) ∧ Fr n0 L ∧ h = h0
set_option maxRecDepth 65536 in
set_option maxHeartbeats 40000000 in
theorem own_rm_g_conversationId (l : Launch) (Z : State) (a0 : Array Value) (hw : ∀ d ∈ tables_1, d.before a0 Z = true) (ws : List Jvm.Cond) (a : Addr) (x : Int64) (h0 : Heap) (n0 : Nat) (Z0 : n0 ≤ h0.size) (F : Fld Z h0 a "com/example/highwater/highwater/store/StoredMessage" "conversationId" "J" (.long x)) :
    MetFree l (⟨"com/example/highwater/highwater/store/StoredMessage", "conversationId", "()J"⟩ : MethodName) (head1 (Jvm.Cond.code (⟨"com/example/highwater/highwater/store/StoredMessage", "conversationId", "()J"⟩ : MethodName) prog_31_method_4_code 1 (some .long) :: ws) ({ frames := 0, cells := 0, slots := 0, locals := 0 } : Room)) (fun aa UU => aa = #[(.ref a)] ∧ Z.Warmed39 UU.vm ∧ UU.heap = h0) (fun _ _ _ _ _ => True) (fun _ UU oo UU' => ∃ vv LL, oo = .returned vv ∧ own_Q_g_conversationId Z a x h0 n0 vv UU'.heap LL ∧ FrameEnd UU oo UU' LL ({ frames := 0, cells := 0, slots := 0, locals := 0 } : Room).cells ({ frames := 0, cells := 0, slots := 0, locals := 0 } : Room).slots) := by
  refine MetFree.of_bodySF (plainFor_of_name own_pn2) hisR ?_
  intro p e s m args below meth c s₁ Bd hml0 hP hK
  obtain ⟨rfl, hZ, hh⟩ := hP
  have hx := Bd.exec
  have hby := Bd.bytes
  have hml : c.maxLocals = 1 := hml0
  have hown : s.vm.findClass "com/example/highwater/highwater/store/StoredMessage" = some m.cls := findClass_of_methodNamed Bd.named
  have hnm := (name_of_methodNamed Bd.named Bd.method).1
  have X0 : Stand p l e ({ frames := 0, cells := 0, slots := 0, locals := 0 } : Room) s m #[(.ref a)] below meth c s₁ [] 0 0 := Stand.of_body Bd
  have e0 : s₁.heap = h0 := by rw [← hh, Bd.state]; rfl
  have N0 := Fr.nil n0
  show own_Gl p e below (own_Post s (own_Q_g_conversationId Z a x h0 n0) ({ frames := 0, cells := 0, slots := 0, locals := 0 } : Room).cells ({ frames := 0, cells := 0, slots := 0, locals := 0 } : Room).slots) _
  refine own_st (fun tg_ kg_ => castTop (own_ef_g_conversationId m a) kg_) ?_
  show own_Gl p e below _ (s₁.setTop (mkF m 0 #[.val (.ref a)] []))
  refine own_st (fun tg_ kg_ => XS.aloadN X0.here hx rfl (hb hby own_d_prog_31_method_4_code_0) rfl rfl kg_) ?_
  show own_Gl p e below _ (s₁.setTop (mkF m 1 #[.val (.ref a)] [(.ref a)]))
  obtain ⟨T1, X1, e1, st1⟩ := getF X0 hx hZ hown (host := "") (Or.inl (hw _ (List.mem_of_getElem? (i := 54) rfl))) Via.refl e0 F (g := (mkF m 1 #[.val (.ref a)] [(.ref a)])) rfl rfl (hb hby own_d_prog_31_method_4_code_1)
  refine own_st st1 ?_
  try clear st1
  show own_Gl p e below _ (T1.setTop (mkF m 4 #[.val (.ref a)] [(.long x)]))
  exact own_retL X1 hx Bd.notSynchronized Bd.returns (hb hby own_d_prog_31_method_4_code_4) (by decide) (by decide) e1 (⟨rfl, N0, rfl⟩)
theorem own_d_prog_31_method_5_code_0 : decode prog_31_method_5_code 0 = .ok (.aload_n 0, 1) := by decide +kernel
theorem own_d_prog_31_method_5_code_1 : decode prog_31_method_5_code 1 = .ok (.getfield 16, 3) := by decide +kernel
theorem own_d_prog_31_method_5_code_4 : decode prog_31_method_5_code 4 = .ok (.lreturn, 1) := by decide +kernel
theorem own_ef_g_msgSeq (m : MethodId) (x0 : Addr) : entryFrame m #[(.ref x0)] 1 = mkF m 0 #[.val (.ref x0)] [] := by first | (simp [entryFrame, mkF, argsToLocals, Value.category]; done) | rfl
def own_Q_g_msgSeq (Z : State) (a : Addr) (x : Int64) (h0 : Heap) (n0 : Nat) (v : Option Value) (h : Heap) (L : List Loc) : Prop := v = some (.long x) ∧ Fr n0 L ∧ h = h0
set_option maxRecDepth 65536 in
set_option maxHeartbeats 40000000 in
theorem own_rm_g_msgSeq (l : Launch) (Z : State) (a0 : Array Value) (hw : ∀ d ∈ tables_1, d.before a0 Z = true) (ws : List Jvm.Cond) (a : Addr) (x : Int64) (h0 : Heap) (n0 : Nat) (Z0 : n0 ≤ h0.size) (F : Fld Z h0 a "com/example/highwater/highwater/store/StoredMessage" "msgSeq" "J" (.long x)) :
    MetFree l (⟨"com/example/highwater/highwater/store/StoredMessage", "msgSeq", "()J"⟩ : MethodName) (head1 (Jvm.Cond.code (⟨"com/example/highwater/highwater/store/StoredMessage", "msgSeq", "()J"⟩ : MethodName) prog_31_method_5_code 1 (some .long) :: ws) ({ frames := 0, cells := 0, slots := 0, locals := 0 } : Room)) (fun aa UU => aa = #[(.ref a)] ∧ Z.Warmed39 UU.vm ∧ UU.heap = h0) (fun _ _ _ _ _ => True) (fun _ UU oo UU' => ∃ vv LL, oo = .returned vv ∧ own_Q_g_msgSeq Z a x h0 n0 vv UU'.heap LL ∧ FrameEnd UU oo UU' LL ({ frames := 0, cells := 0, slots := 0, locals := 0 } : Room).cells ({ frames := 0, cells := 0, slots := 0, locals := 0 } : Room).slots) := by
  refine MetFree.of_bodySF (plainFor_of_name own_pn2) hisR ?_
  intro p e s m args below meth c s₁ Bd hml0 hP hK
  obtain ⟨rfl, hZ, hh⟩ := hP
  have hx := Bd.exec
  have hby := Bd.bytes
  have hml : c.maxLocals = 1 := hml0
  have hown : s.vm.findClass "com/example/highwater/highwater/store/StoredMessage" = some m.cls := findClass_of_methodNamed Bd.named
  have hnm := (name_of_methodNamed Bd.named Bd.method).1
  have X0 : Stand p l e ({ frames := 0, cells := 0, slots := 0, locals := 0 } : Room) s m #[(.ref a)] below meth c s₁ [] 0 0 := Stand.of_body Bd
  have e0 : s₁.heap = h0 := by rw [← hh, Bd.state]; rfl
  have N0 := Fr.nil n0
  show own_Gl p e below (own_Post s (own_Q_g_msgSeq Z a x h0 n0) ({ frames := 0, cells := 0, slots := 0, locals := 0 } : Room).cells ({ frames := 0, cells := 0, slots := 0, locals := 0 } : Room).slots) _
  refine own_st (fun tg_ kg_ => castTop (own_ef_g_msgSeq m a) kg_) ?_
  show own_Gl p e below _ (s₁.setTop (mkF m 0 #[.val (.ref a)] []))
  refine own_st (fun tg_ kg_ => XS.aloadN X0.here hx rfl (hb hby own_d_prog_31_method_5_code_0) rfl rfl kg_) ?_
  show own_Gl p e below _ (s₁.setTop (mkF m 1 #[.val (.ref a)] [(.ref a)]))
  obtain ⟨T1, X1, e1, st1⟩ := getF X0 hx hZ hown (host := "") (Or.inl (hw _ (List.mem_of_getElem? (i := 56) rfl))) Via.refl e0 F (g := (mkF m 1 #[.val (.ref a)] [(.ref a)])) rfl rfl (hb hby own_d_prog_31_method_5_code_1)
  refine own_st st1 ?_
  try clear st1
  show own_Gl p e below _ (T1.setTop (mkF m 4 #[.val (.ref a)] [(.long x)]))
  exact own_retL X1 hx Bd.notSynchronized Bd.returns (hb hby own_d_prog_31_method_5_code_4) (by decide) (by decide) e1 (⟨rfl, N0, rfl⟩)
theorem own_d_prog_31_method_6_code_0 : decode prog_31_method_6_code 0 = .ok (.aload_n 0, 1) := by decide +kernel
theorem own_d_prog_31_method_6_code_1 : decode prog_31_method_6_code 1 = .ok (.getfield 19, 3) := by decide +kernel
theorem own_d_prog_31_method_6_code_4 : decode prog_31_method_6_code 4 = .ok (.areturn, 1) := by decide +kernel
theorem own_ef_g_fromR (m : MethodId) (x0 : Addr) : entryFrame m #[(.ref x0)] 1 = mkF m 0 #[.val (.ref x0)] [] := by first | (simp [entryFrame, mkF, argsToLocals, Value.category]; done) | rfl
def own_Q_g_fromR (Z : State) (a x : Addr) (h0 : Heap) (n0 : Nat) (v : Option Value) (h : Heap) (L : List Loc) : Prop := v = some (.ref x) ∧ Fr n0 L ∧ h = h0
set_option maxRecDepth 65536 in
set_option maxHeartbeats 40000000 in
theorem own_rm_g_fromR (l : Launch) (Z : State) (a0 : Array Value) (hw : ∀ d ∈ tables_1, d.before a0 Z = true) (ws : List Jvm.Cond) (a x : Addr) (h0 : Heap) (n0 : Nat) (Z0 : n0 ≤ h0.size) (F : Fld Z h0 a "com/example/highwater/highwater/store/StoredMessage" "from" "Ljava/lang/String;" (.ref x)) :
    MetFree l (⟨"com/example/highwater/highwater/store/StoredMessage", "from", "()Ljava/lang/String;"⟩ : MethodName) (head1 (Jvm.Cond.code (⟨"com/example/highwater/highwater/store/StoredMessage", "from", "()Ljava/lang/String;"⟩ : MethodName) prog_31_method_6_code 1 (some (.object "java/lang/String")) :: ws) ({ frames := 0, cells := 0, slots := 0, locals := 0 } : Room)) (fun aa UU => aa = #[(.ref a)] ∧ Z.Warmed39 UU.vm ∧ UU.heap = h0) (fun _ _ _ _ _ => True) (fun _ UU oo UU' => ∃ vv LL, oo = .returned vv ∧ own_Q_g_fromR Z a x h0 n0 vv UU'.heap LL ∧ FrameEnd UU oo UU' LL ({ frames := 0, cells := 0, slots := 0, locals := 0 } : Room).cells ({ frames := 0, cells := 0, slots := 0, locals := 0 } : Room).slots) := by
  refine MetFree.of_bodySF (plainFor_of_name own_pn2) hisR ?_
  intro p e s m args below meth c s₁ Bd hml0 hP hK
  obtain ⟨rfl, hZ, hh⟩ := hP
  have hx := Bd.exec
  have hby := Bd.bytes
  have hml : c.maxLocals = 1 := hml0
  have hown : s.vm.findClass "com/example/highwater/highwater/store/StoredMessage" = some m.cls := findClass_of_methodNamed Bd.named
  have hnm := (name_of_methodNamed Bd.named Bd.method).1
  have X0 : Stand p l e ({ frames := 0, cells := 0, slots := 0, locals := 0 } : Room) s m #[(.ref a)] below meth c s₁ [] 0 0 := Stand.of_body Bd
  have e0 : s₁.heap = h0 := by rw [← hh, Bd.state]; rfl
  have N0 := Fr.nil n0
  show own_Gl p e below (own_Post s (own_Q_g_fromR Z a x h0 n0) ({ frames := 0, cells := 0, slots := 0, locals := 0 } : Room).cells ({ frames := 0, cells := 0, slots := 0, locals := 0 } : Room).slots) _
  refine own_st (fun tg_ kg_ => castTop (own_ef_g_fromR m a) kg_) ?_
  show own_Gl p e below _ (s₁.setTop (mkF m 0 #[.val (.ref a)] []))
  refine own_st (fun tg_ kg_ => XS.aloadN X0.here hx rfl (hb hby own_d_prog_31_method_6_code_0) rfl rfl kg_) ?_
  show own_Gl p e below _ (s₁.setTop (mkF m 1 #[.val (.ref a)] [(.ref a)]))
  obtain ⟨T1, X1, e1, st1⟩ := getF X0 hx hZ hown (host := "") (Or.inl (hw _ (List.mem_of_getElem? (i := 58) rfl))) Via.refl e0 F (g := (mkF m 1 #[.val (.ref a)] [(.ref a)])) rfl rfl (hb hby own_d_prog_31_method_6_code_1)
  refine own_st st1 ?_
  try clear st1
  show own_Gl p e below _ (T1.setTop (mkF m 4 #[.val (.ref a)] [(.ref x)]))
  exact own_retA X1 hx Bd.notSynchronized Bd.returns rfl rfl (hb hby own_d_prog_31_method_6_code_4) (by decide) (by decide) e1 (⟨rfl, N0, rfl⟩)
theorem own_d_prog_31_method_7_code_0 : decode prog_31_method_7_code 0 = .ok (.aload_n 0, 1) := by decide +kernel
theorem own_d_prog_31_method_7_code_1 : decode prog_31_method_7_code 1 = .ok (.getfield 23, 3) := by decide +kernel
theorem own_d_prog_31_method_7_code_4 : decode prog_31_method_7_code 4 = .ok (.areturn, 1) := by decide +kernel
theorem own_ef_g_toN (m : MethodId) (x0 : Addr) : entryFrame m #[(.ref x0)] 1 = mkF m 0 #[.val (.ref x0)] [] := by first | (simp [entryFrame, mkF, argsToLocals, Value.category]; done) | rfl
def own_Q_g_toN (Z : State) (a : Addr) (h0 : Heap) (n0 : Nat) (v : Option Value) (h : Heap) (L : List Loc) : Prop := v = some .null ∧ Fr n0 L ∧ h = h0
set_option maxRecDepth 65536 in
set_option maxHeartbeats 40000000 in
theorem own_rm_g_toN (l : Launch) (Z : State) (a0 : Array Value) (hw : ∀ d ∈ tables_1, d.before a0 Z = true) (ws : List Jvm.Cond) (a : Addr) (h0 : Heap) (n0 : Nat) (Z0 : n0 ≤ h0.size) (F : Fld Z h0 a "com/example/highwater/highwater/store/StoredMessage" "to" "Ljava/lang/String;" .null) :
    MetFree l (⟨"com/example/highwater/highwater/store/StoredMessage", "to", "()Ljava/lang/String;"⟩ : MethodName) (head1 (Jvm.Cond.code (⟨"com/example/highwater/highwater/store/StoredMessage", "to", "()Ljava/lang/String;"⟩ : MethodName) prog_31_method_7_code 1 (some (.object "java/lang/String")) :: ws) ({ frames := 0, cells := 0, slots := 0, locals := 0 } : Room)) (fun aa UU => aa = #[(.ref a)] ∧ Z.Warmed39 UU.vm ∧ UU.heap = h0) (fun _ _ _ _ _ => True) (fun _ UU oo UU' => ∃ vv LL, oo = .returned vv ∧ own_Q_g_toN Z a h0 n0 vv UU'.heap LL ∧ FrameEnd UU oo UU' LL ({ frames := 0, cells := 0, slots := 0, locals := 0 } : Room).cells ({ frames := 0, cells := 0, slots := 0, locals := 0 } : Room).slots) := by
  refine MetFree.of_bodySF (plainFor_of_name own_pn2) hisR ?_
  intro p e s m args below meth c s₁ Bd hml0 hP hK
  obtain ⟨rfl, hZ, hh⟩ := hP
  have hx := Bd.exec
  have hby := Bd.bytes
  have hml : c.maxLocals = 1 := hml0
  have hown : s.vm.findClass "com/example/highwater/highwater/store/StoredMessage" = some m.cls := findClass_of_methodNamed Bd.named
  have hnm := (name_of_methodNamed Bd.named Bd.method).1
  have X0 : Stand p l e ({ frames := 0, cells := 0, slots := 0, locals := 0 } : Room) s m #[(.ref a)] below meth c s₁ [] 0 0 := Stand.of_body Bd
  have e0 : s₁.heap = h0 := by rw [← hh, Bd.state]; rfl
  have N0 := Fr.nil n0
  show own_Gl p e below (own_Post s (own_Q_g_toN Z a h0 n0) ({ frames := 0, cells := 0, slots := 0, locals := 0 } : Room).cells ({ frames := 0, cells := 0, slots := 0, locals := 0 } : Room).slots) _
  refine own_st (fun tg_ kg_ => castTop (own_ef_g_toN m a) kg_) ?_
  show own_Gl p e below _ (s₁.setTop (mkF m 0 #[.val (.ref a)] []))
  refine own_st (fun tg_ kg_ => XS.aloadN X0.here hx rfl (hb hby own_d_prog_31_method_7_code_0) rfl rfl kg_) ?_
  show own_Gl p e below _ (s₁.setTop (mkF m 1 #[.val (.ref a)] [(.ref a)]))
  obtain ⟨T1, X1, e1, st1⟩ := getF X0 hx hZ hown (host := "") (Or.inl (hw _ (List.mem_of_getElem? (i := 60) rfl))) Via.refl e0 F (g := (mkF m 1 #[.val (.ref a)] [(.ref a)])) rfl rfl (hb hby own_d_prog_31_method_7_code_1)
  refine own_st st1 ?_
  try clear st1
  show own_Gl p e below _ (T1.setTop (mkF m 4 #[.val (.ref a)] [.null]))
  exact own_retA X1 hx Bd.notSynchronized Bd.returns rfl rfl (hb hby own_d_prog_31_method_7_code_4) (by decide) (by decide) e1 (⟨rfl, N0, rfl⟩)
theorem own_ef_g_toR (m : MethodId) (x0 : Addr) : entryFrame m #[(.ref x0)] 1 = mkF m 0 #[.val (.ref x0)] [] := by first | (simp [entryFrame, mkF, argsToLocals, Value.category]; done) | rfl
def own_Q_g_toR (Z : State) (a x : Addr) (h0 : Heap) (n0 : Nat) (v : Option Value) (h : Heap) (L : List Loc) : Prop := v = some (.ref x) ∧ Fr n0 L ∧ h = h0
set_option maxRecDepth 65536 in
set_option maxHeartbeats 40000000 in
theorem own_rm_g_toR (l : Launch) (Z : State) (a0 : Array Value) (hw : ∀ d ∈ tables_1, d.before a0 Z = true) (ws : List Jvm.Cond) (a x : Addr) (h0 : Heap) (n0 : Nat) (Z0 : n0 ≤ h0.size) (F : Fld Z h0 a "com/example/highwater/highwater/store/StoredMessage" "to" "Ljava/lang/String;" (.ref x)) :
    MetFree l (⟨"com/example/highwater/highwater/store/StoredMessage", "to", "()Ljava/lang/String;"⟩ : MethodName) (head1 (Jvm.Cond.code (⟨"com/example/highwater/highwater/store/StoredMessage", "to", "()Ljava/lang/String;"⟩ : MethodName) prog_31_method_7_code 1 (some (.object "java/lang/String")) :: ws) ({ frames := 0, cells := 0, slots := 0, locals := 0 } : Room)) (fun aa UU => aa = #[(.ref a)] ∧ Z.Warmed39 UU.vm ∧ UU.heap = h0) (fun _ _ _ _ _ => True) (fun _ UU oo UU' => ∃ vv LL, oo = .returned vv ∧ own_Q_g_toR Z a x h0 n0 vv UU'.heap LL ∧ FrameEnd UU oo UU' LL ({ frames := 0, cells := 0, slots := 0, locals := 0 } : Room).cells ({ frames := 0, cells := 0, slots := 0, locals := 0 } : Room).slots) := by
  refine MetFree.of_bodySF (plainFor_of_name own_pn2) hisR ?_
  intro p e s m args below meth c s₁ Bd hml0 hP hK
  obtain ⟨rfl, hZ, hh⟩ := hP
  have hx := Bd.exec
  have hby := Bd.bytes
  have hml : c.maxLocals = 1 := hml0
  have hown : s.vm.findClass "com/example/highwater/highwater/store/StoredMessage" = some m.cls := findClass_of_methodNamed Bd.named
  have hnm := (name_of_methodNamed Bd.named Bd.method).1
  have X0 : Stand p l e ({ frames := 0, cells := 0, slots := 0, locals := 0 } : Room) s m #[(.ref a)] below meth c s₁ [] 0 0 := Stand.of_body Bd
  have e0 : s₁.heap = h0 := by rw [← hh, Bd.state]; rfl
  have N0 := Fr.nil n0
  show own_Gl p e below (own_Post s (own_Q_g_toR Z a x h0 n0) ({ frames := 0, cells := 0, slots := 0, locals := 0 } : Room).cells ({ frames := 0, cells := 0, slots := 0, locals := 0 } : Room).slots) _
  refine own_st (fun tg_ kg_ => castTop (own_ef_g_toR m a) kg_) ?_
  show own_Gl p e below _ (s₁.setTop (mkF m 0 #[.val (.ref a)] []))
  refine own_st (fun tg_ kg_ => XS.aloadN X0.here hx rfl (hb hby own_d_prog_31_method_7_code_0) rfl rfl kg_) ?_
  show own_Gl p e below _ (s₁.setTop (mkF m 1 #[.val (.ref a)] [(.ref a)]))
  obtain ⟨T1, X1, e1, st1⟩ := getF X0 hx hZ hown (host := "") (Or.inl (hw _ (List.mem_of_getElem? (i := 60) rfl))) Via.refl e0 F (g := (mkF m 1 #[.val (.ref a)] [(.ref a)])) rfl rfl (hb hby own_d_prog_31_method_7_code_1)
  refine own_st st1 ?_
  try clear st1
  show own_Gl p e below _ (T1.setTop (mkF m 4 #[.val (.ref a)] [(.ref x)]))
  exact own_retA X1 hx Bd.notSynchronized Bd.returns rfl rfl (hb hby own_d_prog_31_method_7_code_4) (by decide) (by decide) e1 (⟨rfl, N0, rfl⟩)
theorem own_d_prog_31_method_8_code_0 : decode prog_31_method_8_code 0 = .ok (.aload_n 0, 1) := by decide +kernel
theorem own_d_prog_31_method_8_code_1 : decode prog_31_method_8_code 1 = .ok (.getfield 26, 3) := by decide +kernel
theorem own_d_prog_31_method_8_code_4 : decode prog_31_method_8_code 4 = .ok (.lreturn, 1) := by decide +kernel
theorem own_ef_g_groupId (m : MethodId) (x0 : Addr) : entryFrame m #[(.ref x0)] 1 = mkF m 0 #[.val (.ref x0)] [] := by first | (simp [entryFrame, mkF, argsToLocals, Value.category]; done) | rfl
def own_Q_g_groupId (Z : State) (a : Addr) (x : Int64) (h0 : Heap) (n0 : Nat) (v : Option Value) (h : Heap) (L : List Loc) : Prop := v = some (.long x) ∧ Fr n0 L ∧ h = h0
set_option maxRecDepth 65536 in
set_option maxHeartbeats 40000000 in
theorem own_rm_g_groupId (l : Launch) (Z : State) (a0 : Array Value) (hw : ∀ d ∈ tables_1, d.before a0 Z = true) (ws : List Jvm.Cond) (a : Addr) (x : Int64) (h0 : Heap) (n0 : Nat) (Z0 : n0 ≤ h0.size) (F : Fld Z h0 a "com/example/highwater/highwater/store/StoredMessage" "groupId" "J" (.long x)) :
    MetFree l (⟨"com/example/highwater/highwater/store/StoredMessage", "groupId", "()J"⟩ : MethodName) (head1 (Jvm.Cond.code (⟨"com/example/highwater/highwater/store/StoredMessage", "groupId", "()J"⟩ : MethodName) prog_31_method_8_code 1 (some .long) :: ws) ({ frames := 0, cells := 0, slots := 0, locals := 0 } : Room)) (fun aa UU => aa = #[(.ref a)] ∧ Z.Warmed39 UU.vm ∧ UU.heap = h0) (fun _ _ _ _ _ => True) (fun _ UU oo UU' => ∃ vv LL, oo = .returned vv ∧ own_Q_g_groupId Z a x h0 n0 vv UU'.heap LL ∧ FrameEnd UU oo UU' LL ({ frames := 0, cells := 0, slots := 0, locals := 0 } : Room).cells ({ frames := 0, cells := 0, slots := 0, locals := 0 } : Room).slots) := by
  refine MetFree.of_bodySF (plainFor_of_name own_pn2) hisR ?_
  intro p e s m args below meth c s₁ Bd hml0 hP hK
  obtain ⟨rfl, hZ, hh⟩ := hP
  have hx := Bd.exec
  have hby := Bd.bytes
  have hml : c.maxLocals = 1 := hml0
  have hown : s.vm.findClass "com/example/highwater/highwater/store/StoredMessage" = some m.cls := findClass_of_methodNamed Bd.named
  have hnm := (name_of_methodNamed Bd.named Bd.method).1
  have X0 : Stand p l e ({ frames := 0, cells := 0, slots := 0, locals := 0 } : Room) s m #[(.ref a)] below meth c s₁ [] 0 0 := Stand.of_body Bd
  have e0 : s₁.heap = h0 := by rw [← hh, Bd.state]; rfl
  have N0 := Fr.nil n0
  show own_Gl p e below (own_Post s (own_Q_g_groupId Z a x h0 n0) ({ frames := 0, cells := 0, slots := 0, locals := 0 } : Room).cells ({ frames := 0, cells := 0, slots := 0, locals := 0 } : Room).slots) _
  refine own_st (fun tg_ kg_ => castTop (own_ef_g_groupId m a) kg_) ?_
  show own_Gl p e below _ (s₁.setTop (mkF m 0 #[.val (.ref a)] []))
  refine own_st (fun tg_ kg_ => XS.aloadN X0.here hx rfl (hb hby own_d_prog_31_method_8_code_0) rfl rfl kg_) ?_
  show own_Gl p e below _ (s₁.setTop (mkF m 1 #[.val (.ref a)] [(.ref a)]))
  obtain ⟨T1, X1, e1, st1⟩ := getF X0 hx hZ hown (host := "") (Or.inl (hw _ (List.mem_of_getElem? (i := 62) rfl))) Via.refl e0 F (g := (mkF m 1 #[.val (.ref a)] [(.ref a)])) rfl rfl (hb hby own_d_prog_31_method_8_code_1)
  refine own_st st1 ?_
  try clear st1
  show own_Gl p e below _ (T1.setTop (mkF m 4 #[.val (.ref a)] [(.long x)]))
  exact own_retL X1 hx Bd.notSynchronized Bd.returns (hb hby own_d_prog_31_method_8_code_4) (by decide) (by decide) e1 (⟨rfl, N0, rfl⟩)
theorem own_d_prog_31_method_9_code_0 : decode prog_31_method_9_code 0 = .ok (.aload_n 0, 1) := by decide +kernel
theorem own_d_prog_31_method_9_code_1 : decode prog_31_method_9_code 1 = .ok (.getfield 29, 3) := by decide +kernel
theorem own_d_prog_31_method_9_code_4 : decode prog_31_method_9_code 4 = .ok (.areturn, 1) := by decide +kernel
theorem own_ef_g_clientMsgIdR (m : MethodId) (x0 : Addr) : entryFrame m #[(.ref x0)] 1 = mkF m 0 #[.val (.ref x0)] [] := by first | (simp [entryFrame, mkF, argsToLocals, Value.category]; done) | rfl
def own_Q_g_clientMsgIdR (Z : State) (a x : Addr) (h0 : Heap) (n0 : Nat) (v : Option Value) (h : Heap) (L : List Loc) : Prop := v = some (.ref x) ∧ Fr n0 L ∧ h = h0
set_option maxRecDepth 65536 in
set_option maxHeartbeats 40000000 in
theorem own_rm_g_clientMsgIdR (l : Launch) (Z : State) (a0 : Array Value) (hw : ∀ d ∈ tables_1, d.before a0 Z = true) (ws : List Jvm.Cond) (a x : Addr) (h0 : Heap) (n0 : Nat) (Z0 : n0 ≤ h0.size) (F : Fld Z h0 a "com/example/highwater/highwater/store/StoredMessage" "clientMsgId" "Ljava/lang/String;" (.ref x)) :
    MetFree l (⟨"com/example/highwater/highwater/store/StoredMessage", "clientMsgId", "()Ljava/lang/String;"⟩ : MethodName) (head1 (Jvm.Cond.code (⟨"com/example/highwater/highwater/store/StoredMessage", "clientMsgId", "()Ljava/lang/String;"⟩ : MethodName) prog_31_method_9_code 1 (some (.object "java/lang/String")) :: ws) ({ frames := 0, cells := 0, slots := 0, locals := 0 } : Room)) (fun aa UU => aa = #[(.ref a)] ∧ Z.Warmed39 UU.vm ∧ UU.heap = h0) (fun _ _ _ _ _ => True) (fun _ UU oo UU' => ∃ vv LL, oo = .returned vv ∧ own_Q_g_clientMsgIdR Z a x h0 n0 vv UU'.heap LL ∧ FrameEnd UU oo UU' LL ({ frames := 0, cells := 0, slots := 0, locals := 0 } : Room).cells ({ frames := 0, cells := 0, slots := 0, locals := 0 } : Room).slots) := by
  refine MetFree.of_bodySF (plainFor_of_name own_pn2) hisR ?_
  intro p e s m args below meth c s₁ Bd hml0 hP hK
  obtain ⟨rfl, hZ, hh⟩ := hP
  have hx := Bd.exec
  have hby := Bd.bytes
  have hml : c.maxLocals = 1 := hml0
  have hown : s.vm.findClass "com/example/highwater/highwater/store/StoredMessage" = some m.cls := findClass_of_methodNamed Bd.named
  have hnm := (name_of_methodNamed Bd.named Bd.method).1
  have X0 : Stand p l e ({ frames := 0, cells := 0, slots := 0, locals := 0 } : Room) s m #[(.ref a)] below meth c s₁ [] 0 0 := Stand.of_body Bd
  have e0 : s₁.heap = h0 := by rw [← hh, Bd.state]; rfl
  have N0 := Fr.nil n0
  show own_Gl p e below (own_Post s (own_Q_g_clientMsgIdR Z a x h0 n0) ({ frames := 0, cells := 0, slots := 0, locals := 0 } : Room).cells ({ frames := 0, cells := 0, slots := 0, locals := 0 } : Room).slots) _
  refine own_st (fun tg_ kg_ => castTop (own_ef_g_clientMsgIdR m a) kg_) ?_
  show own_Gl p e below _ (s₁.setTop (mkF m 0 #[.val (.ref a)] []))
  refine own_st (fun tg_ kg_ => XS.aloadN X0.here hx rfl (hb hby own_d_prog_31_method_9_code_0) rfl rfl kg_) ?_
  show own_Gl p e below _ (s₁.setTop (mkF m 1 #[.val (.ref a)] [(.ref a)]))
  obtain ⟨T1, X1, e1, st1⟩ := getF X0 hx hZ hown (host := "") (Or.inl (hw _ (List.mem_of_getElem? (i := 64) rfl))) Via.refl e0 F (g := (mkF m 1 #[.val (.ref a)] [(.ref a)])) rfl rfl (hb hby own_d_prog_31_method_9_code_1)
  refine own_st st1 ?_
  try clear st1
  show own_Gl p e below _ (T1.setTop (mkF m 4 #[.val (.ref a)] [(.ref x)]))
  exact own_retA X1 hx Bd.notSynchronized Bd.returns rfl rfl (hb hby own_d_prog_31_method_9_code_4) (by decide) (by decide) e1 (⟨rfl, N0, rfl⟩)
theorem own_d_prog_31_method_10_code_0 : decode prog_31_method_10_code 0 = .ok (.aload_n 0, 1) := by decide +kernel
theorem own_d_prog_31_method_10_code_1 : decode prog_31_method_10_code 1 = .ok (.getfield 32, 3) := by decide +kernel
theorem own_d_prog_31_method_10_code_4 : decode prog_31_method_10_code 4 = .ok (.areturn, 1) := by decide +kernel
theorem own_ef_g_bodyR (m : MethodId) (x0 : Addr) : entryFrame m #[(.ref x0)] 1 = mkF m 0 #[.val (.ref x0)] [] := by first | (simp [entryFrame, mkF, argsToLocals, Value.category]; done) | rfl
def own_Q_g_bodyR (Z : State) (a x : Addr) (h0 : Heap) (n0 : Nat) (v : Option Value) (h : Heap) (L : List Loc) : Prop := v = some (.ref x) ∧ Fr n0 L ∧ h = h0
set_option maxRecDepth 65536 in
set_option maxHeartbeats 40000000 in
theorem own_rm_g_bodyR (l : Launch) (Z : State) (a0 : Array Value) (hw : ∀ d ∈ tables_1, d.before a0 Z = true) (ws : List Jvm.Cond) (a x : Addr) (h0 : Heap) (n0 : Nat) (Z0 : n0 ≤ h0.size) (F : Fld Z h0 a "com/example/highwater/highwater/store/StoredMessage" "body" "Ljava/lang/String;" (.ref x)) :
    MetFree l (⟨"com/example/highwater/highwater/store/StoredMessage", "body", "()Ljava/lang/String;"⟩ : MethodName) (head1 (Jvm.Cond.code (⟨"com/example/highwater/highwater/store/StoredMessage", "body", "()Ljava/lang/String;"⟩ : MethodName) prog_31_method_10_code 1 (some (.object "java/lang/String")) :: ws) ({ frames := 0, cells := 0, slots := 0, locals := 0 } : Room)) (fun aa UU => aa = #[(.ref a)] ∧ Z.Warmed39 UU.vm ∧ UU.heap = h0) (fun _ _ _ _ _ => True) (fun _ UU oo UU' => ∃ vv LL, oo = .returned vv ∧ own_Q_g_bodyR Z a x h0 n0 vv UU'.heap LL ∧ FrameEnd UU oo UU' LL ({ frames := 0, cells := 0, slots := 0, locals := 0 } : Room).cells ({ frames := 0, cells := 0, slots := 0, locals := 0 } : Room).slots) := by
  refine MetFree.of_bodySF (plainFor_of_name own_pn2) hisR ?_
  intro p e s m args below meth c s₁ Bd hml0 hP hK
  obtain ⟨rfl, hZ, hh⟩ := hP
  have hx := Bd.exec
  have hby := Bd.bytes
  have hml : c.maxLocals = 1 := hml0
  have hown : s.vm.findClass "com/example/highwater/highwater/store/StoredMessage" = some m.cls := findClass_of_methodNamed Bd.named
  have hnm := (name_of_methodNamed Bd.named Bd.method).1
  have X0 : Stand p l e ({ frames := 0, cells := 0, slots := 0, locals := 0 } : Room) s m #[(.ref a)] below meth c s₁ [] 0 0 := Stand.of_body Bd
  have e0 : s₁.heap = h0 := by rw [← hh, Bd.state]; rfl
  have N0 := Fr.nil n0
  show own_Gl p e below (own_Post s (own_Q_g_bodyR Z a x h0 n0) ({ frames := 0, cells := 0, slots := 0, locals := 0 } : Room).cells ({ frames := 0, cells := 0, slots := 0, locals := 0 } : Room).slots) _
  refine own_st (fun tg_ kg_ => castTop (own_ef_g_bodyR m a) kg_) ?_
  show own_Gl p e below _ (s₁.setTop (mkF m 0 #[.val (.ref a)] []))
  refine own_st (fun tg_ kg_ => XS.aloadN X0.here hx rfl (hb hby own_d_prog_31_method_10_code_0) rfl rfl kg_) ?_
  show own_Gl p e below _ (s₁.setTop (mkF m 1 #[.val (.ref a)] [(.ref a)]))
  obtain ⟨T1, X1, e1, st1⟩ := getF X0 hx hZ hown (host := "") (Or.inl (hw _ (List.mem_of_getElem? (i := 66) rfl))) Via.refl e0 F (g := (mkF m 1 #[.val (.ref a)] [(.ref a)])) rfl rfl (hb hby own_d_prog_31_method_10_code_1)
  refine own_st st1 ?_
  try clear st1
  show own_Gl p e below _ (T1.setTop (mkF m 4 #[.val (.ref a)] [(.ref x)]))
  exact own_retA X1 hx Bd.notSynchronized Bd.returns rfl rfl (hb hby own_d_prog_31_method_10_code_4) (by decide) (by decide) e1 (⟨rfl, N0, rfl⟩)
theorem own_d_prog_31_method_11_code_0 : decode prog_31_method_11_code 0 = .ok (.aload_n 0, 1) := by decide +kernel
theorem own_d_prog_31_method_11_code_1 : decode prog_31_method_11_code 1 = .ok (.getfield 35, 3) := by decide +kernel
theorem own_d_prog_31_method_11_code_4 : decode prog_31_method_11_code 4 = .ok (.lreturn, 1) := by decide +kernel
theorem own_ef_g_ts (m : MethodId) (x0 : Addr) : entryFrame m #[(.ref x0)] 1 = mkF m 0 #[.val (.ref x0)] [] := by first | (simp [entryFrame, mkF, argsToLocals, Value.category]; done) | rfl
def own_Q_g_ts (Z : State) (a : Addr) (x : Int64) (h0 : Heap) (n0 : Nat) (v : Option Value) (h : Heap) (L : List Loc) : Prop := v = some (.long x) ∧ Fr n0 L ∧ h = h0
set_option maxRecDepth 65536 in
set_option maxHeartbeats 40000000 in
theorem own_rm_g_ts (l : Launch) (Z : State) (a0 : Array Value) (hw : ∀ d ∈ tables_1, d.before a0 Z = true) (ws : List Jvm.Cond) (a : Addr) (x : Int64) (h0 : Heap) (n0 : Nat) (Z0 : n0 ≤ h0.size) (F : Fld Z h0 a "com/example/highwater/highwater/store/StoredMessage" "ts" "J" (.long x)) :
    MetFree l (⟨"com/example/highwater/highwater/store/StoredMessage", "ts", "()J"⟩ : MethodName) (head1 (Jvm.Cond.code (⟨"com/example/highwater/highwater/store/StoredMessage", "ts", "()J"⟩ : MethodName) prog_31_method_11_code 1 (some .long) :: ws) ({ frames := 0, cells := 0, slots := 0, locals := 0 } : Room)) (fun aa UU => aa = #[(.ref a)] ∧ Z.Warmed39 UU.vm ∧ UU.heap = h0) (fun _ _ _ _ _ => True) (fun _ UU oo UU' => ∃ vv LL, oo = .returned vv ∧ own_Q_g_ts Z a x h0 n0 vv UU'.heap LL ∧ FrameEnd UU oo UU' LL ({ frames := 0, cells := 0, slots := 0, locals := 0 } : Room).cells ({ frames := 0, cells := 0, slots := 0, locals := 0 } : Room).slots) := by
  refine MetFree.of_bodySF (plainFor_of_name own_pn2) hisR ?_
  intro p e s m args below meth c s₁ Bd hml0 hP hK
  obtain ⟨rfl, hZ, hh⟩ := hP
  have hx := Bd.exec
  have hby := Bd.bytes
  have hml : c.maxLocals = 1 := hml0
  have hown : s.vm.findClass "com/example/highwater/highwater/store/StoredMessage" = some m.cls := findClass_of_methodNamed Bd.named
  have hnm := (name_of_methodNamed Bd.named Bd.method).1
  have X0 : Stand p l e ({ frames := 0, cells := 0, slots := 0, locals := 0 } : Room) s m #[(.ref a)] below meth c s₁ [] 0 0 := Stand.of_body Bd
  have e0 : s₁.heap = h0 := by rw [← hh, Bd.state]; rfl
  have N0 := Fr.nil n0
  show own_Gl p e below (own_Post s (own_Q_g_ts Z a x h0 n0) ({ frames := 0, cells := 0, slots := 0, locals := 0 } : Room).cells ({ frames := 0, cells := 0, slots := 0, locals := 0 } : Room).slots) _
  refine own_st (fun tg_ kg_ => castTop (own_ef_g_ts m a) kg_) ?_
  show own_Gl p e below _ (s₁.setTop (mkF m 0 #[.val (.ref a)] []))
  refine own_st (fun tg_ kg_ => XS.aloadN X0.here hx rfl (hb hby own_d_prog_31_method_11_code_0) rfl rfl kg_) ?_
  show own_Gl p e below _ (s₁.setTop (mkF m 1 #[.val (.ref a)] [(.ref a)]))
  obtain ⟨T1, X1, e1, st1⟩ := getF X0 hx hZ hown (host := "") (Or.inl (hw _ (List.mem_of_getElem? (i := 68) rfl))) Via.refl e0 F (g := (mkF m 1 #[.val (.ref a)] [(.ref a)])) rfl rfl (hb hby own_d_prog_31_method_11_code_1)
  refine own_st st1 ?_
  try clear st1
  show own_Gl p e below _ (T1.setTop (mkF m 4 #[.val (.ref a)] [(.long x)]))
  exact own_retL X1 hx Bd.notSynchronized Bd.returns (hb hby own_d_prog_31_method_11_code_4) (by decide) (by decide) e1 (⟨rfl, N0, rfl⟩)
theorem own_d_prog_31_method_12_code_0 : decode prog_31_method_12_code 0 = .ok (.aload_n 0, 1) := by decide +kernel
theorem own_d_prog_31_method_12_code_1 : decode prog_31_method_12_code 1 = .ok (.getfield 38, 3) := by decide +kernel
theorem own_d_prog_31_method_12_code_4 : decode prog_31_method_12_code 4 = .ok (.ireturn, 1) := by decide +kernel
theorem own_ef_g_revoked (m : MethodId) (x0 : Addr) : entryFrame m #[(.ref x0)] 1 = mkF m 0 #[.val (.ref x0)] [] := by first | (simp [entryFrame, mkF, argsToLocals, Value.category]; done) | rfl
def own_Q_g_revoked (Z : State) (a : Addr) (x : Int32) (h0 : Heap) (n0 : Nat) (v : Option Value) (h : Heap) (L : List Loc) : Prop := v = some (.int (nar .boolean x)) ∧ Fr n0 L ∧ h = h0
set_option maxRecDepth 65536 in
set_option maxHeartbeats 40000000 in
theorem own_rm_g_revoked (l : Launch) (Z : State) (a0 : Array Value) (hw : ∀ d ∈ tables_1, d.before a0 Z = true) (ws : List Jvm.Cond) (a : Addr) (x : Int32) (h0 : Heap) (n0 : Nat) (Z0 : n0 ≤ h0.size) (F : Fld Z h0 a "com/example/highwater/highwater/store/StoredMessage" "revoked" "Z" (.int x)) :
    MetFree l (⟨"com/example/highwater/highwater/store/StoredMessage", "revoked", "()Z"⟩ : MethodName) (head1 (Jvm.Cond.code (⟨"com/example/highwater/highwater/store/StoredMessage", "revoked", "()Z"⟩ : MethodName) prog_31_method_12_code 1 (some .boolean) :: ws) ({ frames := 0, cells := 0, slots := 0, locals := 0 } : Room)) (fun aa UU => aa = #[(.ref a)] ∧ Z.Warmed39 UU.vm ∧ UU.heap = h0) (fun _ _ _ _ _ => True) (fun _ UU oo UU' => ∃ vv LL, oo = .returned vv ∧ own_Q_g_revoked Z a x h0 n0 vv UU'.heap LL ∧ FrameEnd UU oo UU' LL ({ frames := 0, cells := 0, slots := 0, locals := 0 } : Room).cells ({ frames := 0, cells := 0, slots := 0, locals := 0 } : Room).slots) := by
  refine MetFree.of_bodySF (plainFor_of_name own_pn2) hisR ?_
  intro p e s m args below meth c s₁ Bd hml0 hP hK
  obtain ⟨rfl, hZ, hh⟩ := hP
  have hx := Bd.exec
  have hby := Bd.bytes
  have hml : c.maxLocals = 1 := hml0
  have hown : s.vm.findClass "com/example/highwater/highwater/store/StoredMessage" = some m.cls := findClass_of_methodNamed Bd.named
  have hnm := (name_of_methodNamed Bd.named Bd.method).1
  have X0 : Stand p l e ({ frames := 0, cells := 0, slots := 0, locals := 0 } : Room) s m #[(.ref a)] below meth c s₁ [] 0 0 := Stand.of_body Bd
  have e0 : s₁.heap = h0 := by rw [← hh, Bd.state]; rfl
  have N0 := Fr.nil n0
  show own_Gl p e below (own_Post s (own_Q_g_revoked Z a x h0 n0) ({ frames := 0, cells := 0, slots := 0, locals := 0 } : Room).cells ({ frames := 0, cells := 0, slots := 0, locals := 0 } : Room).slots) _
  refine own_st (fun tg_ kg_ => castTop (own_ef_g_revoked m a) kg_) ?_
  show own_Gl p e below _ (s₁.setTop (mkF m 0 #[.val (.ref a)] []))
  refine own_st (fun tg_ kg_ => XS.aloadN X0.here hx rfl (hb hby own_d_prog_31_method_12_code_0) rfl rfl kg_) ?_
  show own_Gl p e below _ (s₁.setTop (mkF m 1 #[.val (.ref a)] [(.ref a)]))
  obtain ⟨T1, X1, e1, st1⟩ := getF X0 hx hZ hown (host := "") (Or.inl (hw _ (List.mem_of_getElem? (i := 70) rfl))) Via.refl e0 F (g := (mkF m 1 #[.val (.ref a)] [(.ref a)])) rfl rfl (hb hby own_d_prog_31_method_12_code_1)
  refine own_st st1 ?_
  try clear st1
  show own_Gl p e below _ (T1.setTop (mkF m 4 #[.val (.ref a)] [(.int x)]))
  exact own_retN X1 hx Bd.notSynchronized (t := .boolean) Bd.returns (by simp) (hb hby own_d_prog_31_method_12_code_4) (by decide) (by decide) e1 (⟨rfl, N0, rfl⟩)
theorem own_d_prog_31_method_13_code_0 : decode prog_31_method_13_code 0 = .ok (.aload_n 0, 1) := by decide +kernel
theorem own_d_prog_31_method_13_code_1 : decode prog_31_method_13_code 1 = .ok (.getfield 42, 3) := by decide +kernel
theorem own_d_prog_31_method_13_code_4 : decode prog_31_method_13_code 4 = .ok (.lreturn, 1) := by decide +kernel
theorem own_ef_g_revokedTs (m : MethodId) (x0 : Addr) : entryFrame m #[(.ref x0)] 1 = mkF m 0 #[.val (.ref x0)] [] := by first | (simp [entryFrame, mkF, argsToLocals, Value.category]; done) | rfl
def own_Q_g_revokedTs (Z : State) (a : Addr) (x : Int64) (h0 : Heap) (n0 : Nat) (v : Option Value) (h : Heap) (L : List Loc) : Prop := v = some (.long x) ∧ Fr n0 L ∧ h = h0
set_option maxRecDepth 65536 in
set_option maxHeartbeats 40000000 in
theorem own_rm_g_revokedTs (l : Launch) (Z : State) (a0 : Array Value) (hw : ∀ d ∈ tables_1, d.before a0 Z = true) (ws : List Jvm.Cond) (a : Addr) (x : Int64) (h0 : Heap) (n0 : Nat) (Z0 : n0 ≤ h0.size) (F : Fld Z h0 a "com/example/highwater/highwater/store/StoredMessage" "revokedTs" "J" (.long x)) :
    MetFree l (⟨"com/example/highwater/highwater/store/StoredMessage", "revokedTs", "()J"⟩ : MethodName) (head1 (Jvm.Cond.code (⟨"com/example/highwater/highwater/store/StoredMessage", "revokedTs", "()J"⟩ : MethodName) prog_31_method_13_code 1 (some .long) :: ws) ({ frames := 0, cells := 0, slots := 0, locals := 0 } : Room)) (fun aa UU => aa = #[(.ref a)] ∧ Z.Warmed39 UU.vm ∧ UU.heap = h0) (fun _ _ _ _ _ => True) (fun _ UU oo UU' => ∃ vv LL, oo = .returned vv ∧ own_Q_g_revokedTs Z a x h0 n0 vv UU'.heap LL ∧ FrameEnd UU oo UU' LL ({ frames := 0, cells := 0, slots := 0, locals := 0 } : Room).cells ({ frames := 0, cells := 0, slots := 0, locals := 0 } : Room).slots) := by
  refine MetFree.of_bodySF (plainFor_of_name own_pn2) hisR ?_
  intro p e s m args below meth c s₁ Bd hml0 hP hK
  obtain ⟨rfl, hZ, hh⟩ := hP
  have hx := Bd.exec
  have hby := Bd.bytes
  have hml : c.maxLocals = 1 := hml0
  have hown : s.vm.findClass "com/example/highwater/highwater/store/StoredMessage" = some m.cls := findClass_of_methodNamed Bd.named
  have hnm := (name_of_methodNamed Bd.named Bd.method).1
  have X0 : Stand p l e ({ frames := 0, cells := 0, slots := 0, locals := 0 } : Room) s m #[(.ref a)] below meth c s₁ [] 0 0 := Stand.of_body Bd
  have e0 : s₁.heap = h0 := by rw [← hh, Bd.state]; rfl
  have N0 := Fr.nil n0
  show own_Gl p e below (own_Post s (own_Q_g_revokedTs Z a x h0 n0) ({ frames := 0, cells := 0, slots := 0, locals := 0 } : Room).cells ({ frames := 0, cells := 0, slots := 0, locals := 0 } : Room).slots) _
  refine own_st (fun tg_ kg_ => castTop (own_ef_g_revokedTs m a) kg_) ?_
  show own_Gl p e below _ (s₁.setTop (mkF m 0 #[.val (.ref a)] []))
  refine own_st (fun tg_ kg_ => XS.aloadN X0.here hx rfl (hb hby own_d_prog_31_method_13_code_0) rfl rfl kg_) ?_
  show own_Gl p e below _ (s₁.setTop (mkF m 1 #[.val (.ref a)] [(.ref a)]))
  obtain ⟨T1, X1, e1, st1⟩ := getF X0 hx hZ hown (host := "") (Or.inl (hw _ (List.mem_of_getElem? (i := 72) rfl))) Via.refl e0 F (g := (mkF m 1 #[.val (.ref a)] [(.ref a)])) rfl rfl (hb hby own_d_prog_31_method_13_code_1)
  refine own_st st1 ?_
  try clear st1
  show own_Gl p e below _ (T1.setTop (mkF m 4 #[.val (.ref a)] [(.long x)]))
  exact own_retL X1 hx Bd.notSynchronized Bd.returns (hb hby own_d_prog_31_method_13_code_4) (by decide) (by decide) e1 (⟨rfl, N0, rfl⟩)
theorem own_d_jdk_42_method_66_code_0 : decode jdk_42_method_66_code 0 = .ok (.aload_n 0, 1) := by decide +kernel
theorem own_d_jdk_42_method_66_code_1 : decode jdk_42_method_66_code 1 = .ok (.aload_n 1, 1) := by decide +kernel
theorem own_d_jdk_42_method_66_code_2 : decode jdk_42_method_66_code 2 = .ok (.if_acmp .ne 5, 3) := by decide +kernel
theorem own_d_jdk_42_method_66_code_5 : decode jdk_42_method_66_code 5 = .ok (.iconst 1, 1) := by decide +kernel
theorem own_d_jdk_42_method_66_code_6 : decode jdk_42_method_66_code 6 = .ok (.ireturn, 1) := by decide +kernel
theorem own_ef_eqs (m : MethodId) (x0 : Addr) (x1 : Addr) : entryFrame m #[(.ref x0), (.ref x1)] 3 = mkF m 0 #[.val (.ref x0), .val (.ref x1), .unset] [] := by first | (simp [entryFrame, mkF, argsToLocals, Value.category]; done) | rfl
def own_Q_eqs (Z : State) (x : Addr) (h0 : Heap) (n0 : Nat) (v : Option Value) (h : Heap) (L : List Loc) : Prop := v = some (.int 1) ∧ Fr n0 L ∧ h = h0
set_option maxRecDepth 65536 in
set_option maxHeartbeats 40000000 in
theorem own_rm_eqs (l : Launch) (Z : State) (a0 : Array Value) (hw : ∀ d ∈ tables_1, d.before a0 Z = true) (ws : List Jvm.Cond) (x : Addr) (h0 : Heap) (n0 : Nat) (Z0 : n0 ≤ h0.size)  :
    MetFree l (⟨"java/lang/String", "equals", "(Ljava/lang/Object;)Z"⟩ : MethodName) (head1 (Jvm.Cond.code (⟨"java/lang/String", "equals", "(Ljava/lang/Object;)Z"⟩ : MethodName) jdk_42_method_66_code 3 (some .boolean) :: ws) ({ frames := 0, cells := 0, slots := 0, locals := 0 } : Room)) (fun aa UU => aa = #[(.ref x), (.ref x)] ∧ Z.Warmed39 UU.vm ∧ UU.heap = h0) (fun _ _ _ _ _ => True) (fun _ UU oo UU' => ∃ vv LL, oo = .returned vv ∧ own_Q_eqs Z x h0 n0 vv UU'.heap LL ∧ FrameEnd UU oo UU' LL ({ frames := 0, cells := 0, slots := 0, locals := 0 } : Room).cells ({ frames := 0, cells := 0, slots := 0, locals := 0 } : Room).slots) := by
  refine MetFree.of_bodySF (plainFor_of_name own_pn1) hisR ?_
  intro p e s m args below meth c s₁ Bd hml0 hP hK
  obtain ⟨rfl, hZ, hh⟩ := hP
  have hx := Bd.exec
  have hby := Bd.bytes
  have hml : c.maxLocals = 3 := hml0
  have hown : s.vm.findClass "java/lang/String" = some m.cls := findClass_of_methodNamed Bd.named
  have hnm := (name_of_methodNamed Bd.named Bd.method).1
  have X0 : Stand p l e ({ frames := 0, cells := 0, slots := 0, locals := 0 } : Room) s m #[(.ref x), (.ref x)] below meth c s₁ [] 0 0 := Stand.of_body Bd
  have e0 : s₁.heap = h0 := by rw [← hh, Bd.state]; rfl
  have N0 := Fr.nil n0
  show own_Gl p e below (own_Post s (own_Q_eqs Z x h0 n0) ({ frames := 0, cells := 0, slots := 0, locals := 0 } : Room).cells ({ frames := 0, cells := 0, slots := 0, locals := 0 } : Room).slots) _
  refine own_st (fun tg_ kg_ => castTop (own_ef_eqs m x x) kg_) ?_
  show own_Gl p e below _ (s₁.setTop (mkF m 0 #[.val (.ref x), .val (.ref x), .unset] []))
  refine own_st (fun tg_ kg_ => XS.aloadN X0.here hx rfl (hb hby own_d_jdk_42_method_66_code_0) rfl rfl kg_) ?_
  show own_Gl p e below _ (s₁.setTop (mkF m 1 #[.val (.ref x), .val (.ref x), .unset] [(.ref x)]))
  refine own_st (fun tg_ kg_ => XS.aloadN X0.here hx rfl (hb hby own_d_jdk_42_method_66_code_1) rfl rfl kg_) ?_
  show own_Gl p e below _ (s₁.setTop (mkF m 2 #[.val (.ref x), .val (.ref x), .unset] [(.ref x), (.ref x)]))
  refine own_st (fun tg_ kg_ => Jvm.RoadKit.acmp (g := (mkF m 2 #[.val (.ref x), .val (.ref x), .unset] [(.ref x), (.ref x)])) X0 hx rfl rfl rfl (pc0 := 2) (pc' := 5) (same := true) rfl (hb hby own_d_jdk_42_method_66_code_2) rfl (decide_eq_true (rfl)) (by decide) (by decide) kg_) ?_
  show own_Gl p e below _ (s₁.setTop (mkF m 5 #[.val (.ref x), .val (.ref x), .unset] []))
  refine own_st (fun tg_ kg_ => XS.iconst X0.here hx rfl (hb hby own_d_jdk_42_method_66_code_5) kg_) ?_
  show own_Gl p e below _ (s₁.setTop (mkF m 6 #[.val (.ref x), .val (.ref x), .unset] [(.int (1 : Int32))]))
  exact own_retN X0 hx Bd.notSynchronized (t := .boolean) Bd.returns (by simp) (hb hby own_d_jdk_42_method_66_code_6) (by decide) (by decide) e0 (⟨rfl, N0, rfl⟩)
theorem own_d_jdk_42_method_55_code_0 : decode jdk_42_method_55_code 0 = .ok (.aload_n 0, 1) := by decide +kernel
theorem own_d_jdk_42_method_55_code_1 : decode jdk_42_method_55_code 1 = .ok (.getfield 9, 3) := by decide +kernel
theorem own_d_jdk_42_method_55_code_4 : decode jdk_42_method_55_code 4 = .ok (.arraylength, 1) := by decide +kernel
theorem own_d_jdk_42_method_55_code_5 : decode jdk_42_method_55_code 5 = .ok (.ifCond .ne 7, 3) := by decide +kernel
theorem own_d_jdk_42_method_55_code_8 : decode jdk_42_method_55_code 8 = .ok (.iconst 1, 1) := by decide +kernel
theorem own_d_jdk_42_method_55_code_9 : decode jdk_42_method_55_code 9 = .ok (.goto 4, 3) := by decide +kernel
theorem own_d_jdk_42_method_55_code_13 : decode jdk_42_method_55_code 13 = .ok (.ireturn, 1) := by decide +kernel
theorem own_ef_emp (m : MethodId) (x0 : Addr) : entryFrame m #[(.ref x0)] 1 = mkF m 0 #[.val (.ref x0)] [] := by first | (simp [entryFrame, mkF, argsToLocals, Value.category]; done) | rfl
def own_Q_emp (Z : State) (x t : Addr) (kt : ClassId) (h0 : Heap) (n0 : Nat) (v : Option Value) (h : Heap) (L : List Loc) : Prop := v = some (.int 1) ∧ Fr n0 L ∧ h = h0
set_option maxRecDepth 65536 in
set_option maxHeartbeats 40000000 in
theorem own_rm_emp (l : Launch) (Z : State) (a0 : Array Value) (hw : ∀ d ∈ tables_1, d.before a0 Z = true) (ws : List Jvm.Cond) (x t : Addr) (kt : ClassId) (h0 : Heap) (n0 : Nat) (Z0 : n0 ≤ h0.size) (F_v : Fld Z h0 x "java/lang/String" "value" "[B" (.ref t)) (V_t : Arv Z h0 t kt .byte (0 : Int32) [] (.int 0)) :
    MetFree l (⟨"java/lang/String", "isEmpty", "()Z"⟩ : MethodName) (head1 (Jvm.Cond.code (⟨"java/lang/String", "isEmpty", "()Z"⟩ : MethodName) jdk_42_method_55_code 1 (some .boolean) :: ws) ({ frames := 0, cells := 0, slots := 0, locals := 0 } : Room)) (fun aa UU => aa = #[(.ref x)] ∧ Z.Warmed39 UU.vm ∧ UU.heap = h0) (fun _ _ _ _ _ => True) (fun _ UU oo UU' => ∃ vv LL, oo = .returned vv ∧ own_Q_emp Z x t kt h0 n0 vv UU'.heap LL ∧ FrameEnd UU oo UU' LL ({ frames := 0, cells := 0, slots := 0, locals := 0 } : Room).cells ({ frames := 0, cells := 0, slots := 0, locals := 0 } : Room).slots) := by
  refine MetFree.of_bodySF (plainFor_of_name own_pn1) hisR ?_
  intro p e s m args below meth c s₁ Bd hml0 hP hK
  obtain ⟨rfl, hZ, hh⟩ := hP
  have hx := Bd.exec
  have hby := Bd.bytes
  have hml : c.maxLocals = 1 := hml0
  have hown : s.vm.findClass "java/lang/String" = some m.cls := findClass_of_methodNamed Bd.named
  have hnm := (name_of_methodNamed Bd.named Bd.method).1
  have X0 : Stand p l e ({ frames := 0, cells := 0, slots := 0, locals := 0 } : Room) s m #[(.ref x)] below meth c s₁ [] 0 0 := Stand.of_body Bd
  have e0 : s₁.heap = h0 := by rw [← hh, Bd.state]; rfl
  have N0 := Fr.nil n0
  show own_Gl p e below (own_Post s (own_Q_emp Z x t kt h0 n0) ({ frames := 0, cells := 0, slots := 0, locals := 0 } : Room).cells ({ frames := 0, cells := 0, slots := 0, locals := 0 } : Room).slots) _
  refine own_st (fun tg_ kg_ => castTop (own_ef_emp m x) kg_) ?_
  show own_Gl p e below _ (s₁.setTop (mkF m 0 #[.val (.ref x)] []))
  refine own_st (fun tg_ kg_ => XS.aloadN X0.here hx rfl (hb hby own_d_jdk_42_method_55_code_0) rfl rfl kg_) ?_
  show own_Gl p e below _ (s₁.setTop (mkF m 1 #[.val (.ref x)] [(.ref x)]))
  obtain ⟨T1, X1, e1, st1⟩ := getF X0 hx hZ hown (host := "") (Or.inl (hw _ (List.mem_of_getElem? (i := 23) rfl))) Via.refl e0 F_v (g := (mkF m 1 #[.val (.ref x)] [(.ref x)])) rfl rfl (hb hby own_d_jdk_42_method_55_code_1)
  refine own_st st1 ?_
  try clear st1
  show own_Gl p e below _ (T1.setTop (mkF m 4 #[.val (.ref x)] [(.ref t)]))
  obtain ⟨cl2, Ar2, qa2, Sa2, Na2, Ha2, Ga2⟩ := id V_t
  refine own_st (fun tg_ kg_ => X1.arraylength hx (by rw [e1]; exact Ar2.1) (State.isArrayOf_alike hZ.alike Ar2.2.1) (g := (mkF m 4 #[.val (.ref x)] [(.ref t)])) rfl rfl (hb hby own_d_jdk_42_method_55_code_4) _ kg_) ?_
  rw [len_of Sa2 Na2]
  show own_Gl p e below _ (T1.setTop (mkF m 5 #[.val (.ref x)] [(.int (0 : Int32))]))
  refine own_st (fun tg_ kg_ => XS.ifNo X1.here hx rfl (hb hby own_d_jdk_42_method_55_code_5) rfl ((if0 _ _).trans (teq ((rfl : (0 : Int32) = (0 : Int32)))).2) kg_) ?_
  show own_Gl p e below _ (T1.setTop (mkF m 8 #[.val (.ref x)] []))
  refine own_st (fun tg_ kg_ => XS.iconst X1.here hx rfl (hb hby own_d_jdk_42_method_55_code_8) kg_) ?_
  show own_Gl p e below _ (T1.setTop (mkF m 9 #[.val (.ref x)] [(.int (1 : Int32))]))
  refine own_st (fun tg_ kg_ => XS.goto X1.here hx rfl (pc0 := 9) (pc' := 13) rfl (hb hby own_d_jdk_42_method_55_code_9) (by decide) (by decide) kg_) ?_
  show own_Gl p e below _ (T1.setTop (mkF m 13 #[.val (.ref x)] [(.int (1 : Int32))]))
  exact own_retN X1 hx Bd.notSynchronized (t := .boolean) Bd.returns (by simp) (hb hby own_d_jdk_42_method_55_code_13) (by decide) (by decide) e1 (⟨rfl, N0, rfl⟩)
theorem own_hws {Z : State} {a0 : Array Value} (hw : ∀ d ∈ tables_1, d.before a0 Z = true) : ∀ d ∈ StrChars.Road.words, d.before a0 Z = true := fun d hd => hw d ((by decide +kernel : ∀ d ∈ StrChars.Road.words, d ∈ tables_1) d hd)
theorem own_pd4 : parseMethodDescriptor "(C)Ljava/lang/String;" = some ⟨[.char], some (.object "java/lang/String")⟩ := by decide +kernel
theorem own_pd5 : parseMethodDescriptor "([C)V" = some ⟨[(.array .char)], none⟩ := by decide +kernel
theorem own_pd6 : parseMethodDescriptor "(J)Lcom/example/highwater/highwater/store/StoredMessage;" = some ⟨[.long], some (.object "com/example/highwater/highwater/store/StoredMessage")⟩ := by decide +kernel
theorem own_pd7 : parseMethodDescriptor "()Ljava/lang/String;" = some ⟨[], some (.object "java/lang/String")⟩ := by decide +kernel
theorem own_pd8 : parseMethodDescriptor "(Ljava/lang/Object;)Z" = some ⟨[(.object "java/lang/Object")], some .boolean⟩ := by decide +kernel
theorem own_pd9 : parseMethodDescriptor "()J" = some ⟨[], some .long⟩ := by decide +kernel
theorem own_pd10 : parseMethodDescriptor "()Z" = some ⟨[], some .boolean⟩ := by decide +kernel
theorem own_pn3 : plainName "com/example/highwater/highwater/store/StoredMessageRevokedAtPinLaw" = true := by first | (simp [plainName, overriddenIn]; done) | decide +kernel
theorem own_ef_law (m : MethodId) (x0 : Int64) (x1 : Int64) (x2 : Int64) (x3 : Int64) (x4 : Int64) (x5 : Int32) : entryFrame m #[(.long x0), (.long x1), (.long x2), (.long x3), (.long x4), (.int x5)] maxLocals = mkF m 0 #[.val (.long x0), .second, .val (.long x1), .second, .val (.long x2), .second, .val (.long x3), .second, .val (.long x4), .second, .val (.int x5), .unset, .unset, .unset, .unset, .unset, .unset, .unset, .unset, .unset, .unset, .unset, .unset, .unset, .unset, .unset, .unset, .unset, .unset, .unset] [] := by first | (simp [entryFrame, mkF, argsToLocals, Value.category, maxLocals]; done) | rfl
def own_Q_law (Z : State) (i0 i1 i2 i3 i4 : Int64) (i5 zc : Int32) (h0 : Heap) (n0 : Nat) (v : Option Value) (h : Heap) (L : List Loc) : Prop := v = some (.int 1) ∧ Fr n0 L
set_option maxRecDepth 65536 in
set_option maxHeartbeats 40000000 in
theorem own_rm_law (l : Launch) (Z : State) (a0 : Array Value) (hw : ∀ d ∈ tables_1, d.before a0 Z = true) (ws : List Jvm.Cond) (i0 i1 i2 i3 i4 : Int64) (i5 zc : Int32) (h0 : Heap) (n0 : Nat) (Z0 : n0 ≤ h0.size) (S_C : Sta Z h0 "java/lang/String" "COMPACT_STRINGS" "Z" (.int zc)) (hzc : ¬ zc = 0) :
    MetFree l x (head1 (Jvm.Cond.code x code maxLocals ret :: ws) room_1) (fun aa UU => aa = #[(.long i0), (.long i1), (.long i2), (.long i3), (.long i4), (.int i5)] ∧ Z.Warmed39 UU.vm ∧ UU.heap = h0 ∧ CHv Z own_EL UU.vm h0) (fun _ _ _ _ _ => True) (fun _ UU oo UU' => ∃ vv LL, oo = .returned vv ∧ own_Q_law Z i0 i1 i2 i3 i4 i5 zc h0 n0 vv UU'.heap LL ∧ ReturnedEndW UU oo UU' LL room_1.cells room_1.slots) := by
  refine MetFree.of_bodySF (plainFor_of_name own_pn3) hisR ?_
  intro p e s m args below meth c s₁ Bd hml0 hP hK
  obtain ⟨rfl, hZ, hh, hCH⟩ := hP
  have hx := Bd.exec
  have hby := Bd.bytes
  have hml : c.maxLocals = 30 := hml0
  have hown : s.vm.findClass "com/example/highwater/highwater/store/StoredMessageRevokedAtPinLaw" = some m.cls := findClass_of_methodNamed Bd.named
  have hnm := (name_of_methodNamed Bd.named Bd.method).1
  have X0 : Stand p l e room_1 (s.setVm s.vm) m #[(.long i0), (.long i1), (.long i2), (.long i3), (.long i4), (.int i5)] below meth c s₁ [] 0 0 := Stand.of_body Bd
  have e0 : s₁.heap = h0 := by rw [← hh, Bd.state]; rfl
  have N0 := Fr.nil n0
  have hZ : Z.Warmed39 (s.setVm s.vm).vm := hZ
  have hown : (s.setVm s.vm).vm.findClass "com/example/highwater/highwater/store/StoredMessageRevokedAtPinLaw" = some m.cls := hown
  have hS0 : s.Since s.vm 0 := (State.WarmedH.refl s).since 0
  have hEL : EW Z a0 own_EL := own_ew hw
  show own_Gl p e below (own_LPost s (own_Q_law Z i0 i1 i2 i3 i4 i5 zc h0 n0) room_1.cells room_1.slots) _
  refine own_st (fun tg_ kg_ => castTop (own_ef_law m i0 i1 i2 i3 i4 i5) kg_) ?_
  show own_Gl p e below _ (s₁.setTop (mkF m 0 #[.val (.long i0), .second, .val (.long i1), .second, .val (.long i2), .second, .val (.long i3), .second, .val (.long i4), .second, .val (.int i5), .unset, .unset, .unset, .unset, .unset, .unset, .unset, .unset, .unset, .unset, .unset, .unset, .unset, .unset, .unset, .unset, .unset, .unset, .unset] []))
  suffices join31 : ∀ (rv : Int32) (ov : Int64), own_Gl p e below (own_LPost s (own_Q_law Z i0 i1 i2 i3 i4 i5 zc h0 n0) room_1.cells room_1.slots) (s₁.setTop (mkF m 31 #[.val (.long i0), .second, .val (.long i1), .second, .val (.long i2), .second, .val (.long i3), .second, .val (.long i4), .second, .val (.int i5), .val (.int rv), .val (.long ov), .second, .unset, .unset, .unset, .unset, .unset, .unset, .unset, .unset, .unset, .unset, .unset, .unset, .unset, .unset, .unset, .unset] [])) by
    show own_Gl p e below _ (s₁.setTop (mkF m 0 #[.val (.long i0), .second, .val (.long i1), .second, .val (.long i2), .second, .val (.long i3), .second, .val (.long i4), .second, .val (.int i5), .unset, .unset, .unset, .unset, .unset, .unset, .unset, .unset, .unset, .unset, .unset, .unset, .unset, .unset, .unset, .unset, .unset, .unset, .unset] []))
    refine own_st (fun tg_ kg_ => XS.iload X0.here hx rfl (hb hby at_0) rfl kg_) ?_
    show own_Gl p e below _ (s₁.setTop (mkF m 2 #[.val (.long i0), .second, .val (.long i1), .second, .val (.long i2), .second, .val (.long i3), .second, .val (.long i4), .second, .val (.int i5), .unset, .unset, .unset, .unset, .unset, .unset, .unset, .unset, .unset, .unset, .unset, .unset, .unset, .unset, .unset, .unset, .unset, .unset, .unset] [(.int i5)]))
    refine own_st (fun tg_ kg_ => XS.iconst X0.here hx rfl (hb hby at_2) kg_) ?_
    show own_Gl p e below _ (s₁.setTop (mkF m 3 #[.val (.long i0), .second, .val (.long i1), .second, .val (.long i2), .second, .val (.long i3), .second, .val (.long i4), .second, .val (.int i5), .unset, .unset, .unset, .unset, .unset, .unset, .unset, .unset, .unset, .unset, .unset, .unset, .unset, .unset, .unset, .unset, .unset, .unset, .unset] [(.int (1 : Int32)), (.int i5)]))
    refine own_st (fun tg_ kg_ => XS.iand X0.here hx rfl (hb hby at_3) rfl kg_) ?_
    show own_Gl p e below _ (s₁.setTop (mkF m 4 #[.val (.long i0), .second, .val (.long i1), .second, .val (.long i2), .second, .val (.long i3), .second, .val (.long i4), .second, .val (.int i5), .unset, .unset, .unset, .unset, .unset, .unset, .unset, .unset, .unset, .unset, .unset, .unset, .unset, .unset, .unset, .unset, .unset, .unset, .unset] [(.int (i5 &&& (1 : Int32)))]))
    by_cases hc4_1 : (i5 &&& (1 : Int32)) = (0 : Int32)
    ·
      show own_Gl p e below _ (s₁.setTop (mkF m 4 #[.val (.long i0), .second, .val (.long i1), .second, .val (.long i2), .second, .val (.long i3), .second, .val (.long i4), .second, .val (.int i5), .unset, .unset, .unset, .unset, .unset, .unset, .unset, .unset, .unset, .unset, .unset, .unset, .unset, .unset, .unset, .unset, .unset, .unset, .unset] [(.int (i5 &&& (1 : Int32)))]))
      refine own_st (fun tg_ kg_ => XS.ifYes X0.here hx rfl (pc0 := 4) (pc' := 11) rfl (hb hby at_4) rfl ((if0 _ _).trans (teq (hc4_1)).1) (by decide) (by decide) kg_) ?_
      show own_Gl p e below _ (s₁.setTop (mkF m 11 #[.val (.long i0), .second, .val (.long i1), .second, .val (.long i2), .second, .val (.long i3), .second, .val (.long i4), .second, .val (.int i5), .unset, .unset, .unset, .unset, .unset, .unset, .unset, .unset, .unset, .unset, .unset, .unset, .unset, .unset, .unset, .unset, .unset, .unset, .unset] []))
      refine own_st (fun tg_ kg_ => XS.iconst X0.here hx rfl (hb hby at_11) kg_) ?_
      show own_Gl p e below _ (s₁.setTop (mkF m 12 #[.val (.long i0), .second, .val (.long i1), .second, .val (.long i2), .second, .val (.long i3), .second, .val (.long i4), .second, .val (.int i5), .unset, .unset, .unset, .unset, .unset, .unset, .unset, .unset, .unset, .unset, .unset, .unset, .unset, .unset, .unset, .unset, .unset, .unset, .unset] [(.int (0 : Int32))]))
      refine own_st (fun tg_ kg_ => XS.istore X0.here hx rfl (hb hby at_12) rfl (l' := #[.val (.long i0), .second, .val (.long i1), .second, .val (.long i2), .second, .val (.long i3), .second, .val (.long i4), .second, .val (.int i5), .val (.int (0 : Int32)), .unset, .unset, .unset, .unset, .unset, .unset, .unset, .unset, .unset, .unset, .unset, .unset, .unset, .unset, .unset, .unset, .unset, .unset]) rfl kg_) ?_
      show own_Gl p e below _ (s₁.setTop (mkF m 14 #[.val (.long i0), .second, .val (.long i1), .second, .val (.long i2), .second, .val (.long i3), .second, .val (.long i4), .second, .val (.int i5), .val (.int (0 : Int32)), .unset, .unset, .unset, .unset, .unset, .unset, .unset, .unset, .unset, .unset, .unset, .unset, .unset, .unset, .unset, .unset, .unset, .unset] []))
      refine own_st (fun tg_ kg_ => XS.iload X0.here hx rfl (hb hby at_14) rfl kg_) ?_
      show own_Gl p e below _ (s₁.setTop (mkF m 16 #[.val (.long i0), .second, .val (.long i1), .second, .val (.long i2), .second, .val (.long i3), .second, .val (.long i4), .second, .val (.int i5), .val (.int (0 : Int32)), .unset, .unset, .unset, .unset, .unset, .unset, .unset, .unset, .unset, .unset, .unset, .unset, .unset, .unset, .unset, .unset, .unset, .unset] [(.int (0 : Int32))]))
      refine own_st (fun tg_ kg_ => XS.ifYes X0.here hx rfl (pc0 := 16) (pc' := 28) rfl (hb hby at_16) rfl ((if0 _ _).trans (teq ((rfl : (0 : Int32) = (0 : Int32)))).1) (by decide) (by decide) kg_) ?_
      show own_Gl p e below _ (s₁.setTop (mkF m 28 #[.val (.long i0), .second, .val (.long i1), .second, .val (.long i2), .second, .val (.long i3), .second, .val (.long i4), .second, .val (.int i5), .val (.int (0 : Int32)), .unset, .unset, .unset, .unset, .unset, .unset, .unset, .unset, .unset, .unset, .unset, .unset, .unset, .unset, .unset, .unset, .unset, .unset] []))
      refine own_st (fun tg_ kg_ => XS.lconst X0.here hx rfl (hb hby at_28) kg_) ?_
      show own_Gl p e below _ (s₁.setTop (mkF m 29 #[.val (.long i0), .second, .val (.long i1), .second, .val (.long i2), .second, .val (.long i3), .second, .val (.long i4), .second, .val (.int i5), .val (.int (0 : Int32)), .unset, .unset, .unset, .unset, .unset, .unset, .unset, .unset, .unset, .unset, .unset, .unset, .unset, .unset, .unset, .unset, .unset, .unset] [(.long (0 : Int64))]))
      refine own_st (fun tg_ kg_ => XS.lstore X0.here hx rfl (hb hby at_29) rfl (l' := #[.val (.long i0), .second, .val (.long i1), .second, .val (.long i2), .second, .val (.long i3), .second, .val (.long i4), .second, .val (.int i5), .val (.int (0 : Int32)), .val (.long (0 : Int64)), .second, .unset, .unset, .unset, .unset, .unset, .unset, .unset, .unset, .unset, .unset, .unset, .unset, .unset, .unset, .unset, .unset]) rfl kg_) ?_
      show own_Gl p e below _ (s₁.setTop (mkF m 31 #[.val (.long i0), .second, .val (.long i1), .second, .val (.long i2), .second, .val (.long i3), .second, .val (.long i4), .second, .val (.int i5), .val (.int (0 : Int32)), .val (.long (0 : Int64)), .second, .unset, .unset, .unset, .unset, .unset, .unset, .unset, .unset, .unset, .unset, .unset, .unset, .unset, .unset, .unset, .unset] []))
      exact join31 (0 : Int32) (0 : Int64)
    ·
      show own_Gl p e below _ (s₁.setTop (mkF m 4 #[.val (.long i0), .second, .val (.long i1), .second, .val (.long i2), .second, .val (.long i3), .second, .val (.long i4), .second, .val (.int i5), .unset, .unset, .unset, .unset, .unset, .unset, .unset, .unset, .unset, .unset, .unset, .unset, .unset, .unset, .unset, .unset, .unset, .unset, .unset] [(.int (i5 &&& (1 : Int32)))]))
      refine own_st (fun tg_ kg_ => XS.ifNo X0.here hx rfl (hb hby at_4) rfl ((if0 _ _).trans (feq (hc4_1)).1) kg_) ?_
      show own_Gl p e below _ (s₁.setTop (mkF m 7 #[.val (.long i0), .second, .val (.long i1), .second, .val (.long i2), .second, .val (.long i3), .second, .val (.long i4), .second, .val (.int i5), .unset, .unset, .unset, .unset, .unset, .unset, .unset, .unset, .unset, .unset, .unset, .unset, .unset, .unset, .unset, .unset, .unset, .unset, .unset] []))
      refine own_st (fun tg_ kg_ => XS.iconst X0.here hx rfl (hb hby at_7) kg_) ?_
      show own_Gl p e below _ (s₁.setTop (mkF m 8 #[.val (.long i0), .second, .val (.long i1), .second, .val (.long i2), .second, .val (.long i3), .second, .val (.long i4), .second, .val (.int i5), .unset, .unset, .unset, .unset, .unset, .unset, .unset, .unset, .unset, .unset, .unset, .unset, .unset, .unset, .unset, .unset, .unset, .unset, .unset] [(.int (1 : Int32))]))
      refine own_st (fun tg_ kg_ => XS.goto X0.here hx rfl (pc0 := 8) (pc' := 12) rfl (hb hby at_8) (by decide) (by decide) kg_) ?_
      show own_Gl p e below _ (s₁.setTop (mkF m 12 #[.val (.long i0), .second, .val (.long i1), .second, .val (.long i2), .second, .val (.long i3), .second, .val (.long i4), .second, .val (.int i5), .unset, .unset, .unset, .unset, .unset, .unset, .unset, .unset, .unset, .unset, .unset, .unset, .unset, .unset, .unset, .unset, .unset, .unset, .unset] [(.int (1 : Int32))]))
      refine own_st (fun tg_ kg_ => XS.istore X0.here hx rfl (hb hby at_12) rfl (l' := #[.val (.long i0), .second, .val (.long i1), .second, .val (.long i2), .second, .val (.long i3), .second, .val (.long i4), .second, .val (.int i5), .val (.int (1 : Int32)), .unset, .unset, .unset, .unset, .unset, .unset, .unset, .unset, .unset, .unset, .unset, .unset, .unset, .unset, .unset, .unset, .unset, .unset]) rfl kg_) ?_
      show own_Gl p e below _ (s₁.setTop (mkF m 14 #[.val (.long i0), .second, .val (.long i1), .second, .val (.long i2), .second, .val (.long i3), .second, .val (.long i4), .second, .val (.int i5), .val (.int (1 : Int32)), .unset, .unset, .unset, .unset, .unset, .unset, .unset, .unset, .unset, .unset, .unset, .unset, .unset, .unset, .unset, .unset, .unset, .unset] []))
      refine own_st (fun tg_ kg_ => XS.iload X0.here hx rfl (hb hby at_14) rfl kg_) ?_
      show own_Gl p e below _ (s₁.setTop (mkF m 16 #[.val (.long i0), .second, .val (.long i1), .second, .val (.long i2), .second, .val (.long i3), .second, .val (.long i4), .second, .val (.int i5), .val (.int (1 : Int32)), .unset, .unset, .unset, .unset, .unset, .unset, .unset, .unset, .unset, .unset, .unset, .unset, .unset, .unset, .unset, .unset, .unset, .unset] [(.int (1 : Int32))]))
      refine own_st (fun tg_ kg_ => XS.ifNo X0.here hx rfl (hb hby at_16) rfl ((if0 _ _).trans (feq ((by decide : ¬ ((1 : Int32) = (0 : Int32))))).1) kg_) ?_
      show own_Gl p e below _ (s₁.setTop (mkF m 19 #[.val (.long i0), .second, .val (.long i1), .second, .val (.long i2), .second, .val (.long i3), .second, .val (.long i4), .second, .val (.int i5), .val (.int (1 : Int32)), .unset, .unset, .unset, .unset, .unset, .unset, .unset, .unset, .unset, .unset, .unset, .unset, .unset, .unset, .unset, .unset, .unset, .unset] []))
      refine own_st (fun tg_ kg_ => XS.lload X0.here hx rfl (hb hby at_19) rfl kg_) ?_
      show own_Gl p e below _ (s₁.setTop (mkF m 21 #[.val (.long i0), .second, .val (.long i1), .second, .val (.long i2), .second, .val (.long i3), .second, .val (.long i4), .second, .val (.int i5), .val (.int (1 : Int32)), .unset, .unset, .unset, .unset, .unset, .unset, .unset, .unset, .unset, .unset, .unset, .unset, .unset, .unset, .unset, .unset, .unset, .unset] [(.long i4)]))
      refine own_st (fun tg_ kg_ => X0.ldc2Long hx hown (mvT hZ (hw _ (List.mem_of_getElem? (i := 0) rfl))) (g := (mkF m 21 #[.val (.long i0), .second, .val (.long i1), .second, .val (.long i2), .second, .val (.long i3), .second, .val (.long i4), .second, .val (.int i5), .val (.int (1 : Int32)), .unset, .unset, .unset, .unset, .unset, .unset, .unset, .unset, .unset, .unset, .unset, .unset, .unset, .unset, .unset, .unset, .unset, .unset] [(.long i4)])) rfl (hb hby at_21) _ kg_) ?_
      show own_Gl p e below _ (s₁.setTop (mkF m 24 #[.val (.long i0), .second, .val (.long i1), .second, .val (.long i2), .second, .val (.long i3), .second, .val (.long i4), .second, .val (.int i5), .val (.int (1 : Int32)), .unset, .unset, .unset, .unset, .unset, .unset, .unset, .unset, .unset, .unset, .unset, .unset, .unset, .unset, .unset, .unset, .unset, .unset] [(.long (-1 : Int64)), (.long i4)]))
      refine own_st (fun tg_ kg_ => XS.lxor X0.here hx rfl (hb hby at_24) rfl kg_) ?_
      show own_Gl p e below _ (s₁.setTop (mkF m 25 #[.val (.long i0), .second, .val (.long i1), .second, .val (.long i2), .second, .val (.long i3), .second, .val (.long i4), .second, .val (.int i5), .val (.int (1 : Int32)), .unset, .unset, .unset, .unset, .unset, .unset, .unset, .unset, .unset, .unset, .unset, .unset, .unset, .unset, .unset, .unset, .unset, .unset] [(.long (i4 ^^^ (-1 : Int64)))]))
      refine own_st (fun tg_ kg_ => XS.goto X0.here hx rfl (pc0 := 25) (pc' := 29) rfl (hb hby at_25) (by decide) (by decide) kg_) ?_
      show own_Gl p e below _ (s₁.setTop (mkF m 29 #[.val (.long i0), .second, .val (.long i1), .second, .val (.long i2), .second, .val (.long i3), .second, .val (.long i4), .second, .val (.int i5), .val (.int (1 : Int32)), .unset, .unset, .unset, .unset, .unset, .unset, .unset, .unset, .unset, .unset, .unset, .unset, .unset, .unset, .unset, .unset, .unset, .unset] [(.long (i4 ^^^ (-1 : Int64)))]))
      refine own_st (fun tg_ kg_ => XS.lstore X0.here hx rfl (hb hby at_29) rfl (l' := #[.val (.long i0), .second, .val (.long i1), .second, .val (.long i2), .second, .val (.long i3), .second, .val (.long i4), .second, .val (.int i5), .val (.int (1 : Int32)), .val (.long (i4 ^^^ (-1 : Int64))), .second, .unset, .unset, .unset, .unset, .unset, .unset, .unset, .unset, .unset, .unset, .unset, .unset, .unset, .unset, .unset, .unset]) rfl kg_) ?_
      show own_Gl p e below _ (s₁.setTop (mkF m 31 #[.val (.long i0), .second, .val (.long i1), .second, .val (.long i2), .second, .val (.long i3), .second, .val (.long i4), .second, .val (.int i5), .val (.int (1 : Int32)), .val (.long (i4 ^^^ (-1 : Int64))), .second, .unset, .unset, .unset, .unset, .unset, .unset, .unset, .unset, .unset, .unset, .unset, .unset, .unset, .unset, .unset, .unset] []))
      exact join31 (1 : Int32) (i4 ^^^ (-1 : Int64))
  intro rv ov
  refine own_st (fun tg_ kg_ => XS.lloadN X0.here hx rfl (hb hby at_31) rfl kg_) ?_
  show own_Gl p e below _ (s₁.setTop (mkF m 32 #[.val (.long i0), .second, .val (.long i1), .second, .val (.long i2), .second, .val (.long i3), .second, .val (.long i4), .second, .val (.int i5), .val (.int rv), .val (.long ov), .second, .unset, .unset, .unset, .unset, .unset, .unset, .unset, .unset, .unset, .unset, .unset, .unset, .unset, .unset, .unset, .unset] [(.long i0)]))
  refine own_st (fun tg_ kg_ => X0.ldc2Long hx hown (mvT hZ (hw _ (List.mem_of_getElem? (i := 0) rfl))) (g := (mkF m 32 #[.val (.long i0), .second, .val (.long i1), .second, .val (.long i2), .second, .val (.long i3), .second, .val (.long i4), .second, .val (.int i5), .val (.int rv), .val (.long ov), .second, .unset, .unset, .unset, .unset, .unset, .unset, .unset, .unset, .unset, .unset, .unset, .unset, .unset, .unset, .unset, .unset] [(.long i0)])) rfl (hb hby at_32) _ kg_) ?_
  show own_Gl p e below _ (s₁.setTop (mkF m 35 #[.val (.long i0), .second, .val (.long i1), .second, .val (.long i2), .second, .val (.long i3), .second, .val (.long i4), .second, .val (.int i5), .val (.int rv), .val (.long ov), .second, .unset, .unset, .unset, .unset, .unset, .unset, .unset, .unset, .unset, .unset, .unset, .unset, .unset, .unset, .unset, .unset] [(.long (-1 : Int64)), (.long i0)]))
  refine own_st (fun tg_ kg_ => XS.lxor X0.here hx rfl (hb hby at_35) rfl kg_) ?_
  show own_Gl p e below _ (s₁.setTop (mkF m 36 #[.val (.long i0), .second, .val (.long i1), .second, .val (.long i2), .second, .val (.long i3), .second, .val (.long i4), .second, .val (.int i5), .val (.int rv), .val (.long ov), .second, .unset, .unset, .unset, .unset, .unset, .unset, .unset, .unset, .unset, .unset, .unset, .unset, .unset, .unset, .unset, .unset] [(.long (i0 ^^^ (-1 : Int64)))]))
  refine own_st (fun tg_ kg_ => XS.lstore X0.here hx rfl (hb hby at_36) rfl (l' := #[.val (.long i0), .second, .val (.long i1), .second, .val (.long i2), .second, .val (.long i3), .second, .val (.long i4), .second, .val (.int i5), .val (.int rv), .val (.long ov), .second, .val (.long (i0 ^^^ (-1 : Int64))), .second, .unset, .unset, .unset, .unset, .unset, .unset, .unset, .unset, .unset, .unset, .unset, .unset, .unset, .unset]) rfl kg_) ?_
  show own_Gl p e below _ (s₁.setTop (mkF m 38 #[.val (.long i0), .second, .val (.long i1), .second, .val (.long i2), .second, .val (.long i3), .second, .val (.long i4), .second, .val (.int i5), .val (.int rv), .val (.long ov), .second, .val (.long (i0 ^^^ (-1 : Int64))), .second, .unset, .unset, .unset, .unset, .unset, .unset, .unset, .unset, .unset, .unset, .unset, .unset, .unset, .unset] []))
  refine own_st (fun tg_ kg_ => XS.iload X0.here hx rfl (hb hby at_38) rfl kg_) ?_
  show own_Gl p e below _ (s₁.setTop (mkF m 40 #[.val (.long i0), .second, .val (.long i1), .second, .val (.long i2), .second, .val (.long i3), .second, .val (.long i4), .second, .val (.int i5), .val (.int rv), .val (.long ov), .second, .val (.long (i0 ^^^ (-1 : Int64))), .second, .unset, .unset, .unset, .unset, .unset, .unset, .unset, .unset, .unset, .unset, .unset, .unset, .unset, .unset] [(.int i5)]))
  refine own_st (fun tg_ kg_ => XS.iconst X0.here hx rfl (hb hby at_40) kg_) ?_
  show own_Gl p e below _ (s₁.setTop (mkF m 41 #[.val (.long i0), .second, .val (.long i1), .second, .val (.long i2), .second, .val (.long i3), .second, .val (.long i4), .second, .val (.int i5), .val (.int rv), .val (.long ov), .second, .val (.long (i0 ^^^ (-1 : Int64))), .second, .unset, .unset, .unset, .unset, .unset, .unset, .unset, .unset, .unset, .unset, .unset, .unset, .unset, .unset] [(.int (1 : Int32)), (.int i5)]))
  refine own_st (fun tg_ kg_ => XS.iushr X0.here hx rfl (hb hby at_41) rfl kg_) ?_
  show own_Gl p e below _ (s₁.setTop (mkF m 42 #[.val (.long i0), .second, .val (.long i1), .second, .val (.long i2), .second, .val (.long i3), .second, .val (.long i4), .second, .val (.int i5), .val (.int rv), .val (.long ov), .second, .val (.long (i0 ^^^ (-1 : Int64))), .second, .unset, .unset, .unset, .unset, .unset, .unset, .unset, .unset, .unset, .unset, .unset, .unset, .unset, .unset] [(.int ((i5.toUInt32 >>> ((1 : Int32) &&& 31).toUInt32).toInt32))]))
  refine own_st (fun tg_ kg_ => XS.sipush X0.here hx rfl (hb hby at_42) kg_) ?_
  show own_Gl p e below _ (s₁.setTop (mkF m 45 #[.val (.long i0), .second, .val (.long i1), .second, .val (.long i2), .second, .val (.long i3), .second, .val (.long i4), .second, .val (.int i5), .val (.int rv), .val (.long ov), .second, .val (.long (i0 ^^^ (-1 : Int64))), .second, .unset, .unset, .unset, .unset, .unset, .unset, .unset, .unset, .unset, .unset, .unset, .unset, .unset, .unset] [(.int (255 : Int32)), (.int ((i5.toUInt32 >>> ((1 : Int32) &&& 31).toUInt32).toInt32))]))
  refine own_st (fun tg_ kg_ => XS.iand X0.here hx rfl (hb hby at_45) rfl kg_) ?_
  show own_Gl p e below _ (s₁.setTop (mkF m 46 #[.val (.long i0), .second, .val (.long i1), .second, .val (.long i2), .second, .val (.long i3), .second, .val (.long i4), .second, .val (.int i5), .val (.int rv), .val (.long ov), .second, .val (.long (i0 ^^^ (-1 : Int64))), .second, .unset, .unset, .unset, .unset, .unset, .unset, .unset, .unset, .unset, .unset, .unset, .unset, .unset, .unset] [(.int (((i5.toUInt32 >>> ((1 : Int32) &&& 31).toUInt32).toInt32) &&& (255 : Int32)))]))
  refine own_st (fun tg_ kg_ => XS.i2c X0.here hx rfl (hb hby at_46) rfl kg_) ?_
  show own_Gl p e below _ (s₁.setTop (mkF m 47 #[.val (.long i0), .second, .val (.long i1), .second, .val (.long i2), .second, .val (.long i3), .second, .val (.long i4), .second, .val (.int i5), .val (.int rv), .val (.long ov), .second, .val (.long (i0 ^^^ (-1 : Int64))), .second, .unset, .unset, .unset, .unset, .unset, .unset, .unset, .unset, .unset, .unset, .unset, .unset, .unset, .unset] [(.int ((((i5.toUInt32 >>> ((1 : Int32) &&& 31).toUInt32).toInt32) &&& (255 : Int32)).toUInt32.toUInt16.toUInt32.toInt32))]))
  obtain ⟨_, _, ⟨T2, L2, k2, n2⟩, -, X2, ⟨Lc2, hQ2, l2, y2, z2⟩, st2⟩ := Jvm.LawKit.callS X0 hx (y := (⟨"java/lang/String", "valueOf", "(C)Ljava/lang/String;"⟩ : MethodName)) hown (mvT hZ (hw _ (List.mem_of_getElem? (i := 1) rfl))) (mvT hZ (hw _ (List.mem_of_getElem? (i := 2) rfl))) (mvT hZ (hw _ (List.mem_of_getElem? (i := 3) rfl))) (mvT hZ (hw _ (List.mem_of_getElem? (i := 4) rfl))) (by decide) (backOf (W := 0) (own_rm_val l Z a0 hw [] ((((i5.toUInt32 >>> ((1 : Int32) &&& 31).toUInt32).toInt32) &&& (255 : Int32)).toUInt32.toUInt16.toUInt32.toInt32) zc h0 n0 Z0 S_C hzc (own_m8 ((i5.toUInt32 >>> ((1 : Int32) &&& 31).toUInt32).toInt32) 255 (by decide) (by decide))) hZ (hw _ (List.mem_of_getElem? (i := 4) rfl)) (hw _ (List.mem_of_getElem? (i := 3) rfl)) (by decide) (by decide)) (g := (mkF m 47 #[.val (.long i0), .second, .val (.long i1), .second, .val (.long i2), .second, .val (.long i3), .second, .val (.long i4), .second, .val (.int i5), .val (.int rv), .val (.long ov), .second, .val (.long (i0 ^^^ (-1 : Int64))), .second, .unset, .unset, .unset, .unset, .unset, .unset, .unset, .unset, .unset, .unset, .unset, .unset, .unset, .unset] [(.int ((((i5.toUInt32 >>> ((1 : Int32) &&& 31).toUInt32).toInt32) &&& (255 : Int32)).toUInt32.toUInt16.toUInt32.toInt32))])) rfl (by rw [hml]; rfl) (argsL := [(.int ((((i5.toUInt32 >>> ((1 : Int32) &&& 31).toUInt32).toInt32) &&& (255 : Int32)).toUInt32.toUInt16.toUInt32.toInt32))]) (rest := []) (lenOf own_pd4 rfl) rfl (by show 2 * 0 + _ ≤ _; exact Nat.le_of_eq rfl) (hb hby at_47) (fun _ _ => ⟨rfl, e0, (by decide : 0 + 2 ≤ _), (by decide : 0 + 5 ≤ _)⟩)
  dsimp only [Pt.U, Pt.locs, Pt.cells, Pt.slots] at X2 l2 y2 z2 st2 hQ2
  obtain rfl : k2 = 2 := y2
  obtain rfl : n2 = 5 := z2
  obtain ⟨⟨f, rfl, szc2, E_f⟩, N2q, Kc2⟩ := hQ2
  have N2 : Fr n0 L2 := by rw [l2]; exact Fr.app N0 N2q
  try clear l2
  refine own_st st2 ?_
  have sz_f : h0.size ≤ f := szc2
  have g_f : n0 ≤ f := Nat.le_trans Z0 sz_f
  show own_Gl p e below _ (T2.setTop (mkF m 50 #[.val (.long i0), .second, .val (.long i1), .second, .val (.long i2), .second, .val (.long i3), .second, .val (.long i4), .second, .val (.int i5), .val (.int rv), .val (.long ov), .second, .val (.long (i0 ^^^ (-1 : Int64))), .second, .unset, .unset, .unset, .unset, .unset, .unset, .unset, .unset, .unset, .unset, .unset, .unset, .unset, .unset] [(.ref f)]))
  try clear st2
  try clear N2q
  refine own_st (fun tg_ kg_ => XS.astore X2.here hx rfl (hb hby at_50) rfl rfl (l' := #[.val (.long i0), .second, .val (.long i1), .second, .val (.long i2), .second, .val (.long i3), .second, .val (.long i4), .second, .val (.int i5), .val (.int rv), .val (.long ov), .second, .val (.long (i0 ^^^ (-1 : Int64))), .second, .val (.ref f), .unset, .unset, .unset, .unset, .unset, .unset, .unset, .unset, .unset, .unset, .unset, .unset, .unset]) rfl kg_) ?_
  show own_Gl p e below _ (T2.setTop (mkF m 52 #[.val (.long i0), .second, .val (.long i1), .second, .val (.long i2), .second, .val (.long i3), .second, .val (.long i4), .second, .val (.int i5), .val (.int rv), .val (.long ov), .second, .val (.long (i0 ^^^ (-1 : Int64))), .second, .val (.ref f), .unset, .unset, .unset, .unset, .unset, .unset, .unset, .unset, .unset, .unset, .unset, .unset, .unset] []))
  refine own_st (fun tg_ kg_ => XS.iload X2.here hx rfl (hb hby at_52) rfl kg_) ?_
  show own_Gl p e below _ (T2.setTop (mkF m 54 #[.val (.long i0), .second, .val (.long i1), .second, .val (.long i2), .second, .val (.long i3), .second, .val (.long i4), .second, .val (.int i5), .val (.int rv), .val (.long ov), .second, .val (.long (i0 ^^^ (-1 : Int64))), .second, .val (.ref f), .unset, .unset, .unset, .unset, .unset, .unset, .unset, .unset, .unset, .unset, .unset, .unset, .unset] [(.int i5)]))
  refine own_st (fun tg_ kg_ => XS.bipush X2.here hx rfl (hb hby at_54) kg_) ?_
  show own_Gl p e below _ (T2.setTop (mkF m 56 #[.val (.long i0), .second, .val (.long i1), .second, .val (.long i2), .second, .val (.long i3), .second, .val (.long i4), .second, .val (.int i5), .val (.int rv), .val (.long ov), .second, .val (.long (i0 ^^^ (-1 : Int64))), .second, .val (.ref f), .unset, .unset, .unset, .unset, .unset, .unset, .unset, .unset, .unset, .unset, .unset, .unset, .unset] [(.int (9 : Int32)), (.int i5)]))
  refine own_st (fun tg_ kg_ => XS.iushr X2.here hx rfl (hb hby at_56) rfl kg_) ?_
  show own_Gl p e below _ (T2.setTop (mkF m 57 #[.val (.long i0), .second, .val (.long i1), .second, .val (.long i2), .second, .val (.long i3), .second, .val (.long i4), .second, .val (.int i5), .val (.int rv), .val (.long ov), .second, .val (.long (i0 ^^^ (-1 : Int64))), .second, .val (.ref f), .unset, .unset, .unset, .unset, .unset, .unset, .unset, .unset, .unset, .unset, .unset, .unset, .unset] [(.int ((i5.toUInt32 >>> ((9 : Int32) &&& 31).toUInt32).toInt32))]))
  refine own_st (fun tg_ kg_ => XS.iconst X2.here hx rfl (hb hby at_57) kg_) ?_
  show own_Gl p e below _ (T2.setTop (mkF m 58 #[.val (.long i0), .second, .val (.long i1), .second, .val (.long i2), .second, .val (.long i3), .second, .val (.long i4), .second, .val (.int i5), .val (.int rv), .val (.long ov), .second, .val (.long (i0 ^^^ (-1 : Int64))), .second, .val (.ref f), .unset, .unset, .unset, .unset, .unset, .unset, .unset, .unset, .unset, .unset, .unset, .unset, .unset] [(.int (1 : Int32)), (.int ((i5.toUInt32 >>> ((9 : Int32) &&& 31).toUInt32).toInt32))]))
  refine own_st (fun tg_ kg_ => XS.iand X2.here hx rfl (hb hby at_58) rfl kg_) ?_
  show own_Gl p e below _ (T2.setTop (mkF m 59 #[.val (.long i0), .second, .val (.long i1), .second, .val (.long i2), .second, .val (.long i3), .second, .val (.long i4), .second, .val (.int i5), .val (.int rv), .val (.long ov), .second, .val (.long (i0 ^^^ (-1 : Int64))), .second, .val (.ref f), .unset, .unset, .unset, .unset, .unset, .unset, .unset, .unset, .unset, .unset, .unset, .unset, .unset] [(.int (((i5.toUInt32 >>> ((9 : Int32) &&& 31).toUInt32).toInt32) &&& (1 : Int32)))]))
  by_cases hto : (((i5.toUInt32 >>> ((9 : Int32) &&& 31).toUInt32).toInt32) &&& (1 : Int32)) = (0 : Int32)
  ·
    show own_Gl p e below _ (T2.setTop (mkF m 59 #[.val (.long i0), .second, .val (.long i1), .second, .val (.long i2), .second, .val (.long i3), .second, .val (.long i4), .second, .val (.int i5), .val (.int rv), .val (.long ov), .second, .val (.long (i0 ^^^ (-1 : Int64))), .second, .val (.ref f), .unset, .unset, .unset, .unset, .unset, .unset, .unset, .unset, .unset, .unset, .unset, .unset, .unset] [(.int (((i5.toUInt32 >>> ((9 : Int32) &&& 31).toUInt32).toInt32) &&& (1 : Int32)))]))
    refine own_st (fun tg_ kg_ => XS.ifYes X2.here hx rfl (pc0 := 59) (pc' := 66) rfl (hb hby at_59) rfl ((if0 _ _).trans (teq (hto)).1) (by decide) (by decide) kg_) ?_
    show own_Gl p e below _ (T2.setTop (mkF m 66 #[.val (.long i0), .second, .val (.long i1), .second, .val (.long i2), .second, .val (.long i3), .second, .val (.long i4), .second, .val (.int i5), .val (.int rv), .val (.long ov), .second, .val (.long (i0 ^^^ (-1 : Int64))), .second, .val (.ref f), .unset, .unset, .unset, .unset, .unset, .unset, .unset, .unset, .unset, .unset, .unset, .unset, .unset] []))
    refine own_st (fun tg_ kg_ => XS.iconst X2.here hx rfl (hb hby at_66) kg_) ?_
    show own_Gl p e below _ (T2.setTop (mkF m 67 #[.val (.long i0), .second, .val (.long i1), .second, .val (.long i2), .second, .val (.long i3), .second, .val (.long i4), .second, .val (.int i5), .val (.int rv), .val (.long ov), .second, .val (.long (i0 ^^^ (-1 : Int64))), .second, .val (.ref f), .unset, .unset, .unset, .unset, .unset, .unset, .unset, .unset, .unset, .unset, .unset, .unset, .unset] [(.int (0 : Int32))]))
    refine own_st (fun tg_ kg_ => XS.istore X2.here hx rfl (hb hby at_67) rfl (l' := #[.val (.long i0), .second, .val (.long i1), .second, .val (.long i2), .second, .val (.long i3), .second, .val (.long i4), .second, .val (.int i5), .val (.int rv), .val (.long ov), .second, .val (.long (i0 ^^^ (-1 : Int64))), .second, .val (.ref f), .val (.int (0 : Int32)), .unset, .unset, .unset, .unset, .unset, .unset, .unset, .unset, .unset, .unset, .unset, .unset]) rfl kg_) ?_
    show own_Gl p e below _ (T2.setTop (mkF m 69 #[.val (.long i0), .second, .val (.long i1), .second, .val (.long i2), .second, .val (.long i3), .second, .val (.long i4), .second, .val (.int i5), .val (.int rv), .val (.long ov), .second, .val (.long (i0 ^^^ (-1 : Int64))), .second, .val (.ref f), .val (.int (0 : Int32)), .unset, .unset, .unset, .unset, .unset, .unset, .unset, .unset, .unset, .unset, .unset, .unset] []))
    refine own_st (fun tg_ kg_ => XS.iload X2.here hx rfl (hb hby at_69) rfl kg_) ?_
    show own_Gl p e below _ (T2.setTop (mkF m 71 #[.val (.long i0), .second, .val (.long i1), .second, .val (.long i2), .second, .val (.long i3), .second, .val (.long i4), .second, .val (.int i5), .val (.int rv), .val (.long ov), .second, .val (.long (i0 ^^^ (-1 : Int64))), .second, .val (.ref f), .val (.int (0 : Int32)), .unset, .unset, .unset, .unset, .unset, .unset, .unset, .unset, .unset, .unset, .unset, .unset] [(.int (0 : Int32))]))
    refine own_st (fun tg_ kg_ => XS.ifYes X2.here hx rfl (pc0 := 71) (pc' := 78) rfl (hb hby at_71) rfl ((if0 _ _).trans (teq ((rfl : (0 : Int32) = (0 : Int32)))).1) (by decide) (by decide) kg_) ?_
    show own_Gl p e below _ (T2.setTop (mkF m 78 #[.val (.long i0), .second, .val (.long i1), .second, .val (.long i2), .second, .val (.long i3), .second, .val (.long i4), .second, .val (.int i5), .val (.int rv), .val (.long ov), .second, .val (.long (i0 ^^^ (-1 : Int64))), .second, .val (.ref f), .val (.int (0 : Int32)), .unset, .unset, .unset, .unset, .unset, .unset, .unset, .unset, .unset, .unset, .unset, .unset] []))
    refine own_st (fun tg_ kg_ => XS.iload X2.here hx rfl (hb hby at_78) rfl kg_) ?_
    show own_Gl p e below _ (T2.setTop (mkF m 80 #[.val (.long i0), .second, .val (.long i1), .second, .val (.long i2), .second, .val (.long i3), .second, .val (.long i4), .second, .val (.int i5), .val (.int rv), .val (.long ov), .second, .val (.long (i0 ^^^ (-1 : Int64))), .second, .val (.ref f), .val (.int (0 : Int32)), .unset, .unset, .unset, .unset, .unset, .unset, .unset, .unset, .unset, .unset, .unset, .unset] [(.int i5)]))
    refine own_st (fun tg_ kg_ => XS.bipush X2.here hx rfl (hb hby at_80) kg_) ?_
    show own_Gl p e below _ (T2.setTop (mkF m 82 #[.val (.long i0), .second, .val (.long i1), .second, .val (.long i2), .second, .val (.long i3), .second, .val (.long i4), .second, .val (.int i5), .val (.int rv), .val (.long ov), .second, .val (.long (i0 ^^^ (-1 : Int64))), .second, .val (.ref f), .val (.int (0 : Int32)), .unset, .unset, .unset, .unset, .unset, .unset, .unset, .unset, .unset, .unset, .unset, .unset] [(.int (10 : Int32)), (.int i5)]))
    refine own_st (fun tg_ kg_ => XS.iushr X2.here hx rfl (hb hby at_82) rfl kg_) ?_
    show own_Gl p e below _ (T2.setTop (mkF m 83 #[.val (.long i0), .second, .val (.long i1), .second, .val (.long i2), .second, .val (.long i3), .second, .val (.long i4), .second, .val (.int i5), .val (.int rv), .val (.long ov), .second, .val (.long (i0 ^^^ (-1 : Int64))), .second, .val (.ref f), .val (.int (0 : Int32)), .unset, .unset, .unset, .unset, .unset, .unset, .unset, .unset, .unset, .unset, .unset, .unset] [(.int ((i5.toUInt32 >>> ((10 : Int32) &&& 31).toUInt32).toInt32))]))
    refine own_st (fun tg_ kg_ => XS.sipush X2.here hx rfl (hb hby at_83) kg_) ?_
    show own_Gl p e below _ (T2.setTop (mkF m 86 #[.val (.long i0), .second, .val (.long i1), .second, .val (.long i2), .second, .val (.long i3), .second, .val (.long i4), .second, .val (.int i5), .val (.int rv), .val (.long ov), .second, .val (.long (i0 ^^^ (-1 : Int64))), .second, .val (.ref f), .val (.int (0 : Int32)), .unset, .unset, .unset, .unset, .unset, .unset, .unset, .unset, .unset, .unset, .unset, .unset] [(.int (255 : Int32)), (.int ((i5.toUInt32 >>> ((10 : Int32) &&& 31).toUInt32).toInt32))]))
    refine own_st (fun tg_ kg_ => XS.iand X2.here hx rfl (hb hby at_86) rfl kg_) ?_
    show own_Gl p e below _ (T2.setTop (mkF m 87 #[.val (.long i0), .second, .val (.long i1), .second, .val (.long i2), .second, .val (.long i3), .second, .val (.long i4), .second, .val (.int i5), .val (.int rv), .val (.long ov), .second, .val (.long (i0 ^^^ (-1 : Int64))), .second, .val (.ref f), .val (.int (0 : Int32)), .unset, .unset, .unset, .unset, .unset, .unset, .unset, .unset, .unset, .unset, .unset, .unset] [(.int (((i5.toUInt32 >>> ((10 : Int32) &&& 31).toUInt32).toInt32) &&& (255 : Int32)))]))
    refine own_st (fun tg_ kg_ => XS.i2c X2.here hx rfl (hb hby at_87) rfl kg_) ?_
    show own_Gl p e below _ (T2.setTop (mkF m 88 #[.val (.long i0), .second, .val (.long i1), .second, .val (.long i2), .second, .val (.long i3), .second, .val (.long i4), .second, .val (.int i5), .val (.int rv), .val (.long ov), .second, .val (.long (i0 ^^^ (-1 : Int64))), .second, .val (.ref f), .val (.int (0 : Int32)), .unset, .unset, .unset, .unset, .unset, .unset, .unset, .unset, .unset, .unset, .unset, .unset] [(.int ((((i5.toUInt32 >>> ((10 : Int32) &&& 31).toUInt32).toInt32) &&& (255 : Int32)).toUInt32.toUInt16.toUInt32.toInt32))]))
    obtain ⟨_, _, ⟨T4, L4, k4, n4⟩, -, X4, ⟨Lc4, hQ4, l4, y4, z4⟩, st4⟩ := Jvm.LawKit.callS X2 hx (y := (⟨"java/lang/String", "valueOf", "(C)Ljava/lang/String;"⟩ : MethodName)) hown (mvT hZ (hw _ (List.mem_of_getElem? (i := 1) rfl))) (mvT hZ (hw _ (List.mem_of_getElem? (i := 2) rfl))) (mvT hZ (hw _ (List.mem_of_getElem? (i := 3) rfl))) (mvT hZ (hw _ (List.mem_of_getElem? (i := 4) rfl))) (by decide) (backOf (W := 0) (own_rm_val l Z a0 hw [] ((((i5.toUInt32 >>> ((10 : Int32) &&& 31).toUInt32).toInt32) &&& (255 : Int32)).toUInt32.toUInt16.toUInt32.toInt32) zc T2.heap n0 (Nat.le_trans Z0 Kc2.1) (S_C.ext Kc2) hzc (own_m8 ((i5.toUInt32 >>> ((10 : Int32) &&& 31).toUInt32).toInt32) 255 (by decide) (by decide))) hZ (hw _ (List.mem_of_getElem? (i := 4) rfl)) (hw _ (List.mem_of_getElem? (i := 3) rfl)) (by decide) (by decide)) (g := (mkF m 88 #[.val (.long i0), .second, .val (.long i1), .second, .val (.long i2), .second, .val (.long i3), .second, .val (.long i4), .second, .val (.int i5), .val (.int rv), .val (.long ov), .second, .val (.long (i0 ^^^ (-1 : Int64))), .second, .val (.ref f), .val (.int (0 : Int32)), .unset, .unset, .unset, .unset, .unset, .unset, .unset, .unset, .unset, .unset, .unset, .unset] [(.int ((((i5.toUInt32 >>> ((10 : Int32) &&& 31).toUInt32).toInt32) &&& (255 : Int32)).toUInt32.toUInt16.toUInt32.toInt32))])) rfl (by rw [hml]; rfl) (argsL := [(.int ((((i5.toUInt32 >>> ((10 : Int32) &&& 31).toUInt32).toInt32) &&& (255 : Int32)).toUInt32.toUInt16.toUInt32.toInt32))]) (rest := []) (lenOf own_pd4 rfl) rfl (by show 2 * 0 + _ ≤ _; exact Nat.le_of_eq rfl) (hb hby at_88) (fun _ _ => ⟨rfl, rfl, (by decide : 2 + 2 ≤ _), (by decide : 5 + 5 ≤ _)⟩)
    dsimp only [Pt.U, Pt.locs, Pt.cells, Pt.slots] at X4 l4 y4 z4 st4 hQ4
    obtain rfl : k4 = 4 := y4
    obtain rfl : n4 = 10 := z4
    obtain ⟨⟨to, rfl, szc4, E_to⟩, N4q, Kc4⟩ := hQ4
    have N4 : Fr n0 L4 := by rw [l4]; exact Fr.app N2 N4q
    try clear l4
    refine own_st st4 ?_
    have ne_f_to : f ≠ to := Nat.ne_of_lt (Nat.lt_of_lt_of_le E_f.lt szc4)
    have sz_to : h0.size ≤ to := Nat.le_trans Kc2.1 szc4
    have g_to : n0 ≤ to := Nat.le_trans Z0 sz_to
    replace E_f := E_f.ext Kc4
    have K5 := own_ext_tr Kc2 Kc4
    try clear Kc4
    try clear Kc2
    show own_Gl p e below _ (T4.setTop (mkF m 91 #[.val (.long i0), .second, .val (.long i1), .second, .val (.long i2), .second, .val (.long i3), .second, .val (.long i4), .second, .val (.int i5), .val (.int rv), .val (.long ov), .second, .val (.long (i0 ^^^ (-1 : Int64))), .second, .val (.ref f), .val (.int (0 : Int32)), .unset, .unset, .unset, .unset, .unset, .unset, .unset, .unset, .unset, .unset, .unset, .unset] [(.ref to)]))
    try clear st4
    try clear N4q
    try clear N2
    try clear X2
    try clear T2
    refine own_st (fun tg_ kg_ => XS.astore X4.here hx rfl (hb hby at_91) rfl rfl (l' := #[.val (.long i0), .second, .val (.long i1), .second, .val (.long i2), .second, .val (.long i3), .second, .val (.long i4), .second, .val (.int i5), .val (.int rv), .val (.long ov), .second, .val (.long (i0 ^^^ (-1 : Int64))), .second, .val (.ref f), .val (.int (0 : Int32)), .val (.ref to), .unset, .unset, .unset, .unset, .unset, .unset, .unset, .unset, .unset, .unset, .unset]) rfl kg_) ?_
    show own_Gl p e below _ (T4.setTop (mkF m 93 #[.val (.long i0), .second, .val (.long i1), .second, .val (.long i2), .second, .val (.long i3), .second, .val (.long i4), .second, .val (.int i5), .val (.int rv), .val (.long ov), .second, .val (.long (i0 ^^^ (-1 : Int64))), .second, .val (.ref f), .val (.int (0 : Int32)), .val (.ref to), .unset, .unset, .unset, .unset, .unset, .unset, .unset, .unset, .unset, .unset, .unset] []))
    refine own_st (fun tg_ kg_ => XS.iconst X4.here hx rfl (hb hby at_93) kg_) ?_
    show own_Gl p e below _ (T4.setTop (mkF m 94 #[.val (.long i0), .second, .val (.long i1), .second, .val (.long i2), .second, .val (.long i3), .second, .val (.long i4), .second, .val (.int i5), .val (.int rv), .val (.long ov), .second, .val (.long (i0 ^^^ (-1 : Int64))), .second, .val (.ref f), .val (.int (0 : Int32)), .val (.ref to), .unset, .unset, .unset, .unset, .unset, .unset, .unset, .unset, .unset, .unset, .unset] [(.int (2 : Int32))]))
    obtain ⟨T6, h6, k6, X6, e6, E6, A6, st6⟩ := newP X4 hx hZ (hw _ (List.mem_of_getElem? (i := 27) rfl)) rfl (g := (mkF m 94 #[.val (.long i0), .second, .val (.long i1), .second, .val (.long i2), .second, .val (.long i3), .second, .val (.long i4), .second, .val (.int i5), .val (.int rv), .val (.long ov), .second, .val (.long (i0 ^^^ (-1 : Int64))), .second, .val (.ref f), .val (.int (0 : Int32)), .val (.ref to), .unset, .unset, .unset, .unset, .unset, .unset, .unset, .unset, .unset, .unset, .unset] [(.int (2 : Int32))])) rfl (hb hby at_94) rfl (by decide) (cap := 2) (by decide) (by decide) (by decide) (by decide)
    obtain ⟨c2, g6⟩ : ∃ z, z = T4.heap.size := ⟨_, rfl⟩
    have ne_f_c2 : f ≠ c2 := Nat.ne_of_lt (Nat.lt_of_lt_of_le E_f.lt (Nat.le_of_eq g6.symm))
    have ne_to_c2 : to ≠ c2 := Nat.ne_of_lt (Nat.lt_of_lt_of_le E_to.lt (Nat.le_of_eq g6.symm))
    have sz_c2 : h0.size ≤ c2 := (Nat.le_trans K5.1 (Nat.le_of_eq g6.symm))
    have g_c2 : n0 ≤ c2 := Nat.le_trans Z0 sz_c2
    rw [← g6] at A6 st6
    replace E_f := E_f.ext E6
    replace E_to := E_to.ext E6
    have K7 := own_ext_tr K5 E6
    try clear E6
    try clear K5
    have V_c2 : Arv Z h6 c2 k6 .char (2 : Int32) [(.int (0 : Int32)), (.int (0 : Int32))] (.int (0 : Int32)) := (Arv.new A6 (by decide)).pad (pad_rep [] (.int (0 : Int32)) 2)
    refine own_st st6 ?_
    try clear st6
    try clear X4
    try clear T4
    show own_Gl p e below _ (T6.setTop (mkF m 96 #[.val (.long i0), .second, .val (.long i1), .second, .val (.long i2), .second, .val (.long i3), .second, .val (.long i4), .second, .val (.int i5), .val (.int rv), .val (.long ov), .second, .val (.long (i0 ^^^ (-1 : Int64))), .second, .val (.ref f), .val (.int (0 : Int32)), .val (.ref to), .unset, .unset, .unset, .unset, .unset, .unset, .unset, .unset, .unset, .unset, .unset] [(.ref c2)]))
    refine own_st (fun tg_ kg_ => XS.astore X6.here hx rfl (hb hby at_96) rfl rfl (l' := #[.val (.long i0), .second, .val (.long i1), .second, .val (.long i2), .second, .val (.long i3), .second, .val (.long i4), .second, .val (.int i5), .val (.int rv), .val (.long ov), .second, .val (.long (i0 ^^^ (-1 : Int64))), .second, .val (.ref f), .val (.int (0 : Int32)), .val (.ref to), .val (.ref c2), .unset, .unset, .unset, .unset, .unset, .unset, .unset, .unset, .unset, .unset]) rfl kg_) ?_
    show own_Gl p e below _ (T6.setTop (mkF m 98 #[.val (.long i0), .second, .val (.long i1), .second, .val (.long i2), .second, .val (.long i3), .second, .val (.long i4), .second, .val (.int i5), .val (.int rv), .val (.long ov), .second, .val (.long (i0 ^^^ (-1 : Int64))), .second, .val (.ref f), .val (.int (0 : Int32)), .val (.ref to), .val (.ref c2), .unset, .unset, .unset, .unset, .unset, .unset, .unset, .unset, .unset, .unset] []))
    refine own_st (fun tg_ kg_ => XS.aload X6.here hx rfl (hb hby at_98) rfl rfl kg_) ?_
    show own_Gl p e below _ (T6.setTop (mkF m 100 #[.val (.long i0), .second, .val (.long i1), .second, .val (.long i2), .second, .val (.long i3), .second, .val (.long i4), .second, .val (.int i5), .val (.int rv), .val (.long ov), .second, .val (.long (i0 ^^^ (-1 : Int64))), .second, .val (.ref f), .val (.int (0 : Int32)), .val (.ref to), .val (.ref c2), .unset, .unset, .unset, .unset, .unset, .unset, .unset, .unset, .unset, .unset] [(.ref c2)]))
    refine own_st (fun tg_ kg_ => XS.iconst X6.here hx rfl (hb hby at_100) kg_) ?_
    show own_Gl p e below _ (T6.setTop (mkF m 101 #[.val (.long i0), .second, .val (.long i1), .second, .val (.long i2), .second, .val (.long i3), .second, .val (.long i4), .second, .val (.int i5), .val (.int rv), .val (.long ov), .second, .val (.long (i0 ^^^ (-1 : Int64))), .second, .val (.ref f), .val (.int (0 : Int32)), .val (.ref to), .val (.ref c2), .unset, .unset, .unset, .unset, .unset, .unset, .unset, .unset, .unset, .unset] [(.int (0 : Int32)), (.ref c2)]))
    refine own_st (fun tg_ kg_ => XS.iload X6.here hx rfl (hb hby at_101) rfl kg_) ?_
    show own_Gl p e below _ (T6.setTop (mkF m 103 #[.val (.long i0), .second, .val (.long i1), .second, .val (.long i2), .second, .val (.long i3), .second, .val (.long i4), .second, .val (.int i5), .val (.int rv), .val (.long ov), .second, .val (.long (i0 ^^^ (-1 : Int64))), .second, .val (.ref f), .val (.int (0 : Int32)), .val (.ref to), .val (.ref c2), .unset, .unset, .unset, .unset, .unset, .unset, .unset, .unset, .unset, .unset] [(.int i5), (.int (0 : Int32)), (.ref c2)]))
    refine own_st (fun tg_ kg_ => XS.bipush X6.here hx rfl (hb hby at_103) kg_) ?_
    show own_Gl p e below _ (T6.setTop (mkF m 105 #[.val (.long i0), .second, .val (.long i1), .second, .val (.long i2), .second, .val (.long i3), .second, .val (.long i4), .second, .val (.int i5), .val (.int rv), .val (.long ov), .second, .val (.long (i0 ^^^ (-1 : Int64))), .second, .val (.ref f), .val (.int (0 : Int32)), .val (.ref to), .val (.ref c2), .unset, .unset, .unset, .unset, .unset, .unset, .unset, .unset, .unset, .unset] [(.int (18 : Int32)), (.int i5), (.int (0 : Int32)), (.ref c2)]))
    refine own_st (fun tg_ kg_ => XS.iushr X6.here hx rfl (hb hby at_105) rfl kg_) ?_
    show own_Gl p e below _ (T6.setTop (mkF m 106 #[.val (.long i0), .second, .val (.long i1), .second, .val (.long i2), .second, .val (.long i3), .second, .val (.long i4), .second, .val (.int i5), .val (.int rv), .val (.long ov), .second, .val (.long (i0 ^^^ (-1 : Int64))), .second, .val (.ref f), .val (.int (0 : Int32)), .val (.ref to), .val (.ref c2), .unset, .unset, .unset, .unset, .unset, .unset, .unset, .unset, .unset, .unset] [(.int ((i5.toUInt32 >>> ((18 : Int32) &&& 31).toUInt32).toInt32)), (.int (0 : Int32)), (.ref c2)]))
    refine own_st (fun tg_ kg_ => XS.sipush X6.here hx rfl (hb hby at_106) kg_) ?_
    show own_Gl p e below _ (T6.setTop (mkF m 109 #[.val (.long i0), .second, .val (.long i1), .second, .val (.long i2), .second, .val (.long i3), .second, .val (.long i4), .second, .val (.int i5), .val (.int rv), .val (.long ov), .second, .val (.long (i0 ^^^ (-1 : Int64))), .second, .val (.ref f), .val (.int (0 : Int32)), .val (.ref to), .val (.ref c2), .unset, .unset, .unset, .unset, .unset, .unset, .unset, .unset, .unset, .unset] [(.int (255 : Int32)), (.int ((i5.toUInt32 >>> ((18 : Int32) &&& 31).toUInt32).toInt32)), (.int (0 : Int32)), (.ref c2)]))
    refine own_st (fun tg_ kg_ => XS.iand X6.here hx rfl (hb hby at_109) rfl kg_) ?_
    show own_Gl p e below _ (T6.setTop (mkF m 110 #[.val (.long i0), .second, .val (.long i1), .second, .val (.long i2), .second, .val (.long i3), .second, .val (.long i4), .second, .val (.int i5), .val (.int rv), .val (.long ov), .second, .val (.long (i0 ^^^ (-1 : Int64))), .second, .val (.ref f), .val (.int (0 : Int32)), .val (.ref to), .val (.ref c2), .unset, .unset, .unset, .unset, .unset, .unset, .unset, .unset, .unset, .unset] [(.int (((i5.toUInt32 >>> ((18 : Int32) &&& 31).toUInt32).toInt32) &&& (255 : Int32))), (.int (0 : Int32)), (.ref c2)]))
    refine own_st (fun tg_ kg_ => XS.i2c X6.here hx rfl (hb hby at_110) rfl kg_) ?_
    show own_Gl p e below _ (T6.setTop (mkF m 111 #[.val (.long i0), .second, .val (.long i1), .second, .val (.long i2), .second, .val (.long i3), .second, .val (.long i4), .second, .val (.int i5), .val (.int rv), .val (.long ov), .second, .val (.long (i0 ^^^ (-1 : Int64))), .second, .val (.ref f), .val (.int (0 : Int32)), .val (.ref to), .val (.ref c2), .unset, .unset, .unset, .unset, .unset, .unset, .unset, .unset, .unset, .unset] [(.int ((((i5.toUInt32 >>> ((18 : Int32) &&& 31).toUInt32).toInt32) &&& (255 : Int32)).toUInt32.toUInt16.toUInt32.toInt32)), (.int (0 : Int32)), (.ref c2)]))
    obtain ⟨cl8, Ar8, qa8, Sa8, Na8, Ha8, Ga8⟩ := id V_c2
    have hin9 : ¬ ((0 : Int32) < 0 ∨ cl8.slots.size ≤ ((0 : Int32)).toNatClampNeg) := inb_of Sa8 ⟨by decide, by decide⟩
    obtain ⟨T9, h9, X9, e9, W9, st9⟩ := stC X6 hx hZ e6 Ar8 (j := (0 : Int32)) hin9 (g := (mkF m 111 #[.val (.long i0), .second, .val (.long i1), .second, .val (.long i2), .second, .val (.long i3), .second, .val (.long i4), .second, .val (.int i5), .val (.int rv), .val (.long ov), .second, .val (.long (i0 ^^^ (-1 : Int64))), .second, .val (.ref f), .val (.int (0 : Int32)), .val (.ref to), .val (.ref c2), .unset, .unset, .unset, .unset, .unset, .unset, .unset, .unset, .unset, .unset] [(.int ((((i5.toUInt32 >>> ((18 : Int32) &&& 31).toUInt32).toInt32) &&& (255 : Int32)).toUInt32.toUInt16.toUInt32.toInt32)), (.int (0 : Int32)), (.ref c2)])) rfl rfl (hb hby at_111)
    rw [own_narc (own_m8 ((i5.toUInt32 >>> ((18 : Int32) &&& 31).toUInt32).toInt32) 255 (by decide) (by decide)).1 (own_m8 ((i5.toUInt32 >>> ((18 : Int32) &&& 31).toUInt32).toInt32) 255 (by decide) (by decide)).2] at W9
    have N9 := Fr.snoc X9 N4 g_c2
    try clear N4
    replace E_f := E_f.wr W9
    replace E_to := E_to.wr W9
    have K10 := own_ext_wr K7 W9 sz_c2
    try clear K7
    replace V_c2 : Arv Z h9 c2 k6 .char (2 : Int32) [(.int ((((i5.toUInt32 >>> ((18 : Int32) &&& 31).toUInt32).toInt32) &&& (255 : Int32)).toUInt32.toUInt16.toUInt32.toInt32)), (.int (0 : Int32))] (.int (0 : Int32)) := Arv.set Ar8 qa8 Sa8 Na8 Ha8 Ga8 (own_fitc (own_m8 ((i5.toUInt32 >>> ((18 : Int32) &&& 31).toUInt32).toInt32) 255 (by decide) (by decide)).1 (own_m8 ((i5.toUInt32 >>> ((18 : Int32) &&& 31).toUInt32).toInt32) 255 (by decide) (by decide)).2) W9 0 rfl (Nat.le_of_ble_eq_true rfl)
    try clear Ga8
    try clear Ha8
    try clear Na8
    try clear Sa8
    try clear qa8
    try clear W9
    try clear hin9
    try clear Ar8
    try clear cl8
    refine own_st st9 ?_
    try clear st9
    try clear e6
    try clear X6
    try clear T6
    show own_Gl p e below _ (T9.setTop (mkF m 112 #[.val (.long i0), .second, .val (.long i1), .second, .val (.long i2), .second, .val (.long i3), .second, .val (.long i4), .second, .val (.int i5), .val (.int rv), .val (.long ov), .second, .val (.long (i0 ^^^ (-1 : Int64))), .second, .val (.ref f), .val (.int (0 : Int32)), .val (.ref to), .val (.ref c2), .unset, .unset, .unset, .unset, .unset, .unset, .unset, .unset, .unset, .unset] []))
    refine own_st (fun tg_ kg_ => XS.aload X9.here hx rfl (hb hby at_112) rfl rfl kg_) ?_
    show own_Gl p e below _ (T9.setTop (mkF m 114 #[.val (.long i0), .second, .val (.long i1), .second, .val (.long i2), .second, .val (.long i3), .second, .val (.long i4), .second, .val (.int i5), .val (.int rv), .val (.long ov), .second, .val (.long (i0 ^^^ (-1 : Int64))), .second, .val (.ref f), .val (.int (0 : Int32)), .val (.ref to), .val (.ref c2), .unset, .unset, .unset, .unset, .unset, .unset, .unset, .unset, .unset, .unset] [(.ref c2)]))
    refine own_st (fun tg_ kg_ => XS.iconst X9.here hx rfl (hb hby at_114) kg_) ?_
    show own_Gl p e below _ (T9.setTop (mkF m 115 #[.val (.long i0), .second, .val (.long i1), .second, .val (.long i2), .second, .val (.long i3), .second, .val (.long i4), .second, .val (.int i5), .val (.int rv), .val (.long ov), .second, .val (.long (i0 ^^^ (-1 : Int64))), .second, .val (.ref f), .val (.int (0 : Int32)), .val (.ref to), .val (.ref c2), .unset, .unset, .unset, .unset, .unset, .unset, .unset, .unset, .unset, .unset] [(.int (1 : Int32)), (.ref c2)]))
    refine own_st (fun tg_ kg_ => XS.iload X9.here hx rfl (hb hby at_115) rfl kg_) ?_
    show own_Gl p e below _ (T9.setTop (mkF m 117 #[.val (.long i0), .second, .val (.long i1), .second, .val (.long i2), .second, .val (.long i3), .second, .val (.long i4), .second, .val (.int i5), .val (.int rv), .val (.long ov), .second, .val (.long (i0 ^^^ (-1 : Int64))), .second, .val (.ref f), .val (.int (0 : Int32)), .val (.ref to), .val (.ref c2), .unset, .unset, .unset, .unset, .unset, .unset, .unset, .unset, .unset, .unset] [(.int i5), (.int (1 : Int32)), (.ref c2)]))
    refine own_st (fun tg_ kg_ => XS.bipush X9.here hx rfl (hb hby at_117) kg_) ?_
    show own_Gl p e below _ (T9.setTop (mkF m 119 #[.val (.long i0), .second, .val (.long i1), .second, .val (.long i2), .second, .val (.long i3), .second, .val (.long i4), .second, .val (.int i5), .val (.int rv), .val (.long ov), .second, .val (.long (i0 ^^^ (-1 : Int64))), .second, .val (.ref f), .val (.int (0 : Int32)), .val (.ref to), .val (.ref c2), .unset, .unset, .unset, .unset, .unset, .unset, .unset, .unset, .unset, .unset] [(.int (26 : Int32)), (.int i5), (.int (1 : Int32)), (.ref c2)]))
    refine own_st (fun tg_ kg_ => XS.iushr X9.here hx rfl (hb hby at_119) rfl kg_) ?_
    show own_Gl p e below _ (T9.setTop (mkF m 120 #[.val (.long i0), .second, .val (.long i1), .second, .val (.long i2), .second, .val (.long i3), .second, .val (.long i4), .second, .val (.int i5), .val (.int rv), .val (.long ov), .second, .val (.long (i0 ^^^ (-1 : Int64))), .second, .val (.ref f), .val (.int (0 : Int32)), .val (.ref to), .val (.ref c2), .unset, .unset, .unset, .unset, .unset, .unset, .unset, .unset, .unset, .unset] [(.int ((i5.toUInt32 >>> ((26 : Int32) &&& 31).toUInt32).toInt32)), (.int (1 : Int32)), (.ref c2)]))
    refine own_st (fun tg_ kg_ => XS.bipush X9.here hx rfl (hb hby at_120) kg_) ?_
    show own_Gl p e below _ (T9.setTop (mkF m 122 #[.val (.long i0), .second, .val (.long i1), .second, .val (.long i2), .second, .val (.long i3), .second, .val (.long i4), .second, .val (.int i5), .val (.int rv), .val (.long ov), .second, .val (.long (i0 ^^^ (-1 : Int64))), .second, .val (.ref f), .val (.int (0 : Int32)), .val (.ref to), .val (.ref c2), .unset, .unset, .unset, .unset, .unset, .unset, .unset, .unset, .unset, .unset] [(.int (63 : Int32)), (.int ((i5.toUInt32 >>> ((26 : Int32) &&& 31).toUInt32).toInt32)), (.int (1 : Int32)), (.ref c2)]))
    refine own_st (fun tg_ kg_ => XS.iand X9.here hx rfl (hb hby at_122) rfl kg_) ?_
    show own_Gl p e below _ (T9.setTop (mkF m 123 #[.val (.long i0), .second, .val (.long i1), .second, .val (.long i2), .second, .val (.long i3), .second, .val (.long i4), .second, .val (.int i5), .val (.int rv), .val (.long ov), .second, .val (.long (i0 ^^^ (-1 : Int64))), .second, .val (.ref f), .val (.int (0 : Int32)), .val (.ref to), .val (.ref c2), .unset, .unset, .unset, .unset, .unset, .unset, .unset, .unset, .unset, .unset] [(.int (((i5.toUInt32 >>> ((26 : Int32) &&& 31).toUInt32).toInt32) &&& (63 : Int32))), (.int (1 : Int32)), (.ref c2)]))
    refine own_st (fun tg_ kg_ => XS.i2c X9.here hx rfl (hb hby at_123) rfl kg_) ?_
    show own_Gl p e below _ (T9.setTop (mkF m 124 #[.val (.long i0), .second, .val (.long i1), .second, .val (.long i2), .second, .val (.long i3), .second, .val (.long i4), .second, .val (.int i5), .val (.int rv), .val (.long ov), .second, .val (.long (i0 ^^^ (-1 : Int64))), .second, .val (.ref f), .val (.int (0 : Int32)), .val (.ref to), .val (.ref c2), .unset, .unset, .unset, .unset, .unset, .unset, .unset, .unset, .unset, .unset] [(.int ((((i5.toUInt32 >>> ((26 : Int32) &&& 31).toUInt32).toInt32) &&& (63 : Int32)).toUInt32.toUInt16.toUInt32.toInt32)), (.int (1 : Int32)), (.ref c2)]))
    obtain ⟨cl11, Ar11, qa11, Sa11, Na11, Ha11, Ga11⟩ := id V_c2
    have hin12 : ¬ ((1 : Int32) < 0 ∨ cl11.slots.size ≤ ((1 : Int32)).toNatClampNeg) := inb_of Sa11 ⟨by decide, by decide⟩
    obtain ⟨T12, h12, X12, e12, W12, st12⟩ := stC X9 hx hZ e9 Ar11 (j := (1 : Int32)) hin12 (g := (mkF m 124 #[.val (.long i0), .second, .val (.long i1), .second, .val (.long i2), .second, .val (.long i3), .second, .val (.long i4), .second, .val (.int i5), .val (.int rv), .val (.long ov), .second, .val (.long (i0 ^^^ (-1 : Int64))), .second, .val (.ref f), .val (.int (0 : Int32)), .val (.ref to), .val (.ref c2), .unset, .unset, .unset, .unset, .unset, .unset, .unset, .unset, .unset, .unset] [(.int ((((i5.toUInt32 >>> ((26 : Int32) &&& 31).toUInt32).toInt32) &&& (63 : Int32)).toUInt32.toUInt16.toUInt32.toInt32)), (.int (1 : Int32)), (.ref c2)])) rfl rfl (hb hby at_124)
    rw [own_narc (own_m8 ((i5.toUInt32 >>> ((26 : Int32) &&& 31).toUInt32).toInt32) 63 (by decide) (by decide)).1 (own_m8 ((i5.toUInt32 >>> ((26 : Int32) &&& 31).toUInt32).toInt32) 63 (by decide) (by decide)).2] at W12
    have N12 := Fr.snoc X12 N9 g_c2
    try clear N9
    replace E_f := E_f.wr W12
    replace E_to := E_to.wr W12
    have K13 := own_ext_wr K10 W12 sz_c2
    try clear K10
    replace V_c2 : Arv Z h12 c2 k6 .char (2 : Int32) [(.int ((((i5.toUInt32 >>> ((18 : Int32) &&& 31).toUInt32).toInt32) &&& (255 : Int32)).toUInt32.toUInt16.toUInt32.toInt32)), (.int ((((i5.toUInt32 >>> ((26 : Int32) &&& 31).toUInt32).toInt32) &&& (63 : Int32)).toUInt32.toUInt16.toUInt32.toInt32))] (.int (0 : Int32)) := Arv.set Ar11 qa11 Sa11 Na11 Ha11 Ga11 (own_fitc (own_m8 ((i5.toUInt32 >>> ((26 : Int32) &&& 31).toUInt32).toInt32) 63 (by decide) (by decide)).1 (own_m8 ((i5.toUInt32 >>> ((26 : Int32) &&& 31).toUInt32).toInt32) 63 (by decide) (by decide)).2) W12 1 rfl (Nat.le_of_ble_eq_true rfl)
    try clear Ga11
    try clear Ha11
    try clear Na11
    try clear Sa11
    try clear qa11
    try clear W12
    try clear hin12
    try clear Ar11
    try clear cl11
    refine own_st st12 ?_
    try clear st12
    try clear e9
    try clear X9
    try clear T9
    show own_Gl p e below _ (T12.setTop (mkF m 125 #[.val (.long i0), .second, .val (.long i1), .second, .val (.long i2), .second, .val (.long i3), .second, .val (.long i4), .second, .val (.int i5), .val (.int rv), .val (.long ov), .second, .val (.long (i0 ^^^ (-1 : Int64))), .second, .val (.ref f), .val (.int (0 : Int32)), .val (.ref to), .val (.ref c2), .unset, .unset, .unset, .unset, .unset, .unset, .unset, .unset, .unset, .unset] []))
    obtain ⟨T14, h14, X14, e14, E14, A14, D14, -, st14⟩ := newO X12 hx hZ hown (hw _ (List.mem_of_getElem? (i := 28) rfl)) (hw _ (List.mem_of_getElem? (i := 11) rfl)) (hw _ (List.mem_of_getElem? (i := 3) rfl)) e12 (g := (mkF m 125 #[.val (.long i0), .second, .val (.long i1), .second, .val (.long i2), .second, .val (.long i3), .second, .val (.long i4), .second, .val (.int i5), .val (.int rv), .val (.long ov), .second, .val (.long (i0 ^^^ (-1 : Int64))), .second, .val (.ref f), .val (.int (0 : Int32)), .val (.ref to), .val (.ref c2), .unset, .unset, .unset, .unset, .unset, .unset, .unset, .unset, .unset, .unset] [])) rfl (hb hby at_125) (by decide) (by decide)
    obtain ⟨cm, g14⟩ : ∃ z, z = h12.size := ⟨_, rfl⟩
    have ne_f_cm : f ≠ cm := Nat.ne_of_lt (Nat.lt_of_lt_of_le E_f.lt (Nat.le_of_eq g14.symm))
    have ne_to_cm : to ≠ cm := Nat.ne_of_lt (Nat.lt_of_lt_of_le E_to.lt (Nat.le_of_eq g14.symm))
    have ne_c2_cm : c2 ≠ cm := Nat.ne_of_lt (Nat.lt_of_lt_of_le V_c2.lt (Nat.le_of_eq g14.symm))
    have sz_cm : h0.size ≤ cm := (Nat.le_trans K13.1 (Nat.le_of_eq g14.symm))
    have g_cm : n0 ≤ cm := Nat.le_trans Z0 sz_cm
    rw [← g14] at A14 D14 st14
    replace E_f := E_f.ext E14
    replace E_to := E_to.ext E14
    replace V_c2 := V_c2.ext E14
    have K15 := own_ext_tr K13 E14
    try clear E14
    try clear K13
    have E_cm := A14
    have F_value_cm : Fld Z h14 cm "java/lang/String" "value" "[B" .null := D14 (Or.inr (hw _ (List.mem_of_getElem? (i := 24) rfl))) (ty := (.array .byte)) (by decide)
    have F_coder_cm : Fld Z h14 cm "java/lang/String" "coder" "B" (.int (0 : Int32)) := D14 (Or.inr (hw _ (List.mem_of_getElem? (i := 26) rfl))) (ty := .byte) (by decide)
    refine own_st st14 ?_
    try clear st14
    try clear e12
    try clear X12
    try clear T12
    show own_Gl p e below _ (T14.setTop (mkF m 128 #[.val (.long i0), .second, .val (.long i1), .second, .val (.long i2), .second, .val (.long i3), .second, .val (.long i4), .second, .val (.int i5), .val (.int rv), .val (.long ov), .second, .val (.long (i0 ^^^ (-1 : Int64))), .second, .val (.ref f), .val (.int (0 : Int32)), .val (.ref to), .val (.ref c2), .unset, .unset, .unset, .unset, .unset, .unset, .unset, .unset, .unset, .unset] [(.ref cm)]))
    refine own_st (fun tg_ kg_ => XS.dup X14.here hx rfl (hb hby at_128) rfl rfl kg_) ?_
    show own_Gl p e below _ (T14.setTop (mkF m 129 #[.val (.long i0), .second, .val (.long i1), .second, .val (.long i2), .second, .val (.long i3), .second, .val (.long i4), .second, .val (.int i5), .val (.int rv), .val (.long ov), .second, .val (.long (i0 ^^^ (-1 : Int64))), .second, .val (.ref f), .val (.int (0 : Int32)), .val (.ref to), .val (.ref c2), .unset, .unset, .unset, .unset, .unset, .unset, .unset, .unset, .unset, .unset] [(.ref cm), (.ref cm)]))
    refine own_st (fun tg_ kg_ => XS.aload X14.here hx rfl (hb hby at_129) rfl rfl kg_) ?_
    show own_Gl p e below _ (T14.setTop (mkF m 131 #[.val (.long i0), .second, .val (.long i1), .second, .val (.long i2), .second, .val (.long i3), .second, .val (.long i4), .second, .val (.int i5), .val (.int rv), .val (.long ov), .second, .val (.long (i0 ^^^ (-1 : Int64))), .second, .val (.ref f), .val (.int (0 : Int32)), .val (.ref to), .val (.ref c2), .unset, .unset, .unset, .unset, .unset, .unset, .unset, .unset, .unset, .unset] [(.ref c2), (.ref cm), (.ref cm)]))
    have hpc : ∀ c ∈ ([((((i5.toUInt32 >>> ((18 : Int32) &&& 31).toUInt32).toInt32) &&& (255 : Int32)).toUInt32.toUInt16.toUInt32.toInt32), ((((i5.toUInt32 >>> ((26 : Int32) &&& 31).toUInt32).toInt32) &&& (63 : Int32)).toUInt32.toUInt16.toUInt32.toInt32)] : List Int32), ¬ c < 0 ∧ ¬ (255 : Int32) < c := (own_all (own_m8 ((i5.toUInt32 >>> ((18 : Int32) &&& 31).toUInt32).toInt32) 255 (by decide) (by decide)) (own_all (own_m8 ((i5.toUInt32 >>> ((26 : Int32) &&& 31).toUInt32).toInt32) 63 (by decide) (by decide)) (fun _ q => nomatch q)))
    have V_p : Arv Z h14 c2 k6 .char (2 : Int32) (([((((i5.toUInt32 >>> ((18 : Int32) &&& 31).toUInt32).toInt32) &&& (255 : Int32)).toUInt32.toUInt16.toUInt32.toInt32), ((((i5.toUInt32 >>> ((26 : Int32) &&& 31).toUInt32).toInt32) &&& (63 : Int32)).toUInt32.toUInt16.toUInt32.toInt32)] : List Int32).map Value.int) (.int (0 : Int32)) := V_c2
    obtain ⟨_, _, ⟨T16, L16, k16, n16⟩, -, X16, ⟨Lc16, hQ16, l16, y16, z16⟩, st16⟩ := X14.specialBack hx (y := (⟨"java/lang/String", "<init>", "([C)V"⟩ : MethodName)) rfl hown (mvT hZ (hw _ (List.mem_of_getElem? (i := 29) rfl))) (mvT hZ (hw _ (List.mem_of_getElem? (i := 30) rfl))) (mvT hZ (hw _ (List.mem_of_getElem? (i := 31) rfl))) (by decide) (StrChars.Road.backV (W := 1) hZ (own_hws hw) (kI := 4) (hw _ (List.mem_of_getElem? (i := 11) rfl)) (cs := [((((i5.toUInt32 >>> ((18 : Int32) &&& 31).toUInt32).toInt32) &&& (255 : Int32)).toUInt32.toUInt16.toUInt32.toInt32), ((((i5.toUInt32 >>> ((26 : Int32) &&& 31).toUInt32).toInt32) &&& (63 : Int32)).toUInt32.toUInt16.toUInt32.toInt32)]) (bs := ([((((i5.toUInt32 >>> ((18 : Int32) &&& 31).toUInt32).toInt32) &&& (255 : Int32)).toUInt32.toUInt16.toUInt32.toInt32), ((((i5.toUInt32 >>> ((26 : Int32) &&& 31).toUInt32).toInt32) &&& (63 : Int32)).toUInt32.toUInt16.toUInt32.toInt32)] : List Int32).map (fun c => c.toInt8.toInt32)) (n := 2) g_cm (Nat.le_trans Z0 K15.1) E_cm F_value_cm F_coder_cm V_p (S_C.ext K15) hzc rfl rfl (by decide) (by decide) hpc rfl (by decide) (by decide)) (g := (mkF m 131 #[.val (.long i0), .second, .val (.long i1), .second, .val (.long i2), .second, .val (.long i3), .second, .val (.long i4), .second, .val (.int i5), .val (.int rv), .val (.long ov), .second, .val (.long (i0 ^^^ (-1 : Int64))), .second, .val (.ref f), .val (.int (0 : Int32)), .val (.ref to), .val (.ref c2), .unset, .unset, .unset, .unset, .unset, .unset, .unset, .unset, .unset, .unset] [(.ref c2), (.ref cm), (.ref cm)])) rfl (by rw [hml]; rfl) (Steps.refl _) (a := cm) (argsL := [(.ref c2)]) (rest := [(.ref cm)]) (lenOf own_pd5 rfl) rfl (by show 2 * 0 + _ ≤ _; exact Nat.le_of_eq rfl) (hb hby at_131) (fun _ _ => ⟨rfl, e14, (by decide : 6 + 1 ≤ _), (by decide : 16 + 2 ≤ _)⟩)
    dsimp only [Pt.U, Pt.locs, Pt.cells, Pt.slots] at X16 l16 y16 z16 st16 hQ16
    obtain rfl : k16 = 7 := y16
    obtain rfl : n16 = 18 := z16
    obtain ⟨rfl, N16q, Kc16, -⟩ := hQ16
    have N16 : Fr n0 L16 := by rw [l16]; exact Fr.app N12 N16q
    try clear l16
    refine own_tr st16 ?_
    replace E_f := E_f.keep Kc16
    replace E_to := E_to.keep Kc16
    replace V_c2 := V_c2.keep Kc16 (ninS ne_c2_cm nin0)
    replace E_cm := E_cm.keep Kc16
    have K17 := own_ext_keep K15 Kc16 (allS sz_cm all0)
    try clear Kc16
    try clear K15
    show own_Gl p e below _ (T16.setTop (mkF m 134 #[.val (.long i0), .second, .val (.long i1), .second, .val (.long i2), .second, .val (.long i3), .second, .val (.long i4), .second, .val (.int i5), .val (.int rv), .val (.long ov), .second, .val (.long (i0 ^^^ (-1 : Int64))), .second, .val (.ref f), .val (.int (0 : Int32)), .val (.ref to), .val (.ref c2), .unset, .unset, .unset, .unset, .unset, .unset, .unset, .unset, .unset, .unset] [(.ref cm)]))
    try clear st16
    try clear N16q
    try clear N12
    try clear e14
    try clear X14
    try clear T14
    refine own_st (fun tg_ kg_ => XS.astore X16.here hx rfl (hb hby at_134) rfl rfl (l' := #[.val (.long i0), .second, .val (.long i1), .second, .val (.long i2), .second, .val (.long i3), .second, .val (.long i4), .second, .val (.int i5), .val (.int rv), .val (.long ov), .second, .val (.long (i0 ^^^ (-1 : Int64))), .second, .val (.ref f), .val (.int (0 : Int32)), .val (.ref to), .val (.ref c2), .val (.ref cm), .unset, .unset, .unset, .unset, .unset, .unset, .unset, .unset, .unset]) rfl kg_) ?_
    show own_Gl p e below _ (T16.setTop (mkF m 136 #[.val (.long i0), .second, .val (.long i1), .second, .val (.long i2), .second, .val (.long i3), .second, .val (.long i4), .second, .val (.int i5), .val (.int rv), .val (.long ov), .second, .val (.long (i0 ^^^ (-1 : Int64))), .second, .val (.ref f), .val (.int (0 : Int32)), .val (.ref to), .val (.ref c2), .val (.ref cm), .unset, .unset, .unset, .unset, .unset, .unset, .unset, .unset, .unset] []))
    refine own_st (fun tg_ kg_ => XS.iconst X16.here hx rfl (hb hby at_136) kg_) ?_
    show own_Gl p e below _ (T16.setTop (mkF m 137 #[.val (.long i0), .second, .val (.long i1), .second, .val (.long i2), .second, .val (.long i3), .second, .val (.long i4), .second, .val (.int i5), .val (.int rv), .val (.long ov), .second, .val (.long (i0 ^^^ (-1 : Int64))), .second, .val (.ref f), .val (.int (0 : Int32)), .val (.ref to), .val (.ref c2), .val (.ref cm), .unset, .unset, .unset, .unset, .unset, .unset, .unset, .unset, .unset] [(.int (1 : Int32))]))
    obtain ⟨T18, h18, k18, X18, e18, E18, A18, st18⟩ := newP X16 hx hZ (hw _ (List.mem_of_getElem? (i := 27) rfl)) rfl (g := (mkF m 137 #[.val (.long i0), .second, .val (.long i1), .second, .val (.long i2), .second, .val (.long i3), .second, .val (.long i4), .second, .val (.int i5), .val (.int rv), .val (.long ov), .second, .val (.long (i0 ^^^ (-1 : Int64))), .second, .val (.ref f), .val (.int (0 : Int32)), .val (.ref to), .val (.ref c2), .val (.ref cm), .unset, .unset, .unset, .unset, .unset, .unset, .unset, .unset, .unset] [(.int (1 : Int32))])) rfl (hb hby at_137) rfl (by decide) (cap := 1) (by decide) (by decide) (by decide) (by decide)
    obtain ⟨c1, g18⟩ : ∃ z, z = T16.heap.size := ⟨_, rfl⟩
    have ne_f_c1 : f ≠ c1 := Nat.ne_of_lt (Nat.lt_of_lt_of_le E_f.lt (Nat.le_of_eq g18.symm))
    have ne_to_c1 : to ≠ c1 := Nat.ne_of_lt (Nat.lt_of_lt_of_le E_to.lt (Nat.le_of_eq g18.symm))
    have ne_c2_c1 : c2 ≠ c1 := Nat.ne_of_lt (Nat.lt_of_lt_of_le V_c2.lt (Nat.le_of_eq g18.symm))
    have ne_cm_c1 : cm ≠ c1 := Nat.ne_of_lt (Nat.lt_of_lt_of_le E_cm.lt (Nat.le_of_eq g18.symm))
    have sz_c1 : h0.size ≤ c1 := (Nat.le_trans K17.1 (Nat.le_of_eq g18.symm))
    have g_c1 : n0 ≤ c1 := Nat.le_trans Z0 sz_c1
    rw [← g18] at A18 st18
    replace E_f := E_f.ext E18
    replace E_to := E_to.ext E18
    replace V_c2 := V_c2.ext E18
    replace E_cm := E_cm.ext E18
    have K19 := own_ext_tr K17 E18
    try clear E18
    try clear K17
    have V_c1 : Arv Z h18 c1 k18 .char (1 : Int32) [(.int (0 : Int32))] (.int (0 : Int32)) := (Arv.new A18 (by decide)).pad (pad_rep [] (.int (0 : Int32)) 1)
    refine own_st st18 ?_
    try clear st18
    try clear X16
    try clear T16
    show own_Gl p e below _ (T18.setTop (mkF m 139 #[.val (.long i0), .second, .val (.long i1), .second, .val (.long i2), .second, .val (.long i3), .second, .val (.long i4), .second, .val (.int i5), .val (.int rv), .val (.long ov), .second, .val (.long (i0 ^^^ (-1 : Int64))), .second, .val (.ref f), .val (.int (0 : Int32)), .val (.ref to), .val (.ref c2), .val (.ref cm), .unset, .unset, .unset, .unset, .unset, .unset, .unset, .unset, .unset] [(.ref c1)]))
    refine own_st (fun tg_ kg_ => XS.astore X18.here hx rfl (hb hby at_139) rfl rfl (l' := #[.val (.long i0), .second, .val (.long i1), .second, .val (.long i2), .second, .val (.long i3), .second, .val (.long i4), .second, .val (.int i5), .val (.int rv), .val (.long ov), .second, .val (.long (i0 ^^^ (-1 : Int64))), .second, .val (.ref f), .val (.int (0 : Int32)), .val (.ref to), .val (.ref c2), .val (.ref cm), .val (.ref c1), .unset, .unset, .unset, .unset, .unset, .unset, .unset, .unset]) rfl kg_) ?_
    show own_Gl p e below _ (T18.setTop (mkF m 141 #[.val (.long i0), .second, .val (.long i1), .second, .val (.long i2), .second, .val (.long i3), .second, .val (.long i4), .second, .val (.int i5), .val (.int rv), .val (.long ov), .second, .val (.long (i0 ^^^ (-1 : Int64))), .second, .val (.ref f), .val (.int (0 : Int32)), .val (.ref to), .val (.ref c2), .val (.ref cm), .val (.ref c1), .unset, .unset, .unset, .unset, .unset, .unset, .unset, .unset] []))
    refine own_st (fun tg_ kg_ => XS.aload X18.here hx rfl (hb hby at_141) rfl rfl kg_) ?_
    show own_Gl p e below _ (T18.setTop (mkF m 143 #[.val (.long i0), .second, .val (.long i1), .second, .val (.long i2), .second, .val (.long i3), .second, .val (.long i4), .second, .val (.int i5), .val (.int rv), .val (.long ov), .second, .val (.long (i0 ^^^ (-1 : Int64))), .second, .val (.ref f), .val (.int (0 : Int32)), .val (.ref to), .val (.ref c2), .val (.ref cm), .val (.ref c1), .unset, .unset, .unset, .unset, .unset, .unset, .unset, .unset] [(.ref c1)]))
    refine own_st (fun tg_ kg_ => XS.iconst X18.here hx rfl (hb hby at_143) kg_) ?_
    show own_Gl p e below _ (T18.setTop (mkF m 144 #[.val (.long i0), .second, .val (.long i1), .second, .val (.long i2), .second, .val (.long i3), .second, .val (.long i4), .second, .val (.int i5), .val (.int rv), .val (.long ov), .second, .val (.long (i0 ^^^ (-1 : Int64))), .second, .val (.ref f), .val (.int (0 : Int32)), .val (.ref to), .val (.ref c2), .val (.ref cm), .val (.ref c1), .unset, .unset, .unset, .unset, .unset, .unset, .unset, .unset] [(.int (0 : Int32)), (.ref c1)]))
    refine own_st (fun tg_ kg_ => XS.iload X18.here hx rfl (hb hby at_144) rfl kg_) ?_
    show own_Gl p e below _ (T18.setTop (mkF m 146 #[.val (.long i0), .second, .val (.long i1), .second, .val (.long i2), .second, .val (.long i3), .second, .val (.long i4), .second, .val (.int i5), .val (.int rv), .val (.long ov), .second, .val (.long (i0 ^^^ (-1 : Int64))), .second, .val (.ref f), .val (.int (0 : Int32)), .val (.ref to), .val (.ref c2), .val (.ref cm), .val (.ref c1), .unset, .unset, .unset, .unset, .unset, .unset, .unset, .unset] [(.int i5), (.int (0 : Int32)), (.ref c1)]))
    refine own_st (fun tg_ kg_ => XS.iconst X18.here hx rfl (hb hby at_146) kg_) ?_
    show own_Gl p e below _ (T18.setTop (mkF m 147 #[.val (.long i0), .second, .val (.long i1), .second, .val (.long i2), .second, .val (.long i3), .second, .val (.long i4), .second, .val (.int i5), .val (.int rv), .val (.long ov), .second, .val (.long (i0 ^^^ (-1 : Int64))), .second, .val (.ref f), .val (.int (0 : Int32)), .val (.ref to), .val (.ref c2), .val (.ref cm), .val (.ref c1), .unset, .unset, .unset, .unset, .unset, .unset, .unset, .unset] [(.int (3 : Int32)), (.int i5), (.int (0 : Int32)), (.ref c1)]))
    refine own_st (fun tg_ kg_ => XS.iushr X18.here hx rfl (hb hby at_147) rfl kg_) ?_
    show own_Gl p e below _ (T18.setTop (mkF m 148 #[.val (.long i0), .second, .val (.long i1), .second, .val (.long i2), .second, .val (.long i3), .second, .val (.long i4), .second, .val (.int i5), .val (.int rv), .val (.long ov), .second, .val (.long (i0 ^^^ (-1 : Int64))), .second, .val (.ref f), .val (.int (0 : Int32)), .val (.ref to), .val (.ref c2), .val (.ref cm), .val (.ref c1), .unset, .unset, .unset, .unset, .unset, .unset, .unset, .unset] [(.int ((i5.toUInt32 >>> ((3 : Int32) &&& 31).toUInt32).toInt32)), (.int (0 : Int32)), (.ref c1)]))
    refine own_st (fun tg_ kg_ => XS.sipush X18.here hx rfl (hb hby at_148) kg_) ?_
    show own_Gl p e below _ (T18.setTop (mkF m 151 #[.val (.long i0), .second, .val (.long i1), .second, .val (.long i2), .second, .val (.long i3), .second, .val (.long i4), .second, .val (.int i5), .val (.int rv), .val (.long ov), .second, .val (.long (i0 ^^^ (-1 : Int64))), .second, .val (.ref f), .val (.int (0 : Int32)), .val (.ref to), .val (.ref c2), .val (.ref cm), .val (.ref c1), .unset, .unset, .unset, .unset, .unset, .unset, .unset, .unset] [(.int (255 : Int32)), (.int ((i5.toUInt32 >>> ((3 : Int32) &&& 31).toUInt32).toInt32)), (.int (0 : Int32)), (.ref c1)]))
    refine own_st (fun tg_ kg_ => XS.iand X18.here hx rfl (hb hby at_151) rfl kg_) ?_
    show own_Gl p e below _ (T18.setTop (mkF m 152 #[.val (.long i0), .second, .val (.long i1), .second, .val (.long i2), .second, .val (.long i3), .second, .val (.long i4), .second, .val (.int i5), .val (.int rv), .val (.long ov), .second, .val (.long (i0 ^^^ (-1 : Int64))), .second, .val (.ref f), .val (.int (0 : Int32)), .val (.ref to), .val (.ref c2), .val (.ref cm), .val (.ref c1), .unset, .unset, .unset, .unset, .unset, .unset, .unset, .unset] [(.int (((i5.toUInt32 >>> ((3 : Int32) &&& 31).toUInt32).toInt32) &&& (255 : Int32))), (.int (0 : Int32)), (.ref c1)]))
    refine own_st (fun tg_ kg_ => XS.i2c X18.here hx rfl (hb hby at_152) rfl kg_) ?_
    show own_Gl p e below _ (T18.setTop (mkF m 153 #[.val (.long i0), .second, .val (.long i1), .second, .val (.long i2), .second, .val (.long i3), .second, .val (.long i4), .second, .val (.int i5), .val (.int rv), .val (.long ov), .second, .val (.long (i0 ^^^ (-1 : Int64))), .second, .val (.ref f), .val (.int (0 : Int32)), .val (.ref to), .val (.ref c2), .val (.ref cm), .val (.ref c1), .unset, .unset, .unset, .unset, .unset, .unset, .unset, .unset] [(.int ((((i5.toUInt32 >>> ((3 : Int32) &&& 31).toUInt32).toInt32) &&& (255 : Int32)).toUInt32.toUInt16.toUInt32.toInt32)), (.int (0 : Int32)), (.ref c1)]))
    obtain ⟨cl20, Ar20, qa20, Sa20, Na20, Ha20, Ga20⟩ := id V_c1
    have hin21 : ¬ ((0 : Int32) < 0 ∨ cl20.slots.size ≤ ((0 : Int32)).toNatClampNeg) := inb_of Sa20 ⟨by decide, by decide⟩
    obtain ⟨T21, h21, X21, e21, W21, st21⟩ := stC X18 hx hZ e18 Ar20 (j := (0 : Int32)) hin21 (g := (mkF m 153 #[.val (.long i0), .second, .val (.long i1), .second, .val (.long i2), .second, .val (.long i3), .second, .val (.long i4), .second, .val (.int i5), .val (.int rv), .val (.long ov), .second, .val (.long (i0 ^^^ (-1 : Int64))), .second, .val (.ref f), .val (.int (0 : Int32)), .val (.ref to), .val (.ref c2), .val (.ref cm), .val (.ref c1), .unset, .unset, .unset, .unset, .unset, .unset, .unset, .unset] [(.int ((((i5.toUInt32 >>> ((3 : Int32) &&& 31).toUInt32).toInt32) &&& (255 : Int32)).toUInt32.toUInt16.toUInt32.toInt32)), (.int (0 : Int32)), (.ref c1)])) rfl rfl (hb hby at_153)
    rw [own_narc (own_m8 ((i5.toUInt32 >>> ((3 : Int32) &&& 31).toUInt32).toInt32) 255 (by decide) (by decide)).1 (own_m8 ((i5.toUInt32 >>> ((3 : Int32) &&& 31).toUInt32).toInt32) 255 (by decide) (by decide)).2] at W21
    have N21 := Fr.snoc X21 N16 g_c1
    try clear N16
    replace E_f := E_f.wr W21
    replace E_to := E_to.wr W21
    replace V_c2 := V_c2.other W21 ne_c2_c1
    replace E_cm := E_cm.wr W21
    have K22 := own_ext_wr K19 W21 sz_c1
    try clear K19
    replace V_c1 : Arv Z h21 c1 k18 .char (1 : Int32) [(.int ((((i5.toUInt32 >>> ((3 : Int32) &&& 31).toUInt32).toInt32) &&& (255 : Int32)).toUInt32.toUInt16.toUInt32.toInt32))] (.int (0 : Int32)) := Arv.set Ar20 qa20 Sa20 Na20 Ha20 Ga20 (own_fitc (own_m8 ((i5.toUInt32 >>> ((3 : Int32) &&& 31).toUInt32).toInt32) 255 (by decide) (by decide)).1 (own_m8 ((i5.toUInt32 >>> ((3 : Int32) &&& 31).toUInt32).toInt32) 255 (by decide) (by decide)).2) W21 0 rfl (Nat.le_of_ble_eq_true rfl)
    try clear Ga20
    try clear Ha20
    try clear Na20
    try clear Sa20
    try clear qa20
    try clear W21
    try clear hin21
    try clear Ar20
    try clear cl20
    refine own_st st21 ?_
    try clear st21
    try clear e18
    try clear X18
    try clear T18
    show own_Gl p e below _ (T21.setTop (mkF m 154 #[.val (.long i0), .second, .val (.long i1), .second, .val (.long i2), .second, .val (.long i3), .second, .val (.long i4), .second, .val (.int i5), .val (.int rv), .val (.long ov), .second, .val (.long (i0 ^^^ (-1 : Int64))), .second, .val (.ref f), .val (.int (0 : Int32)), .val (.ref to), .val (.ref c2), .val (.ref cm), .val (.ref c1), .unset, .unset, .unset, .unset, .unset, .unset, .unset, .unset] []))
    obtain ⟨T23, h23, X23, e23, E23, A23, D23, -, st23⟩ := newO X21 hx hZ hown (hw _ (List.mem_of_getElem? (i := 28) rfl)) (hw _ (List.mem_of_getElem? (i := 11) rfl)) (hw _ (List.mem_of_getElem? (i := 3) rfl)) e21 (g := (mkF m 154 #[.val (.long i0), .second, .val (.long i1), .second, .val (.long i2), .second, .val (.long i3), .second, .val (.long i4), .second, .val (.int i5), .val (.int rv), .val (.long ov), .second, .val (.long (i0 ^^^ (-1 : Int64))), .second, .val (.ref f), .val (.int (0 : Int32)), .val (.ref to), .val (.ref c2), .val (.ref cm), .val (.ref c1), .unset, .unset, .unset, .unset, .unset, .unset, .unset, .unset] [])) rfl (hb hby at_154) (by decide) (by decide)
    obtain ⟨bd, g23⟩ : ∃ z, z = h21.size := ⟨_, rfl⟩
    have ne_f_bd : f ≠ bd := Nat.ne_of_lt (Nat.lt_of_lt_of_le E_f.lt (Nat.le_of_eq g23.symm))
    have ne_to_bd : to ≠ bd := Nat.ne_of_lt (Nat.lt_of_lt_of_le E_to.lt (Nat.le_of_eq g23.symm))
    have ne_c2_bd : c2 ≠ bd := Nat.ne_of_lt (Nat.lt_of_lt_of_le V_c2.lt (Nat.le_of_eq g23.symm))
    have ne_cm_bd : cm ≠ bd := Nat.ne_of_lt (Nat.lt_of_lt_of_le E_cm.lt (Nat.le_of_eq g23.symm))
    have ne_c1_bd : c1 ≠ bd := Nat.ne_of_lt (Nat.lt_of_lt_of_le V_c1.lt (Nat.le_of_eq g23.symm))
    have sz_bd : h0.size ≤ bd := (Nat.le_trans K22.1 (Nat.le_of_eq g23.symm))
    have g_bd : n0 ≤ bd := Nat.le_trans Z0 sz_bd
    rw [← g23] at A23 D23 st23
    replace E_f := E_f.ext E23
    replace E_to := E_to.ext E23
    replace V_c2 := V_c2.ext E23
    replace E_cm := E_cm.ext E23
    replace V_c1 := V_c1.ext E23
    have K24 := own_ext_tr K22 E23
    try clear E23
    try clear K22
    have E_bd := A23
    have F_value_bd : Fld Z h23 bd "java/lang/String" "value" "[B" .null := D23 (Or.inr (hw _ (List.mem_of_getElem? (i := 24) rfl))) (ty := (.array .byte)) (by decide)
    have F_coder_bd : Fld Z h23 bd "java/lang/String" "coder" "B" (.int (0 : Int32)) := D23 (Or.inr (hw _ (List.mem_of_getElem? (i := 26) rfl))) (ty := .byte) (by decide)
    refine own_st st23 ?_
    try clear st23
    try clear e21
    try clear X21
    try clear T21
    show own_Gl p e below _ (T23.setTop (mkF m 157 #[.val (.long i0), .second, .val (.long i1), .second, .val (.long i2), .second, .val (.long i3), .second, .val (.long i4), .second, .val (.int i5), .val (.int rv), .val (.long ov), .second, .val (.long (i0 ^^^ (-1 : Int64))), .second, .val (.ref f), .val (.int (0 : Int32)), .val (.ref to), .val (.ref c2), .val (.ref cm), .val (.ref c1), .unset, .unset, .unset, .unset, .unset, .unset, .unset, .unset] [(.ref bd)]))
    refine own_st (fun tg_ kg_ => XS.dup X23.here hx rfl (hb hby at_157) rfl rfl kg_) ?_
    show own_Gl p e below _ (T23.setTop (mkF m 158 #[.val (.long i0), .second, .val (.long i1), .second, .val (.long i2), .second, .val (.long i3), .second, .val (.long i4), .second, .val (.int i5), .val (.int rv), .val (.long ov), .second, .val (.long (i0 ^^^ (-1 : Int64))), .second, .val (.ref f), .val (.int (0 : Int32)), .val (.ref to), .val (.ref c2), .val (.ref cm), .val (.ref c1), .unset, .unset, .unset, .unset, .unset, .unset, .unset, .unset] [(.ref bd), (.ref bd)]))
    refine own_st (fun tg_ kg_ => XS.aload X23.here hx rfl (hb hby at_158) rfl rfl kg_) ?_
    show own_Gl p e below _ (T23.setTop (mkF m 160 #[.val (.long i0), .second, .val (.long i1), .second, .val (.long i2), .second, .val (.long i3), .second, .val (.long i4), .second, .val (.int i5), .val (.int rv), .val (.long ov), .second, .val (.long (i0 ^^^ (-1 : Int64))), .second, .val (.ref f), .val (.int (0 : Int32)), .val (.ref to), .val (.ref c2), .val (.ref cm), .val (.ref c1), .unset, .unset, .unset, .unset, .unset, .unset, .unset, .unset] [(.ref c1), (.ref bd), (.ref bd)]))
    have hpc : ∀ c ∈ ([((((i5.toUInt32 >>> ((3 : Int32) &&& 31).toUInt32).toInt32) &&& (255 : Int32)).toUInt32.toUInt16.toUInt32.toInt32)] : List Int32), ¬ c < 0 ∧ ¬ (255 : Int32) < c := (own_all (own_m8 ((i5.toUInt32 >>> ((3 : Int32) &&& 31).toUInt32).toInt32) 255 (by decide) (by decide)) (fun _ q => nomatch q))
    have V_p : Arv Z h23 c1 k18 .char (1 : Int32) (([((((i5.toUInt32 >>> ((3 : Int32) &&& 31).toUInt32).toInt32) &&& (255 : Int32)).toUInt32.toUInt16.toUInt32.toInt32)] : List Int32).map Value.int) (.int (0 : Int32)) := V_c1
    obtain ⟨_, _, ⟨T25, L25, k25, n25⟩, -, X25, ⟨Lc25, hQ25, l25, y25, z25⟩, st25⟩ := X23.specialBack hx (y := (⟨"java/lang/String", "<init>", "([C)V"⟩ : MethodName)) rfl hown (mvT hZ (hw _ (List.mem_of_getElem? (i := 29) rfl))) (mvT hZ (hw _ (List.mem_of_getElem? (i := 30) rfl))) (mvT hZ (hw _ (List.mem_of_getElem? (i := 31) rfl))) (by decide) (StrChars.Road.backV (W := 1) hZ (own_hws hw) (kI := 4) (hw _ (List.mem_of_getElem? (i := 11) rfl)) (cs := [((((i5.toUInt32 >>> ((3 : Int32) &&& 31).toUInt32).toInt32) &&& (255 : Int32)).toUInt32.toUInt16.toUInt32.toInt32)]) (bs := ([((((i5.toUInt32 >>> ((3 : Int32) &&& 31).toUInt32).toInt32) &&& (255 : Int32)).toUInt32.toUInt16.toUInt32.toInt32)] : List Int32).map (fun c => c.toInt8.toInt32)) (n := 1) g_bd (Nat.le_trans Z0 K24.1) E_bd F_value_bd F_coder_bd V_p (S_C.ext K24) hzc rfl rfl (by decide) (by decide) hpc rfl (by decide) (by decide)) (g := (mkF m 160 #[.val (.long i0), .second, .val (.long i1), .second, .val (.long i2), .second, .val (.long i3), .second, .val (.long i4), .second, .val (.int i5), .val (.int rv), .val (.long ov), .second, .val (.long (i0 ^^^ (-1 : Int64))), .second, .val (.ref f), .val (.int (0 : Int32)), .val (.ref to), .val (.ref c2), .val (.ref cm), .val (.ref c1), .unset, .unset, .unset, .unset, .unset, .unset, .unset, .unset] [(.ref c1), (.ref bd), (.ref bd)])) rfl (by rw [hml]; rfl) (Steps.refl _) (a := bd) (argsL := [(.ref c1)]) (rest := [(.ref bd)]) (lenOf own_pd5 rfl) rfl (by show 2 * 0 + _ ≤ _; exact Nat.le_of_eq rfl) (hb hby at_160) (fun _ _ => ⟨rfl, e23, (by decide : 9 + 1 ≤ _), (by decide : 23 + 1 ≤ _)⟩)
    dsimp only [Pt.U, Pt.locs, Pt.cells, Pt.slots] at X25 l25 y25 z25 st25 hQ25
    obtain rfl : k25 = 10 := y25
    obtain rfl : n25 = 24 := z25
    obtain ⟨rfl, N25q, Kc25, -⟩ := hQ25
    have N25 : Fr n0 L25 := by rw [l25]; exact Fr.app N21 N25q
    try clear l25
    refine own_tr st25 ?_
    replace E_f := E_f.keep Kc25
    replace E_to := E_to.keep Kc25
    replace V_c2 := V_c2.keep Kc25 (ninS ne_c2_bd nin0)
    replace E_cm := E_cm.keep Kc25
    replace V_c1 := V_c1.keep Kc25 (ninS ne_c1_bd nin0)
    replace E_bd := E_bd.keep Kc25
    have K26 := own_ext_keep K24 Kc25 (allS sz_bd all0)
    try clear Kc25
    try clear K24
    show own_Gl p e below _ (T25.setTop (mkF m 163 #[.val (.long i0), .second, .val (.long i1), .second, .val (.long i2), .second, .val (.long i3), .second, .val (.long i4), .second, .val (.int i5), .val (.int rv), .val (.long ov), .second, .val (.long (i0 ^^^ (-1 : Int64))), .second, .val (.ref f), .val (.int (0 : Int32)), .val (.ref to), .val (.ref c2), .val (.ref cm), .val (.ref c1), .unset, .unset, .unset, .unset, .unset, .unset, .unset, .unset] [(.ref bd)]))
    try clear st25
    try clear N25q
    try clear N21
    try clear e23
    try clear X23
    try clear T23
    refine own_st (fun tg_ kg_ => XS.astore X25.here hx rfl (hb hby at_163) rfl rfl (l' := #[.val (.long i0), .second, .val (.long i1), .second, .val (.long i2), .second, .val (.long i3), .second, .val (.long i4), .second, .val (.int i5), .val (.int rv), .val (.long ov), .second, .val (.long (i0 ^^^ (-1 : Int64))), .second, .val (.ref f), .val (.int (0 : Int32)), .val (.ref to), .val (.ref c2), .val (.ref cm), .val (.ref c1), .val (.ref bd), .unset, .unset, .unset, .unset, .unset, .unset, .unset]) rfl kg_) ?_
    show own_Gl p e below _ (T25.setTop (mkF m 165 #[.val (.long i0), .second, .val (.long i1), .second, .val (.long i2), .second, .val (.long i3), .second, .val (.long i4), .second, .val (.int i5), .val (.int rv), .val (.long ov), .second, .val (.long (i0 ^^^ (-1 : Int64))), .second, .val (.ref f), .val (.int (0 : Int32)), .val (.ref to), .val (.ref c2), .val (.ref cm), .val (.ref c1), .val (.ref bd), .unset, .unset, .unset, .unset, .unset, .unset, .unset] []))
    obtain ⟨T27, h27, X27, e27, E27, A27, D27, -, st27⟩ := newO X25 hx hZ hown (hw _ (List.mem_of_getElem? (i := 45) rfl)) (hw _ (List.mem_of_getElem? (i := 46) rfl)) (hw _ (List.mem_of_getElem? (i := 47) rfl)) rfl (g := (mkF m 165 #[.val (.long i0), .second, .val (.long i1), .second, .val (.long i2), .second, .val (.long i3), .second, .val (.long i4), .second, .val (.int i5), .val (.int rv), .val (.long ov), .second, .val (.long (i0 ^^^ (-1 : Int64))), .second, .val (.ref f), .val (.int (0 : Int32)), .val (.ref to), .val (.ref c2), .val (.ref cm), .val (.ref c1), .val (.ref bd), .unset, .unset, .unset, .unset, .unset, .unset, .unset] [])) rfl (hb hby at_165) (by decide) (by decide)
    obtain ⟨a, g27⟩ : ∃ z, z = T25.heap.size := ⟨_, rfl⟩
    have ne_f_a : f ≠ a := Nat.ne_of_lt (Nat.lt_of_lt_of_le E_f.lt (Nat.le_of_eq g27.symm))
    have ne_to_a : to ≠ a := Nat.ne_of_lt (Nat.lt_of_lt_of_le E_to.lt (Nat.le_of_eq g27.symm))
    have ne_c2_a : c2 ≠ a := Nat.ne_of_lt (Nat.lt_of_lt_of_le V_c2.lt (Nat.le_of_eq g27.symm))
    have ne_cm_a : cm ≠ a := Nat.ne_of_lt (Nat.lt_of_lt_of_le E_cm.lt (Nat.le_of_eq g27.symm))
    have ne_c1_a : c1 ≠ a := Nat.ne_of_lt (Nat.lt_of_lt_of_le V_c1.lt (Nat.le_of_eq g27.symm))
    have ne_bd_a : bd ≠ a := Nat.ne_of_lt (Nat.lt_of_lt_of_le E_bd.lt (Nat.le_of_eq g27.symm))
    have sz_a : h0.size ≤ a := (Nat.le_trans K26.1 (Nat.le_of_eq g27.symm))
    have g_a : n0 ≤ a := Nat.le_trans Z0 sz_a
    rw [← g27] at A27 D27 st27
    replace E_f := E_f.ext E27
    replace E_to := E_to.ext E27
    replace V_c2 := V_c2.ext E27
    replace E_cm := E_cm.ext E27
    replace V_c1 := V_c1.ext E27
    replace E_bd := E_bd.ext E27
    have K28 := own_ext_tr K26 E27
    try clear E27
    try clear K26
    have E_a := A27
    have F_serverMsgId_a : Fld Z h27 a "com/example/highwater/highwater/store/StoredMessage" "serverMsgId" "J" (.long (0 : Int64)) := D27 (Or.inr (hw _ (List.mem_of_getElem? (i := 53) rfl))) (ty := .long) (by decide)
    have F_conversationId_a : Fld Z h27 a "com/example/highwater/highwater/store/StoredMessage" "conversationId" "J" (.long (0 : Int64)) := D27 (Or.inr (hw _ (List.mem_of_getElem? (i := 55) rfl))) (ty := .long) (by decide)
    have F_msgSeq_a : Fld Z h27 a "com/example/highwater/highwater/store/StoredMessage" "msgSeq" "J" (.long (0 : Int64)) := D27 (Or.inr (hw _ (List.mem_of_getElem? (i := 57) rfl))) (ty := .long) (by decide)
    have F_from_a : Fld Z h27 a "com/example/highwater/highwater/store/StoredMessage" "from" "Ljava/lang/String;" .null := D27 (Or.inr (hw _ (List.mem_of_getElem? (i := 59) rfl))) (ty := (.object "java/lang/String")) (by decide)
    have F_to_a : Fld Z h27 a "com/example/highwater/highwater/store/StoredMessage" "to" "Ljava/lang/String;" .null := D27 (Or.inr (hw _ (List.mem_of_getElem? (i := 61) rfl))) (ty := (.object "java/lang/String")) (by decide)
    have F_groupId_a : Fld Z h27 a "com/example/highwater/highwater/store/StoredMessage" "groupId" "J" (.long (0 : Int64)) := D27 (Or.inr (hw _ (List.mem_of_getElem? (i := 63) rfl))) (ty := .long) (by decide)
    have F_clientMsgId_a : Fld Z h27 a "com/example/highwater/highwater/store/StoredMessage" "clientMsgId" "Ljava/lang/String;" .null := D27 (Or.inr (hw _ (List.mem_of_getElem? (i := 65) rfl))) (ty := (.object "java/lang/String")) (by decide)
    have F_body_a : Fld Z h27 a "com/example/highwater/highwater/store/StoredMessage" "body" "Ljava/lang/String;" .null := D27 (Or.inr (hw _ (List.mem_of_getElem? (i := 67) rfl))) (ty := (.object "java/lang/String")) (by decide)
    have F_ts_a : Fld Z h27 a "com/example/highwater/highwater/store/StoredMessage" "ts" "J" (.long (0 : Int64)) := D27 (Or.inr (hw _ (List.mem_of_getElem? (i := 69) rfl))) (ty := .long) (by decide)
    have F_revoked_a : Fld Z h27 a "com/example/highwater/highwater/store/StoredMessage" "revoked" "Z" (.int (0 : Int32)) := D27 (Or.inr (hw _ (List.mem_of_getElem? (i := 71) rfl))) (ty := .boolean) (by decide)
    have F_revokedTs_a : Fld Z h27 a "com/example/highwater/highwater/store/StoredMessage" "revokedTs" "J" (.long (0 : Int64)) := D27 (Or.inr (hw _ (List.mem_of_getElem? (i := 73) rfl))) (ty := .long) (by decide)
    refine own_st st27 ?_
    try clear st27
    try clear X25
    try clear T25
    show own_Gl p e below _ (T27.setTop (mkF m 168 #[.val (.long i0), .second, .val (.long i1), .second, .val (.long i2), .second, .val (.long i3), .second, .val (.long i4), .second, .val (.int i5), .val (.int rv), .val (.long ov), .second, .val (.long (i0 ^^^ (-1 : Int64))), .second, .val (.ref f), .val (.int (0 : Int32)), .val (.ref to), .val (.ref c2), .val (.ref cm), .val (.ref c1), .val (.ref bd), .unset, .unset, .unset, .unset, .unset, .unset, .unset] [(.ref a)]))
    refine own_st (fun tg_ kg_ => XS.dup X27.here hx rfl (hb hby at_168) rfl rfl kg_) ?_
    show own_Gl p e below _ (T27.setTop (mkF m 169 #[.val (.long i0), .second, .val (.long i1), .second, .val (.long i2), .second, .val (.long i3), .second, .val (.long i4), .second, .val (.int i5), .val (.int rv), .val (.long ov), .second, .val (.long (i0 ^^^ (-1 : Int64))), .second, .val (.ref f), .val (.int (0 : Int32)), .val (.ref to), .val (.ref c2), .val (.ref cm), .val (.ref c1), .val (.ref bd), .unset, .unset, .unset, .unset, .unset, .unset, .unset] [(.ref a), (.ref a)]))
    refine own_st (fun tg_ kg_ => XS.lloadN X27.here hx rfl (hb hby at_169) rfl kg_) ?_
    show own_Gl p e below _ (T27.setTop (mkF m 170 #[.val (.long i0), .second, .val (.long i1), .second, .val (.long i2), .second, .val (.long i3), .second, .val (.long i4), .second, .val (.int i5), .val (.int rv), .val (.long ov), .second, .val (.long (i0 ^^^ (-1 : Int64))), .second, .val (.ref f), .val (.int (0 : Int32)), .val (.ref to), .val (.ref c2), .val (.ref cm), .val (.ref c1), .val (.ref bd), .unset, .unset, .unset, .unset, .unset, .unset, .unset] [(.long i0), (.ref a), (.ref a)]))
    refine own_st (fun tg_ kg_ => XS.lloadN X27.here hx rfl (hb hby at_170) rfl kg_) ?_
    show own_Gl p e below _ (T27.setTop (mkF m 171 #[.val (.long i0), .second, .val (.long i1), .second, .val (.long i2), .second, .val (.long i3), .second, .val (.long i4), .second, .val (.int i5), .val (.int rv), .val (.long ov), .second, .val (.long (i0 ^^^ (-1 : Int64))), .second, .val (.ref f), .val (.int (0 : Int32)), .val (.ref to), .val (.ref c2), .val (.ref cm), .val (.ref c1), .val (.ref bd), .unset, .unset, .unset, .unset, .unset, .unset, .unset] [(.long i1), (.long i0), (.ref a), (.ref a)]))
    refine own_st (fun tg_ kg_ => XS.lload X27.here hx rfl (hb hby at_171) rfl kg_) ?_
    show own_Gl p e below _ (T27.setTop (mkF m 173 #[.val (.long i0), .second, .val (.long i1), .second, .val (.long i2), .second, .val (.long i3), .second, .val (.long i4), .second, .val (.int i5), .val (.int rv), .val (.long ov), .second, .val (.long (i0 ^^^ (-1 : Int64))), .second, .val (.ref f), .val (.int (0 : Int32)), .val (.ref to), .val (.ref c2), .val (.ref cm), .val (.ref c1), .val (.ref bd), .unset, .unset, .unset, .unset, .unset, .unset, .unset] [(.long i2), (.long i1), (.long i0), (.ref a), (.ref a)]))
    refine own_st (fun tg_ kg_ => XS.aload X27.here hx rfl (hb hby at_173) rfl rfl kg_) ?_
    show own_Gl p e below _ (T27.setTop (mkF m 175 #[.val (.long i0), .second, .val (.long i1), .second, .val (.long i2), .second, .val (.long i3), .second, .val (.long i4), .second, .val (.int i5), .val (.int rv), .val (.long ov), .second, .val (.long (i0 ^^^ (-1 : Int64))), .second, .val (.ref f), .val (.int (0 : Int32)), .val (.ref to), .val (.ref c2), .val (.ref cm), .val (.ref c1), .val (.ref bd), .unset, .unset, .unset, .unset, .unset, .unset, .unset] [(.ref f), (.long i2), (.long i1), (.long i0), (.ref a), (.ref a)]))
    refine own_st (fun tg_ kg_ => XS.aload X27.here hx rfl (hb hby at_175) rfl rfl kg_) ?_
    show own_Gl p e below _ (T27.setTop (mkF m 177 #[.val (.long i0), .second, .val (.long i1), .second, .val (.long i2), .second, .val (.long i3), .second, .val (.long i4), .second, .val (.int i5), .val (.int rv), .val (.long ov), .second, .val (.long (i0 ^^^ (-1 : Int64))), .second, .val (.ref f), .val (.int (0 : Int32)), .val (.ref to), .val (.ref c2), .val (.ref cm), .val (.ref c1), .val (.ref bd), .unset, .unset, .unset, .unset, .unset, .unset, .unset] [(.ref to), (.ref f), (.long i2), (.long i1), (.long i0), (.ref a), (.ref a)]))
    refine own_st (fun tg_ kg_ => XS.lload X27.here hx rfl (hb hby at_177) rfl kg_) ?_
    show own_Gl p e below _ (T27.setTop (mkF m 179 #[.val (.long i0), .second, .val (.long i1), .second, .val (.long i2), .second, .val (.long i3), .second, .val (.long i4), .second, .val (.int i5), .val (.int rv), .val (.long ov), .second, .val (.long (i0 ^^^ (-1 : Int64))), .second, .val (.ref f), .val (.int (0 : Int32)), .val (.ref to), .val (.ref c2), .val (.ref cm), .val (.ref c1), .val (.ref bd), .unset, .unset, .unset, .unset, .unset, .unset, .unset] [(.long i3), (.ref to), (.ref f), (.long i2), (.long i1), (.long i0), (.ref a), (.ref a)]))
    refine own_st (fun tg_ kg_ => XS.aload X27.here hx rfl (hb hby at_179) rfl rfl kg_) ?_
    show own_Gl p e below _ (T27.setTop (mkF m 181 #[.val (.long i0), .second, .val (.long i1), .second, .val (.long i2), .second, .val (.long i3), .second, .val (.long i4), .second, .val (.int i5), .val (.int rv), .val (.long ov), .second, .val (.long (i0 ^^^ (-1 : Int64))), .second, .val (.ref f), .val (.int (0 : Int32)), .val (.ref to), .val (.ref c2), .val (.ref cm), .val (.ref c1), .val (.ref bd), .unset, .unset, .unset, .unset, .unset, .unset, .unset] [(.ref cm), (.long i3), (.ref to), (.ref f), (.long i2), (.long i1), (.long i0), (.ref a), (.ref a)]))
    refine own_st (fun tg_ kg_ => XS.aload X27.here hx rfl (hb hby at_181) rfl rfl kg_) ?_
    show own_Gl p e below _ (T27.setTop (mkF m 183 #[.val (.long i0), .second, .val (.long i1), .second, .val (.long i2), .second, .val (.long i3), .second, .val (.long i4), .second, .val (.int i5), .val (.int rv), .val (.long ov), .second, .val (.long (i0 ^^^ (-1 : Int64))), .second, .val (.ref f), .val (.int (0 : Int32)), .val (.ref to), .val (.ref c2), .val (.ref cm), .val (.ref c1), .val (.ref bd), .unset, .unset, .unset, .unset, .unset, .unset, .unset] [(.ref bd), (.ref cm), (.long i3), (.ref to), (.ref f), (.long i2), (.long i1), (.long i0), (.ref a), (.ref a)]))
    refine own_st (fun tg_ kg_ => XS.lload X27.here hx rfl (hb hby at_183) rfl kg_) ?_
    show own_Gl p e below _ (T27.setTop (mkF m 185 #[.val (.long i0), .second, .val (.long i1), .second, .val (.long i2), .second, .val (.long i3), .second, .val (.long i4), .second, .val (.int i5), .val (.int rv), .val (.long ov), .second, .val (.long (i0 ^^^ (-1 : Int64))), .second, .val (.ref f), .val (.int (0 : Int32)), .val (.ref to), .val (.ref c2), .val (.ref cm), .val (.ref c1), .val (.ref bd), .unset, .unset, .unset, .unset, .unset, .unset, .unset] [(.long (i0 ^^^ (-1 : Int64))), (.ref bd), (.ref cm), (.long i3), (.ref to), (.ref f), (.long i2), (.long i1), (.long i0), (.ref a), (.ref a)]))
    refine own_st (fun tg_ kg_ => XS.iload X27.here hx rfl (hb hby at_185) rfl kg_) ?_
    show own_Gl p e below _ (T27.setTop (mkF m 187 #[.val (.long i0), .second, .val (.long i1), .second, .val (.long i2), .second, .val (.long i3), .second, .val (.long i4), .second, .val (.int i5), .val (.int rv), .val (.long ov), .second, .val (.long (i0 ^^^ (-1 : Int64))), .second, .val (.ref f), .val (.int (0 : Int32)), .val (.ref to), .val (.ref c2), .val (.ref cm), .val (.ref c1), .val (.ref bd), .unset, .unset, .unset, .unset, .unset, .unset, .unset] [(.int rv), (.long (i0 ^^^ (-1 : Int64))), (.ref bd), (.ref cm), (.long i3), (.ref to), (.ref f), (.long i2), (.long i1), (.long i0), (.ref a), (.ref a)]))
    refine own_st (fun tg_ kg_ => XS.lload X27.here hx rfl (hb hby at_187) rfl kg_) ?_
    show own_Gl p e below _ (T27.setTop (mkF m 189 #[.val (.long i0), .second, .val (.long i1), .second, .val (.long i2), .second, .val (.long i3), .second, .val (.long i4), .second, .val (.int i5), .val (.int rv), .val (.long ov), .second, .val (.long (i0 ^^^ (-1 : Int64))), .second, .val (.ref f), .val (.int (0 : Int32)), .val (.ref to), .val (.ref c2), .val (.ref cm), .val (.ref c1), .val (.ref bd), .unset, .unset, .unset, .unset, .unset, .unset, .unset] [(.long ov), (.int rv), (.long (i0 ^^^ (-1 : Int64))), (.ref bd), (.ref cm), (.long i3), (.ref to), (.ref f), (.long i2), (.long i1), (.long i0), (.ref a), (.ref a)]))
    obtain ⟨_, _, ⟨T29, L29, k29, n29⟩, -, X29, ⟨Lc29, hQ29, l29, y29, z29⟩, st29⟩ := X27.specialBack hx (y := (⟨"com/example/highwater/highwater/store/StoredMessage", "<init>", "(JJJLjava/lang/String;Ljava/lang/String;JLjava/lang/String;Ljava/lang/String;JZJ)V"⟩ : MethodName)) rfl hown (mvT hZ (hw _ (List.mem_of_getElem? (i := 48) rfl))) (mvT hZ (hw _ (List.mem_of_getElem? (i := 49) rfl))) (mvT hZ (hw _ (List.mem_of_getElem? (i := 50) rfl))) (by decide) (backOf (W := 1) (own_rm_smiR l Z a0 hw [] a f to cm bd i0 i1 i2 i3 (i0 ^^^ (-1 : Int64)) ov rv h27 n0 (Nat.le_trans Z0 K28.1) E_a F_serverMsgId_a F_conversationId_a F_msgSeq_a F_from_a F_to_a F_groupId_a F_clientMsgId_a F_body_a F_ts_a F_revoked_a F_revokedTs_a g_a) hZ (hw _ (List.mem_of_getElem? (i := 50) rfl)) (hw _ (List.mem_of_getElem? (i := 47) rfl)) (by decide) (by decide)) (g := (mkF m 189 #[.val (.long i0), .second, .val (.long i1), .second, .val (.long i2), .second, .val (.long i3), .second, .val (.long i4), .second, .val (.int i5), .val (.int rv), .val (.long ov), .second, .val (.long (i0 ^^^ (-1 : Int64))), .second, .val (.ref f), .val (.int (0 : Int32)), .val (.ref to), .val (.ref c2), .val (.ref cm), .val (.ref c1), .val (.ref bd), .unset, .unset, .unset, .unset, .unset, .unset, .unset] [(.long ov), (.int rv), (.long (i0 ^^^ (-1 : Int64))), (.ref bd), (.ref cm), (.long i3), (.ref to), (.ref f), (.long i2), (.long i1), (.long i0), (.ref a), (.ref a)])) rfl (by rw [hml]; rfl) (Steps.refl _) (a := a) (argsL := [(.long i0), (.long i1), (.long i2), (.ref f), (.ref to), (.long i3), (.ref cm), (.ref bd), (.long (i0 ^^^ (-1 : Int64))), (.int rv), (.long ov)]) (rest := [(.ref a)]) (lenOf own_pd3 rfl) rfl (by show 2 * 0 + _ ≤ _; exact Nat.le_of_eq rfl) (hb hby at_189) (fun _ _ => ⟨rfl, e27, (by decide : 11 + 0 ≤ _), (by decide : 35 + 0 ≤ _)⟩)
    dsimp only [Pt.U, Pt.locs, Pt.cells, Pt.slots] at X29 l29 y29 z29 st29 hQ29
    obtain rfl : k29 = 11 := y29
    obtain rfl : n29 = 35 := z29
    obtain ⟨rfl, N29q, Kc29, F_serverMsgId, F_conversationId, F_msgSeq, F_from, F_to, F_groupId, F_clientMsgId, F_body, F_ts, F_revoked, F_revokedTs⟩ := hQ29
    have N29 : Fr n0 L29 := by rw [l29]; exact Fr.app N25 N29q
    try clear l29
    refine own_tr st29 ?_
    replace E_f := E_f.keep Kc29
    replace E_to := E_to.keep Kc29
    replace V_c2 := V_c2.keep Kc29 (ninS ne_c2_a nin0)
    replace E_cm := E_cm.keep Kc29
    replace V_c1 := V_c1.keep Kc29 (ninS ne_c1_a nin0)
    replace E_bd := E_bd.keep Kc29
    replace E_a := E_a.keep Kc29
    have K30 := own_ext_keep K28 Kc29 (allS sz_a all0)
    try clear Kc29
    try clear K28
    show own_Gl p e below _ (T29.setTop (mkF m 192 #[.val (.long i0), .second, .val (.long i1), .second, .val (.long i2), .second, .val (.long i3), .second, .val (.long i4), .second, .val (.int i5), .val (.int rv), .val (.long ov), .second, .val (.long (i0 ^^^ (-1 : Int64))), .second, .val (.ref f), .val (.int (0 : Int32)), .val (.ref to), .val (.ref c2), .val (.ref cm), .val (.ref c1), .val (.ref bd), .unset, .unset, .unset, .unset, .unset, .unset, .unset] [(.ref a)]))
    try clear st29
    try clear N29q
    try clear N25
    try clear e27
    try clear X27
    try clear T27
    refine own_st (fun tg_ kg_ => XS.astore X29.here hx rfl (hb hby at_192) rfl rfl (l' := #[.val (.long i0), .second, .val (.long i1), .second, .val (.long i2), .second, .val (.long i3), .second, .val (.long i4), .second, .val (.int i5), .val (.int rv), .val (.long ov), .second, .val (.long (i0 ^^^ (-1 : Int64))), .second, .val (.ref f), .val (.int (0 : Int32)), .val (.ref to), .val (.ref c2), .val (.ref cm), .val (.ref c1), .val (.ref bd), .val (.ref a), .unset, .unset, .unset, .unset, .unset, .unset]) rfl kg_) ?_
    show own_Gl p e below _ (T29.setTop (mkF m 194 #[.val (.long i0), .second, .val (.long i1), .second, .val (.long i2), .second, .val (.long i3), .second, .val (.long i4), .second, .val (.int i5), .val (.int rv), .val (.long ov), .second, .val (.long (i0 ^^^ (-1 : Int64))), .second, .val (.ref f), .val (.int (0 : Int32)), .val (.ref to), .val (.ref c2), .val (.ref cm), .val (.ref c1), .val (.ref bd), .val (.ref a), .unset, .unset, .unset, .unset, .unset, .unset] []))
    refine own_st (fun tg_ kg_ => XS.aload X29.here hx rfl (hb hby at_194) rfl rfl kg_) ?_
    show own_Gl p e below _ (T29.setTop (mkF m 196 #[.val (.long i0), .second, .val (.long i1), .second, .val (.long i2), .second, .val (.long i3), .second, .val (.long i4), .second, .val (.int i5), .val (.int rv), .val (.long ov), .second, .val (.long (i0 ^^^ (-1 : Int64))), .second, .val (.ref f), .val (.int (0 : Int32)), .val (.ref to), .val (.ref c2), .val (.ref cm), .val (.ref c1), .val (.ref bd), .val (.ref a), .unset, .unset, .unset, .unset, .unset, .unset] [(.ref a)]))
    refine own_st (fun tg_ kg_ => XS.lload X29.here hx rfl (hb hby at_196) rfl kg_) ?_
    show own_Gl p e below _ (T29.setTop (mkF m 198 #[.val (.long i0), .second, .val (.long i1), .second, .val (.long i2), .second, .val (.long i3), .second, .val (.long i4), .second, .val (.int i5), .val (.int rv), .val (.long ov), .second, .val (.long (i0 ^^^ (-1 : Int64))), .second, .val (.ref f), .val (.int (0 : Int32)), .val (.ref to), .val (.ref c2), .val (.ref cm), .val (.ref c1), .val (.ref bd), .val (.ref a), .unset, .unset, .unset, .unset, .unset, .unset] [(.long i4), (.ref a)]))
    obtain ⟨cq31, kq31, q31a, q31b, q31c⟩ := isOf hZ rfl E_a
    obtain ⟨_, _, ⟨T31, L31, k31, n31⟩, -, X31, hS31, hg31, ⟨Lc31, hQ31, l31, y31, z31, CC31⟩, st31⟩ := X29.virtualBackS hx (y := (⟨"com/example/highwater/highwater/store/StoredMessage", "revokedAt", "(J)Lcom/example/highwater/highwater/store/StoredMessage;"⟩ : MethodName)) (z := (⟨"com/example/highwater/highwater/store/StoredMessage", "revokedAt", "(J)Lcom/example/highwater/highwater/store/StoredMessage;"⟩ : MethodName)) hown (mvT hZ (hw _ (List.mem_of_getElem? (i := 74) rfl))) (mvT hZ (hw _ (List.mem_of_getElem? (i := 75) rfl))) (notFace_of_selects (args := #[]) (mvT hZ (hw _ (List.mem_of_getElem? (i := 77) rfl)))) (mvT hZ (hw _ (List.mem_of_getElem? (i := 77) rfl))) (mvT hZ (hw _ (List.mem_of_getElem? (i := 76) rfl))) (by decide) (backOfSH (W := 0) (own_rm_revR l Z a0 hw [] a f to cm bd i0 i1 i2 i3 (i0 ^^^ (-1 : Int64)) ov i4 rv T29.heap n0 (Nat.le_trans Z0 K30.1) F_serverMsgId F_conversationId F_msgSeq F_from F_to F_groupId F_clientMsgId F_body F_ts F_revoked F_revokedTs) hZ (hw _ (List.mem_of_getElem? (i := 78) rfl)) (hw _ (List.mem_of_getElem? (i := 47) rfl)) (by decide) (by decide) hEL (CHv.ext K30 hCH)) q31a q31c (g := (mkF m 198 #[.val (.long i0), .second, .val (.long i1), .second, .val (.long i2), .second, .val (.long i3), .second, .val (.long i4), .second, .val (.int i5), .val (.int rv), .val (.long ov), .second, .val (.long (i0 ^^^ (-1 : Int64))), .second, .val (.ref f), .val (.int (0 : Int32)), .val (.ref to), .val (.ref c2), .val (.ref cm), .val (.ref c1), .val (.ref bd), .val (.ref a), .unset, .unset, .unset, .unset, .unset, .unset] [(.long i4), (.ref a)])) rfl (by rw [hml]; rfl) (Steps.refl _) (argsL := [(.long i4)]) (rest := []) (lenOf own_pd6 rfl) rfl (by show 2 * 0 + _ ≤ _; exact Nat.le_of_eq rfl) (hb hby at_198) (fun _ _ => ⟨rfl, rfl, (by decide : 11 + 3 ≤ _), (by decide : 35 + 15 ≤ _)⟩)
    dsimp only [Pt.U, Pt.locs, Pt.cells, Pt.slots] at X31 hS31 hg31 l31 y31 z31 st31 hQ31 CC31
    obtain rfl : k31 = 14 := y31
    obtain rfl : n31 = 50 := z31
    obtain ⟨⟨b, lit, t, kt, rfl, szc31, E_b, E_lit, Fv_lit, V_t, G_serverMsgId, G_conversationId, G_msgSeq, G_from, G_to, G_groupId, G_clientMsgId, G_body, G_ts, G_revoked, G_revokedTs⟩, N31q, Kc31⟩ := hQ31
    have N31 : Fr n0 L31 := by rw [l31]; exact Fr.app N29 N31q
    try clear l31
    obtain ⟨X31, hSb31, hZ, hown⟩ := rebS hS0 (Nat.zero_le _) X31 hS31 hg31 hZ hown
    have hk := Nat.le_refl T31.heap.size
    refine own_tr st31 ?_
    have ne_f_b : f ≠ b := Nat.ne_of_lt (Nat.lt_of_lt_of_le E_f.lt szc31)
    have ne_to_b : to ≠ b := Nat.ne_of_lt (Nat.lt_of_lt_of_le E_to.lt szc31)
    have ne_c2_b : c2 ≠ b := Nat.ne_of_lt (Nat.lt_of_lt_of_le V_c2.lt szc31)
    have ne_cm_b : cm ≠ b := Nat.ne_of_lt (Nat.lt_of_lt_of_le E_cm.lt szc31)
    have ne_c1_b : c1 ≠ b := Nat.ne_of_lt (Nat.lt_of_lt_of_le V_c1.lt szc31)
    have ne_bd_b : bd ≠ b := Nat.ne_of_lt (Nat.lt_of_lt_of_le E_bd.lt szc31)
    have ne_a_b : a ≠ b := Nat.ne_of_lt (Nat.lt_of_lt_of_le E_a.lt szc31)
    have sz_b : h0.size ≤ b := Nat.le_trans K30.1 szc31
    have g_b : n0 ≤ b := Nat.le_trans Z0 sz_b
    replace E_f := E_f.ext Kc31
    replace E_to := E_to.ext Kc31
    replace V_c2 := V_c2.ext Kc31
    replace E_cm := E_cm.ext Kc31
    replace V_c1 := V_c1.ext Kc31
    replace E_bd := E_bd.ext Kc31
    replace E_a := E_a.ext Kc31
    replace F_serverMsgId := F_serverMsgId.ext Kc31
    replace F_conversationId := F_conversationId.ext Kc31
    replace F_msgSeq := F_msgSeq.ext Kc31
    replace F_from := F_from.ext Kc31
    replace F_to := F_to.ext Kc31
    replace F_groupId := F_groupId.ext Kc31
    replace F_clientMsgId := F_clientMsgId.ext Kc31
    replace F_body := F_body.ext Kc31
    replace F_ts := F_ts.ext Kc31
    replace F_revoked := F_revoked.ext Kc31
    replace F_revokedTs := F_revokedTs.ext Kc31
    have K32 := own_ext_tr K30 Kc31
    try clear Kc31
    try clear K30
    show own_Gl p e below _ (T31.setTop (mkF m 201 #[.val (.long i0), .second, .val (.long i1), .second, .val (.long i2), .second, .val (.long i3), .second, .val (.long i4), .second, .val (.int i5), .val (.int rv), .val (.long ov), .second, .val (.long (i0 ^^^ (-1 : Int64))), .second, .val (.ref f), .val (.int (0 : Int32)), .val (.ref to), .val (.ref c2), .val (.ref cm), .val (.ref c1), .val (.ref bd), .val (.ref a), .unset, .unset, .unset, .unset, .unset, .unset] [(.ref b)]))
    refine own_st (fun tg_ kg_ => XS.astore X31.here hx rfl (hb hby at_201) rfl rfl (l' := #[.val (.long i0), .second, .val (.long i1), .second, .val (.long i2), .second, .val (.long i3), .second, .val (.long i4), .second, .val (.int i5), .val (.int rv), .val (.long ov), .second, .val (.long (i0 ^^^ (-1 : Int64))), .second, .val (.ref f), .val (.int (0 : Int32)), .val (.ref to), .val (.ref c2), .val (.ref cm), .val (.ref c1), .val (.ref bd), .val (.ref a), .val (.ref b), .unset, .unset, .unset, .unset, .unset]) rfl kg_) ?_
    show own_Gl p e below _ (T31.setTop (mkF m 203 #[.val (.long i0), .second, .val (.long i1), .second, .val (.long i2), .second, .val (.long i3), .second, .val (.long i4), .second, .val (.int i5), .val (.int rv), .val (.long ov), .second, .val (.long (i0 ^^^ (-1 : Int64))), .second, .val (.ref f), .val (.int (0 : Int32)), .val (.ref to), .val (.ref c2), .val (.ref cm), .val (.ref c1), .val (.ref bd), .val (.ref a), .val (.ref b), .unset, .unset, .unset, .unset, .unset] []))
    refine own_st (fun tg_ kg_ => XS.aload X31.here hx rfl (hb hby at_203) rfl rfl kg_) ?_
    show own_Gl p e below _ (T31.setTop (mkF m 205 #[.val (.long i0), .second, .val (.long i1), .second, .val (.long i2), .second, .val (.long i3), .second, .val (.long i4), .second, .val (.int i5), .val (.int rv), .val (.long ov), .second, .val (.long (i0 ^^^ (-1 : Int64))), .second, .val (.ref f), .val (.int (0 : Int32)), .val (.ref to), .val (.ref c2), .val (.ref cm), .val (.ref c1), .val (.ref bd), .val (.ref a), .val (.ref b), .unset, .unset, .unset, .unset, .unset] [(.ref b)]))
    refine own_st (fun tg_ kg_ => XT.nonnullYes X31.here hx rfl (pc0 := 205) (pc' := 210) rfl (hb hby at_205) rfl rfl nofun (by decide) (by decide) kg_) ?_
    show own_Gl p e below _ (T31.setTop (mkF m 210 #[.val (.long i0), .second, .val (.long i1), .second, .val (.long i2), .second, .val (.long i3), .second, .val (.long i4), .second, .val (.int i5), .val (.int rv), .val (.long ov), .second, .val (.long (i0 ^^^ (-1 : Int64))), .second, .val (.ref f), .val (.int (0 : Int32)), .val (.ref to), .val (.ref c2), .val (.ref cm), .val (.ref c1), .val (.ref bd), .val (.ref a), .val (.ref b), .unset, .unset, .unset, .unset, .unset] []))
    refine own_st (fun tg_ kg_ => XS.aload X31.here hx rfl (hb hby at_210) rfl rfl kg_) ?_
    show own_Gl p e below _ (T31.setTop (mkF m 212 #[.val (.long i0), .second, .val (.long i1), .second, .val (.long i2), .second, .val (.long i3), .second, .val (.long i4), .second, .val (.int i5), .val (.int rv), .val (.long ov), .second, .val (.long (i0 ^^^ (-1 : Int64))), .second, .val (.ref f), .val (.int (0 : Int32)), .val (.ref to), .val (.ref c2), .val (.ref cm), .val (.ref c1), .val (.ref bd), .val (.ref a), .val (.ref b), .unset, .unset, .unset, .unset, .unset] [(.ref b)]))
    obtain ⟨cq33, kq33, q33a, q33b, q33c⟩ := isOf hZ rfl E_b
    obtain ⟨_, _, ⟨T33, L33, k33, n33⟩, -, X33, ⟨Lc33, hQ33, l33, y33, z33⟩, st33⟩ := X31.virtualBack hx (y := (⟨"com/example/highwater/highwater/store/StoredMessage", "to", "()Ljava/lang/String;"⟩ : MethodName)) (z := (⟨"com/example/highwater/highwater/store/StoredMessage", "to", "()Ljava/lang/String;"⟩ : MethodName)) hown (mvT hZ (hw _ (List.mem_of_getElem? (i := 84) rfl))) (mvT hZ (hw _ (List.mem_of_getElem? (i := 85) rfl))) (notFace_of_selects (args := #[]) (mvT hZ (hw _ (List.mem_of_getElem? (i := 87) rfl)))) (mvT hZ (hw _ (List.mem_of_getElem? (i := 87) rfl))) (mvT hZ (hw _ (List.mem_of_getElem? (i := 86) rfl))) (by decide) (backOf (W := 0) (own_rm_g_toR l Z a0 hw [] b to T31.heap n0 (Nat.le_trans Z0 K32.1) G_to) hZ (hw _ (List.mem_of_getElem? (i := 88) rfl)) (hw _ (List.mem_of_getElem? (i := 47) rfl)) (by decide) (by decide)) q33a q33c (g := (mkF m 212 #[.val (.long i0), .second, .val (.long i1), .second, .val (.long i2), .second, .val (.long i3), .second, .val (.long i4), .second, .val (.int i5), .val (.int rv), .val (.long ov), .second, .val (.long (i0 ^^^ (-1 : Int64))), .second, .val (.ref f), .val (.int (0 : Int32)), .val (.ref to), .val (.ref c2), .val (.ref cm), .val (.ref c1), .val (.ref bd), .val (.ref a), .val (.ref b), .unset, .unset, .unset, .unset, .unset] [(.ref b)])) rfl (by rw [hml]; rfl) (Steps.refl _) (argsL := []) (rest := []) (lenOf own_pd7 rfl) rfl (by show 2 * 0 + _ ≤ _; exact Nat.le_of_eq rfl) (hb hby at_212) (fun _ _ => ⟨rfl, rfl, (by decide : 14 + 0 ≤ _), (by decide : 50 + 0 ≤ _)⟩)
    dsimp only [Pt.U, Pt.locs, Pt.cells, Pt.slots] at X33 l33 y33 z33 st33 hQ33
    obtain rfl : k33 = 14 := y33
    obtain rfl : n33 = 50 := z33
    obtain ⟨rfl, N33q, e33⟩ := hQ33
    have N33 : Fr n0 L33 := by rw [l33]; exact Fr.app N31 N33q
    try clear l33
    refine own_tr st33 ?_
    show own_Gl p e below _ (T33.setTop (mkF m 215 #[.val (.long i0), .second, .val (.long i1), .second, .val (.long i2), .second, .val (.long i3), .second, .val (.long i4), .second, .val (.int i5), .val (.int rv), .val (.long ov), .second, .val (.long (i0 ^^^ (-1 : Int64))), .second, .val (.ref f), .val (.int (0 : Int32)), .val (.ref to), .val (.ref c2), .val (.ref cm), .val (.ref c1), .val (.ref bd), .val (.ref a), .val (.ref b), .unset, .unset, .unset, .unset, .unset] [(.ref to)]))
    try clear st33
    try clear N33q
    try clear N31
    try clear X31
    refine own_st (fun tg_ kg_ => XS.astore X33.here hx rfl (hb hby at_215) rfl rfl (l' := #[.val (.long i0), .second, .val (.long i1), .second, .val (.long i2), .second, .val (.long i3), .second, .val (.long i4), .second, .val (.int i5), .val (.int rv), .val (.long ov), .second, .val (.long (i0 ^^^ (-1 : Int64))), .second, .val (.ref f), .val (.int (0 : Int32)), .val (.ref to), .val (.ref c2), .val (.ref cm), .val (.ref c1), .val (.ref bd), .val (.ref a), .val (.ref b), .val (.ref to), .unset, .unset, .unset, .unset]) rfl kg_) ?_
    show own_Gl p e below _ (T33.setTop (mkF m 217 #[.val (.long i0), .second, .val (.long i1), .second, .val (.long i2), .second, .val (.long i3), .second, .val (.long i4), .second, .val (.int i5), .val (.int rv), .val (.long ov), .second, .val (.long (i0 ^^^ (-1 : Int64))), .second, .val (.ref f), .val (.int (0 : Int32)), .val (.ref to), .val (.ref c2), .val (.ref cm), .val (.ref c1), .val (.ref bd), .val (.ref a), .val (.ref b), .val (.ref to), .unset, .unset, .unset, .unset] []))
    refine own_st (fun tg_ kg_ => XS.aload X33.here hx rfl (hb hby at_217) rfl rfl kg_) ?_
    show own_Gl p e below _ (T33.setTop (mkF m 219 #[.val (.long i0), .second, .val (.long i1), .second, .val (.long i2), .second, .val (.long i3), .second, .val (.long i4), .second, .val (.int i5), .val (.int rv), .val (.long ov), .second, .val (.long (i0 ^^^ (-1 : Int64))), .second, .val (.ref f), .val (.int (0 : Int32)), .val (.ref to), .val (.ref c2), .val (.ref cm), .val (.ref c1), .val (.ref bd), .val (.ref a), .val (.ref b), .val (.ref to), .unset, .unset, .unset, .unset] [(.ref to)]))
    refine own_st (fun tg_ kg_ => XT.nonnullYes X33.here hx rfl (pc0 := 219) (pc' := 235) rfl (hb hby at_219) rfl rfl nofun (by decide) (by decide) kg_) ?_
    show own_Gl p e below _ (T33.setTop (mkF m 235 #[.val (.long i0), .second, .val (.long i1), .second, .val (.long i2), .second, .val (.long i3), .second, .val (.long i4), .second, .val (.int i5), .val (.int rv), .val (.long ov), .second, .val (.long (i0 ^^^ (-1 : Int64))), .second, .val (.ref f), .val (.int (0 : Int32)), .val (.ref to), .val (.ref c2), .val (.ref cm), .val (.ref c1), .val (.ref bd), .val (.ref a), .val (.ref b), .val (.ref to), .unset, .unset, .unset, .unset] []))
    refine own_st (fun tg_ kg_ => XS.aload X33.here hx rfl (hb hby at_235) rfl rfl kg_) ?_
    show own_Gl p e below _ (T33.setTop (mkF m 237 #[.val (.long i0), .second, .val (.long i1), .second, .val (.long i2), .second, .val (.long i3), .second, .val (.long i4), .second, .val (.int i5), .val (.int rv), .val (.long ov), .second, .val (.long (i0 ^^^ (-1 : Int64))), .second, .val (.ref f), .val (.int (0 : Int32)), .val (.ref to), .val (.ref c2), .val (.ref cm), .val (.ref c1), .val (.ref bd), .val (.ref a), .val (.ref b), .val (.ref to), .unset, .unset, .unset, .unset] [(.ref to)]))
    refine own_st (fun tg_ kg_ => XS.aload X33.here hx rfl (hb hby at_237) rfl rfl kg_) ?_
    show own_Gl p e below _ (T33.setTop (mkF m 239 #[.val (.long i0), .second, .val (.long i1), .second, .val (.long i2), .second, .val (.long i3), .second, .val (.long i4), .second, .val (.int i5), .val (.int rv), .val (.long ov), .second, .val (.long (i0 ^^^ (-1 : Int64))), .second, .val (.ref f), .val (.int (0 : Int32)), .val (.ref to), .val (.ref c2), .val (.ref cm), .val (.ref c1), .val (.ref bd), .val (.ref a), .val (.ref b), .val (.ref to), .unset, .unset, .unset, .unset] [(.ref to), (.ref to)]))
    obtain ⟨cq34, kq34, q34a, q34b, q34c⟩ := isOf hZ e33 E_to
    obtain ⟨_, _, ⟨T34, L34, k34, n34⟩, -, X34, ⟨Lc34, hQ34, l34, y34, z34⟩, st34⟩ := X33.virtualBack hx (y := (⟨"java/lang/String", "equals", "(Ljava/lang/Object;)Z"⟩ : MethodName)) (z := (⟨"java/lang/String", "equals", "(Ljava/lang/Object;)Z"⟩ : MethodName)) hown (mvT hZ (hw _ (List.mem_of_getElem? (i := 89) rfl))) (mvT hZ (hw _ (List.mem_of_getElem? (i := 90) rfl))) (notFace_of_selects (args := #[]) (mvT hZ (hw _ (List.mem_of_getElem? (i := 92) rfl)))) (mvT hZ (hw _ (List.mem_of_getElem? (i := 92) rfl))) (mvT hZ (hw _ (List.mem_of_getElem? (i := 91) rfl))) (by decide) (backOf (W := 0) (own_rm_eqs l Z a0 hw [] to T31.heap n0 (Nat.le_trans Z0 K32.1)) hZ (hw _ (List.mem_of_getElem? (i := 93) rfl)) (hw _ (List.mem_of_getElem? (i := 3) rfl)) (by decide) (by decide)) q34a q34c (g := (mkF m 239 #[.val (.long i0), .second, .val (.long i1), .second, .val (.long i2), .second, .val (.long i3), .second, .val (.long i4), .second, .val (.int i5), .val (.int rv), .val (.long ov), .second, .val (.long (i0 ^^^ (-1 : Int64))), .second, .val (.ref f), .val (.int (0 : Int32)), .val (.ref to), .val (.ref c2), .val (.ref cm), .val (.ref c1), .val (.ref bd), .val (.ref a), .val (.ref b), .val (.ref to), .unset, .unset, .unset, .unset] [(.ref to), (.ref to)])) rfl (by rw [hml]; rfl) (Steps.refl _) (argsL := [(.ref to)]) (rest := []) (lenOf own_pd8 rfl) rfl (by show 2 * 0 + _ ≤ _; exact Nat.le_of_eq rfl) (hb hby at_239) (fun _ _ => ⟨rfl, e33, (by decide : 14 + 0 ≤ _), (by decide : 50 + 0 ≤ _)⟩)
    dsimp only [Pt.U, Pt.locs, Pt.cells, Pt.slots] at X34 l34 y34 z34 st34 hQ34
    obtain rfl : k34 = 14 := y34
    obtain rfl : n34 = 50 := z34
    obtain ⟨rfl, N34q, e34⟩ := hQ34
    have N34 : Fr n0 L34 := by rw [l34]; exact Fr.app N33 N34q
    try clear l34
    refine own_tr st34 ?_
    show own_Gl p e below _ (T34.setTop (mkF m 242 #[.val (.long i0), .second, .val (.long i1), .second, .val (.long i2), .second, .val (.long i3), .second, .val (.long i4), .second, .val (.int i5), .val (.int rv), .val (.long ov), .second, .val (.long (i0 ^^^ (-1 : Int64))), .second, .val (.ref f), .val (.int (0 : Int32)), .val (.ref to), .val (.ref c2), .val (.ref cm), .val (.ref c1), .val (.ref bd), .val (.ref a), .val (.ref b), .val (.ref to), .unset, .unset, .unset, .unset] [(.int (1 : Int32))]))
    try clear st34
    try clear N34q
    try clear N33
    try clear e33
    try clear X33
    try clear T33
    refine own_st (fun tg_ kg_ => XS.istore X34.here hx rfl (hb hby at_242) rfl (l' := #[.val (.long i0), .second, .val (.long i1), .second, .val (.long i2), .second, .val (.long i3), .second, .val (.long i4), .second, .val (.int i5), .val (.int rv), .val (.long ov), .second, .val (.long (i0 ^^^ (-1 : Int64))), .second, .val (.ref f), .val (.int (0 : Int32)), .val (.ref to), .val (.ref c2), .val (.ref cm), .val (.ref c1), .val (.ref bd), .val (.ref a), .val (.ref b), .val (.ref to), .val (.int (1 : Int32)), .unset, .unset, .unset]) rfl kg_) ?_
    show own_Gl p e below _ (T34.setTop (mkF m 244 #[.val (.long i0), .second, .val (.long i1), .second, .val (.long i2), .second, .val (.long i3), .second, .val (.long i4), .second, .val (.int i5), .val (.int rv), .val (.long ov), .second, .val (.long (i0 ^^^ (-1 : Int64))), .second, .val (.ref f), .val (.int (0 : Int32)), .val (.ref to), .val (.ref c2), .val (.ref cm), .val (.ref c1), .val (.ref bd), .val (.ref a), .val (.ref b), .val (.ref to), .val (.int (1 : Int32)), .unset, .unset, .unset] []))
    refine own_st (fun tg_ kg_ => XS.aload X34.here hx rfl (hb hby at_244) rfl rfl kg_) ?_
    show own_Gl p e below _ (T34.setTop (mkF m 246 #[.val (.long i0), .second, .val (.long i1), .second, .val (.long i2), .second, .val (.long i3), .second, .val (.long i4), .second, .val (.int i5), .val (.int rv), .val (.long ov), .second, .val (.long (i0 ^^^ (-1 : Int64))), .second, .val (.ref f), .val (.int (0 : Int32)), .val (.ref to), .val (.ref c2), .val (.ref cm), .val (.ref c1), .val (.ref bd), .val (.ref a), .val (.ref b), .val (.ref to), .val (.int (1 : Int32)), .unset, .unset, .unset] [(.ref b)]))
    obtain ⟨cq35, kq35, q35a, q35b, q35c⟩ := isOf hZ e34 E_b
    obtain ⟨_, _, ⟨T35, L35, k35, n35⟩, -, X35, ⟨Lc35, hQ35, l35, y35, z35⟩, st35⟩ := X34.virtualBack hx (y := (⟨"com/example/highwater/highwater/store/StoredMessage", "from", "()Ljava/lang/String;"⟩ : MethodName)) (z := (⟨"com/example/highwater/highwater/store/StoredMessage", "from", "()Ljava/lang/String;"⟩ : MethodName)) hown (mvT hZ (hw _ (List.mem_of_getElem? (i := 94) rfl))) (mvT hZ (hw _ (List.mem_of_getElem? (i := 95) rfl))) (notFace_of_selects (args := #[]) (mvT hZ (hw _ (List.mem_of_getElem? (i := 97) rfl)))) (mvT hZ (hw _ (List.mem_of_getElem? (i := 97) rfl))) (mvT hZ (hw _ (List.mem_of_getElem? (i := 96) rfl))) (by decide) (backOf (W := 0) (own_rm_g_fromR l Z a0 hw [] b f T31.heap n0 (Nat.le_trans Z0 K32.1) G_from) hZ (hw _ (List.mem_of_getElem? (i := 98) rfl)) (hw _ (List.mem_of_getElem? (i := 47) rfl)) (by decide) (by decide)) q35a q35c (g := (mkF m 246 #[.val (.long i0), .second, .val (.long i1), .second, .val (.long i2), .second, .val (.long i3), .second, .val (.long i4), .second, .val (.int i5), .val (.int rv), .val (.long ov), .second, .val (.long (i0 ^^^ (-1 : Int64))), .second, .val (.ref f), .val (.int (0 : Int32)), .val (.ref to), .val (.ref c2), .val (.ref cm), .val (.ref c1), .val (.ref bd), .val (.ref a), .val (.ref b), .val (.ref to), .val (.int (1 : Int32)), .unset, .unset, .unset] [(.ref b)])) rfl (by rw [hml]; rfl) (Steps.refl _) (argsL := []) (rest := []) (lenOf own_pd7 rfl) rfl (by show 2 * 0 + _ ≤ _; exact Nat.le_of_eq rfl) (hb hby at_246) (fun _ _ => ⟨rfl, e34, (by decide : 14 + 0 ≤ _), (by decide : 50 + 0 ≤ _)⟩)
    dsimp only [Pt.U, Pt.locs, Pt.cells, Pt.slots] at X35 l35 y35 z35 st35 hQ35
    obtain rfl : k35 = 14 := y35
    obtain rfl : n35 = 50 := z35
    obtain ⟨rfl, N35q, e35⟩ := hQ35
    have N35 : Fr n0 L35 := by rw [l35]; exact Fr.app N34 N35q
    try clear l35
    refine own_tr st35 ?_
    show own_Gl p e below _ (T35.setTop (mkF m 249 #[.val (.long i0), .second, .val (.long i1), .second, .val (.long i2), .second, .val (.long i3), .second, .val (.long i4), .second, .val (.int i5), .val (.int rv), .val (.long ov), .second, .val (.long (i0 ^^^ (-1 : Int64))), .second, .val (.ref f), .val (.int (0 : Int32)), .val (.ref to), .val (.ref c2), .val (.ref cm), .val (.ref c1), .val (.ref bd), .val (.ref a), .val (.ref b), .val (.ref to), .val (.int (1 : Int32)), .unset, .unset, .unset] [(.ref f)]))
    try clear st35
    try clear N35q
    try clear N34
    try clear e34
    try clear X34
    try clear T34
    refine own_st (fun tg_ kg_ => XS.astore X35.here hx rfl (hb hby at_249) rfl rfl (l' := #[.val (.long i0), .second, .val (.long i1), .second, .val (.long i2), .second, .val (.long i3), .second, .val (.long i4), .second, .val (.int i5), .val (.int rv), .val (.long ov), .second, .val (.long (i0 ^^^ (-1 : Int64))), .second, .val (.ref f), .val (.int (0 : Int32)), .val (.ref to), .val (.ref c2), .val (.ref cm), .val (.ref c1), .val (.ref bd), .val (.ref a), .val (.ref b), .val (.ref to), .val (.int (1 : Int32)), .val (.ref f), .unset, .unset]) rfl kg_) ?_
    show own_Gl p e below _ (T35.setTop (mkF m 251 #[.val (.long i0), .second, .val (.long i1), .second, .val (.long i2), .second, .val (.long i3), .second, .val (.long i4), .second, .val (.int i5), .val (.int rv), .val (.long ov), .second, .val (.long (i0 ^^^ (-1 : Int64))), .second, .val (.ref f), .val (.int (0 : Int32)), .val (.ref to), .val (.ref c2), .val (.ref cm), .val (.ref c1), .val (.ref bd), .val (.ref a), .val (.ref b), .val (.ref to), .val (.int (1 : Int32)), .val (.ref f), .unset, .unset] []))
    refine own_st (fun tg_ kg_ => XS.aload X35.here hx rfl (hb hby at_251) rfl rfl kg_) ?_
    show own_Gl p e below _ (T35.setTop (mkF m 253 #[.val (.long i0), .second, .val (.long i1), .second, .val (.long i2), .second, .val (.long i3), .second, .val (.long i4), .second, .val (.int i5), .val (.int rv), .val (.long ov), .second, .val (.long (i0 ^^^ (-1 : Int64))), .second, .val (.ref f), .val (.int (0 : Int32)), .val (.ref to), .val (.ref c2), .val (.ref cm), .val (.ref c1), .val (.ref bd), .val (.ref a), .val (.ref b), .val (.ref to), .val (.int (1 : Int32)), .val (.ref f), .unset, .unset] [(.ref b)]))
    obtain ⟨cq36, kq36, q36a, q36b, q36c⟩ := isOf hZ e35 E_b
    obtain ⟨_, _, ⟨T36, L36, k36, n36⟩, -, X36, ⟨Lc36, hQ36, l36, y36, z36⟩, st36⟩ := X35.virtualBack hx (y := (⟨"com/example/highwater/highwater/store/StoredMessage", "clientMsgId", "()Ljava/lang/String;"⟩ : MethodName)) (z := (⟨"com/example/highwater/highwater/store/StoredMessage", "clientMsgId", "()Ljava/lang/String;"⟩ : MethodName)) hown (mvT hZ (hw _ (List.mem_of_getElem? (i := 99) rfl))) (mvT hZ (hw _ (List.mem_of_getElem? (i := 100) rfl))) (notFace_of_selects (args := #[]) (mvT hZ (hw _ (List.mem_of_getElem? (i := 102) rfl)))) (mvT hZ (hw _ (List.mem_of_getElem? (i := 102) rfl))) (mvT hZ (hw _ (List.mem_of_getElem? (i := 101) rfl))) (by decide) (backOf (W := 0) (own_rm_g_clientMsgIdR l Z a0 hw [] b cm T31.heap n0 (Nat.le_trans Z0 K32.1) G_clientMsgId) hZ (hw _ (List.mem_of_getElem? (i := 103) rfl)) (hw _ (List.mem_of_getElem? (i := 47) rfl)) (by decide) (by decide)) q36a q36c (g := (mkF m 253 #[.val (.long i0), .second, .val (.long i1), .second, .val (.long i2), .second, .val (.long i3), .second, .val (.long i4), .second, .val (.int i5), .val (.int rv), .val (.long ov), .second, .val (.long (i0 ^^^ (-1 : Int64))), .second, .val (.ref f), .val (.int (0 : Int32)), .val (.ref to), .val (.ref c2), .val (.ref cm), .val (.ref c1), .val (.ref bd), .val (.ref a), .val (.ref b), .val (.ref to), .val (.int (1 : Int32)), .val (.ref f), .unset, .unset] [(.ref b)])) rfl (by rw [hml]; rfl) (Steps.refl _) (argsL := []) (rest := []) (lenOf own_pd7 rfl) rfl (by show 2 * 0 + _ ≤ _; exact Nat.le_of_eq rfl) (hb hby at_253) (fun _ _ => ⟨rfl, e35, (by decide : 14 + 0 ≤ _), (by decide : 50 + 0 ≤ _)⟩)
    dsimp only [Pt.U, Pt.locs, Pt.cells, Pt.slots] at X36 l36 y36 z36 st36 hQ36
    obtain rfl : k36 = 14 := y36
    obtain rfl : n36 = 50 := z36
    obtain ⟨rfl, N36q, e36⟩ := hQ36
    have N36 : Fr n0 L36 := by rw [l36]; exact Fr.app N35 N36q
    try clear l36
    refine own_tr st36 ?_
    show own_Gl p e below _ (T36.setTop (mkF m 256 #[.val (.long i0), .second, .val (.long i1), .second, .val (.long i2), .second, .val (.long i3), .second, .val (.long i4), .second, .val (.int i5), .val (.int rv), .val (.long ov), .second, .val (.long (i0 ^^^ (-1 : Int64))), .second, .val (.ref f), .val (.int (0 : Int32)), .val (.ref to), .val (.ref c2), .val (.ref cm), .val (.ref c1), .val (.ref bd), .val (.ref a), .val (.ref b), .val (.ref to), .val (.int (1 : Int32)), .val (.ref f), .unset, .unset] [(.ref cm)]))
    try clear st36
    try clear N36q
    try clear N35
    try clear e35
    try clear X35
    try clear T35
    refine own_st (fun tg_ kg_ => XS.astore X36.here hx rfl (hb hby at_256) rfl rfl (l' := #[.val (.long i0), .second, .val (.long i1), .second, .val (.long i2), .second, .val (.long i3), .second, .val (.long i4), .second, .val (.int i5), .val (.int rv), .val (.long ov), .second, .val (.long (i0 ^^^ (-1 : Int64))), .second, .val (.ref f), .val (.int (0 : Int32)), .val (.ref to), .val (.ref c2), .val (.ref cm), .val (.ref c1), .val (.ref bd), .val (.ref a), .val (.ref b), .val (.ref to), .val (.int (1 : Int32)), .val (.ref f), .val (.ref cm), .unset]) rfl kg_) ?_
    show own_Gl p e below _ (T36.setTop (mkF m 258 #[.val (.long i0), .second, .val (.long i1), .second, .val (.long i2), .second, .val (.long i3), .second, .val (.long i4), .second, .val (.int i5), .val (.int rv), .val (.long ov), .second, .val (.long (i0 ^^^ (-1 : Int64))), .second, .val (.ref f), .val (.int (0 : Int32)), .val (.ref to), .val (.ref c2), .val (.ref cm), .val (.ref c1), .val (.ref bd), .val (.ref a), .val (.ref b), .val (.ref to), .val (.int (1 : Int32)), .val (.ref f), .val (.ref cm), .unset] []))
    refine own_st (fun tg_ kg_ => XS.aload X36.here hx rfl (hb hby at_258) rfl rfl kg_) ?_
    show own_Gl p e below _ (T36.setTop (mkF m 260 #[.val (.long i0), .second, .val (.long i1), .second, .val (.long i2), .second, .val (.long i3), .second, .val (.long i4), .second, .val (.int i5), .val (.int rv), .val (.long ov), .second, .val (.long (i0 ^^^ (-1 : Int64))), .second, .val (.ref f), .val (.int (0 : Int32)), .val (.ref to), .val (.ref c2), .val (.ref cm), .val (.ref c1), .val (.ref bd), .val (.ref a), .val (.ref b), .val (.ref to), .val (.int (1 : Int32)), .val (.ref f), .val (.ref cm), .unset] [(.ref b)]))
    obtain ⟨cq37, kq37, q37a, q37b, q37c⟩ := isOf hZ e36 E_b
    obtain ⟨_, _, ⟨T37, L37, k37, n37⟩, -, X37, ⟨Lc37, hQ37, l37, y37, z37⟩, st37⟩ := X36.virtualBack hx (y := (⟨"com/example/highwater/highwater/store/StoredMessage", "body", "()Ljava/lang/String;"⟩ : MethodName)) (z := (⟨"com/example/highwater/highwater/store/StoredMessage", "body", "()Ljava/lang/String;"⟩ : MethodName)) hown (mvT hZ (hw _ (List.mem_of_getElem? (i := 104) rfl))) (mvT hZ (hw _ (List.mem_of_getElem? (i := 105) rfl))) (notFace_of_selects (args := #[]) (mvT hZ (hw _ (List.mem_of_getElem? (i := 107) rfl)))) (mvT hZ (hw _ (List.mem_of_getElem? (i := 107) rfl))) (mvT hZ (hw _ (List.mem_of_getElem? (i := 106) rfl))) (by decide) (backOf (W := 0) (own_rm_g_bodyR l Z a0 hw [] b lit T31.heap n0 (Nat.le_trans Z0 K32.1) G_body) hZ (hw _ (List.mem_of_getElem? (i := 108) rfl)) (hw _ (List.mem_of_getElem? (i := 47) rfl)) (by decide) (by decide)) q37a q37c (g := (mkF m 260 #[.val (.long i0), .second, .val (.long i1), .second, .val (.long i2), .second, .val (.long i3), .second, .val (.long i4), .second, .val (.int i5), .val (.int rv), .val (.long ov), .second, .val (.long (i0 ^^^ (-1 : Int64))), .second, .val (.ref f), .val (.int (0 : Int32)), .val (.ref to), .val (.ref c2), .val (.ref cm), .val (.ref c1), .val (.ref bd), .val (.ref a), .val (.ref b), .val (.ref to), .val (.int (1 : Int32)), .val (.ref f), .val (.ref cm), .unset] [(.ref b)])) rfl (by rw [hml]; rfl) (Steps.refl _) (argsL := []) (rest := []) (lenOf own_pd7 rfl) rfl (by show 2 * 0 + _ ≤ _; exact Nat.le_of_eq rfl) (hb hby at_260) (fun _ _ => ⟨rfl, e36, (by decide : 14 + 0 ≤ _), (by decide : 50 + 0 ≤ _)⟩)
    dsimp only [Pt.U, Pt.locs, Pt.cells, Pt.slots] at X37 l37 y37 z37 st37 hQ37
    obtain rfl : k37 = 14 := y37
    obtain rfl : n37 = 50 := z37
    obtain ⟨rfl, N37q, e37⟩ := hQ37
    have N37 : Fr n0 L37 := by rw [l37]; exact Fr.app N36 N37q
    try clear l37
    refine own_tr st37 ?_
    show own_Gl p e below _ (T37.setTop (mkF m 263 #[.val (.long i0), .second, .val (.long i1), .second, .val (.long i2), .second, .val (.long i3), .second, .val (.long i4), .second, .val (.int i5), .val (.int rv), .val (.long ov), .second, .val (.long (i0 ^^^ (-1 : Int64))), .second, .val (.ref f), .val (.int (0 : Int32)), .val (.ref to), .val (.ref c2), .val (.ref cm), .val (.ref c1), .val (.ref bd), .val (.ref a), .val (.ref b), .val (.ref to), .val (.int (1 : Int32)), .val (.ref f), .val (.ref cm), .unset] [(.ref lit)]))
    try clear st37
    try clear N37q
    try clear N36
    try clear e36
    try clear X36
    try clear T36
    refine own_st (fun tg_ kg_ => XS.astore X37.here hx rfl (hb hby at_263) rfl rfl (l' := #[.val (.long i0), .second, .val (.long i1), .second, .val (.long i2), .second, .val (.long i3), .second, .val (.long i4), .second, .val (.int i5), .val (.int rv), .val (.long ov), .second, .val (.long (i0 ^^^ (-1 : Int64))), .second, .val (.ref f), .val (.int (0 : Int32)), .val (.ref to), .val (.ref c2), .val (.ref cm), .val (.ref c1), .val (.ref bd), .val (.ref a), .val (.ref b), .val (.ref to), .val (.int (1 : Int32)), .val (.ref f), .val (.ref cm), .val (.ref lit)]) rfl kg_) ?_
    show own_Gl p e below _ (T37.setTop (mkF m 265 #[.val (.long i0), .second, .val (.long i1), .second, .val (.long i2), .second, .val (.long i3), .second, .val (.long i4), .second, .val (.int i5), .val (.int rv), .val (.long ov), .second, .val (.long (i0 ^^^ (-1 : Int64))), .second, .val (.ref f), .val (.int (0 : Int32)), .val (.ref to), .val (.ref c2), .val (.ref cm), .val (.ref c1), .val (.ref bd), .val (.ref a), .val (.ref b), .val (.ref to), .val (.int (1 : Int32)), .val (.ref f), .val (.ref cm), .val (.ref lit)] []))
    refine own_st (fun tg_ kg_ => XS.aload X37.here hx rfl (hb hby at_265) rfl rfl kg_) ?_
    show own_Gl p e below _ (T37.setTop (mkF m 267 #[.val (.long i0), .second, .val (.long i1), .second, .val (.long i2), .second, .val (.long i3), .second, .val (.long i4), .second, .val (.int i5), .val (.int rv), .val (.long ov), .second, .val (.long (i0 ^^^ (-1 : Int64))), .second, .val (.ref f), .val (.int (0 : Int32)), .val (.ref to), .val (.ref c2), .val (.ref cm), .val (.ref c1), .val (.ref bd), .val (.ref a), .val (.ref b), .val (.ref to), .val (.int (1 : Int32)), .val (.ref f), .val (.ref cm), .val (.ref lit)] [(.ref b)]))
    obtain ⟨cq38, kq38, q38a, q38b, q38c⟩ := isOf hZ e37 E_b
    obtain ⟨_, _, ⟨T38, L38, k38, n38⟩, -, X38, ⟨Lc38, hQ38, l38, y38, z38⟩, st38⟩ := X37.virtualBack hx (y := (⟨"com/example/highwater/highwater/store/StoredMessage", "serverMsgId", "()J"⟩ : MethodName)) (z := (⟨"com/example/highwater/highwater/store/StoredMessage", "serverMsgId", "()J"⟩ : MethodName)) hown (mvT hZ (hw _ (List.mem_of_getElem? (i := 109) rfl))) (mvT hZ (hw _ (List.mem_of_getElem? (i := 110) rfl))) (notFace_of_selects (args := #[]) (mvT hZ (hw _ (List.mem_of_getElem? (i := 112) rfl)))) (mvT hZ (hw _ (List.mem_of_getElem? (i := 112) rfl))) (mvT hZ (hw _ (List.mem_of_getElem? (i := 111) rfl))) (by decide) (backOf (W := 0) (own_rm_g_serverMsgId l Z a0 hw [] b i0 T31.heap n0 (Nat.le_trans Z0 K32.1) G_serverMsgId) hZ (hw _ (List.mem_of_getElem? (i := 113) rfl)) (hw _ (List.mem_of_getElem? (i := 47) rfl)) (by decide) (by decide)) q38a q38c (g := (mkF m 267 #[.val (.long i0), .second, .val (.long i1), .second, .val (.long i2), .second, .val (.long i3), .second, .val (.long i4), .second, .val (.int i5), .val (.int rv), .val (.long ov), .second, .val (.long (i0 ^^^ (-1 : Int64))), .second, .val (.ref f), .val (.int (0 : Int32)), .val (.ref to), .val (.ref c2), .val (.ref cm), .val (.ref c1), .val (.ref bd), .val (.ref a), .val (.ref b), .val (.ref to), .val (.int (1 : Int32)), .val (.ref f), .val (.ref cm), .val (.ref lit)] [(.ref b)])) rfl (by rw [hml]; rfl) (Steps.refl _) (argsL := []) (rest := []) (lenOf own_pd9 rfl) rfl (by show 2 * 0 + _ ≤ _; exact Nat.le_of_eq rfl) (hb hby at_267) (fun _ _ => ⟨rfl, e37, (by decide : 14 + 0 ≤ _), (by decide : 50 + 0 ≤ _)⟩)
    dsimp only [Pt.U, Pt.locs, Pt.cells, Pt.slots] at X38 l38 y38 z38 st38 hQ38
    obtain rfl : k38 = 14 := y38
    obtain rfl : n38 = 50 := z38
    obtain ⟨rfl, N38q, e38⟩ := hQ38
    have N38 : Fr n0 L38 := by rw [l38]; exact Fr.app N37 N38q
    try clear l38
    refine own_tr st38 ?_
    show own_Gl p e below _ (T38.setTop (mkF m 270 #[.val (.long i0), .second, .val (.long i1), .second, .val (.long i2), .second, .val (.long i3), .second, .val (.long i4), .second, .val (.int i5), .val (.int rv), .val (.long ov), .second, .val (.long (i0 ^^^ (-1 : Int64))), .second, .val (.ref f), .val (.int (0 : Int32)), .val (.ref to), .val (.ref c2), .val (.ref cm), .val (.ref c1), .val (.ref bd), .val (.ref a), .val (.ref b), .val (.ref to), .val (.int (1 : Int32)), .val (.ref f), .val (.ref cm), .val (.ref lit)] [(.long i0)]))
    try clear st38
    try clear N38q
    try clear N37
    try clear e37
    try clear X37
    try clear T37
    refine own_st (fun tg_ kg_ => XS.lloadN X38.here hx rfl (hb hby at_270) rfl kg_) ?_
    show own_Gl p e below _ (T38.setTop (mkF m 271 #[.val (.long i0), .second, .val (.long i1), .second, .val (.long i2), .second, .val (.long i3), .second, .val (.long i4), .second, .val (.int i5), .val (.int rv), .val (.long ov), .second, .val (.long (i0 ^^^ (-1 : Int64))), .second, .val (.ref f), .val (.int (0 : Int32)), .val (.ref to), .val (.ref c2), .val (.ref cm), .val (.ref c1), .val (.ref bd), .val (.ref a), .val (.ref b), .val (.ref to), .val (.int (1 : Int32)), .val (.ref f), .val (.ref cm), .val (.ref lit)] [(.long i0), (.long i0)]))
    refine own_st (fun tg_ kg_ => XS.lcmp X38.here hx rfl (hb hby at_271) rfl kg_) ?_
    show own_Gl p e below _ (T38.setTop (mkF m 272 #[.val (.long i0), .second, .val (.long i1), .second, .val (.long i2), .second, .val (.long i3), .second, .val (.long i4), .second, .val (.int i5), .val (.int rv), .val (.long ov), .second, .val (.long (i0 ^^^ (-1 : Int64))), .second, .val (.ref f), .val (.int (0 : Int32)), .val (.ref to), .val (.ref c2), .val (.ref cm), .val (.ref c1), .val (.ref bd), .val (.ref a), .val (.ref b), .val (.ref to), .val (.int (1 : Int32)), .val (.ref f), .val (.ref cm), .val (.ref lit)] [(.int (lcmpW i0 i0))]))
    refine own_st (fun tg_ kg_ => XS.ifNo X38.here hx rfl (hb hby at_272) rfl ((if0 _ _).trans (teq ((lw_eq _ _).mpr rfl)).2) kg_) ?_
    show own_Gl p e below _ (T38.setTop (mkF m 275 #[.val (.long i0), .second, .val (.long i1), .second, .val (.long i2), .second, .val (.long i3), .second, .val (.long i4), .second, .val (.int i5), .val (.int rv), .val (.long ov), .second, .val (.long (i0 ^^^ (-1 : Int64))), .second, .val (.ref f), .val (.int (0 : Int32)), .val (.ref to), .val (.ref c2), .val (.ref cm), .val (.ref c1), .val (.ref bd), .val (.ref a), .val (.ref b), .val (.ref to), .val (.int (1 : Int32)), .val (.ref f), .val (.ref cm), .val (.ref lit)] []))
    refine own_st (fun tg_ kg_ => XS.aload X38.here hx rfl (hb hby at_275) rfl rfl kg_) ?_
    show own_Gl p e below _ (T38.setTop (mkF m 277 #[.val (.long i0), .second, .val (.long i1), .second, .val (.long i2), .second, .val (.long i3), .second, .val (.long i4), .second, .val (.int i5), .val (.int rv), .val (.long ov), .second, .val (.long (i0 ^^^ (-1 : Int64))), .second, .val (.ref f), .val (.int (0 : Int32)), .val (.ref to), .val (.ref c2), .val (.ref cm), .val (.ref c1), .val (.ref bd), .val (.ref a), .val (.ref b), .val (.ref to), .val (.int (1 : Int32)), .val (.ref f), .val (.ref cm), .val (.ref lit)] [(.ref b)]))
    obtain ⟨cq39, kq39, q39a, q39b, q39c⟩ := isOf hZ e38 E_b
    obtain ⟨_, _, ⟨T39, L39, k39, n39⟩, -, X39, ⟨Lc39, hQ39, l39, y39, z39⟩, st39⟩ := X38.virtualBack hx (y := (⟨"com/example/highwater/highwater/store/StoredMessage", "conversationId", "()J"⟩ : MethodName)) (z := (⟨"com/example/highwater/highwater/store/StoredMessage", "conversationId", "()J"⟩ : MethodName)) hown (mvT hZ (hw _ (List.mem_of_getElem? (i := 114) rfl))) (mvT hZ (hw _ (List.mem_of_getElem? (i := 115) rfl))) (notFace_of_selects (args := #[]) (mvT hZ (hw _ (List.mem_of_getElem? (i := 117) rfl)))) (mvT hZ (hw _ (List.mem_of_getElem? (i := 117) rfl))) (mvT hZ (hw _ (List.mem_of_getElem? (i := 116) rfl))) (by decide) (backOf (W := 0) (own_rm_g_conversationId l Z a0 hw [] b i1 T31.heap n0 (Nat.le_trans Z0 K32.1) G_conversationId) hZ (hw _ (List.mem_of_getElem? (i := 118) rfl)) (hw _ (List.mem_of_getElem? (i := 47) rfl)) (by decide) (by decide)) q39a q39c (g := (mkF m 277 #[.val (.long i0), .second, .val (.long i1), .second, .val (.long i2), .second, .val (.long i3), .second, .val (.long i4), .second, .val (.int i5), .val (.int rv), .val (.long ov), .second, .val (.long (i0 ^^^ (-1 : Int64))), .second, .val (.ref f), .val (.int (0 : Int32)), .val (.ref to), .val (.ref c2), .val (.ref cm), .val (.ref c1), .val (.ref bd), .val (.ref a), .val (.ref b), .val (.ref to), .val (.int (1 : Int32)), .val (.ref f), .val (.ref cm), .val (.ref lit)] [(.ref b)])) rfl (by rw [hml]; rfl) (Steps.refl _) (argsL := []) (rest := []) (lenOf own_pd9 rfl) rfl (by show 2 * 0 + _ ≤ _; exact Nat.le_of_eq rfl) (hb hby at_277) (fun _ _ => ⟨rfl, e38, (by decide : 14 + 0 ≤ _), (by decide : 50 + 0 ≤ _)⟩)
    dsimp only [Pt.U, Pt.locs, Pt.cells, Pt.slots] at X39 l39 y39 z39 st39 hQ39
    obtain rfl : k39 = 14 := y39
    obtain rfl : n39 = 50 := z39
    obtain ⟨rfl, N39q, e39⟩ := hQ39
    have N39 : Fr n0 L39 := by rw [l39]; exact Fr.app N38 N39q
    try clear l39
    refine own_tr st39 ?_
    show own_Gl p e below _ (T39.setTop (mkF m 280 #[.val (.long i0), .second, .val (.long i1), .second, .val (.long i2), .second, .val (.long i3), .second, .val (.long i4), .second, .val (.int i5), .val (.int rv), .val (.long ov), .second, .val (.long (i0 ^^^ (-1 : Int64))), .second, .val (.ref f), .val (.int (0 : Int32)), .val (.ref to), .val (.ref c2), .val (.ref cm), .val (.ref c1), .val (.ref bd), .val (.ref a), .val (.ref b), .val (.ref to), .val (.int (1 : Int32)), .val (.ref f), .val (.ref cm), .val (.ref lit)] [(.long i1)]))
    try clear st39
    try clear N39q
    try clear N38
    try clear e38
    try clear X38
    try clear T38
    refine own_st (fun tg_ kg_ => XS.lloadN X39.here hx rfl (hb hby at_280) rfl kg_) ?_
    show own_Gl p e below _ (T39.setTop (mkF m 281 #[.val (.long i0), .second, .val (.long i1), .second, .val (.long i2), .second, .val (.long i3), .second, .val (.long i4), .second, .val (.int i5), .val (.int rv), .val (.long ov), .second, .val (.long (i0 ^^^ (-1 : Int64))), .second, .val (.ref f), .val (.int (0 : Int32)), .val (.ref to), .val (.ref c2), .val (.ref cm), .val (.ref c1), .val (.ref bd), .val (.ref a), .val (.ref b), .val (.ref to), .val (.int (1 : Int32)), .val (.ref f), .val (.ref cm), .val (.ref lit)] [(.long i1), (.long i1)]))
    refine own_st (fun tg_ kg_ => XS.lcmp X39.here hx rfl (hb hby at_281) rfl kg_) ?_
    show own_Gl p e below _ (T39.setTop (mkF m 282 #[.val (.long i0), .second, .val (.long i1), .second, .val (.long i2), .second, .val (.long i3), .second, .val (.long i4), .second, .val (.int i5), .val (.int rv), .val (.long ov), .second, .val (.long (i0 ^^^ (-1 : Int64))), .second, .val (.ref f), .val (.int (0 : Int32)), .val (.ref to), .val (.ref c2), .val (.ref cm), .val (.ref c1), .val (.ref bd), .val (.ref a), .val (.ref b), .val (.ref to), .val (.int (1 : Int32)), .val (.ref f), .val (.ref cm), .val (.ref lit)] [(.int (lcmpW i1 i1))]))
    refine own_st (fun tg_ kg_ => XS.ifNo X39.here hx rfl (hb hby at_282) rfl ((if0 _ _).trans (teq ((lw_eq _ _).mpr rfl)).2) kg_) ?_
    show own_Gl p e below _ (T39.setTop (mkF m 285 #[.val (.long i0), .second, .val (.long i1), .second, .val (.long i2), .second, .val (.long i3), .second, .val (.long i4), .second, .val (.int i5), .val (.int rv), .val (.long ov), .second, .val (.long (i0 ^^^ (-1 : Int64))), .second, .val (.ref f), .val (.int (0 : Int32)), .val (.ref to), .val (.ref c2), .val (.ref cm), .val (.ref c1), .val (.ref bd), .val (.ref a), .val (.ref b), .val (.ref to), .val (.int (1 : Int32)), .val (.ref f), .val (.ref cm), .val (.ref lit)] []))
    refine own_st (fun tg_ kg_ => XS.aload X39.here hx rfl (hb hby at_285) rfl rfl kg_) ?_
    show own_Gl p e below _ (T39.setTop (mkF m 287 #[.val (.long i0), .second, .val (.long i1), .second, .val (.long i2), .second, .val (.long i3), .second, .val (.long i4), .second, .val (.int i5), .val (.int rv), .val (.long ov), .second, .val (.long (i0 ^^^ (-1 : Int64))), .second, .val (.ref f), .val (.int (0 : Int32)), .val (.ref to), .val (.ref c2), .val (.ref cm), .val (.ref c1), .val (.ref bd), .val (.ref a), .val (.ref b), .val (.ref to), .val (.int (1 : Int32)), .val (.ref f), .val (.ref cm), .val (.ref lit)] [(.ref b)]))
    obtain ⟨cq40, kq40, q40a, q40b, q40c⟩ := isOf hZ e39 E_b
    obtain ⟨_, _, ⟨T40, L40, k40, n40⟩, -, X40, ⟨Lc40, hQ40, l40, y40, z40⟩, st40⟩ := X39.virtualBack hx (y := (⟨"com/example/highwater/highwater/store/StoredMessage", "msgSeq", "()J"⟩ : MethodName)) (z := (⟨"com/example/highwater/highwater/store/StoredMessage", "msgSeq", "()J"⟩ : MethodName)) hown (mvT hZ (hw _ (List.mem_of_getElem? (i := 119) rfl))) (mvT hZ (hw _ (List.mem_of_getElem? (i := 120) rfl))) (notFace_of_selects (args := #[]) (mvT hZ (hw _ (List.mem_of_getElem? (i := 122) rfl)))) (mvT hZ (hw _ (List.mem_of_getElem? (i := 122) rfl))) (mvT hZ (hw _ (List.mem_of_getElem? (i := 121) rfl))) (by decide) (backOf (W := 0) (own_rm_g_msgSeq l Z a0 hw [] b i2 T31.heap n0 (Nat.le_trans Z0 K32.1) G_msgSeq) hZ (hw _ (List.mem_of_getElem? (i := 123) rfl)) (hw _ (List.mem_of_getElem? (i := 47) rfl)) (by decide) (by decide)) q40a q40c (g := (mkF m 287 #[.val (.long i0), .second, .val (.long i1), .second, .val (.long i2), .second, .val (.long i3), .second, .val (.long i4), .second, .val (.int i5), .val (.int rv), .val (.long ov), .second, .val (.long (i0 ^^^ (-1 : Int64))), .second, .val (.ref f), .val (.int (0 : Int32)), .val (.ref to), .val (.ref c2), .val (.ref cm), .val (.ref c1), .val (.ref bd), .val (.ref a), .val (.ref b), .val (.ref to), .val (.int (1 : Int32)), .val (.ref f), .val (.ref cm), .val (.ref lit)] [(.ref b)])) rfl (by rw [hml]; rfl) (Steps.refl _) (argsL := []) (rest := []) (lenOf own_pd9 rfl) rfl (by show 2 * 0 + _ ≤ _; exact Nat.le_of_eq rfl) (hb hby at_287) (fun _ _ => ⟨rfl, e39, (by decide : 14 + 0 ≤ _), (by decide : 50 + 0 ≤ _)⟩)
    dsimp only [Pt.U, Pt.locs, Pt.cells, Pt.slots] at X40 l40 y40 z40 st40 hQ40
    obtain rfl : k40 = 14 := y40
    obtain rfl : n40 = 50 := z40
    obtain ⟨rfl, N40q, e40⟩ := hQ40
    have N40 : Fr n0 L40 := by rw [l40]; exact Fr.app N39 N40q
    try clear l40
    refine own_tr st40 ?_
    show own_Gl p e below _ (T40.setTop (mkF m 290 #[.val (.long i0), .second, .val (.long i1), .second, .val (.long i2), .second, .val (.long i3), .second, .val (.long i4), .second, .val (.int i5), .val (.int rv), .val (.long ov), .second, .val (.long (i0 ^^^ (-1 : Int64))), .second, .val (.ref f), .val (.int (0 : Int32)), .val (.ref to), .val (.ref c2), .val (.ref cm), .val (.ref c1), .val (.ref bd), .val (.ref a), .val (.ref b), .val (.ref to), .val (.int (1 : Int32)), .val (.ref f), .val (.ref cm), .val (.ref lit)] [(.long i2)]))
    try clear st40
    try clear N40q
    try clear N39
    try clear e39
    try clear X39
    try clear T39
    refine own_st (fun tg_ kg_ => XS.lload X40.here hx rfl (hb hby at_290) rfl kg_) ?_
    show own_Gl p e below _ (T40.setTop (mkF m 292 #[.val (.long i0), .second, .val (.long i1), .second, .val (.long i2), .second, .val (.long i3), .second, .val (.long i4), .second, .val (.int i5), .val (.int rv), .val (.long ov), .second, .val (.long (i0 ^^^ (-1 : Int64))), .second, .val (.ref f), .val (.int (0 : Int32)), .val (.ref to), .val (.ref c2), .val (.ref cm), .val (.ref c1), .val (.ref bd), .val (.ref a), .val (.ref b), .val (.ref to), .val (.int (1 : Int32)), .val (.ref f), .val (.ref cm), .val (.ref lit)] [(.long i2), (.long i2)]))
    refine own_st (fun tg_ kg_ => XS.lcmp X40.here hx rfl (hb hby at_292) rfl kg_) ?_
    show own_Gl p e below _ (T40.setTop (mkF m 293 #[.val (.long i0), .second, .val (.long i1), .second, .val (.long i2), .second, .val (.long i3), .second, .val (.long i4), .second, .val (.int i5), .val (.int rv), .val (.long ov), .second, .val (.long (i0 ^^^ (-1 : Int64))), .second, .val (.ref f), .val (.int (0 : Int32)), .val (.ref to), .val (.ref c2), .val (.ref cm), .val (.ref c1), .val (.ref bd), .val (.ref a), .val (.ref b), .val (.ref to), .val (.int (1 : Int32)), .val (.ref f), .val (.ref cm), .val (.ref lit)] [(.int (lcmpW i2 i2))]))
    refine own_st (fun tg_ kg_ => XS.ifNo X40.here hx rfl (hb hby at_293) rfl ((if0 _ _).trans (teq ((lw_eq _ _).mpr rfl)).2) kg_) ?_
    show own_Gl p e below _ (T40.setTop (mkF m 296 #[.val (.long i0), .second, .val (.long i1), .second, .val (.long i2), .second, .val (.long i3), .second, .val (.long i4), .second, .val (.int i5), .val (.int rv), .val (.long ov), .second, .val (.long (i0 ^^^ (-1 : Int64))), .second, .val (.ref f), .val (.int (0 : Int32)), .val (.ref to), .val (.ref c2), .val (.ref cm), .val (.ref c1), .val (.ref bd), .val (.ref a), .val (.ref b), .val (.ref to), .val (.int (1 : Int32)), .val (.ref f), .val (.ref cm), .val (.ref lit)] []))
    refine own_st (fun tg_ kg_ => XS.aload X40.here hx rfl (hb hby at_296) rfl rfl kg_) ?_
    show own_Gl p e below _ (T40.setTop (mkF m 298 #[.val (.long i0), .second, .val (.long i1), .second, .val (.long i2), .second, .val (.long i3), .second, .val (.long i4), .second, .val (.int i5), .val (.int rv), .val (.long ov), .second, .val (.long (i0 ^^^ (-1 : Int64))), .second, .val (.ref f), .val (.int (0 : Int32)), .val (.ref to), .val (.ref c2), .val (.ref cm), .val (.ref c1), .val (.ref bd), .val (.ref a), .val (.ref b), .val (.ref to), .val (.int (1 : Int32)), .val (.ref f), .val (.ref cm), .val (.ref lit)] [(.ref f)]))
    refine own_st (fun tg_ kg_ => XT.nullNo X40.here hx rfl (hb hby at_298) rfl rfl nofun kg_) ?_
    show own_Gl p e below _ (T40.setTop (mkF m 301 #[.val (.long i0), .second, .val (.long i1), .second, .val (.long i2), .second, .val (.long i3), .second, .val (.long i4), .second, .val (.int i5), .val (.int rv), .val (.long ov), .second, .val (.long (i0 ^^^ (-1 : Int64))), .second, .val (.ref f), .val (.int (0 : Int32)), .val (.ref to), .val (.ref c2), .val (.ref cm), .val (.ref c1), .val (.ref bd), .val (.ref a), .val (.ref b), .val (.ref to), .val (.int (1 : Int32)), .val (.ref f), .val (.ref cm), .val (.ref lit)] []))
    refine own_st (fun tg_ kg_ => XS.aload X40.here hx rfl (hb hby at_301) rfl rfl kg_) ?_
    show own_Gl p e below _ (T40.setTop (mkF m 303 #[.val (.long i0), .second, .val (.long i1), .second, .val (.long i2), .second, .val (.long i3), .second, .val (.long i4), .second, .val (.int i5), .val (.int rv), .val (.long ov), .second, .val (.long (i0 ^^^ (-1 : Int64))), .second, .val (.ref f), .val (.int (0 : Int32)), .val (.ref to), .val (.ref c2), .val (.ref cm), .val (.ref c1), .val (.ref bd), .val (.ref a), .val (.ref b), .val (.ref to), .val (.int (1 : Int32)), .val (.ref f), .val (.ref cm), .val (.ref lit)] [(.ref f)]))
    refine own_st (fun tg_ kg_ => XS.aload X40.here hx rfl (hb hby at_303) rfl rfl kg_) ?_
    show own_Gl p e below _ (T40.setTop (mkF m 305 #[.val (.long i0), .second, .val (.long i1), .second, .val (.long i2), .second, .val (.long i3), .second, .val (.long i4), .second, .val (.int i5), .val (.int rv), .val (.long ov), .second, .val (.long (i0 ^^^ (-1 : Int64))), .second, .val (.ref f), .val (.int (0 : Int32)), .val (.ref to), .val (.ref c2), .val (.ref cm), .val (.ref c1), .val (.ref bd), .val (.ref a), .val (.ref b), .val (.ref to), .val (.int (1 : Int32)), .val (.ref f), .val (.ref cm), .val (.ref lit)] [(.ref f), (.ref f)]))
    obtain ⟨cq41, kq41, q41a, q41b, q41c⟩ := isOf hZ e40 E_f
    obtain ⟨_, _, ⟨T41, L41, k41, n41⟩, -, X41, ⟨Lc41, hQ41, l41, y41, z41⟩, st41⟩ := X40.virtualBack hx (y := (⟨"java/lang/String", "equals", "(Ljava/lang/Object;)Z"⟩ : MethodName)) (z := (⟨"java/lang/String", "equals", "(Ljava/lang/Object;)Z"⟩ : MethodName)) hown (mvT hZ (hw _ (List.mem_of_getElem? (i := 89) rfl))) (mvT hZ (hw _ (List.mem_of_getElem? (i := 90) rfl))) (notFace_of_selects (args := #[]) (mvT hZ (hw _ (List.mem_of_getElem? (i := 92) rfl)))) (mvT hZ (hw _ (List.mem_of_getElem? (i := 92) rfl))) (mvT hZ (hw _ (List.mem_of_getElem? (i := 91) rfl))) (by decide) (backOf (W := 0) (own_rm_eqs l Z a0 hw [] f T31.heap n0 (Nat.le_trans Z0 K32.1)) hZ (hw _ (List.mem_of_getElem? (i := 93) rfl)) (hw _ (List.mem_of_getElem? (i := 3) rfl)) (by decide) (by decide)) q41a q41c (g := (mkF m 305 #[.val (.long i0), .second, .val (.long i1), .second, .val (.long i2), .second, .val (.long i3), .second, .val (.long i4), .second, .val (.int i5), .val (.int rv), .val (.long ov), .second, .val (.long (i0 ^^^ (-1 : Int64))), .second, .val (.ref f), .val (.int (0 : Int32)), .val (.ref to), .val (.ref c2), .val (.ref cm), .val (.ref c1), .val (.ref bd), .val (.ref a), .val (.ref b), .val (.ref to), .val (.int (1 : Int32)), .val (.ref f), .val (.ref cm), .val (.ref lit)] [(.ref f), (.ref f)])) rfl (by rw [hml]; rfl) (Steps.refl _) (argsL := [(.ref f)]) (rest := []) (lenOf own_pd8 rfl) rfl (by show 2 * 0 + _ ≤ _; exact Nat.le_of_eq rfl) (hb hby at_305) (fun _ _ => ⟨rfl, e40, (by decide : 14 + 0 ≤ _), (by decide : 50 + 0 ≤ _)⟩)
    dsimp only [Pt.U, Pt.locs, Pt.cells, Pt.slots] at X41 l41 y41 z41 st41 hQ41
    obtain rfl : k41 = 14 := y41
    obtain rfl : n41 = 50 := z41
    obtain ⟨rfl, N41q, e41⟩ := hQ41
    have N41 : Fr n0 L41 := by rw [l41]; exact Fr.app N40 N41q
    try clear l41
    refine own_tr st41 ?_
    show own_Gl p e below _ (T41.setTop (mkF m 308 #[.val (.long i0), .second, .val (.long i1), .second, .val (.long i2), .second, .val (.long i3), .second, .val (.long i4), .second, .val (.int i5), .val (.int rv), .val (.long ov), .second, .val (.long (i0 ^^^ (-1 : Int64))), .second, .val (.ref f), .val (.int (0 : Int32)), .val (.ref to), .val (.ref c2), .val (.ref cm), .val (.ref c1), .val (.ref bd), .val (.ref a), .val (.ref b), .val (.ref to), .val (.int (1 : Int32)), .val (.ref f), .val (.ref cm), .val (.ref lit)] [(.int (1 : Int32))]))
    try clear st41
    try clear N41q
    try clear N40
    try clear e40
    try clear X40
    try clear T40
    refine own_st (fun tg_ kg_ => XS.ifNo X41.here hx rfl (hb hby at_308) rfl ((if0 _ _).trans (feq ((by decide : ¬ ((1 : Int32) = (0 : Int32))))).1) kg_) ?_
    show own_Gl p e below _ (T41.setTop (mkF m 311 #[.val (.long i0), .second, .val (.long i1), .second, .val (.long i2), .second, .val (.long i3), .second, .val (.long i4), .second, .val (.int i5), .val (.int rv), .val (.long ov), .second, .val (.long (i0 ^^^ (-1 : Int64))), .second, .val (.ref f), .val (.int (0 : Int32)), .val (.ref to), .val (.ref c2), .val (.ref cm), .val (.ref c1), .val (.ref bd), .val (.ref a), .val (.ref b), .val (.ref to), .val (.int (1 : Int32)), .val (.ref f), .val (.ref cm), .val (.ref lit)] []))
    refine own_st (fun tg_ kg_ => XS.iload X41.here hx rfl (hb hby at_311) rfl kg_) ?_
    show own_Gl p e below _ (T41.setTop (mkF m 313 #[.val (.long i0), .second, .val (.long i1), .second, .val (.long i2), .second, .val (.long i3), .second, .val (.long i4), .second, .val (.int i5), .val (.int rv), .val (.long ov), .second, .val (.long (i0 ^^^ (-1 : Int64))), .second, .val (.ref f), .val (.int (0 : Int32)), .val (.ref to), .val (.ref c2), .val (.ref cm), .val (.ref c1), .val (.ref bd), .val (.ref a), .val (.ref b), .val (.ref to), .val (.int (1 : Int32)), .val (.ref f), .val (.ref cm), .val (.ref lit)] [(.int (1 : Int32))]))
    refine own_st (fun tg_ kg_ => XS.ifNo X41.here hx rfl (hb hby at_313) rfl ((if0 _ _).trans (feq ((by decide : ¬ ((1 : Int32) = (0 : Int32))))).1) kg_) ?_
    show own_Gl p e below _ (T41.setTop (mkF m 316 #[.val (.long i0), .second, .val (.long i1), .second, .val (.long i2), .second, .val (.long i3), .second, .val (.long i4), .second, .val (.int i5), .val (.int rv), .val (.long ov), .second, .val (.long (i0 ^^^ (-1 : Int64))), .second, .val (.ref f), .val (.int (0 : Int32)), .val (.ref to), .val (.ref c2), .val (.ref cm), .val (.ref c1), .val (.ref bd), .val (.ref a), .val (.ref b), .val (.ref to), .val (.int (1 : Int32)), .val (.ref f), .val (.ref cm), .val (.ref lit)] []))
    refine own_st (fun tg_ kg_ => XS.aload X41.here hx rfl (hb hby at_316) rfl rfl kg_) ?_
    show own_Gl p e below _ (T41.setTop (mkF m 318 #[.val (.long i0), .second, .val (.long i1), .second, .val (.long i2), .second, .val (.long i3), .second, .val (.long i4), .second, .val (.int i5), .val (.int rv), .val (.long ov), .second, .val (.long (i0 ^^^ (-1 : Int64))), .second, .val (.ref f), .val (.int (0 : Int32)), .val (.ref to), .val (.ref c2), .val (.ref cm), .val (.ref c1), .val (.ref bd), .val (.ref a), .val (.ref b), .val (.ref to), .val (.int (1 : Int32)), .val (.ref f), .val (.ref cm), .val (.ref lit)] [(.ref b)]))
    obtain ⟨cq42, kq42, q42a, q42b, q42c⟩ := isOf hZ e41 E_b
    obtain ⟨_, _, ⟨T42, L42, k42, n42⟩, -, X42, ⟨Lc42, hQ42, l42, y42, z42⟩, st42⟩ := X41.virtualBack hx (y := (⟨"com/example/highwater/highwater/store/StoredMessage", "groupId", "()J"⟩ : MethodName)) (z := (⟨"com/example/highwater/highwater/store/StoredMessage", "groupId", "()J"⟩ : MethodName)) hown (mvT hZ (hw _ (List.mem_of_getElem? (i := 124) rfl))) (mvT hZ (hw _ (List.mem_of_getElem? (i := 125) rfl))) (notFace_of_selects (args := #[]) (mvT hZ (hw _ (List.mem_of_getElem? (i := 127) rfl)))) (mvT hZ (hw _ (List.mem_of_getElem? (i := 127) rfl))) (mvT hZ (hw _ (List.mem_of_getElem? (i := 126) rfl))) (by decide) (backOf (W := 0) (own_rm_g_groupId l Z a0 hw [] b i3 T31.heap n0 (Nat.le_trans Z0 K32.1) G_groupId) hZ (hw _ (List.mem_of_getElem? (i := 128) rfl)) (hw _ (List.mem_of_getElem? (i := 47) rfl)) (by decide) (by decide)) q42a q42c (g := (mkF m 318 #[.val (.long i0), .second, .val (.long i1), .second, .val (.long i2), .second, .val (.long i3), .second, .val (.long i4), .second, .val (.int i5), .val (.int rv), .val (.long ov), .second, .val (.long (i0 ^^^ (-1 : Int64))), .second, .val (.ref f), .val (.int (0 : Int32)), .val (.ref to), .val (.ref c2), .val (.ref cm), .val (.ref c1), .val (.ref bd), .val (.ref a), .val (.ref b), .val (.ref to), .val (.int (1 : Int32)), .val (.ref f), .val (.ref cm), .val (.ref lit)] [(.ref b)])) rfl (by rw [hml]; rfl) (Steps.refl _) (argsL := []) (rest := []) (lenOf own_pd9 rfl) rfl (by show 2 * 0 + _ ≤ _; exact Nat.le_of_eq rfl) (hb hby at_318) (fun _ _ => ⟨rfl, e41, (by decide : 14 + 0 ≤ _), (by decide : 50 + 0 ≤ _)⟩)
    dsimp only [Pt.U, Pt.locs, Pt.cells, Pt.slots] at X42 l42 y42 z42 st42 hQ42
    obtain rfl : k42 = 14 := y42
    obtain rfl : n42 = 50 := z42
    obtain ⟨rfl, N42q, e42⟩ := hQ42
    have N42 : Fr n0 L42 := by rw [l42]; exact Fr.app N41 N42q
    try clear l42
    refine own_tr st42 ?_
    show own_Gl p e below _ (T42.setTop (mkF m 321 #[.val (.long i0), .second, .val (.long i1), .second, .val (.long i2), .second, .val (.long i3), .second, .val (.long i4), .second, .val (.int i5), .val (.int rv), .val (.long ov), .second, .val (.long (i0 ^^^ (-1 : Int64))), .second, .val (.ref f), .val (.int (0 : Int32)), .val (.ref to), .val (.ref c2), .val (.ref cm), .val (.ref c1), .val (.ref bd), .val (.ref a), .val (.ref b), .val (.ref to), .val (.int (1 : Int32)), .val (.ref f), .val (.ref cm), .val (.ref lit)] [(.long i3)]))
    try clear st42
    try clear N42q
    try clear N41
    try clear e41
    try clear X41
    try clear T41
    refine own_st (fun tg_ kg_ => XS.lload X42.here hx rfl (hb hby at_321) rfl kg_) ?_
    show own_Gl p e below _ (T42.setTop (mkF m 323 #[.val (.long i0), .second, .val (.long i1), .second, .val (.long i2), .second, .val (.long i3), .second, .val (.long i4), .second, .val (.int i5), .val (.int rv), .val (.long ov), .second, .val (.long (i0 ^^^ (-1 : Int64))), .second, .val (.ref f), .val (.int (0 : Int32)), .val (.ref to), .val (.ref c2), .val (.ref cm), .val (.ref c1), .val (.ref bd), .val (.ref a), .val (.ref b), .val (.ref to), .val (.int (1 : Int32)), .val (.ref f), .val (.ref cm), .val (.ref lit)] [(.long i3), (.long i3)]))
    refine own_st (fun tg_ kg_ => XS.lcmp X42.here hx rfl (hb hby at_323) rfl kg_) ?_
    show own_Gl p e below _ (T42.setTop (mkF m 324 #[.val (.long i0), .second, .val (.long i1), .second, .val (.long i2), .second, .val (.long i3), .second, .val (.long i4), .second, .val (.int i5), .val (.int rv), .val (.long ov), .second, .val (.long (i0 ^^^ (-1 : Int64))), .second, .val (.ref f), .val (.int (0 : Int32)), .val (.ref to), .val (.ref c2), .val (.ref cm), .val (.ref c1), .val (.ref bd), .val (.ref a), .val (.ref b), .val (.ref to), .val (.int (1 : Int32)), .val (.ref f), .val (.ref cm), .val (.ref lit)] [(.int (lcmpW i3 i3))]))
    refine own_st (fun tg_ kg_ => XS.ifNo X42.here hx rfl (hb hby at_324) rfl ((if0 _ _).trans (teq ((lw_eq _ _).mpr rfl)).2) kg_) ?_
    show own_Gl p e below _ (T42.setTop (mkF m 327 #[.val (.long i0), .second, .val (.long i1), .second, .val (.long i2), .second, .val (.long i3), .second, .val (.long i4), .second, .val (.int i5), .val (.int rv), .val (.long ov), .second, .val (.long (i0 ^^^ (-1 : Int64))), .second, .val (.ref f), .val (.int (0 : Int32)), .val (.ref to), .val (.ref c2), .val (.ref cm), .val (.ref c1), .val (.ref bd), .val (.ref a), .val (.ref b), .val (.ref to), .val (.int (1 : Int32)), .val (.ref f), .val (.ref cm), .val (.ref lit)] []))
    refine own_st (fun tg_ kg_ => XS.aload X42.here hx rfl (hb hby at_327) rfl rfl kg_) ?_
    show own_Gl p e below _ (T42.setTop (mkF m 329 #[.val (.long i0), .second, .val (.long i1), .second, .val (.long i2), .second, .val (.long i3), .second, .val (.long i4), .second, .val (.int i5), .val (.int rv), .val (.long ov), .second, .val (.long (i0 ^^^ (-1 : Int64))), .second, .val (.ref f), .val (.int (0 : Int32)), .val (.ref to), .val (.ref c2), .val (.ref cm), .val (.ref c1), .val (.ref bd), .val (.ref a), .val (.ref b), .val (.ref to), .val (.int (1 : Int32)), .val (.ref f), .val (.ref cm), .val (.ref lit)] [(.ref cm)]))
    refine own_st (fun tg_ kg_ => XT.nullNo X42.here hx rfl (hb hby at_329) rfl rfl nofun kg_) ?_
    show own_Gl p e below _ (T42.setTop (mkF m 332 #[.val (.long i0), .second, .val (.long i1), .second, .val (.long i2), .second, .val (.long i3), .second, .val (.long i4), .second, .val (.int i5), .val (.int rv), .val (.long ov), .second, .val (.long (i0 ^^^ (-1 : Int64))), .second, .val (.ref f), .val (.int (0 : Int32)), .val (.ref to), .val (.ref c2), .val (.ref cm), .val (.ref c1), .val (.ref bd), .val (.ref a), .val (.ref b), .val (.ref to), .val (.int (1 : Int32)), .val (.ref f), .val (.ref cm), .val (.ref lit)] []))
    refine own_st (fun tg_ kg_ => XS.aload X42.here hx rfl (hb hby at_332) rfl rfl kg_) ?_
    show own_Gl p e below _ (T42.setTop (mkF m 334 #[.val (.long i0), .second, .val (.long i1), .second, .val (.long i2), .second, .val (.long i3), .second, .val (.long i4), .second, .val (.int i5), .val (.int rv), .val (.long ov), .second, .val (.long (i0 ^^^ (-1 : Int64))), .second, .val (.ref f), .val (.int (0 : Int32)), .val (.ref to), .val (.ref c2), .val (.ref cm), .val (.ref c1), .val (.ref bd), .val (.ref a), .val (.ref b), .val (.ref to), .val (.int (1 : Int32)), .val (.ref f), .val (.ref cm), .val (.ref lit)] [(.ref cm)]))
    refine own_st (fun tg_ kg_ => XS.aload X42.here hx rfl (hb hby at_334) rfl rfl kg_) ?_
    show own_Gl p e below _ (T42.setTop (mkF m 336 #[.val (.long i0), .second, .val (.long i1), .second, .val (.long i2), .second, .val (.long i3), .second, .val (.long i4), .second, .val (.int i5), .val (.int rv), .val (.long ov), .second, .val (.long (i0 ^^^ (-1 : Int64))), .second, .val (.ref f), .val (.int (0 : Int32)), .val (.ref to), .val (.ref c2), .val (.ref cm), .val (.ref c1), .val (.ref bd), .val (.ref a), .val (.ref b), .val (.ref to), .val (.int (1 : Int32)), .val (.ref f), .val (.ref cm), .val (.ref lit)] [(.ref cm), (.ref cm)]))
    obtain ⟨cq43, kq43, q43a, q43b, q43c⟩ := isOf hZ e42 E_cm
    obtain ⟨_, _, ⟨T43, L43, k43, n43⟩, -, X43, ⟨Lc43, hQ43, l43, y43, z43⟩, st43⟩ := X42.virtualBack hx (y := (⟨"java/lang/String", "equals", "(Ljava/lang/Object;)Z"⟩ : MethodName)) (z := (⟨"java/lang/String", "equals", "(Ljava/lang/Object;)Z"⟩ : MethodName)) hown (mvT hZ (hw _ (List.mem_of_getElem? (i := 89) rfl))) (mvT hZ (hw _ (List.mem_of_getElem? (i := 90) rfl))) (notFace_of_selects (args := #[]) (mvT hZ (hw _ (List.mem_of_getElem? (i := 92) rfl)))) (mvT hZ (hw _ (List.mem_of_getElem? (i := 92) rfl))) (mvT hZ (hw _ (List.mem_of_getElem? (i := 91) rfl))) (by decide) (backOf (W := 0) (own_rm_eqs l Z a0 hw [] cm T31.heap n0 (Nat.le_trans Z0 K32.1)) hZ (hw _ (List.mem_of_getElem? (i := 93) rfl)) (hw _ (List.mem_of_getElem? (i := 3) rfl)) (by decide) (by decide)) q43a q43c (g := (mkF m 336 #[.val (.long i0), .second, .val (.long i1), .second, .val (.long i2), .second, .val (.long i3), .second, .val (.long i4), .second, .val (.int i5), .val (.int rv), .val (.long ov), .second, .val (.long (i0 ^^^ (-1 : Int64))), .second, .val (.ref f), .val (.int (0 : Int32)), .val (.ref to), .val (.ref c2), .val (.ref cm), .val (.ref c1), .val (.ref bd), .val (.ref a), .val (.ref b), .val (.ref to), .val (.int (1 : Int32)), .val (.ref f), .val (.ref cm), .val (.ref lit)] [(.ref cm), (.ref cm)])) rfl (by rw [hml]; rfl) (Steps.refl _) (argsL := [(.ref cm)]) (rest := []) (lenOf own_pd8 rfl) rfl (by show 2 * 0 + _ ≤ _; exact Nat.le_of_eq rfl) (hb hby at_336) (fun _ _ => ⟨rfl, e42, (by decide : 14 + 0 ≤ _), (by decide : 50 + 0 ≤ _)⟩)
    dsimp only [Pt.U, Pt.locs, Pt.cells, Pt.slots] at X43 l43 y43 z43 st43 hQ43
    obtain rfl : k43 = 14 := y43
    obtain rfl : n43 = 50 := z43
    obtain ⟨rfl, N43q, e43⟩ := hQ43
    have N43 : Fr n0 L43 := by rw [l43]; exact Fr.app N42 N43q
    try clear l43
    refine own_tr st43 ?_
    show own_Gl p e below _ (T43.setTop (mkF m 339 #[.val (.long i0), .second, .val (.long i1), .second, .val (.long i2), .second, .val (.long i3), .second, .val (.long i4), .second, .val (.int i5), .val (.int rv), .val (.long ov), .second, .val (.long (i0 ^^^ (-1 : Int64))), .second, .val (.ref f), .val (.int (0 : Int32)), .val (.ref to), .val (.ref c2), .val (.ref cm), .val (.ref c1), .val (.ref bd), .val (.ref a), .val (.ref b), .val (.ref to), .val (.int (1 : Int32)), .val (.ref f), .val (.ref cm), .val (.ref lit)] [(.int (1 : Int32))]))
    try clear st43
    try clear N43q
    try clear N42
    try clear e42
    try clear X42
    try clear T42
    refine own_st (fun tg_ kg_ => XS.ifNo X43.here hx rfl (hb hby at_339) rfl ((if0 _ _).trans (feq ((by decide : ¬ ((1 : Int32) = (0 : Int32))))).1) kg_) ?_
    show own_Gl p e below _ (T43.setTop (mkF m 342 #[.val (.long i0), .second, .val (.long i1), .second, .val (.long i2), .second, .val (.long i3), .second, .val (.long i4), .second, .val (.int i5), .val (.int rv), .val (.long ov), .second, .val (.long (i0 ^^^ (-1 : Int64))), .second, .val (.ref f), .val (.int (0 : Int32)), .val (.ref to), .val (.ref c2), .val (.ref cm), .val (.ref c1), .val (.ref bd), .val (.ref a), .val (.ref b), .val (.ref to), .val (.int (1 : Int32)), .val (.ref f), .val (.ref cm), .val (.ref lit)] []))
    refine own_st (fun tg_ kg_ => XS.aload X43.here hx rfl (hb hby at_342) rfl rfl kg_) ?_
    show own_Gl p e below _ (T43.setTop (mkF m 344 #[.val (.long i0), .second, .val (.long i1), .second, .val (.long i2), .second, .val (.long i3), .second, .val (.long i4), .second, .val (.int i5), .val (.int rv), .val (.long ov), .second, .val (.long (i0 ^^^ (-1 : Int64))), .second, .val (.ref f), .val (.int (0 : Int32)), .val (.ref to), .val (.ref c2), .val (.ref cm), .val (.ref c1), .val (.ref bd), .val (.ref a), .val (.ref b), .val (.ref to), .val (.int (1 : Int32)), .val (.ref f), .val (.ref cm), .val (.ref lit)] [(.ref lit)]))
    refine own_st (fun tg_ kg_ => XT.nullNo X43.here hx rfl (hb hby at_344) rfl rfl nofun kg_) ?_
    show own_Gl p e below _ (T43.setTop (mkF m 347 #[.val (.long i0), .second, .val (.long i1), .second, .val (.long i2), .second, .val (.long i3), .second, .val (.long i4), .second, .val (.int i5), .val (.int rv), .val (.long ov), .second, .val (.long (i0 ^^^ (-1 : Int64))), .second, .val (.ref f), .val (.int (0 : Int32)), .val (.ref to), .val (.ref c2), .val (.ref cm), .val (.ref c1), .val (.ref bd), .val (.ref a), .val (.ref b), .val (.ref to), .val (.int (1 : Int32)), .val (.ref f), .val (.ref cm), .val (.ref lit)] []))
    refine own_st (fun tg_ kg_ => XS.aload X43.here hx rfl (hb hby at_347) rfl rfl kg_) ?_
    show own_Gl p e below _ (T43.setTop (mkF m 349 #[.val (.long i0), .second, .val (.long i1), .second, .val (.long i2), .second, .val (.long i3), .second, .val (.long i4), .second, .val (.int i5), .val (.int rv), .val (.long ov), .second, .val (.long (i0 ^^^ (-1 : Int64))), .second, .val (.ref f), .val (.int (0 : Int32)), .val (.ref to), .val (.ref c2), .val (.ref cm), .val (.ref c1), .val (.ref bd), .val (.ref a), .val (.ref b), .val (.ref to), .val (.int (1 : Int32)), .val (.ref f), .val (.ref cm), .val (.ref lit)] [(.ref lit)]))
    obtain ⟨cq44, kq44, q44a, q44b, q44c⟩ := isOf hZ e43 E_lit
    obtain ⟨_, _, ⟨T44, L44, k44, n44⟩, -, X44, ⟨Lc44, hQ44, l44, y44, z44⟩, st44⟩ := X43.virtualBack hx (y := (⟨"java/lang/String", "isEmpty", "()Z"⟩ : MethodName)) (z := (⟨"java/lang/String", "isEmpty", "()Z"⟩ : MethodName)) hown (mvT hZ (hw _ (List.mem_of_getElem? (i := 129) rfl))) (mvT hZ (hw _ (List.mem_of_getElem? (i := 130) rfl))) (notFace_of_selects (args := #[]) (mvT hZ (hw _ (List.mem_of_getElem? (i := 132) rfl)))) (mvT hZ (hw _ (List.mem_of_getElem? (i := 132) rfl))) (mvT hZ (hw _ (List.mem_of_getElem? (i := 131) rfl))) (by decide) (backOf (W := 0) (own_rm_emp l Z a0 hw [] lit t kt T31.heap n0 (Nat.le_trans Z0 K32.1) Fv_lit V_t) hZ (hw _ (List.mem_of_getElem? (i := 133) rfl)) (hw _ (List.mem_of_getElem? (i := 3) rfl)) (by decide) (by decide)) q44a q44c (g := (mkF m 349 #[.val (.long i0), .second, .val (.long i1), .second, .val (.long i2), .second, .val (.long i3), .second, .val (.long i4), .second, .val (.int i5), .val (.int rv), .val (.long ov), .second, .val (.long (i0 ^^^ (-1 : Int64))), .second, .val (.ref f), .val (.int (0 : Int32)), .val (.ref to), .val (.ref c2), .val (.ref cm), .val (.ref c1), .val (.ref bd), .val (.ref a), .val (.ref b), .val (.ref to), .val (.int (1 : Int32)), .val (.ref f), .val (.ref cm), .val (.ref lit)] [(.ref lit)])) rfl (by rw [hml]; rfl) (Steps.refl _) (argsL := []) (rest := []) (lenOf own_pd10 rfl) rfl (by show 2 * 0 + _ ≤ _; exact Nat.le_of_eq rfl) (hb hby at_349) (fun _ _ => ⟨rfl, e43, (by decide : 14 + 0 ≤ _), (by decide : 50 + 0 ≤ _)⟩)
    dsimp only [Pt.U, Pt.locs, Pt.cells, Pt.slots] at X44 l44 y44 z44 st44 hQ44
    obtain rfl : k44 = 14 := y44
    obtain rfl : n44 = 50 := z44
    obtain ⟨rfl, N44q, e44⟩ := hQ44
    have N44 : Fr n0 L44 := by rw [l44]; exact Fr.app N43 N44q
    try clear l44
    refine own_tr st44 ?_
    show own_Gl p e below _ (T44.setTop (mkF m 352 #[.val (.long i0), .second, .val (.long i1), .second, .val (.long i2), .second, .val (.long i3), .second, .val (.long i4), .second, .val (.int i5), .val (.int rv), .val (.long ov), .second, .val (.long (i0 ^^^ (-1 : Int64))), .second, .val (.ref f), .val (.int (0 : Int32)), .val (.ref to), .val (.ref c2), .val (.ref cm), .val (.ref c1), .val (.ref bd), .val (.ref a), .val (.ref b), .val (.ref to), .val (.int (1 : Int32)), .val (.ref f), .val (.ref cm), .val (.ref lit)] [(.int (1 : Int32))]))
    try clear st44
    try clear N44q
    try clear N43
    try clear e43
    try clear X43
    try clear T43
    refine own_st (fun tg_ kg_ => XS.ifNo X44.here hx rfl (hb hby at_352) rfl ((if0 _ _).trans (feq ((by decide : ¬ ((1 : Int32) = (0 : Int32))))).1) kg_) ?_
    show own_Gl p e below _ (T44.setTop (mkF m 355 #[.val (.long i0), .second, .val (.long i1), .second, .val (.long i2), .second, .val (.long i3), .second, .val (.long i4), .second, .val (.int i5), .val (.int rv), .val (.long ov), .second, .val (.long (i0 ^^^ (-1 : Int64))), .second, .val (.ref f), .val (.int (0 : Int32)), .val (.ref to), .val (.ref c2), .val (.ref cm), .val (.ref c1), .val (.ref bd), .val (.ref a), .val (.ref b), .val (.ref to), .val (.int (1 : Int32)), .val (.ref f), .val (.ref cm), .val (.ref lit)] []))
    refine own_st (fun tg_ kg_ => XS.aload X44.here hx rfl (hb hby at_355) rfl rfl kg_) ?_
    show own_Gl p e below _ (T44.setTop (mkF m 357 #[.val (.long i0), .second, .val (.long i1), .second, .val (.long i2), .second, .val (.long i3), .second, .val (.long i4), .second, .val (.int i5), .val (.int rv), .val (.long ov), .second, .val (.long (i0 ^^^ (-1 : Int64))), .second, .val (.ref f), .val (.int (0 : Int32)), .val (.ref to), .val (.ref c2), .val (.ref cm), .val (.ref c1), .val (.ref bd), .val (.ref a), .val (.ref b), .val (.ref to), .val (.int (1 : Int32)), .val (.ref f), .val (.ref cm), .val (.ref lit)] [(.ref b)]))
    obtain ⟨cq45, kq45, q45a, q45b, q45c⟩ := isOf hZ e44 E_b
    obtain ⟨_, _, ⟨T45, L45, k45, n45⟩, -, X45, ⟨Lc45, hQ45, l45, y45, z45⟩, st45⟩ := X44.virtualBack hx (y := (⟨"com/example/highwater/highwater/store/StoredMessage", "ts", "()J"⟩ : MethodName)) (z := (⟨"com/example/highwater/highwater/store/StoredMessage", "ts", "()J"⟩ : MethodName)) hown (mvT hZ (hw _ (List.mem_of_getElem? (i := 134) rfl))) (mvT hZ (hw _ (List.mem_of_getElem? (i := 135) rfl))) (notFace_of_selects (args := #[]) (mvT hZ (hw _ (List.mem_of_getElem? (i := 137) rfl)))) (mvT hZ (hw _ (List.mem_of_getElem? (i := 137) rfl))) (mvT hZ (hw _ (List.mem_of_getElem? (i := 136) rfl))) (by decide) (backOf (W := 0) (own_rm_g_ts l Z a0 hw [] b (i0 ^^^ (-1 : Int64)) T31.heap n0 (Nat.le_trans Z0 K32.1) G_ts) hZ (hw _ (List.mem_of_getElem? (i := 138) rfl)) (hw _ (List.mem_of_getElem? (i := 47) rfl)) (by decide) (by decide)) q45a q45c (g := (mkF m 357 #[.val (.long i0), .second, .val (.long i1), .second, .val (.long i2), .second, .val (.long i3), .second, .val (.long i4), .second, .val (.int i5), .val (.int rv), .val (.long ov), .second, .val (.long (i0 ^^^ (-1 : Int64))), .second, .val (.ref f), .val (.int (0 : Int32)), .val (.ref to), .val (.ref c2), .val (.ref cm), .val (.ref c1), .val (.ref bd), .val (.ref a), .val (.ref b), .val (.ref to), .val (.int (1 : Int32)), .val (.ref f), .val (.ref cm), .val (.ref lit)] [(.ref b)])) rfl (by rw [hml]; rfl) (Steps.refl _) (argsL := []) (rest := []) (lenOf own_pd9 rfl) rfl (by show 2 * 0 + _ ≤ _; exact Nat.le_of_eq rfl) (hb hby at_357) (fun _ _ => ⟨rfl, e44, (by decide : 14 + 0 ≤ _), (by decide : 50 + 0 ≤ _)⟩)
    dsimp only [Pt.U, Pt.locs, Pt.cells, Pt.slots] at X45 l45 y45 z45 st45 hQ45
    obtain rfl : k45 = 14 := y45
    obtain rfl : n45 = 50 := z45
    obtain ⟨rfl, N45q, e45⟩ := hQ45
    have N45 : Fr n0 L45 := by rw [l45]; exact Fr.app N44 N45q
    try clear l45
    refine own_tr st45 ?_
    show own_Gl p e below _ (T45.setTop (mkF m 360 #[.val (.long i0), .second, .val (.long i1), .second, .val (.long i2), .second, .val (.long i3), .second, .val (.long i4), .second, .val (.int i5), .val (.int rv), .val (.long ov), .second, .val (.long (i0 ^^^ (-1 : Int64))), .second, .val (.ref f), .val (.int (0 : Int32)), .val (.ref to), .val (.ref c2), .val (.ref cm), .val (.ref c1), .val (.ref bd), .val (.ref a), .val (.ref b), .val (.ref to), .val (.int (1 : Int32)), .val (.ref f), .val (.ref cm), .val (.ref lit)] [(.long (i0 ^^^ (-1 : Int64)))]))
    try clear st45
    try clear N45q
    try clear N44
    try clear e44
    try clear X44
    try clear T44
    refine own_st (fun tg_ kg_ => XS.lload X45.here hx rfl (hb hby at_360) rfl kg_) ?_
    show own_Gl p e below _ (T45.setTop (mkF m 362 #[.val (.long i0), .second, .val (.long i1), .second, .val (.long i2), .second, .val (.long i3), .second, .val (.long i4), .second, .val (.int i5), .val (.int rv), .val (.long ov), .second, .val (.long (i0 ^^^ (-1 : Int64))), .second, .val (.ref f), .val (.int (0 : Int32)), .val (.ref to), .val (.ref c2), .val (.ref cm), .val (.ref c1), .val (.ref bd), .val (.ref a), .val (.ref b), .val (.ref to), .val (.int (1 : Int32)), .val (.ref f), .val (.ref cm), .val (.ref lit)] [(.long (i0 ^^^ (-1 : Int64))), (.long (i0 ^^^ (-1 : Int64)))]))
    refine own_st (fun tg_ kg_ => XS.lcmp X45.here hx rfl (hb hby at_362) rfl kg_) ?_
    show own_Gl p e below _ (T45.setTop (mkF m 363 #[.val (.long i0), .second, .val (.long i1), .second, .val (.long i2), .second, .val (.long i3), .second, .val (.long i4), .second, .val (.int i5), .val (.int rv), .val (.long ov), .second, .val (.long (i0 ^^^ (-1 : Int64))), .second, .val (.ref f), .val (.int (0 : Int32)), .val (.ref to), .val (.ref c2), .val (.ref cm), .val (.ref c1), .val (.ref bd), .val (.ref a), .val (.ref b), .val (.ref to), .val (.int (1 : Int32)), .val (.ref f), .val (.ref cm), .val (.ref lit)] [(.int (lcmpW (i0 ^^^ (-1 : Int64)) (i0 ^^^ (-1 : Int64))))]))
    refine own_st (fun tg_ kg_ => XS.ifNo X45.here hx rfl (hb hby at_363) rfl ((if0 _ _).trans (teq ((lw_eq _ _).mpr rfl)).2) kg_) ?_
    show own_Gl p e below _ (T45.setTop (mkF m 366 #[.val (.long i0), .second, .val (.long i1), .second, .val (.long i2), .second, .val (.long i3), .second, .val (.long i4), .second, .val (.int i5), .val (.int rv), .val (.long ov), .second, .val (.long (i0 ^^^ (-1 : Int64))), .second, .val (.ref f), .val (.int (0 : Int32)), .val (.ref to), .val (.ref c2), .val (.ref cm), .val (.ref c1), .val (.ref bd), .val (.ref a), .val (.ref b), .val (.ref to), .val (.int (1 : Int32)), .val (.ref f), .val (.ref cm), .val (.ref lit)] []))
    refine own_st (fun tg_ kg_ => XS.aload X45.here hx rfl (hb hby at_366) rfl rfl kg_) ?_
    show own_Gl p e below _ (T45.setTop (mkF m 368 #[.val (.long i0), .second, .val (.long i1), .second, .val (.long i2), .second, .val (.long i3), .second, .val (.long i4), .second, .val (.int i5), .val (.int rv), .val (.long ov), .second, .val (.long (i0 ^^^ (-1 : Int64))), .second, .val (.ref f), .val (.int (0 : Int32)), .val (.ref to), .val (.ref c2), .val (.ref cm), .val (.ref c1), .val (.ref bd), .val (.ref a), .val (.ref b), .val (.ref to), .val (.int (1 : Int32)), .val (.ref f), .val (.ref cm), .val (.ref lit)] [(.ref b)]))
    obtain ⟨cq46, kq46, q46a, q46b, q46c⟩ := isOf hZ e45 E_b
    obtain ⟨_, _, ⟨T46, L46, k46, n46⟩, -, X46, ⟨Lc46, hQ46, l46, y46, z46⟩, st46⟩ := X45.virtualBack hx (y := (⟨"com/example/highwater/highwater/store/StoredMessage", "revoked", "()Z"⟩ : MethodName)) (z := (⟨"com/example/highwater/highwater/store/StoredMessage", "revoked", "()Z"⟩ : MethodName)) hown (mvT hZ (hw _ (List.mem_of_getElem? (i := 139) rfl))) (mvT hZ (hw _ (List.mem_of_getElem? (i := 140) rfl))) (notFace_of_selects (args := #[]) (mvT hZ (hw _ (List.mem_of_getElem? (i := 142) rfl)))) (mvT hZ (hw _ (List.mem_of_getElem? (i := 142) rfl))) (mvT hZ (hw _ (List.mem_of_getElem? (i := 141) rfl))) (by decide) (backOf (W := 0) (own_rm_g_revoked l Z a0 hw [] b (nar .boolean 1) T31.heap n0 (Nat.le_trans Z0 K32.1) G_revoked) hZ (hw _ (List.mem_of_getElem? (i := 143) rfl)) (hw _ (List.mem_of_getElem? (i := 47) rfl)) (by decide) (by decide)) q46a q46c (g := (mkF m 368 #[.val (.long i0), .second, .val (.long i1), .second, .val (.long i2), .second, .val (.long i3), .second, .val (.long i4), .second, .val (.int i5), .val (.int rv), .val (.long ov), .second, .val (.long (i0 ^^^ (-1 : Int64))), .second, .val (.ref f), .val (.int (0 : Int32)), .val (.ref to), .val (.ref c2), .val (.ref cm), .val (.ref c1), .val (.ref bd), .val (.ref a), .val (.ref b), .val (.ref to), .val (.int (1 : Int32)), .val (.ref f), .val (.ref cm), .val (.ref lit)] [(.ref b)])) rfl (by rw [hml]; rfl) (Steps.refl _) (argsL := []) (rest := []) (lenOf own_pd10 rfl) rfl (by show 2 * 0 + _ ≤ _; exact Nat.le_of_eq rfl) (hb hby at_368) (fun _ _ => ⟨rfl, e45, (by decide : 14 + 0 ≤ _), (by decide : 50 + 0 ≤ _)⟩)
    dsimp only [Pt.U, Pt.locs, Pt.cells, Pt.slots] at X46 l46 y46 z46 st46 hQ46
    obtain rfl : k46 = 14 := y46
    obtain rfl : n46 = 50 := z46
    obtain ⟨rfl, N46q, e46⟩ := hQ46
    have N46 : Fr n0 L46 := by rw [l46]; exact Fr.app N45 N46q
    try clear l46
    refine own_tr st46 ?_
    show own_Gl p e below _ (T46.setTop (mkF m 371 #[.val (.long i0), .second, .val (.long i1), .second, .val (.long i2), .second, .val (.long i3), .second, .val (.long i4), .second, .val (.int i5), .val (.int rv), .val (.long ov), .second, .val (.long (i0 ^^^ (-1 : Int64))), .second, .val (.ref f), .val (.int (0 : Int32)), .val (.ref to), .val (.ref c2), .val (.ref cm), .val (.ref c1), .val (.ref bd), .val (.ref a), .val (.ref b), .val (.ref to), .val (.int (1 : Int32)), .val (.ref f), .val (.ref cm), .val (.ref lit)] [(.int (1 : Int32))]))
    try clear st46
    try clear N46q
    try clear N45
    try clear e45
    try clear X45
    try clear T45
    refine own_st (fun tg_ kg_ => XS.ifNo X46.here hx rfl (hb hby at_371) rfl ((if0 _ _).trans (feq ((by decide : ¬ ((1 : Int32) = (0 : Int32))))).1) kg_) ?_
    show own_Gl p e below _ (T46.setTop (mkF m 374 #[.val (.long i0), .second, .val (.long i1), .second, .val (.long i2), .second, .val (.long i3), .second, .val (.long i4), .second, .val (.int i5), .val (.int rv), .val (.long ov), .second, .val (.long (i0 ^^^ (-1 : Int64))), .second, .val (.ref f), .val (.int (0 : Int32)), .val (.ref to), .val (.ref c2), .val (.ref cm), .val (.ref c1), .val (.ref bd), .val (.ref a), .val (.ref b), .val (.ref to), .val (.int (1 : Int32)), .val (.ref f), .val (.ref cm), .val (.ref lit)] []))
    refine own_st (fun tg_ kg_ => XS.aload X46.here hx rfl (hb hby at_374) rfl rfl kg_) ?_
    show own_Gl p e below _ (T46.setTop (mkF m 376 #[.val (.long i0), .second, .val (.long i1), .second, .val (.long i2), .second, .val (.long i3), .second, .val (.long i4), .second, .val (.int i5), .val (.int rv), .val (.long ov), .second, .val (.long (i0 ^^^ (-1 : Int64))), .second, .val (.ref f), .val (.int (0 : Int32)), .val (.ref to), .val (.ref c2), .val (.ref cm), .val (.ref c1), .val (.ref bd), .val (.ref a), .val (.ref b), .val (.ref to), .val (.int (1 : Int32)), .val (.ref f), .val (.ref cm), .val (.ref lit)] [(.ref b)]))
    obtain ⟨cq47, kq47, q47a, q47b, q47c⟩ := isOf hZ e46 E_b
    obtain ⟨_, _, ⟨T47, L47, k47, n47⟩, -, X47, ⟨Lc47, hQ47, l47, y47, z47⟩, st47⟩ := X46.virtualBack hx (y := (⟨"com/example/highwater/highwater/store/StoredMessage", "revokedTs", "()J"⟩ : MethodName)) (z := (⟨"com/example/highwater/highwater/store/StoredMessage", "revokedTs", "()J"⟩ : MethodName)) hown (mvT hZ (hw _ (List.mem_of_getElem? (i := 144) rfl))) (mvT hZ (hw _ (List.mem_of_getElem? (i := 145) rfl))) (notFace_of_selects (args := #[]) (mvT hZ (hw _ (List.mem_of_getElem? (i := 147) rfl)))) (mvT hZ (hw _ (List.mem_of_getElem? (i := 147) rfl))) (mvT hZ (hw _ (List.mem_of_getElem? (i := 146) rfl))) (by decide) (backOf (W := 0) (own_rm_g_revokedTs l Z a0 hw [] b i4 T31.heap n0 (Nat.le_trans Z0 K32.1) G_revokedTs) hZ (hw _ (List.mem_of_getElem? (i := 148) rfl)) (hw _ (List.mem_of_getElem? (i := 47) rfl)) (by decide) (by decide)) q47a q47c (g := (mkF m 376 #[.val (.long i0), .second, .val (.long i1), .second, .val (.long i2), .second, .val (.long i3), .second, .val (.long i4), .second, .val (.int i5), .val (.int rv), .val (.long ov), .second, .val (.long (i0 ^^^ (-1 : Int64))), .second, .val (.ref f), .val (.int (0 : Int32)), .val (.ref to), .val (.ref c2), .val (.ref cm), .val (.ref c1), .val (.ref bd), .val (.ref a), .val (.ref b), .val (.ref to), .val (.int (1 : Int32)), .val (.ref f), .val (.ref cm), .val (.ref lit)] [(.ref b)])) rfl (by rw [hml]; rfl) (Steps.refl _) (argsL := []) (rest := []) (lenOf own_pd9 rfl) rfl (by show 2 * 0 + _ ≤ _; exact Nat.le_of_eq rfl) (hb hby at_376) (fun _ _ => ⟨rfl, e46, (by decide : 14 + 0 ≤ _), (by decide : 50 + 0 ≤ _)⟩)
    dsimp only [Pt.U, Pt.locs, Pt.cells, Pt.slots] at X47 l47 y47 z47 st47 hQ47
    obtain rfl : k47 = 14 := y47
    obtain rfl : n47 = 50 := z47
    obtain ⟨rfl, N47q, e47⟩ := hQ47
    have N47 : Fr n0 L47 := by rw [l47]; exact Fr.app N46 N47q
    try clear l47
    refine own_tr st47 ?_
    show own_Gl p e below _ (T47.setTop (mkF m 379 #[.val (.long i0), .second, .val (.long i1), .second, .val (.long i2), .second, .val (.long i3), .second, .val (.long i4), .second, .val (.int i5), .val (.int rv), .val (.long ov), .second, .val (.long (i0 ^^^ (-1 : Int64))), .second, .val (.ref f), .val (.int (0 : Int32)), .val (.ref to), .val (.ref c2), .val (.ref cm), .val (.ref c1), .val (.ref bd), .val (.ref a), .val (.ref b), .val (.ref to), .val (.int (1 : Int32)), .val (.ref f), .val (.ref cm), .val (.ref lit)] [(.long i4)]))
    try clear st47
    try clear N47q
    try clear N46
    try clear e46
    try clear X46
    try clear T46
    refine own_st (fun tg_ kg_ => XS.lload X47.here hx rfl (hb hby at_379) rfl kg_) ?_
    show own_Gl p e below _ (T47.setTop (mkF m 381 #[.val (.long i0), .second, .val (.long i1), .second, .val (.long i2), .second, .val (.long i3), .second, .val (.long i4), .second, .val (.int i5), .val (.int rv), .val (.long ov), .second, .val (.long (i0 ^^^ (-1 : Int64))), .second, .val (.ref f), .val (.int (0 : Int32)), .val (.ref to), .val (.ref c2), .val (.ref cm), .val (.ref c1), .val (.ref bd), .val (.ref a), .val (.ref b), .val (.ref to), .val (.int (1 : Int32)), .val (.ref f), .val (.ref cm), .val (.ref lit)] [(.long i4), (.long i4)]))
    refine own_st (fun tg_ kg_ => XS.lcmp X47.here hx rfl (hb hby at_381) rfl kg_) ?_
    show own_Gl p e below _ (T47.setTop (mkF m 382 #[.val (.long i0), .second, .val (.long i1), .second, .val (.long i2), .second, .val (.long i3), .second, .val (.long i4), .second, .val (.int i5), .val (.int rv), .val (.long ov), .second, .val (.long (i0 ^^^ (-1 : Int64))), .second, .val (.ref f), .val (.int (0 : Int32)), .val (.ref to), .val (.ref c2), .val (.ref cm), .val (.ref c1), .val (.ref bd), .val (.ref a), .val (.ref b), .val (.ref to), .val (.int (1 : Int32)), .val (.ref f), .val (.ref cm), .val (.ref lit)] [(.int (lcmpW i4 i4))]))
    refine own_st (fun tg_ kg_ => XS.ifNo X47.here hx rfl (hb hby at_382) rfl ((if0 _ _).trans (teq ((lw_eq _ _).mpr rfl)).2) kg_) ?_
    show own_Gl p e below _ (T47.setTop (mkF m 385 #[.val (.long i0), .second, .val (.long i1), .second, .val (.long i2), .second, .val (.long i3), .second, .val (.long i4), .second, .val (.int i5), .val (.int rv), .val (.long ov), .second, .val (.long (i0 ^^^ (-1 : Int64))), .second, .val (.ref f), .val (.int (0 : Int32)), .val (.ref to), .val (.ref c2), .val (.ref cm), .val (.ref c1), .val (.ref bd), .val (.ref a), .val (.ref b), .val (.ref to), .val (.int (1 : Int32)), .val (.ref f), .val (.ref cm), .val (.ref lit)] []))
    refine own_st (fun tg_ kg_ => XS.iconst X47.here hx rfl (hb hby at_385) kg_) ?_
    show own_Gl p e below _ (T47.setTop (mkF m 386 #[.val (.long i0), .second, .val (.long i1), .second, .val (.long i2), .second, .val (.long i3), .second, .val (.long i4), .second, .val (.int i5), .val (.int rv), .val (.long ov), .second, .val (.long (i0 ^^^ (-1 : Int64))), .second, .val (.ref f), .val (.int (0 : Int32)), .val (.ref to), .val (.ref c2), .val (.ref cm), .val (.ref c1), .val (.ref bd), .val (.ref a), .val (.ref b), .val (.ref to), .val (.int (1 : Int32)), .val (.ref f), .val (.ref cm), .val (.ref lit)] [(.int (1 : Int32))]))
    refine own_st (fun tg_ kg_ => XS.goto X47.here hx rfl (pc0 := 386) (pc' := 390) rfl (hb hby at_386) (by decide) (by decide) kg_) ?_
    show own_Gl p e below _ (T47.setTop (mkF m 390 #[.val (.long i0), .second, .val (.long i1), .second, .val (.long i2), .second, .val (.long i3), .second, .val (.long i4), .second, .val (.int i5), .val (.int rv), .val (.long ov), .second, .val (.long (i0 ^^^ (-1 : Int64))), .second, .val (.ref f), .val (.int (0 : Int32)), .val (.ref to), .val (.ref c2), .val (.ref cm), .val (.ref c1), .val (.ref bd), .val (.ref a), .val (.ref b), .val (.ref to), .val (.int (1 : Int32)), .val (.ref f), .val (.ref cm), .val (.ref lit)] [(.int (1 : Int32))]))
    exact own_wlretN X47 hx Bd.notSynchronized (t := .boolean) Bd.returns (by simp) (hb hby at_390) (by decide) (by decide) e47 hSb31 hk (⟨rfl, N47⟩)
  ·
    show own_Gl p e below _ (T2.setTop (mkF m 59 #[.val (.long i0), .second, .val (.long i1), .second, .val (.long i2), .second, .val (.long i3), .second, .val (.long i4), .second, .val (.int i5), .val (.int rv), .val (.long ov), .second, .val (.long (i0 ^^^ (-1 : Int64))), .second, .val (.ref f), .unset, .unset, .unset, .unset, .unset, .unset, .unset, .unset, .unset, .unset, .unset, .unset, .unset] [(.int (((i5.toUInt32 >>> ((9 : Int32) &&& 31).toUInt32).toInt32) &&& (1 : Int32)))]))
    refine own_st (fun tg_ kg_ => XS.ifNo X2.here hx rfl (hb hby at_59) rfl ((if0 _ _).trans (feq (hto)).1) kg_) ?_
    show own_Gl p e below _ (T2.setTop (mkF m 62 #[.val (.long i0), .second, .val (.long i1), .second, .val (.long i2), .second, .val (.long i3), .second, .val (.long i4), .second, .val (.int i5), .val (.int rv), .val (.long ov), .second, .val (.long (i0 ^^^ (-1 : Int64))), .second, .val (.ref f), .unset, .unset, .unset, .unset, .unset, .unset, .unset, .unset, .unset, .unset, .unset, .unset, .unset] []))
    refine own_st (fun tg_ kg_ => XS.iconst X2.here hx rfl (hb hby at_62) kg_) ?_
    show own_Gl p e below _ (T2.setTop (mkF m 63 #[.val (.long i0), .second, .val (.long i1), .second, .val (.long i2), .second, .val (.long i3), .second, .val (.long i4), .second, .val (.int i5), .val (.int rv), .val (.long ov), .second, .val (.long (i0 ^^^ (-1 : Int64))), .second, .val (.ref f), .unset, .unset, .unset, .unset, .unset, .unset, .unset, .unset, .unset, .unset, .unset, .unset, .unset] [(.int (1 : Int32))]))
    refine own_st (fun tg_ kg_ => XS.goto X2.here hx rfl (pc0 := 63) (pc' := 67) rfl (hb hby at_63) (by decide) (by decide) kg_) ?_
    show own_Gl p e below _ (T2.setTop (mkF m 67 #[.val (.long i0), .second, .val (.long i1), .second, .val (.long i2), .second, .val (.long i3), .second, .val (.long i4), .second, .val (.int i5), .val (.int rv), .val (.long ov), .second, .val (.long (i0 ^^^ (-1 : Int64))), .second, .val (.ref f), .unset, .unset, .unset, .unset, .unset, .unset, .unset, .unset, .unset, .unset, .unset, .unset, .unset] [(.int (1 : Int32))]))
    refine own_st (fun tg_ kg_ => XS.istore X2.here hx rfl (hb hby at_67) rfl (l' := #[.val (.long i0), .second, .val (.long i1), .second, .val (.long i2), .second, .val (.long i3), .second, .val (.long i4), .second, .val (.int i5), .val (.int rv), .val (.long ov), .second, .val (.long (i0 ^^^ (-1 : Int64))), .second, .val (.ref f), .val (.int (1 : Int32)), .unset, .unset, .unset, .unset, .unset, .unset, .unset, .unset, .unset, .unset, .unset, .unset]) rfl kg_) ?_
    show own_Gl p e below _ (T2.setTop (mkF m 69 #[.val (.long i0), .second, .val (.long i1), .second, .val (.long i2), .second, .val (.long i3), .second, .val (.long i4), .second, .val (.int i5), .val (.int rv), .val (.long ov), .second, .val (.long (i0 ^^^ (-1 : Int64))), .second, .val (.ref f), .val (.int (1 : Int32)), .unset, .unset, .unset, .unset, .unset, .unset, .unset, .unset, .unset, .unset, .unset, .unset] []))
    refine own_st (fun tg_ kg_ => XS.iload X2.here hx rfl (hb hby at_69) rfl kg_) ?_
    show own_Gl p e below _ (T2.setTop (mkF m 71 #[.val (.long i0), .second, .val (.long i1), .second, .val (.long i2), .second, .val (.long i3), .second, .val (.long i4), .second, .val (.int i5), .val (.int rv), .val (.long ov), .second, .val (.long (i0 ^^^ (-1 : Int64))), .second, .val (.ref f), .val (.int (1 : Int32)), .unset, .unset, .unset, .unset, .unset, .unset, .unset, .unset, .unset, .unset, .unset, .unset] [(.int (1 : Int32))]))
    refine own_st (fun tg_ kg_ => XS.ifNo X2.here hx rfl (hb hby at_71) rfl ((if0 _ _).trans (feq ((by decide : ¬ ((1 : Int32) = (0 : Int32))))).1) kg_) ?_
    show own_Gl p e below _ (T2.setTop (mkF m 74 #[.val (.long i0), .second, .val (.long i1), .second, .val (.long i2), .second, .val (.long i3), .second, .val (.long i4), .second, .val (.int i5), .val (.int rv), .val (.long ov), .second, .val (.long (i0 ^^^ (-1 : Int64))), .second, .val (.ref f), .val (.int (1 : Int32)), .unset, .unset, .unset, .unset, .unset, .unset, .unset, .unset, .unset, .unset, .unset, .unset] []))
    refine own_st (fun tg_ kg_ => XS.aconstNull X2.here hx rfl (hb hby at_74) kg_) ?_
    show own_Gl p e below _ (T2.setTop (mkF m 75 #[.val (.long i0), .second, .val (.long i1), .second, .val (.long i2), .second, .val (.long i3), .second, .val (.long i4), .second, .val (.int i5), .val (.int rv), .val (.long ov), .second, .val (.long (i0 ^^^ (-1 : Int64))), .second, .val (.ref f), .val (.int (1 : Int32)), .unset, .unset, .unset, .unset, .unset, .unset, .unset, .unset, .unset, .unset, .unset, .unset] [.null]))
    refine own_st (fun tg_ kg_ => XS.goto X2.here hx rfl (pc0 := 75) (pc' := 91) rfl (hb hby at_75) (by decide) (by decide) kg_) ?_
    show own_Gl p e below _ (T2.setTop (mkF m 91 #[.val (.long i0), .second, .val (.long i1), .second, .val (.long i2), .second, .val (.long i3), .second, .val (.long i4), .second, .val (.int i5), .val (.int rv), .val (.long ov), .second, .val (.long (i0 ^^^ (-1 : Int64))), .second, .val (.ref f), .val (.int (1 : Int32)), .unset, .unset, .unset, .unset, .unset, .unset, .unset, .unset, .unset, .unset, .unset, .unset] [.null]))
    refine own_st (fun tg_ kg_ => XS.astore X2.here hx rfl (hb hby at_91) rfl rfl (l' := #[.val (.long i0), .second, .val (.long i1), .second, .val (.long i2), .second, .val (.long i3), .second, .val (.long i4), .second, .val (.int i5), .val (.int rv), .val (.long ov), .second, .val (.long (i0 ^^^ (-1 : Int64))), .second, .val (.ref f), .val (.int (1 : Int32)), .val .null, .unset, .unset, .unset, .unset, .unset, .unset, .unset, .unset, .unset, .unset, .unset]) rfl kg_) ?_
    show own_Gl p e below _ (T2.setTop (mkF m 93 #[.val (.long i0), .second, .val (.long i1), .second, .val (.long i2), .second, .val (.long i3), .second, .val (.long i4), .second, .val (.int i5), .val (.int rv), .val (.long ov), .second, .val (.long (i0 ^^^ (-1 : Int64))), .second, .val (.ref f), .val (.int (1 : Int32)), .val .null, .unset, .unset, .unset, .unset, .unset, .unset, .unset, .unset, .unset, .unset, .unset] []))
    refine own_st (fun tg_ kg_ => XS.iconst X2.here hx rfl (hb hby at_93) kg_) ?_
    show own_Gl p e below _ (T2.setTop (mkF m 94 #[.val (.long i0), .second, .val (.long i1), .second, .val (.long i2), .second, .val (.long i3), .second, .val (.long i4), .second, .val (.int i5), .val (.int rv), .val (.long ov), .second, .val (.long (i0 ^^^ (-1 : Int64))), .second, .val (.ref f), .val (.int (1 : Int32)), .val .null, .unset, .unset, .unset, .unset, .unset, .unset, .unset, .unset, .unset, .unset, .unset] [(.int (2 : Int32))]))
    obtain ⟨T48, h48, k48, X48, e48, E48, A48, st48⟩ := newP X2 hx hZ (hw _ (List.mem_of_getElem? (i := 27) rfl)) rfl (g := (mkF m 94 #[.val (.long i0), .second, .val (.long i1), .second, .val (.long i2), .second, .val (.long i3), .second, .val (.long i4), .second, .val (.int i5), .val (.int rv), .val (.long ov), .second, .val (.long (i0 ^^^ (-1 : Int64))), .second, .val (.ref f), .val (.int (1 : Int32)), .val .null, .unset, .unset, .unset, .unset, .unset, .unset, .unset, .unset, .unset, .unset, .unset] [(.int (2 : Int32))])) rfl (hb hby at_94) rfl (by decide) (cap := 2) (by decide) (by decide) (by decide) (by decide)
    obtain ⟨c2, g48⟩ : ∃ z, z = T2.heap.size := ⟨_, rfl⟩
    have ne_f_c2 : f ≠ c2 := Nat.ne_of_lt (Nat.lt_of_lt_of_le E_f.lt (Nat.le_of_eq g48.symm))
    have sz_c2 : h0.size ≤ c2 := (Nat.le_trans Kc2.1 (Nat.le_of_eq g48.symm))
    have g_c2 : n0 ≤ c2 := Nat.le_trans Z0 sz_c2
    rw [← g48] at A48 st48
    replace E_f := E_f.ext E48
    have K49 := own_ext_tr Kc2 E48
    try clear E48
    try clear Kc2
    have V_c2 : Arv Z h48 c2 k48 .char (2 : Int32) [(.int (0 : Int32)), (.int (0 : Int32))] (.int (0 : Int32)) := (Arv.new A48 (by decide)).pad (pad_rep [] (.int (0 : Int32)) 2)
    refine own_st st48 ?_
    try clear st48
    try clear X2
    try clear T2
    show own_Gl p e below _ (T48.setTop (mkF m 96 #[.val (.long i0), .second, .val (.long i1), .second, .val (.long i2), .second, .val (.long i3), .second, .val (.long i4), .second, .val (.int i5), .val (.int rv), .val (.long ov), .second, .val (.long (i0 ^^^ (-1 : Int64))), .second, .val (.ref f), .val (.int (1 : Int32)), .val .null, .unset, .unset, .unset, .unset, .unset, .unset, .unset, .unset, .unset, .unset, .unset] [(.ref c2)]))
    refine own_st (fun tg_ kg_ => XS.astore X48.here hx rfl (hb hby at_96) rfl rfl (l' := #[.val (.long i0), .second, .val (.long i1), .second, .val (.long i2), .second, .val (.long i3), .second, .val (.long i4), .second, .val (.int i5), .val (.int rv), .val (.long ov), .second, .val (.long (i0 ^^^ (-1 : Int64))), .second, .val (.ref f), .val (.int (1 : Int32)), .val .null, .val (.ref c2), .unset, .unset, .unset, .unset, .unset, .unset, .unset, .unset, .unset, .unset]) rfl kg_) ?_
    show own_Gl p e below _ (T48.setTop (mkF m 98 #[.val (.long i0), .second, .val (.long i1), .second, .val (.long i2), .second, .val (.long i3), .second, .val (.long i4), .second, .val (.int i5), .val (.int rv), .val (.long ov), .second, .val (.long (i0 ^^^ (-1 : Int64))), .second, .val (.ref f), .val (.int (1 : Int32)), .val .null, .val (.ref c2), .unset, .unset, .unset, .unset, .unset, .unset, .unset, .unset, .unset, .unset] []))
    refine own_st (fun tg_ kg_ => XS.aload X48.here hx rfl (hb hby at_98) rfl rfl kg_) ?_
    show own_Gl p e below _ (T48.setTop (mkF m 100 #[.val (.long i0), .second, .val (.long i1), .second, .val (.long i2), .second, .val (.long i3), .second, .val (.long i4), .second, .val (.int i5), .val (.int rv), .val (.long ov), .second, .val (.long (i0 ^^^ (-1 : Int64))), .second, .val (.ref f), .val (.int (1 : Int32)), .val .null, .val (.ref c2), .unset, .unset, .unset, .unset, .unset, .unset, .unset, .unset, .unset, .unset] [(.ref c2)]))
    refine own_st (fun tg_ kg_ => XS.iconst X48.here hx rfl (hb hby at_100) kg_) ?_
    show own_Gl p e below _ (T48.setTop (mkF m 101 #[.val (.long i0), .second, .val (.long i1), .second, .val (.long i2), .second, .val (.long i3), .second, .val (.long i4), .second, .val (.int i5), .val (.int rv), .val (.long ov), .second, .val (.long (i0 ^^^ (-1 : Int64))), .second, .val (.ref f), .val (.int (1 : Int32)), .val .null, .val (.ref c2), .unset, .unset, .unset, .unset, .unset, .unset, .unset, .unset, .unset, .unset] [(.int (0 : Int32)), (.ref c2)]))
    refine own_st (fun tg_ kg_ => XS.iload X48.here hx rfl (hb hby at_101) rfl kg_) ?_
    show own_Gl p e below _ (T48.setTop (mkF m 103 #[.val (.long i0), .second, .val (.long i1), .second, .val (.long i2), .second, .val (.long i3), .second, .val (.long i4), .second, .val (.int i5), .val (.int rv), .val (.long ov), .second, .val (.long (i0 ^^^ (-1 : Int64))), .second, .val (.ref f), .val (.int (1 : Int32)), .val .null, .val (.ref c2), .unset, .unset, .unset, .unset, .unset, .unset, .unset, .unset, .unset, .unset] [(.int i5), (.int (0 : Int32)), (.ref c2)]))
    refine own_st (fun tg_ kg_ => XS.bipush X48.here hx rfl (hb hby at_103) kg_) ?_
    show own_Gl p e below _ (T48.setTop (mkF m 105 #[.val (.long i0), .second, .val (.long i1), .second, .val (.long i2), .second, .val (.long i3), .second, .val (.long i4), .second, .val (.int i5), .val (.int rv), .val (.long ov), .second, .val (.long (i0 ^^^ (-1 : Int64))), .second, .val (.ref f), .val (.int (1 : Int32)), .val .null, .val (.ref c2), .unset, .unset, .unset, .unset, .unset, .unset, .unset, .unset, .unset, .unset] [(.int (18 : Int32)), (.int i5), (.int (0 : Int32)), (.ref c2)]))
    refine own_st (fun tg_ kg_ => XS.iushr X48.here hx rfl (hb hby at_105) rfl kg_) ?_
    show own_Gl p e below _ (T48.setTop (mkF m 106 #[.val (.long i0), .second, .val (.long i1), .second, .val (.long i2), .second, .val (.long i3), .second, .val (.long i4), .second, .val (.int i5), .val (.int rv), .val (.long ov), .second, .val (.long (i0 ^^^ (-1 : Int64))), .second, .val (.ref f), .val (.int (1 : Int32)), .val .null, .val (.ref c2), .unset, .unset, .unset, .unset, .unset, .unset, .unset, .unset, .unset, .unset] [(.int ((i5.toUInt32 >>> ((18 : Int32) &&& 31).toUInt32).toInt32)), (.int (0 : Int32)), (.ref c2)]))
    refine own_st (fun tg_ kg_ => XS.sipush X48.here hx rfl (hb hby at_106) kg_) ?_
    show own_Gl p e below _ (T48.setTop (mkF m 109 #[.val (.long i0), .second, .val (.long i1), .second, .val (.long i2), .second, .val (.long i3), .second, .val (.long i4), .second, .val (.int i5), .val (.int rv), .val (.long ov), .second, .val (.long (i0 ^^^ (-1 : Int64))), .second, .val (.ref f), .val (.int (1 : Int32)), .val .null, .val (.ref c2), .unset, .unset, .unset, .unset, .unset, .unset, .unset, .unset, .unset, .unset] [(.int (255 : Int32)), (.int ((i5.toUInt32 >>> ((18 : Int32) &&& 31).toUInt32).toInt32)), (.int (0 : Int32)), (.ref c2)]))
    refine own_st (fun tg_ kg_ => XS.iand X48.here hx rfl (hb hby at_109) rfl kg_) ?_
    show own_Gl p e below _ (T48.setTop (mkF m 110 #[.val (.long i0), .second, .val (.long i1), .second, .val (.long i2), .second, .val (.long i3), .second, .val (.long i4), .second, .val (.int i5), .val (.int rv), .val (.long ov), .second, .val (.long (i0 ^^^ (-1 : Int64))), .second, .val (.ref f), .val (.int (1 : Int32)), .val .null, .val (.ref c2), .unset, .unset, .unset, .unset, .unset, .unset, .unset, .unset, .unset, .unset] [(.int (((i5.toUInt32 >>> ((18 : Int32) &&& 31).toUInt32).toInt32) &&& (255 : Int32))), (.int (0 : Int32)), (.ref c2)]))
    refine own_st (fun tg_ kg_ => XS.i2c X48.here hx rfl (hb hby at_110) rfl kg_) ?_
    show own_Gl p e below _ (T48.setTop (mkF m 111 #[.val (.long i0), .second, .val (.long i1), .second, .val (.long i2), .second, .val (.long i3), .second, .val (.long i4), .second, .val (.int i5), .val (.int rv), .val (.long ov), .second, .val (.long (i0 ^^^ (-1 : Int64))), .second, .val (.ref f), .val (.int (1 : Int32)), .val .null, .val (.ref c2), .unset, .unset, .unset, .unset, .unset, .unset, .unset, .unset, .unset, .unset] [(.int ((((i5.toUInt32 >>> ((18 : Int32) &&& 31).toUInt32).toInt32) &&& (255 : Int32)).toUInt32.toUInt16.toUInt32.toInt32)), (.int (0 : Int32)), (.ref c2)]))
    obtain ⟨cl50, Ar50, qa50, Sa50, Na50, Ha50, Ga50⟩ := id V_c2
    have hin51 : ¬ ((0 : Int32) < 0 ∨ cl50.slots.size ≤ ((0 : Int32)).toNatClampNeg) := inb_of Sa50 ⟨by decide, by decide⟩
    obtain ⟨T51, h51, X51, e51, W51, st51⟩ := stC X48 hx hZ e48 Ar50 (j := (0 : Int32)) hin51 (g := (mkF m 111 #[.val (.long i0), .second, .val (.long i1), .second, .val (.long i2), .second, .val (.long i3), .second, .val (.long i4), .second, .val (.int i5), .val (.int rv), .val (.long ov), .second, .val (.long (i0 ^^^ (-1 : Int64))), .second, .val (.ref f), .val (.int (1 : Int32)), .val .null, .val (.ref c2), .unset, .unset, .unset, .unset, .unset, .unset, .unset, .unset, .unset, .unset] [(.int ((((i5.toUInt32 >>> ((18 : Int32) &&& 31).toUInt32).toInt32) &&& (255 : Int32)).toUInt32.toUInt16.toUInt32.toInt32)), (.int (0 : Int32)), (.ref c2)])) rfl rfl (hb hby at_111)
    rw [own_narc (own_m8 ((i5.toUInt32 >>> ((18 : Int32) &&& 31).toUInt32).toInt32) 255 (by decide) (by decide)).1 (own_m8 ((i5.toUInt32 >>> ((18 : Int32) &&& 31).toUInt32).toInt32) 255 (by decide) (by decide)).2] at W51
    have N51 := Fr.snoc X51 N2 g_c2
    try clear N2
    replace E_f := E_f.wr W51
    have K52 := own_ext_wr K49 W51 sz_c2
    try clear K49
    replace V_c2 : Arv Z h51 c2 k48 .char (2 : Int32) [(.int ((((i5.toUInt32 >>> ((18 : Int32) &&& 31).toUInt32).toInt32) &&& (255 : Int32)).toUInt32.toUInt16.toUInt32.toInt32)), (.int (0 : Int32))] (.int (0 : Int32)) := Arv.set Ar50 qa50 Sa50 Na50 Ha50 Ga50 (own_fitc (own_m8 ((i5.toUInt32 >>> ((18 : Int32) &&& 31).toUInt32).toInt32) 255 (by decide) (by decide)).1 (own_m8 ((i5.toUInt32 >>> ((18 : Int32) &&& 31).toUInt32).toInt32) 255 (by decide) (by decide)).2) W51 0 rfl (Nat.le_of_ble_eq_true rfl)
    try clear Ga50
    try clear Ha50
    try clear Na50
    try clear Sa50
    try clear qa50
    try clear W51
    try clear hin51
    try clear Ar50
    try clear cl50
    refine own_st st51 ?_
    try clear st51
    try clear e48
    try clear X48
    try clear T48
    show own_Gl p e below _ (T51.setTop (mkF m 112 #[.val (.long i0), .second, .val (.long i1), .second, .val (.long i2), .second, .val (.long i3), .second, .val (.long i4), .second, .val (.int i5), .val (.int rv), .val (.long ov), .second, .val (.long (i0 ^^^ (-1 : Int64))), .second, .val (.ref f), .val (.int (1 : Int32)), .val .null, .val (.ref c2), .unset, .unset, .unset, .unset, .unset, .unset, .unset, .unset, .unset, .unset] []))
    refine own_st (fun tg_ kg_ => XS.aload X51.here hx rfl (hb hby at_112) rfl rfl kg_) ?_
    show own_Gl p e below _ (T51.setTop (mkF m 114 #[.val (.long i0), .second, .val (.long i1), .second, .val (.long i2), .second, .val (.long i3), .second, .val (.long i4), .second, .val (.int i5), .val (.int rv), .val (.long ov), .second, .val (.long (i0 ^^^ (-1 : Int64))), .second, .val (.ref f), .val (.int (1 : Int32)), .val .null, .val (.ref c2), .unset, .unset, .unset, .unset, .unset, .unset, .unset, .unset, .unset, .unset] [(.ref c2)]))
    refine own_st (fun tg_ kg_ => XS.iconst X51.here hx rfl (hb hby at_114) kg_) ?_
    show own_Gl p e below _ (T51.setTop (mkF m 115 #[.val (.long i0), .second, .val (.long i1), .second, .val (.long i2), .second, .val (.long i3), .second, .val (.long i4), .second, .val (.int i5), .val (.int rv), .val (.long ov), .second, .val (.long (i0 ^^^ (-1 : Int64))), .second, .val (.ref f), .val (.int (1 : Int32)), .val .null, .val (.ref c2), .unset, .unset, .unset, .unset, .unset, .unset, .unset, .unset, .unset, .unset] [(.int (1 : Int32)), (.ref c2)]))
    refine own_st (fun tg_ kg_ => XS.iload X51.here hx rfl (hb hby at_115) rfl kg_) ?_
    show own_Gl p e below _ (T51.setTop (mkF m 117 #[.val (.long i0), .second, .val (.long i1), .second, .val (.long i2), .second, .val (.long i3), .second, .val (.long i4), .second, .val (.int i5), .val (.int rv), .val (.long ov), .second, .val (.long (i0 ^^^ (-1 : Int64))), .second, .val (.ref f), .val (.int (1 : Int32)), .val .null, .val (.ref c2), .unset, .unset, .unset, .unset, .unset, .unset, .unset, .unset, .unset, .unset] [(.int i5), (.int (1 : Int32)), (.ref c2)]))
    refine own_st (fun tg_ kg_ => XS.bipush X51.here hx rfl (hb hby at_117) kg_) ?_
    show own_Gl p e below _ (T51.setTop (mkF m 119 #[.val (.long i0), .second, .val (.long i1), .second, .val (.long i2), .second, .val (.long i3), .second, .val (.long i4), .second, .val (.int i5), .val (.int rv), .val (.long ov), .second, .val (.long (i0 ^^^ (-1 : Int64))), .second, .val (.ref f), .val (.int (1 : Int32)), .val .null, .val (.ref c2), .unset, .unset, .unset, .unset, .unset, .unset, .unset, .unset, .unset, .unset] [(.int (26 : Int32)), (.int i5), (.int (1 : Int32)), (.ref c2)]))
    refine own_st (fun tg_ kg_ => XS.iushr X51.here hx rfl (hb hby at_119) rfl kg_) ?_
    show own_Gl p e below _ (T51.setTop (mkF m 120 #[.val (.long i0), .second, .val (.long i1), .second, .val (.long i2), .second, .val (.long i3), .second, .val (.long i4), .second, .val (.int i5), .val (.int rv), .val (.long ov), .second, .val (.long (i0 ^^^ (-1 : Int64))), .second, .val (.ref f), .val (.int (1 : Int32)), .val .null, .val (.ref c2), .unset, .unset, .unset, .unset, .unset, .unset, .unset, .unset, .unset, .unset] [(.int ((i5.toUInt32 >>> ((26 : Int32) &&& 31).toUInt32).toInt32)), (.int (1 : Int32)), (.ref c2)]))
    refine own_st (fun tg_ kg_ => XS.bipush X51.here hx rfl (hb hby at_120) kg_) ?_
    show own_Gl p e below _ (T51.setTop (mkF m 122 #[.val (.long i0), .second, .val (.long i1), .second, .val (.long i2), .second, .val (.long i3), .second, .val (.long i4), .second, .val (.int i5), .val (.int rv), .val (.long ov), .second, .val (.long (i0 ^^^ (-1 : Int64))), .second, .val (.ref f), .val (.int (1 : Int32)), .val .null, .val (.ref c2), .unset, .unset, .unset, .unset, .unset, .unset, .unset, .unset, .unset, .unset] [(.int (63 : Int32)), (.int ((i5.toUInt32 >>> ((26 : Int32) &&& 31).toUInt32).toInt32)), (.int (1 : Int32)), (.ref c2)]))
    refine own_st (fun tg_ kg_ => XS.iand X51.here hx rfl (hb hby at_122) rfl kg_) ?_
    show own_Gl p e below _ (T51.setTop (mkF m 123 #[.val (.long i0), .second, .val (.long i1), .second, .val (.long i2), .second, .val (.long i3), .second, .val (.long i4), .second, .val (.int i5), .val (.int rv), .val (.long ov), .second, .val (.long (i0 ^^^ (-1 : Int64))), .second, .val (.ref f), .val (.int (1 : Int32)), .val .null, .val (.ref c2), .unset, .unset, .unset, .unset, .unset, .unset, .unset, .unset, .unset, .unset] [(.int (((i5.toUInt32 >>> ((26 : Int32) &&& 31).toUInt32).toInt32) &&& (63 : Int32))), (.int (1 : Int32)), (.ref c2)]))
    refine own_st (fun tg_ kg_ => XS.i2c X51.here hx rfl (hb hby at_123) rfl kg_) ?_
    show own_Gl p e below _ (T51.setTop (mkF m 124 #[.val (.long i0), .second, .val (.long i1), .second, .val (.long i2), .second, .val (.long i3), .second, .val (.long i4), .second, .val (.int i5), .val (.int rv), .val (.long ov), .second, .val (.long (i0 ^^^ (-1 : Int64))), .second, .val (.ref f), .val (.int (1 : Int32)), .val .null, .val (.ref c2), .unset, .unset, .unset, .unset, .unset, .unset, .unset, .unset, .unset, .unset] [(.int ((((i5.toUInt32 >>> ((26 : Int32) &&& 31).toUInt32).toInt32) &&& (63 : Int32)).toUInt32.toUInt16.toUInt32.toInt32)), (.int (1 : Int32)), (.ref c2)]))
    obtain ⟨cl53, Ar53, qa53, Sa53, Na53, Ha53, Ga53⟩ := id V_c2
    have hin54 : ¬ ((1 : Int32) < 0 ∨ cl53.slots.size ≤ ((1 : Int32)).toNatClampNeg) := inb_of Sa53 ⟨by decide, by decide⟩
    obtain ⟨T54, h54, X54, e54, W54, st54⟩ := stC X51 hx hZ e51 Ar53 (j := (1 : Int32)) hin54 (g := (mkF m 124 #[.val (.long i0), .second, .val (.long i1), .second, .val (.long i2), .second, .val (.long i3), .second, .val (.long i4), .second, .val (.int i5), .val (.int rv), .val (.long ov), .second, .val (.long (i0 ^^^ (-1 : Int64))), .second, .val (.ref f), .val (.int (1 : Int32)), .val .null, .val (.ref c2), .unset, .unset, .unset, .unset, .unset, .unset, .unset, .unset, .unset, .unset] [(.int ((((i5.toUInt32 >>> ((26 : Int32) &&& 31).toUInt32).toInt32) &&& (63 : Int32)).toUInt32.toUInt16.toUInt32.toInt32)), (.int (1 : Int32)), (.ref c2)])) rfl rfl (hb hby at_124)
    rw [own_narc (own_m8 ((i5.toUInt32 >>> ((26 : Int32) &&& 31).toUInt32).toInt32) 63 (by decide) (by decide)).1 (own_m8 ((i5.toUInt32 >>> ((26 : Int32) &&& 31).toUInt32).toInt32) 63 (by decide) (by decide)).2] at W54
    have N54 := Fr.snoc X54 N51 g_c2
    try clear N51
    replace E_f := E_f.wr W54
    have K55 := own_ext_wr K52 W54 sz_c2
    try clear K52
    replace V_c2 : Arv Z h54 c2 k48 .char (2 : Int32) [(.int ((((i5.toUInt32 >>> ((18 : Int32) &&& 31).toUInt32).toInt32) &&& (255 : Int32)).toUInt32.toUInt16.toUInt32.toInt32)), (.int ((((i5.toUInt32 >>> ((26 : Int32) &&& 31).toUInt32).toInt32) &&& (63 : Int32)).toUInt32.toUInt16.toUInt32.toInt32))] (.int (0 : Int32)) := Arv.set Ar53 qa53 Sa53 Na53 Ha53 Ga53 (own_fitc (own_m8 ((i5.toUInt32 >>> ((26 : Int32) &&& 31).toUInt32).toInt32) 63 (by decide) (by decide)).1 (own_m8 ((i5.toUInt32 >>> ((26 : Int32) &&& 31).toUInt32).toInt32) 63 (by decide) (by decide)).2) W54 1 rfl (Nat.le_of_ble_eq_true rfl)
    try clear Ga53
    try clear Ha53
    try clear Na53
    try clear Sa53
    try clear qa53
    try clear W54
    try clear hin54
    try clear Ar53
    try clear cl53
    refine own_st st54 ?_
    try clear st54
    try clear e51
    try clear X51
    try clear T51
    show own_Gl p e below _ (T54.setTop (mkF m 125 #[.val (.long i0), .second, .val (.long i1), .second, .val (.long i2), .second, .val (.long i3), .second, .val (.long i4), .second, .val (.int i5), .val (.int rv), .val (.long ov), .second, .val (.long (i0 ^^^ (-1 : Int64))), .second, .val (.ref f), .val (.int (1 : Int32)), .val .null, .val (.ref c2), .unset, .unset, .unset, .unset, .unset, .unset, .unset, .unset, .unset, .unset] []))
    obtain ⟨T56, h56, X56, e56, E56, A56, D56, -, st56⟩ := newO X54 hx hZ hown (hw _ (List.mem_of_getElem? (i := 28) rfl)) (hw _ (List.mem_of_getElem? (i := 11) rfl)) (hw _ (List.mem_of_getElem? (i := 3) rfl)) e54 (g := (mkF m 125 #[.val (.long i0), .second, .val (.long i1), .second, .val (.long i2), .second, .val (.long i3), .second, .val (.long i4), .second, .val (.int i5), .val (.int rv), .val (.long ov), .second, .val (.long (i0 ^^^ (-1 : Int64))), .second, .val (.ref f), .val (.int (1 : Int32)), .val .null, .val (.ref c2), .unset, .unset, .unset, .unset, .unset, .unset, .unset, .unset, .unset, .unset] [])) rfl (hb hby at_125) (by decide) (by decide)
    obtain ⟨cm, g56⟩ : ∃ z, z = h54.size := ⟨_, rfl⟩
    have ne_f_cm : f ≠ cm := Nat.ne_of_lt (Nat.lt_of_lt_of_le E_f.lt (Nat.le_of_eq g56.symm))
    have ne_c2_cm : c2 ≠ cm := Nat.ne_of_lt (Nat.lt_of_lt_of_le V_c2.lt (Nat.le_of_eq g56.symm))
    have sz_cm : h0.size ≤ cm := (Nat.le_trans K55.1 (Nat.le_of_eq g56.symm))
    have g_cm : n0 ≤ cm := Nat.le_trans Z0 sz_cm
    rw [← g56] at A56 D56 st56
    replace E_f := E_f.ext E56
    replace V_c2 := V_c2.ext E56
    have K57 := own_ext_tr K55 E56
    try clear E56
    try clear K55
    have E_cm := A56
    have F_value_cm : Fld Z h56 cm "java/lang/String" "value" "[B" .null := D56 (Or.inr (hw _ (List.mem_of_getElem? (i := 24) rfl))) (ty := (.array .byte)) (by decide)
    have F_coder_cm : Fld Z h56 cm "java/lang/String" "coder" "B" (.int (0 : Int32)) := D56 (Or.inr (hw _ (List.mem_of_getElem? (i := 26) rfl))) (ty := .byte) (by decide)
    refine own_st st56 ?_
    try clear st56
    try clear e54
    try clear X54
    try clear T54
    show own_Gl p e below _ (T56.setTop (mkF m 128 #[.val (.long i0), .second, .val (.long i1), .second, .val (.long i2), .second, .val (.long i3), .second, .val (.long i4), .second, .val (.int i5), .val (.int rv), .val (.long ov), .second, .val (.long (i0 ^^^ (-1 : Int64))), .second, .val (.ref f), .val (.int (1 : Int32)), .val .null, .val (.ref c2), .unset, .unset, .unset, .unset, .unset, .unset, .unset, .unset, .unset, .unset] [(.ref cm)]))
    refine own_st (fun tg_ kg_ => XS.dup X56.here hx rfl (hb hby at_128) rfl rfl kg_) ?_
    show own_Gl p e below _ (T56.setTop (mkF m 129 #[.val (.long i0), .second, .val (.long i1), .second, .val (.long i2), .second, .val (.long i3), .second, .val (.long i4), .second, .val (.int i5), .val (.int rv), .val (.long ov), .second, .val (.long (i0 ^^^ (-1 : Int64))), .second, .val (.ref f), .val (.int (1 : Int32)), .val .null, .val (.ref c2), .unset, .unset, .unset, .unset, .unset, .unset, .unset, .unset, .unset, .unset] [(.ref cm), (.ref cm)]))
    refine own_st (fun tg_ kg_ => XS.aload X56.here hx rfl (hb hby at_129) rfl rfl kg_) ?_
    show own_Gl p e below _ (T56.setTop (mkF m 131 #[.val (.long i0), .second, .val (.long i1), .second, .val (.long i2), .second, .val (.long i3), .second, .val (.long i4), .second, .val (.int i5), .val (.int rv), .val (.long ov), .second, .val (.long (i0 ^^^ (-1 : Int64))), .second, .val (.ref f), .val (.int (1 : Int32)), .val .null, .val (.ref c2), .unset, .unset, .unset, .unset, .unset, .unset, .unset, .unset, .unset, .unset] [(.ref c2), (.ref cm), (.ref cm)]))
    have hpc : ∀ c ∈ ([((((i5.toUInt32 >>> ((18 : Int32) &&& 31).toUInt32).toInt32) &&& (255 : Int32)).toUInt32.toUInt16.toUInt32.toInt32), ((((i5.toUInt32 >>> ((26 : Int32) &&& 31).toUInt32).toInt32) &&& (63 : Int32)).toUInt32.toUInt16.toUInt32.toInt32)] : List Int32), ¬ c < 0 ∧ ¬ (255 : Int32) < c := (own_all (own_m8 ((i5.toUInt32 >>> ((18 : Int32) &&& 31).toUInt32).toInt32) 255 (by decide) (by decide)) (own_all (own_m8 ((i5.toUInt32 >>> ((26 : Int32) &&& 31).toUInt32).toInt32) 63 (by decide) (by decide)) (fun _ q => nomatch q)))
    have V_p : Arv Z h56 c2 k48 .char (2 : Int32) (([((((i5.toUInt32 >>> ((18 : Int32) &&& 31).toUInt32).toInt32) &&& (255 : Int32)).toUInt32.toUInt16.toUInt32.toInt32), ((((i5.toUInt32 >>> ((26 : Int32) &&& 31).toUInt32).toInt32) &&& (63 : Int32)).toUInt32.toUInt16.toUInt32.toInt32)] : List Int32).map Value.int) (.int (0 : Int32)) := V_c2
    obtain ⟨_, _, ⟨T58, L58, k58, n58⟩, -, X58, ⟨Lc58, hQ58, l58, y58, z58⟩, st58⟩ := X56.specialBack hx (y := (⟨"java/lang/String", "<init>", "([C)V"⟩ : MethodName)) rfl hown (mvT hZ (hw _ (List.mem_of_getElem? (i := 29) rfl))) (mvT hZ (hw _ (List.mem_of_getElem? (i := 30) rfl))) (mvT hZ (hw _ (List.mem_of_getElem? (i := 31) rfl))) (by decide) (StrChars.Road.backV (W := 1) hZ (own_hws hw) (kI := 4) (hw _ (List.mem_of_getElem? (i := 11) rfl)) (cs := [((((i5.toUInt32 >>> ((18 : Int32) &&& 31).toUInt32).toInt32) &&& (255 : Int32)).toUInt32.toUInt16.toUInt32.toInt32), ((((i5.toUInt32 >>> ((26 : Int32) &&& 31).toUInt32).toInt32) &&& (63 : Int32)).toUInt32.toUInt16.toUInt32.toInt32)]) (bs := ([((((i5.toUInt32 >>> ((18 : Int32) &&& 31).toUInt32).toInt32) &&& (255 : Int32)).toUInt32.toUInt16.toUInt32.toInt32), ((((i5.toUInt32 >>> ((26 : Int32) &&& 31).toUInt32).toInt32) &&& (63 : Int32)).toUInt32.toUInt16.toUInt32.toInt32)] : List Int32).map (fun c => c.toInt8.toInt32)) (n := 2) g_cm (Nat.le_trans Z0 K57.1) E_cm F_value_cm F_coder_cm V_p (S_C.ext K57) hzc rfl rfl (by decide) (by decide) hpc rfl (by decide) (by decide)) (g := (mkF m 131 #[.val (.long i0), .second, .val (.long i1), .second, .val (.long i2), .second, .val (.long i3), .second, .val (.long i4), .second, .val (.int i5), .val (.int rv), .val (.long ov), .second, .val (.long (i0 ^^^ (-1 : Int64))), .second, .val (.ref f), .val (.int (1 : Int32)), .val .null, .val (.ref c2), .unset, .unset, .unset, .unset, .unset, .unset, .unset, .unset, .unset, .unset] [(.ref c2), (.ref cm), (.ref cm)])) rfl (by rw [hml]; rfl) (Steps.refl _) (a := cm) (argsL := [(.ref c2)]) (rest := [(.ref cm)]) (lenOf own_pd5 rfl) rfl (by show 2 * 0 + _ ≤ _; exact Nat.le_of_eq rfl) (hb hby at_131) (fun _ _ => ⟨rfl, e56, (by decide : 4 + 1 ≤ _), (by decide : 11 + 2 ≤ _)⟩)
    dsimp only [Pt.U, Pt.locs, Pt.cells, Pt.slots] at X58 l58 y58 z58 st58 hQ58
    obtain rfl : k58 = 5 := y58
    obtain rfl : n58 = 13 := z58
    obtain ⟨rfl, N58q, Kc58, -⟩ := hQ58
    have N58 : Fr n0 L58 := by rw [l58]; exact Fr.app N54 N58q
    try clear l58
    refine own_tr st58 ?_
    replace E_f := E_f.keep Kc58
    replace V_c2 := V_c2.keep Kc58 (ninS ne_c2_cm nin0)
    replace E_cm := E_cm.keep Kc58
    have K59 := own_ext_keep K57 Kc58 (allS sz_cm all0)
    try clear Kc58
    try clear K57
    show own_Gl p e below _ (T58.setTop (mkF m 134 #[.val (.long i0), .second, .val (.long i1), .second, .val (.long i2), .second, .val (.long i3), .second, .val (.long i4), .second, .val (.int i5), .val (.int rv), .val (.long ov), .second, .val (.long (i0 ^^^ (-1 : Int64))), .second, .val (.ref f), .val (.int (1 : Int32)), .val .null, .val (.ref c2), .unset, .unset, .unset, .unset, .unset, .unset, .unset, .unset, .unset, .unset] [(.ref cm)]))
    try clear st58
    try clear N58q
    try clear N54
    try clear e56
    try clear X56
    try clear T56
    refine own_st (fun tg_ kg_ => XS.astore X58.here hx rfl (hb hby at_134) rfl rfl (l' := #[.val (.long i0), .second, .val (.long i1), .second, .val (.long i2), .second, .val (.long i3), .second, .val (.long i4), .second, .val (.int i5), .val (.int rv), .val (.long ov), .second, .val (.long (i0 ^^^ (-1 : Int64))), .second, .val (.ref f), .val (.int (1 : Int32)), .val .null, .val (.ref c2), .val (.ref cm), .unset, .unset, .unset, .unset, .unset, .unset, .unset, .unset, .unset]) rfl kg_) ?_
    show own_Gl p e below _ (T58.setTop (mkF m 136 #[.val (.long i0), .second, .val (.long i1), .second, .val (.long i2), .second, .val (.long i3), .second, .val (.long i4), .second, .val (.int i5), .val (.int rv), .val (.long ov), .second, .val (.long (i0 ^^^ (-1 : Int64))), .second, .val (.ref f), .val (.int (1 : Int32)), .val .null, .val (.ref c2), .val (.ref cm), .unset, .unset, .unset, .unset, .unset, .unset, .unset, .unset, .unset] []))
    refine own_st (fun tg_ kg_ => XS.iconst X58.here hx rfl (hb hby at_136) kg_) ?_
    show own_Gl p e below _ (T58.setTop (mkF m 137 #[.val (.long i0), .second, .val (.long i1), .second, .val (.long i2), .second, .val (.long i3), .second, .val (.long i4), .second, .val (.int i5), .val (.int rv), .val (.long ov), .second, .val (.long (i0 ^^^ (-1 : Int64))), .second, .val (.ref f), .val (.int (1 : Int32)), .val .null, .val (.ref c2), .val (.ref cm), .unset, .unset, .unset, .unset, .unset, .unset, .unset, .unset, .unset] [(.int (1 : Int32))]))
    obtain ⟨T60, h60, k60, X60, e60, E60, A60, st60⟩ := newP X58 hx hZ (hw _ (List.mem_of_getElem? (i := 27) rfl)) rfl (g := (mkF m 137 #[.val (.long i0), .second, .val (.long i1), .second, .val (.long i2), .second, .val (.long i3), .second, .val (.long i4), .second, .val (.int i5), .val (.int rv), .val (.long ov), .second, .val (.long (i0 ^^^ (-1 : Int64))), .second, .val (.ref f), .val (.int (1 : Int32)), .val .null, .val (.ref c2), .val (.ref cm), .unset, .unset, .unset, .unset, .unset, .unset, .unset, .unset, .unset] [(.int (1 : Int32))])) rfl (hb hby at_137) rfl (by decide) (cap := 1) (by decide) (by decide) (by decide) (by decide)
    obtain ⟨c1, g60⟩ : ∃ z, z = T58.heap.size := ⟨_, rfl⟩
    have ne_f_c1 : f ≠ c1 := Nat.ne_of_lt (Nat.lt_of_lt_of_le E_f.lt (Nat.le_of_eq g60.symm))
    have ne_c2_c1 : c2 ≠ c1 := Nat.ne_of_lt (Nat.lt_of_lt_of_le V_c2.lt (Nat.le_of_eq g60.symm))
    have ne_cm_c1 : cm ≠ c1 := Nat.ne_of_lt (Nat.lt_of_lt_of_le E_cm.lt (Nat.le_of_eq g60.symm))
    have sz_c1 : h0.size ≤ c1 := (Nat.le_trans K59.1 (Nat.le_of_eq g60.symm))
    have g_c1 : n0 ≤ c1 := Nat.le_trans Z0 sz_c1
    rw [← g60] at A60 st60
    replace E_f := E_f.ext E60
    replace V_c2 := V_c2.ext E60
    replace E_cm := E_cm.ext E60
    have K61 := own_ext_tr K59 E60
    try clear E60
    try clear K59
    have V_c1 : Arv Z h60 c1 k60 .char (1 : Int32) [(.int (0 : Int32))] (.int (0 : Int32)) := (Arv.new A60 (by decide)).pad (pad_rep [] (.int (0 : Int32)) 1)
    refine own_st st60 ?_
    try clear st60
    try clear X58
    try clear T58
    show own_Gl p e below _ (T60.setTop (mkF m 139 #[.val (.long i0), .second, .val (.long i1), .second, .val (.long i2), .second, .val (.long i3), .second, .val (.long i4), .second, .val (.int i5), .val (.int rv), .val (.long ov), .second, .val (.long (i0 ^^^ (-1 : Int64))), .second, .val (.ref f), .val (.int (1 : Int32)), .val .null, .val (.ref c2), .val (.ref cm), .unset, .unset, .unset, .unset, .unset, .unset, .unset, .unset, .unset] [(.ref c1)]))
    refine own_st (fun tg_ kg_ => XS.astore X60.here hx rfl (hb hby at_139) rfl rfl (l' := #[.val (.long i0), .second, .val (.long i1), .second, .val (.long i2), .second, .val (.long i3), .second, .val (.long i4), .second, .val (.int i5), .val (.int rv), .val (.long ov), .second, .val (.long (i0 ^^^ (-1 : Int64))), .second, .val (.ref f), .val (.int (1 : Int32)), .val .null, .val (.ref c2), .val (.ref cm), .val (.ref c1), .unset, .unset, .unset, .unset, .unset, .unset, .unset, .unset]) rfl kg_) ?_
    show own_Gl p e below _ (T60.setTop (mkF m 141 #[.val (.long i0), .second, .val (.long i1), .second, .val (.long i2), .second, .val (.long i3), .second, .val (.long i4), .second, .val (.int i5), .val (.int rv), .val (.long ov), .second, .val (.long (i0 ^^^ (-1 : Int64))), .second, .val (.ref f), .val (.int (1 : Int32)), .val .null, .val (.ref c2), .val (.ref cm), .val (.ref c1), .unset, .unset, .unset, .unset, .unset, .unset, .unset, .unset] []))
    refine own_st (fun tg_ kg_ => XS.aload X60.here hx rfl (hb hby at_141) rfl rfl kg_) ?_
    show own_Gl p e below _ (T60.setTop (mkF m 143 #[.val (.long i0), .second, .val (.long i1), .second, .val (.long i2), .second, .val (.long i3), .second, .val (.long i4), .second, .val (.int i5), .val (.int rv), .val (.long ov), .second, .val (.long (i0 ^^^ (-1 : Int64))), .second, .val (.ref f), .val (.int (1 : Int32)), .val .null, .val (.ref c2), .val (.ref cm), .val (.ref c1), .unset, .unset, .unset, .unset, .unset, .unset, .unset, .unset] [(.ref c1)]))
    refine own_st (fun tg_ kg_ => XS.iconst X60.here hx rfl (hb hby at_143) kg_) ?_
    show own_Gl p e below _ (T60.setTop (mkF m 144 #[.val (.long i0), .second, .val (.long i1), .second, .val (.long i2), .second, .val (.long i3), .second, .val (.long i4), .second, .val (.int i5), .val (.int rv), .val (.long ov), .second, .val (.long (i0 ^^^ (-1 : Int64))), .second, .val (.ref f), .val (.int (1 : Int32)), .val .null, .val (.ref c2), .val (.ref cm), .val (.ref c1), .unset, .unset, .unset, .unset, .unset, .unset, .unset, .unset] [(.int (0 : Int32)), (.ref c1)]))
    refine own_st (fun tg_ kg_ => XS.iload X60.here hx rfl (hb hby at_144) rfl kg_) ?_
    show own_Gl p e below _ (T60.setTop (mkF m 146 #[.val (.long i0), .second, .val (.long i1), .second, .val (.long i2), .second, .val (.long i3), .second, .val (.long i4), .second, .val (.int i5), .val (.int rv), .val (.long ov), .second, .val (.long (i0 ^^^ (-1 : Int64))), .second, .val (.ref f), .val (.int (1 : Int32)), .val .null, .val (.ref c2), .val (.ref cm), .val (.ref c1), .unset, .unset, .unset, .unset, .unset, .unset, .unset, .unset] [(.int i5), (.int (0 : Int32)), (.ref c1)]))
    refine own_st (fun tg_ kg_ => XS.iconst X60.here hx rfl (hb hby at_146) kg_) ?_
    show own_Gl p e below _ (T60.setTop (mkF m 147 #[.val (.long i0), .second, .val (.long i1), .second, .val (.long i2), .second, .val (.long i3), .second, .val (.long i4), .second, .val (.int i5), .val (.int rv), .val (.long ov), .second, .val (.long (i0 ^^^ (-1 : Int64))), .second, .val (.ref f), .val (.int (1 : Int32)), .val .null, .val (.ref c2), .val (.ref cm), .val (.ref c1), .unset, .unset, .unset, .unset, .unset, .unset, .unset, .unset] [(.int (3 : Int32)), (.int i5), (.int (0 : Int32)), (.ref c1)]))
    refine own_st (fun tg_ kg_ => XS.iushr X60.here hx rfl (hb hby at_147) rfl kg_) ?_
    show own_Gl p e below _ (T60.setTop (mkF m 148 #[.val (.long i0), .second, .val (.long i1), .second, .val (.long i2), .second, .val (.long i3), .second, .val (.long i4), .second, .val (.int i5), .val (.int rv), .val (.long ov), .second, .val (.long (i0 ^^^ (-1 : Int64))), .second, .val (.ref f), .val (.int (1 : Int32)), .val .null, .val (.ref c2), .val (.ref cm), .val (.ref c1), .unset, .unset, .unset, .unset, .unset, .unset, .unset, .unset] [(.int ((i5.toUInt32 >>> ((3 : Int32) &&& 31).toUInt32).toInt32)), (.int (0 : Int32)), (.ref c1)]))
    refine own_st (fun tg_ kg_ => XS.sipush X60.here hx rfl (hb hby at_148) kg_) ?_
    show own_Gl p e below _ (T60.setTop (mkF m 151 #[.val (.long i0), .second, .val (.long i1), .second, .val (.long i2), .second, .val (.long i3), .second, .val (.long i4), .second, .val (.int i5), .val (.int rv), .val (.long ov), .second, .val (.long (i0 ^^^ (-1 : Int64))), .second, .val (.ref f), .val (.int (1 : Int32)), .val .null, .val (.ref c2), .val (.ref cm), .val (.ref c1), .unset, .unset, .unset, .unset, .unset, .unset, .unset, .unset] [(.int (255 : Int32)), (.int ((i5.toUInt32 >>> ((3 : Int32) &&& 31).toUInt32).toInt32)), (.int (0 : Int32)), (.ref c1)]))
    refine own_st (fun tg_ kg_ => XS.iand X60.here hx rfl (hb hby at_151) rfl kg_) ?_
    show own_Gl p e below _ (T60.setTop (mkF m 152 #[.val (.long i0), .second, .val (.long i1), .second, .val (.long i2), .second, .val (.long i3), .second, .val (.long i4), .second, .val (.int i5), .val (.int rv), .val (.long ov), .second, .val (.long (i0 ^^^ (-1 : Int64))), .second, .val (.ref f), .val (.int (1 : Int32)), .val .null, .val (.ref c2), .val (.ref cm), .val (.ref c1), .unset, .unset, .unset, .unset, .unset, .unset, .unset, .unset] [(.int (((i5.toUInt32 >>> ((3 : Int32) &&& 31).toUInt32).toInt32) &&& (255 : Int32))), (.int (0 : Int32)), (.ref c1)]))
    refine own_st (fun tg_ kg_ => XS.i2c X60.here hx rfl (hb hby at_152) rfl kg_) ?_
    show own_Gl p e below _ (T60.setTop (mkF m 153 #[.val (.long i0), .second, .val (.long i1), .second, .val (.long i2), .second, .val (.long i3), .second, .val (.long i4), .second, .val (.int i5), .val (.int rv), .val (.long ov), .second, .val (.long (i0 ^^^ (-1 : Int64))), .second, .val (.ref f), .val (.int (1 : Int32)), .val .null, .val (.ref c2), .val (.ref cm), .val (.ref c1), .unset, .unset, .unset, .unset, .unset, .unset, .unset, .unset] [(.int ((((i5.toUInt32 >>> ((3 : Int32) &&& 31).toUInt32).toInt32) &&& (255 : Int32)).toUInt32.toUInt16.toUInt32.toInt32)), (.int (0 : Int32)), (.ref c1)]))
    obtain ⟨cl62, Ar62, qa62, Sa62, Na62, Ha62, Ga62⟩ := id V_c1
    have hin63 : ¬ ((0 : Int32) < 0 ∨ cl62.slots.size ≤ ((0 : Int32)).toNatClampNeg) := inb_of Sa62 ⟨by decide, by decide⟩
    obtain ⟨T63, h63, X63, e63, W63, st63⟩ := stC X60 hx hZ e60 Ar62 (j := (0 : Int32)) hin63 (g := (mkF m 153 #[.val (.long i0), .second, .val (.long i1), .second, .val (.long i2), .second, .val (.long i3), .second, .val (.long i4), .second, .val (.int i5), .val (.int rv), .val (.long ov), .second, .val (.long (i0 ^^^ (-1 : Int64))), .second, .val (.ref f), .val (.int (1 : Int32)), .val .null, .val (.ref c2), .val (.ref cm), .val (.ref c1), .unset, .unset, .unset, .unset, .unset, .unset, .unset, .unset] [(.int ((((i5.toUInt32 >>> ((3 : Int32) &&& 31).toUInt32).toInt32) &&& (255 : Int32)).toUInt32.toUInt16.toUInt32.toInt32)), (.int (0 : Int32)), (.ref c1)])) rfl rfl (hb hby at_153)
    rw [own_narc (own_m8 ((i5.toUInt32 >>> ((3 : Int32) &&& 31).toUInt32).toInt32) 255 (by decide) (by decide)).1 (own_m8 ((i5.toUInt32 >>> ((3 : Int32) &&& 31).toUInt32).toInt32) 255 (by decide) (by decide)).2] at W63
    have N63 := Fr.snoc X63 N58 g_c1
    try clear N58
    replace E_f := E_f.wr W63
    replace V_c2 := V_c2.other W63 ne_c2_c1
    replace E_cm := E_cm.wr W63
    have K64 := own_ext_wr K61 W63 sz_c1
    try clear K61
    replace V_c1 : Arv Z h63 c1 k60 .char (1 : Int32) [(.int ((((i5.toUInt32 >>> ((3 : Int32) &&& 31).toUInt32).toInt32) &&& (255 : Int32)).toUInt32.toUInt16.toUInt32.toInt32))] (.int (0 : Int32)) := Arv.set Ar62 qa62 Sa62 Na62 Ha62 Ga62 (own_fitc (own_m8 ((i5.toUInt32 >>> ((3 : Int32) &&& 31).toUInt32).toInt32) 255 (by decide) (by decide)).1 (own_m8 ((i5.toUInt32 >>> ((3 : Int32) &&& 31).toUInt32).toInt32) 255 (by decide) (by decide)).2) W63 0 rfl (Nat.le_of_ble_eq_true rfl)
    try clear Ga62
    try clear Ha62
    try clear Na62
    try clear Sa62
    try clear qa62
    try clear W63
    try clear hin63
    try clear Ar62
    try clear cl62
    refine own_st st63 ?_
    try clear st63
    try clear e60
    try clear X60
    try clear T60
    show own_Gl p e below _ (T63.setTop (mkF m 154 #[.val (.long i0), .second, .val (.long i1), .second, .val (.long i2), .second, .val (.long i3), .second, .val (.long i4), .second, .val (.int i5), .val (.int rv), .val (.long ov), .second, .val (.long (i0 ^^^ (-1 : Int64))), .second, .val (.ref f), .val (.int (1 : Int32)), .val .null, .val (.ref c2), .val (.ref cm), .val (.ref c1), .unset, .unset, .unset, .unset, .unset, .unset, .unset, .unset] []))
    obtain ⟨T65, h65, X65, e65, E65, A65, D65, -, st65⟩ := newO X63 hx hZ hown (hw _ (List.mem_of_getElem? (i := 28) rfl)) (hw _ (List.mem_of_getElem? (i := 11) rfl)) (hw _ (List.mem_of_getElem? (i := 3) rfl)) e63 (g := (mkF m 154 #[.val (.long i0), .second, .val (.long i1), .second, .val (.long i2), .second, .val (.long i3), .second, .val (.long i4), .second, .val (.int i5), .val (.int rv), .val (.long ov), .second, .val (.long (i0 ^^^ (-1 : Int64))), .second, .val (.ref f), .val (.int (1 : Int32)), .val .null, .val (.ref c2), .val (.ref cm), .val (.ref c1), .unset, .unset, .unset, .unset, .unset, .unset, .unset, .unset] [])) rfl (hb hby at_154) (by decide) (by decide)
    obtain ⟨bd, g65⟩ : ∃ z, z = h63.size := ⟨_, rfl⟩
    have ne_f_bd : f ≠ bd := Nat.ne_of_lt (Nat.lt_of_lt_of_le E_f.lt (Nat.le_of_eq g65.symm))
    have ne_c2_bd : c2 ≠ bd := Nat.ne_of_lt (Nat.lt_of_lt_of_le V_c2.lt (Nat.le_of_eq g65.symm))
    have ne_cm_bd : cm ≠ bd := Nat.ne_of_lt (Nat.lt_of_lt_of_le E_cm.lt (Nat.le_of_eq g65.symm))
    have ne_c1_bd : c1 ≠ bd := Nat.ne_of_lt (Nat.lt_of_lt_of_le V_c1.lt (Nat.le_of_eq g65.symm))
    have sz_bd : h0.size ≤ bd := (Nat.le_trans K64.1 (Nat.le_of_eq g65.symm))
    have g_bd : n0 ≤ bd := Nat.le_trans Z0 sz_bd
    rw [← g65] at A65 D65 st65
    replace E_f := E_f.ext E65
    replace V_c2 := V_c2.ext E65
    replace E_cm := E_cm.ext E65
    replace V_c1 := V_c1.ext E65
    have K66 := own_ext_tr K64 E65
    try clear E65
    try clear K64
    have E_bd := A65
    have F_value_bd : Fld Z h65 bd "java/lang/String" "value" "[B" .null := D65 (Or.inr (hw _ (List.mem_of_getElem? (i := 24) rfl))) (ty := (.array .byte)) (by decide)
    have F_coder_bd : Fld Z h65 bd "java/lang/String" "coder" "B" (.int (0 : Int32)) := D65 (Or.inr (hw _ (List.mem_of_getElem? (i := 26) rfl))) (ty := .byte) (by decide)
    refine own_st st65 ?_
    try clear st65
    try clear e63
    try clear X63
    try clear T63
    show own_Gl p e below _ (T65.setTop (mkF m 157 #[.val (.long i0), .second, .val (.long i1), .second, .val (.long i2), .second, .val (.long i3), .second, .val (.long i4), .second, .val (.int i5), .val (.int rv), .val (.long ov), .second, .val (.long (i0 ^^^ (-1 : Int64))), .second, .val (.ref f), .val (.int (1 : Int32)), .val .null, .val (.ref c2), .val (.ref cm), .val (.ref c1), .unset, .unset, .unset, .unset, .unset, .unset, .unset, .unset] [(.ref bd)]))
    refine own_st (fun tg_ kg_ => XS.dup X65.here hx rfl (hb hby at_157) rfl rfl kg_) ?_
    show own_Gl p e below _ (T65.setTop (mkF m 158 #[.val (.long i0), .second, .val (.long i1), .second, .val (.long i2), .second, .val (.long i3), .second, .val (.long i4), .second, .val (.int i5), .val (.int rv), .val (.long ov), .second, .val (.long (i0 ^^^ (-1 : Int64))), .second, .val (.ref f), .val (.int (1 : Int32)), .val .null, .val (.ref c2), .val (.ref cm), .val (.ref c1), .unset, .unset, .unset, .unset, .unset, .unset, .unset, .unset] [(.ref bd), (.ref bd)]))
    refine own_st (fun tg_ kg_ => XS.aload X65.here hx rfl (hb hby at_158) rfl rfl kg_) ?_
    show own_Gl p e below _ (T65.setTop (mkF m 160 #[.val (.long i0), .second, .val (.long i1), .second, .val (.long i2), .second, .val (.long i3), .second, .val (.long i4), .second, .val (.int i5), .val (.int rv), .val (.long ov), .second, .val (.long (i0 ^^^ (-1 : Int64))), .second, .val (.ref f), .val (.int (1 : Int32)), .val .null, .val (.ref c2), .val (.ref cm), .val (.ref c1), .unset, .unset, .unset, .unset, .unset, .unset, .unset, .unset] [(.ref c1), (.ref bd), (.ref bd)]))
    have hpc : ∀ c ∈ ([((((i5.toUInt32 >>> ((3 : Int32) &&& 31).toUInt32).toInt32) &&& (255 : Int32)).toUInt32.toUInt16.toUInt32.toInt32)] : List Int32), ¬ c < 0 ∧ ¬ (255 : Int32) < c := (own_all (own_m8 ((i5.toUInt32 >>> ((3 : Int32) &&& 31).toUInt32).toInt32) 255 (by decide) (by decide)) (fun _ q => nomatch q))
    have V_p : Arv Z h65 c1 k60 .char (1 : Int32) (([((((i5.toUInt32 >>> ((3 : Int32) &&& 31).toUInt32).toInt32) &&& (255 : Int32)).toUInt32.toUInt16.toUInt32.toInt32)] : List Int32).map Value.int) (.int (0 : Int32)) := V_c1
    obtain ⟨_, _, ⟨T67, L67, k67, n67⟩, -, X67, ⟨Lc67, hQ67, l67, y67, z67⟩, st67⟩ := X65.specialBack hx (y := (⟨"java/lang/String", "<init>", "([C)V"⟩ : MethodName)) rfl hown (mvT hZ (hw _ (List.mem_of_getElem? (i := 29) rfl))) (mvT hZ (hw _ (List.mem_of_getElem? (i := 30) rfl))) (mvT hZ (hw _ (List.mem_of_getElem? (i := 31) rfl))) (by decide) (StrChars.Road.backV (W := 1) hZ (own_hws hw) (kI := 4) (hw _ (List.mem_of_getElem? (i := 11) rfl)) (cs := [((((i5.toUInt32 >>> ((3 : Int32) &&& 31).toUInt32).toInt32) &&& (255 : Int32)).toUInt32.toUInt16.toUInt32.toInt32)]) (bs := ([((((i5.toUInt32 >>> ((3 : Int32) &&& 31).toUInt32).toInt32) &&& (255 : Int32)).toUInt32.toUInt16.toUInt32.toInt32)] : List Int32).map (fun c => c.toInt8.toInt32)) (n := 1) g_bd (Nat.le_trans Z0 K66.1) E_bd F_value_bd F_coder_bd V_p (S_C.ext K66) hzc rfl rfl (by decide) (by decide) hpc rfl (by decide) (by decide)) (g := (mkF m 160 #[.val (.long i0), .second, .val (.long i1), .second, .val (.long i2), .second, .val (.long i3), .second, .val (.long i4), .second, .val (.int i5), .val (.int rv), .val (.long ov), .second, .val (.long (i0 ^^^ (-1 : Int64))), .second, .val (.ref f), .val (.int (1 : Int32)), .val .null, .val (.ref c2), .val (.ref cm), .val (.ref c1), .unset, .unset, .unset, .unset, .unset, .unset, .unset, .unset] [(.ref c1), (.ref bd), (.ref bd)])) rfl (by rw [hml]; rfl) (Steps.refl _) (a := bd) (argsL := [(.ref c1)]) (rest := [(.ref bd)]) (lenOf own_pd5 rfl) rfl (by show 2 * 0 + _ ≤ _; exact Nat.le_of_eq rfl) (hb hby at_160) (fun _ _ => ⟨rfl, e65, (by decide : 7 + 1 ≤ _), (by decide : 18 + 1 ≤ _)⟩)
    dsimp only [Pt.U, Pt.locs, Pt.cells, Pt.slots] at X67 l67 y67 z67 st67 hQ67
    obtain rfl : k67 = 8 := y67
    obtain rfl : n67 = 19 := z67
    obtain ⟨rfl, N67q, Kc67, -⟩ := hQ67
    have N67 : Fr n0 L67 := by rw [l67]; exact Fr.app N63 N67q
    try clear l67
    refine own_tr st67 ?_
    replace E_f := E_f.keep Kc67
    replace V_c2 := V_c2.keep Kc67 (ninS ne_c2_bd nin0)
    replace E_cm := E_cm.keep Kc67
    replace V_c1 := V_c1.keep Kc67 (ninS ne_c1_bd nin0)
    replace E_bd := E_bd.keep Kc67
    have K68 := own_ext_keep K66 Kc67 (allS sz_bd all0)
    try clear Kc67
    try clear K66
    show own_Gl p e below _ (T67.setTop (mkF m 163 #[.val (.long i0), .second, .val (.long i1), .second, .val (.long i2), .second, .val (.long i3), .second, .val (.long i4), .second, .val (.int i5), .val (.int rv), .val (.long ov), .second, .val (.long (i0 ^^^ (-1 : Int64))), .second, .val (.ref f), .val (.int (1 : Int32)), .val .null, .val (.ref c2), .val (.ref cm), .val (.ref c1), .unset, .unset, .unset, .unset, .unset, .unset, .unset, .unset] [(.ref bd)]))
    try clear st67
    try clear N67q
    try clear N63
    try clear e65
    try clear X65
    try clear T65
    refine own_st (fun tg_ kg_ => XS.astore X67.here hx rfl (hb hby at_163) rfl rfl (l' := #[.val (.long i0), .second, .val (.long i1), .second, .val (.long i2), .second, .val (.long i3), .second, .val (.long i4), .second, .val (.int i5), .val (.int rv), .val (.long ov), .second, .val (.long (i0 ^^^ (-1 : Int64))), .second, .val (.ref f), .val (.int (1 : Int32)), .val .null, .val (.ref c2), .val (.ref cm), .val (.ref c1), .val (.ref bd), .unset, .unset, .unset, .unset, .unset, .unset, .unset]) rfl kg_) ?_
    show own_Gl p e below _ (T67.setTop (mkF m 165 #[.val (.long i0), .second, .val (.long i1), .second, .val (.long i2), .second, .val (.long i3), .second, .val (.long i4), .second, .val (.int i5), .val (.int rv), .val (.long ov), .second, .val (.long (i0 ^^^ (-1 : Int64))), .second, .val (.ref f), .val (.int (1 : Int32)), .val .null, .val (.ref c2), .val (.ref cm), .val (.ref c1), .val (.ref bd), .unset, .unset, .unset, .unset, .unset, .unset, .unset] []))
    obtain ⟨T69, h69, X69, e69, E69, A69, D69, -, st69⟩ := newO X67 hx hZ hown (hw _ (List.mem_of_getElem? (i := 45) rfl)) (hw _ (List.mem_of_getElem? (i := 46) rfl)) (hw _ (List.mem_of_getElem? (i := 47) rfl)) rfl (g := (mkF m 165 #[.val (.long i0), .second, .val (.long i1), .second, .val (.long i2), .second, .val (.long i3), .second, .val (.long i4), .second, .val (.int i5), .val (.int rv), .val (.long ov), .second, .val (.long (i0 ^^^ (-1 : Int64))), .second, .val (.ref f), .val (.int (1 : Int32)), .val .null, .val (.ref c2), .val (.ref cm), .val (.ref c1), .val (.ref bd), .unset, .unset, .unset, .unset, .unset, .unset, .unset] [])) rfl (hb hby at_165) (by decide) (by decide)
    obtain ⟨a, g69⟩ : ∃ z, z = T67.heap.size := ⟨_, rfl⟩
    have ne_f_a : f ≠ a := Nat.ne_of_lt (Nat.lt_of_lt_of_le E_f.lt (Nat.le_of_eq g69.symm))
    have ne_c2_a : c2 ≠ a := Nat.ne_of_lt (Nat.lt_of_lt_of_le V_c2.lt (Nat.le_of_eq g69.symm))
    have ne_cm_a : cm ≠ a := Nat.ne_of_lt (Nat.lt_of_lt_of_le E_cm.lt (Nat.le_of_eq g69.symm))
    have ne_c1_a : c1 ≠ a := Nat.ne_of_lt (Nat.lt_of_lt_of_le V_c1.lt (Nat.le_of_eq g69.symm))
    have ne_bd_a : bd ≠ a := Nat.ne_of_lt (Nat.lt_of_lt_of_le E_bd.lt (Nat.le_of_eq g69.symm))
    have sz_a : h0.size ≤ a := (Nat.le_trans K68.1 (Nat.le_of_eq g69.symm))
    have g_a : n0 ≤ a := Nat.le_trans Z0 sz_a
    rw [← g69] at A69 D69 st69
    replace E_f := E_f.ext E69
    replace V_c2 := V_c2.ext E69
    replace E_cm := E_cm.ext E69
    replace V_c1 := V_c1.ext E69
    replace E_bd := E_bd.ext E69
    have K70 := own_ext_tr K68 E69
    try clear E69
    try clear K68
    have E_a := A69
    have F_serverMsgId_a : Fld Z h69 a "com/example/highwater/highwater/store/StoredMessage" "serverMsgId" "J" (.long (0 : Int64)) := D69 (Or.inr (hw _ (List.mem_of_getElem? (i := 53) rfl))) (ty := .long) (by decide)
    have F_conversationId_a : Fld Z h69 a "com/example/highwater/highwater/store/StoredMessage" "conversationId" "J" (.long (0 : Int64)) := D69 (Or.inr (hw _ (List.mem_of_getElem? (i := 55) rfl))) (ty := .long) (by decide)
    have F_msgSeq_a : Fld Z h69 a "com/example/highwater/highwater/store/StoredMessage" "msgSeq" "J" (.long (0 : Int64)) := D69 (Or.inr (hw _ (List.mem_of_getElem? (i := 57) rfl))) (ty := .long) (by decide)
    have F_from_a : Fld Z h69 a "com/example/highwater/highwater/store/StoredMessage" "from" "Ljava/lang/String;" .null := D69 (Or.inr (hw _ (List.mem_of_getElem? (i := 59) rfl))) (ty := (.object "java/lang/String")) (by decide)
    have F_to_a : Fld Z h69 a "com/example/highwater/highwater/store/StoredMessage" "to" "Ljava/lang/String;" .null := D69 (Or.inr (hw _ (List.mem_of_getElem? (i := 61) rfl))) (ty := (.object "java/lang/String")) (by decide)
    have F_groupId_a : Fld Z h69 a "com/example/highwater/highwater/store/StoredMessage" "groupId" "J" (.long (0 : Int64)) := D69 (Or.inr (hw _ (List.mem_of_getElem? (i := 63) rfl))) (ty := .long) (by decide)
    have F_clientMsgId_a : Fld Z h69 a "com/example/highwater/highwater/store/StoredMessage" "clientMsgId" "Ljava/lang/String;" .null := D69 (Or.inr (hw _ (List.mem_of_getElem? (i := 65) rfl))) (ty := (.object "java/lang/String")) (by decide)
    have F_body_a : Fld Z h69 a "com/example/highwater/highwater/store/StoredMessage" "body" "Ljava/lang/String;" .null := D69 (Or.inr (hw _ (List.mem_of_getElem? (i := 67) rfl))) (ty := (.object "java/lang/String")) (by decide)
    have F_ts_a : Fld Z h69 a "com/example/highwater/highwater/store/StoredMessage" "ts" "J" (.long (0 : Int64)) := D69 (Or.inr (hw _ (List.mem_of_getElem? (i := 69) rfl))) (ty := .long) (by decide)
    have F_revoked_a : Fld Z h69 a "com/example/highwater/highwater/store/StoredMessage" "revoked" "Z" (.int (0 : Int32)) := D69 (Or.inr (hw _ (List.mem_of_getElem? (i := 71) rfl))) (ty := .boolean) (by decide)
    have F_revokedTs_a : Fld Z h69 a "com/example/highwater/highwater/store/StoredMessage" "revokedTs" "J" (.long (0 : Int64)) := D69 (Or.inr (hw _ (List.mem_of_getElem? (i := 73) rfl))) (ty := .long) (by decide)
    refine own_st st69 ?_
    try clear st69
    try clear X67
    try clear T67
    show own_Gl p e below _ (T69.setTop (mkF m 168 #[.val (.long i0), .second, .val (.long i1), .second, .val (.long i2), .second, .val (.long i3), .second, .val (.long i4), .second, .val (.int i5), .val (.int rv), .val (.long ov), .second, .val (.long (i0 ^^^ (-1 : Int64))), .second, .val (.ref f), .val (.int (1 : Int32)), .val .null, .val (.ref c2), .val (.ref cm), .val (.ref c1), .val (.ref bd), .unset, .unset, .unset, .unset, .unset, .unset, .unset] [(.ref a)]))
    refine own_st (fun tg_ kg_ => XS.dup X69.here hx rfl (hb hby at_168) rfl rfl kg_) ?_
    show own_Gl p e below _ (T69.setTop (mkF m 169 #[.val (.long i0), .second, .val (.long i1), .second, .val (.long i2), .second, .val (.long i3), .second, .val (.long i4), .second, .val (.int i5), .val (.int rv), .val (.long ov), .second, .val (.long (i0 ^^^ (-1 : Int64))), .second, .val (.ref f), .val (.int (1 : Int32)), .val .null, .val (.ref c2), .val (.ref cm), .val (.ref c1), .val (.ref bd), .unset, .unset, .unset, .unset, .unset, .unset, .unset] [(.ref a), (.ref a)]))
    refine own_st (fun tg_ kg_ => XS.lloadN X69.here hx rfl (hb hby at_169) rfl kg_) ?_
    show own_Gl p e below _ (T69.setTop (mkF m 170 #[.val (.long i0), .second, .val (.long i1), .second, .val (.long i2), .second, .val (.long i3), .second, .val (.long i4), .second, .val (.int i5), .val (.int rv), .val (.long ov), .second, .val (.long (i0 ^^^ (-1 : Int64))), .second, .val (.ref f), .val (.int (1 : Int32)), .val .null, .val (.ref c2), .val (.ref cm), .val (.ref c1), .val (.ref bd), .unset, .unset, .unset, .unset, .unset, .unset, .unset] [(.long i0), (.ref a), (.ref a)]))
    refine own_st (fun tg_ kg_ => XS.lloadN X69.here hx rfl (hb hby at_170) rfl kg_) ?_
    show own_Gl p e below _ (T69.setTop (mkF m 171 #[.val (.long i0), .second, .val (.long i1), .second, .val (.long i2), .second, .val (.long i3), .second, .val (.long i4), .second, .val (.int i5), .val (.int rv), .val (.long ov), .second, .val (.long (i0 ^^^ (-1 : Int64))), .second, .val (.ref f), .val (.int (1 : Int32)), .val .null, .val (.ref c2), .val (.ref cm), .val (.ref c1), .val (.ref bd), .unset, .unset, .unset, .unset, .unset, .unset, .unset] [(.long i1), (.long i0), (.ref a), (.ref a)]))
    refine own_st (fun tg_ kg_ => XS.lload X69.here hx rfl (hb hby at_171) rfl kg_) ?_
    show own_Gl p e below _ (T69.setTop (mkF m 173 #[.val (.long i0), .second, .val (.long i1), .second, .val (.long i2), .second, .val (.long i3), .second, .val (.long i4), .second, .val (.int i5), .val (.int rv), .val (.long ov), .second, .val (.long (i0 ^^^ (-1 : Int64))), .second, .val (.ref f), .val (.int (1 : Int32)), .val .null, .val (.ref c2), .val (.ref cm), .val (.ref c1), .val (.ref bd), .unset, .unset, .unset, .unset, .unset, .unset, .unset] [(.long i2), (.long i1), (.long i0), (.ref a), (.ref a)]))
    refine own_st (fun tg_ kg_ => XS.aload X69.here hx rfl (hb hby at_173) rfl rfl kg_) ?_
    show own_Gl p e below _ (T69.setTop (mkF m 175 #[.val (.long i0), .second, .val (.long i1), .second, .val (.long i2), .second, .val (.long i3), .second, .val (.long i4), .second, .val (.int i5), .val (.int rv), .val (.long ov), .second, .val (.long (i0 ^^^ (-1 : Int64))), .second, .val (.ref f), .val (.int (1 : Int32)), .val .null, .val (.ref c2), .val (.ref cm), .val (.ref c1), .val (.ref bd), .unset, .unset, .unset, .unset, .unset, .unset, .unset] [(.ref f), (.long i2), (.long i1), (.long i0), (.ref a), (.ref a)]))
    refine own_st (fun tg_ kg_ => XS.aload X69.here hx rfl (hb hby at_175) rfl rfl kg_) ?_
    show own_Gl p e below _ (T69.setTop (mkF m 177 #[.val (.long i0), .second, .val (.long i1), .second, .val (.long i2), .second, .val (.long i3), .second, .val (.long i4), .second, .val (.int i5), .val (.int rv), .val (.long ov), .second, .val (.long (i0 ^^^ (-1 : Int64))), .second, .val (.ref f), .val (.int (1 : Int32)), .val .null, .val (.ref c2), .val (.ref cm), .val (.ref c1), .val (.ref bd), .unset, .unset, .unset, .unset, .unset, .unset, .unset] [.null, (.ref f), (.long i2), (.long i1), (.long i0), (.ref a), (.ref a)]))
    refine own_st (fun tg_ kg_ => XS.lload X69.here hx rfl (hb hby at_177) rfl kg_) ?_
    show own_Gl p e below _ (T69.setTop (mkF m 179 #[.val (.long i0), .second, .val (.long i1), .second, .val (.long i2), .second, .val (.long i3), .second, .val (.long i4), .second, .val (.int i5), .val (.int rv), .val (.long ov), .second, .val (.long (i0 ^^^ (-1 : Int64))), .second, .val (.ref f), .val (.int (1 : Int32)), .val .null, .val (.ref c2), .val (.ref cm), .val (.ref c1), .val (.ref bd), .unset, .unset, .unset, .unset, .unset, .unset, .unset] [(.long i3), .null, (.ref f), (.long i2), (.long i1), (.long i0), (.ref a), (.ref a)]))
    refine own_st (fun tg_ kg_ => XS.aload X69.here hx rfl (hb hby at_179) rfl rfl kg_) ?_
    show own_Gl p e below _ (T69.setTop (mkF m 181 #[.val (.long i0), .second, .val (.long i1), .second, .val (.long i2), .second, .val (.long i3), .second, .val (.long i4), .second, .val (.int i5), .val (.int rv), .val (.long ov), .second, .val (.long (i0 ^^^ (-1 : Int64))), .second, .val (.ref f), .val (.int (1 : Int32)), .val .null, .val (.ref c2), .val (.ref cm), .val (.ref c1), .val (.ref bd), .unset, .unset, .unset, .unset, .unset, .unset, .unset] [(.ref cm), (.long i3), .null, (.ref f), (.long i2), (.long i1), (.long i0), (.ref a), (.ref a)]))
    refine own_st (fun tg_ kg_ => XS.aload X69.here hx rfl (hb hby at_181) rfl rfl kg_) ?_
    show own_Gl p e below _ (T69.setTop (mkF m 183 #[.val (.long i0), .second, .val (.long i1), .second, .val (.long i2), .second, .val (.long i3), .second, .val (.long i4), .second, .val (.int i5), .val (.int rv), .val (.long ov), .second, .val (.long (i0 ^^^ (-1 : Int64))), .second, .val (.ref f), .val (.int (1 : Int32)), .val .null, .val (.ref c2), .val (.ref cm), .val (.ref c1), .val (.ref bd), .unset, .unset, .unset, .unset, .unset, .unset, .unset] [(.ref bd), (.ref cm), (.long i3), .null, (.ref f), (.long i2), (.long i1), (.long i0), (.ref a), (.ref a)]))
    refine own_st (fun tg_ kg_ => XS.lload X69.here hx rfl (hb hby at_183) rfl kg_) ?_
    show own_Gl p e below _ (T69.setTop (mkF m 185 #[.val (.long i0), .second, .val (.long i1), .second, .val (.long i2), .second, .val (.long i3), .second, .val (.long i4), .second, .val (.int i5), .val (.int rv), .val (.long ov), .second, .val (.long (i0 ^^^ (-1 : Int64))), .second, .val (.ref f), .val (.int (1 : Int32)), .val .null, .val (.ref c2), .val (.ref cm), .val (.ref c1), .val (.ref bd), .unset, .unset, .unset, .unset, .unset, .unset, .unset] [(.long (i0 ^^^ (-1 : Int64))), (.ref bd), (.ref cm), (.long i3), .null, (.ref f), (.long i2), (.long i1), (.long i0), (.ref a), (.ref a)]))
    refine own_st (fun tg_ kg_ => XS.iload X69.here hx rfl (hb hby at_185) rfl kg_) ?_
    show own_Gl p e below _ (T69.setTop (mkF m 187 #[.val (.long i0), .second, .val (.long i1), .second, .val (.long i2), .second, .val (.long i3), .second, .val (.long i4), .second, .val (.int i5), .val (.int rv), .val (.long ov), .second, .val (.long (i0 ^^^ (-1 : Int64))), .second, .val (.ref f), .val (.int (1 : Int32)), .val .null, .val (.ref c2), .val (.ref cm), .val (.ref c1), .val (.ref bd), .unset, .unset, .unset, .unset, .unset, .unset, .unset] [(.int rv), (.long (i0 ^^^ (-1 : Int64))), (.ref bd), (.ref cm), (.long i3), .null, (.ref f), (.long i2), (.long i1), (.long i0), (.ref a), (.ref a)]))
    refine own_st (fun tg_ kg_ => XS.lload X69.here hx rfl (hb hby at_187) rfl kg_) ?_
    show own_Gl p e below _ (T69.setTop (mkF m 189 #[.val (.long i0), .second, .val (.long i1), .second, .val (.long i2), .second, .val (.long i3), .second, .val (.long i4), .second, .val (.int i5), .val (.int rv), .val (.long ov), .second, .val (.long (i0 ^^^ (-1 : Int64))), .second, .val (.ref f), .val (.int (1 : Int32)), .val .null, .val (.ref c2), .val (.ref cm), .val (.ref c1), .val (.ref bd), .unset, .unset, .unset, .unset, .unset, .unset, .unset] [(.long ov), (.int rv), (.long (i0 ^^^ (-1 : Int64))), (.ref bd), (.ref cm), (.long i3), .null, (.ref f), (.long i2), (.long i1), (.long i0), (.ref a), (.ref a)]))
    obtain ⟨_, _, ⟨T71, L71, k71, n71⟩, -, X71, ⟨Lc71, hQ71, l71, y71, z71⟩, st71⟩ := X69.specialBack hx (y := (⟨"com/example/highwater/highwater/store/StoredMessage", "<init>", "(JJJLjava/lang/String;Ljava/lang/String;JLjava/lang/String;Ljava/lang/String;JZJ)V"⟩ : MethodName)) rfl hown (mvT hZ (hw _ (List.mem_of_getElem? (i := 48) rfl))) (mvT hZ (hw _ (List.mem_of_getElem? (i := 49) rfl))) (mvT hZ (hw _ (List.mem_of_getElem? (i := 50) rfl))) (by decide) (backOf (W := 1) (own_rm_smiN l Z a0 hw [] a f cm bd i0 i1 i2 i3 (i0 ^^^ (-1 : Int64)) ov rv h69 n0 (Nat.le_trans Z0 K70.1) E_a F_serverMsgId_a F_conversationId_a F_msgSeq_a F_from_a F_to_a F_groupId_a F_clientMsgId_a F_body_a F_ts_a F_revoked_a F_revokedTs_a g_a) hZ (hw _ (List.mem_of_getElem? (i := 50) rfl)) (hw _ (List.mem_of_getElem? (i := 47) rfl)) (by decide) (by decide)) (g := (mkF m 189 #[.val (.long i0), .second, .val (.long i1), .second, .val (.long i2), .second, .val (.long i3), .second, .val (.long i4), .second, .val (.int i5), .val (.int rv), .val (.long ov), .second, .val (.long (i0 ^^^ (-1 : Int64))), .second, .val (.ref f), .val (.int (1 : Int32)), .val .null, .val (.ref c2), .val (.ref cm), .val (.ref c1), .val (.ref bd), .unset, .unset, .unset, .unset, .unset, .unset, .unset] [(.long ov), (.int rv), (.long (i0 ^^^ (-1 : Int64))), (.ref bd), (.ref cm), (.long i3), .null, (.ref f), (.long i2), (.long i1), (.long i0), (.ref a), (.ref a)])) rfl (by rw [hml]; rfl) (Steps.refl _) (a := a) (argsL := [(.long i0), (.long i1), (.long i2), (.ref f), .null, (.long i3), (.ref cm), (.ref bd), (.long (i0 ^^^ (-1 : Int64))), (.int rv), (.long ov)]) (rest := [(.ref a)]) (lenOf own_pd3 rfl) rfl (by show 2 * 0 + _ ≤ _; exact Nat.le_of_eq rfl) (hb hby at_189) (fun _ _ => ⟨rfl, e69, (by decide : 9 + 0 ≤ _), (by decide : 30 + 0 ≤ _)⟩)
    dsimp only [Pt.U, Pt.locs, Pt.cells, Pt.slots] at X71 l71 y71 z71 st71 hQ71
    obtain rfl : k71 = 9 := y71
    obtain rfl : n71 = 30 := z71
    obtain ⟨rfl, N71q, Kc71, F_serverMsgId, F_conversationId, F_msgSeq, F_from, F_to, F_groupId, F_clientMsgId, F_body, F_ts, F_revoked, F_revokedTs⟩ := hQ71
    have N71 : Fr n0 L71 := by rw [l71]; exact Fr.app N67 N71q
    try clear l71
    refine own_tr st71 ?_
    replace E_f := E_f.keep Kc71
    replace V_c2 := V_c2.keep Kc71 (ninS ne_c2_a nin0)
    replace E_cm := E_cm.keep Kc71
    replace V_c1 := V_c1.keep Kc71 (ninS ne_c1_a nin0)
    replace E_bd := E_bd.keep Kc71
    replace E_a := E_a.keep Kc71
    have K72 := own_ext_keep K70 Kc71 (allS sz_a all0)
    try clear Kc71
    try clear K70
    show own_Gl p e below _ (T71.setTop (mkF m 192 #[.val (.long i0), .second, .val (.long i1), .second, .val (.long i2), .second, .val (.long i3), .second, .val (.long i4), .second, .val (.int i5), .val (.int rv), .val (.long ov), .second, .val (.long (i0 ^^^ (-1 : Int64))), .second, .val (.ref f), .val (.int (1 : Int32)), .val .null, .val (.ref c2), .val (.ref cm), .val (.ref c1), .val (.ref bd), .unset, .unset, .unset, .unset, .unset, .unset, .unset] [(.ref a)]))
    try clear st71
    try clear N71q
    try clear N67
    try clear e69
    try clear X69
    try clear T69
    refine own_st (fun tg_ kg_ => XS.astore X71.here hx rfl (hb hby at_192) rfl rfl (l' := #[.val (.long i0), .second, .val (.long i1), .second, .val (.long i2), .second, .val (.long i3), .second, .val (.long i4), .second, .val (.int i5), .val (.int rv), .val (.long ov), .second, .val (.long (i0 ^^^ (-1 : Int64))), .second, .val (.ref f), .val (.int (1 : Int32)), .val .null, .val (.ref c2), .val (.ref cm), .val (.ref c1), .val (.ref bd), .val (.ref a), .unset, .unset, .unset, .unset, .unset, .unset]) rfl kg_) ?_
    show own_Gl p e below _ (T71.setTop (mkF m 194 #[.val (.long i0), .second, .val (.long i1), .second, .val (.long i2), .second, .val (.long i3), .second, .val (.long i4), .second, .val (.int i5), .val (.int rv), .val (.long ov), .second, .val (.long (i0 ^^^ (-1 : Int64))), .second, .val (.ref f), .val (.int (1 : Int32)), .val .null, .val (.ref c2), .val (.ref cm), .val (.ref c1), .val (.ref bd), .val (.ref a), .unset, .unset, .unset, .unset, .unset, .unset] []))
    refine own_st (fun tg_ kg_ => XS.aload X71.here hx rfl (hb hby at_194) rfl rfl kg_) ?_
    show own_Gl p e below _ (T71.setTop (mkF m 196 #[.val (.long i0), .second, .val (.long i1), .second, .val (.long i2), .second, .val (.long i3), .second, .val (.long i4), .second, .val (.int i5), .val (.int rv), .val (.long ov), .second, .val (.long (i0 ^^^ (-1 : Int64))), .second, .val (.ref f), .val (.int (1 : Int32)), .val .null, .val (.ref c2), .val (.ref cm), .val (.ref c1), .val (.ref bd), .val (.ref a), .unset, .unset, .unset, .unset, .unset, .unset] [(.ref a)]))
    refine own_st (fun tg_ kg_ => XS.lload X71.here hx rfl (hb hby at_196) rfl kg_) ?_
    show own_Gl p e below _ (T71.setTop (mkF m 198 #[.val (.long i0), .second, .val (.long i1), .second, .val (.long i2), .second, .val (.long i3), .second, .val (.long i4), .second, .val (.int i5), .val (.int rv), .val (.long ov), .second, .val (.long (i0 ^^^ (-1 : Int64))), .second, .val (.ref f), .val (.int (1 : Int32)), .val .null, .val (.ref c2), .val (.ref cm), .val (.ref c1), .val (.ref bd), .val (.ref a), .unset, .unset, .unset, .unset, .unset, .unset] [(.long i4), (.ref a)]))
    obtain ⟨cq73, kq73, q73a, q73b, q73c⟩ := isOf hZ rfl E_a
    obtain ⟨_, _, ⟨T73, L73, k73, n73⟩, -, X73, hS73, hg73, ⟨Lc73, hQ73, l73, y73, z73, CC73⟩, st73⟩ := X71.virtualBackS hx (y := (⟨"com/example/highwater/highwater/store/StoredMessage", "revokedAt", "(J)Lcom/example/highwater/highwater/store/StoredMessage;"⟩ : MethodName)) (z := (⟨"com/example/highwater/highwater/store/StoredMessage", "revokedAt", "(J)Lcom/example/highwater/highwater/store/StoredMessage;"⟩ : MethodName)) hown (mvT hZ (hw _ (List.mem_of_getElem? (i := 74) rfl))) (mvT hZ (hw _ (List.mem_of_getElem? (i := 75) rfl))) (notFace_of_selects (args := #[]) (mvT hZ (hw _ (List.mem_of_getElem? (i := 77) rfl)))) (mvT hZ (hw _ (List.mem_of_getElem? (i := 77) rfl))) (mvT hZ (hw _ (List.mem_of_getElem? (i := 76) rfl))) (by decide) (backOfSH (W := 0) (own_rm_revN l Z a0 hw [] a f cm bd i0 i1 i2 i3 (i0 ^^^ (-1 : Int64)) ov i4 rv T71.heap n0 (Nat.le_trans Z0 K72.1) F_serverMsgId F_conversationId F_msgSeq F_from F_to F_groupId F_clientMsgId F_body F_ts F_revoked F_revokedTs) hZ (hw _ (List.mem_of_getElem? (i := 78) rfl)) (hw _ (List.mem_of_getElem? (i := 47) rfl)) (by decide) (by decide) hEL (CHv.ext K72 hCH)) q73a q73c (g := (mkF m 198 #[.val (.long i0), .second, .val (.long i1), .second, .val (.long i2), .second, .val (.long i3), .second, .val (.long i4), .second, .val (.int i5), .val (.int rv), .val (.long ov), .second, .val (.long (i0 ^^^ (-1 : Int64))), .second, .val (.ref f), .val (.int (1 : Int32)), .val .null, .val (.ref c2), .val (.ref cm), .val (.ref c1), .val (.ref bd), .val (.ref a), .unset, .unset, .unset, .unset, .unset, .unset] [(.long i4), (.ref a)])) rfl (by rw [hml]; rfl) (Steps.refl _) (argsL := [(.long i4)]) (rest := []) (lenOf own_pd6 rfl) rfl (by show 2 * 0 + _ ≤ _; exact Nat.le_of_eq rfl) (hb hby at_198) (fun _ _ => ⟨rfl, rfl, (by decide : 9 + 3 ≤ _), (by decide : 30 + 15 ≤ _)⟩)
    dsimp only [Pt.U, Pt.locs, Pt.cells, Pt.slots] at X73 hS73 hg73 l73 y73 z73 st73 hQ73 CC73
    obtain rfl : k73 = 12 := y73
    obtain rfl : n73 = 45 := z73
    obtain ⟨⟨b, lit, t, kt, rfl, szc73, E_b, E_lit, Fv_lit, V_t, G_serverMsgId, G_conversationId, G_msgSeq, G_from, G_to, G_groupId, G_clientMsgId, G_body, G_ts, G_revoked, G_revokedTs⟩, N73q, Kc73⟩ := hQ73
    have N73 : Fr n0 L73 := by rw [l73]; exact Fr.app N71 N73q
    try clear l73
    obtain ⟨X73, hSb73, hZ, hown⟩ := rebS hS0 (Nat.zero_le _) X73 hS73 hg73 hZ hown
    have hk := Nat.le_refl T73.heap.size
    refine own_tr st73 ?_
    have ne_f_b : f ≠ b := Nat.ne_of_lt (Nat.lt_of_lt_of_le E_f.lt szc73)
    have ne_c2_b : c2 ≠ b := Nat.ne_of_lt (Nat.lt_of_lt_of_le V_c2.lt szc73)
    have ne_cm_b : cm ≠ b := Nat.ne_of_lt (Nat.lt_of_lt_of_le E_cm.lt szc73)
    have ne_c1_b : c1 ≠ b := Nat.ne_of_lt (Nat.lt_of_lt_of_le V_c1.lt szc73)
    have ne_bd_b : bd ≠ b := Nat.ne_of_lt (Nat.lt_of_lt_of_le E_bd.lt szc73)
    have ne_a_b : a ≠ b := Nat.ne_of_lt (Nat.lt_of_lt_of_le E_a.lt szc73)
    have sz_b : h0.size ≤ b := Nat.le_trans K72.1 szc73
    have g_b : n0 ≤ b := Nat.le_trans Z0 sz_b
    replace E_f := E_f.ext Kc73
    replace V_c2 := V_c2.ext Kc73
    replace E_cm := E_cm.ext Kc73
    replace V_c1 := V_c1.ext Kc73
    replace E_bd := E_bd.ext Kc73
    replace E_a := E_a.ext Kc73
    replace F_serverMsgId := F_serverMsgId.ext Kc73
    replace F_conversationId := F_conversationId.ext Kc73
    replace F_msgSeq := F_msgSeq.ext Kc73
    replace F_from := F_from.ext Kc73
    replace F_to := F_to.ext Kc73
    replace F_groupId := F_groupId.ext Kc73
    replace F_clientMsgId := F_clientMsgId.ext Kc73
    replace F_body := F_body.ext Kc73
    replace F_ts := F_ts.ext Kc73
    replace F_revoked := F_revoked.ext Kc73
    replace F_revokedTs := F_revokedTs.ext Kc73
    have K74 := own_ext_tr K72 Kc73
    try clear Kc73
    try clear K72
    show own_Gl p e below _ (T73.setTop (mkF m 201 #[.val (.long i0), .second, .val (.long i1), .second, .val (.long i2), .second, .val (.long i3), .second, .val (.long i4), .second, .val (.int i5), .val (.int rv), .val (.long ov), .second, .val (.long (i0 ^^^ (-1 : Int64))), .second, .val (.ref f), .val (.int (1 : Int32)), .val .null, .val (.ref c2), .val (.ref cm), .val (.ref c1), .val (.ref bd), .val (.ref a), .unset, .unset, .unset, .unset, .unset, .unset] [(.ref b)]))
    refine own_st (fun tg_ kg_ => XS.astore X73.here hx rfl (hb hby at_201) rfl rfl (l' := #[.val (.long i0), .second, .val (.long i1), .second, .val (.long i2), .second, .val (.long i3), .second, .val (.long i4), .second, .val (.int i5), .val (.int rv), .val (.long ov), .second, .val (.long (i0 ^^^ (-1 : Int64))), .second, .val (.ref f), .val (.int (1 : Int32)), .val .null, .val (.ref c2), .val (.ref cm), .val (.ref c1), .val (.ref bd), .val (.ref a), .val (.ref b), .unset, .unset, .unset, .unset, .unset]) rfl kg_) ?_
    show own_Gl p e below _ (T73.setTop (mkF m 203 #[.val (.long i0), .second, .val (.long i1), .second, .val (.long i2), .second, .val (.long i3), .second, .val (.long i4), .second, .val (.int i5), .val (.int rv), .val (.long ov), .second, .val (.long (i0 ^^^ (-1 : Int64))), .second, .val (.ref f), .val (.int (1 : Int32)), .val .null, .val (.ref c2), .val (.ref cm), .val (.ref c1), .val (.ref bd), .val (.ref a), .val (.ref b), .unset, .unset, .unset, .unset, .unset] []))
    refine own_st (fun tg_ kg_ => XS.aload X73.here hx rfl (hb hby at_203) rfl rfl kg_) ?_
    show own_Gl p e below _ (T73.setTop (mkF m 205 #[.val (.long i0), .second, .val (.long i1), .second, .val (.long i2), .second, .val (.long i3), .second, .val (.long i4), .second, .val (.int i5), .val (.int rv), .val (.long ov), .second, .val (.long (i0 ^^^ (-1 : Int64))), .second, .val (.ref f), .val (.int (1 : Int32)), .val .null, .val (.ref c2), .val (.ref cm), .val (.ref c1), .val (.ref bd), .val (.ref a), .val (.ref b), .unset, .unset, .unset, .unset, .unset] [(.ref b)]))
    refine own_st (fun tg_ kg_ => XT.nonnullYes X73.here hx rfl (pc0 := 205) (pc' := 210) rfl (hb hby at_205) rfl rfl nofun (by decide) (by decide) kg_) ?_
    show own_Gl p e below _ (T73.setTop (mkF m 210 #[.val (.long i0), .second, .val (.long i1), .second, .val (.long i2), .second, .val (.long i3), .second, .val (.long i4), .second, .val (.int i5), .val (.int rv), .val (.long ov), .second, .val (.long (i0 ^^^ (-1 : Int64))), .second, .val (.ref f), .val (.int (1 : Int32)), .val .null, .val (.ref c2), .val (.ref cm), .val (.ref c1), .val (.ref bd), .val (.ref a), .val (.ref b), .unset, .unset, .unset, .unset, .unset] []))
    refine own_st (fun tg_ kg_ => XS.aload X73.here hx rfl (hb hby at_210) rfl rfl kg_) ?_
    show own_Gl p e below _ (T73.setTop (mkF m 212 #[.val (.long i0), .second, .val (.long i1), .second, .val (.long i2), .second, .val (.long i3), .second, .val (.long i4), .second, .val (.int i5), .val (.int rv), .val (.long ov), .second, .val (.long (i0 ^^^ (-1 : Int64))), .second, .val (.ref f), .val (.int (1 : Int32)), .val .null, .val (.ref c2), .val (.ref cm), .val (.ref c1), .val (.ref bd), .val (.ref a), .val (.ref b), .unset, .unset, .unset, .unset, .unset] [(.ref b)]))
    obtain ⟨cq75, kq75, q75a, q75b, q75c⟩ := isOf hZ rfl E_b
    obtain ⟨_, _, ⟨T75, L75, k75, n75⟩, -, X75, ⟨Lc75, hQ75, l75, y75, z75⟩, st75⟩ := X73.virtualBack hx (y := (⟨"com/example/highwater/highwater/store/StoredMessage", "to", "()Ljava/lang/String;"⟩ : MethodName)) (z := (⟨"com/example/highwater/highwater/store/StoredMessage", "to", "()Ljava/lang/String;"⟩ : MethodName)) hown (mvT hZ (hw _ (List.mem_of_getElem? (i := 84) rfl))) (mvT hZ (hw _ (List.mem_of_getElem? (i := 85) rfl))) (notFace_of_selects (args := #[]) (mvT hZ (hw _ (List.mem_of_getElem? (i := 87) rfl)))) (mvT hZ (hw _ (List.mem_of_getElem? (i := 87) rfl))) (mvT hZ (hw _ (List.mem_of_getElem? (i := 86) rfl))) (by decide) (backOf (W := 0) (own_rm_g_toN l Z a0 hw [] b  T73.heap n0 (Nat.le_trans Z0 K74.1) G_to) hZ (hw _ (List.mem_of_getElem? (i := 88) rfl)) (hw _ (List.mem_of_getElem? (i := 47) rfl)) (by decide) (by decide)) q75a q75c (g := (mkF m 212 #[.val (.long i0), .second, .val (.long i1), .second, .val (.long i2), .second, .val (.long i3), .second, .val (.long i4), .second, .val (.int i5), .val (.int rv), .val (.long ov), .second, .val (.long (i0 ^^^ (-1 : Int64))), .second, .val (.ref f), .val (.int (1 : Int32)), .val .null, .val (.ref c2), .val (.ref cm), .val (.ref c1), .val (.ref bd), .val (.ref a), .val (.ref b), .unset, .unset, .unset, .unset, .unset] [(.ref b)])) rfl (by rw [hml]; rfl) (Steps.refl _) (argsL := []) (rest := []) (lenOf own_pd7 rfl) rfl (by show 2 * 0 + _ ≤ _; exact Nat.le_of_eq rfl) (hb hby at_212) (fun _ _ => ⟨rfl, rfl, (by decide : 12 + 0 ≤ _), (by decide : 45 + 0 ≤ _)⟩)
    dsimp only [Pt.U, Pt.locs, Pt.cells, Pt.slots] at X75 l75 y75 z75 st75 hQ75
    obtain rfl : k75 = 12 := y75
    obtain rfl : n75 = 45 := z75
    obtain ⟨rfl, N75q, e75⟩ := hQ75
    have N75 : Fr n0 L75 := by rw [l75]; exact Fr.app N73 N75q
    try clear l75
    refine own_tr st75 ?_
    show own_Gl p e below _ (T75.setTop (mkF m 215 #[.val (.long i0), .second, .val (.long i1), .second, .val (.long i2), .second, .val (.long i3), .second, .val (.long i4), .second, .val (.int i5), .val (.int rv), .val (.long ov), .second, .val (.long (i0 ^^^ (-1 : Int64))), .second, .val (.ref f), .val (.int (1 : Int32)), .val .null, .val (.ref c2), .val (.ref cm), .val (.ref c1), .val (.ref bd), .val (.ref a), .val (.ref b), .unset, .unset, .unset, .unset, .unset] [.null]))
    try clear st75
    try clear N75q
    try clear N73
    try clear X73
    refine own_st (fun tg_ kg_ => XS.astore X75.here hx rfl (hb hby at_215) rfl rfl (l' := #[.val (.long i0), .second, .val (.long i1), .second, .val (.long i2), .second, .val (.long i3), .second, .val (.long i4), .second, .val (.int i5), .val (.int rv), .val (.long ov), .second, .val (.long (i0 ^^^ (-1 : Int64))), .second, .val (.ref f), .val (.int (1 : Int32)), .val .null, .val (.ref c2), .val (.ref cm), .val (.ref c1), .val (.ref bd), .val (.ref a), .val (.ref b), .val .null, .unset, .unset, .unset, .unset]) rfl kg_) ?_
    show own_Gl p e below _ (T75.setTop (mkF m 217 #[.val (.long i0), .second, .val (.long i1), .second, .val (.long i2), .second, .val (.long i3), .second, .val (.long i4), .second, .val (.int i5), .val (.int rv), .val (.long ov), .second, .val (.long (i0 ^^^ (-1 : Int64))), .second, .val (.ref f), .val (.int (1 : Int32)), .val .null, .val (.ref c2), .val (.ref cm), .val (.ref c1), .val (.ref bd), .val (.ref a), .val (.ref b), .val .null, .unset, .unset, .unset, .unset] []))
    refine own_st (fun tg_ kg_ => XS.aload X75.here hx rfl (hb hby at_217) rfl rfl kg_) ?_
    show own_Gl p e below _ (T75.setTop (mkF m 219 #[.val (.long i0), .second, .val (.long i1), .second, .val (.long i2), .second, .val (.long i3), .second, .val (.long i4), .second, .val (.int i5), .val (.int rv), .val (.long ov), .second, .val (.long (i0 ^^^ (-1 : Int64))), .second, .val (.ref f), .val (.int (1 : Int32)), .val .null, .val (.ref c2), .val (.ref cm), .val (.ref c1), .val (.ref bd), .val (.ref a), .val (.ref b), .val .null, .unset, .unset, .unset, .unset] [.null]))
    refine own_st (fun tg_ kg_ => XT.nonnullNo X75.here hx rfl (hb hby at_219) rfl rfl kg_) ?_
    show own_Gl p e below _ (T75.setTop (mkF m 222 #[.val (.long i0), .second, .val (.long i1), .second, .val (.long i2), .second, .val (.long i3), .second, .val (.long i4), .second, .val (.int i5), .val (.int rv), .val (.long ov), .second, .val (.long (i0 ^^^ (-1 : Int64))), .second, .val (.ref f), .val (.int (1 : Int32)), .val .null, .val (.ref c2), .val (.ref cm), .val (.ref c1), .val (.ref bd), .val (.ref a), .val (.ref b), .val .null, .unset, .unset, .unset, .unset] []))
    refine own_st (fun tg_ kg_ => XS.aload X75.here hx rfl (hb hby at_222) rfl rfl kg_) ?_
    show own_Gl p e below _ (T75.setTop (mkF m 224 #[.val (.long i0), .second, .val (.long i1), .second, .val (.long i2), .second, .val (.long i3), .second, .val (.long i4), .second, .val (.int i5), .val (.int rv), .val (.long ov), .second, .val (.long (i0 ^^^ (-1 : Int64))), .second, .val (.ref f), .val (.int (1 : Int32)), .val .null, .val (.ref c2), .val (.ref cm), .val (.ref c1), .val (.ref bd), .val (.ref a), .val (.ref b), .val .null, .unset, .unset, .unset, .unset] [.null]))
    refine own_st (fun tg_ kg_ => XT.nonnullNo X75.here hx rfl (hb hby at_224) rfl rfl kg_) ?_
    show own_Gl p e below _ (T75.setTop (mkF m 227 #[.val (.long i0), .second, .val (.long i1), .second, .val (.long i2), .second, .val (.long i3), .second, .val (.long i4), .second, .val (.int i5), .val (.int rv), .val (.long ov), .second, .val (.long (i0 ^^^ (-1 : Int64))), .second, .val (.ref f), .val (.int (1 : Int32)), .val .null, .val (.ref c2), .val (.ref cm), .val (.ref c1), .val (.ref bd), .val (.ref a), .val (.ref b), .val .null, .unset, .unset, .unset, .unset] []))
    refine own_st (fun tg_ kg_ => XS.iconst X75.here hx rfl (hb hby at_227) kg_) ?_
    show own_Gl p e below _ (T75.setTop (mkF m 228 #[.val (.long i0), .second, .val (.long i1), .second, .val (.long i2), .second, .val (.long i3), .second, .val (.long i4), .second, .val (.int i5), .val (.int rv), .val (.long ov), .second, .val (.long (i0 ^^^ (-1 : Int64))), .second, .val (.ref f), .val (.int (1 : Int32)), .val .null, .val (.ref c2), .val (.ref cm), .val (.ref c1), .val (.ref bd), .val (.ref a), .val (.ref b), .val .null, .unset, .unset, .unset, .unset] [(.int (1 : Int32))]))
    refine own_st (fun tg_ kg_ => XS.goto X75.here hx rfl (pc0 := 228) (pc' := 242) rfl (hb hby at_228) (by decide) (by decide) kg_) ?_
    show own_Gl p e below _ (T75.setTop (mkF m 242 #[.val (.long i0), .second, .val (.long i1), .second, .val (.long i2), .second, .val (.long i3), .second, .val (.long i4), .second, .val (.int i5), .val (.int rv), .val (.long ov), .second, .val (.long (i0 ^^^ (-1 : Int64))), .second, .val (.ref f), .val (.int (1 : Int32)), .val .null, .val (.ref c2), .val (.ref cm), .val (.ref c1), .val (.ref bd), .val (.ref a), .val (.ref b), .val .null, .unset, .unset, .unset, .unset] [(.int (1 : Int32))]))
    refine own_st (fun tg_ kg_ => XS.istore X75.here hx rfl (hb hby at_242) rfl (l' := #[.val (.long i0), .second, .val (.long i1), .second, .val (.long i2), .second, .val (.long i3), .second, .val (.long i4), .second, .val (.int i5), .val (.int rv), .val (.long ov), .second, .val (.long (i0 ^^^ (-1 : Int64))), .second, .val (.ref f), .val (.int (1 : Int32)), .val .null, .val (.ref c2), .val (.ref cm), .val (.ref c1), .val (.ref bd), .val (.ref a), .val (.ref b), .val .null, .val (.int (1 : Int32)), .unset, .unset, .unset]) rfl kg_) ?_
    show own_Gl p e below _ (T75.setTop (mkF m 244 #[.val (.long i0), .second, .val (.long i1), .second, .val (.long i2), .second, .val (.long i3), .second, .val (.long i4), .second, .val (.int i5), .val (.int rv), .val (.long ov), .second, .val (.long (i0 ^^^ (-1 : Int64))), .second, .val (.ref f), .val (.int (1 : Int32)), .val .null, .val (.ref c2), .val (.ref cm), .val (.ref c1), .val (.ref bd), .val (.ref a), .val (.ref b), .val .null, .val (.int (1 : Int32)), .unset, .unset, .unset] []))
    refine own_st (fun tg_ kg_ => XS.aload X75.here hx rfl (hb hby at_244) rfl rfl kg_) ?_
    show own_Gl p e below _ (T75.setTop (mkF m 246 #[.val (.long i0), .second, .val (.long i1), .second, .val (.long i2), .second, .val (.long i3), .second, .val (.long i4), .second, .val (.int i5), .val (.int rv), .val (.long ov), .second, .val (.long (i0 ^^^ (-1 : Int64))), .second, .val (.ref f), .val (.int (1 : Int32)), .val .null, .val (.ref c2), .val (.ref cm), .val (.ref c1), .val (.ref bd), .val (.ref a), .val (.ref b), .val .null, .val (.int (1 : Int32)), .unset, .unset, .unset] [(.ref b)]))
    obtain ⟨cq76, kq76, q76a, q76b, q76c⟩ := isOf hZ e75 E_b
    obtain ⟨_, _, ⟨T76, L76, k76, n76⟩, -, X76, ⟨Lc76, hQ76, l76, y76, z76⟩, st76⟩ := X75.virtualBack hx (y := (⟨"com/example/highwater/highwater/store/StoredMessage", "from", "()Ljava/lang/String;"⟩ : MethodName)) (z := (⟨"com/example/highwater/highwater/store/StoredMessage", "from", "()Ljava/lang/String;"⟩ : MethodName)) hown (mvT hZ (hw _ (List.mem_of_getElem? (i := 94) rfl))) (mvT hZ (hw _ (List.mem_of_getElem? (i := 95) rfl))) (notFace_of_selects (args := #[]) (mvT hZ (hw _ (List.mem_of_getElem? (i := 97) rfl)))) (mvT hZ (hw _ (List.mem_of_getElem? (i := 97) rfl))) (mvT hZ (hw _ (List.mem_of_getElem? (i := 96) rfl))) (by decide) (backOf (W := 0) (own_rm_g_fromR l Z a0 hw [] b f T73.heap n0 (Nat.le_trans Z0 K74.1) G_from) hZ (hw _ (List.mem_of_getElem? (i := 98) rfl)) (hw _ (List.mem_of_getElem? (i := 47) rfl)) (by decide) (by decide)) q76a q76c (g := (mkF m 246 #[.val (.long i0), .second, .val (.long i1), .second, .val (.long i2), .second, .val (.long i3), .second, .val (.long i4), .second, .val (.int i5), .val (.int rv), .val (.long ov), .second, .val (.long (i0 ^^^ (-1 : Int64))), .second, .val (.ref f), .val (.int (1 : Int32)), .val .null, .val (.ref c2), .val (.ref cm), .val (.ref c1), .val (.ref bd), .val (.ref a), .val (.ref b), .val .null, .val (.int (1 : Int32)), .unset, .unset, .unset] [(.ref b)])) rfl (by rw [hml]; rfl) (Steps.refl _) (argsL := []) (rest := []) (lenOf own_pd7 rfl) rfl (by show 2 * 0 + _ ≤ _; exact Nat.le_of_eq rfl) (hb hby at_246) (fun _ _ => ⟨rfl, e75, (by decide : 12 + 0 ≤ _), (by decide : 45 + 0 ≤ _)⟩)
    dsimp only [Pt.U, Pt.locs, Pt.cells, Pt.slots] at X76 l76 y76 z76 st76 hQ76
    obtain rfl : k76 = 12 := y76
    obtain rfl : n76 = 45 := z76
    obtain ⟨rfl, N76q, e76⟩ := hQ76
    have N76 : Fr n0 L76 := by rw [l76]; exact Fr.app N75 N76q
    try clear l76
    refine own_tr st76 ?_
    show own_Gl p e below _ (T76.setTop (mkF m 249 #[.val (.long i0), .second, .val (.long i1), .second, .val (.long i2), .second, .val (.long i3), .second, .val (.long i4), .second, .val (.int i5), .val (.int rv), .val (.long ov), .second, .val (.long (i0 ^^^ (-1 : Int64))), .second, .val (.ref f), .val (.int (1 : Int32)), .val .null, .val (.ref c2), .val (.ref cm), .val (.ref c1), .val (.ref bd), .val (.ref a), .val (.ref b), .val .null, .val (.int (1 : Int32)), .unset, .unset, .unset] [(.ref f)]))
    try clear st76
    try clear N76q
    try clear N75
    try clear e75
    try clear X75
    try clear T75
    refine own_st (fun tg_ kg_ => XS.astore X76.here hx rfl (hb hby at_249) rfl rfl (l' := #[.val (.long i0), .second, .val (.long i1), .second, .val (.long i2), .second, .val (.long i3), .second, .val (.long i4), .second, .val (.int i5), .val (.int rv), .val (.long ov), .second, .val (.long (i0 ^^^ (-1 : Int64))), .second, .val (.ref f), .val (.int (1 : Int32)), .val .null, .val (.ref c2), .val (.ref cm), .val (.ref c1), .val (.ref bd), .val (.ref a), .val (.ref b), .val .null, .val (.int (1 : Int32)), .val (.ref f), .unset, .unset]) rfl kg_) ?_
    show own_Gl p e below _ (T76.setTop (mkF m 251 #[.val (.long i0), .second, .val (.long i1), .second, .val (.long i2), .second, .val (.long i3), .second, .val (.long i4), .second, .val (.int i5), .val (.int rv), .val (.long ov), .second, .val (.long (i0 ^^^ (-1 : Int64))), .second, .val (.ref f), .val (.int (1 : Int32)), .val .null, .val (.ref c2), .val (.ref cm), .val (.ref c1), .val (.ref bd), .val (.ref a), .val (.ref b), .val .null, .val (.int (1 : Int32)), .val (.ref f), .unset, .unset] []))
    refine own_st (fun tg_ kg_ => XS.aload X76.here hx rfl (hb hby at_251) rfl rfl kg_) ?_
    show own_Gl p e below _ (T76.setTop (mkF m 253 #[.val (.long i0), .second, .val (.long i1), .second, .val (.long i2), .second, .val (.long i3), .second, .val (.long i4), .second, .val (.int i5), .val (.int rv), .val (.long ov), .second, .val (.long (i0 ^^^ (-1 : Int64))), .second, .val (.ref f), .val (.int (1 : Int32)), .val .null, .val (.ref c2), .val (.ref cm), .val (.ref c1), .val (.ref bd), .val (.ref a), .val (.ref b), .val .null, .val (.int (1 : Int32)), .val (.ref f), .unset, .unset] [(.ref b)]))
    obtain ⟨cq77, kq77, q77a, q77b, q77c⟩ := isOf hZ e76 E_b
    obtain ⟨_, _, ⟨T77, L77, k77, n77⟩, -, X77, ⟨Lc77, hQ77, l77, y77, z77⟩, st77⟩ := X76.virtualBack hx (y := (⟨"com/example/highwater/highwater/store/StoredMessage", "clientMsgId", "()Ljava/lang/String;"⟩ : MethodName)) (z := (⟨"com/example/highwater/highwater/store/StoredMessage", "clientMsgId", "()Ljava/lang/String;"⟩ : MethodName)) hown (mvT hZ (hw _ (List.mem_of_getElem? (i := 99) rfl))) (mvT hZ (hw _ (List.mem_of_getElem? (i := 100) rfl))) (notFace_of_selects (args := #[]) (mvT hZ (hw _ (List.mem_of_getElem? (i := 102) rfl)))) (mvT hZ (hw _ (List.mem_of_getElem? (i := 102) rfl))) (mvT hZ (hw _ (List.mem_of_getElem? (i := 101) rfl))) (by decide) (backOf (W := 0) (own_rm_g_clientMsgIdR l Z a0 hw [] b cm T73.heap n0 (Nat.le_trans Z0 K74.1) G_clientMsgId) hZ (hw _ (List.mem_of_getElem? (i := 103) rfl)) (hw _ (List.mem_of_getElem? (i := 47) rfl)) (by decide) (by decide)) q77a q77c (g := (mkF m 253 #[.val (.long i0), .second, .val (.long i1), .second, .val (.long i2), .second, .val (.long i3), .second, .val (.long i4), .second, .val (.int i5), .val (.int rv), .val (.long ov), .second, .val (.long (i0 ^^^ (-1 : Int64))), .second, .val (.ref f), .val (.int (1 : Int32)), .val .null, .val (.ref c2), .val (.ref cm), .val (.ref c1), .val (.ref bd), .val (.ref a), .val (.ref b), .val .null, .val (.int (1 : Int32)), .val (.ref f), .unset, .unset] [(.ref b)])) rfl (by rw [hml]; rfl) (Steps.refl _) (argsL := []) (rest := []) (lenOf own_pd7 rfl) rfl (by show 2 * 0 + _ ≤ _; exact Nat.le_of_eq rfl) (hb hby at_253) (fun _ _ => ⟨rfl, e76, (by decide : 12 + 0 ≤ _), (by decide : 45 + 0 ≤ _)⟩)
    dsimp only [Pt.U, Pt.locs, Pt.cells, Pt.slots] at X77 l77 y77 z77 st77 hQ77
    obtain rfl : k77 = 12 := y77
    obtain rfl : n77 = 45 := z77
    obtain ⟨rfl, N77q, e77⟩ := hQ77
    have N77 : Fr n0 L77 := by rw [l77]; exact Fr.app N76 N77q
    try clear l77
    refine own_tr st77 ?_
    show own_Gl p e below _ (T77.setTop (mkF m 256 #[.val (.long i0), .second, .val (.long i1), .second, .val (.long i2), .second, .val (.long i3), .second, .val (.long i4), .second, .val (.int i5), .val (.int rv), .val (.long ov), .second, .val (.long (i0 ^^^ (-1 : Int64))), .second, .val (.ref f), .val (.int (1 : Int32)), .val .null, .val (.ref c2), .val (.ref cm), .val (.ref c1), .val (.ref bd), .val (.ref a), .val (.ref b), .val .null, .val (.int (1 : Int32)), .val (.ref f), .unset, .unset] [(.ref cm)]))
    try clear st77
    try clear N77q
    try clear N76
    try clear e76
    try clear X76
    try clear T76
    refine own_st (fun tg_ kg_ => XS.astore X77.here hx rfl (hb hby at_256) rfl rfl (l' := #[.val (.long i0), .second, .val (.long i1), .second, .val (.long i2), .second, .val (.long i3), .second, .val (.long i4), .second, .val (.int i5), .val (.int rv), .val (.long ov), .second, .val (.long (i0 ^^^ (-1 : Int64))), .second, .val (.ref f), .val (.int (1 : Int32)), .val .null, .val (.ref c2), .val (.ref cm), .val (.ref c1), .val (.ref bd), .val (.ref a), .val (.ref b), .val .null, .val (.int (1 : Int32)), .val (.ref f), .val (.ref cm), .unset]) rfl kg_) ?_
    show own_Gl p e below _ (T77.setTop (mkF m 258 #[.val (.long i0), .second, .val (.long i1), .second, .val (.long i2), .second, .val (.long i3), .second, .val (.long i4), .second, .val (.int i5), .val (.int rv), .val (.long ov), .second, .val (.long (i0 ^^^ (-1 : Int64))), .second, .val (.ref f), .val (.int (1 : Int32)), .val .null, .val (.ref c2), .val (.ref cm), .val (.ref c1), .val (.ref bd), .val (.ref a), .val (.ref b), .val .null, .val (.int (1 : Int32)), .val (.ref f), .val (.ref cm), .unset] []))
    refine own_st (fun tg_ kg_ => XS.aload X77.here hx rfl (hb hby at_258) rfl rfl kg_) ?_
    show own_Gl p e below _ (T77.setTop (mkF m 260 #[.val (.long i0), .second, .val (.long i1), .second, .val (.long i2), .second, .val (.long i3), .second, .val (.long i4), .second, .val (.int i5), .val (.int rv), .val (.long ov), .second, .val (.long (i0 ^^^ (-1 : Int64))), .second, .val (.ref f), .val (.int (1 : Int32)), .val .null, .val (.ref c2), .val (.ref cm), .val (.ref c1), .val (.ref bd), .val (.ref a), .val (.ref b), .val .null, .val (.int (1 : Int32)), .val (.ref f), .val (.ref cm), .unset] [(.ref b)]))
    obtain ⟨cq78, kq78, q78a, q78b, q78c⟩ := isOf hZ e77 E_b
    obtain ⟨_, _, ⟨T78, L78, k78, n78⟩, -, X78, ⟨Lc78, hQ78, l78, y78, z78⟩, st78⟩ := X77.virtualBack hx (y := (⟨"com/example/highwater/highwater/store/StoredMessage", "body", "()Ljava/lang/String;"⟩ : MethodName)) (z := (⟨"com/example/highwater/highwater/store/StoredMessage", "body", "()Ljava/lang/String;"⟩ : MethodName)) hown (mvT hZ (hw _ (List.mem_of_getElem? (i := 104) rfl))) (mvT hZ (hw _ (List.mem_of_getElem? (i := 105) rfl))) (notFace_of_selects (args := #[]) (mvT hZ (hw _ (List.mem_of_getElem? (i := 107) rfl)))) (mvT hZ (hw _ (List.mem_of_getElem? (i := 107) rfl))) (mvT hZ (hw _ (List.mem_of_getElem? (i := 106) rfl))) (by decide) (backOf (W := 0) (own_rm_g_bodyR l Z a0 hw [] b lit T73.heap n0 (Nat.le_trans Z0 K74.1) G_body) hZ (hw _ (List.mem_of_getElem? (i := 108) rfl)) (hw _ (List.mem_of_getElem? (i := 47) rfl)) (by decide) (by decide)) q78a q78c (g := (mkF m 260 #[.val (.long i0), .second, .val (.long i1), .second, .val (.long i2), .second, .val (.long i3), .second, .val (.long i4), .second, .val (.int i5), .val (.int rv), .val (.long ov), .second, .val (.long (i0 ^^^ (-1 : Int64))), .second, .val (.ref f), .val (.int (1 : Int32)), .val .null, .val (.ref c2), .val (.ref cm), .val (.ref c1), .val (.ref bd), .val (.ref a), .val (.ref b), .val .null, .val (.int (1 : Int32)), .val (.ref f), .val (.ref cm), .unset] [(.ref b)])) rfl (by rw [hml]; rfl) (Steps.refl _) (argsL := []) (rest := []) (lenOf own_pd7 rfl) rfl (by show 2 * 0 + _ ≤ _; exact Nat.le_of_eq rfl) (hb hby at_260) (fun _ _ => ⟨rfl, e77, (by decide : 12 + 0 ≤ _), (by decide : 45 + 0 ≤ _)⟩)
    dsimp only [Pt.U, Pt.locs, Pt.cells, Pt.slots] at X78 l78 y78 z78 st78 hQ78
    obtain rfl : k78 = 12 := y78
    obtain rfl : n78 = 45 := z78
    obtain ⟨rfl, N78q, e78⟩ := hQ78
    have N78 : Fr n0 L78 := by rw [l78]; exact Fr.app N77 N78q
    try clear l78
    refine own_tr st78 ?_
    show own_Gl p e below _ (T78.setTop (mkF m 263 #[.val (.long i0), .second, .val (.long i1), .second, .val (.long i2), .second, .val (.long i3), .second, .val (.long i4), .second, .val (.int i5), .val (.int rv), .val (.long ov), .second, .val (.long (i0 ^^^ (-1 : Int64))), .second, .val (.ref f), .val (.int (1 : Int32)), .val .null, .val (.ref c2), .val (.ref cm), .val (.ref c1), .val (.ref bd), .val (.ref a), .val (.ref b), .val .null, .val (.int (1 : Int32)), .val (.ref f), .val (.ref cm), .unset] [(.ref lit)]))
    try clear st78
    try clear N78q
    try clear N77
    try clear e77
    try clear X77
    try clear T77
    refine own_st (fun tg_ kg_ => XS.astore X78.here hx rfl (hb hby at_263) rfl rfl (l' := #[.val (.long i0), .second, .val (.long i1), .second, .val (.long i2), .second, .val (.long i3), .second, .val (.long i4), .second, .val (.int i5), .val (.int rv), .val (.long ov), .second, .val (.long (i0 ^^^ (-1 : Int64))), .second, .val (.ref f), .val (.int (1 : Int32)), .val .null, .val (.ref c2), .val (.ref cm), .val (.ref c1), .val (.ref bd), .val (.ref a), .val (.ref b), .val .null, .val (.int (1 : Int32)), .val (.ref f), .val (.ref cm), .val (.ref lit)]) rfl kg_) ?_
    show own_Gl p e below _ (T78.setTop (mkF m 265 #[.val (.long i0), .second, .val (.long i1), .second, .val (.long i2), .second, .val (.long i3), .second, .val (.long i4), .second, .val (.int i5), .val (.int rv), .val (.long ov), .second, .val (.long (i0 ^^^ (-1 : Int64))), .second, .val (.ref f), .val (.int (1 : Int32)), .val .null, .val (.ref c2), .val (.ref cm), .val (.ref c1), .val (.ref bd), .val (.ref a), .val (.ref b), .val .null, .val (.int (1 : Int32)), .val (.ref f), .val (.ref cm), .val (.ref lit)] []))
    refine own_st (fun tg_ kg_ => XS.aload X78.here hx rfl (hb hby at_265) rfl rfl kg_) ?_
    show own_Gl p e below _ (T78.setTop (mkF m 267 #[.val (.long i0), .second, .val (.long i1), .second, .val (.long i2), .second, .val (.long i3), .second, .val (.long i4), .second, .val (.int i5), .val (.int rv), .val (.long ov), .second, .val (.long (i0 ^^^ (-1 : Int64))), .second, .val (.ref f), .val (.int (1 : Int32)), .val .null, .val (.ref c2), .val (.ref cm), .val (.ref c1), .val (.ref bd), .val (.ref a), .val (.ref b), .val .null, .val (.int (1 : Int32)), .val (.ref f), .val (.ref cm), .val (.ref lit)] [(.ref b)]))
    obtain ⟨cq79, kq79, q79a, q79b, q79c⟩ := isOf hZ e78 E_b
    obtain ⟨_, _, ⟨T79, L79, k79, n79⟩, -, X79, ⟨Lc79, hQ79, l79, y79, z79⟩, st79⟩ := X78.virtualBack hx (y := (⟨"com/example/highwater/highwater/store/StoredMessage", "serverMsgId", "()J"⟩ : MethodName)) (z := (⟨"com/example/highwater/highwater/store/StoredMessage", "serverMsgId", "()J"⟩ : MethodName)) hown (mvT hZ (hw _ (List.mem_of_getElem? (i := 109) rfl))) (mvT hZ (hw _ (List.mem_of_getElem? (i := 110) rfl))) (notFace_of_selects (args := #[]) (mvT hZ (hw _ (List.mem_of_getElem? (i := 112) rfl)))) (mvT hZ (hw _ (List.mem_of_getElem? (i := 112) rfl))) (mvT hZ (hw _ (List.mem_of_getElem? (i := 111) rfl))) (by decide) (backOf (W := 0) (own_rm_g_serverMsgId l Z a0 hw [] b i0 T73.heap n0 (Nat.le_trans Z0 K74.1) G_serverMsgId) hZ (hw _ (List.mem_of_getElem? (i := 113) rfl)) (hw _ (List.mem_of_getElem? (i := 47) rfl)) (by decide) (by decide)) q79a q79c (g := (mkF m 267 #[.val (.long i0), .second, .val (.long i1), .second, .val (.long i2), .second, .val (.long i3), .second, .val (.long i4), .second, .val (.int i5), .val (.int rv), .val (.long ov), .second, .val (.long (i0 ^^^ (-1 : Int64))), .second, .val (.ref f), .val (.int (1 : Int32)), .val .null, .val (.ref c2), .val (.ref cm), .val (.ref c1), .val (.ref bd), .val (.ref a), .val (.ref b), .val .null, .val (.int (1 : Int32)), .val (.ref f), .val (.ref cm), .val (.ref lit)] [(.ref b)])) rfl (by rw [hml]; rfl) (Steps.refl _) (argsL := []) (rest := []) (lenOf own_pd9 rfl) rfl (by show 2 * 0 + _ ≤ _; exact Nat.le_of_eq rfl) (hb hby at_267) (fun _ _ => ⟨rfl, e78, (by decide : 12 + 0 ≤ _), (by decide : 45 + 0 ≤ _)⟩)
    dsimp only [Pt.U, Pt.locs, Pt.cells, Pt.slots] at X79 l79 y79 z79 st79 hQ79
    obtain rfl : k79 = 12 := y79
    obtain rfl : n79 = 45 := z79
    obtain ⟨rfl, N79q, e79⟩ := hQ79
    have N79 : Fr n0 L79 := by rw [l79]; exact Fr.app N78 N79q
    try clear l79
    refine own_tr st79 ?_
    show own_Gl p e below _ (T79.setTop (mkF m 270 #[.val (.long i0), .second, .val (.long i1), .second, .val (.long i2), .second, .val (.long i3), .second, .val (.long i4), .second, .val (.int i5), .val (.int rv), .val (.long ov), .second, .val (.long (i0 ^^^ (-1 : Int64))), .second, .val (.ref f), .val (.int (1 : Int32)), .val .null, .val (.ref c2), .val (.ref cm), .val (.ref c1), .val (.ref bd), .val (.ref a), .val (.ref b), .val .null, .val (.int (1 : Int32)), .val (.ref f), .val (.ref cm), .val (.ref lit)] [(.long i0)]))
    try clear st79
    try clear N79q
    try clear N78
    try clear e78
    try clear X78
    try clear T78
    refine own_st (fun tg_ kg_ => XS.lloadN X79.here hx rfl (hb hby at_270) rfl kg_) ?_
    show own_Gl p e below _ (T79.setTop (mkF m 271 #[.val (.long i0), .second, .val (.long i1), .second, .val (.long i2), .second, .val (.long i3), .second, .val (.long i4), .second, .val (.int i5), .val (.int rv), .val (.long ov), .second, .val (.long (i0 ^^^ (-1 : Int64))), .second, .val (.ref f), .val (.int (1 : Int32)), .val .null, .val (.ref c2), .val (.ref cm), .val (.ref c1), .val (.ref bd), .val (.ref a), .val (.ref b), .val .null, .val (.int (1 : Int32)), .val (.ref f), .val (.ref cm), .val (.ref lit)] [(.long i0), (.long i0)]))
    refine own_st (fun tg_ kg_ => XS.lcmp X79.here hx rfl (hb hby at_271) rfl kg_) ?_
    show own_Gl p e below _ (T79.setTop (mkF m 272 #[.val (.long i0), .second, .val (.long i1), .second, .val (.long i2), .second, .val (.long i3), .second, .val (.long i4), .second, .val (.int i5), .val (.int rv), .val (.long ov), .second, .val (.long (i0 ^^^ (-1 : Int64))), .second, .val (.ref f), .val (.int (1 : Int32)), .val .null, .val (.ref c2), .val (.ref cm), .val (.ref c1), .val (.ref bd), .val (.ref a), .val (.ref b), .val .null, .val (.int (1 : Int32)), .val (.ref f), .val (.ref cm), .val (.ref lit)] [(.int (lcmpW i0 i0))]))
    refine own_st (fun tg_ kg_ => XS.ifNo X79.here hx rfl (hb hby at_272) rfl ((if0 _ _).trans (teq ((lw_eq _ _).mpr rfl)).2) kg_) ?_
    show own_Gl p e below _ (T79.setTop (mkF m 275 #[.val (.long i0), .second, .val (.long i1), .second, .val (.long i2), .second, .val (.long i3), .second, .val (.long i4), .second, .val (.int i5), .val (.int rv), .val (.long ov), .second, .val (.long (i0 ^^^ (-1 : Int64))), .second, .val (.ref f), .val (.int (1 : Int32)), .val .null, .val (.ref c2), .val (.ref cm), .val (.ref c1), .val (.ref bd), .val (.ref a), .val (.ref b), .val .null, .val (.int (1 : Int32)), .val (.ref f), .val (.ref cm), .val (.ref lit)] []))
    refine own_st (fun tg_ kg_ => XS.aload X79.here hx rfl (hb hby at_275) rfl rfl kg_) ?_
    show own_Gl p e below _ (T79.setTop (mkF m 277 #[.val (.long i0), .second, .val (.long i1), .second, .val (.long i2), .second, .val (.long i3), .second, .val (.long i4), .second, .val (.int i5), .val (.int rv), .val (.long ov), .second, .val (.long (i0 ^^^ (-1 : Int64))), .second, .val (.ref f), .val (.int (1 : Int32)), .val .null, .val (.ref c2), .val (.ref cm), .val (.ref c1), .val (.ref bd), .val (.ref a), .val (.ref b), .val .null, .val (.int (1 : Int32)), .val (.ref f), .val (.ref cm), .val (.ref lit)] [(.ref b)]))
    obtain ⟨cq80, kq80, q80a, q80b, q80c⟩ := isOf hZ e79 E_b
    obtain ⟨_, _, ⟨T80, L80, k80, n80⟩, -, X80, ⟨Lc80, hQ80, l80, y80, z80⟩, st80⟩ := X79.virtualBack hx (y := (⟨"com/example/highwater/highwater/store/StoredMessage", "conversationId", "()J"⟩ : MethodName)) (z := (⟨"com/example/highwater/highwater/store/StoredMessage", "conversationId", "()J"⟩ : MethodName)) hown (mvT hZ (hw _ (List.mem_of_getElem? (i := 114) rfl))) (mvT hZ (hw _ (List.mem_of_getElem? (i := 115) rfl))) (notFace_of_selects (args := #[]) (mvT hZ (hw _ (List.mem_of_getElem? (i := 117) rfl)))) (mvT hZ (hw _ (List.mem_of_getElem? (i := 117) rfl))) (mvT hZ (hw _ (List.mem_of_getElem? (i := 116) rfl))) (by decide) (backOf (W := 0) (own_rm_g_conversationId l Z a0 hw [] b i1 T73.heap n0 (Nat.le_trans Z0 K74.1) G_conversationId) hZ (hw _ (List.mem_of_getElem? (i := 118) rfl)) (hw _ (List.mem_of_getElem? (i := 47) rfl)) (by decide) (by decide)) q80a q80c (g := (mkF m 277 #[.val (.long i0), .second, .val (.long i1), .second, .val (.long i2), .second, .val (.long i3), .second, .val (.long i4), .second, .val (.int i5), .val (.int rv), .val (.long ov), .second, .val (.long (i0 ^^^ (-1 : Int64))), .second, .val (.ref f), .val (.int (1 : Int32)), .val .null, .val (.ref c2), .val (.ref cm), .val (.ref c1), .val (.ref bd), .val (.ref a), .val (.ref b), .val .null, .val (.int (1 : Int32)), .val (.ref f), .val (.ref cm), .val (.ref lit)] [(.ref b)])) rfl (by rw [hml]; rfl) (Steps.refl _) (argsL := []) (rest := []) (lenOf own_pd9 rfl) rfl (by show 2 * 0 + _ ≤ _; exact Nat.le_of_eq rfl) (hb hby at_277) (fun _ _ => ⟨rfl, e79, (by decide : 12 + 0 ≤ _), (by decide : 45 + 0 ≤ _)⟩)
    dsimp only [Pt.U, Pt.locs, Pt.cells, Pt.slots] at X80 l80 y80 z80 st80 hQ80
    obtain rfl : k80 = 12 := y80
    obtain rfl : n80 = 45 := z80
    obtain ⟨rfl, N80q, e80⟩ := hQ80
    have N80 : Fr n0 L80 := by rw [l80]; exact Fr.app N79 N80q
    try clear l80
    refine own_tr st80 ?_
    show own_Gl p e below _ (T80.setTop (mkF m 280 #[.val (.long i0), .second, .val (.long i1), .second, .val (.long i2), .second, .val (.long i3), .second, .val (.long i4), .second, .val (.int i5), .val (.int rv), .val (.long ov), .second, .val (.long (i0 ^^^ (-1 : Int64))), .second, .val (.ref f), .val (.int (1 : Int32)), .val .null, .val (.ref c2), .val (.ref cm), .val (.ref c1), .val (.ref bd), .val (.ref a), .val (.ref b), .val .null, .val (.int (1 : Int32)), .val (.ref f), .val (.ref cm), .val (.ref lit)] [(.long i1)]))
    try clear st80
    try clear N80q
    try clear N79
    try clear e79
    try clear X79
    try clear T79
    refine own_st (fun tg_ kg_ => XS.lloadN X80.here hx rfl (hb hby at_280) rfl kg_) ?_
    show own_Gl p e below _ (T80.setTop (mkF m 281 #[.val (.long i0), .second, .val (.long i1), .second, .val (.long i2), .second, .val (.long i3), .second, .val (.long i4), .second, .val (.int i5), .val (.int rv), .val (.long ov), .second, .val (.long (i0 ^^^ (-1 : Int64))), .second, .val (.ref f), .val (.int (1 : Int32)), .val .null, .val (.ref c2), .val (.ref cm), .val (.ref c1), .val (.ref bd), .val (.ref a), .val (.ref b), .val .null, .val (.int (1 : Int32)), .val (.ref f), .val (.ref cm), .val (.ref lit)] [(.long i1), (.long i1)]))
    refine own_st (fun tg_ kg_ => XS.lcmp X80.here hx rfl (hb hby at_281) rfl kg_) ?_
    show own_Gl p e below _ (T80.setTop (mkF m 282 #[.val (.long i0), .second, .val (.long i1), .second, .val (.long i2), .second, .val (.long i3), .second, .val (.long i4), .second, .val (.int i5), .val (.int rv), .val (.long ov), .second, .val (.long (i0 ^^^ (-1 : Int64))), .second, .val (.ref f), .val (.int (1 : Int32)), .val .null, .val (.ref c2), .val (.ref cm), .val (.ref c1), .val (.ref bd), .val (.ref a), .val (.ref b), .val .null, .val (.int (1 : Int32)), .val (.ref f), .val (.ref cm), .val (.ref lit)] [(.int (lcmpW i1 i1))]))
    refine own_st (fun tg_ kg_ => XS.ifNo X80.here hx rfl (hb hby at_282) rfl ((if0 _ _).trans (teq ((lw_eq _ _).mpr rfl)).2) kg_) ?_
    show own_Gl p e below _ (T80.setTop (mkF m 285 #[.val (.long i0), .second, .val (.long i1), .second, .val (.long i2), .second, .val (.long i3), .second, .val (.long i4), .second, .val (.int i5), .val (.int rv), .val (.long ov), .second, .val (.long (i0 ^^^ (-1 : Int64))), .second, .val (.ref f), .val (.int (1 : Int32)), .val .null, .val (.ref c2), .val (.ref cm), .val (.ref c1), .val (.ref bd), .val (.ref a), .val (.ref b), .val .null, .val (.int (1 : Int32)), .val (.ref f), .val (.ref cm), .val (.ref lit)] []))
    refine own_st (fun tg_ kg_ => XS.aload X80.here hx rfl (hb hby at_285) rfl rfl kg_) ?_
    show own_Gl p e below _ (T80.setTop (mkF m 287 #[.val (.long i0), .second, .val (.long i1), .second, .val (.long i2), .second, .val (.long i3), .second, .val (.long i4), .second, .val (.int i5), .val (.int rv), .val (.long ov), .second, .val (.long (i0 ^^^ (-1 : Int64))), .second, .val (.ref f), .val (.int (1 : Int32)), .val .null, .val (.ref c2), .val (.ref cm), .val (.ref c1), .val (.ref bd), .val (.ref a), .val (.ref b), .val .null, .val (.int (1 : Int32)), .val (.ref f), .val (.ref cm), .val (.ref lit)] [(.ref b)]))
    obtain ⟨cq81, kq81, q81a, q81b, q81c⟩ := isOf hZ e80 E_b
    obtain ⟨_, _, ⟨T81, L81, k81, n81⟩, -, X81, ⟨Lc81, hQ81, l81, y81, z81⟩, st81⟩ := X80.virtualBack hx (y := (⟨"com/example/highwater/highwater/store/StoredMessage", "msgSeq", "()J"⟩ : MethodName)) (z := (⟨"com/example/highwater/highwater/store/StoredMessage", "msgSeq", "()J"⟩ : MethodName)) hown (mvT hZ (hw _ (List.mem_of_getElem? (i := 119) rfl))) (mvT hZ (hw _ (List.mem_of_getElem? (i := 120) rfl))) (notFace_of_selects (args := #[]) (mvT hZ (hw _ (List.mem_of_getElem? (i := 122) rfl)))) (mvT hZ (hw _ (List.mem_of_getElem? (i := 122) rfl))) (mvT hZ (hw _ (List.mem_of_getElem? (i := 121) rfl))) (by decide) (backOf (W := 0) (own_rm_g_msgSeq l Z a0 hw [] b i2 T73.heap n0 (Nat.le_trans Z0 K74.1) G_msgSeq) hZ (hw _ (List.mem_of_getElem? (i := 123) rfl)) (hw _ (List.mem_of_getElem? (i := 47) rfl)) (by decide) (by decide)) q81a q81c (g := (mkF m 287 #[.val (.long i0), .second, .val (.long i1), .second, .val (.long i2), .second, .val (.long i3), .second, .val (.long i4), .second, .val (.int i5), .val (.int rv), .val (.long ov), .second, .val (.long (i0 ^^^ (-1 : Int64))), .second, .val (.ref f), .val (.int (1 : Int32)), .val .null, .val (.ref c2), .val (.ref cm), .val (.ref c1), .val (.ref bd), .val (.ref a), .val (.ref b), .val .null, .val (.int (1 : Int32)), .val (.ref f), .val (.ref cm), .val (.ref lit)] [(.ref b)])) rfl (by rw [hml]; rfl) (Steps.refl _) (argsL := []) (rest := []) (lenOf own_pd9 rfl) rfl (by show 2 * 0 + _ ≤ _; exact Nat.le_of_eq rfl) (hb hby at_287) (fun _ _ => ⟨rfl, e80, (by decide : 12 + 0 ≤ _), (by decide : 45 + 0 ≤ _)⟩)
    dsimp only [Pt.U, Pt.locs, Pt.cells, Pt.slots] at X81 l81 y81 z81 st81 hQ81
    obtain rfl : k81 = 12 := y81
    obtain rfl : n81 = 45 := z81
    obtain ⟨rfl, N81q, e81⟩ := hQ81
    have N81 : Fr n0 L81 := by rw [l81]; exact Fr.app N80 N81q
    try clear l81
    refine own_tr st81 ?_
    show own_Gl p e below _ (T81.setTop (mkF m 290 #[.val (.long i0), .second, .val (.long i1), .second, .val (.long i2), .second, .val (.long i3), .second, .val (.long i4), .second, .val (.int i5), .val (.int rv), .val (.long ov), .second, .val (.long (i0 ^^^ (-1 : Int64))), .second, .val (.ref f), .val (.int (1 : Int32)), .val .null, .val (.ref c2), .val (.ref cm), .val (.ref c1), .val (.ref bd), .val (.ref a), .val (.ref b), .val .null, .val (.int (1 : Int32)), .val (.ref f), .val (.ref cm), .val (.ref lit)] [(.long i2)]))
    try clear st81
    try clear N81q
    try clear N80
    try clear e80
    try clear X80
    try clear T80
    refine own_st (fun tg_ kg_ => XS.lload X81.here hx rfl (hb hby at_290) rfl kg_) ?_
    show own_Gl p e below _ (T81.setTop (mkF m 292 #[.val (.long i0), .second, .val (.long i1), .second, .val (.long i2), .second, .val (.long i3), .second, .val (.long i4), .second, .val (.int i5), .val (.int rv), .val (.long ov), .second, .val (.long (i0 ^^^ (-1 : Int64))), .second, .val (.ref f), .val (.int (1 : Int32)), .val .null, .val (.ref c2), .val (.ref cm), .val (.ref c1), .val (.ref bd), .val (.ref a), .val (.ref b), .val .null, .val (.int (1 : Int32)), .val (.ref f), .val (.ref cm), .val (.ref lit)] [(.long i2), (.long i2)]))
    refine own_st (fun tg_ kg_ => XS.lcmp X81.here hx rfl (hb hby at_292) rfl kg_) ?_
    show own_Gl p e below _ (T81.setTop (mkF m 293 #[.val (.long i0), .second, .val (.long i1), .second, .val (.long i2), .second, .val (.long i3), .second, .val (.long i4), .second, .val (.int i5), .val (.int rv), .val (.long ov), .second, .val (.long (i0 ^^^ (-1 : Int64))), .second, .val (.ref f), .val (.int (1 : Int32)), .val .null, .val (.ref c2), .val (.ref cm), .val (.ref c1), .val (.ref bd), .val (.ref a), .val (.ref b), .val .null, .val (.int (1 : Int32)), .val (.ref f), .val (.ref cm), .val (.ref lit)] [(.int (lcmpW i2 i2))]))
    refine own_st (fun tg_ kg_ => XS.ifNo X81.here hx rfl (hb hby at_293) rfl ((if0 _ _).trans (teq ((lw_eq _ _).mpr rfl)).2) kg_) ?_
    show own_Gl p e below _ (T81.setTop (mkF m 296 #[.val (.long i0), .second, .val (.long i1), .second, .val (.long i2), .second, .val (.long i3), .second, .val (.long i4), .second, .val (.int i5), .val (.int rv), .val (.long ov), .second, .val (.long (i0 ^^^ (-1 : Int64))), .second, .val (.ref f), .val (.int (1 : Int32)), .val .null, .val (.ref c2), .val (.ref cm), .val (.ref c1), .val (.ref bd), .val (.ref a), .val (.ref b), .val .null, .val (.int (1 : Int32)), .val (.ref f), .val (.ref cm), .val (.ref lit)] []))
    refine own_st (fun tg_ kg_ => XS.aload X81.here hx rfl (hb hby at_296) rfl rfl kg_) ?_
    show own_Gl p e below _ (T81.setTop (mkF m 298 #[.val (.long i0), .second, .val (.long i1), .second, .val (.long i2), .second, .val (.long i3), .second, .val (.long i4), .second, .val (.int i5), .val (.int rv), .val (.long ov), .second, .val (.long (i0 ^^^ (-1 : Int64))), .second, .val (.ref f), .val (.int (1 : Int32)), .val .null, .val (.ref c2), .val (.ref cm), .val (.ref c1), .val (.ref bd), .val (.ref a), .val (.ref b), .val .null, .val (.int (1 : Int32)), .val (.ref f), .val (.ref cm), .val (.ref lit)] [(.ref f)]))
    refine own_st (fun tg_ kg_ => XT.nullNo X81.here hx rfl (hb hby at_298) rfl rfl nofun kg_) ?_
    show own_Gl p e below _ (T81.setTop (mkF m 301 #[.val (.long i0), .second, .val (.long i1), .second, .val (.long i2), .second, .val (.long i3), .second, .val (.long i4), .second, .val (.int i5), .val (.int rv), .val (.long ov), .second, .val (.long (i0 ^^^ (-1 : Int64))), .second, .val (.ref f), .val (.int (1 : Int32)), .val .null, .val (.ref c2), .val (.ref cm), .val (.ref c1), .val (.ref bd), .val (.ref a), .val (.ref b), .val .null, .val (.int (1 : Int32)), .val (.ref f), .val (.ref cm), .val (.ref lit)] []))
    refine own_st (fun tg_ kg_ => XS.aload X81.here hx rfl (hb hby at_301) rfl rfl kg_) ?_
    show own_Gl p e below _ (T81.setTop (mkF m 303 #[.val (.long i0), .second, .val (.long i1), .second, .val (.long i2), .second, .val (.long i3), .second, .val (.long i4), .second, .val (.int i5), .val (.int rv), .val (.long ov), .second, .val (.long (i0 ^^^ (-1 : Int64))), .second, .val (.ref f), .val (.int (1 : Int32)), .val .null, .val (.ref c2), .val (.ref cm), .val (.ref c1), .val (.ref bd), .val (.ref a), .val (.ref b), .val .null, .val (.int (1 : Int32)), .val (.ref f), .val (.ref cm), .val (.ref lit)] [(.ref f)]))
    refine own_st (fun tg_ kg_ => XS.aload X81.here hx rfl (hb hby at_303) rfl rfl kg_) ?_
    show own_Gl p e below _ (T81.setTop (mkF m 305 #[.val (.long i0), .second, .val (.long i1), .second, .val (.long i2), .second, .val (.long i3), .second, .val (.long i4), .second, .val (.int i5), .val (.int rv), .val (.long ov), .second, .val (.long (i0 ^^^ (-1 : Int64))), .second, .val (.ref f), .val (.int (1 : Int32)), .val .null, .val (.ref c2), .val (.ref cm), .val (.ref c1), .val (.ref bd), .val (.ref a), .val (.ref b), .val .null, .val (.int (1 : Int32)), .val (.ref f), .val (.ref cm), .val (.ref lit)] [(.ref f), (.ref f)]))
    obtain ⟨cq82, kq82, q82a, q82b, q82c⟩ := isOf hZ e81 E_f
    obtain ⟨_, _, ⟨T82, L82, k82, n82⟩, -, X82, ⟨Lc82, hQ82, l82, y82, z82⟩, st82⟩ := X81.virtualBack hx (y := (⟨"java/lang/String", "equals", "(Ljava/lang/Object;)Z"⟩ : MethodName)) (z := (⟨"java/lang/String", "equals", "(Ljava/lang/Object;)Z"⟩ : MethodName)) hown (mvT hZ (hw _ (List.mem_of_getElem? (i := 89) rfl))) (mvT hZ (hw _ (List.mem_of_getElem? (i := 90) rfl))) (notFace_of_selects (args := #[]) (mvT hZ (hw _ (List.mem_of_getElem? (i := 92) rfl)))) (mvT hZ (hw _ (List.mem_of_getElem? (i := 92) rfl))) (mvT hZ (hw _ (List.mem_of_getElem? (i := 91) rfl))) (by decide) (backOf (W := 0) (own_rm_eqs l Z a0 hw [] f T73.heap n0 (Nat.le_trans Z0 K74.1)) hZ (hw _ (List.mem_of_getElem? (i := 93) rfl)) (hw _ (List.mem_of_getElem? (i := 3) rfl)) (by decide) (by decide)) q82a q82c (g := (mkF m 305 #[.val (.long i0), .second, .val (.long i1), .second, .val (.long i2), .second, .val (.long i3), .second, .val (.long i4), .second, .val (.int i5), .val (.int rv), .val (.long ov), .second, .val (.long (i0 ^^^ (-1 : Int64))), .second, .val (.ref f), .val (.int (1 : Int32)), .val .null, .val (.ref c2), .val (.ref cm), .val (.ref c1), .val (.ref bd), .val (.ref a), .val (.ref b), .val .null, .val (.int (1 : Int32)), .val (.ref f), .val (.ref cm), .val (.ref lit)] [(.ref f), (.ref f)])) rfl (by rw [hml]; rfl) (Steps.refl _) (argsL := [(.ref f)]) (rest := []) (lenOf own_pd8 rfl) rfl (by show 2 * 0 + _ ≤ _; exact Nat.le_of_eq rfl) (hb hby at_305) (fun _ _ => ⟨rfl, e81, (by decide : 12 + 0 ≤ _), (by decide : 45 + 0 ≤ _)⟩)
    dsimp only [Pt.U, Pt.locs, Pt.cells, Pt.slots] at X82 l82 y82 z82 st82 hQ82
    obtain rfl : k82 = 12 := y82
    obtain rfl : n82 = 45 := z82
    obtain ⟨rfl, N82q, e82⟩ := hQ82
    have N82 : Fr n0 L82 := by rw [l82]; exact Fr.app N81 N82q
    try clear l82
    refine own_tr st82 ?_
    show own_Gl p e below _ (T82.setTop (mkF m 308 #[.val (.long i0), .second, .val (.long i1), .second, .val (.long i2), .second, .val (.long i3), .second, .val (.long i4), .second, .val (.int i5), .val (.int rv), .val (.long ov), .second, .val (.long (i0 ^^^ (-1 : Int64))), .second, .val (.ref f), .val (.int (1 : Int32)), .val .null, .val (.ref c2), .val (.ref cm), .val (.ref c1), .val (.ref bd), .val (.ref a), .val (.ref b), .val .null, .val (.int (1 : Int32)), .val (.ref f), .val (.ref cm), .val (.ref lit)] [(.int (1 : Int32))]))
    try clear st82
    try clear N82q
    try clear N81
    try clear e81
    try clear X81
    try clear T81
    refine own_st (fun tg_ kg_ => XS.ifNo X82.here hx rfl (hb hby at_308) rfl ((if0 _ _).trans (feq ((by decide : ¬ ((1 : Int32) = (0 : Int32))))).1) kg_) ?_
    show own_Gl p e below _ (T82.setTop (mkF m 311 #[.val (.long i0), .second, .val (.long i1), .second, .val (.long i2), .second, .val (.long i3), .second, .val (.long i4), .second, .val (.int i5), .val (.int rv), .val (.long ov), .second, .val (.long (i0 ^^^ (-1 : Int64))), .second, .val (.ref f), .val (.int (1 : Int32)), .val .null, .val (.ref c2), .val (.ref cm), .val (.ref c1), .val (.ref bd), .val (.ref a), .val (.ref b), .val .null, .val (.int (1 : Int32)), .val (.ref f), .val (.ref cm), .val (.ref lit)] []))
    refine own_st (fun tg_ kg_ => XS.iload X82.here hx rfl (hb hby at_311) rfl kg_) ?_
    show own_Gl p e below _ (T82.setTop (mkF m 313 #[.val (.long i0), .second, .val (.long i1), .second, .val (.long i2), .second, .val (.long i3), .second, .val (.long i4), .second, .val (.int i5), .val (.int rv), .val (.long ov), .second, .val (.long (i0 ^^^ (-1 : Int64))), .second, .val (.ref f), .val (.int (1 : Int32)), .val .null, .val (.ref c2), .val (.ref cm), .val (.ref c1), .val (.ref bd), .val (.ref a), .val (.ref b), .val .null, .val (.int (1 : Int32)), .val (.ref f), .val (.ref cm), .val (.ref lit)] [(.int (1 : Int32))]))
    refine own_st (fun tg_ kg_ => XS.ifNo X82.here hx rfl (hb hby at_313) rfl ((if0 _ _).trans (feq ((by decide : ¬ ((1 : Int32) = (0 : Int32))))).1) kg_) ?_
    show own_Gl p e below _ (T82.setTop (mkF m 316 #[.val (.long i0), .second, .val (.long i1), .second, .val (.long i2), .second, .val (.long i3), .second, .val (.long i4), .second, .val (.int i5), .val (.int rv), .val (.long ov), .second, .val (.long (i0 ^^^ (-1 : Int64))), .second, .val (.ref f), .val (.int (1 : Int32)), .val .null, .val (.ref c2), .val (.ref cm), .val (.ref c1), .val (.ref bd), .val (.ref a), .val (.ref b), .val .null, .val (.int (1 : Int32)), .val (.ref f), .val (.ref cm), .val (.ref lit)] []))
    refine own_st (fun tg_ kg_ => XS.aload X82.here hx rfl (hb hby at_316) rfl rfl kg_) ?_
    show own_Gl p e below _ (T82.setTop (mkF m 318 #[.val (.long i0), .second, .val (.long i1), .second, .val (.long i2), .second, .val (.long i3), .second, .val (.long i4), .second, .val (.int i5), .val (.int rv), .val (.long ov), .second, .val (.long (i0 ^^^ (-1 : Int64))), .second, .val (.ref f), .val (.int (1 : Int32)), .val .null, .val (.ref c2), .val (.ref cm), .val (.ref c1), .val (.ref bd), .val (.ref a), .val (.ref b), .val .null, .val (.int (1 : Int32)), .val (.ref f), .val (.ref cm), .val (.ref lit)] [(.ref b)]))
    obtain ⟨cq83, kq83, q83a, q83b, q83c⟩ := isOf hZ e82 E_b
    obtain ⟨_, _, ⟨T83, L83, k83, n83⟩, -, X83, ⟨Lc83, hQ83, l83, y83, z83⟩, st83⟩ := X82.virtualBack hx (y := (⟨"com/example/highwater/highwater/store/StoredMessage", "groupId", "()J"⟩ : MethodName)) (z := (⟨"com/example/highwater/highwater/store/StoredMessage", "groupId", "()J"⟩ : MethodName)) hown (mvT hZ (hw _ (List.mem_of_getElem? (i := 124) rfl))) (mvT hZ (hw _ (List.mem_of_getElem? (i := 125) rfl))) (notFace_of_selects (args := #[]) (mvT hZ (hw _ (List.mem_of_getElem? (i := 127) rfl)))) (mvT hZ (hw _ (List.mem_of_getElem? (i := 127) rfl))) (mvT hZ (hw _ (List.mem_of_getElem? (i := 126) rfl))) (by decide) (backOf (W := 0) (own_rm_g_groupId l Z a0 hw [] b i3 T73.heap n0 (Nat.le_trans Z0 K74.1) G_groupId) hZ (hw _ (List.mem_of_getElem? (i := 128) rfl)) (hw _ (List.mem_of_getElem? (i := 47) rfl)) (by decide) (by decide)) q83a q83c (g := (mkF m 318 #[.val (.long i0), .second, .val (.long i1), .second, .val (.long i2), .second, .val (.long i3), .second, .val (.long i4), .second, .val (.int i5), .val (.int rv), .val (.long ov), .second, .val (.long (i0 ^^^ (-1 : Int64))), .second, .val (.ref f), .val (.int (1 : Int32)), .val .null, .val (.ref c2), .val (.ref cm), .val (.ref c1), .val (.ref bd), .val (.ref a), .val (.ref b), .val .null, .val (.int (1 : Int32)), .val (.ref f), .val (.ref cm), .val (.ref lit)] [(.ref b)])) rfl (by rw [hml]; rfl) (Steps.refl _) (argsL := []) (rest := []) (lenOf own_pd9 rfl) rfl (by show 2 * 0 + _ ≤ _; exact Nat.le_of_eq rfl) (hb hby at_318) (fun _ _ => ⟨rfl, e82, (by decide : 12 + 0 ≤ _), (by decide : 45 + 0 ≤ _)⟩)
    dsimp only [Pt.U, Pt.locs, Pt.cells, Pt.slots] at X83 l83 y83 z83 st83 hQ83
    obtain rfl : k83 = 12 := y83
    obtain rfl : n83 = 45 := z83
    obtain ⟨rfl, N83q, e83⟩ := hQ83
    have N83 : Fr n0 L83 := by rw [l83]; exact Fr.app N82 N83q
    try clear l83
    refine own_tr st83 ?_
    show own_Gl p e below _ (T83.setTop (mkF m 321 #[.val (.long i0), .second, .val (.long i1), .second, .val (.long i2), .second, .val (.long i3), .second, .val (.long i4), .second, .val (.int i5), .val (.int rv), .val (.long ov), .second, .val (.long (i0 ^^^ (-1 : Int64))), .second, .val (.ref f), .val (.int (1 : Int32)), .val .null, .val (.ref c2), .val (.ref cm), .val (.ref c1), .val (.ref bd), .val (.ref a), .val (.ref b), .val .null, .val (.int (1 : Int32)), .val (.ref f), .val (.ref cm), .val (.ref lit)] [(.long i3)]))
    try clear st83
    try clear N83q
    try clear N82
    try clear e82
    try clear X82
    try clear T82
    refine own_st (fun tg_ kg_ => XS.lload X83.here hx rfl (hb hby at_321) rfl kg_) ?_
    show own_Gl p e below _ (T83.setTop (mkF m 323 #[.val (.long i0), .second, .val (.long i1), .second, .val (.long i2), .second, .val (.long i3), .second, .val (.long i4), .second, .val (.int i5), .val (.int rv), .val (.long ov), .second, .val (.long (i0 ^^^ (-1 : Int64))), .second, .val (.ref f), .val (.int (1 : Int32)), .val .null, .val (.ref c2), .val (.ref cm), .val (.ref c1), .val (.ref bd), .val (.ref a), .val (.ref b), .val .null, .val (.int (1 : Int32)), .val (.ref f), .val (.ref cm), .val (.ref lit)] [(.long i3), (.long i3)]))
    refine own_st (fun tg_ kg_ => XS.lcmp X83.here hx rfl (hb hby at_323) rfl kg_) ?_
    show own_Gl p e below _ (T83.setTop (mkF m 324 #[.val (.long i0), .second, .val (.long i1), .second, .val (.long i2), .second, .val (.long i3), .second, .val (.long i4), .second, .val (.int i5), .val (.int rv), .val (.long ov), .second, .val (.long (i0 ^^^ (-1 : Int64))), .second, .val (.ref f), .val (.int (1 : Int32)), .val .null, .val (.ref c2), .val (.ref cm), .val (.ref c1), .val (.ref bd), .val (.ref a), .val (.ref b), .val .null, .val (.int (1 : Int32)), .val (.ref f), .val (.ref cm), .val (.ref lit)] [(.int (lcmpW i3 i3))]))
    refine own_st (fun tg_ kg_ => XS.ifNo X83.here hx rfl (hb hby at_324) rfl ((if0 _ _).trans (teq ((lw_eq _ _).mpr rfl)).2) kg_) ?_
    show own_Gl p e below _ (T83.setTop (mkF m 327 #[.val (.long i0), .second, .val (.long i1), .second, .val (.long i2), .second, .val (.long i3), .second, .val (.long i4), .second, .val (.int i5), .val (.int rv), .val (.long ov), .second, .val (.long (i0 ^^^ (-1 : Int64))), .second, .val (.ref f), .val (.int (1 : Int32)), .val .null, .val (.ref c2), .val (.ref cm), .val (.ref c1), .val (.ref bd), .val (.ref a), .val (.ref b), .val .null, .val (.int (1 : Int32)), .val (.ref f), .val (.ref cm), .val (.ref lit)] []))
    refine own_st (fun tg_ kg_ => XS.aload X83.here hx rfl (hb hby at_327) rfl rfl kg_) ?_
    show own_Gl p e below _ (T83.setTop (mkF m 329 #[.val (.long i0), .second, .val (.long i1), .second, .val (.long i2), .second, .val (.long i3), .second, .val (.long i4), .second, .val (.int i5), .val (.int rv), .val (.long ov), .second, .val (.long (i0 ^^^ (-1 : Int64))), .second, .val (.ref f), .val (.int (1 : Int32)), .val .null, .val (.ref c2), .val (.ref cm), .val (.ref c1), .val (.ref bd), .val (.ref a), .val (.ref b), .val .null, .val (.int (1 : Int32)), .val (.ref f), .val (.ref cm), .val (.ref lit)] [(.ref cm)]))
    refine own_st (fun tg_ kg_ => XT.nullNo X83.here hx rfl (hb hby at_329) rfl rfl nofun kg_) ?_
    show own_Gl p e below _ (T83.setTop (mkF m 332 #[.val (.long i0), .second, .val (.long i1), .second, .val (.long i2), .second, .val (.long i3), .second, .val (.long i4), .second, .val (.int i5), .val (.int rv), .val (.long ov), .second, .val (.long (i0 ^^^ (-1 : Int64))), .second, .val (.ref f), .val (.int (1 : Int32)), .val .null, .val (.ref c2), .val (.ref cm), .val (.ref c1), .val (.ref bd), .val (.ref a), .val (.ref b), .val .null, .val (.int (1 : Int32)), .val (.ref f), .val (.ref cm), .val (.ref lit)] []))
    refine own_st (fun tg_ kg_ => XS.aload X83.here hx rfl (hb hby at_332) rfl rfl kg_) ?_
    show own_Gl p e below _ (T83.setTop (mkF m 334 #[.val (.long i0), .second, .val (.long i1), .second, .val (.long i2), .second, .val (.long i3), .second, .val (.long i4), .second, .val (.int i5), .val (.int rv), .val (.long ov), .second, .val (.long (i0 ^^^ (-1 : Int64))), .second, .val (.ref f), .val (.int (1 : Int32)), .val .null, .val (.ref c2), .val (.ref cm), .val (.ref c1), .val (.ref bd), .val (.ref a), .val (.ref b), .val .null, .val (.int (1 : Int32)), .val (.ref f), .val (.ref cm), .val (.ref lit)] [(.ref cm)]))
    refine own_st (fun tg_ kg_ => XS.aload X83.here hx rfl (hb hby at_334) rfl rfl kg_) ?_
    show own_Gl p e below _ (T83.setTop (mkF m 336 #[.val (.long i0), .second, .val (.long i1), .second, .val (.long i2), .second, .val (.long i3), .second, .val (.long i4), .second, .val (.int i5), .val (.int rv), .val (.long ov), .second, .val (.long (i0 ^^^ (-1 : Int64))), .second, .val (.ref f), .val (.int (1 : Int32)), .val .null, .val (.ref c2), .val (.ref cm), .val (.ref c1), .val (.ref bd), .val (.ref a), .val (.ref b), .val .null, .val (.int (1 : Int32)), .val (.ref f), .val (.ref cm), .val (.ref lit)] [(.ref cm), (.ref cm)]))
    obtain ⟨cq84, kq84, q84a, q84b, q84c⟩ := isOf hZ e83 E_cm
    obtain ⟨_, _, ⟨T84, L84, k84, n84⟩, -, X84, ⟨Lc84, hQ84, l84, y84, z84⟩, st84⟩ := X83.virtualBack hx (y := (⟨"java/lang/String", "equals", "(Ljava/lang/Object;)Z"⟩ : MethodName)) (z := (⟨"java/lang/String", "equals", "(Ljava/lang/Object;)Z"⟩ : MethodName)) hown (mvT hZ (hw _ (List.mem_of_getElem? (i := 89) rfl))) (mvT hZ (hw _ (List.mem_of_getElem? (i := 90) rfl))) (notFace_of_selects (args := #[]) (mvT hZ (hw _ (List.mem_of_getElem? (i := 92) rfl)))) (mvT hZ (hw _ (List.mem_of_getElem? (i := 92) rfl))) (mvT hZ (hw _ (List.mem_of_getElem? (i := 91) rfl))) (by decide) (backOf (W := 0) (own_rm_eqs l Z a0 hw [] cm T73.heap n0 (Nat.le_trans Z0 K74.1)) hZ (hw _ (List.mem_of_getElem? (i := 93) rfl)) (hw _ (List.mem_of_getElem? (i := 3) rfl)) (by decide) (by decide)) q84a q84c (g := (mkF m 336 #[.val (.long i0), .second, .val (.long i1), .second, .val (.long i2), .second, .val (.long i3), .second, .val (.long i4), .second, .val (.int i5), .val (.int rv), .val (.long ov), .second, .val (.long (i0 ^^^ (-1 : Int64))), .second, .val (.ref f), .val (.int (1 : Int32)), .val .null, .val (.ref c2), .val (.ref cm), .val (.ref c1), .val (.ref bd), .val (.ref a), .val (.ref b), .val .null, .val (.int (1 : Int32)), .val (.ref f), .val (.ref cm), .val (.ref lit)] [(.ref cm), (.ref cm)])) rfl (by rw [hml]; rfl) (Steps.refl _) (argsL := [(.ref cm)]) (rest := []) (lenOf own_pd8 rfl) rfl (by show 2 * 0 + _ ≤ _; exact Nat.le_of_eq rfl) (hb hby at_336) (fun _ _ => ⟨rfl, e83, (by decide : 12 + 0 ≤ _), (by decide : 45 + 0 ≤ _)⟩)
    dsimp only [Pt.U, Pt.locs, Pt.cells, Pt.slots] at X84 l84 y84 z84 st84 hQ84
    obtain rfl : k84 = 12 := y84
    obtain rfl : n84 = 45 := z84
    obtain ⟨rfl, N84q, e84⟩ := hQ84
    have N84 : Fr n0 L84 := by rw [l84]; exact Fr.app N83 N84q
    try clear l84
    refine own_tr st84 ?_
    show own_Gl p e below _ (T84.setTop (mkF m 339 #[.val (.long i0), .second, .val (.long i1), .second, .val (.long i2), .second, .val (.long i3), .second, .val (.long i4), .second, .val (.int i5), .val (.int rv), .val (.long ov), .second, .val (.long (i0 ^^^ (-1 : Int64))), .second, .val (.ref f), .val (.int (1 : Int32)), .val .null, .val (.ref c2), .val (.ref cm), .val (.ref c1), .val (.ref bd), .val (.ref a), .val (.ref b), .val .null, .val (.int (1 : Int32)), .val (.ref f), .val (.ref cm), .val (.ref lit)] [(.int (1 : Int32))]))
    try clear st84
    try clear N84q
    try clear N83
    try clear e83
    try clear X83
    try clear T83
    refine own_st (fun tg_ kg_ => XS.ifNo X84.here hx rfl (hb hby at_339) rfl ((if0 _ _).trans (feq ((by decide : ¬ ((1 : Int32) = (0 : Int32))))).1) kg_) ?_
    show own_Gl p e below _ (T84.setTop (mkF m 342 #[.val (.long i0), .second, .val (.long i1), .second, .val (.long i2), .second, .val (.long i3), .second, .val (.long i4), .second, .val (.int i5), .val (.int rv), .val (.long ov), .second, .val (.long (i0 ^^^ (-1 : Int64))), .second, .val (.ref f), .val (.int (1 : Int32)), .val .null, .val (.ref c2), .val (.ref cm), .val (.ref c1), .val (.ref bd), .val (.ref a), .val (.ref b), .val .null, .val (.int (1 : Int32)), .val (.ref f), .val (.ref cm), .val (.ref lit)] []))
    refine own_st (fun tg_ kg_ => XS.aload X84.here hx rfl (hb hby at_342) rfl rfl kg_) ?_
    show own_Gl p e below _ (T84.setTop (mkF m 344 #[.val (.long i0), .second, .val (.long i1), .second, .val (.long i2), .second, .val (.long i3), .second, .val (.long i4), .second, .val (.int i5), .val (.int rv), .val (.long ov), .second, .val (.long (i0 ^^^ (-1 : Int64))), .second, .val (.ref f), .val (.int (1 : Int32)), .val .null, .val (.ref c2), .val (.ref cm), .val (.ref c1), .val (.ref bd), .val (.ref a), .val (.ref b), .val .null, .val (.int (1 : Int32)), .val (.ref f), .val (.ref cm), .val (.ref lit)] [(.ref lit)]))
    refine own_st (fun tg_ kg_ => XT.nullNo X84.here hx rfl (hb hby at_344) rfl rfl nofun kg_) ?_
    show own_Gl p e below _ (T84.setTop (mkF m 347 #[.val (.long i0), .second, .val (.long i1), .second, .val (.long i2), .second, .val (.long i3), .second, .val (.long i4), .second, .val (.int i5), .val (.int rv), .val (.long ov), .second, .val (.long (i0 ^^^ (-1 : Int64))), .second, .val (.ref f), .val (.int (1 : Int32)), .val .null, .val (.ref c2), .val (.ref cm), .val (.ref c1), .val (.ref bd), .val (.ref a), .val (.ref b), .val .null, .val (.int (1 : Int32)), .val (.ref f), .val (.ref cm), .val (.ref lit)] []))
    refine own_st (fun tg_ kg_ => XS.aload X84.here hx rfl (hb hby at_347) rfl rfl kg_) ?_
    show own_Gl p e below _ (T84.setTop (mkF m 349 #[.val (.long i0), .second, .val (.long i1), .second, .val (.long i2), .second, .val (.long i3), .second, .val (.long i4), .second, .val (.int i5), .val (.int rv), .val (.long ov), .second, .val (.long (i0 ^^^ (-1 : Int64))), .second, .val (.ref f), .val (.int (1 : Int32)), .val .null, .val (.ref c2), .val (.ref cm), .val (.ref c1), .val (.ref bd), .val (.ref a), .val (.ref b), .val .null, .val (.int (1 : Int32)), .val (.ref f), .val (.ref cm), .val (.ref lit)] [(.ref lit)]))
    obtain ⟨cq85, kq85, q85a, q85b, q85c⟩ := isOf hZ e84 E_lit
    obtain ⟨_, _, ⟨T85, L85, k85, n85⟩, -, X85, ⟨Lc85, hQ85, l85, y85, z85⟩, st85⟩ := X84.virtualBack hx (y := (⟨"java/lang/String", "isEmpty", "()Z"⟩ : MethodName)) (z := (⟨"java/lang/String", "isEmpty", "()Z"⟩ : MethodName)) hown (mvT hZ (hw _ (List.mem_of_getElem? (i := 129) rfl))) (mvT hZ (hw _ (List.mem_of_getElem? (i := 130) rfl))) (notFace_of_selects (args := #[]) (mvT hZ (hw _ (List.mem_of_getElem? (i := 132) rfl)))) (mvT hZ (hw _ (List.mem_of_getElem? (i := 132) rfl))) (mvT hZ (hw _ (List.mem_of_getElem? (i := 131) rfl))) (by decide) (backOf (W := 0) (own_rm_emp l Z a0 hw [] lit t kt T73.heap n0 (Nat.le_trans Z0 K74.1) Fv_lit V_t) hZ (hw _ (List.mem_of_getElem? (i := 133) rfl)) (hw _ (List.mem_of_getElem? (i := 3) rfl)) (by decide) (by decide)) q85a q85c (g := (mkF m 349 #[.val (.long i0), .second, .val (.long i1), .second, .val (.long i2), .second, .val (.long i3), .second, .val (.long i4), .second, .val (.int i5), .val (.int rv), .val (.long ov), .second, .val (.long (i0 ^^^ (-1 : Int64))), .second, .val (.ref f), .val (.int (1 : Int32)), .val .null, .val (.ref c2), .val (.ref cm), .val (.ref c1), .val (.ref bd), .val (.ref a), .val (.ref b), .val .null, .val (.int (1 : Int32)), .val (.ref f), .val (.ref cm), .val (.ref lit)] [(.ref lit)])) rfl (by rw [hml]; rfl) (Steps.refl _) (argsL := []) (rest := []) (lenOf own_pd10 rfl) rfl (by show 2 * 0 + _ ≤ _; exact Nat.le_of_eq rfl) (hb hby at_349) (fun _ _ => ⟨rfl, e84, (by decide : 12 + 0 ≤ _), (by decide : 45 + 0 ≤ _)⟩)
    dsimp only [Pt.U, Pt.locs, Pt.cells, Pt.slots] at X85 l85 y85 z85 st85 hQ85
    obtain rfl : k85 = 12 := y85
    obtain rfl : n85 = 45 := z85
    obtain ⟨rfl, N85q, e85⟩ := hQ85
    have N85 : Fr n0 L85 := by rw [l85]; exact Fr.app N84 N85q
    try clear l85
    refine own_tr st85 ?_
    show own_Gl p e below _ (T85.setTop (mkF m 352 #[.val (.long i0), .second, .val (.long i1), .second, .val (.long i2), .second, .val (.long i3), .second, .val (.long i4), .second, .val (.int i5), .val (.int rv), .val (.long ov), .second, .val (.long (i0 ^^^ (-1 : Int64))), .second, .val (.ref f), .val (.int (1 : Int32)), .val .null, .val (.ref c2), .val (.ref cm), .val (.ref c1), .val (.ref bd), .val (.ref a), .val (.ref b), .val .null, .val (.int (1 : Int32)), .val (.ref f), .val (.ref cm), .val (.ref lit)] [(.int (1 : Int32))]))
    try clear st85
    try clear N85q
    try clear N84
    try clear e84
    try clear X84
    try clear T84
    refine own_st (fun tg_ kg_ => XS.ifNo X85.here hx rfl (hb hby at_352) rfl ((if0 _ _).trans (feq ((by decide : ¬ ((1 : Int32) = (0 : Int32))))).1) kg_) ?_
    show own_Gl p e below _ (T85.setTop (mkF m 355 #[.val (.long i0), .second, .val (.long i1), .second, .val (.long i2), .second, .val (.long i3), .second, .val (.long i4), .second, .val (.int i5), .val (.int rv), .val (.long ov), .second, .val (.long (i0 ^^^ (-1 : Int64))), .second, .val (.ref f), .val (.int (1 : Int32)), .val .null, .val (.ref c2), .val (.ref cm), .val (.ref c1), .val (.ref bd), .val (.ref a), .val (.ref b), .val .null, .val (.int (1 : Int32)), .val (.ref f), .val (.ref cm), .val (.ref lit)] []))
    refine own_st (fun tg_ kg_ => XS.aload X85.here hx rfl (hb hby at_355) rfl rfl kg_) ?_
    show own_Gl p e below _ (T85.setTop (mkF m 357 #[.val (.long i0), .second, .val (.long i1), .second, .val (.long i2), .second, .val (.long i3), .second, .val (.long i4), .second, .val (.int i5), .val (.int rv), .val (.long ov), .second, .val (.long (i0 ^^^ (-1 : Int64))), .second, .val (.ref f), .val (.int (1 : Int32)), .val .null, .val (.ref c2), .val (.ref cm), .val (.ref c1), .val (.ref bd), .val (.ref a), .val (.ref b), .val .null, .val (.int (1 : Int32)), .val (.ref f), .val (.ref cm), .val (.ref lit)] [(.ref b)]))
    obtain ⟨cq86, kq86, q86a, q86b, q86c⟩ := isOf hZ e85 E_b
    obtain ⟨_, _, ⟨T86, L86, k86, n86⟩, -, X86, ⟨Lc86, hQ86, l86, y86, z86⟩, st86⟩ := X85.virtualBack hx (y := (⟨"com/example/highwater/highwater/store/StoredMessage", "ts", "()J"⟩ : MethodName)) (z := (⟨"com/example/highwater/highwater/store/StoredMessage", "ts", "()J"⟩ : MethodName)) hown (mvT hZ (hw _ (List.mem_of_getElem? (i := 134) rfl))) (mvT hZ (hw _ (List.mem_of_getElem? (i := 135) rfl))) (notFace_of_selects (args := #[]) (mvT hZ (hw _ (List.mem_of_getElem? (i := 137) rfl)))) (mvT hZ (hw _ (List.mem_of_getElem? (i := 137) rfl))) (mvT hZ (hw _ (List.mem_of_getElem? (i := 136) rfl))) (by decide) (backOf (W := 0) (own_rm_g_ts l Z a0 hw [] b (i0 ^^^ (-1 : Int64)) T73.heap n0 (Nat.le_trans Z0 K74.1) G_ts) hZ (hw _ (List.mem_of_getElem? (i := 138) rfl)) (hw _ (List.mem_of_getElem? (i := 47) rfl)) (by decide) (by decide)) q86a q86c (g := (mkF m 357 #[.val (.long i0), .second, .val (.long i1), .second, .val (.long i2), .second, .val (.long i3), .second, .val (.long i4), .second, .val (.int i5), .val (.int rv), .val (.long ov), .second, .val (.long (i0 ^^^ (-1 : Int64))), .second, .val (.ref f), .val (.int (1 : Int32)), .val .null, .val (.ref c2), .val (.ref cm), .val (.ref c1), .val (.ref bd), .val (.ref a), .val (.ref b), .val .null, .val (.int (1 : Int32)), .val (.ref f), .val (.ref cm), .val (.ref lit)] [(.ref b)])) rfl (by rw [hml]; rfl) (Steps.refl _) (argsL := []) (rest := []) (lenOf own_pd9 rfl) rfl (by show 2 * 0 + _ ≤ _; exact Nat.le_of_eq rfl) (hb hby at_357) (fun _ _ => ⟨rfl, e85, (by decide : 12 + 0 ≤ _), (by decide : 45 + 0 ≤ _)⟩)
    dsimp only [Pt.U, Pt.locs, Pt.cells, Pt.slots] at X86 l86 y86 z86 st86 hQ86
    obtain rfl : k86 = 12 := y86
    obtain rfl : n86 = 45 := z86
    obtain ⟨rfl, N86q, e86⟩ := hQ86
    have N86 : Fr n0 L86 := by rw [l86]; exact Fr.app N85 N86q
    try clear l86
    refine own_tr st86 ?_
    show own_Gl p e below _ (T86.setTop (mkF m 360 #[.val (.long i0), .second, .val (.long i1), .second, .val (.long i2), .second, .val (.long i3), .second, .val (.long i4), .second, .val (.int i5), .val (.int rv), .val (.long ov), .second, .val (.long (i0 ^^^ (-1 : Int64))), .second, .val (.ref f), .val (.int (1 : Int32)), .val .null, .val (.ref c2), .val (.ref cm), .val (.ref c1), .val (.ref bd), .val (.ref a), .val (.ref b), .val .null, .val (.int (1 : Int32)), .val (.ref f), .val (.ref cm), .val (.ref lit)] [(.long (i0 ^^^ (-1 : Int64)))]))
    try clear st86
    try clear N86q
    try clear N85
    try clear e85
    try clear X85
    try clear T85
    refine own_st (fun tg_ kg_ => XS.lload X86.here hx rfl (hb hby at_360) rfl kg_) ?_
    show own_Gl p e below _ (T86.setTop (mkF m 362 #[.val (.long i0), .second, .val (.long i1), .second, .val (.long i2), .second, .val (.long i3), .second, .val (.long i4), .second, .val (.int i5), .val (.int rv), .val (.long ov), .second, .val (.long (i0 ^^^ (-1 : Int64))), .second, .val (.ref f), .val (.int (1 : Int32)), .val .null, .val (.ref c2), .val (.ref cm), .val (.ref c1), .val (.ref bd), .val (.ref a), .val (.ref b), .val .null, .val (.int (1 : Int32)), .val (.ref f), .val (.ref cm), .val (.ref lit)] [(.long (i0 ^^^ (-1 : Int64))), (.long (i0 ^^^ (-1 : Int64)))]))
    refine own_st (fun tg_ kg_ => XS.lcmp X86.here hx rfl (hb hby at_362) rfl kg_) ?_
    show own_Gl p e below _ (T86.setTop (mkF m 363 #[.val (.long i0), .second, .val (.long i1), .second, .val (.long i2), .second, .val (.long i3), .second, .val (.long i4), .second, .val (.int i5), .val (.int rv), .val (.long ov), .second, .val (.long (i0 ^^^ (-1 : Int64))), .second, .val (.ref f), .val (.int (1 : Int32)), .val .null, .val (.ref c2), .val (.ref cm), .val (.ref c1), .val (.ref bd), .val (.ref a), .val (.ref b), .val .null, .val (.int (1 : Int32)), .val (.ref f), .val (.ref cm), .val (.ref lit)] [(.int (lcmpW (i0 ^^^ (-1 : Int64)) (i0 ^^^ (-1 : Int64))))]))
    refine own_st (fun tg_ kg_ => XS.ifNo X86.here hx rfl (hb hby at_363) rfl ((if0 _ _).trans (teq ((lw_eq _ _).mpr rfl)).2) kg_) ?_
    show own_Gl p e below _ (T86.setTop (mkF m 366 #[.val (.long i0), .second, .val (.long i1), .second, .val (.long i2), .second, .val (.long i3), .second, .val (.long i4), .second, .val (.int i5), .val (.int rv), .val (.long ov), .second, .val (.long (i0 ^^^ (-1 : Int64))), .second, .val (.ref f), .val (.int (1 : Int32)), .val .null, .val (.ref c2), .val (.ref cm), .val (.ref c1), .val (.ref bd), .val (.ref a), .val (.ref b), .val .null, .val (.int (1 : Int32)), .val (.ref f), .val (.ref cm), .val (.ref lit)] []))
    refine own_st (fun tg_ kg_ => XS.aload X86.here hx rfl (hb hby at_366) rfl rfl kg_) ?_
    show own_Gl p e below _ (T86.setTop (mkF m 368 #[.val (.long i0), .second, .val (.long i1), .second, .val (.long i2), .second, .val (.long i3), .second, .val (.long i4), .second, .val (.int i5), .val (.int rv), .val (.long ov), .second, .val (.long (i0 ^^^ (-1 : Int64))), .second, .val (.ref f), .val (.int (1 : Int32)), .val .null, .val (.ref c2), .val (.ref cm), .val (.ref c1), .val (.ref bd), .val (.ref a), .val (.ref b), .val .null, .val (.int (1 : Int32)), .val (.ref f), .val (.ref cm), .val (.ref lit)] [(.ref b)]))
    obtain ⟨cq87, kq87, q87a, q87b, q87c⟩ := isOf hZ e86 E_b
    obtain ⟨_, _, ⟨T87, L87, k87, n87⟩, -, X87, ⟨Lc87, hQ87, l87, y87, z87⟩, st87⟩ := X86.virtualBack hx (y := (⟨"com/example/highwater/highwater/store/StoredMessage", "revoked", "()Z"⟩ : MethodName)) (z := (⟨"com/example/highwater/highwater/store/StoredMessage", "revoked", "()Z"⟩ : MethodName)) hown (mvT hZ (hw _ (List.mem_of_getElem? (i := 139) rfl))) (mvT hZ (hw _ (List.mem_of_getElem? (i := 140) rfl))) (notFace_of_selects (args := #[]) (mvT hZ (hw _ (List.mem_of_getElem? (i := 142) rfl)))) (mvT hZ (hw _ (List.mem_of_getElem? (i := 142) rfl))) (mvT hZ (hw _ (List.mem_of_getElem? (i := 141) rfl))) (by decide) (backOf (W := 0) (own_rm_g_revoked l Z a0 hw [] b (nar .boolean 1) T73.heap n0 (Nat.le_trans Z0 K74.1) G_revoked) hZ (hw _ (List.mem_of_getElem? (i := 143) rfl)) (hw _ (List.mem_of_getElem? (i := 47) rfl)) (by decide) (by decide)) q87a q87c (g := (mkF m 368 #[.val (.long i0), .second, .val (.long i1), .second, .val (.long i2), .second, .val (.long i3), .second, .val (.long i4), .second, .val (.int i5), .val (.int rv), .val (.long ov), .second, .val (.long (i0 ^^^ (-1 : Int64))), .second, .val (.ref f), .val (.int (1 : Int32)), .val .null, .val (.ref c2), .val (.ref cm), .val (.ref c1), .val (.ref bd), .val (.ref a), .val (.ref b), .val .null, .val (.int (1 : Int32)), .val (.ref f), .val (.ref cm), .val (.ref lit)] [(.ref b)])) rfl (by rw [hml]; rfl) (Steps.refl _) (argsL := []) (rest := []) (lenOf own_pd10 rfl) rfl (by show 2 * 0 + _ ≤ _; exact Nat.le_of_eq rfl) (hb hby at_368) (fun _ _ => ⟨rfl, e86, (by decide : 12 + 0 ≤ _), (by decide : 45 + 0 ≤ _)⟩)
    dsimp only [Pt.U, Pt.locs, Pt.cells, Pt.slots] at X87 l87 y87 z87 st87 hQ87
    obtain rfl : k87 = 12 := y87
    obtain rfl : n87 = 45 := z87
    obtain ⟨rfl, N87q, e87⟩ := hQ87
    have N87 : Fr n0 L87 := by rw [l87]; exact Fr.app N86 N87q
    try clear l87
    refine own_tr st87 ?_
    show own_Gl p e below _ (T87.setTop (mkF m 371 #[.val (.long i0), .second, .val (.long i1), .second, .val (.long i2), .second, .val (.long i3), .second, .val (.long i4), .second, .val (.int i5), .val (.int rv), .val (.long ov), .second, .val (.long (i0 ^^^ (-1 : Int64))), .second, .val (.ref f), .val (.int (1 : Int32)), .val .null, .val (.ref c2), .val (.ref cm), .val (.ref c1), .val (.ref bd), .val (.ref a), .val (.ref b), .val .null, .val (.int (1 : Int32)), .val (.ref f), .val (.ref cm), .val (.ref lit)] [(.int (1 : Int32))]))
    try clear st87
    try clear N87q
    try clear N86
    try clear e86
    try clear X86
    try clear T86
    refine own_st (fun tg_ kg_ => XS.ifNo X87.here hx rfl (hb hby at_371) rfl ((if0 _ _).trans (feq ((by decide : ¬ ((1 : Int32) = (0 : Int32))))).1) kg_) ?_
    show own_Gl p e below _ (T87.setTop (mkF m 374 #[.val (.long i0), .second, .val (.long i1), .second, .val (.long i2), .second, .val (.long i3), .second, .val (.long i4), .second, .val (.int i5), .val (.int rv), .val (.long ov), .second, .val (.long (i0 ^^^ (-1 : Int64))), .second, .val (.ref f), .val (.int (1 : Int32)), .val .null, .val (.ref c2), .val (.ref cm), .val (.ref c1), .val (.ref bd), .val (.ref a), .val (.ref b), .val .null, .val (.int (1 : Int32)), .val (.ref f), .val (.ref cm), .val (.ref lit)] []))
    refine own_st (fun tg_ kg_ => XS.aload X87.here hx rfl (hb hby at_374) rfl rfl kg_) ?_
    show own_Gl p e below _ (T87.setTop (mkF m 376 #[.val (.long i0), .second, .val (.long i1), .second, .val (.long i2), .second, .val (.long i3), .second, .val (.long i4), .second, .val (.int i5), .val (.int rv), .val (.long ov), .second, .val (.long (i0 ^^^ (-1 : Int64))), .second, .val (.ref f), .val (.int (1 : Int32)), .val .null, .val (.ref c2), .val (.ref cm), .val (.ref c1), .val (.ref bd), .val (.ref a), .val (.ref b), .val .null, .val (.int (1 : Int32)), .val (.ref f), .val (.ref cm), .val (.ref lit)] [(.ref b)]))
    obtain ⟨cq88, kq88, q88a, q88b, q88c⟩ := isOf hZ e87 E_b
    obtain ⟨_, _, ⟨T88, L88, k88, n88⟩, -, X88, ⟨Lc88, hQ88, l88, y88, z88⟩, st88⟩ := X87.virtualBack hx (y := (⟨"com/example/highwater/highwater/store/StoredMessage", "revokedTs", "()J"⟩ : MethodName)) (z := (⟨"com/example/highwater/highwater/store/StoredMessage", "revokedTs", "()J"⟩ : MethodName)) hown (mvT hZ (hw _ (List.mem_of_getElem? (i := 144) rfl))) (mvT hZ (hw _ (List.mem_of_getElem? (i := 145) rfl))) (notFace_of_selects (args := #[]) (mvT hZ (hw _ (List.mem_of_getElem? (i := 147) rfl)))) (mvT hZ (hw _ (List.mem_of_getElem? (i := 147) rfl))) (mvT hZ (hw _ (List.mem_of_getElem? (i := 146) rfl))) (by decide) (backOf (W := 0) (own_rm_g_revokedTs l Z a0 hw [] b i4 T73.heap n0 (Nat.le_trans Z0 K74.1) G_revokedTs) hZ (hw _ (List.mem_of_getElem? (i := 148) rfl)) (hw _ (List.mem_of_getElem? (i := 47) rfl)) (by decide) (by decide)) q88a q88c (g := (mkF m 376 #[.val (.long i0), .second, .val (.long i1), .second, .val (.long i2), .second, .val (.long i3), .second, .val (.long i4), .second, .val (.int i5), .val (.int rv), .val (.long ov), .second, .val (.long (i0 ^^^ (-1 : Int64))), .second, .val (.ref f), .val (.int (1 : Int32)), .val .null, .val (.ref c2), .val (.ref cm), .val (.ref c1), .val (.ref bd), .val (.ref a), .val (.ref b), .val .null, .val (.int (1 : Int32)), .val (.ref f), .val (.ref cm), .val (.ref lit)] [(.ref b)])) rfl (by rw [hml]; rfl) (Steps.refl _) (argsL := []) (rest := []) (lenOf own_pd9 rfl) rfl (by show 2 * 0 + _ ≤ _; exact Nat.le_of_eq rfl) (hb hby at_376) (fun _ _ => ⟨rfl, e87, (by decide : 12 + 0 ≤ _), (by decide : 45 + 0 ≤ _)⟩)
    dsimp only [Pt.U, Pt.locs, Pt.cells, Pt.slots] at X88 l88 y88 z88 st88 hQ88
    obtain rfl : k88 = 12 := y88
    obtain rfl : n88 = 45 := z88
    obtain ⟨rfl, N88q, e88⟩ := hQ88
    have N88 : Fr n0 L88 := by rw [l88]; exact Fr.app N87 N88q
    try clear l88
    refine own_tr st88 ?_
    show own_Gl p e below _ (T88.setTop (mkF m 379 #[.val (.long i0), .second, .val (.long i1), .second, .val (.long i2), .second, .val (.long i3), .second, .val (.long i4), .second, .val (.int i5), .val (.int rv), .val (.long ov), .second, .val (.long (i0 ^^^ (-1 : Int64))), .second, .val (.ref f), .val (.int (1 : Int32)), .val .null, .val (.ref c2), .val (.ref cm), .val (.ref c1), .val (.ref bd), .val (.ref a), .val (.ref b), .val .null, .val (.int (1 : Int32)), .val (.ref f), .val (.ref cm), .val (.ref lit)] [(.long i4)]))
    try clear st88
    try clear N88q
    try clear N87
    try clear e87
    try clear X87
    try clear T87
    refine own_st (fun tg_ kg_ => XS.lload X88.here hx rfl (hb hby at_379) rfl kg_) ?_
    show own_Gl p e below _ (T88.setTop (mkF m 381 #[.val (.long i0), .second, .val (.long i1), .second, .val (.long i2), .second, .val (.long i3), .second, .val (.long i4), .second, .val (.int i5), .val (.int rv), .val (.long ov), .second, .val (.long (i0 ^^^ (-1 : Int64))), .second, .val (.ref f), .val (.int (1 : Int32)), .val .null, .val (.ref c2), .val (.ref cm), .val (.ref c1), .val (.ref bd), .val (.ref a), .val (.ref b), .val .null, .val (.int (1 : Int32)), .val (.ref f), .val (.ref cm), .val (.ref lit)] [(.long i4), (.long i4)]))
    refine own_st (fun tg_ kg_ => XS.lcmp X88.here hx rfl (hb hby at_381) rfl kg_) ?_
    show own_Gl p e below _ (T88.setTop (mkF m 382 #[.val (.long i0), .second, .val (.long i1), .second, .val (.long i2), .second, .val (.long i3), .second, .val (.long i4), .second, .val (.int i5), .val (.int rv), .val (.long ov), .second, .val (.long (i0 ^^^ (-1 : Int64))), .second, .val (.ref f), .val (.int (1 : Int32)), .val .null, .val (.ref c2), .val (.ref cm), .val (.ref c1), .val (.ref bd), .val (.ref a), .val (.ref b), .val .null, .val (.int (1 : Int32)), .val (.ref f), .val (.ref cm), .val (.ref lit)] [(.int (lcmpW i4 i4))]))
    refine own_st (fun tg_ kg_ => XS.ifNo X88.here hx rfl (hb hby at_382) rfl ((if0 _ _).trans (teq ((lw_eq _ _).mpr rfl)).2) kg_) ?_
    show own_Gl p e below _ (T88.setTop (mkF m 385 #[.val (.long i0), .second, .val (.long i1), .second, .val (.long i2), .second, .val (.long i3), .second, .val (.long i4), .second, .val (.int i5), .val (.int rv), .val (.long ov), .second, .val (.long (i0 ^^^ (-1 : Int64))), .second, .val (.ref f), .val (.int (1 : Int32)), .val .null, .val (.ref c2), .val (.ref cm), .val (.ref c1), .val (.ref bd), .val (.ref a), .val (.ref b), .val .null, .val (.int (1 : Int32)), .val (.ref f), .val (.ref cm), .val (.ref lit)] []))
    refine own_st (fun tg_ kg_ => XS.iconst X88.here hx rfl (hb hby at_385) kg_) ?_
    show own_Gl p e below _ (T88.setTop (mkF m 386 #[.val (.long i0), .second, .val (.long i1), .second, .val (.long i2), .second, .val (.long i3), .second, .val (.long i4), .second, .val (.int i5), .val (.int rv), .val (.long ov), .second, .val (.long (i0 ^^^ (-1 : Int64))), .second, .val (.ref f), .val (.int (1 : Int32)), .val .null, .val (.ref c2), .val (.ref cm), .val (.ref c1), .val (.ref bd), .val (.ref a), .val (.ref b), .val .null, .val (.int (1 : Int32)), .val (.ref f), .val (.ref cm), .val (.ref lit)] [(.int (1 : Int32))]))
    refine own_st (fun tg_ kg_ => XS.goto X88.here hx rfl (pc0 := 386) (pc' := 390) rfl (hb hby at_386) (by decide) (by decide) kg_) ?_
    show own_Gl p e below _ (T88.setTop (mkF m 390 #[.val (.long i0), .second, .val (.long i1), .second, .val (.long i2), .second, .val (.long i3), .second, .val (.long i4), .second, .val (.int i5), .val (.int rv), .val (.long ov), .second, .val (.long (i0 ^^^ (-1 : Int64))), .second, .val (.ref f), .val (.int (1 : Int32)), .val .null, .val (.ref c2), .val (.ref cm), .val (.ref c1), .val (.ref bd), .val (.ref a), .val (.ref b), .val .null, .val (.int (1 : Int32)), .val (.ref f), .val (.ref cm), .val (.ref lit)] [(.int (1 : Int32))]))
    exact own_wlretN X88 hx Bd.notSynchronized (t := .boolean) Bd.returns (by simp) (hb hby at_390) (by decide) (by decide) e88 hSb73 hk (⟨rfl, N88⟩)
set_option maxRecDepth 65536 in
set_option maxHeartbeats 40000000 in
theorem comes_1 {Post : Tables → Env → Array Value → State → Outcome → State → Prop} (hpost : ∀ tb e args s v u, (limb_1_1.after args s (.returned v) u = true ∧ limb_1_2.after args s (.returned v) u = true ∧ True) → ReturnedEndW s (.returned v) u (Jvm.fieldLocs frame_1_writes args s ++ Jvm.arrayLocs frame_1_arrays args s ++ Jvm.staticLocs frame_1_statics s) 40 1216 → Post tb e args s (.returned v) u) :
    ArmFor flags0 classFile x code maxLocals ret World_1 tables_1 room_1 Calls_1 rest_1 Pre_1 Post := by
  intro l hfl _ _ p e ha hc hk s m args below hf hA hF happ hP
  obtain ⟨hcalls, hrest, hpre⟩ := hP
  obtain ⟨-, -, -, hnamed, -, -, -, hat⟩ := (Spec.applies_iff hf).mp happ
  obtain ⟨hg, hn⟩ := and_e (Cond.before_iff.mp (show (Jvm.Cond.and given_1 narrow_1).before args s = true from hpre))
  obtain ⟨g0a, g0b⟩ := and_e hg
  obtain ⟨g1a, g1b⟩ := and_e g0b
  obtain ⟨g2a, g2b⟩ := and_e g1b
  obtain ⟨g3a, g3b⟩ := and_e g2b
  obtain ⟨g4a, g4b⟩ := and_e g3b
  obtain ⟨g5a, g5b⟩ := and_e g4b
  obtain ⟨w0, w1, w2, w3, w4, w5, rfl⟩ : ∃ w0 w1 w2 w3 w4 w5 : Value, args = #[w0, w1, w2, w3, w4, w5] := by
    have hs : args.size = 6 := by simpa [Cond.value, given_1] using g0a
    obtain ⟨L⟩ := args
    match L, hs with
    | [w0, w1, w2, w3, w4, w5], _ => exact ⟨w0, w1, w2, w3, w4, w5, rfl⟩
  have hw := fun d (hd : d ∈ tables_1) => atoms_spec (ws := Jvm.Cond.code x code maxLocals ret :: tables_1) hat d (List.mem_cons_of_mem _ hd)
  have hfit : Fit s := fun {y c} hc i hi => by
    obtain ⟨ha, rfl⟩ := Array.getElem?_eq_some_iff.mp hc
    have q := List.all_eq_true.mp ((Array.all_eq_true_iff_forall_mem.mp hF) _ (Array.getElem_mem ha)) i (List.mem_range.mpr hi)
    simpa [Array.getElem?_eq_getElem hi] using q
  obtain ⟨hsets, hown0⟩ := atoms_of _ (rest_1_c_eq ▸ (show rest_1_c.before _ s = true from hrest))
  have hr0 := Cond.before_iff.mp hown0
  obtain ⟨i0, ei0⟩ := isL_v g1a
  obtain rfl : w0 = (.long i0) := Option.some.inj ei0
  obtain ⟨i1, ei1⟩ := isL_v g2a
  obtain rfl : w1 = (.long i1) := Option.some.inj ei1
  obtain ⟨i2, ei2⟩ := isL_v g3a
  obtain rfl : w2 = (.long i2) := Option.some.inj ei2
  obtain ⟨i3, ei3⟩ := isL_v g4a
  obtain rfl : w3 = (.long i3) := Option.some.inj ei3
  obtain ⟨i4, ei4⟩ := isL_v g5a
  obtain rfl : w4 = (.long i4) := Option.some.inj ei4
  obtain ⟨i5, ei5⟩ := is_v g5b
  obtain rfl : w5 = (.int i5) := Option.some.inj ei5
  obtain ⟨zc, ev_C⟩ := is_v (Cond.before_iff.mp (hsets _ (List.mem_of_getElem? (i := 1) rfl)))
  have S_C := Sta.start ev_C (Or.inl (hsets _ (List.mem_of_getElem? (i := 0) rfl)))
  have hzc : ¬ zc = 0 := own_nz ev_C (Cond.before_iff.mp (hsets _ (List.mem_of_getElem? (i := 2) rfl)))
  have hCH : CHv s own_EL s.vm s.heap := CHv.start (a0 := #[.long i0, .long i1, .long i2, .long i3, .long i4, .int i5]) (own_ew hw) hcalls.1 (by have := (hsets _ (List.mem_of_getElem? (i := 2) rfl)); simpa [Jvm.Lit.compactW, Cond.before, Cond.holds, Cond.value, Term.eval] using this) (hw _ (List.mem_of_getElem? (i := 15) rfl)) (hw _ (List.mem_of_getElem? (i := 11) rfl))
  obtain ⟨n, o, h1, h2, h3, _, L, rfl, ⟨rfl, N⟩, hq⟩ := own_rm_law l s _ hw tables_1 i0 i1 i2 i3 i4 i5 zc s.heap s.heap.size (Nat.le_refl _) S_C hzc p e ha hc hk s m _ below hf ((Spec.applies_iff_loose hf).mp happ).1 ⟨rfl, State.Warmed39.refl s, rfl, hCH⟩ trivial
  refine ⟨n, _, h1, h2, h3, hpost _ _ _ _ _ _ ⟨Cond.after_iff.mpr rfl, Cond.after_iff.mpr (eq_i res_at (Term.int_eval (1)) rfl), trivial⟩ ⟨hq.1, hq.2.1, hq.2.2.1, (hq.2.2.2.sift fun y hy => Or.inr (N y hy)).mono (by decide) (by decide)⟩⟩
theorem main_1_1 : Claimed_1_1 := comes_1 fun _ _ _ _ _ _ h hF => ⟨h.1, hF⟩
theorem main_1_2 : Claimed_1_2 := comes_1 fun _ _ _ _ _ _ h hF => ⟨h.2.1, hF⟩
end Jvm.Pilot.@@N@@
namespace Jvm.Pilot.@@N@@
open Jvm Jvm.ClassFile Sem Op Lib Jvm.Free Jvm.Stand Jvm.Pilot.@@N@@.Jvm.D
/-! MADE BY PROGRAM (witnessworld.py) out of the Statement's table words and the real class files: 20 classes; the members and pool entries that the words name. The judged class is class 1, her method 1. -/
namespace start1
open Jvm.ClassFile
def u (s : String) : CpInfo := .utf8 (stringToUtf16 s)
/-- a pool by its gaps: so many unusable entries, then the entry; so many at the end -/
def gap : Nat → List CpInfo → List CpInfo
  | 0, r => r
  | n + 1, r => .unusable :: gap n r
def poolList (es : List (Nat × CpInfo)) (last : Nat) : List CpInfo := es.foldr (fun e r => gap e.1 (e.2 :: r)) (gap last [])
def pool (es : List (Nat × CpInfo)) (last : Nat) : Array CpInfo := ⟨poolList es last⟩
def fileOf (pool : Array CpInfo) (this : Nat) (attrs : Array Attribute := #[]) (ms : Array MethodInfo := #[]) (fl : Nat := 33) (sup : Nat := 0) (ifs : Array Nat := #[]) (fds : Array FieldInfo := #[]) : ClassFile where
  minorVersion := 0
  majorVersion := 65
  constantPool := pool
  accessFlags := fl
  thisClass := this
  superClass := sup
  interfaces := ifs
  fields := fds
  methods := ms
  attributes := attrs
def plain (name : String) (sup : Option ClassId) : Class where
  name := name
  kind := .ordinary
  loader := none
  accessFlags := 33
  super := sup
  interfaces := #[]
  cf := none
  fields := #[]
  methods := #[]
  instanceTypes := #[]
  staticTypes := #[]
  resolved := #[]
  callSites := []
  init := .initialized
  statics := none
  mirror := none

def pool0 : Array CpInfo := pool [(5, u "<init>"), (0, u "()V"), (1, .class_ 10), (1, u "java/lang/Object")] 113

def k0c0 : Code := { maxStack := 0, maxLocals := 1, code := object_method_1_code, exceptionTable := #[], attributes := #[] }
def k0m0 : Method := { name := "<init>", desc := "()V", sig := { parameters := [], returnType := none }, accessFlags := 1, code := some k0c0 }
/-- java/lang/Object -/
def k0 : Class := { plain "java/lang/Object" none with
  accessFlags := 33
  interfaces := #[]
  cf := some (fileOf pool0 8 #[] #[{ accessFlags := 1, nameIndex := 5, descriptorIndex := 6, attributes := #[] }] 33 0 #[] #[])
  fields := #[]
  methods := #[k0m0]
  instanceTypes := #[]
  staticTypes := #[]
  resolved := Array.replicate 124 none
  statics := none }

def pool1 : Array CpInfo := pool [(2, .class_ 4), (1, u "java/lang/Object"), (0, u "<init>"), (0, u "()V"), (0, .long 18446744073709551615), (1, .methodref 10 11), (0, .class_ 12), (0, .nameAndType 13 14), (0, u "java/lang/String"), (0, u "valueOf"), (0, u "(C)Ljava/lang/String;"), (0, .methodref 10 16), (0, .nameAndType 5 17), (0, u "([C)V"), (0, .class_ 19), (0, u "com/example/highwater/highwater/store/StoredMessage"), (0, .methodref 18 21), (0, .nameAndType 5 22), (0, u "(JJJLjava/lang/String;Ljava/lang/String;JLjava/lang/String;Ljava/lang/String;JZJ)V"), (0, .methodref 18 24), (0, .nameAndType 25 26), (0, u "revokedAt"), (0, u "(J)Lcom/example/highwater/highwater/store/StoredMessage;"), (0, .methodref 18 28), (0, .nameAndType 29 30), (0, u "to"), (0, u "()Ljava/lang/String;"), (0, .methodref 10 32), (0, .nameAndType 33 34), (0, u "equals"), (0, u "(Ljava/lang/Object;)Z"), (0, .methodref 18 36), (0, .nameAndType 37 30), (0, u "from"), (0, .methodref 18 39), (0, .nameAndType 40 30), (0, u "clientMsgId"), (0, .methodref 18 42), (0, .nameAndType 43 30), (0, u "body"), (0, .methodref 18 45), (0, .nameAndType 46 47), (0, u "serverMsgId"), (0, u "()J"), (0, .methodref 18 49), (0, .nameAndType 50 47), (0, u "conversationId"), (0, .methodref 18 52), (0, .nameAndType 53 47), (0, u "msgSeq"), (0, .methodref 18 55), (0, .nameAndType 56 47), (0, u "groupId"), (0, .methodref 10 58), (0, .nameAndType 59 60), (0, u "isEmpty"), (0, u "()Z"), (0, .methodref 18 62), (0, .nameAndType 63 47), (0, u "ts"), (0, .methodref 18 65), (0, .nameAndType 66 60), (0, u "revoked"), (0, .methodref 18 68), (0, .nameAndType 69 47), (0, u "revokedTs"), (0, .class_ 71), (0, u "com/example/highwater/highwater/store/StoredMessageRevokedAtPinLaw"), (2, u "law"), (0, u "(JJJJJI)Z")] 5

def k1m0 : Method := { name := "<init>", desc := "()V", sig := { parameters := [], returnType := none }, accessFlags := 1, code := none }
def k1c1 : Code := { maxStack := 19, maxLocals := 30, code := code, exceptionTable := #[], attributes := #[] }
def k1m1 : Method := { name := "law", desc := "(JJJJJI)Z", sig := { parameters := [.long, .long, .long, .long, .long, .int], returnType := some .boolean }, accessFlags := 9, code := some k1c1 }
/-- com/example/highwater/highwater/store/StoredMessageRevokedAtPinLaw -/
def k1 : Class := { plain "com/example/highwater/highwater/store/StoredMessageRevokedAtPinLaw" (some 0) with
  accessFlags := 49
  interfaces := #[]
  cf := some (fileOf pool1 70 #[] #[{ accessFlags := 1, nameIndex := 5, descriptorIndex := 6, attributes := #[] }, { accessFlags := 9, nameIndex := 74, descriptorIndex := 75, attributes := #[] }] 49 2 #[] #[])
  fields := #[]
  methods := #[k1m0, k1m1]
  instanceTypes := #[]
  staticTypes := #[]
  resolved := Array.replicate 81 none
  statics := none }

def pool2 : Array CpInfo := pool [(1, .class_ 2), (0, u "java/io/Serializable"), (0, .class_ 4), (0, u "java/lang/Object")] 2

/-- java/io/Serializable -/
def k2 : Class := { plain "java/io/Serializable" (some 0) with
  accessFlags := 1537
  interfaces := #[]
  cf := some (fileOf pool2 1 #[] #[] 1537 3 #[] #[])
  fields := #[]
  methods := #[]
  instanceTypes := #[]
  staticTypes := #[]
  resolved := Array.replicate 7 none
  statics := none }

def pool3 : Array CpInfo := pool [(1, .class_ 2), (0, u "java/lang/Comparable"), (0, .class_ 4), (0, u "java/lang/Object")] 7

/-- java/lang/Comparable -/
def k3 : Class := { plain "java/lang/Comparable" (some 0) with
  accessFlags := 1537
  interfaces := #[]
  cf := some (fileOf pool3 1 #[] #[] 1537 3 #[] #[])
  fields := #[]
  methods := #[]
  instanceTypes := #[]
  staticTypes := #[]
  resolved := Array.replicate 12 none
  statics := none }

def pool4 : Array CpInfo := pool [(2, .class_ 4), (1, u "java/lang/CharSequence"), (42, .class_ 48), (0, u "java/lang/CharSequence$1CodePointIterator"), (10, .class_ 60), (0, u "java/lang/CharSequence$1CharIterator"), (5, .class_ 67), (0, u "java/lang/Object")] 63

/-- java/lang/CharSequence -/
def k4 : Class := { plain "java/lang/CharSequence" (some 0) with
  accessFlags := 1537
  interfaces := #[]
  cf := some (fileOf pool4 2 #[.nestMembers #[47, 59]] #[] 1537 66 #[] #[])
  fields := #[]
  methods := #[]
  instanceTypes := #[]
  staticTypes := #[]
  resolved := Array.replicate 131 none
  statics := none }

def pool5 : Array CpInfo := pool [(1, .class_ 2), (0, u "java/lang/constant/Constable"), (0, .class_ 4), (0, u "java/lang/Object")] 6

/-- java/lang/constant/Constable -/
def k5 : Class := { plain "java/lang/constant/Constable" (some 0) with
  accessFlags := 1537
  interfaces := #[]
  cf := some (fileOf pool5 1 #[] #[] 1537 3 #[] #[])
  fields := #[]
  methods := #[]
  instanceTypes := #[]
  staticTypes := #[]
  resolved := Array.replicate 11 none
  statics := none }

def pool6 : Array CpInfo := pool [(1, .class_ 2), (0, u "java/lang/constant/ConstantDesc"), (0, .class_ 4), (0, u "java/lang/Object")] 32

/-- java/lang/constant/ConstantDesc -/
def k6 : Class := { plain "java/lang/constant/ConstantDesc" (some 0) with
  accessFlags := 1537
  interfaces := #[]
  cf := some (fileOf pool6 1 #[] #[] 1537 3 #[] #[])
  fields := #[]
  methods := #[]
  instanceTypes := #[]
  staticTypes := #[]
  resolved := Array.replicate 37 none
  statics := none }

def pool7 : Array CpInfo := pool [(1, .methodref 2 3), (0, .class_ 4), (0, .nameAndType 5 6), (0, u "java/lang/Object"), (0, u "<init>"), (0, u "()V"), (2, .fieldref 10 11), (0, .class_ 12), (0, .nameAndType 13 14), (0, u "java/lang/String"), (0, u "value"), (0, u "[B"), (0, .fieldref 10 16), (0, .nameAndType 17 18), (0, u "coder"), (0, u "B"), (2, u "hash"), (0, u "I"), (2, u "hashIsZero"), (0, u "Z"), (0, .methodref 10 28), (0, .nameAndType 5 29), (0, u "([CIILjava/lang/Void;)V"), (8, .fieldref 10 39), (0, .nameAndType 40 26), (0, u "COMPACT_STRINGS"), (1, .class_ 44), (1, u "java/lang/StringUTF16"), (0, u "compress"), (1, .methodref 42 48), (0, .nameAndType 49 50), (0, u "coderFromArrayLen"), (0, u "([BI)B"), (2, u "toBytes"), (53, .class_ 109), (1, u "java/lang/StringLatin1"), (32, u "()Z"), (34, .methodref 42 178), (0, .nameAndType 45 179), (0, u "([CII)[B"), (29, .methodref 10 210), (0, .nameAndType 5 211), (0, u "([BB)V"), (157, u "(C)Z"), (173, u "equals"), (29, u "(Ljava/lang/Object;)Z"), (1, .class_ 576), (0, u "java/lang/CharSequence"), (22, u "CASE_INSENSITIVE_ORDER"), (0, u "Ljava/util/Comparator;"), (91, u "isEmpty"), (89, u "valueOf"), (0, u "(C)Ljava/lang/String;"), (226, u "([C)V"), (4, .methodref 107 1016), (0, .nameAndType 1017 369), (0, u "canEncode"), (0, .methodref 107 1019), (0, .nameAndType 53 1020), (0, u "(C)[B"), (80, u "serialPersistentFields"), (0, u "[Ljava/io/ObjectStreamField;"), (0, .class_ 1104), (0, u "java/lang/String$CaseInsensitiveComparator"), (1, .class_ 1107), (0, u "java/io/Serializable"), (0, .class_ 1109), (0, u "java/lang/Comparable"), (0, .class_ 1111), (0, u "java/lang/constant/Constable"), (0, .class_ 1113), (0, u "java/lang/constant/ConstantDesc"), (2, u "serialVersionUID"), (0, u "J"), (3, u "REPL"), (0, u "C"), (2, u "LATIN1"), (1, u "UTF16")] 323

def k7m0 : Method := { name := "<init>", desc := "()V", sig := { parameters := [], returnType := none }, accessFlags := 1, code := none }
def k7c1 : Code := { maxStack := 5, maxLocals := 2, code := jdk_42_method_3_code, exceptionTable := #[], attributes := #[] }
def k7m1 : Method := { name := "<init>", desc := "([C)V", sig := { parameters := [(.array .char)], returnType := none }, accessFlags := 1, code := some k7c1 }
def k7c2 : Code := { maxStack := 1, maxLocals := 1, code := jdk_42_method_55_code, exceptionTable := #[], attributes := #[] }
def k7m2 : Method := { name := "isEmpty", desc := "()Z", sig := { parameters := [], returnType := some .boolean }, accessFlags := 1, code := some k7c2 }
def k7c3 : Code := { maxStack := 2, maxLocals := 3, code := jdk_42_method_66_code, exceptionTable := #[], attributes := #[] }
def k7m3 : Method := { name := "equals", desc := "(Ljava/lang/Object;)Z", sig := { parameters := [(.object "java/lang/Object")], returnType := some .boolean }, accessFlags := 1, code := some k7c3 }
def k7c4 : Code := { maxStack := 4, maxLocals := 1, code := jdk_42_method_139_code, exceptionTable := #[], attributes := #[] }
def k7m4 : Method := { name := "valueOf", desc := "(C)Ljava/lang/String;", sig := { parameters := [.char], returnType := some (.object "java/lang/String") }, accessFlags := 9, code := some k7c4 }
def k7c5 : Code := { maxStack := 4, maxLocals := 6, code := jdk_42_method_149_code, exceptionTable := #[], attributes := #[] }
def k7m5 : Method := { name := "<init>", desc := "([CIILjava/lang/Void;)V", sig := { parameters := [(.array .char), .int, .int, (.object "java/lang/Void")], returnType := none }, accessFlags := 2, code := some k7c5 }
def k7c6 : Code := { maxStack := 2, maxLocals := 3, code := jdk_42_method_151_code, exceptionTable := #[], attributes := #[] }
def k7m6 : Method := { name := "<init>", desc := "([BB)V", sig := { parameters := [(.array .byte), .byte], returnType := none }, accessFlags := 0, code := some k7c6 }
/-- java/lang/String -/
def k7 : Class := { plain "java/lang/String" (some 0) with
  accessFlags := 49
  interfaces := #[2, 3, 4, 5, 6]
  cf := some (fileOf pool7 10 #[.nestMembers #[1103]] #[{ accessFlags := 1, nameIndex := 5, descriptorIndex := 6, attributes := #[] }, { accessFlags := 1, nameIndex := 5, descriptorIndex := 1010, attributes := #[] }, { accessFlags := 1, nameIndex := 692, descriptorIndex := 142, attributes := #[] }, { accessFlags := 1, nameIndex := 543, descriptorIndex := 573, attributes := #[] }, { accessFlags := 9, nameIndex := 782, descriptorIndex := 783, attributes := #[] }, { accessFlags := 2, nameIndex := 5, descriptorIndex := 29, attributes := #[] }, { accessFlags := 0, nameIndex := 5, descriptorIndex := 211, attributes := #[] }] 49 2 #[1106, 1108, 575, 1110, 1112] #[{ accessFlags := 18, nameIndex := 13, descriptorIndex := 14, attributes := #[] }, { accessFlags := 18, nameIndex := 17, descriptorIndex := 18, attributes := #[] }, { accessFlags := 2, nameIndex := 21, descriptorIndex := 22, attributes := #[] }, { accessFlags := 2, nameIndex := 25, descriptorIndex := 26, attributes := #[] }, { accessFlags := 26, nameIndex := 1116, descriptorIndex := 1117, attributes := #[] }, { accessFlags := 24, nameIndex := 40, descriptorIndex := 26, attributes := #[] }, { accessFlags := 26, nameIndex := 1101, descriptorIndex := 1102, attributes := #[] }, { accessFlags := 26, nameIndex := 1121, descriptorIndex := 1122, attributes := #[] }, { accessFlags := 25, nameIndex := 599, descriptorIndex := 600, attributes := #[] }, { accessFlags := 24, nameIndex := 1125, descriptorIndex := 18, attributes := #[] }, { accessFlags := 24, nameIndex := 1127, descriptorIndex := 18, attributes := #[] }])
  fields := #[{ name := "value", type := (.array .byte), accessFlags := 18, slot := 0, constantValue := 0 }, { name := "coder", type := .byte, accessFlags := 18, slot := 1, constantValue := 0 }, { name := "hash", type := .int, accessFlags := 2, slot := 2, constantValue := 0 }, { name := "hashIsZero", type := .boolean, accessFlags := 2, slot := 3, constantValue := 0 }, { name := "serialVersionUID", type := .long, accessFlags := 26, slot := 0, constantValue := 0 }, { name := "COMPACT_STRINGS", type := .boolean, accessFlags := 24, slot := 1, constantValue := 0 }, { name := "serialPersistentFields", type := (.array (.object "java/io/ObjectStreamField")), accessFlags := 26, slot := 2, constantValue := 0 }, { name := "REPL", type := .char, accessFlags := 26, slot := 3, constantValue := 0 }, { name := "CASE_INSENSITIVE_ORDER", type := (.object "java/util/Comparator"), accessFlags := 25, slot := 4, constantValue := 0 }, { name := "LATIN1", type := .byte, accessFlags := 24, slot := 5, constantValue := 0 }, { name := "UTF16", type := .byte, accessFlags := 24, slot := 6, constantValue := 0 }]
  methods := #[k7m0, k7m1, k7m2, k7m3, k7m4, k7m5, k7m6]
  instanceTypes := #[(.array .byte), .byte, .int, .boolean]
  staticTypes := #[.long, .boolean, (.array (.object "java/io/ObjectStreamField")), .char, (.object "java/util/Comparator"), .byte, .byte]
  resolved := Array.replicate 1451 none
  statics := some 0 }

def pool8 : Array CpInfo := pool [(4, .class_ 6), (1, u "java/lang/Object"), (0, u "<init>"), (0, u "()V"), (5, .class_ 16), (1, u "java/lang/StringLatin1"), (73, u "canEncode"), (14, u "(C)Z"), (15, u "$assertionsDisabled"), (0, u "Z"), (98, .class_ 223), (1, u "java/lang/StringLatin1$LinesSpliterator"), (156, u "toBytes"), (1, u "(C)[B"), (7, .class_ 391), (0, u "java/lang/StringLatin1$CharsSpliterator")] 3

def k8m0 : Method := { name := "<init>", desc := "()V", sig := { parameters := [], returnType := none }, accessFlags := 0, code := none }
def k8c1 : Code := { maxStack := 2, maxLocals := 1, code := jdk_43_method_3_code, exceptionTable := #[], attributes := #[] }
def k8m1 : Method := { name := "canEncode", desc := "(C)Z", sig := { parameters := [.char], returnType := some .boolean }, accessFlags := 9, code := some k8c1 }
def k8c2 : Code := { maxStack := 4, maxLocals := 1, code := jdk_43_method_46_code, exceptionTable := #[], attributes := #[] }
def k8m2 : Method := { name := "toBytes", desc := "(C)[B", sig := { parameters := [.char], returnType := some (.array .byte) }, accessFlags := 9, code := some k8c2 }
/-- java/lang/StringLatin1 -/
def k8 : Class := { plain "java/lang/StringLatin1" (some 0) with
  accessFlags := 48
  interfaces := #[]
  cf := some (fileOf pool8 14 #[.nestMembers #[390, 221]] #[{ accessFlags := 0, nameIndex := 7, descriptorIndex := 8, attributes := #[] }, { accessFlags := 9, nameIndex := 90, descriptorIndex := 105, attributes := #[] }, { accessFlags := 9, nameIndex := 380, descriptorIndex := 382, attributes := #[] }] 48 4 #[] #[{ accessFlags := 4120, nameIndex := 121, descriptorIndex := 122, attributes := #[] }])
  fields := #[{ name := "$assertionsDisabled", type := .boolean, accessFlags := 4120, slot := 0, constantValue := 0 }]
  methods := #[k8m0, k8m1, k8m2]
  instanceTypes := #[]
  staticTypes := #[.boolean]
  resolved := Array.replicate 395 none
  statics := none }

def pool9 : Array CpInfo := pool [(6, .class_ 8), (1, u "java/lang/Object"), (0, u "<init>"), (0, u "()V"), (1, .class_ 14), (1, u "java/lang/StringUTF16"), (31, u "$assertionsDisabled"), (0, u "Z"), (13, u "HI_BYTE_SHIFT"), (0, u "I"), (2, u "LO_BYTE_SHIFT"), (49, .methodref 12 116), (0, .nameAndType 117 118), (0, u "compress"), (0, u "([CI[BII)I"), (3, u "([CII)[B"), (138, u "coderFromArrayLen"), (0, u "([BI)B"), (106, .class_ 371), (1, u "java/lang/StringUTF16$LinesSpliterator"), (58, u "MAX_LENGTH"), (196, .class_ 628), (0, u "java/lang/StringUTF16$CodePointsSpliterator"), (0, .class_ 630), (0, u "java/lang/StringUTF16$CharsSpliterator")] 4

def k9m0 : Method := { name := "<init>", desc := "()V", sig := { parameters := [], returnType := none }, accessFlags := 0, code := none }
def k9c1 : Code := { maxStack := 2, maxLocals := 2, code := jdk_52_method_15_code, exceptionTable := #[], attributes := #[] }
def k9m1 : Method := { name := "coderFromArrayLen", desc := "([BI)B", sig := { parameters := [(.array .byte), .int], returnType := some .byte }, accessFlags := 8, code := some k9c1 }
def k9c2 : Code := { maxStack := 5, maxLocals := 6, code := jdk_52_method_16_code, exceptionTable := #[], attributes := #[] }
def k9m2 : Method := { name := "compress", desc := "([CII)[B", sig := { parameters := [(.array .char), .int, .int], returnType := some (.array .byte) }, accessFlags := 9, code := some k9c2 }
def k9c3 : Code := { maxStack := 3, maxLocals := 7, code := jdk_52_method_21_code, exceptionTable := #[], attributes := #[] }
def k9m3 : Method := { name := "compress", desc := "([CI[BII)I", sig := { parameters := [(.array .char), .int, (.array .byte), .int, .int], returnType := some .int }, accessFlags := 9, code := some k9c3 }
/-- java/lang/StringUTF16 -/
def k9 : Class := { plain "java/lang/StringUTF16" (some 0) with
  accessFlags := 48
  interfaces := #[]
  cf := some (fileOf pool9 12 #[.nestMembers #[627, 629, 369]] #[{ accessFlags := 0, nameIndex := 9, descriptorIndex := 10, attributes := #[] }, { accessFlags := 8, nameIndex := 261, descriptorIndex := 262, attributes := #[] }, { accessFlags := 9, nameIndex := 117, descriptorIndex := 122, attributes := #[] }, { accessFlags := 9, nameIndex := 117, descriptorIndex := 118, attributes := #[] }] 48 6 #[] #[{ accessFlags := 26, nameIndex := 61, descriptorIndex := 62, attributes := #[] }, { accessFlags := 26, nameIndex := 65, descriptorIndex := 62, attributes := #[] }, { accessFlags := 24, nameIndex := 430, descriptorIndex := 62, attributes := #[] }, { accessFlags := 4120, nameIndex := 46, descriptorIndex := 47, attributes := #[] }])
  fields := #[{ name := "HI_BYTE_SHIFT", type := .int, accessFlags := 26, slot := 0, constantValue := 0 }, { name := "LO_BYTE_SHIFT", type := .int, accessFlags := 26, slot := 1, constantValue := 0 }, { name := "MAX_LENGTH", type := .int, accessFlags := 24, slot := 2, constantValue := 0 }, { name := "$assertionsDisabled", type := .boolean, accessFlags := 4120, slot := 3, constantValue := 0 }]
  methods := #[k9m0, k9m1, k9m2, k9m3]
  instanceTypes := #[]
  staticTypes := #[.int, .int, .int, .boolean]
  resolved := Array.replicate 635 none
  statics := none }

def pool10 : Array CpInfo := pool [(1, .methodref 2 3), (0, .class_ 4), (0, .nameAndType 5 6), (0, u "java/lang/Object"), (0, u "<init>"), (0, u "()V"), (0, .fieldref 8 9), (0, .class_ 10), (0, .nameAndType 11 12), (0, u "com/example/highwater/highwater/store/StoredMessage"), (0, u "serverMsgId"), (0, u "J"), (0, .fieldref 8 14), (0, .nameAndType 15 12), (0, u "conversationId"), (0, .fieldref 8 17), (0, .nameAndType 18 12), (0, u "msgSeq"), (0, .fieldref 8 20), (0, .nameAndType 21 22), (0, u "from"), (0, u "Ljava/lang/String;"), (0, .fieldref 8 24), (0, .nameAndType 25 22), (0, u "to"), (0, .fieldref 8 27), (0, .nameAndType 28 12), (0, u "groupId"), (0, .fieldref 8 30), (0, .nameAndType 31 22), (0, u "clientMsgId"), (0, .fieldref 8 33), (0, .nameAndType 34 22), (0, u "body"), (0, .fieldref 8 36), (0, .nameAndType 37 12), (0, u "ts"), (0, .fieldref 8 39), (0, .nameAndType 40 41), (0, u "revoked"), (0, u "Z"), (0, .fieldref 8 43), (0, .nameAndType 44 12), (0, u "revokedTs"), (0, .string 46), (0, u ""), (0, .methodref 8 48), (0, .nameAndType 5 49), (0, u "(JJJLjava/lang/String;Ljava/lang/String;JLjava/lang/String;Ljava/lang/String;JZJ)V"), (2, u "revokedAt"), (0, u "(J)Lcom/example/highwater/highwater/store/StoredMessage;"), (0, u "()J"), (0, u "()Ljava/lang/String;"), (0, u "()Z")] 2

def k10c0 : Code := { maxStack := 3, maxLocals := 18, code := prog_31_method_1_code, exceptionTable := #[], attributes := #[] }
def k10m0 : Method := { name := "<init>", desc := "(JJJLjava/lang/String;Ljava/lang/String;JLjava/lang/String;Ljava/lang/String;JZJ)V", sig := { parameters := [.long, .long, .long, (.object "java/lang/String"), (.object "java/lang/String"), .long, (.object "java/lang/String"), (.object "java/lang/String"), .long, .boolean, .long], returnType := none }, accessFlags := 1, code := some k10c0 }
def k10c1 : Code := { maxStack := 19, maxLocals := 3, code := prog_31_method_2_code, exceptionTable := #[], attributes := #[] }
def k10m1 : Method := { name := "revokedAt", desc := "(J)Lcom/example/highwater/highwater/store/StoredMessage;", sig := { parameters := [.long], returnType := some (.object "com/example/highwater/highwater/store/StoredMessage") }, accessFlags := 1, code := some k10c1 }
def k10c2 : Code := { maxStack := 2, maxLocals := 1, code := prog_31_method_3_code, exceptionTable := #[], attributes := #[] }
def k10m2 : Method := { name := "serverMsgId", desc := "()J", sig := { parameters := [], returnType := some .long }, accessFlags := 1, code := some k10c2 }
def k10c3 : Code := { maxStack := 2, maxLocals := 1, code := prog_31_method_4_code, exceptionTable := #[], attributes := #[] }
def k10m3 : Method := { name := "conversationId", desc := "()J", sig := { parameters := [], returnType := some .long }, accessFlags := 1, code := some k10c3 }
def k10c4 : Code := { maxStack := 2, maxLocals := 1, code := prog_31_method_5_code, exceptionTable := #[], attributes := #[] }
def k10m4 : Method := { name := "msgSeq", desc := "()J", sig := { parameters := [], returnType := some .long }, accessFlags := 1, code := some k10c4 }
def k10c5 : Code := { maxStack := 1, maxLocals := 1, code := prog_31_method_6_code, exceptionTable := #[], attributes := #[] }
def k10m5 : Method := { name := "from", desc := "()Ljava/lang/String;", sig := { parameters := [], returnType := some (.object "java/lang/String") }, accessFlags := 1, code := some k10c5 }
def k10c6 : Code := { maxStack := 1, maxLocals := 1, code := prog_31_method_7_code, exceptionTable := #[], attributes := #[] }
def k10m6 : Method := { name := "to", desc := "()Ljava/lang/String;", sig := { parameters := [], returnType := some (.object "java/lang/String") }, accessFlags := 1, code := some k10c6 }
def k10c7 : Code := { maxStack := 2, maxLocals := 1, code := prog_31_method_8_code, exceptionTable := #[], attributes := #[] }
def k10m7 : Method := { name := "groupId", desc := "()J", sig := { parameters := [], returnType := some .long }, accessFlags := 1, code := some k10c7 }
def k10c8 : Code := { maxStack := 1, maxLocals := 1, code := prog_31_method_9_code, exceptionTable := #[], attributes := #[] }
def k10m8 : Method := { name := "clientMsgId", desc := "()Ljava/lang/String;", sig := { parameters := [], returnType := some (.object "java/lang/String") }, accessFlags := 1, code := some k10c8 }
def k10c9 : Code := { maxStack := 1, maxLocals := 1, code := prog_31_method_10_code, exceptionTable := #[], attributes := #[] }
def k10m9 : Method := { name := "body", desc := "()Ljava/lang/String;", sig := { parameters := [], returnType := some (.object "java/lang/String") }, accessFlags := 1, code := some k10c9 }
def k10c10 : Code := { maxStack := 2, maxLocals := 1, code := prog_31_method_11_code, exceptionTable := #[], attributes := #[] }
def k10m10 : Method := { name := "ts", desc := "()J", sig := { parameters := [], returnType := some .long }, accessFlags := 1, code := some k10c10 }
def k10c11 : Code := { maxStack := 1, maxLocals := 1, code := prog_31_method_12_code, exceptionTable := #[], attributes := #[] }
def k10m11 : Method := { name := "revoked", desc := "()Z", sig := { parameters := [], returnType := some .boolean }, accessFlags := 1, code := some k10c11 }
def k10c12 : Code := { maxStack := 2, maxLocals := 1, code := prog_31_method_13_code, exceptionTable := #[], attributes := #[] }
def k10m12 : Method := { name := "revokedTs", desc := "()J", sig := { parameters := [], returnType := some .long }, accessFlags := 1, code := some k10c12 }
/-- com/example/highwater/highwater/store/StoredMessage -/
def k10 : Class := { plain "com/example/highwater/highwater/store/StoredMessage" (some 0) with
  accessFlags := 49
  interfaces := #[]
  cf := some (fileOf pool10 8 #[] #[{ accessFlags := 1, nameIndex := 5, descriptorIndex := 49, attributes := #[] }, { accessFlags := 1, nameIndex := 52, descriptorIndex := 53, attributes := #[] }, { accessFlags := 1, nameIndex := 11, descriptorIndex := 54, attributes := #[] }, { accessFlags := 1, nameIndex := 15, descriptorIndex := 54, attributes := #[] }, { accessFlags := 1, nameIndex := 18, descriptorIndex := 54, attributes := #[] }, { accessFlags := 1, nameIndex := 21, descriptorIndex := 55, attributes := #[] }, { accessFlags := 1, nameIndex := 25, descriptorIndex := 55, attributes := #[] }, { accessFlags := 1, nameIndex := 28, descriptorIndex := 54, attributes := #[] }, { accessFlags := 1, nameIndex := 31, descriptorIndex := 55, attributes := #[] }, { accessFlags := 1, nameIndex := 34, descriptorIndex := 55, attributes := #[] }, { accessFlags := 1, nameIndex := 37, descriptorIndex := 54, attributes := #[] }, { accessFlags := 1, nameIndex := 40, descriptorIndex := 56, attributes := #[] }, { accessFlags := 1, nameIndex := 44, descriptorIndex := 54, attributes := #[] }] 49 2 #[] #[{ accessFlags := 18, nameIndex := 11, descriptorIndex := 12, attributes := #[] }, { accessFlags := 18, nameIndex := 15, descriptorIndex := 12, attributes := #[] }, { accessFlags := 18, nameIndex := 18, descriptorIndex := 12, attributes := #[] }, { accessFlags := 18, nameIndex := 21, descriptorIndex := 22, attributes := #[] }, { accessFlags := 18, nameIndex := 25, descriptorIndex := 22, attributes := #[] }, { accessFlags := 18, nameIndex := 28, descriptorIndex := 12, attributes := #[] }, { accessFlags := 18, nameIndex := 31, descriptorIndex := 22, attributes := #[] }, { accessFlags := 18, nameIndex := 34, descriptorIndex := 22, attributes := #[] }, { accessFlags := 18, nameIndex := 37, descriptorIndex := 12, attributes := #[] }, { accessFlags := 18, nameIndex := 40, descriptorIndex := 41, attributes := #[] }, { accessFlags := 18, nameIndex := 44, descriptorIndex := 12, attributes := #[] }])
  fields := #[{ name := "serverMsgId", type := .long, accessFlags := 18, slot := 0, constantValue := 0 }, { name := "conversationId", type := .long, accessFlags := 18, slot := 1, constantValue := 0 }, { name := "msgSeq", type := .long, accessFlags := 18, slot := 2, constantValue := 0 }, { name := "from", type := (.object "java/lang/String"), accessFlags := 18, slot := 3, constantValue := 0 }, { name := "to", type := (.object "java/lang/String"), accessFlags := 18, slot := 4, constantValue := 0 }, { name := "groupId", type := .long, accessFlags := 18, slot := 5, constantValue := 0 }, { name := "clientMsgId", type := (.object "java/lang/String"), accessFlags := 18, slot := 6, constantValue := 0 }, { name := "body", type := (.object "java/lang/String"), accessFlags := 18, slot := 7, constantValue := 0 }, { name := "ts", type := .long, accessFlags := 18, slot := 8, constantValue := 0 }, { name := "revoked", type := .boolean, accessFlags := 18, slot := 9, constantValue := 0 }, { name := "revokedTs", type := .long, accessFlags := 18, slot := 10, constantValue := 0 }]
  methods := #[k10m0, k10m1, k10m2, k10m3, k10m4, k10m5, k10m6, k10m7, k10m8, k10m9, k10m10, k10m11, k10m12]
  instanceTypes := #[.long, .long, .long, (.object "java/lang/String"), (.object "java/lang/String"), .long, (.object "java/lang/String"), (.object "java/lang/String"), .long, .boolean, .long]
  staticTypes := #[]
  resolved := Array.replicate 59 none
  statics := none }

def pool11 : Array CpInfo := pool [(2, .class_ 4), (1, u "java/lang/Object"), (0, u "<init>"), (0, u "()V"), (17, .class_ 26), (1, u "jdk/internal/util/Preconditions"), (28, .class_ 56), (0, u "jdk/internal/util/Preconditions$4"), (57, .class_ 115), (0, u "jdk/internal/util/Preconditions$1"), (7, u "SIOOBE_FORMATTER"), (0, u "Ljava/util/function/BiFunction;"), (0, .class_ 126), (0, u "jdk/internal/util/Preconditions$2"), (3, u "AIOOBE_FORMATTER"), (0, .class_ 132), (0, u "jdk/internal/util/Preconditions$3"), (3, u "IOOBE_FORMATTER")] 57

def k11m0 : Method := { name := "<init>", desc := "()V", sig := { parameters := [], returnType := none }, accessFlags := 1, code := none }
/-- jdk/internal/util/Preconditions -/
def k11 : Class := { plain "jdk/internal/util/Preconditions" (some 0) with
  accessFlags := 33
  interfaces := #[]
  cf := some (fileOf pool11 24 #[.nestMembers #[55, 131, 125, 114]] #[{ accessFlags := 1, nameIndex := 5, descriptorIndex := 6, attributes := #[] }] 33 2 #[] #[{ accessFlags := 25, nameIndex := 123, descriptorIndex := 124, attributes := #[] }, { accessFlags := 25, nameIndex := 130, descriptorIndex := 124, attributes := #[] }, { accessFlags := 25, nameIndex := 136, descriptorIndex := 124, attributes := #[] }])
  fields := #[{ name := "SIOOBE_FORMATTER", type := (.object "java/util/function/BiFunction"), accessFlags := 25, slot := 0, constantValue := 0 }, { name := "AIOOBE_FORMATTER", type := (.object "java/util/function/BiFunction"), accessFlags := 25, slot := 1, constantValue := 0 }, { name := "IOOBE_FORMATTER", type := (.object "java/util/function/BiFunction"), accessFlags := 25, slot := 2, constantValue := 0 }]
  methods := #[k11m0]
  instanceTypes := #[]
  staticTypes := #[(.object "java/util/function/BiFunction"), (.object "java/util/function/BiFunction"), (.object "java/util/function/BiFunction")]
  resolved := Array.replicate 194 none
  statics := some 1 }

def pool12 : Array CpInfo := pool [(9, u "<init>"), (6, .class_ 18), (1, u "java/lang/Object"), (0, u "()V"), (1, .class_ 23), (1, u "jdk/internal/util/ArraysSupport"), (0, u "LOG2_ARRAY_LONG_INDEX_SCALE"), (0, u "I"), (2, u "U"), (0, u "Ljdk/internal/misc/Unsafe;"), (8, u "BIG_ENDIAN"), (0, u "Z"), (8, u "LOG2_BYTE_BIT_SIZE"), (4, u "LOG2_ARRAY_INT_INDEX_SCALE"), (54, u "JLA"), (0, u "Ljdk/internal/access/JavaLangAccess;"), (11, u "LOG2_ARRAY_BOOLEAN_INDEX_SCALE"), (9, u "LOG2_ARRAY_BYTE_INDEX_SCALE"), (5, u "LOG2_ARRAY_CHAR_INDEX_SCALE"), (5, u "LOG2_ARRAY_SHORT_INDEX_SCALE"), (18, u "LOG2_ARRAY_FLOAT_INDEX_SCALE"), (24, u "LOG2_ARRAY_DOUBLE_INDEX_SCALE"), (89, u "T_BOOLEAN"), (2, u "T_CHAR"), (1, u "T_FLOAT"), (1, u "T_DOUBLE"), (1, u "T_BYTE"), (1, u "T_SHORT"), (1, u "T_INT"), (1, u "T_LONG"), (1, u "SOFT_MAX_ARRAY_LENGTH")] 83

def k12m0 : Method := { name := "<init>", desc := "()V", sig := { parameters := [], returnType := none }, accessFlags := 2, code := none }
/-- jdk/internal/util/ArraysSupport -/
def k12 : Class := { plain "jdk/internal/util/ArraysSupport" (some 0) with
  accessFlags := 33
  interfaces := #[]
  cf := some (fileOf pool12 21 #[] #[{ accessFlags := 2, nameIndex := 9, descriptorIndex := 19, attributes := #[] }] 33 16 #[] #[{ accessFlags := 24, nameIndex := 28, descriptorIndex := 29, attributes := #[] }, { accessFlags := 26, nameIndex := 38, descriptorIndex := 39, attributes := #[] }, { accessFlags := 25, nameIndex := 121, descriptorIndex := 25, attributes := #[] }, { accessFlags := 25, nameIndex := 131, descriptorIndex := 25, attributes := #[] }, { accessFlags := 25, nameIndex := 137, descriptorIndex := 25, attributes := #[] }, { accessFlags := 25, nameIndex := 143, descriptorIndex := 25, attributes := #[] }, { accessFlags := 25, nameIndex := 53, descriptorIndex := 25, attributes := #[] }, { accessFlags := 25, nameIndex := 24, descriptorIndex := 25, attributes := #[] }, { accessFlags := 25, nameIndex := 162, descriptorIndex := 25, attributes := #[] }, { accessFlags := 25, nameIndex := 187, descriptorIndex := 25, attributes := #[] }, { accessFlags := 26, nameIndex := 48, descriptorIndex := 25, attributes := #[] }, { accessFlags := 25, nameIndex := 277, descriptorIndex := 25, attributes := #[] }, { accessFlags := 25, nameIndex := 280, descriptorIndex := 25, attributes := #[] }, { accessFlags := 25, nameIndex := 282, descriptorIndex := 25, attributes := #[] }, { accessFlags := 25, nameIndex := 284, descriptorIndex := 25, attributes := #[] }, { accessFlags := 25, nameIndex := 286, descriptorIndex := 25, attributes := #[] }, { accessFlags := 25, nameIndex := 288, descriptorIndex := 25, attributes := #[] }, { accessFlags := 25, nameIndex := 290, descriptorIndex := 25, attributes := #[] }, { accessFlags := 25, nameIndex := 292, descriptorIndex := 25, attributes := #[] }, { accessFlags := 26, nameIndex := 108, descriptorIndex := 109, attributes := #[] }, { accessFlags := 25, nameIndex := 294, descriptorIndex := 25, attributes := #[] }])
  fields := #[{ name := "U", type := (.object "jdk/internal/misc/Unsafe"), accessFlags := 24, slot := 0, constantValue := 0 }, { name := "BIG_ENDIAN", type := .boolean, accessFlags := 26, slot := 1, constantValue := 0 }, { name := "LOG2_ARRAY_BOOLEAN_INDEX_SCALE", type := .int, accessFlags := 25, slot := 2, constantValue := 0 }, { name := "LOG2_ARRAY_BYTE_INDEX_SCALE", type := .int, accessFlags := 25, slot := 3, constantValue := 0 }, { name := "LOG2_ARRAY_CHAR_INDEX_SCALE", type := .int, accessFlags := 25, slot := 4, constantValue := 0 }, { name := "LOG2_ARRAY_SHORT_INDEX_SCALE", type := .int, accessFlags := 25, slot := 5, constantValue := 0 }, { name := "LOG2_ARRAY_INT_INDEX_SCALE", type := .int, accessFlags := 25, slot := 6, constantValue := 0 }, { name := "LOG2_ARRAY_LONG_INDEX_SCALE", type := .int, accessFlags := 25, slot := 7, constantValue := 0 }, { name := "LOG2_ARRAY_FLOAT_INDEX_SCALE", type := .int, accessFlags := 25, slot := 8, constantValue := 0 }, { name := "LOG2_ARRAY_DOUBLE_INDEX_SCALE", type := .int, accessFlags := 25, slot := 9, constantValue := 0 }, { name := "LOG2_BYTE_BIT_SIZE", type := .int, accessFlags := 26, slot := 10, constantValue := 0 }, { name := "T_BOOLEAN", type := .int, accessFlags := 25, slot := 11, constantValue := 0 }, { name := "T_CHAR", type := .int, accessFlags := 25, slot := 12, constantValue := 0 }, { name := "T_FLOAT", type := .int, accessFlags := 25, slot := 13, constantValue := 0 }, { name := "T_DOUBLE", type := .int, accessFlags := 25, slot := 14, constantValue := 0 }, { name := "T_BYTE", type := .int, accessFlags := 25, slot := 15, constantValue := 0 }, { name := "T_SHORT", type := .int, accessFlags := 25, slot := 16, constantValue := 0 }, { name := "T_INT", type := .int, accessFlags := 25, slot := 17, constantValue := 0 }, { name := "T_LONG", type := .int, accessFlags := 25, slot := 18, constantValue := 0 }, { name := "JLA", type := (.object "jdk/internal/access/JavaLangAccess"), accessFlags := 26, slot := 19, constantValue := 0 }, { name := "SOFT_MAX_ARRAY_LENGTH", type := .int, accessFlags := 25, slot := 20, constantValue := 0 }]
  methods := #[k12m0]
  instanceTypes := #[]
  staticTypes := #[(.object "jdk/internal/misc/Unsafe"), .boolean, .int, .int, .int, .int, .int, .int, .int, .int, .int, .int, .int, .int, .int, .int, .int, .int, .int, (.object "jdk/internal/access/JavaLangAccess"), .int]
  resolved := Array.replicate 378 none
  statics := none }

def pool13 : Array CpInfo := pool [(1, u "java/lang/Cloneable"), (0, .class_ 1), (0, u "java/lang/Object"), (0, .class_ 3)] 3

/-- java/lang/Cloneable -/
def k13 : Class := { plain "java/lang/Cloneable" (some 0) with
  accessFlags := 1537
  interfaces := #[]
  cf := some (fileOf pool13 2 #[] #[] 1537 4 #[] #[])
  fields := #[]
  methods := #[]
  instanceTypes := #[]
  staticTypes := #[]
  resolved := Array.replicate 8 none
  statics := none }

/-- the primitive byte -/
def k14 : Class := { plain "byte" none with kind := .primitive 'B', accessFlags := 0x411 }
/-- [B -/
def k15 : Class := { plain "[B" (some 0) with kind := .array 14 .byte, interfaces := #[13, 2], accessFlags := 1041 }

/-- the primitive char -/
def k16 : Class := { plain "char" none with kind := .primitive 'C', accessFlags := 0x411 }
/-- [C -/
def k17 : Class := { plain "[C" (some 0) with kind := .array 16 .char, interfaces := #[13, 2], accessFlags := 1041 }

/-- the primitive int -/
def k18 : Class := { plain "int" none with kind := .primitive 'I', accessFlags := 0x411 }
/-- [I -/
def k19 : Class := { plain "[I" (some 0) with kind := .array 18 .int, interfaces := #[13, 2], accessFlags := 1041 }

def heap : Heap := #[{ cls := 7, slots := #[.long 0, .int 1, .null, .int 0, .null, .int 0, .int 0], vm := .statics 7 },
  { cls := 11, slots := #[.null, .null, .null], vm := .statics 11 }]
def classes : Array Class := #[k0, k1, k2, k3, k4, k5, k6, k7, k8, k9, k10, k11, k12, k13, k14, k15, k16, k17, k18, k19]
def interned : List (Array UInt16 × Addr) := []
def slotsUsed : Nat := 10
def theMethod : MethodId := ⟨1, 1⟩
def args0 : Array Value := #[.long 5, .long 6, .long 7, .long 8, .long 9, .int 3]
def aboutOver (below : List Frame) : State where
  vm := { classes := classes, interned := interned.toArray }
  heap := heap
  slotsUsed := slotsUsed
  threads := #[{ frames := .invoking theMethod args0 :: below }]
def below0 : List Frame := [.native { method := ⟨0, 0⟩, args := #[] }]
def about1 : State := aboutOver below0
def p0 : Program := .bare "" "" ""
def e0 : Env := launch0.env 0 0 0
theorem w_frames : about1.frames = Frame.invoking theMethod args0 :: below0 := rfl
set_option maxRecDepth 65536 in
theorem w_args : argsFit about1.vm theMethod args0 = true := by decide +kernel
set_option maxRecDepth 65536 in
theorem w_heap : heapFits about1 = true := by decide +kernel
set_option maxRecDepth 65536 in
theorem w_runnable : about1.curStatus? = some .runnable := by decide +kernel
set_option maxRecDepth 65536 in
theorem w_alone : about1.alone = true := by decide +kernel
set_option maxRecDepth 65536 in
theorem w_named : about1.methodNamed? x = some theMethod := by decide +kernel
set_option maxRecDepth 65536 in
theorem w_hears : about1.hears theMethod below0 = true := by decide +kernel
set_option maxRecDepth 65536 in
theorem w_ripe : about1.ripe theMethod args0 below0 = true := by decide +kernel
theorem w_running : about1.status = .running := rfl
set_option maxRecDepth 65536 in
theorem w_room : about1.hasRoom e0.platform room_1 = true :=
  launch0.hasRoom_least _ room_1 (by decide +kernel) (by decide +kernel) (by decide +kernel) (by decide +kernel) (by decide +kernel) (by decide +kernel)
theorem allAtoms_all (ts : List Jvm.Cond) (a : Array Jvm.Value) (st : Jvm.State) : (allAtoms ts).before a st = ts.all (fun c => c.before a st) := by
  induction ts with
  | nil => rfl
  | cons c t ih =>
    show (Jvm.Cond.and c (allAtoms t)).before a st = _
    rw [Jvm.Cond.before_and, ih, List.all_cons]
def words1 : List Jvm.Cond := Jvm.Cond.code x code maxLocals ret :: tables_1
/-- a 'code' word, met by the world's own term for the bytes: nothing is compared byte by byte -/
theorem code_word {y : MethodName} {bytes : ByteArray} {mx : Nat} {rt : Option FieldType} {a : Array Value} {s : State} {m : MethodId} {meth : Method} {c : Code} (h1 : s.methodNamed? y = some m) (h2 : s.vm.method? m = some meth) (h3 : meth.code = some c) (h4 : c.code = bytes)
    (h5 : (c.maxLocals == mx && c.exceptionTable.isEmpty && decide (c.maxStack ≤ mostOperands) && decide (meth.sig.returnType = rt) && !meth.locks && decide (parseMethodDescriptor y.desc = some meth.sig)) = true) : (Jvm.Cond.code y bytes mx rt).before a s = true := by
  simp only [Bool.and_eq_true, beq_iff_eq, Bool.not_eq_true', decide_eq_true_eq] at h5
  obtain ⟨⟨⟨⟨⟨g1, g2⟩, g3⟩, g4⟩, g5⟩, g6⟩ := h5
  simp [Cond.before, Cond.holds, Cond.value, h1, h2, h3, h4, g1, g2, g3, g4, g5, g6]
def isCode : Jvm.Cond → Bool
  | .code _ _ _ _ => true
  | _ => false
theorem all_split {L : List Jvm.Cond} {P : Jvm.Cond → Bool} (h1 : L.all (fun c => isCode c || P c) = true) (h2 : ∀ c ∈ L.filter isCode, P c = true) : L.all P = true := by
  refine List.all_eq_true.mpr fun c hc => ?_
  have h := List.all_eq_true.mp h1 c hc
  rcases Bool.eq_false_or_eq_true (isCode c) with hi | hi
  · exact h2 c (List.mem_filter.mpr ⟨hc, hi⟩)
  · simpa [hi] using h
set_option maxRecDepth 65536 in
theorem w_c0 : (Jvm.Cond.code x code maxLocals ret).before args0 about1 = true := code_word (m := ⟨1, 1⟩) (meth := k1m1) (c := k1c1) (by decide +kernel) rfl rfl rfl (by decide +kernel)
set_option maxRecDepth 65536 in
theorem w_c1 : (Jvm.Cond.code ({ cls := "java/lang/String", name := "valueOf", desc := "(C)Ljava/lang/String;" } : Jvm.MethodName) jdk_42_method_139_code (1 : Nat) (Option.some (Jvm.ClassFile.FieldType.object "java/lang/String"))).before args0 about1 = true := code_word (m := ⟨7, 4⟩) (meth := k7m4) (c := k7c4) (by decide +kernel) rfl rfl rfl (by decide +kernel)
set_option maxRecDepth 65536 in
theorem w_c2 : (Jvm.Cond.code ({ cls := "java/lang/StringLatin1", name := "canEncode", desc := "(C)Z" } : Jvm.MethodName) jdk_43_method_3_code (1 : Nat) (Option.some Jvm.ClassFile.FieldType.boolean)).before args0 about1 = true := code_word (m := ⟨8, 1⟩) (meth := k8m1) (c := k8c1) (by decide +kernel) rfl rfl rfl (by decide +kernel)
set_option maxRecDepth 65536 in
theorem w_c3 : (Jvm.Cond.code ({ cls := "java/lang/StringLatin1", name := "toBytes", desc := "(C)[B" } : Jvm.MethodName) jdk_43_method_46_code (1 : Nat) (Option.some (Jvm.ClassFile.FieldType.array Jvm.ClassFile.FieldType.byte))).before args0 about1 = true := code_word (m := ⟨8, 2⟩) (meth := k8m2) (c := k8c2) (by decide +kernel) rfl rfl rfl (by decide +kernel)
set_option maxRecDepth 65536 in
theorem w_c4 : (Jvm.Cond.code ({ cls := "java/lang/String", name := "<init>", desc := "([BB)V" } : Jvm.MethodName) jdk_42_method_151_code (3 : Nat) (Option.none : Option Jvm.ClassFile.FieldType)).before args0 about1 = true := code_word (m := ⟨7, 6⟩) (meth := k7m6) (c := k7c6) (by decide +kernel) rfl rfl rfl (by decide +kernel)
set_option maxRecDepth 65536 in
theorem w_c5 : (Jvm.Cond.code ({ cls := "java/lang/Object", name := "<init>", desc := "()V" } : Jvm.MethodName) object_method_1_code (1 : Nat) (Option.none : Option Jvm.ClassFile.FieldType)).before args0 about1 = true := code_word (m := ⟨0, 0⟩) (meth := k0m0) (c := k0c0) (by decide +kernel) rfl rfl rfl (by decide +kernel)
set_option maxRecDepth 65536 in
theorem w_c6 : (Jvm.Cond.code ({ cls := "java/lang/String", name := "<init>", desc := "([C)V" } : Jvm.MethodName) jdk_42_method_3_code (2 : Nat) (Option.none : Option Jvm.ClassFile.FieldType)).before args0 about1 = true := code_word (m := ⟨7, 1⟩) (meth := k7m1) (c := k7c1) (by decide +kernel) rfl rfl rfl (by decide +kernel)
set_option maxRecDepth 65536 in
theorem w_c7 : (Jvm.Cond.code ({ cls := "java/lang/String", name := "<init>", desc := "([CIILjava/lang/Void;)V" } : Jvm.MethodName) jdk_42_method_149_code (6 : Nat) (Option.none : Option Jvm.ClassFile.FieldType)).before args0 about1 = true := code_word (m := ⟨7, 5⟩) (meth := k7m5) (c := k7c5) (by decide +kernel) rfl rfl rfl (by decide +kernel)
set_option maxRecDepth 65536 in
theorem w_c8 : (Jvm.Cond.code ({ cls := "java/lang/StringUTF16", name := "compress", desc := "([CII)[B" } : Jvm.MethodName) jdk_52_method_16_code (6 : Nat) (Option.some (Jvm.ClassFile.FieldType.array Jvm.ClassFile.FieldType.byte))).before args0 about1 = true := code_word (m := ⟨9, 2⟩) (meth := k9m2) (c := k9c2) (by decide +kernel) rfl rfl rfl (by decide +kernel)
set_option maxRecDepth 65536 in
theorem w_c9 : (Jvm.Cond.code ({ cls := "java/lang/StringUTF16", name := "compress", desc := "([CI[BII)I" } : Jvm.MethodName) jdk_52_method_21_code (7 : Nat) (Option.some Jvm.ClassFile.FieldType.int)).before args0 about1 = true := code_word (m := ⟨9, 3⟩) (meth := k9m3) (c := k9c3) (by decide +kernel) rfl rfl rfl (by decide +kernel)
set_option maxRecDepth 65536 in
theorem w_c10 : (Jvm.Cond.code ({ cls := "java/lang/StringUTF16", name := "coderFromArrayLen", desc := "([BI)B" } : Jvm.MethodName) jdk_52_method_15_code (2 : Nat) (Option.some Jvm.ClassFile.FieldType.byte)).before args0 about1 = true := code_word (m := ⟨9, 1⟩) (meth := k9m1) (c := k9c1) (by decide +kernel) rfl rfl rfl (by decide +kernel)
set_option maxRecDepth 65536 in
theorem w_c11 : (Jvm.Cond.code ({ cls := "com/example/highwater/highwater/store/StoredMessage", name := "<init>", desc := "(JJJLjava/lang/String;Ljava/lang/String;JLjava/lang/String;Ljava/lang/String;JZJ)V" } : Jvm.MethodName) prog_31_method_1_code (18 : Nat) (Option.none : Option Jvm.ClassFile.FieldType)).before args0 about1 = true := code_word (m := ⟨10, 0⟩) (meth := k10m0) (c := k10c0) (by decide +kernel) rfl rfl rfl (by decide +kernel)
set_option maxRecDepth 65536 in
theorem w_c12 : (Jvm.Cond.code ({ cls := "com/example/highwater/highwater/store/StoredMessage", name := "revokedAt", desc := "(J)Lcom/example/highwater/highwater/store/StoredMessage;" } : Jvm.MethodName) prog_31_method_2_code (3 : Nat) (Option.some (Jvm.ClassFile.FieldType.object "com/example/highwater/highwater/store/StoredMessage"))).before args0 about1 = true := code_word (m := ⟨10, 1⟩) (meth := k10m1) (c := k10c1) (by decide +kernel) rfl rfl rfl (by decide +kernel)
set_option maxRecDepth 65536 in
theorem w_c13 : (Jvm.Cond.code ({ cls := "com/example/highwater/highwater/store/StoredMessage", name := "to", desc := "()Ljava/lang/String;" } : Jvm.MethodName) prog_31_method_7_code (1 : Nat) (Option.some (Jvm.ClassFile.FieldType.object "java/lang/String"))).before args0 about1 = true := code_word (m := ⟨10, 6⟩) (meth := k10m6) (c := k10c6) (by decide +kernel) rfl rfl rfl (by decide +kernel)
set_option maxRecDepth 65536 in
theorem w_c14 : (Jvm.Cond.code ({ cls := "java/lang/String", name := "equals", desc := "(Ljava/lang/Object;)Z" } : Jvm.MethodName) jdk_42_method_66_code (3 : Nat) (Option.some Jvm.ClassFile.FieldType.boolean)).before args0 about1 = true := code_word (m := ⟨7, 3⟩) (meth := k7m3) (c := k7c3) (by decide +kernel) rfl rfl rfl (by decide +kernel)
set_option maxRecDepth 65536 in
theorem w_c15 : (Jvm.Cond.code ({ cls := "com/example/highwater/highwater/store/StoredMessage", name := "from", desc := "()Ljava/lang/String;" } : Jvm.MethodName) prog_31_method_6_code (1 : Nat) (Option.some (Jvm.ClassFile.FieldType.object "java/lang/String"))).before args0 about1 = true := code_word (m := ⟨10, 5⟩) (meth := k10m5) (c := k10c5) (by decide +kernel) rfl rfl rfl (by decide +kernel)
set_option maxRecDepth 65536 in
theorem w_c16 : (Jvm.Cond.code ({ cls := "com/example/highwater/highwater/store/StoredMessage", name := "clientMsgId", desc := "()Ljava/lang/String;" } : Jvm.MethodName) prog_31_method_9_code (1 : Nat) (Option.some (Jvm.ClassFile.FieldType.object "java/lang/String"))).before args0 about1 = true := code_word (m := ⟨10, 8⟩) (meth := k10m8) (c := k10c8) (by decide +kernel) rfl rfl rfl (by decide +kernel)
set_option maxRecDepth 65536 in
theorem w_c17 : (Jvm.Cond.code ({ cls := "com/example/highwater/highwater/store/StoredMessage", name := "body", desc := "()Ljava/lang/String;" } : Jvm.MethodName) prog_31_method_10_code (1 : Nat) (Option.some (Jvm.ClassFile.FieldType.object "java/lang/String"))).before args0 about1 = true := code_word (m := ⟨10, 9⟩) (meth := k10m9) (c := k10c9) (by decide +kernel) rfl rfl rfl (by decide +kernel)
set_option maxRecDepth 65536 in
theorem w_c18 : (Jvm.Cond.code ({ cls := "com/example/highwater/highwater/store/StoredMessage", name := "serverMsgId", desc := "()J" } : Jvm.MethodName) prog_31_method_3_code (1 : Nat) (Option.some Jvm.ClassFile.FieldType.long)).before args0 about1 = true := code_word (m := ⟨10, 2⟩) (meth := k10m2) (c := k10c2) (by decide +kernel) rfl rfl rfl (by decide +kernel)
set_option maxRecDepth 65536 in
theorem w_c19 : (Jvm.Cond.code ({ cls := "com/example/highwater/highwater/store/StoredMessage", name := "conversationId", desc := "()J" } : Jvm.MethodName) prog_31_method_4_code (1 : Nat) (Option.some Jvm.ClassFile.FieldType.long)).before args0 about1 = true := code_word (m := ⟨10, 3⟩) (meth := k10m3) (c := k10c3) (by decide +kernel) rfl rfl rfl (by decide +kernel)
set_option maxRecDepth 65536 in
theorem w_c20 : (Jvm.Cond.code ({ cls := "com/example/highwater/highwater/store/StoredMessage", name := "msgSeq", desc := "()J" } : Jvm.MethodName) prog_31_method_5_code (1 : Nat) (Option.some Jvm.ClassFile.FieldType.long)).before args0 about1 = true := code_word (m := ⟨10, 4⟩) (meth := k10m4) (c := k10c4) (by decide +kernel) rfl rfl rfl (by decide +kernel)
set_option maxRecDepth 65536 in
theorem w_c21 : (Jvm.Cond.code ({ cls := "com/example/highwater/highwater/store/StoredMessage", name := "groupId", desc := "()J" } : Jvm.MethodName) prog_31_method_8_code (1 : Nat) (Option.some Jvm.ClassFile.FieldType.long)).before args0 about1 = true := code_word (m := ⟨10, 7⟩) (meth := k10m7) (c := k10c7) (by decide +kernel) rfl rfl rfl (by decide +kernel)
set_option maxRecDepth 65536 in
theorem w_c22 : (Jvm.Cond.code ({ cls := "java/lang/String", name := "isEmpty", desc := "()Z" } : Jvm.MethodName) jdk_42_method_55_code (1 : Nat) (Option.some Jvm.ClassFile.FieldType.boolean)).before args0 about1 = true := code_word (m := ⟨7, 2⟩) (meth := k7m2) (c := k7c2) (by decide +kernel) rfl rfl rfl (by decide +kernel)
set_option maxRecDepth 65536 in
theorem w_c23 : (Jvm.Cond.code ({ cls := "com/example/highwater/highwater/store/StoredMessage", name := "ts", desc := "()J" } : Jvm.MethodName) prog_31_method_11_code (1 : Nat) (Option.some Jvm.ClassFile.FieldType.long)).before args0 about1 = true := code_word (m := ⟨10, 10⟩) (meth := k10m10) (c := k10c10) (by decide +kernel) rfl rfl rfl (by decide +kernel)
set_option maxRecDepth 65536 in
theorem w_c24 : (Jvm.Cond.code ({ cls := "com/example/highwater/highwater/store/StoredMessage", name := "revoked", desc := "()Z" } : Jvm.MethodName) prog_31_method_12_code (1 : Nat) (Option.some Jvm.ClassFile.FieldType.boolean)).before args0 about1 = true := code_word (m := ⟨10, 11⟩) (meth := k10m11) (c := k10c11) (by decide +kernel) rfl rfl rfl (by decide +kernel)
set_option maxRecDepth 65536 in
theorem w_c25 : (Jvm.Cond.code ({ cls := "com/example/highwater/highwater/store/StoredMessage", name := "revokedTs", desc := "()J" } : Jvm.MethodName) prog_31_method_13_code (1 : Nat) (Option.some Jvm.ClassFile.FieldType.long)).before args0 about1 = true := code_word (m := ⟨10, 12⟩) (meth := k10m12) (c := k10c12) (by decide +kernel) rfl rfl rfl (by decide +kernel)
def codes1 : List Jvm.Cond := [Jvm.Cond.code x code maxLocals ret, Jvm.Cond.code ({ cls := "java/lang/String", name := "valueOf", desc := "(C)Ljava/lang/String;" } : Jvm.MethodName) jdk_42_method_139_code (1 : Nat) (Option.some (Jvm.ClassFile.FieldType.object "java/lang/String")), Jvm.Cond.code ({ cls := "java/lang/StringLatin1", name := "canEncode", desc := "(C)Z" } : Jvm.MethodName) jdk_43_method_3_code (1 : Nat) (Option.some Jvm.ClassFile.FieldType.boolean), Jvm.Cond.code ({ cls := "java/lang/StringLatin1", name := "toBytes", desc := "(C)[B" } : Jvm.MethodName) jdk_43_method_46_code (1 : Nat) (Option.some (Jvm.ClassFile.FieldType.array Jvm.ClassFile.FieldType.byte)), Jvm.Cond.code ({ cls := "java/lang/String", name := "<init>", desc := "([BB)V" } : Jvm.MethodName) jdk_42_method_151_code (3 : Nat) (Option.none : Option Jvm.ClassFile.FieldType), Jvm.Cond.code ({ cls := "java/lang/Object", name := "<init>", desc := "()V" } : Jvm.MethodName) object_method_1_code (1 : Nat) (Option.none : Option Jvm.ClassFile.FieldType), Jvm.Cond.code ({ cls := "java/lang/String", name := "<init>", desc := "([C)V" } : Jvm.MethodName) jdk_42_method_3_code (2 : Nat) (Option.none : Option Jvm.ClassFile.FieldType), Jvm.Cond.code ({ cls := "java/lang/String", name := "<init>", desc := "([CIILjava/lang/Void;)V" } : Jvm.MethodName) jdk_42_method_149_code (6 : Nat) (Option.none : Option Jvm.ClassFile.FieldType), Jvm.Cond.code ({ cls := "java/lang/StringUTF16", name := "compress", desc := "([CII)[B" } : Jvm.MethodName) jdk_52_method_16_code (6 : Nat) (Option.some (Jvm.ClassFile.FieldType.array Jvm.ClassFile.FieldType.byte)), Jvm.Cond.code ({ cls := "java/lang/StringUTF16", name := "compress", desc := "([CI[BII)I" } : Jvm.MethodName) jdk_52_method_21_code (7 : Nat) (Option.some Jvm.ClassFile.FieldType.int), Jvm.Cond.code ({ cls := "java/lang/StringUTF16", name := "coderFromArrayLen", desc := "([BI)B" } : Jvm.MethodName) jdk_52_method_15_code (2 : Nat) (Option.some Jvm.ClassFile.FieldType.byte), Jvm.Cond.code ({ cls := "com/example/highwater/highwater/store/StoredMessage", name := "<init>", desc := "(JJJLjava/lang/String;Ljava/lang/String;JLjava/lang/String;Ljava/lang/String;JZJ)V" } : Jvm.MethodName) prog_31_method_1_code (18 : Nat) (Option.none : Option Jvm.ClassFile.FieldType), Jvm.Cond.code ({ cls := "com/example/highwater/highwater/store/StoredMessage", name := "revokedAt", desc := "(J)Lcom/example/highwater/highwater/store/StoredMessage;" } : Jvm.MethodName) prog_31_method_2_code (3 : Nat) (Option.some (Jvm.ClassFile.FieldType.object "com/example/highwater/highwater/store/StoredMessage")), Jvm.Cond.code ({ cls := "com/example/highwater/highwater/store/StoredMessage", name := "to", desc := "()Ljava/lang/String;" } : Jvm.MethodName) prog_31_method_7_code (1 : Nat) (Option.some (Jvm.ClassFile.FieldType.object "java/lang/String")), Jvm.Cond.code ({ cls := "java/lang/String", name := "equals", desc := "(Ljava/lang/Object;)Z" } : Jvm.MethodName) jdk_42_method_66_code (3 : Nat) (Option.some Jvm.ClassFile.FieldType.boolean), Jvm.Cond.code ({ cls := "com/example/highwater/highwater/store/StoredMessage", name := "from", desc := "()Ljava/lang/String;" } : Jvm.MethodName) prog_31_method_6_code (1 : Nat) (Option.some (Jvm.ClassFile.FieldType.object "java/lang/String")), Jvm.Cond.code ({ cls := "com/example/highwater/highwater/store/StoredMessage", name := "clientMsgId", desc := "()Ljava/lang/String;" } : Jvm.MethodName) prog_31_method_9_code (1 : Nat) (Option.some (Jvm.ClassFile.FieldType.object "java/lang/String")), Jvm.Cond.code ({ cls := "com/example/highwater/highwater/store/StoredMessage", name := "body", desc := "()Ljava/lang/String;" } : Jvm.MethodName) prog_31_method_10_code (1 : Nat) (Option.some (Jvm.ClassFile.FieldType.object "java/lang/String")), Jvm.Cond.code ({ cls := "com/example/highwater/highwater/store/StoredMessage", name := "serverMsgId", desc := "()J" } : Jvm.MethodName) prog_31_method_3_code (1 : Nat) (Option.some Jvm.ClassFile.FieldType.long), Jvm.Cond.code ({ cls := "com/example/highwater/highwater/store/StoredMessage", name := "conversationId", desc := "()J" } : Jvm.MethodName) prog_31_method_4_code (1 : Nat) (Option.some Jvm.ClassFile.FieldType.long), Jvm.Cond.code ({ cls := "com/example/highwater/highwater/store/StoredMessage", name := "msgSeq", desc := "()J" } : Jvm.MethodName) prog_31_method_5_code (1 : Nat) (Option.some Jvm.ClassFile.FieldType.long), Jvm.Cond.code ({ cls := "com/example/highwater/highwater/store/StoredMessage", name := "groupId", desc := "()J" } : Jvm.MethodName) prog_31_method_8_code (1 : Nat) (Option.some Jvm.ClassFile.FieldType.long), Jvm.Cond.code ({ cls := "java/lang/String", name := "isEmpty", desc := "()Z" } : Jvm.MethodName) jdk_42_method_55_code (1 : Nat) (Option.some Jvm.ClassFile.FieldType.boolean), Jvm.Cond.code ({ cls := "com/example/highwater/highwater/store/StoredMessage", name := "ts", desc := "()J" } : Jvm.MethodName) prog_31_method_11_code (1 : Nat) (Option.some Jvm.ClassFile.FieldType.long), Jvm.Cond.code ({ cls := "com/example/highwater/highwater/store/StoredMessage", name := "revoked", desc := "()Z" } : Jvm.MethodName) prog_31_method_12_code (1 : Nat) (Option.some Jvm.ClassFile.FieldType.boolean), Jvm.Cond.code ({ cls := "com/example/highwater/highwater/store/StoredMessage", name := "revokedTs", desc := "()J" } : Jvm.MethodName) prog_31_method_13_code (1 : Nat) (Option.some Jvm.ClassFile.FieldType.long)]
set_option maxRecDepth 65536 in
theorem codes_eq : words1.filter isCode = codes1 := rfl
theorem w_codes : ∀ c ∈ words1.filter isCode, c.before args0 about1 = true := by
  rw [codes_eq]
  intro c hc
  simp only [codes1, List.mem_cons, List.not_mem_nil, or_false] at hc
  rcases hc with rfl | rfl | rfl | rfl | rfl | rfl | rfl | rfl | rfl | rfl | rfl | rfl | rfl | rfl | rfl | rfl | rfl | rfl | rfl | rfl | rfl | rfl | rfl | rfl | rfl | rfl
  · exact w_c0
  · exact w_c1
  · exact w_c2
  · exact w_c3
  · exact w_c4
  · exact w_c5
  · exact w_c6
  · exact w_c7
  · exact w_c8
  · exact w_c9
  · exact w_c10
  · exact w_c11
  · exact w_c12
  · exact w_c13
  · exact w_c14
  · exact w_c15
  · exact w_c16
  · exact w_c17
  · exact w_c18
  · exact w_c19
  · exact w_c20
  · exact w_c21
  · exact w_c22
  · exact w_c23
  · exact w_c24
  · exact w_c25
set_option maxRecDepth 65536 in
theorem w_t1 : (words1.take 24).all (fun c => isCode c || c.before args0 about1) = true := by decide +kernel
set_option maxRecDepth 65536 in
theorem w_t2 : ((words1.drop 24).take 24).all (fun c => isCode c || c.before args0 about1) = true := by decide +kernel
set_option maxRecDepth 65536 in
theorem w_t3 : (((words1.drop 24).drop 24).take 24).all (fun c => isCode c || c.before args0 about1) = true := by decide +kernel
set_option maxRecDepth 65536 in
theorem w_t4 : ((((words1.drop 24).drop 24).drop 24).take 24).all (fun c => isCode c || c.before args0 about1) = true := by decide +kernel
set_option maxRecDepth 65536 in
theorem w_t5 : (((((words1.drop 24).drop 24).drop 24).drop 24).take 24).all (fun c => isCode c || c.before args0 about1) = true := by decide +kernel
set_option maxRecDepth 65536 in
theorem w_t6 : ((((((words1.drop 24).drop 24).drop 24).drop 24).drop 24).take 24).all (fun c => isCode c || c.before args0 about1) = true := by decide +kernel
set_option maxRecDepth 65536 in
theorem w_t7 : ((((((words1.drop 24).drop 24).drop 24).drop 24).drop 24).drop 24).all (fun c => isCode c || c.before args0 about1) = true := by decide +kernel
theorem w_tables : (allAtoms (Jvm.Cond.code x code maxLocals ret :: tables_1)).before args0 about1 = true := by
  rw [allAtoms_all]
  show words1.all (fun c => c.before args0 about1) = true
  refine all_split ?_ w_codes
  rw [← List.take_append_drop 24 words1, List.all_append, w_t1, ← List.take_append_drop 24 (words1.drop 24), List.all_append, w_t2, ← List.take_append_drop 24 ((words1.drop 24).drop 24), List.all_append, w_t3, ← List.take_append_drop 24 (((words1.drop 24).drop 24).drop 24), List.all_append, w_t4, ← List.take_append_drop 24 ((((words1.drop 24).drop 24).drop 24).drop 24), List.all_append, w_t5, ← List.take_append_drop 24 (((((words1.drop 24).drop 24).drop 24).drop 24).drop 24), List.all_append, w_t6, w_t7]
  rfl
set_option maxRecDepth 65536 in
theorem w_rest : rest_1_c.before args0 about1 = true := by decide +kernel
set_option maxRecDepth 65536 in
theorem w_case : (Jvm.Cond.and given_1 narrow_1).before args0 about1 = true := by decide +kernel
set_option maxRecDepth 65536 in
theorem w_consts : constsHeld consts_1 about1 := Jvm.Lit.constsHeldB_iff.mp (by decide +kernel)
theorem w_applies : (headSpec (Jvm.Cond.code x code maxLocals ret :: tables_1) room_1).applies x e0.platform about1 = true :=
  (Spec.applies_iff w_frames).mpr ⟨w_running, w_runnable, w_alone, w_named, w_hears, w_ripe, w_room, w_tables⟩
theorem atStart : AtStart classFile x code maxLocals ret World_1 tables_1 room_1 Calls_1 rest_1 Pre_1 launch0 p0 e0 about1 theMethod args0 below0 :=
  ⟨lists_1, trivial, launch0.admits_env _ _ _, launch0.least_env, fairChoices_fair.cas, fairChoices_fair.clock, w_frames, w_args, w_heap, w_applies, ⟨w_consts, trivial⟩, w_rest, w_case⟩
end start1
theorem witness_1 : WitnessClaimed_1 := ⟨start1.p0, start1.e0, start1.about1, start1.theMethod, start1.args0, start1.below0, start1.atStart⟩
end Jvm.Pilot.@@N@@
