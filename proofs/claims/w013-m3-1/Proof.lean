import JvmDerived
import JvmDerived.Pilot.@@N@@Statement
import JvmDerived.Pilot.@@N@@Code
set_option linter.unusedVariables false
set_option linter.unusedSimpArgs false
/- laws to paste: Road.backV (cut by pick.py; bodies as the Statement names them) -/
namespace Jvm.Pilot.@@N@@
namespace StrChars
open Jvm Sem ClassFile Op Lib Jvm.Stand Jvm.Free.XT Jvm.Free.ALB Jvm.Free.JM Jvm.Free
open Jvm.Lib.Cold (StaticIs)
/-- a char array whose places are chars -/
def Ch (a : Addr) (A : Cell) (U : State) : Prop := Arr .char a A U ∧ Typed .char A
theorem Ch.mv {a : Addr} {A : Cell} {U U' : State} (h : Ch a A U) (hal : U.vm.Alike U'.vm) (hh : U'.heap = U.heap) : Ch a A U' := ⟨h.1.mv hal hh, h.2⟩
theorem Ch.keep {a : Addr} {A : Cell} {U U' : State} (h : Ch a A U) (hal : U.vm.Alike U'.vm) (hk : U'.heap[a]? = some A) : Ch a A U' := ⟨h.1.keep hal hk, h.2⟩
/-- what place i of a char[]'s cell holds -/
def cv (A : Cell) (i : Nat) : Int32 := match A.slots[i]? with | some (.int x) => x | _ => 0
theorem Ch.get {a : Addr} {A : Cell} {U : State} (h : Ch a A U) {i : Nat} (hi : i < A.slots.size) : A.slots[i]? = some (.int (cv A i)) := by
  have e := Array.getElem?_eq_getElem hi
  have f := h.2 i _ e
  unfold cv; rw [e]
  generalize A.slots[i] = v at f
  cases v <;> simp [fits] at f ⊢
/-- the byte that i2b leaves of a char -/
def lo8 (x : Int32) : Int32 := x.toInt8.toInt32
theorem fits_lo8 (y : Int32) : fits .byte (.int (lo8 y)) = true := by
  have h1 := y.toInt8.le_toInt
  have h2 := y.toInt8.toInt_lt
  simp only [lo8, fits, Bool.and_eq_true, decide_eq_true_eq, Int32.le_iff_toInt_le, Int8.toInt_toInt32, show (-128 : Int32).toInt = -128 from by decide, show (127 : Int32).toInt = 127 from by decide]
  omega
/-- A' is A but that each place j of lo .. hi - 1 holds f j -/
def Laid (A A' : Cell) (lo hi : Nat) (f : Nat → Value) : Prop := A'.cls = A.cls ∧ A'.vm = A.vm ∧ A'.slots.size = A.slots.size ∧ ∀ i, A'.slots[i]? = if lo ≤ i ∧ i < hi then some (f i) else A.slots[i]?
theorem Laid.zero (A : Cell) (lo : Nat) (f : Nat → Value) : Laid A A lo (lo + 0) f := ⟨rfl, rfl, rfl, fun i => by rw [if_neg (by omega)]⟩
theorem Laid.step {A Ak : Cell} {lo k : Nat} {f : Nat → Value} {v : Value} (h : Laid A Ak lo k f) (hlo : lo ≤ k) (hk : k < Ak.slots.size) (hv : v = f k) : Laid A (Ak.setSlot k v) lo (k + 1) f := by
  refine ⟨h.1, h.2.1, by simpa [Cell.setSlot] using h.2.2.1, fun i => ?_⟩
  by_cases e : k = i
  · subst e; rw [Cell.slots_setSlot_self v hk, if_pos (by omega), hv]
  · rw [Cell.slots_setSlot_ne v e, h.2.2.2 i]
    by_cases q : lo ≤ i ∧ i < k
    · rw [if_pos q, if_pos (by omega)]
    · rw [if_neg q, if_neg (by omega)]
def U16 : String := "java/lang/StringUTF16"
namespace Cmp5
def yN : MethodName := ⟨"java/lang/StringUTF16", "compress", "([CI[BII)I"⟩
abbrev yB : ByteArray := jdk_52_method_21_code
theorem d0 : decode yB 0 = .ok (.iconst 0, 1) := by decide +kernel
theorem d1 : decode yB 1 = .ok (.istore 5, 2) := by decide +kernel
theorem d3 : decode yB 3 = .ok (.iload 5, 2) := by decide +kernel
theorem d5 : decode yB 5 = .ok (.iload 4, 2) := by decide +kernel
theorem d7 : decode yB 7 = .ok (.if_icmp (.ge) 37, 3) := by decide +kernel
theorem d10 : decode yB 10 = .ok (.aload_n 0, 1) := by decide +kernel
theorem d11 : decode yB 11 = .ok (.iload_n 1, 1) := by decide +kernel
theorem d12 : decode yB 12 = .ok (.caload, 1) := by decide +kernel
theorem d13 : decode yB 13 = .ok (.istore 6, 2) := by decide +kernel
theorem d15 : decode yB 15 = .ok (.iload 6, 2) := by decide +kernel
theorem d17 : decode yB 17 = .ok (.sipush 255, 3) := by decide +kernel
theorem d20 : decode yB 20 = .ok (.if_icmp (.le) 6, 3) := by decide +kernel
theorem d26 : decode yB 26 = .ok (.aload_n 2, 1) := by decide +kernel
theorem d27 : decode yB 27 = .ok (.iload_n 3, 1) := by decide +kernel
theorem d28 : decode yB 28 = .ok (.iload 6, 2) := by decide +kernel
theorem d30 : decode yB 30 = .ok (.i2b, 1) := by decide +kernel
theorem d31 : decode yB 31 = .ok (.bastore, 1) := by decide +kernel
theorem d32 : decode yB 32 = .ok (.iinc 1 1, 3) := by decide +kernel
theorem d35 : decode yB 35 = .ok (.iinc 3 1, 3) := by decide +kernel
theorem d38 : decode yB 38 = .ok (.iinc 5 1, 3) := by decide +kernel
theorem d41 : decode yB 41 = .ok (.goto (-38), 3) := by decide +kernel
theorem d44 : decode yB 44 = .ok (.iload 4, 2) := by decide +kernel
theorem d46 : decode yB 46 = .ok (.ireturn, 1) := by decide +kernel
def site : List Cond := []
def tab : Cond := tabOf yN yB 7 (some .int) site
def P (b : Addr) (A : Cell) (d : Addr) (B : Cell) (o q len : Nat) (args : Array Value) (s : State) : Prop := args = #[.ref b, .int (Int32.ofNat o), .ref d, .int (Int32.ofNat q), .int (Int32.ofNat len)] ∧ Ch b A s ∧ Arr .byte d B s ∧ b ≠ d ∧ o + len ≤ A.slots.size ∧ q + len ≤ B.slots.size ∧ ∀ i, i < len → ¬ 255 < cv A (o + i)
def E (b : Addr) (A : Cell) (d : Addr) (B : Cell) (o q len : Nat) (r : Option Value) (s u : State) : Prop := r = some (.int (Int32.ofNat len)) ∧ ∃ B', Put d B' s u ∧ Laid B B' q (q + len) (fun j => Value.int (lo8 (cv A (o + (j - q)))))
/-- no char of the range above 255: len; the places written hold each char's low byte -/
theorem law (l : Launch) (b : Addr) (A : Cell) (d : Addr) (B : Cell) (o q len : Nat) : Law l yN 5 5 0 0 yB 7 (some .int) site (P b A d B o q len) (E b A d B o q len) (copyLocs d q len) 0 0 := by
  refine Law.of_walk (plainFor_of_name (by decide +kernel)) (by decide +kernel) (by decide +kernel) (by decide) (fun _ _ h => by rw [h.1]; rfl) (fun _ U U' hal hh h => ⟨h.1, h.2.1.mv hal hh, h.2.2.1.mv hal hh, h.2.2.2⟩) (fun r U U' V V' h1 hal h2 h => ⟨h.1, h.2.elim fun B' q => ⟨B', q.1.mv h1 h2, q.2⟩⟩) ?_
  intro p e s m args below meth c s₁ X0 hexec hbytes hml hret hlk hnm hown hh0 W hP
  obtain ⟨rfl, hA, hB, hne, l1, l2, hp⟩ := hP
  have c1 : Steps p.tables e below (s₁.setTop (entryFrame m #[.ref b, .int (Int32.ofNat o), .ref d, .int (Int32.ofNat q), .int (Int32.ofNat len)] 7)) (s₁.setTop (mkF m 0 #[.val (.ref b), .val (.int (Int32.ofNat o)), .val (.ref d), .val (.int (Int32.ofNat q)), .val (.int (Int32.ofNat len)), .unset, .unset] [])) := entry rfl
  have hA0 := hA.1.mv X0.warmed.alike hh0
  have hB0 := hB.mv X0.warmed.alike hh0
  have a31 := hA.1.2.2.2
  have c2 : Steps p.tables e below (s₁.setTop (entryFrame m #[.ref b, .int (Int32.ofNat o), .ref d, .int (Int32.ofNat q), .int (Int32.ofNat len)] 7)) (s₁.setTop (mkF m 3 #[.val (.ref b), .val (.int (Int32.ofNat o)), .val (.ref d), .val (.int (Int32.ofNat q)), .val (.int (Int32.ofNat len)), .val (.int 0), .unset] [])) := c1.trans (by
    refine iconstV X0.here hexec rfl 0 (hb hbytes d0) (by decide) ?_
    refine XS.istore X0.here hexec rfl (hb hbytes d1) rfl rfl ?_
    exact Steps.refl _)
  have loop : ∀ (r i : Nat), i + r = len → ∀ (z : Slot), (z = .unset ∨ ∃ w, z = .val w ∧ w.category = 1) → ∀ (Tl : State) (Bk : Cell), Stand p l e { frames := 0, locals := 0, cells := 0, slots := 0 } s m #[.ref b, .int (Int32.ofNat o), .ref d, .int (Int32.ofNat q), .int (Int32.ofNat len)] below meth c Tl ([] ++ copyLocs d q i) 0 0 → Put d Bk s₁ Tl → Laid B Bk q (q + i) (fun j => Value.int (lo8 (cv A (o + (j - q))))) →
      Steps p.tables e below (s₁.setTop (entryFrame m #[.ref b, .int (Int32.ofNat o), .ref d, .int (Int32.ofNat q), .int (Int32.ofNat len)] 7)) (Tl.setTop (mkF m 3 #[.val (.ref b), .val (.int (Int32.ofNat (o + i))), .val (.ref d), .val (.int (Int32.ofNat (q + i))), .val (.int (Int32.ofNat len)), .val (.int (Int32.ofNat i)), z] [])) → ∃ (T' : State) (B' : Cell) (z' : Slot), Stand p l e { frames := 0, locals := 0, cells := 0, slots := 0 } s m #[.ref b, .int (Int32.ofNat o), .ref d, .int (Int32.ofNat q), .int (Int32.ofNat len)] below meth c T' ([] ++ copyLocs d q len) 0 0 ∧ Put d B' s₁ T' ∧ Laid B B' q (q + len) (fun j => Value.int (lo8 (cv A (o + (j - q))))) ∧
      Steps p.tables e below (s₁.setTop (entryFrame m #[.ref b, .int (Int32.ofNat o), .ref d, .int (Int32.ofNat q), .int (Int32.ofNat len)] 7)) (T'.setTop (mkF m 3 #[.val (.ref b), .val (.int (Int32.ofNat (o + len))), .val (.ref d), .val (.int (Int32.ofNat (q + len))), .val (.int (Int32.ofNat len)), .val (.int (Int32.ofNat len)), z'] [])) := by
    intro r
    induction r with
    | zero =>
      intro i hi z hz Tl Bk Xl pl fl cl
      have hil : i = len := by omega
      rw [hil] at Xl fl cl
      exact ⟨Tl, Bk, z, Xl, pl, fl, cl⟩
    | succ r ih =>
      intro i hi z hz Tl Bk Xl pl fl cl
      have all := X0.warmed.alike.symm.trans Xl.warmed.alike
      have hAl := hA0.keep all (pl.other hne hA0.1)
      have hBk := hB0.like all pl.1 fl.1 fl.2.1 fl.2.2.1
      have hlt : q + i < Bk.slots.size := by rw [fl.2.2.1]; omega
      have c3 : Steps p.tables e below (s₁.setTop (entryFrame m #[.ref b, .int (Int32.ofNat o), .ref d, .int (Int32.ofNat q), .int (Int32.ofNat len)] 7)) (Tl.setTop (mkF m 12 #[.val (.ref b), .val (.int (Int32.ofNat (o + i))), .val (.ref d), .val (.int (Int32.ofNat (q + i))), .val (.int (Int32.ofNat len)), .val (.int (Int32.ofNat i)), z] [.int (Int32.ofNat (o + i)), .ref b])) := cl.trans (by
        refine XS.iload Xl.here hexec rfl (hb hbytes d3) rfl ?_
        refine XS.iload Xl.here hexec rfl (hb hbytes d5) rfl ?_
        refine XS.icmpNo Xl.here hexec rfl (hb hbytes d7) rfl (ii_ge_f (lt32 (by omega) (by omega))) ?_
        refine XS.aloadN Xl.here hexec rfl (hb hbytes d10) rfl rfl ?_
        refine XS.iloadN Xl.here hexec rfl (hb hbytes d11) rfl ?_
        exact Steps.refl _)
      have c4 : Steps p.tables e below (s₁.setTop (entryFrame m #[.ref b, .int (Int32.ofNat o), .ref d, .int (Int32.ofNat q), .int (Int32.ofNat len)] 7)) (Tl.setTop (mkF m 13 #[.val (.ref b), .val (.int (Int32.ofNat (o + i))), .val (.ref d), .val (.int (Int32.ofNat (q + i))), .val (.int (Int32.ofNat len)), .val (.int (Int32.ofNat i)), z] [.int (cv A (o + i))])) := c3.trans (by
        refine Xl.aget hexec hAl rfl (hA.get (i := o + i) (by omega)) rfl rfl (hb hbytes d12) ?_
        exact Steps.refl _)
      have c5 : Steps p.tables e below (s₁.setTop (entryFrame m #[.ref b, .int (Int32.ofNat o), .ref d, .int (Int32.ofNat q), .int (Int32.ofNat len)] 7)) (Tl.setTop (mkF m 15 #[.val (.ref b), .val (.int (Int32.ofNat (o + i))), .val (.ref d), .val (.int (Int32.ofNat (q + i))), .val (.int (Int32.ofNat len)), .val (.int (Int32.ofNat i)), .val (.int (cv A (o + i)))] [])) := c4.trans (by
        refine XS.istoreS Xl.here hexec rfl (hb hbytes d13) rfl rfl hz ?_
        exact Steps.refl _)
      have c6 : Steps p.tables e below (s₁.setTop (entryFrame m #[.ref b, .int (Int32.ofNat o), .ref d, .int (Int32.ofNat q), .int (Int32.ofNat len)] 7)) (Tl.setTop (mkF m 31 #[.val (.ref b), .val (.int (Int32.ofNat (o + i))), .val (.ref d), .val (.int (Int32.ofNat (q + i))), .val (.int (Int32.ofNat len)), .val (.int (Int32.ofNat i)), .val (.int (cv A (o + i)))] [.int (lo8 (cv A (o + i))), .int (Int32.ofNat (q + i)), .ref d])) := c5.trans (by
        refine XS.iload Xl.here hexec rfl (hb hbytes d15) rfl ?_
        refine sipushV Xl.here hexec rfl 255 (hb hbytes d17) (by decide) ?_
        refine XS.icmpYes Xl.here hexec rfl (pc0 := 20) rfl (hb hbytes d20) rfl (ii_le_t (hp i (by omega))) (by decide) rfl ?_
        refine XS.aloadN Xl.here hexec rfl (hb hbytes d26) rfl rfl ?_
        refine XS.iloadN Xl.here hexec rfl (hb hbytes d27) rfl ?_
        refine XS.iload Xl.here hexec rfl (hb hbytes d28) rfl ?_
        refine i2b Xl.here hexec rfl (hb hbytes d30) rfl ?_
        exact Steps.refl _)
      obtain ⟨T7, X7, p7, st7⟩ := Xl.aput hexec hBk rfl hlt rfl (fits_lo8 (cv A (o + i))) (g := (mkF m 31 #[.val (.ref b), .val (.int (Int32.ofNat (o + i))), .val (.ref d), .val (.int (Int32.ofNat (q + i))), .val (.int (Int32.ofNat len)), .val (.int (Int32.ofNat i)), .val (.int (cv A (o + i)))] [.int (lo8 (cv A (o + i))), .int (Int32.ofNat (q + i)), .ref d])) rfl (rest := []) rfl (hb hbytes d31)
      have c8 : Steps p.tables e below (s₁.setTop (entryFrame m #[.ref b, .int (Int32.ofNat o), .ref d, .int (Int32.ofNat q), .int (Int32.ofNat len)] 7)) (T7.setTop (mkF m 32 #[.val (.ref b), .val (.int (Int32.ofNat (o + i))), .val (.ref d), .val (.int (Int32.ofNat (q + i))), .val (.int (Int32.ofNat len)), .val (.int (Int32.ofNat i)), .val (.int (cv A (o + i)))] [])) := c6.trans (st7 _ (Steps.refl _))
      have c9 : Steps p.tables e below (s₁.setTop (entryFrame m #[.ref b, .int (Int32.ofNat o), .ref d, .int (Int32.ofNat q), .int (Int32.ofNat len)] 7)) (T7.setTop (mkF m 3 #[.val (.ref b), .val (.int (Int32.ofNat (o + i) + 1)), .val (.ref d), .val (.int (Int32.ofNat (q + i) + 1)), .val (.int (Int32.ofNat len)), .val (.int (Int32.ofNat i + 1)), .val (.int (cv A (o + i)))] [])) := c8.trans (by
        refine iincV X7.here hexec rfl 1 (hb hbytes d32) (by decide) rfl rfl ?_
        refine iincV X7.here hexec rfl 1 (hb hbytes d35) (by decide) rfl rfl ?_
        refine iincV X7.here hexec rfl 1 (hb hbytes d38) (by decide) rfl rfl ?_
        refine XS.goto X7.here hexec rfl (pc0 := 41) rfl (hb hbytes d41) (by decide) rfl ?_
        exact Steps.refl _)
      have c10 : Steps p.tables e below (s₁.setTop (entryFrame m #[.ref b, .int (Int32.ofNat o), .ref d, .int (Int32.ofNat q), .int (Int32.ofNat len)] 7)) (T7.setTop (mkF m 3 #[.val (.ref b), .val (.int (Int32.ofNat (o + (i + 1)))), .val (.ref d), .val (.int (Int32.ofNat (q + (i + 1)))), .val (.int (Int32.ofNat len)), .val (.int (Int32.ofNat (i + 1))), .val (.int (cv A (o + i)))] [])) := by
        have := c9
        rw [succ32, succ32, succ32] at this
        exact this
      exact ih (i + 1) (by omega) _ (Or.inr ⟨_, rfl, rfl⟩) T7 _ (by rw [copyLocs_step, ← List.append_assoc]; exact X7) (pl.trans p7) (fl.step (by omega) hlt (by simp)) c10
  obtain ⟨T9, B9, z9, X9, p9, f9, g9⟩ := loop len 0 (by omega) .unset (Or.inl rfl) s₁ B (by simpa [copyLocs] using X0) ⟨hB0.1, fun _ _ => rfl, rfl⟩ (Laid.zero _ _ _) c2
  have c11 : Steps p.tables e below (s₁.setTop (entryFrame m #[.ref b, .int (Int32.ofNat o), .ref d, .int (Int32.ofNat q), .int (Int32.ofNat len)] 7)) (T9.setTop (mkF m 46 #[.val (.ref b), .val (.int (Int32.ofNat (o + len))), .val (.ref d), .val (.int (Int32.ofNat (q + len))), .val (.int (Int32.ofNat len)), .val (.int (Int32.ofNat len)), z9] [.int (Int32.ofNat len)])) := g9.trans (by
    refine XS.iload X9.here hexec rfl (hb hbytes d3) rfl ?_
    refine XS.iload X9.here hexec rfl (hb hbytes d5) rfl ?_
    refine XS.icmpYes X9.here hexec rfl (pc0 := 7) rfl (hb hbytes d7) rfl (ii_ge_t (nlt32 (by omega) (Nat.le_refl _))) (by decide) rfl ?_
    refine XS.iload X9.here hexec rfl (hb hbytes d44) rfl ?_
    exact Steps.refl _)
  exact ⟨T9, some (.int (Int32.ofNat len)), _, _, _, X9, by simp, rfl, rfl, (fun h => by cases h), ⟨rfl, B9, p9.from hh0, f9⟩, fun fs hl => c11.trans (X9.ireturnOut hexec hret rfl (Or.inl rfl) (hb hbytes d46) hl)⟩
end Cmp5
namespace Cmp3
def yN : MethodName := ⟨"java/lang/StringUTF16", "compress", "([CII)[B"⟩
abbrev yB : ByteArray := jdk_52_method_16_code
theorem d0 : decode yB 0 = .ok (.iload_n 2, 1) := by decide +kernel
theorem d1 : decode yB 1 = .ok (.newarray .byte, 2) := by decide +kernel
theorem d3 : decode yB 3 = .ok (.astore_n 3, 1) := by decide +kernel
theorem d4 : decode yB 4 = .ok (.aload_n 0, 1) := by decide +kernel
theorem d5 : decode yB 5 = .ok (.iload_n 1, 1) := by decide +kernel
theorem d6 : decode yB 6 = .ok (.aload_n 3, 1) := by decide +kernel
theorem d7 : decode yB 7 = .ok (.iconst 0, 1) := by decide +kernel
theorem d8 : decode yB 8 = .ok (.iload_n 2, 1) := by decide +kernel
theorem d9 : decode yB 9 = .ok (.invokestatic 115, 3) := by decide +kernel
theorem d12 : decode yB 12 = .ok (.istore 4, 2) := by decide +kernel
theorem d14 : decode yB 14 = .ok (.iload 4, 2) := by decide +kernel
theorem d16 : decode yB 16 = .ok (.iload_n 2, 1) := by decide +kernel
theorem d17 : decode yB 17 = .ok (.if_icmp (.eq) 40, 3) := by decide +kernel
theorem d57 : decode yB 57 = .ok (.aload_n 3, 1) := by decide +kernel
theorem d58 : decode yB 58 = .ok (.areturn, 1) := by decide +kernel
def site : List Cond := [.arrayClass .byte, Cmp5.tab] ++ staticW U16 115 Cmp5.yN
def tab : Cond := tabOf yN yB 6 (some (.array .byte)) site
def P (b : Addr) (A : Cell) (o len : Nat) (args : Array Value) (s : State) : Prop := args = #[.ref b, .int (Int32.ofNat o), .int (Int32.ofNat len)] ∧ Ch b A s ∧ o + len ≤ A.slots.size ∧ len ≤ 536870912 ∧ ∀ i, i < len → ¬ 255 < cv A (o + i)
def E (b : Addr) (A : Cell) (o len : Nat) (r : Option Value) (s u : State) : Prop := NewArr .byte "[B" len (fun j => .int (lo8 (cv A (o + j)))) r s u ∧ u.heap.size = s.heap.size + 1
/-- no char of the range above 255: a new byte[] of their low bytes -/
theorem law (l : Launch) (b : Addr) (A : Cell) (o len : Nat) : Law l yN 3 3 1 18 yB 6 (some (.array .byte)) site (P b A o len) (E b A o len) [] 1 len := by
  refine Law.of_walk (plainFor_of_name (by decide +kernel)) (by decide +kernel) (by decide +kernel) (by decide) (fun _ _ h => by rw [h.1]; rfl) (fun _ U U' hal hh h => ⟨h.1, h.2.1.mv hal hh, h.2.2⟩) (fun r U U' V V' h1 hal h2 h => ⟨NewArr.mv r U U' V V' h1 hal h2 h.1, by rw [h1, h2]; exact h.2⟩) ?_
  intro p e s m args below meth c s₁ X0 hexec hbytes hml hret hlk hnm hown hh0 W hP
  obtain ⟨rfl, hA, l1, l2, hp⟩ := hP
  have a31 := hA.1.2.2.2
  have c1 : Steps p.tables e below (s₁.setTop (entryFrame m #[.ref b, .int (Int32.ofNat o), .int (Int32.ofNat len)] 6)) (s₁.setTop (mkF m 0 #[.val (.ref b), .val (.int (Int32.ofNat o)), .val (.int (Int32.ofNat len)), .unset, .unset, .unset] [])) := entry rfl
  have c2 : Steps p.tables e below (s₁.setTop (entryFrame m #[.ref b, .int (Int32.ofNat o), .int (Int32.ofNat len)] 6)) (s₁.setTop (mkF m 1 #[.val (.ref b), .val (.int (Int32.ofNat o)), .val (.int (Int32.ofNat len)), .unset, .unset, .unset] [.int (Int32.ofNat len)])) := c1.trans (by
    refine XS.iloadN X0.here hexec rfl (hb hbytes d0) rfl ?_
    exact Steps.refl _)
  obtain ⟨T3, B3, X3, ba3, bs3, bv3, bh3, bf3, st3⟩ := X0.anew hexec (atype := .byte) (wk W (.arrayClass .byte)) rfl (by show len * 1 ≤ _; omega) (by omega) (g := (mkF m 1 #[.val (.ref b), .val (.int (Int32.ofNat o)), .val (.int (Int32.ofNat len)), .unset, .unset, .unset] [.int (Int32.ofNat len)])) rfl (hb hbytes d1) (rest := []) rfl (Nat.le_refl _) (by show 0 + len ≤ len; omega)
  rw [hh0] at ba3 st3
  have kp3 : XT.Kept s T3 := (XT.Kept.of_eq hh0).push bh3
  have hA3 := hA.keep X3.warmed.alike (kp3 _ _ hA.1.1)
  have hne : b ≠ s.heap.size := hA.1.ne
  have c4 : Steps p.tables e below (s₁.setTop (entryFrame m #[.ref b, .int (Int32.ofNat o), .int (Int32.ofNat len)] 6)) (T3.setTop (mkF m 3 #[.val (.ref b), .val (.int (Int32.ofNat o)), .val (.int (Int32.ofNat len)), .unset, .unset, .unset] [.ref s.heap.size])) := c2.trans (st3 _ (Steps.refl _))
  have c5 : Steps p.tables e below (s₁.setTop (entryFrame m #[.ref b, .int (Int32.ofNat o), .int (Int32.ofNat len)] 6)) (T3.setTop (mkF m 9 #[.val (.ref b), .val (.int (Int32.ofNat o)), .val (.int (Int32.ofNat len)), .val (.ref s.heap.size), .unset, .unset] [.int (Int32.ofNat len), .int 0, .ref s.heap.size, .int (Int32.ofNat o), .ref b])) := c4.trans (by
    refine XS.astoreN X3.here hexec rfl (hb hbytes d3) rfl rfl rfl ?_
    refine XS.aloadN X3.here hexec rfl (hb hbytes d4) rfl rfl ?_
    refine XS.iloadN X3.here hexec rfl (hb hbytes d5) rfl ?_
    refine XS.aloadN X3.here hexec rfl (hb hbytes d6) rfl rfl ?_
    refine iconstV X3.here hexec rfl 0 (hb hbytes d7) (by decide) ?_
    refine XS.iloadN X3.here hexec rfl (hb hbytes d8) rfl ?_
    exact Steps.refl _)
  obtain ⟨v6, T6, X6, E6, g6⟩ := X3.callS hexec (Cmp5.law l b A s.heap.size B3 o 0 len) hown (wks W (staticW U16 115 Cmp5.yN)) (wk W Cmp5.tab) (W := 0) (Nat.le_of_ble_eq_true rfl) (Nat.le_of_ble_eq_true rfl) (Nat.le_refl _) (by show 0 + len + 0 ≤ len; omega) (g := (mkF m 9 #[.val (.ref b), .val (.int (Int32.ofNat o)), .val (.int (Int32.ofNat len)), .val (.ref s.heap.size), .unset, .unset] [.int (Int32.ofNat len), .int (Int32.ofNat 0), .ref s.heap.size, .int (Int32.ofNat o), .ref b])) rfl (by rw [hml]; rfl) c5 (argsL := [.ref b, .int (Int32.ofNat o), .ref s.heap.size, .int (Int32.ofNat 0), .int (Int32.ofNat len)]) (rest := []) rfl rfl (by show 2 * 0 + 0 ≤ _; decide) (hb hbytes d9) (⟨rfl, hA3, ba3, hne, l1, by rw [bs3]; simp, hp⟩)
  obtain ⟨rfl, B6, p6, f6⟩ := E6
  have c7 : Steps p.tables e below (s₁.setTop (entryFrame m #[.ref b, .int (Int32.ofNat o), .int (Int32.ofNat len)] 6)) (T6.setTop (mkF m 12 #[.val (.ref b), .val (.int (Int32.ofNat o)), .val (.int (Int32.ofNat len)), .val (.ref s.heap.size), .unset, .unset] [.int (Int32.ofNat len)])) := g6
  have c8 : Steps p.tables e below (s₁.setTop (entryFrame m #[.ref b, .int (Int32.ofNat o), .int (Int32.ofNat len)] 6)) (T6.setTop (mkF m 58 #[.val (.ref b), .val (.int (Int32.ofNat o)), .val (.int (Int32.ofNat len)), .val (.ref s.heap.size), .val (.int (Int32.ofNat len)), .unset] [.ref s.heap.size])) := c7.trans (by
    refine XS.istore X6.here hexec rfl (hb hbytes d12) rfl rfl ?_
    refine XS.iload X6.here hexec rfl (hb hbytes d14) rfl ?_
    refine XS.iloadN X6.here hexec rfl (hb hbytes d16) rfl ?_
    refine XS.icmpYes X6.here hexec rfl (pc0 := 17) rfl (hb hbytes d17) rfl (ii_eq_t rfl) (by decide) rfl ?_
    refine XS.aloadN X6.here hexec rfl (hb hbytes d57) rfl rfl ?_
    exact Steps.refl _)
  have X8 := X6.wide (L' := []) (cells' := 1) (slots' := len) (fun x hx hlt => by
    simp only [List.nil_append, copyLocs, List.mem_map, List.mem_range] at hx
    obtain ⟨i, -, rfl⟩ := hx
    exact absurd hlt (Nat.lt_irrefl _)) (Nat.le_refl _) (by omega)
  exact ⟨T6, some (.ref s.heap.size), _, _, _, X8, rfl, rfl, rfl, (fun h => by cases h), ⟨⟨rfl, B6, ba3.like (X3.warmed.alike.symm.trans X6.warmed.alike) p6.1 f6.1 f6.2.1 f6.2.2.1, f6.2.1.trans bv3, by rw [X6.warmed.alike.findClass, f6.1]; exact bf3, by rw [f6.2.2.1, bs3]; simp, fun j hj => by rw [f6.2.2.2 j, if_pos (by omega)]; rfl, kp3.put p6 (Nat.le_refl _)⟩, by rw [p6.2.2, bh3, hh0]; simp⟩, fun fs hl => c8.trans (X8.areturnOut hexec rfl hret rfl (hb hbytes d58) hl)⟩
end Cmp3
namespace CodL
def yN : MethodName := ⟨"java/lang/StringUTF16", "coderFromArrayLen", "([BI)B"⟩
abbrev yB : ByteArray := jdk_52_method_15_code
theorem d0 : decode yB 0 = .ok (.iload_n 1, 1) := by decide +kernel
theorem d1 : decode yB 1 = .ok (.aload_n 0, 1) := by decide +kernel
theorem d2 : decode yB 2 = .ok (.arraylength, 1) := by decide +kernel
theorem d3 : decode yB 3 = .ok (.isub, 1) := by decide +kernel
theorem d4 : decode yB 4 = .ok (.bipush 31, 2) := by decide +kernel
theorem d6 : decode yB 6 = .ok (.iushr, 1) := by decide +kernel
theorem d7 : decode yB 7 = .ok (.i2b, 1) := by decide +kernel
theorem d8 : decode yB 8 = .ok (.ireturn, 1) := by decide +kernel
def site : List Cond := []
def tab : Cond := tabOf yN yB 2 (some .byte) site
def P (d : Addr) (B : Cell) (args : Array Value) (s : State) : Prop := args = #[.ref d, .int (Int32.ofNat B.slots.size)] ∧ Arr .byte d B s
def E (r : Option Value) (s u : State) : Prop := XT.PureE (some (.int 0)) r s u
/-- an array as long as the number of chars: LATIN1 -/
theorem law (l : Launch) (d : Addr) (B : Cell) : Law l yN 2 2 0 0 yB 2 (some .byte) site (P d B) E [] 0 0 := by
  refine Law.of_walk (plainFor_of_name (by decide +kernel)) (by decide +kernel) (by decide +kernel) (by decide) (fun _ _ h => by rw [h.1]; rfl) (fun _ U U' hal hh h => ⟨h.1, h.2.mv hal hh⟩) (fun r U U' V V' h1 hal h2 h => XT.PureE.mv r U U' V V' h1 hal h2 h) ?_
  intro p e s m args below meth c s₁ X0 hexec hbytes hml hret hlk hnm hown hh0 W hP
  obtain ⟨rfl, hB⟩ := hP
  have hB0 := hB.mv X0.warmed.alike hh0
  have c1 : Steps p.tables e below (s₁.setTop (entryFrame m #[.ref d, .int (Int32.ofNat B.slots.size)] 2)) (s₁.setTop (mkF m 0 #[.val (.ref d), .val (.int (Int32.ofNat B.slots.size))] [])) := entry rfl
  have c2 : Steps p.tables e below (s₁.setTop (entryFrame m #[.ref d, .int (Int32.ofNat B.slots.size)] 2)) (s₁.setTop (mkF m 2 #[.val (.ref d), .val (.int (Int32.ofNat B.slots.size))] [.ref d, .int (Int32.ofNat B.slots.size)])) := c1.trans (by
    refine XS.iloadN X0.here hexec rfl (hb hbytes d0) rfl ?_
    refine XS.aloadN X0.here hexec rfl (hb hbytes d1) rfl rfl ?_
    exact Steps.refl _)
  have c3 : Steps p.tables e below (s₁.setTop (entryFrame m #[.ref d, .int (Int32.ofNat B.slots.size)] 2)) (s₁.setTop (mkF m 8 #[.val (.ref d), .val (.int (Int32.ofNat B.slots.size))] [.int (lo8 (ushr (Int32.ofNat B.slots.size - Int32.ofNat B.slots.size) 31))])) := c2.trans (by
    refine X0.alen hexec hB0 rfl rfl (hb hbytes d2) ?_
    refine XS.isub X0.here hexec rfl (hb hbytes d3) rfl ?_
    refine bipushV X0.here hexec rfl 31 (hb hbytes d4) (by decide) ?_
    refine iushr X0.here hexec rfl (hb hbytes d6) rfl ?_
    refine i2b X0.here hexec rfl (hb hbytes d7) rfl ?_
    exact Steps.refl _)
  have e0 : lo8 (ushr (Int32.ofNat B.slots.size - Int32.ofNat B.slots.size) 31) = 0 := by rw [Int32.sub_self]; decide
  rw [e0] at c3
  exact ⟨s₁, some (.int 0), _, _, _, X0, rfl, rfl, rfl, (fun h => by cases h), ⟨rfl, hh0⟩, fun fs hl => c3.trans (X0.ireturnOut hexec hret rfl (Or.inr (Or.inr (Or.inl rfl))) (hb hbytes d8) hl)⟩
end CodL
/-- the String at a is Latin-1 over a new byte[] (the heap's one new cell): the low bytes of the len chars of A from o on; every cell but a is kept -/
def Got (a : Addr) (D : Cell) (fV fC : Field) (A : Cell) (o len : Nat) (r : Option Value) (s u : State) : Prop := r = none ∧ ∃ D' V : Cell, Blank "java/lang/String" a D' u ∧ Same D D' [fV.slot, fC.slot] ∧ D'.slots[fV.slot]? = some (.ref s.heap.size) ∧ D'.slots[fC.slot]? = some (.int 0) ∧ Arr .byte s.heap.size V u ∧ V.vm = .none ∧ u.vm.findClass "[B" = some V.cls ∧ V.slots.size = len ∧ (∀ j, j < len → V.slots[j]? = some (.int (lo8 (cv A (o + j))))) ∧ (∀ (y : Addr) (c : Cell), y ≠ a → s.heap[y]? = some c → u.heap[y]? = some c) ∧ u.heap.size = s.heap.size + 1
theorem Got.mv {a : Addr} {D A : Cell} {fV fC : Field} {o len : Nat} : ∀ r (U U' V V' : State), U'.heap = U.heap → V.vm.Alike V'.vm → V'.heap = V.heap → Got a D fV fC A o len r U V → Got a D fV fC A o len r U' V' :=
  fun r U U' V V' h1 hal h2 ⟨e0, D', X, a1, a2, a3, a4, a5, a6, a7, a8, a9, a10, a11⟩ => ⟨e0, D', X, a1.mv hal h2, a2, by rw [h1]; exact a3, a4, by rw [h1]; exact a5.mv hal h2, a6, by rw [hal.findClass]; exact a7, a8, a9, by rw [h1, h2]; exact a10, by rw [h1, h2]; exact a11⟩
namespace New4
def yN : MethodName := ⟨"java/lang/String", "<init>", "([CIILjava/lang/Void;)V"⟩
abbrev yB : ByteArray := jdk_42_method_149_code
theorem d0 : decode yB 0 = .ok (.aload_n 0, 1) := by decide +kernel
theorem d1 : decode yB 1 = .ok (.invokespecial 1, 3) := by decide +kernel
theorem d4 : decode yB 4 = .ok (.iload_n 3, 1) := by decide +kernel
theorem d5 : decode yB 5 = .ok (.ifCond (.ne) 22, 3) := by decide +kernel
theorem d27 : decode yB 27 = .ok (.getstatic 38, 3) := by decide +kernel
theorem d30 : decode yB 30 = .ok (.ifCond (.eq) 28, 3) := by decide +kernel
theorem d33 : decode yB 33 = .ok (.aload_n 1, 1) := by decide +kernel
theorem d34 : decode yB 34 = .ok (.iload_n 2, 1) := by decide +kernel
theorem d35 : decode yB 35 = .ok (.iload_n 3, 1) := by decide +kernel
theorem d36 : decode yB 36 = .ok (.invokestatic 177, 3) := by decide +kernel
theorem d39 : decode yB 39 = .ok (.astore 5, 2) := by decide +kernel
theorem d41 : decode yB 41 = .ok (.aload_n 0, 1) := by decide +kernel
theorem d42 : decode yB 42 = .ok (.aload 5, 2) := by decide +kernel
theorem d44 : decode yB 44 = .ok (.iload_n 3, 1) := by decide +kernel
theorem d45 : decode yB 45 = .ok (.invokestatic 47, 3) := by decide +kernel
theorem d48 : decode yB 48 = .ok (.putfield 15, 3) := by decide +kernel
theorem d51 : decode yB 51 = .ok (.aload_n 0, 1) := by decide +kernel
theorem d52 : decode yB 52 = .ok (.aload 5, 2) := by decide +kernel
theorem d54 : decode yB 54 = .ok (.putfield 9, 3) := by decide +kernel
theorem d57 : decode yB 57 = .ok (.return_, 1) := by decide +kernel
def site : List Cond := [.fieldLink "java/lang/String" 38 "java/lang/String" "COMPACT_STRINGS" "Z", Cmp3.tab, CodL.tab, .laysFinal "java/lang/String" "java/lang/String" "value" "[B", .fieldLink "java/lang/String" 9 "java/lang/String" "value" "[B", .laysFinal "java/lang/String" "java/lang/String" "coder" "B", .fieldLink "java/lang/String" 15 "java/lang/String" "coder" "B"] ++ objW "java/lang/String" 1 ++ staticW "java/lang/String" 177 Cmp3.yN ++ staticW "java/lang/String" 47 CodL.yN
def tab : Cond := tabOf yN yB 6 none site
def P (a : Addr) (D : Cell) (fV fC : Field) (b : Addr) (A : Cell) (z : Int32) (o len : Nat) (args : Array Value) (s : State) : Prop := args = #[.ref a, .ref b, .int (Int32.ofNat o), .int (Int32.ofNat len), .null] ∧ Blank "java/lang/String" a D s ∧ Found "java/lang/String" "value" "[B" fV s ∧ Found "java/lang/String" "coder" "B" fC s ∧ Ch b A s ∧ StaticIs s "java/lang/String" "COMPACT_STRINGS" "Z" (.int z) ∧ ¬ z = 0 ∧ 0 < len ∧ o + len ≤ A.slots.size ∧ len ≤ 536870912 ∧ ∀ i, i < len → ¬ 255 < cv A (o + i)
def E (a : Addr) (D : Cell) (fV fC : Field) (A : Cell) (o len : Nat) (r : Option Value) (s u : State) : Prop := Got a D fV fC A o len r s u
/-- len > 0, no char of the range above 255: a Latin-1 String of their low bytes -/
theorem law (l : Launch) (a : Addr) (D : Cell) (fV fC : Field) (b : Addr) (A : Cell) (z : Int32) (o len : Nat) : Law l yN 5 4 2 35 yB 6 none site (P a D fV fC b A z o len) (E a D fV fC A o len) [⟨a, fC.slot⟩, ⟨a, fV.slot⟩] 1 len := by
  refine Law.of_walk (plainFor_of_name (by decide +kernel)) (by decide +kernel) (by decide +kernel) (by decide) (fun _ _ h => by rw [h.1]; rfl) (fun _ U U' hal hh h => ⟨h.1, h.2.1.mv hal hh, h.2.2.1.al hal, h.2.2.2.1.al hal, h.2.2.2.2.1.mv hal hh, h.2.2.2.2.2.1.there hal hh, h.2.2.2.2.2.2⟩) (fun r U U' V V' h1 hal h2 h => Got.mv r U U' V V' h1 hal h2 h) ?_
  intro p e s m args below meth c s₁ X0 hexec hbytes hml hret hlk hnm hown hh0 W hP
  obtain ⟨rfl, hB, f1, f2, hA, s1, hz, l0, l1, l2, hp⟩ := hP
  have a31 := hA.1.2.2.2
  have c1 : Steps p.tables e below (s₁.setTop (entryFrame m #[.ref a, .ref b, .int (Int32.ofNat o), .int (Int32.ofNat len), .null] 6)) (s₁.setTop (mkF m 0 #[.val (.ref a), .val (.ref b), .val (.int (Int32.ofNat o)), .val (.int (Int32.ofNat len)), .val .null, .unset] [])) := entry rfl
  have c2 : Steps p.tables e below (s₁.setTop (entryFrame m #[.ref a, .ref b, .int (Int32.ofNat o), .int (Int32.ofNat len), .null] 6)) (s₁.setTop (mkF m 1 #[.val (.ref a), .val (.ref b), .val (.int (Int32.ofNat o)), .val (.int (Int32.ofNat len)), .val .null, .unset] [.ref a])) := c1.trans (by
    refine XS.aloadN X0.here hexec rfl (hb hbytes d0) rfl rfl ?_
    exact Steps.refl _)
  obtain ⟨T3, X3, q3, st3⟩ := X0.oinit hexec hown (wks W (objW "java/lang/String" 1)) (g := (mkF m 1 #[.val (.ref a), .val (.ref b), .val (.int (Int32.ofNat o)), .val (.int (Int32.ofNat len)), .val .null, .unset] [.ref a])) rfl (by rw [hml]; rfl) (rest := []) rfl (hb hbytes d1) (W := 0) (by show 2 * 0 + 0 ≤ _; decide) (Nat.le_of_ble_eq_true rfl) (Nat.le_of_ble_eq_true rfl)
  have hh3 := q3.trans hh0
  have c4 : Steps p.tables e below (s₁.setTop (entryFrame m #[.ref a, .ref b, .int (Int32.ofNat o), .int (Int32.ofNat len), .null] 6)) (T3.setTop (mkF m 27 #[.val (.ref a), .val (.ref b), .val (.int (Int32.ofNat o)), .val (.int (Int32.ofNat len)), .val .null, .unset] [])) := (c2.trans (st3 _ (Steps.refl _))).trans (by
    refine XS.iloadN X3.here hexec rfl (hb hbytes d4) rfl ?_
    refine XS.ifYes X3.here hexec rfl (pc0 := 5) rfl (hb hbytes d5) rfl (i0_ne_t (nz32 (by omega) l0)) (by decide) rfl ?_
    exact Steps.refl _)
  obtain ⟨T5, X5, q5, st5⟩ := X3.sget hexec hown (wk W (.fieldLink "java/lang/String" 38 "java/lang/String" "COMPACT_STRINGS" "Z")) s1 (fun _ _ h => by rw [hh3]; exact h) (g := (mkF m 27 #[.val (.ref a), .val (.ref b), .val (.int (Int32.ofNat o)), .val (.int (Int32.ofNat len)), .val .null, .unset] [])) rfl (hb hbytes d27)
  have hh5 := q5.trans hh3
  have c6 : Steps p.tables e below (s₁.setTop (entryFrame m #[.ref a, .ref b, .int (Int32.ofNat o), .int (Int32.ofNat len), .null] 6)) (T5.setTop (mkF m 30 #[.val (.ref a), .val (.ref b), .val (.int (Int32.ofNat o)), .val (.int (Int32.ofNat len)), .val .null, .unset] [.int z])) := c4.trans (st5 _ (Steps.refl _))
  have c7 : Steps p.tables e below (s₁.setTop (entryFrame m #[.ref a, .ref b, .int (Int32.ofNat o), .int (Int32.ofNat len), .null] 6)) (T5.setTop (mkF m 36 #[.val (.ref a), .val (.ref b), .val (.int (Int32.ofNat o)), .val (.int (Int32.ofNat len)), .val .null, .unset] [.int (Int32.ofNat len), .int (Int32.ofNat o), .ref b])) := c6.trans (by
    refine XS.ifNo X5.here hexec rfl (hb hbytes d30) rfl (i0_eq_f hz) ?_
    refine XS.aloadN X5.here hexec rfl (hb hbytes d33) rfl rfl ?_
    refine XS.iloadN X5.here hexec rfl (hb hbytes d34) rfl ?_
    refine XS.iloadN X5.here hexec rfl (hb hbytes d35) rfl ?_
    exact Steps.refl _)
  obtain ⟨v8, T8, X8, E8, g8⟩ := X5.callS hexec (Cmp3.law l b A o len) hown (wks W (staticW "java/lang/String" 177 Cmp3.yN)) (wk W Cmp3.tab) (W := 0) (Nat.le_of_ble_eq_true rfl) (Nat.le_of_ble_eq_true rfl) (Nat.le_refl _) (by show 0 + len ≤ len; omega) (g := (mkF m 36 #[.val (.ref a), .val (.ref b), .val (.int (Int32.ofNat o)), .val (.int (Int32.ofNat len)), .val .null, .unset] [.int (Int32.ofNat len), .int (Int32.ofNat o), .ref b])) rfl (by rw [hml]; rfl) c7 (argsL := [.ref b, .int (Int32.ofNat o), .int (Int32.ofNat len)]) (rest := []) rfl rfl (by show 2 * 0 + 0 ≤ _; decide) (hb hbytes d36) (⟨rfl, hA.mv X5.warmed.alike hh5, l1, l2, hp⟩)
  obtain ⟨e8, z8⟩ := E8
  obtain ⟨rfl, N, n1, n2, n3, n4, n5, n6⟩ := NewArr.mv _ T5 s _ _ hh5.symm (Vm.Alike.refl _) rfl e8
  rw [hh5] at z8
  have hB1 := hB.keep X8.warmed.alike (n6 _ _ hB.1)
  have hne : s.heap.size ≠ a := (Nat.ne_of_lt (Array.getElem?_eq_some_iff.mp hB.1).1).symm
  have c9 : Steps p.tables e below (s₁.setTop (entryFrame m #[.ref a, .ref b, .int (Int32.ofNat o), .int (Int32.ofNat len), .null] 6)) (T8.setTop (mkF m 39 #[.val (.ref a), .val (.ref b), .val (.int (Int32.ofNat o)), .val (.int (Int32.ofNat len)), .val .null, .unset] [.ref s.heap.size])) := g8
  have c10 : Steps p.tables e below (s₁.setTop (entryFrame m #[.ref a, .ref b, .int (Int32.ofNat o), .int (Int32.ofNat len), .null] 6)) (T8.setTop (mkF m 45 #[.val (.ref a), .val (.ref b), .val (.int (Int32.ofNat o)), .val (.int (Int32.ofNat len)), .val .null, .val (.ref s.heap.size)] [.int (Int32.ofNat N.slots.size), .ref s.heap.size, .ref a])) := by
    have hc : Steps p.tables e below (s₁.setTop (entryFrame m #[.ref a, .ref b, .int (Int32.ofNat o), .int (Int32.ofNat len), .null] 6)) (T8.setTop (mkF m 45 #[.val (.ref a), .val (.ref b), .val (.int (Int32.ofNat o)), .val (.int (Int32.ofNat len)), .val .null, .val (.ref s.heap.size)] [.int (Int32.ofNat len), .ref s.heap.size, .ref a])) := c9.trans (by
      refine XS.astore X8.here hexec rfl (hb hbytes d39) rfl rfl rfl ?_
      refine XS.aloadN X8.here hexec rfl (hb hbytes d41) rfl rfl ?_
      refine XS.aload X8.here hexec rfl (hb hbytes d42) rfl rfl ?_
      refine XS.iloadN X8.here hexec rfl (hb hbytes d44) rfl ?_
      exact Steps.refl _)
    rw [n4]; exact hc
  obtain ⟨v11, T11, X11, E11, g11⟩ := X8.callS hexec (CodL.law l s.heap.size N) hown (wks W (staticW "java/lang/String" 47 CodL.yN)) (wk W CodL.tab) (W := 1) (Nat.le_of_ble_eq_true rfl) (Nat.le_of_ble_eq_true rfl) (Nat.le_refl _) (by show 0 + len + 0 ≤ len; omega) (g := (mkF m 45 #[.val (.ref a), .val (.ref b), .val (.int (Int32.ofNat o)), .val (.int (Int32.ofNat len)), .val .null, .val (.ref s.heap.size)] [.int (Int32.ofNat N.slots.size), .ref s.heap.size, .ref a])) rfl (by rw [hml]; rfl) c10 (argsL := [.ref s.heap.size, .int (Int32.ofNat N.slots.size)]) (rest := [.ref a]) rfl rfl (by show 2 * 0 + (1 + 0) ≤ _; decide) (hb hbytes d45) (⟨rfl, n1⟩)
  obtain ⟨rfl, q11⟩ := E11
  have hB11 := hB1.mv (X8.warmed.alike.symm.trans X11.warmed.alike) q11
  have c12 : Steps p.tables e below (s₁.setTop (entryFrame m #[.ref a, .ref b, .int (Int32.ofNat o), .int (Int32.ofNat len), .null] 6)) (T11.setTop (mkF m 48 #[.val (.ref a), .val (.ref b), .val (.int (Int32.ofNat o)), .val (.int (Int32.ofNat len)), .val .null, .val (.ref s.heap.size)] [.int 0, .ref a])) := g11
  obtain ⟨T13, X13, p13, bl13, sl13, st13⟩ := X11.finit hexec hown (wk W (.fieldLink "java/lang/String" 15 "java/lang/String" "coder" "B")) (Or.inr ⟨_, (wk W (.laysFinal "java/lang/String" "java/lang/String" "coder" "B"))⟩) (Or.inl ⟨rfl, hnm⟩) f2 (Or.inl rfl) hB11 (t := .byte) (by decide +kernel) rfl (g := (mkF m 48 #[.val (.ref a), .val (.ref b), .val (.int (Int32.ofNat o)), .val (.int (Int32.ofNat len)), .val .null, .val (.ref s.heap.size)] [.int 0, .ref a])) rfl (rest := []) rfl (hb hbytes d48)
  have c14 : Steps p.tables e below (s₁.setTop (entryFrame m #[.ref a, .ref b, .int (Int32.ofNat o), .int (Int32.ofNat len), .null] 6)) (T13.setTop (mkF m 54 #[.val (.ref a), .val (.ref b), .val (.int (Int32.ofNat o)), .val (.int (Int32.ofNat len)), .val .null, .val (.ref s.heap.size)] [.ref s.heap.size, .ref a])) := (c12.trans (st13 _ (Steps.refl _))).trans (by
    refine XS.aloadN X13.here hexec rfl (hb hbytes d51) rfl rfl ?_
    refine XS.aload X13.here hexec rfl (hb hbytes d52) rfl rfl ?_
    exact Steps.refl _)
  obtain ⟨T15, X15, p15, bl15, sl15, st15⟩ := X13.finit hexec hown (wk W (.fieldLink "java/lang/String" 9 "java/lang/String" "value" "[B")) (Or.inr ⟨_, (wk W (.laysFinal "java/lang/String" "java/lang/String" "value" "[B"))⟩) (Or.inl ⟨rfl, hnm⟩) f1 (Or.inl rfl) bl13 (t := (.array .byte)) (by decide +kernel) rfl (g := (mkF m 54 #[.val (.ref a), .val (.ref b), .val (.int (Int32.ofNat o)), .val (.int (Int32.ofNat len)), .val .null, .val (.ref s.heap.size)] [.ref s.heap.size, .ref a])) rfl (rest := []) rfl (hb hbytes d54)
  have c16 : Steps p.tables e below (s₁.setTop (entryFrame m #[.ref a, .ref b, .int (Int32.ofNat o), .int (Int32.ofNat len), .null] 6)) (T15.setTop (mkF m 57 #[.val (.ref a), .val (.ref b), .val (.int (Int32.ofNat o)), .val (.int (Int32.ofNat len)), .val .null, .val (.ref s.heap.size)] [])) := c14.trans (st15 _ (Steps.refl _))
  have ap := apart (Or.inr ⟨_, (wk W (.laysFinal "java/lang/String" "java/lang/String" "value" "[B"))⟩) (Or.inr ⟨_, (wk W (.laysFinal "java/lang/String" "java/lang/String" "coder" "B"))⟩) f1 f2 (t₁ := .array .byte) (t₂ := .byte) (by decide +kernel) (by decide +kernel) (by decide)
  have al := X8.warmed.alike.symm.trans X15.warmed.alike
  have n7 : T11.heap[s.heap.size]? = some N := by rw [q11]; exact n1.1
  exact ⟨T15, none, _, _, _, X15, by simp, rfl, by omega, (fun _ => rfl), ⟨rfl, _, N, bl15, ((Same.refl D _).set _ (by simp)).set _ (by simp), sl15, (Cell.slots_setSlot_ne _ ap).trans sl13, n1.keep al (p15.other hne (p13.other hne n7)), n2, by rw [al.findClass]; exact n3, n4, n5, fun y c h1 h2 => p15.other h1 (p13.other h1 (by rw [q11]; exact n6 y c h2)), by rw [p15.2.2, p13.2.2, q11]; exact z8⟩, fun fs hl => c16.trans (X15.returnOut hexec hret (hb hbytes d57) hl)⟩
end New4
namespace New1
def yN : MethodName := ⟨"java/lang/String", "<init>", "([C)V"⟩
abbrev yB : ByteArray := jdk_42_method_3_code
theorem d0 : decode yB 0 = .ok (.aload_n 0, 1) := by decide +kernel
theorem d1 : decode yB 1 = .ok (.aload_n 1, 1) := by decide +kernel
theorem d2 : decode yB 2 = .ok (.iconst 0, 1) := by decide +kernel
theorem d3 : decode yB 3 = .ok (.aload_n 1, 1) := by decide +kernel
theorem d4 : decode yB 4 = .ok (.arraylength, 1) := by decide +kernel
theorem d5 : decode yB 5 = .ok (.aconst_null, 1) := by decide +kernel
theorem d6 : decode yB 6 = .ok (.invokespecial 27, 3) := by decide +kernel
theorem d9 : decode yB 9 = .ok (.return_, 1) := by decide +kernel
def site : List Cond := [New4.tab] ++ initW "java/lang/String" 27 New4.yN
def tab : Cond := tabOf yN yB 2 none site
def P (a : Addr) (D : Cell) (fV fC : Field) (b : Addr) (A : Cell) (z : Int32) (args : Array Value) (s : State) : Prop := args = #[.ref a, .ref b] ∧ Blank "java/lang/String" a D s ∧ Found "java/lang/String" "value" "[B" fV s ∧ Found "java/lang/String" "coder" "B" fC s ∧ Ch b A s ∧ StaticIs s "java/lang/String" "COMPACT_STRINGS" "Z" (.int z) ∧ ¬ z = 0 ∧ 0 < A.slots.size ∧ A.slots.size ≤ 536870912 ∧ ∀ i, i < A.slots.size → ¬ 255 < cv A i
def E (a : Addr) (D : Cell) (fV fC : Field) (A : Cell) (r : Option Value) (s u : State) : Prop := Got a D fV fC A 0 A.slots.size r s u
/-- new String(chars), not empty, no char above 255: a Latin-1 String of their low bytes -/
theorem law (l : Launch) (a : Addr) (D : Cell) (fV fC : Field) (b : Addr) (A : Cell) (z : Int32) : Law l yN 2 1 3 52 yB 2 none site (P a D fV fC b A z) (E a D fV fC A) [⟨a, fC.slot⟩, ⟨a, fV.slot⟩] 1 A.slots.size := by
  refine Law.of_walk (plainFor_of_name (by decide +kernel)) (by decide +kernel) (by decide +kernel) (by decide) (fun _ _ h => by rw [h.1]; rfl) (fun _ U U' hal hh h => ⟨h.1, h.2.1.mv hal hh, h.2.2.1.al hal, h.2.2.2.1.al hal, h.2.2.2.2.1.mv hal hh, h.2.2.2.2.2.1.there hal hh, h.2.2.2.2.2.2⟩) (fun r U U' V V' h1 hal h2 h => Got.mv r U U' V V' h1 hal h2 h) ?_
  intro p e s m args below meth c s₁ X0 hexec hbytes hml hret hlk hnm hown hh0 W hP
  obtain ⟨rfl, hB, f1, f2, hA, s1, hz, l0, l2, hp⟩ := hP
  have c1 : Steps p.tables e below (s₁.setTop (entryFrame m #[.ref a, .ref b] 2)) (s₁.setTop (mkF m 0 #[.val (.ref a), .val (.ref b)] [])) := entry rfl
  have c2 : Steps p.tables e below (s₁.setTop (entryFrame m #[.ref a, .ref b] 2)) (s₁.setTop (mkF m 6 #[.val (.ref a), .val (.ref b)] [.null, .int (Int32.ofNat A.slots.size), .int 0, .ref b, .ref a])) := c1.trans (by
    refine XS.aloadN X0.here hexec rfl (hb hbytes d0) rfl rfl ?_
    refine XS.aloadN X0.here hexec rfl (hb hbytes d1) rfl rfl ?_
    refine iconstV X0.here hexec rfl 0 (hb hbytes d2) (by decide) ?_
    refine XS.aloadN X0.here hexec rfl (hb hbytes d3) rfl rfl ?_
    refine X0.alen hexec (hA.1.mv X0.warmed.alike hh0) rfl rfl (hb hbytes d4) ?_
    refine XS.aconstNull X0.here hexec rfl (hb hbytes d5) ?_
    exact Steps.refl _)
  obtain ⟨v3, T3, X3, E3, g3⟩ := X0.callN hexec (New4.law l a D fV fC b A z 0 A.slots.size) rfl hown (wks W (initW "java/lang/String" 27 New4.yN)) (W New4.tab (by simp only [site, List.mem_cons, List.mem_append, true_or, or_true])) (W := 0) (Nat.le_of_ble_eq_true rfl) (Nat.le_of_ble_eq_true rfl) (Nat.le_refl _) (by show 0 + A.slots.size ≤ A.slots.size; omega) (g := (mkF m 6 #[.val (.ref a), .val (.ref b)] [.null, .int (Int32.ofNat A.slots.size), .int (Int32.ofNat 0), .ref b, .ref a])) rfl (by rw [hml]; rfl) c2 (argsL := [.ref b, .int (Int32.ofNat 0), .int (Int32.ofNat A.slots.size), .null]) (rest := []) rfl rfl (by show 2 * 0 + 0 ≤ _; decide) (hb hbytes d6) (⟨rfl, hB.mv X0.warmed.alike hh0, f1.al X0.warmed.alike, f2.al X0.warmed.alike, hA.mv X0.warmed.alike hh0, s1.there X0.warmed.alike hh0, hz, l0, by omega, l2, fun i hi => by rw [Nat.zero_add]; exact hp i hi⟩)
  have e0 := Got.mv _ s₁ s _ _ hh0.symm (Vm.Alike.refl _) rfl E3
  obtain rfl := e0.1
  have c4 : Steps p.tables e below (s₁.setTop (entryFrame m #[.ref a, .ref b] 2)) (T3.setTop (mkF m 9 #[.val (.ref a), .val (.ref b)] [])) := g3
  exact ⟨T3, none, _, _, _, X3, by simp, rfl, by omega, (fun _ => rfl), e0, fun fs hl => c4.trans (X3.returnOut hexec hret (hb hbytes d9) hl)⟩
theorem pays {l : Launch} {R : Room} {p : Program} {e : Env} {below : List Frame} {s : State} {sargs : Array Value} {len W : Nat} (a : Addr) (D : Cell) (fV fC : Field) (b : Addr) (A : Cell) (z : Int32) (htab : tab.before sargs s = true) (hfr : 4 ≤ R.frames) (hlo : W + 65 ≤ R.locals) :
    Back l R p e below s sargs yN len W (fun A₁ a₁ => A₁.cells + 1 ≤ R.cells ∧ A₁.slots + A.slots.size ≤ R.slots ∧ P a D fV fC b A z a₁ A₁.U) (fun A₁ _ v₁ B₁ => E a D fV fC A v₁ A₁.U B₁.U ∧ B₁.locs = A₁.locs ++ [⟨a, fC.slot⟩, ⟨a, fV.slot⟩] ∧ B₁.cells = A₁.cells + 1 ∧ B₁.slots = A₁.slots + A.slots.size) :=
  (law l a D fV fC b A z).pays htab hfr (by omega)
end New1
end StrChars
namespace StrChars.Road
open Jvm Sem ClassFile Op Lib Jvm.Stand Jvm.Free Jvm.Free.XT
open Jvm.Lib.Cold (StaticIs)
abbrev ST : String := "java/lang/String"
/-- every table word that New1's law asks, flat -/
abbrev words : List Jvm.Cond := [.code New1.yN New1.yB 2 none, .initialized ST, .methodLink ST 27 New4.yN, .instanceMethod New4.yN,
  .code New4.yN New4.yB 6 none, .fieldLink ST 38 ST "COMPACT_STRINGS" "Z", .laysFinal ST ST "value" "[B", .fieldLink ST 9 ST "value" "[B", .laysFinal ST ST "coder" "B", .fieldLink ST 15 ST "coder" "B",
  .methodLink ST 1 Lib.objectInit, .instanceMethod Lib.objectInit, .code Lib.objectInit ⟨#[0xb1]⟩ 1 none, .methodLink ST 177 Cmp3.yN, .static Cmp3.yN, .methodLink ST 47 CodL.yN, .static CodL.yN,
  .code Cmp3.yN Cmp3.yB 6 (some (.array .byte)), .initialized U16, .arrayClass .byte, .methodLink U16 115 Cmp5.yN, .static Cmp5.yN, .code Cmp5.yN Cmp5.yB 7 (some .int), .code CodL.yN CodL.yB 2 (some .byte)]
theorem tab_of {a : Array Value} {s : State} (h : ∀ w ∈ words, w.before a s = true) : New1.tab.before a s = true := by
  have h5 : Cmp5.tab.before a s = true := unparts (wk h (.code Cmp5.yN Cmp5.yB 7 (some .int))) (wks h (.initialized Cmp5.yN.cls :: Cmp5.site))
  have hc : CodL.tab.before a s = true := unparts (wk h (.code CodL.yN CodL.yB 2 (some .byte))) (wks h (.initialized CodL.yN.cls :: CodL.site))
  have q5 : ∀ w ∈ Cmp5.tab :: words, w.before a s = true := fun w hw => (List.mem_cons.mp hw).elim (fun e => e ▸ h5) (h w)
  have h3 : Cmp3.tab.before a s = true := unparts (wk q5 (.code Cmp3.yN Cmp3.yB 6 (some (.array .byte)))) (wks q5 (.initialized Cmp3.yN.cls :: Cmp3.site))
  have q3 : ∀ w ∈ Cmp3.tab :: CodL.tab :: words, w.before a s = true := fun w hw => (List.mem_cons.mp hw).elim (fun e => e ▸ h3) fun hw => (List.mem_cons.mp hw).elim (fun e => e ▸ hc) (h w)
  have h4 : New4.tab.before a s = true := unparts (wk q3 (.code New4.yN New4.yB 6 none)) (wks q3 (.initialized New4.yN.cls :: New4.site))
  have q4 : ∀ w ∈ New4.tab :: words, w.before a s = true := fun w hw => (List.mem_cons.mp hw).elim (fun e => e ▸ h4) (h w)
  exact unparts (wk q4 (.code New1.yN New1.yB 2 none)) (wks q4 (.initialized New1.yN.cls :: New1.site))
/-- the words ride from the start Z to the walk's own state -/
theorem moved {Z s : State} {a0 args : Array Value} (hZ : Z.Warmed39 s.vm) (hw : ∀ d ∈ words, d.before a0 Z = true) : ∀ d ∈ words, d.before args s = true := fun d hd => by
  have q := hw d hd
  have t : ∀ d ∈ words, d = .arrayClass .byte ∨ (d.onTables && d.keepsFace) = true := by decide +kernel
  rcases t d hd with rfl | t
  · exact RoadKit.mvA hZ q
  · exact RoadKit.mv hZ q t
/-- WHAT COMES BACK, over the tables of the start Z: h the heap at the call, h' behind it -/
def Q (Z : State) (x : Addr) (A : Cell) (h : Heap) (v : Option Value) (h' : Heap) (L : List Loc) : Prop := v = none ∧ (∀ y ∈ L, y.base = x) ∧ RoadKit.Keep h h' [x] ∧ h'.size = h.size + 1 ∧ RoadKit.Exa Z h' x ST ∧ RoadKit.Fld Z h' x ST "value" "[B" (.ref h.size) ∧ RoadKit.Fld Z h' x ST "coder" "B" (.int 0) ∧
  (∃ V : Cell, RoadKit.Arr Z h' h.size V .byte ∧ V.vm = .none ∧ Z.vm.findClass "[B" = some V.cls ∧ V.slots.size = A.slots.size ∧ ∀ j, j < A.slots.size → V.slots[j]? = some (.int (lo8 (cv A j)))) ∧
  ∀ (O n d : String) (w : Value), RoadKit.Fld Z h x O n d w → RoadKit.slotOf Z O n d ≠ RoadKit.slotOf Z ST "value" "[B" → RoadKit.slotOf Z O n d ≠ RoadKit.slotOf Z ST "coder" "B" → RoadKit.Fld Z h' x O n d w
/-- **new String(chars) AT A CALL, IN THE ROAD'S FORM**: for specialBack behind newO: x the fresh String, b the char[] with the cell A -/
theorem back {p : Program} {l : Launch} {e : Env} {R : Room} {s : State} {args : Array Value} {below : List Frame} {len W : Nat} {Z : State} {a0 : Array Value} {h : Heap} (hZ : Z.Warmed39 s.vm) (hw : ∀ d ∈ words, d.before a0 Z = true) {kI : Nat} (wi : (Jvm.Cond.instantiable ST kI).before a0 Z = true)
    {x b : Addr} {A : Cell} {z : Int32} {v0 c0 : Value} (E : RoadKit.Exa Z h x ST) (V : RoadKit.Fld Z h x ST "value" "[B" v0) (C : RoadKit.Fld Z h x ST "coder" "B" c0) (K : RoadKit.Arr Z h b A .char) (hty : Typed .char A) (S : RoadKit.Sta Z h ST "COMPACT_STRINGS" "Z" (.int z)) (hz : ¬ z = 0)
    (l0 : 0 < A.slots.size) (l2 : A.slots.size ≤ 536870912) (hp : ∀ i, i < A.slots.size → ¬ 255 < cv A i) (hfr : 4 ≤ R.frames) (hlo : W + 65 ≤ R.locals) :
    Back l R p e below s args New1.yN len W (fun P a => a = #[.ref x, .ref b] ∧ P.U.heap = h ∧ P.cells + 1 ≤ R.cells ∧ P.slots + A.slots.size ≤ R.slots)
      (fun P _ v B => ∃ L, Q Z x A h v B.U.heap L ∧ B.locs = P.locs ++ L ∧ B.cells = P.cells + 1 ∧ B.slots = P.slots + A.slots.size) := by
  intro m meth c P g ig mk a X hg hsize hdg hW hn hp'
  obtain ⟨rfl, rfl, r1, r2⟩ := hp'
  have al : Z.vm.Alike P.U.vm := hZ.alike.trans X.warmed.alike
  obtain ⟨D, cfV, kV, iV, fV, hD, gV, stV, knV, obV, asV, slV⟩ := id V
  obtain ⟨D', cfC, kC, iC, fC, hD', gC, stC, -, -, asC, slC⟩ := id C
  cases hD.symm.trans hD'
  obtain ⟨D2, kD, e1, e2, e3, e4, e5⟩ := id E
  cases hD.symm.trans e1
  obtain ⟨c2, k2, i1, i2, i3, -⟩ := Cond.instantiable_spec wi
  cases e2.symm.trans i1
  cases e3.symm.trans i2
  obtain ⟨kU, u1, u2⟩ := al.2.2 _ _ e3
  have hB : Blank ST x D P.U := ⟨hD, ⟨knV, fun q hq => by rw [hq] at obV; cases obV⟩, by rw [al.findClass]; exact e2, kU, u1, by rw [u2]; exact i3, by rw [u2]; exact e5 i3⟩
  have F1 : Found ST "value" "[B" fV P.U := ⟨SBG.found_only al ⟨cfV, kV, iV, gV⟩, stV⟩
  have F2 : Found ST "coder" "B" fC P.U := ⟨SBG.found_only al ⟨cfC, kC, iC, gC⟩, stC⟩
  have hA : Ch b A P.U := ⟨⟨K.1, State.isArrayOf_alike al K.2.1, K.2.2, by omega⟩, hty⟩
  have hS : StaticIs P.U ST "COMPACT_STRINGS" "Z" (.int z) := by
    obtain ⟨cfS, iS, kS, fS, st, cS, t1, t2, t3, t4, t5, t6, t7⟩ := S
    exact StaticIs.there (s := { Z with heap := P.U.heap }) ⟨cfS, iS, kS, fS, st, cS, t1, t2, t3, t4, t5, (fun q => by rw [q] at t6; cases t6), t7⟩ al rfl
  obtain ⟨v, B, X', ⟨⟨hv, E', V', q1, q2, q3, q4, q5, q6, q7, q8, q9, q10, q11⟩, hl, hc, hs⟩, st⟩ := New1.pays x D fV fC b A z (tab_of (moved hZ hw)) hfr hlo m meth c P g ig mk _ X hg hsize hdg hW hn ⟨r1, r2, rfl, hB, F1, F2, hA, hS, hz, l0, l2, hp⟩
  have al' : Z.vm.Alike B.U.vm := hZ.alike.trans X'.warmed.alike
  have hsz : E'.slots.size = D.slots.size := by
    obtain ⟨-, -, -, kB, w1, w2, w3⟩ := q1
    obtain ⟨kB', y1, y2⟩ := al'.2.2 _ _ e3
    rw [q2.2.1] at w1
    cases w1.symm.trans y1
    rw [w3, e5 i3, y2]
  refine ⟨v, B, X', ⟨_, ⟨hv, ?_, ⟨by omega, fun y cy hy hn' => q10 y cy (by simpa using hn') hy, fun y cy hy => ?_⟩, q11, ⟨E', _, q1.1, by rw [q2.2.1]; exact e2, by rw [q2.2.1]; exact e3, by rw [q2.1]; exact obV, fun _ => by rw [hsz]; exact e5 i3⟩,
    ⟨E', cfV, kV, iV, fV, q1.1, gV, stV, by rw [q2.1]; exact knV, by rw [q2.1]; exact obV, by rw [q2.2.1]; exact asV, q3⟩, ⟨E', cfC, kC, iC, fC, q1.1, gC, stC, by rw [q2.1]; exact knV, by rw [q2.1]; exact obV, by rw [q2.2.1]; exact asC, q4⟩,
    ⟨V', ⟨q5.1, State.isArrayOf_alike al'.symm q5.2.1, q5.2.2.1⟩, q6, by rw [← al'.findClass]; exact q7, q8, fun j hj => by have := q9 j hj; rwa [Nat.zero_add] at this⟩, fun O n d w F n1 n2 => ?_⟩, hl, hc, hs⟩, st⟩
  · intro y hy
    simp only [List.mem_cons, List.not_mem_nil, or_false] at hy
    rcases hy with rfl | rfl <;> rfl
  · by_cases q : y = x
    · subst q
      cases hD.symm.trans hy
      exact ⟨E', q1.1, q2.2.1, q2.1, hsz⟩
    · exact ⟨cy, q10 y cy q hy, rfl, rfl, rfl⟩
  · obtain ⟨D3, cf, k, i, f, g1, g2, g3, g4, g5, g6, g7⟩ := F
    cases hD.symm.trans g1
    simp only [RoadKit.slotOf, g2, gV, gC, Option.map_some, Option.getD_some] at n1 n2
    exact ⟨E', cf, k, i, f, q1.1, g2, g3, by rw [q2.1]; exact g4, by rw [q2.1]; exact g5, by rw [q2.2.1]; exact g6, by rw [q2.2.2 f.slot (by simp [n1, n2])]; exact g7⟩
end StrChars.Road
namespace StrChars.Road
open Jvm Sem ClassFile Op Lib Jvm.Stand Jvm.Free Jvm.Free.XT
/-- WHAT COMES BACK, the byte[] as a list of values -/
def QA (Z : State) (x : Addr) (zn : Int32) (cs : List Int32) (h : Heap) (v : Option Value) (h' : Heap) (L : List Loc) : Prop := v = none ∧ (∀ y ∈ L, y.base = x) ∧ RoadKit.Keep h h' [x] ∧ h'.size = h.size + 1 ∧ RoadKit.Exa Z h' x ST ∧ RoadKit.Fld Z h' x ST "value" "[B" (.ref h.size) ∧ RoadKit.Fld Z h' x ST "coder" "B" (.int 0) ∧
  (∃ kb, Z.vm.findClass "[B" = some kb ∧ RoadKit.Arv Z h' h.size kb .byte zn (cs.map fun c => .int (lo8 c)) (.int 0)) ∧
  ∀ (O n d : String) (w : Value), RoadKit.Fld Z h x O n d w → RoadKit.slotOf Z O n d ≠ RoadKit.slotOf Z ST "value" "[B" → RoadKit.slotOf Z O n d ≠ RoadKit.slotOf Z ST "coder" "B" → RoadKit.Fld Z h' x O n d w
/-- **new String(chars) AT A CALL, THE ARRAYS AS LISTS**: the char[] at b holds cs, not empty, no char above 255 -/
theorem backArv {p : Program} {l : Launch} {e : Env} {R : Room} {s : State} {args : Array Value} {below : List Frame} {len W : Nat} {Z : State} {a0 : Array Value} {h : Heap} (hZ : Z.Warmed39 s.vm) (hw : ∀ d ∈ words, d.before a0 Z = true) {kI : Nat} (wi : (Jvm.Cond.instantiable ST kI).before a0 Z = true)
    {x b : Addr} {k : ClassId} {zn z : Int32} {cs : List Int32} {dv v0 c0 : Value} (E : RoadKit.Exa Z h x ST) (V : RoadKit.Fld Z h x ST "value" "[B" v0) (C : RoadKit.Fld Z h x ST "coder" "B" c0) (K : RoadKit.Arv Z h b k .char zn (cs.map Value.int) dv) (S : RoadKit.Sta Z h ST "COMPACT_STRINGS" "Z" (.int z)) (hz : ¬ z = 0)
    (hlen : zn.toNatClampNeg = cs.length) (h0 : 0 < cs.length) (hbig : cs.length ≤ 536870912) (hall : ∀ c ∈ cs, ¬ 255 < c) (hfr : 4 ≤ R.frames) (hlo : W + 65 ≤ R.locals) :
    Back l R p e below s args New1.yN len W (fun P a => a = #[.ref x, .ref b] ∧ P.U.heap = h ∧ P.cells + 1 ≤ R.cells ∧ P.slots + cs.length ≤ R.slots)
      (fun P _ v B => ∃ L, QA Z x zn cs h v B.U.heap L ∧ B.locs = P.locs ++ L ∧ B.cells = P.cells + 1 ∧ B.slots = P.slots + cs.length) := by
  obtain ⟨A, K1, K2, K3, K4, K5, K6⟩ := K
  have e : A.slots.size = cs.length := K3.trans hlen
  have hat : ∀ (i : Nat) (hi : i < cs.length), A.slots[i]? = some (.int cs[i]) := fun i hi => by rw [K5 i (by omega)]; simp [List.getD_eq_getElem?_getD, hi]
  have hcv : ∀ (i : Nat) (hi : i < cs.length), cv A i = cs[i] := fun i hi => by unfold cv; rw [hat i hi]
  have hty : Typed .char A := fun i v hv => by
    have hi : i < A.slots.size := (Array.getElem?_eq_some_iff.mp hv).1
    have q := K5 i hi
    rw [hv] at q
    rw [Option.some.inj q]
    exact K6 i hi
  refine Back.mono (back hZ hw wi E V C K1 hty S hz (by omega) (by omega) (fun i hi => by rw [hcv i (by omega)]; exact hall _ (List.getElem_mem _)) hfr hlo) (fun P a hp => ⟨hp.1, hp.2.1, hp.2.2.1, by rw [e]; exact hp.2.2.2⟩) (fun P a v B hp hq => ?_)
  obtain ⟨L, ⟨q1, q2, q3, q4, q5, q6, q7, ⟨V', v1, v2, v3, v4, v5⟩, q9⟩, hl, hc, hs⟩ := hq
  refine ⟨L, ⟨q1, q2, q3, q4, q5, q6, q7, ⟨V'.cls, v3, V', v1, rfl, by rw [v4, e, hlen], K4, fun i hi => ?_, fun i hi => ?_⟩, q9⟩, hl, hc, by rw [hs, e]⟩
  · have hi' : i < cs.length := by omega
    rw [v5 i (by omega), hcv i hi']; simp [List.getD_eq_getElem?_getD, hi']
  · have hi' : i < cs.length := by omega
    simp only [List.getD_eq_getElem?_getD, List.getElem?_map, List.getElem?_eq_getElem hi', Option.map_some, Option.getD_some]
    exact fits_lo8 _
end StrChars.Road
namespace StrChars.Road
open Jvm Sem ClassFile Op Lib Jvm.Stand Jvm.Free Jvm.Free.XT
/-- WHAT COMES BACK, in the writer's own shape -/
def QV (Z : State) (x : Addr) (N : Int32) (bs : List Int32) (h : Heap) (n0 : Nat) (v : Option Value) (h' : Heap) (L : List Loc) : Prop := v = none ∧ RoadKit.Fr n0 L ∧ RoadKit.Keep h h' [x] ∧ RoadKit.Exa Z h' x ST ∧ RoadKit.Fld Z h' x ST "coder" "B" (.int 0) ∧
  ∃ (t : Addr) (kb : ClassId), n0 ≤ t ∧ h.size ≤ t ∧ ¬ t = x ∧ RoadKit.Fld Z h' x ST "value" "[B" (.ref t) ∧ RoadKit.Arv Z h' t kb .byte N (bs.map Value.int) (.int 0)
/-- **new String(chars) AT A CALL, FOR THE WRITER**: a char[] of n known ints, each 0 to 255 -/
theorem backV {p : Program} {l : Launch} {e : Env} {R : Room} {s : State} {args : Array Value} {below : List Frame} {len W : Nat} {Z : State} {a0 : Array Value} {h : Heap} (hZ : Z.Warmed39 s.vm) (hw : ∀ d ∈ words, d.before a0 Z = true) {kI : Nat} (wi : (Jvm.Cond.instantiable ST kI).before a0 Z = true)
    {x b : Addr} {kC : ClassId} {cs bs : List Int32} {d v0 c0 : Value} {z N : Int32} {n n0 : Nat} (hx0 : n0 ≤ x) (hh0 : n0 ≤ h.size) (E : RoadKit.Exa Z h x ST) (V : RoadKit.Fld Z h x ST "value" "[B" v0) (C : RoadKit.Fld Z h x ST "coder" "B" c0) (K : RoadKit.Arv Z h b kC .char N (cs.map Value.int) d) (S : RoadKit.Sta Z h ST "COMPACT_STRINGS" "Z" (.int z)) (hz : ¬ z = 0)
    (hn : cs.length = n) (hN : N = Int32.ofNat n) (l0 : 0 < n) (l2 : n ≤ 4000) (hp : ∀ c ∈ cs, ¬ c < 0 ∧ ¬ (255 : Int32) < c) (hb : bs = cs.map (fun c => c.toInt8.toInt32)) (hfr : 4 ≤ R.frames) (hlo : W + 65 ≤ R.locals) :
    Back l R p e below s args (⟨"java/lang/String", "<init>", "([C)V"⟩ : MethodName) len W (fun P a => a = #[.ref x, .ref b] ∧ P.U.heap = h ∧ P.cells + 1 ≤ R.cells ∧ P.slots + n ≤ R.slots)
      (fun P _ v B => ∃ L, QV Z x N bs h n0 v B.U.heap L ∧ B.locs = P.locs ++ L ∧ B.cells = P.cells + 1 ∧ B.slots = P.slots + n) := by
  subst hn hN hb
  refine Back.mono (backArv hZ hw wi E V C K S hz (n32 (by omega)) l0 (by omega) (fun c hc => (hp c hc).2) hfr hlo) (fun P a hp => hp) (fun P a v B hp hq => ?_)
  obtain ⟨L, ⟨q1, q2, q3, q4, q5, q6, q7, ⟨kb, v1, v2⟩, q9⟩, hl, hc, hs⟩ := hq
  exact ⟨L, ⟨q1, fun y hy => by rw [q2 y hy]; exact hx0, q3, q5, q7, h.size, kb, hh0, Nat.le_refl _, Nat.ne_of_gt E.lt, q6, by rw [List.map_map]; exact v2⟩, hl, hc, hs⟩
end StrChars.Road
end Jvm.Pilot.@@N@@

namespace Jvm.Pilot.@@N@@
open Jvm Jvm.ClassFile Sem Op Lib Jvm.Free Jvm.Stand Jvm.LawKit Jvm.RoadKit Bundle Jvm.Pilot.@@N@@.Jvm.D
/-! the goal form of a walk: from S the run ends in Q -/
def own_Gl (p : Program) (e : Env) (below : List Frame) (Q : Outcome → State → Prop) (S : State) : Prop := ∃ s₂ o, Steps p.tables e below S s₂ ∧ s₂.status = .running ∧ Ended s₂ below o ∧ Q o s₂
def own_Post (s : State) (Q : Option Value → Heap → List Loc → Prop) (C N : Nat) : Outcome → State → Prop := fun o U' => ∃ v L, o = .returned v ∧ Q v U'.heap L ∧ FrameEnd s o U' L C N
section Own
variable {p : Program} {l : Launch} {e : Env} {R : Room} {s : State} {m : MethodId} {args : Array Value} {below : List Frame} {meth : Method} {c : Code} {T : State} {locs : List Loc} {cells slots : Nat} {Q : Outcome → State → Prop} {QQ : Option Value → Heap → List Loc → Prop} {S S' : State} {C N : Nat} {h : Heap}
theorem own_st (st : ∀ t, Steps p.tables e below S' t → Steps p.tables e below S t) (g : own_Gl p e below Q S') : own_Gl p e below Q S := by
  obtain ⟨s₂, o, h1, h2⟩ := g; exact ⟨s₂, o, st _ h1, h2⟩
theorem own_tr (st : Steps p.tables e below S S') (g : own_Gl p e below Q S') : own_Gl p e below Q S := by
  obtain ⟨s₂, o, h1, h2⟩ := g; exact ⟨s₂, o, st.trans h1, h2⟩
theorem own_retO (X : Stand p l e R s m args below meth c T locs cells slots) (hx : p.tables.exec = Jvm.exec) (hlk : meth.locks = false) {pc : Nat} {Ls : Array Slot} {w : Value} {t : FieldType} {i : Instr} {rest : List Value} (hret : meth.sig.returnType = some t) (hn : narrow t w = w)
    (hi : (i = .ireturn ∧ (t = .int ∨ t = .boolean ∨ t = .byte ∨ t = .char ∨ t = .short) ∧ ∃ z, w = .int z) ∨ (i = .lreturn ∧ t = .long ∧ ∃ z, w = .long z) ∨ (i = .dreturn ∧ t = .double ∧ ∃ z, w = .double z) ∨ (i = .freturn ∧ t = .float ∧ ∃ z, w = .float z) ∨ (i = .areturn ∧ t.isReference = true ∧ w.isRef = true))
    (hd : decode c.code pc = .ok (i, 1)) (hc : cells ≤ C) (hs : slots ≤ N) (eT : T.heap = h) (hq : QQ (some w) h locs) : own_Gl p e below (own_Post s QQ C N) (T.setTop (mkF m pc Ls (w :: rest))) := by
  obtain ⟨fs, hr, hrun, hended, hW, hsame⟩ := X.leave (v := some w) (fun h => by rw [hret] at h; cases h) hlk
  subst eT
  exact ⟨_, _, retOut X hx hret hn hi hd hr, hrun, hended, _, _, rfl, hq, ⟨_, rfl⟩, hW, hsame.mono hc hs⟩
theorem own_retI (X : Stand p l e R s m args below meth c T locs cells slots) (hx : p.tables.exec = Jvm.exec) (hlk : meth.locks = false) {pc : Nat} {Ls : Array Slot} {z : Int32} {rest : List Value} (hret : meth.sig.returnType = some .int)
    (hd : decode c.code pc = .ok (.ireturn, 1)) (hc : cells ≤ C) (hs : slots ≤ N) (eT : T.heap = h) (hq : QQ (some (.int z)) h locs) : own_Gl p e below (own_Post s QQ C N) (T.setTop (mkF m pc Ls (.int z :: rest))) :=
  own_retO X hx hlk hret rfl (Or.inl ⟨rfl, Or.inl rfl, z, rfl⟩) hd hc hs eT hq
theorem own_retL (X : Stand p l e R s m args below meth c T locs cells slots) (hx : p.tables.exec = Jvm.exec) (hlk : meth.locks = false) {pc : Nat} {Ls : Array Slot} {z : Int64} {rest : List Value} (hret : meth.sig.returnType = some .long)
    (hd : decode c.code pc = .ok (.lreturn, 1)) (hc : cells ≤ C) (hs : slots ≤ N) (eT : T.heap = h) (hq : QQ (some (.long z)) h locs) : own_Gl p e below (own_Post s QQ C N) (T.setTop (mkF m pc Ls (.long z :: rest))) :=
  own_retO X hx hlk hret rfl (Or.inr (Or.inl ⟨rfl, rfl, z, rfl⟩)) hd hc hs eT hq
theorem own_nref {t : FieldType} {w : Value} (h : w.isRef = true) : narrow t w = w := by cases t <;> cases w <;> first | rfl | simp [Value.isRef] at h
theorem own_retA (X : Stand p l e R s m args below meth c T locs cells slots) (hx : p.tables.exec = Jvm.exec) (hlk : meth.locks = false) {pc : Nat} {Ls : Array Slot} {w : Value} {t : FieldType} {rest : List Value} (hret : meth.sig.returnType = some t) (ht : t.isReference = true) (hw : w.isRef = true)
    (hd : decode c.code pc = .ok (.areturn, 1)) (hc : cells ≤ C) (hs : slots ≤ N) (eT : T.heap = h) (hq : QQ (some w) h locs) : own_Gl p e below (own_Post s QQ C N) (T.setTop (mkF m pc Ls (w :: rest))) :=
  own_retO X hx hlk hret (own_nref hw) (Or.inr (Or.inr (Or.inr (Or.inr ⟨rfl, ht, hw⟩)))) hd hc hs eT hq
theorem own_retN (X : Stand p l e R s m args below meth c T locs cells slots) (hx : p.tables.exec = Jvm.exec) (hlk : meth.locks = false) {pc : Nat} {Ls : Array Slot} {z : Int32} {t : FieldType} {rest : List Value} (hret : meth.sig.returnType = some t) (ht : t = .boolean ∨ t = .byte ∨ t = .char ∨ t = .short)
    (hd : decode c.code pc = .ok (.ireturn, 1)) (hc : cells ≤ C) (hs : slots ≤ N) (eT : T.heap = h) (hq : QQ (some (.int (nar t z))) h locs) : own_Gl p e below (own_Post s QQ C N) (T.setTop (mkF m pc Ls (.int z :: rest))) := by
  obtain ⟨fs, hr, hrun, hended, hW, hsame⟩ := X.leave (v := some (.int (nar t z))) (fun h => by rw [hret] at h; cases h) hlk
  subst eT
  exact ⟨_, _, retN X hx hret ht hd hr, hrun, hended, _, _, rfl, hq, ⟨_, rfl⟩, hW, hsame.mono hc hs⟩
theorem own_retV (X : Stand p l e R s m args below meth c T locs cells slots) (hx : p.tables.exec = Jvm.exec) (hlk : meth.locks = false) {pc : Nat} {Ls : Array Slot} (hret : meth.sig.returnType = none)
    (hd : decode c.code pc = .ok (.return_, 1)) (hc : cells ≤ C) (hs : slots ≤ N) (eT : T.heap = h) (hq : QQ none h locs) : own_Gl p e below (own_Post s QQ C N) (T.setTop (mkF m pc Ls [])) := by
  obtain ⟨fs, hr, hrun, hended, hW, hsame⟩ := X.leave (v := none) (fun _ => rfl) hlk
  subst eT
  exact ⟨_, _, X.returnOut hx hret hd hr, hrun, hended, _, _, rfl, hq, ⟨_, rfl⟩, hW, hsame.mono hc hs⟩
theorem own_ext_refl (h : Heap) : Ext h h := ⟨Nat.le_refl _, fun _ _ q => q⟩
theorem own_ext_tr {h0 h h' : Heap} (A : Ext h0 h) (B : Ext h h') : Ext h0 h' := ⟨Nat.le_trans A.1 B.1, fun x c q => B.2 x c (A.2 x c q)⟩
theorem own_ext_keep {h0 h h' : Heap} {ws : List Addr} (A : Ext h0 h) (K : Keep h h' ws) (q : ∀ x ∈ ws, h0.size ≤ x) : Ext h0 h' := ⟨Nat.le_trans A.1 K.1, fun x c r => K.2.1 x c (A.2 x c r) fun z => absurd (Array.getElem?_eq_some_iff.mp r).1 (Nat.not_lt.mpr (q x z))⟩
theorem own_ext_wr {h0 h h' : Heap} {a : Addr} {sl : Nat} {v : Value} (A : Ext h0 h) (W : Wr h h' a sl v) (q : h0.size ≤ a) : Ext h0 h' := own_ext_keep A (Keep.of_wr W) (allS q all0)
theorem own_sta_keep {Z : State} {h h' : Heap} {ws : List Addr} {C n d : String} {v : Value} (F : Sta Z h C n d v) (K : Keep h h' ws) (q : ∀ x ∈ ws, ∀ cell : Cell, h[x]? = some cell → cell.vm.isStatics = false) : Sta Z h' C n d v := by
  obtain ⟨cf, i, k, f, st, cell, h1, h2, h3, h4, h5, h6, h7⟩ := F
  exact ⟨cf, i, k, f, st, cell, h1, h2, h3, h4, K.2.1 _ _ h5 (fun z => by rw [q _ z _ h5] at h6; cases h6), h6, h7⟩
end Own
section Words
variable {Z : State} {args : Array Value} {t u : Term} {a : Addr} {cl : Cell} {ty : FieldType}
theorem own_fldI {C n d : String} {k : Int32} (ht : t.eval args Z none [] Z = some (.ref a)) (h : (Cond.eq (Term.field t C n d) (Term.int k)).value args Z none Z [] = some true) : Fld Z Z.heap a C n d (.int k) := by
  refine Fld.start ?_
  have e := fld_at (C := C) (n := n) (dd := d) ht
  cases hv : Z.fieldOf? a C n d with
  | none => rw [hv] at e; simp [Cond.value, e] at h
  | some v => rw [hv] at e; have ek := Term.int_eval (args := args) (first := Z) (o := none) (idx := []) (s := Z) k; cases v <;> simp only [Cond.value, e, ek] at h <;> first | (cases h; done) | (simp at h; rw [h])
theorem own_fldL {C n d : String} {k : Int64} (ht : t.eval args Z none [] Z = some (.ref a)) (h : (Cond.eq (Term.field t C n d) (Term.long k)).value args Z none Z [] = some true) : Fld Z Z.heap a C n d (.long k) := by
  refine Fld.start ?_
  have e := fld_at (C := C) (n := n) (dd := d) ht
  cases hv : Z.fieldOf? a C n d with
  | none => rw [hv] at e; simp [Cond.value, e] at h
  | some v => rw [hv] at e; have ek : (Term.long k).eval args Z none [] Z = some (.long k) := rfl; cases v <;> simp only [Cond.value, e, ek] at h <;> first | (cases h; done) | (simp at h; rw [h])
theorem own_fldR {C n d : String} {b : Addr} (ht : t.eval args Z none [] Z = some (.ref a)) (h : (Term.field t C n d).eval args Z none [] Z = some (.ref b)) : Fld Z Z.heap a C n d (.ref b) := Fld.start ((fld_at ht).symm.trans h)
theorem own_len {n : Int32} (ht : t.eval args Z none [] Z = some (.ref a)) (A : Arr Z Z.heap a cl ty) (h : (Cond.eq (Term.length t) (Term.int n)).value args Z none Z [] = some true) : cl.slots.size < 2 ^ 31 ∧ cl.slots.size.toInt32 = n := by
  have ha := A.fin (Vm.Alike.refl _)
  have ek : (Term.int n).eval args Z none [] Z = some (.int n) := rfl
  by_cases hl : cl.slots.size < 2 ^ 31
  · have e := len_f ht ha hl
    simp only [Cond.value, e, ek] at h
    exact ⟨hl, by simpa using h⟩
  · exfalso
    have e : (Term.length t).eval args Z none [] Z = none := by simp [Term.eval, ht, ha, hl]
    simp [Cond.value, e] at h
theorem own_elemI {j k : Int32} (ht : t.eval args Z none [] Z = some (.ref a)) (A : Arr Z Z.heap a cl ty) (h : (Cond.eq (Term.elem t (Term.int j)) (Term.int k)).value args Z none Z [] = some true) : cl.slots[j.toNatClampNeg]? = some (.int k) := by
  have ek : (Term.int k).eval args Z none [] Z = some (.int k) := rfl
  cases hv : (Term.elem t (Term.int j)).eval args Z none [] Z with
  | none => simp [Cond.value, hv] at h
  | some v =>
    have q := (elem_in hv ht (Term.int_eval j) A.1).2
    rw [q]
    cases v <;> simp only [Cond.value, hv, ek] at h <;> first | (cases h; done) | (simp at h; rw [h])
theorem own_elemR {j : Int32} {b : Addr} (ht : t.eval args Z none [] Z = some (.ref a)) (A : Arr Z Z.heap a cl ty) (hu : u.eval args Z none [] Z = some (.ref b)) (h : (Cond.eq (Term.elem t (Term.int j)) u).value args Z none Z [] = some true) : cl.slots[j.toNatClampNeg]? = some (.ref b) := by
  cases hv : (Term.elem t (Term.int j)).eval args Z none [] Z with
  | none => simp [Cond.value, hv] at h
  | some v =>
    have q := (elem_in hv ht (Term.int_eval j) A.1).2
    rw [q]
    cases v <;> simp only [Cond.value, hv, hu] at h <;> first | (cases h; done) | (simp at h; rw [h])
end Words
def own_e1 (b : Int32) : List Int32 := if b < 0 then [((192 : Int32) ||| ((b &&& (255 : Int32)) >>> ((6 : Int32) &&& 31))).toInt8.toInt32, ((128 : Int32) ||| (b &&& (63 : Int32))).toInt8.toInt32] else [b]
def own_enc (bs : List Int32) : List Int32 := bs.flatMap own_e1
theorem own_e1_neg {b : Int32} (h : b < 0) : own_e1 b = [((192 : Int32) ||| ((b &&& (255 : Int32)) >>> ((6 : Int32) &&& 31))).toInt8.toInt32, ((128 : Int32) ||| (b &&& (63 : Int32))).toInt8.toInt32] := if_pos h
theorem own_e1_pos {b : Int32} (h : ¬ b < 0) : own_e1 b = [b] := if_neg h
theorem own_e1_len (b : Int32) : 1 ≤ (own_e1 b).length ∧ (own_e1 b).length ≤ 2 := by unfold own_e1; split <;> simp
theorem own_e1_len2 {b : Int32} (h : b < 0) : (own_e1 b).length = 2 := by rw [own_e1_neg h]; rfl
theorem own_enc_app (xs ys : List Int32) : own_enc (xs ++ ys) = own_enc xs ++ own_enc ys := by simp [own_enc]
theorem own_enc_cons (x : Int32) (ys : List Int32) : own_enc (x :: ys) = own_e1 x ++ own_enc ys := by simp [own_enc]
theorem own_enc_nil : own_enc [] = [] := rfl
theorem own_enc_one (x : Int32) : own_enc [x] = own_e1 x := by simp [own_enc]
theorem own_enc_len (bs : List Int32) : (own_enc bs).length ≤ 2 * bs.length := by
  induction bs with
  | nil => simp [own_enc]
  | cons b t ih => rw [own_enc_cons, List.length_append, List.length_cons]; have := own_e1_len b; omega
theorem own_take (bs : List Int32) {i : Nat} (hi : i < bs.length) : bs.take (i + 1) = bs.take i ++ [bs[i]] := by rw [List.take_add_one, List.getElem?_eq_getElem hi]; rfl
/-! naturals as ints -/
theorem own_ofn {n : Nat} (h : n < 2 ^ 31) : (Int32.ofNat n).toInt = n := Int32.toInt_ofNat_of_lt h
theorem own_ofn_lt {a b : Nat} (ha : a < 2 ^ 31) (hb : b < 2 ^ 31) : (Int32.ofNat a < Int32.ofNat b) ↔ a < b := by rw [Int32.lt_iff_toInt_lt, own_ofn ha, own_ofn hb]; omega
theorem own_ofn_nn {n : Nat} (h : n < 2 ^ 31) : ¬ Int32.ofNat n < 0 := by rw [Int32.lt_iff_toInt_lt, own_ofn h]; simp
theorem own_ofn_clamp {n : Nat} (h : n < 2 ^ 31) : (Int32.ofNat n).toNatClampNeg = n := by simp only [Int32.toNatClampNeg, own_ofn h]; omega
theorem own_ofn_add (a b : Nat) : Int32.ofNat a + Int32.ofNat b = Int32.ofNat (a + b) := (Int32.ofNat_add a b).symm
theorem own_ofn_inj {a b : Nat} (ha : a < 2 ^ 31) (hb : b < 2 ^ 31) (h : Int32.ofNat a = Int32.ofNat b) : a = b := by have := congrArg Int32.toInt h; rw [own_ofn ha, own_ofn hb] at this; omega
/-! an array's next place -/
section Push
variable {Z : State} {h h' : Heap} {a : Addr} {k : ClassId} {ty : FieldType} {z : Int32} {vs : List Value} {dv v : Value} {c : Cell}
theorem own_pad (F : Arv Z h a k ty z vs dv) : Arv Z h a k ty z (vs ++ [dv]) dv := F.pad (pad_rep vs dv 1)
theorem own_push {j : Int32} (A : Arr Z h a c ty) (q1 : c.cls = k) (S : c.slots.size = z.toNatClampNeg) (q3 : ¬ z < 0) (H : Has c (vs ++ [dv]) dv) (G : ∀ i, i < c.slots.size → fits ty ((vs ++ [dv]).getD i dv) = true) (hv : fits ty v = true) (W : Wr h h' a j.toNatClampNeg v) (hj : j.toNatClampNeg = vs.length) : Arv Z h' a k ty z (vs ++ [v]) dv := by
  have q := Arv.set A q1 S q3 H G hv W vs.length hj (by simp)
  have e : (vs ++ [dv]).set vs.length v = vs ++ [v] := by rw [List.set_append_right _ _ (Nat.le_refl _)]; simp
  rw [e] at q; exact q
end Push
theorem own_narb {b : Int32} (h : fits .byte (.int b) = true) : nar .byte b = b := by
  have := rng_byte h
  have c := c_i2b b
  show b.toInt8.toInt32 = b
  rw [Int32.lt_iff_toInt_lt, Int32.lt_iff_toInt_lt] at this
  have e1 : (-128 : Int32).toInt = -128 := by decide
  have e2 : (127 : Int32).toInt = 127 := by decide
  exact Int32.toInt_inj.mp (by omega)
theorem own_narb8 (x : Int32) : nar .byte x.toInt8.toInt32 = x.toInt8.toInt32 := own_narb (fits_nar_byte x)
theorem own_narc {c : Int32} (h0 : ¬ c < 0) (h1 : ¬ (255 : Int32) < c) : nar .char c = c := by
  have q := c_i2c c
  show c.toUInt32.toUInt16.toUInt32.toInt32 = c
  rw [Int32.lt_iff_toInt_lt] at h0 h1
  have e1 : (0 : Int32).toInt = 0 := by decide
  have e2 : (255 : Int32).toInt = 255 := by decide
  exact Int32.toInt_inj.mp (by omega)
theorem own_fitc {c : Int32} (h0 : ¬ c < 0) (h1 : ¬ (255 : Int32) < c) : fits .char (.int c) = true := by
  have := fits_nar_char c; rwa [own_narc h0 h1] at this
theorem own_hi (y : Int64) : ¬ nar .char (((128 : Int32) ||| ((y &&& (127 : Int64)).toInt32)).toUInt32.toUInt16.toUInt32.toInt32) < 128 ∧ ¬ (255 : Int32) < nar .char (((128 : Int32) ||| ((y &&& (127 : Int64)).toInt32)).toUInt32.toUInt16.toUInt32.toInt32) := by
  have h1 := c_maskL y 127 7 (by decide) (by decide)
  have h2 := c_l2i (y &&& (127 : Int64))
  have h2r := rng32 (y &&& (127 : Int64)).toInt32
  have e3 : (128 : Int32).toInt = 128 := by decide
  have h3 := c_or (128 : Int32) (y &&& (127 : Int64)).toInt32 7 (by decide) 128 (by decide) (by rw [e3]; decide) (by omega) (by omega)
  have h3r := rng32 ((128 : Int32) ||| (y &&& (127 : Int64)).toInt32)
  have h4 := c_i2c ((128 : Int32) ||| (y &&& (127 : Int64)).toInt32)
  have h5 := c_i2c (((128 : Int32) ||| (y &&& (127 : Int64)).toInt32).toUInt32.toUInt16.toUInt32.toInt32)
  show ¬ (((128 : Int32) ||| (y &&& (127 : Int64)).toInt32).toUInt32.toUInt16.toUInt32.toInt32).toUInt32.toUInt16.toUInt32.toInt32 < 128 ∧ ¬ (255 : Int32) < (((128 : Int32) ||| (y &&& (127 : Int64)).toInt32).toUInt32.toUInt16.toUInt32.toInt32).toUInt32.toUInt16.toUInt32.toInt32
  have e4 : (255 : Int32).toInt = 255 := by decide
  rw [Int32.lt_iff_toInt_lt, Int32.lt_iff_toInt_lt, e3, e4]
  omega
theorem own_lo (y : Int64) : ¬ nar .char ((y &&& (255 : Int64)).toInt32.toUInt32.toUInt16.toUInt32.toInt32) < 0 ∧ ¬ (255 : Int32) < nar .char ((y &&& (255 : Int64)).toInt32.toUInt32.toUInt16.toUInt32.toInt32) := by
  have h1 := c_maskL y 255 8 (by decide) (by decide)
  have h2 := c_l2i (y &&& (255 : Int64))
  have h2r := rng32 (y &&& (255 : Int64)).toInt32
  have h4 := c_i2c (y &&& (255 : Int64)).toInt32
  have h5 := c_i2c (y &&& (255 : Int64)).toInt32.toUInt32.toUInt16.toUInt32.toInt32
  show ¬ ((y &&& (255 : Int64)).toInt32.toUInt32.toUInt16.toUInt32.toInt32).toUInt32.toUInt16.toUInt32.toInt32 < 0 ∧ ¬ (255 : Int32) < ((y &&& (255 : Int64)).toInt32.toUInt32.toUInt16.toUInt32.toInt32).toUInt32.toUInt16.toUInt32.toInt32
  have e3 : (0 : Int32).toInt = 0 := by decide
  have e4 : (255 : Int32).toInt = 255 := by decide
  rw [Int32.lt_iff_toInt_lt, Int32.lt_iff_toInt_lt, e3, e4]
  omega
theorem own_lt0 {c : Int32} (h : ¬ c < 128) : ¬ c < 0 := by
  rw [Int32.lt_iff_toInt_lt] at h ⊢
  have e3 : (0 : Int32).toInt = 0 := by decide
  have e4 : (128 : Int32).toInt = 128 := by decide
  omega
theorem own_b_neg {c : Int32} (h : ¬ c < 128) (h1 : ¬ (255 : Int32) < c) : c.toInt8.toInt32 < 0 := by
  have q := c_i2b c
  rw [Int32.lt_iff_toInt_lt] at h h1 ⊢
  have e2 : (0 : Int32).toInt = 0 := by decide
  have e3 : (255 : Int32).toInt = 255 := by decide
  have e4 : (128 : Int32).toInt = 128 := by decide
  omega
theorem own_b_pos {c : Int32} (h0 : ¬ c < 0) (h : c < 128) : c.toInt8.toInt32 = c := by
  have q := c_i2b c
  rw [Int32.lt_iff_toInt_lt] at h h0
  have e2 : (0 : Int32).toInt = 0 := by decide
  have e4 : (128 : Int32).toInt = 128 := by decide
  exact Int32.toInt_inj.mp (by omega)
theorem own_b_255 {c : Int32} (h0 : ¬ c < 0) (h1 : ¬ (255 : Int32) < c) : c.toInt8.toInt32 &&& (255 : Int32) = c := by
  have q := c_i2b c
  have m1 := c_mask c.toInt8.toInt32 255 8 (by decide) (by decide)
  rw [Int32.lt_iff_toInt_lt] at h0 h1
  have e1 : (0 : Int32).toInt = 0 := by decide
  have e2 : (255 : Int32).toInt = 255 := by decide
  exact Int32.toInt_inj.mp (by omega)
theorem own_b_63 {c : Int32} (h0 : ¬ c < 0) (h1 : ¬ (255 : Int32) < c) : c.toInt8.toInt32 &&& (63 : Int32) = c &&& (63 : Int32) := by
  have q := c_i2b c
  have m1 := c_mask c.toInt8.toInt32 63 6 (by decide) (by decide)
  have m2 := c_mask c 63 6 (by decide) (by decide)
  exact Int32.toInt_inj.mp (by omega)
theorem own_pn0 : plainName "com/example/highwater/highwater/config/TokenSecretFromTextPinLaw" = true := by first | (simp [plainName, overriddenIn]; done) | decide +kernel
theorem own_d_method_3_code_0 : decode method_3_code 0 = .ok (.sipush 128, 3) := by decide +kernel
theorem own_d_method_3_code_3 : decode method_3_code 3 = .ok (.lload_n 0, 1) := by decide +kernel
theorem own_d_method_3_code_4 : decode method_3_code 4 = .ok (.bipush 8, 2) := by decide +kernel
theorem own_d_method_3_code_6 : decode method_3_code 6 = .ok (.iload_n 2, 1) := by decide +kernel
theorem own_d_method_3_code_7 : decode method_3_code 7 = .ok (.imul, 1) := by decide +kernel
theorem own_d_method_3_code_8 : decode method_3_code 8 = .ok (.lushr, 1) := by decide +kernel
theorem own_d_method_3_code_9 : decode method_3_code 9 = .ok (.ldc2_w 35, 3) := by decide +kernel
theorem own_d_method_3_code_12 : decode method_3_code 12 = .ok (.land, 1) := by decide +kernel
theorem own_d_method_3_code_13 : decode method_3_code 13 = .ok (.l2i, 1) := by decide +kernel
theorem own_d_method_3_code_14 : decode method_3_code 14 = .ok (.ior, 1) := by decide +kernel
theorem own_d_method_3_code_15 : decode method_3_code 15 = .ok (.i2c, 1) := by decide +kernel
theorem own_d_method_3_code_16 : decode method_3_code 16 = .ok (.ireturn, 1) := by decide +kernel
theorem own_ef_hi (m : MethodId) (x0 : Int64) (x1 : Int32) : entryFrame m #[(.long x0), (.int x1)] 3 = mkF m 0 #[.val (.long x0), .second, .val (.int x1)] [] := by first | (simp [entryFrame, mkF, argsToLocals, Value.category]; done) | rfl
def own_Q_hi (Z : State) (q1 : Int64) (p2 : Int32) (h0 : Heap) (n0 : Nat) (v : Option Value) (h : Heap) (L : List Loc) : Prop := (∃ c, v = some (.int c) ∧ (¬ c < 128 ∧ ¬ (255 : Int32) < c)) ∧ Fr n0 L ∧ h = h0
set_option maxRecDepth 65536 in
set_option maxHeartbeats 40000000 in
theorem own_rm_hi (l : Launch) (Z : State) (a0 : Array Value) (hw : ∀ d ∈ tables_1, d.before a0 Z = true) (ws : List Jvm.Cond) (q1 : Int64) (p2 : Int32) (h0 : Heap) (n0 : Nat) (Z0 : n0 ≤ h0.size)  :
    MetFree l (⟨"com/example/highwater/highwater/config/TokenSecretFromTextPinLaw", "hi", "(JI)C"⟩ : MethodName) (head1 (Jvm.Cond.code (⟨"com/example/highwater/highwater/config/TokenSecretFromTextPinLaw", "hi", "(JI)C"⟩ : MethodName) method_3_code 3 (some .char) :: ws) ({ frames := 0, cells := 0, slots := 0, locals := 0 } : Room)) (fun aa UU => aa = #[(.long q1), (.int p2)] ∧ Z.Warmed39 UU.vm ∧ UU.heap = h0) (fun _ _ _ _ _ => True) (fun _ UU oo UU' => ∃ vv LL, oo = .returned vv ∧ own_Q_hi Z q1 p2 h0 n0 vv UU'.heap LL ∧ FrameEnd UU oo UU' LL ({ frames := 0, cells := 0, slots := 0, locals := 0 } : Room).cells ({ frames := 0, cells := 0, slots := 0, locals := 0 } : Room).slots) := by
  refine MetFree.of_bodySF (plainFor_of_name own_pn0) hisR ?_
  intro p e s m args below meth c s₁ Bd hml0 hP hK
  obtain ⟨rfl, hZ, hh⟩ := hP
  have hx := Bd.exec
  have hby := Bd.bytes
  have hml : c.maxLocals = 3 := hml0
  have hown : s.vm.findClass "com/example/highwater/highwater/config/TokenSecretFromTextPinLaw" = some m.cls := findClass_of_methodNamed Bd.named
  have hnm := (name_of_methodNamed Bd.named Bd.method).1
  have X0 : Stand p l e ({ frames := 0, cells := 0, slots := 0, locals := 0 } : Room) s m #[(.long q1), (.int p2)] below meth c s₁ [] 0 0 := Stand.of_body Bd
  have e0 : s₁.heap = h0 := by rw [← hh, Bd.state]; rfl
  have N0 := Fr.nil n0
  show own_Gl p e below (own_Post s (own_Q_hi Z q1 p2 h0 n0) ({ frames := 0, cells := 0, slots := 0, locals := 0 } : Room).cells ({ frames := 0, cells := 0, slots := 0, locals := 0 } : Room).slots) _
  refine own_st (fun tg_ kg_ => castTop (own_ef_hi m q1 p2) kg_) ?_
  show own_Gl p e below _ (s₁.setTop (mkF m 0 #[.val (.long q1), .second, .val (.int p2)] []))
  refine own_st (fun tg_ kg_ => XS.sipush X0.here hx rfl (hb hby own_d_method_3_code_0) kg_) ?_
  show own_Gl p e below _ (s₁.setTop (mkF m 3 #[.val (.long q1), .second, .val (.int p2)] [(.int (128 : Int32))]))
  refine own_st (fun tg_ kg_ => XS.lloadN X0.here hx rfl (hb hby own_d_method_3_code_3) rfl kg_) ?_
  show own_Gl p e below _ (s₁.setTop (mkF m 4 #[.val (.long q1), .second, .val (.int p2)] [(.long q1), (.int (128 : Int32))]))
  refine own_st (fun tg_ kg_ => XS.bipush X0.here hx rfl (hb hby own_d_method_3_code_4) kg_) ?_
  show own_Gl p e below _ (s₁.setTop (mkF m 6 #[.val (.long q1), .second, .val (.int p2)] [(.int (8 : Int32)), (.long q1), (.int (128 : Int32))]))
  refine own_st (fun tg_ kg_ => XS.iloadN X0.here hx rfl (hb hby own_d_method_3_code_6) rfl kg_) ?_
  show own_Gl p e below _ (s₁.setTop (mkF m 7 #[.val (.long q1), .second, .val (.int p2)] [(.int p2), (.int (8 : Int32)), (.long q1), (.int (128 : Int32))]))
  refine own_st (fun tg_ kg_ => XS.imul X0.here hx rfl (hb hby own_d_method_3_code_7) rfl kg_) ?_
  show own_Gl p e below _ (s₁.setTop (mkF m 8 #[.val (.long q1), .second, .val (.int p2)] [(.int ((8 : Int32) * p2)), (.long q1), (.int (128 : Int32))]))
  refine own_st (fun tg_ kg_ => XS.lushr X0.here hx rfl (hb hby own_d_method_3_code_8) rfl kg_) ?_
  show own_Gl p e below _ (s₁.setTop (mkF m 9 #[.val (.long q1), .second, .val (.int p2)] [(.long ((q1.toUInt64 >>> (((8 : Int32) * p2) &&& 0x3f).toInt64.toUInt64).toInt64)), (.int (128 : Int32))]))
  refine own_st (fun tg_ kg_ => X0.ldc2Long hx hown (mvT hZ (hw _ (List.mem_of_getElem? (i := 5) rfl))) (g := (mkF m 9 #[.val (.long q1), .second, .val (.int p2)] [(.long ((q1.toUInt64 >>> (((8 : Int32) * p2) &&& 0x3f).toInt64.toUInt64).toInt64)), (.int (128 : Int32))])) rfl (hb hby own_d_method_3_code_9) _ kg_) ?_
  show own_Gl p e below _ (s₁.setTop (mkF m 12 #[.val (.long q1), .second, .val (.int p2)] [(.long (127 : Int64)), (.long ((q1.toUInt64 >>> (((8 : Int32) * p2) &&& 0x3f).toInt64.toUInt64).toInt64)), (.int (128 : Int32))]))
  refine own_st (fun tg_ kg_ => XS.land X0.here hx rfl (hb hby own_d_method_3_code_12) rfl kg_) ?_
  show own_Gl p e below _ (s₁.setTop (mkF m 13 #[.val (.long q1), .second, .val (.int p2)] [(.long (((q1.toUInt64 >>> (((8 : Int32) * p2) &&& 0x3f).toInt64.toUInt64).toInt64) &&& (127 : Int64))), (.int (128 : Int32))]))
  refine own_st (fun tg_ kg_ => XS.l2i X0.here hx rfl (hb hby own_d_method_3_code_13) rfl kg_) ?_
  show own_Gl p e below _ (s₁.setTop (mkF m 14 #[.val (.long q1), .second, .val (.int p2)] [(.int ((((q1.toUInt64 >>> (((8 : Int32) * p2) &&& 0x3f).toInt64.toUInt64).toInt64) &&& (127 : Int64)).toInt32)), (.int (128 : Int32))]))
  refine own_st (fun tg_ kg_ => XS.ior X0.here hx rfl (hb hby own_d_method_3_code_14) rfl kg_) ?_
  show own_Gl p e below _ (s₁.setTop (mkF m 15 #[.val (.long q1), .second, .val (.int p2)] [(.int ((128 : Int32) ||| ((((q1.toUInt64 >>> (((8 : Int32) * p2) &&& 0x3f).toInt64.toUInt64).toInt64) &&& (127 : Int64)).toInt32)))]))
  refine own_st (fun tg_ kg_ => XS.i2c X0.here hx rfl (hb hby own_d_method_3_code_15) rfl kg_) ?_
  show own_Gl p e below _ (s₁.setTop (mkF m 16 #[.val (.long q1), .second, .val (.int p2)] [(.int (((128 : Int32) ||| ((((q1.toUInt64 >>> (((8 : Int32) * p2) &&& 0x3f).toInt64.toUInt64).toInt64) &&& (127 : Int64)).toInt32)).toUInt32.toUInt16.toUInt32.toInt32))]))
  exact own_retN X0 hx Bd.notSynchronized (t := .char) Bd.returns (by simp) (hb hby own_d_method_3_code_16) (by decide) (by decide) e0 (⟨⟨_, rfl, own_hi _⟩, N0, rfl⟩)
theorem own_d_method_4_code_0 : decode method_4_code 0 = .ok (.lload_n 0, 1) := by decide +kernel
theorem own_d_method_4_code_1 : decode method_4_code 1 = .ok (.bipush 8, 2) := by decide +kernel
theorem own_d_method_4_code_3 : decode method_4_code 3 = .ok (.iload_n 2, 1) := by decide +kernel
theorem own_d_method_4_code_4 : decode method_4_code 4 = .ok (.imul, 1) := by decide +kernel
theorem own_d_method_4_code_5 : decode method_4_code 5 = .ok (.lushr, 1) := by decide +kernel
theorem own_d_method_4_code_6 : decode method_4_code 6 = .ok (.ldc2_w 37, 3) := by decide +kernel
theorem own_d_method_4_code_9 : decode method_4_code 9 = .ok (.land, 1) := by decide +kernel
theorem own_d_method_4_code_10 : decode method_4_code 10 = .ok (.l2i, 1) := by decide +kernel
theorem own_d_method_4_code_11 : decode method_4_code 11 = .ok (.i2c, 1) := by decide +kernel
theorem own_d_method_4_code_12 : decode method_4_code 12 = .ok (.ireturn, 1) := by decide +kernel
theorem own_ef_lo (m : MethodId) (x0 : Int64) (x1 : Int32) : entryFrame m #[(.long x0), (.int x1)] 3 = mkF m 0 #[.val (.long x0), .second, .val (.int x1)] [] := by first | (simp [entryFrame, mkF, argsToLocals, Value.category]; done) | rfl
def own_Q_lo (Z : State) (q1 : Int64) (p2 : Int32) (h0 : Heap) (n0 : Nat) (v : Option Value) (h : Heap) (L : List Loc) : Prop := (∃ c, v = some (.int c) ∧ (¬ c < 0 ∧ ¬ (255 : Int32) < c)) ∧ Fr n0 L ∧ h = h0
set_option maxRecDepth 65536 in
set_option maxHeartbeats 40000000 in
theorem own_rm_lo (l : Launch) (Z : State) (a0 : Array Value) (hw : ∀ d ∈ tables_1, d.before a0 Z = true) (ws : List Jvm.Cond) (q1 : Int64) (p2 : Int32) (h0 : Heap) (n0 : Nat) (Z0 : n0 ≤ h0.size)  :
    MetFree l (⟨"com/example/highwater/highwater/config/TokenSecretFromTextPinLaw", "lo", "(JI)C"⟩ : MethodName) (head1 (Jvm.Cond.code (⟨"com/example/highwater/highwater/config/TokenSecretFromTextPinLaw", "lo", "(JI)C"⟩ : MethodName) method_4_code 3 (some .char) :: ws) ({ frames := 0, cells := 0, slots := 0, locals := 0 } : Room)) (fun aa UU => aa = #[(.long q1), (.int p2)] ∧ Z.Warmed39 UU.vm ∧ UU.heap = h0) (fun _ _ _ _ _ => True) (fun _ UU oo UU' => ∃ vv LL, oo = .returned vv ∧ own_Q_lo Z q1 p2 h0 n0 vv UU'.heap LL ∧ FrameEnd UU oo UU' LL ({ frames := 0, cells := 0, slots := 0, locals := 0 } : Room).cells ({ frames := 0, cells := 0, slots := 0, locals := 0 } : Room).slots) := by
  refine MetFree.of_bodySF (plainFor_of_name own_pn0) hisR ?_
  intro p e s m args below meth c s₁ Bd hml0 hP hK
  obtain ⟨rfl, hZ, hh⟩ := hP
  have hx := Bd.exec
  have hby := Bd.bytes
  have hml : c.maxLocals = 3 := hml0
  have hown : s.vm.findClass "com/example/highwater/highwater/config/TokenSecretFromTextPinLaw" = some m.cls := findClass_of_methodNamed Bd.named
  have hnm := (name_of_methodNamed Bd.named Bd.method).1
  have X0 : Stand p l e ({ frames := 0, cells := 0, slots := 0, locals := 0 } : Room) s m #[(.long q1), (.int p2)] below meth c s₁ [] 0 0 := Stand.of_body Bd
  have e0 : s₁.heap = h0 := by rw [← hh, Bd.state]; rfl
  have N0 := Fr.nil n0
  show own_Gl p e below (own_Post s (own_Q_lo Z q1 p2 h0 n0) ({ frames := 0, cells := 0, slots := 0, locals := 0 } : Room).cells ({ frames := 0, cells := 0, slots := 0, locals := 0 } : Room).slots) _
  refine own_st (fun tg_ kg_ => castTop (own_ef_lo m q1 p2) kg_) ?_
  show own_Gl p e below _ (s₁.setTop (mkF m 0 #[.val (.long q1), .second, .val (.int p2)] []))
  refine own_st (fun tg_ kg_ => XS.lloadN X0.here hx rfl (hb hby own_d_method_4_code_0) rfl kg_) ?_
  show own_Gl p e below _ (s₁.setTop (mkF m 1 #[.val (.long q1), .second, .val (.int p2)] [(.long q1)]))
  refine own_st (fun tg_ kg_ => XS.bipush X0.here hx rfl (hb hby own_d_method_4_code_1) kg_) ?_
  show own_Gl p e below _ (s₁.setTop (mkF m 3 #[.val (.long q1), .second, .val (.int p2)] [(.int (8 : Int32)), (.long q1)]))
  refine own_st (fun tg_ kg_ => XS.iloadN X0.here hx rfl (hb hby own_d_method_4_code_3) rfl kg_) ?_
  show own_Gl p e below _ (s₁.setTop (mkF m 4 #[.val (.long q1), .second, .val (.int p2)] [(.int p2), (.int (8 : Int32)), (.long q1)]))
  refine own_st (fun tg_ kg_ => XS.imul X0.here hx rfl (hb hby own_d_method_4_code_4) rfl kg_) ?_
  show own_Gl p e below _ (s₁.setTop (mkF m 5 #[.val (.long q1), .second, .val (.int p2)] [(.int ((8 : Int32) * p2)), (.long q1)]))
  refine own_st (fun tg_ kg_ => XS.lushr X0.here hx rfl (hb hby own_d_method_4_code_5) rfl kg_) ?_
  show own_Gl p e below _ (s₁.setTop (mkF m 6 #[.val (.long q1), .second, .val (.int p2)] [(.long ((q1.toUInt64 >>> (((8 : Int32) * p2) &&& 0x3f).toInt64.toUInt64).toInt64))]))
  refine own_st (fun tg_ kg_ => X0.ldc2Long hx hown (mvT hZ (hw _ (List.mem_of_getElem? (i := 9) rfl))) (g := (mkF m 6 #[.val (.long q1), .second, .val (.int p2)] [(.long ((q1.toUInt64 >>> (((8 : Int32) * p2) &&& 0x3f).toInt64.toUInt64).toInt64))])) rfl (hb hby own_d_method_4_code_6) _ kg_) ?_
  show own_Gl p e below _ (s₁.setTop (mkF m 9 #[.val (.long q1), .second, .val (.int p2)] [(.long (255 : Int64)), (.long ((q1.toUInt64 >>> (((8 : Int32) * p2) &&& 0x3f).toInt64.toUInt64).toInt64))]))
  refine own_st (fun tg_ kg_ => XS.land X0.here hx rfl (hb hby own_d_method_4_code_9) rfl kg_) ?_
  show own_Gl p e below _ (s₁.setTop (mkF m 10 #[.val (.long q1), .second, .val (.int p2)] [(.long (((q1.toUInt64 >>> (((8 : Int32) * p2) &&& 0x3f).toInt64.toUInt64).toInt64) &&& (255 : Int64)))]))
  refine own_st (fun tg_ kg_ => XS.l2i X0.here hx rfl (hb hby own_d_method_4_code_10) rfl kg_) ?_
  show own_Gl p e below _ (s₁.setTop (mkF m 11 #[.val (.long q1), .second, .val (.int p2)] [(.int ((((q1.toUInt64 >>> (((8 : Int32) * p2) &&& 0x3f).toInt64.toUInt64).toInt64) &&& (255 : Int64)).toInt32))]))
  refine own_st (fun tg_ kg_ => XS.i2c X0.here hx rfl (hb hby own_d_method_4_code_11) rfl kg_) ?_
  show own_Gl p e below _ (s₁.setTop (mkF m 12 #[.val (.long q1), .second, .val (.int p2)] [(.int (((((q1.toUInt64 >>> (((8 : Int32) * p2) &&& 0x3f).toInt64.toUInt64).toInt64) &&& (255 : Int64)).toInt32).toUInt32.toUInt16.toUInt32.toInt32))]))
  exact own_retN X0 hx Bd.notSynchronized (t := .char) Bd.returns (by simp) (hb hby own_d_method_4_code_12) (by decide) (by decide) e0 (⟨⟨_, rfl, own_lo _⟩, N0, rfl⟩)
theorem own_pn1 : plainName "java/lang/String" = true := by first | (simp [plainName, overriddenIn]; done) | decide +kernel
theorem own_d_jdk_42_method_152_code_0 : decode jdk_42_method_152_code 0 = .ok (.getstatic 38, 3) := by decide +kernel
theorem own_d_jdk_42_method_152_code_3 : decode jdk_42_method_152_code 3 = .ok (.ifCond .eq 10, 3) := by decide +kernel
theorem own_d_jdk_42_method_152_code_6 : decode jdk_42_method_152_code 6 = .ok (.aload_n 0, 1) := by decide +kernel
theorem own_d_jdk_42_method_152_code_7 : decode jdk_42_method_152_code 7 = .ok (.getfield 15, 3) := by decide +kernel
theorem own_d_jdk_42_method_152_code_10 : decode jdk_42_method_152_code 10 = .ok (.goto 4, 3) := by decide +kernel
theorem own_d_jdk_42_method_152_code_14 : decode jdk_42_method_152_code 14 = .ok (.ireturn, 1) := by decide +kernel
theorem own_ef_cod (m : MethodId) (x0 : Addr) : entryFrame m #[(.ref x0)] 1 = mkF m 0 #[.val (.ref x0)] [] := by first | (simp [entryFrame, mkF, argsToLocals, Value.category]; done) | rfl
def own_Q_cod (Z : State) (x : Addr) (zc : Int32) (h0 : Heap) (n0 : Nat) (v : Option Value) (h : Heap) (L : List Loc) : Prop := v = some (.int 0) ∧ Fr n0 L ∧ h = h0
set_option maxRecDepth 65536 in
set_option maxHeartbeats 40000000 in
theorem own_rm_cod (l : Launch) (Z : State) (a0 : Array Value) (hw : ∀ d ∈ tables_1, d.before a0 Z = true) (ws : List Jvm.Cond) (x : Addr) (zc : Int32) (h0 : Heap) (n0 : Nat) (Z0 : n0 ≤ h0.size) (S_C : Sta Z h0 "java/lang/String" "COMPACT_STRINGS" "Z" (.int zc)) (hzc : ¬ zc = 0)(F_c : Fld Z h0 x "java/lang/String" "coder" "B" (.int 0)) :
    MetFree l (⟨"java/lang/String", "coder", "()B"⟩ : MethodName) (head1 (Jvm.Cond.code (⟨"java/lang/String", "coder", "()B"⟩ : MethodName) jdk_42_method_152_code 1 (some .byte) :: ws) ({ frames := 0, cells := 0, slots := 0, locals := 0 } : Room)) (fun aa UU => aa = #[(.ref x)] ∧ Z.Warmed39 UU.vm ∧ UU.heap = h0) (fun _ _ _ _ _ => True) (fun _ UU oo UU' => ∃ vv LL, oo = .returned vv ∧ own_Q_cod Z x zc h0 n0 vv UU'.heap LL ∧ FrameEnd UU oo UU' LL ({ frames := 0, cells := 0, slots := 0, locals := 0 } : Room).cells ({ frames := 0, cells := 0, slots := 0, locals := 0 } : Room).slots) := by
  refine MetFree.of_bodySF (plainFor_of_name own_pn1) hisR ?_
  intro p e s m args below meth c s₁ Bd hml0 hP hK
  obtain ⟨rfl, hZ, hh⟩ := hP
  have hx := Bd.exec
  have hby := Bd.bytes
  have hml : c.maxLocals = 1 := hml0
  have hown : s.vm.findClass "java/lang/String" = some m.cls := findClass_of_methodNamed Bd.named
  have hnm := (name_of_methodNamed Bd.named Bd.method).1
  have X0 : Stand p l e ({ frames := 0, cells := 0, slots := 0, locals := 0 } : Room) s m #[(.ref x)] below meth c s₁ [] 0 0 := Stand.of_body Bd
  have e0 : s₁.heap = h0 := by rw [← hh, Bd.state]; rfl
  have N0 := Fr.nil n0
  show own_Gl p e below (own_Post s (own_Q_cod Z x zc h0 n0) ({ frames := 0, cells := 0, slots := 0, locals := 0 } : Room).cells ({ frames := 0, cells := 0, slots := 0, locals := 0 } : Room).slots) _
  refine own_st (fun tg_ kg_ => castTop (own_ef_cod m x) kg_) ?_
  show own_Gl p e below _ (s₁.setTop (mkF m 0 #[.val (.ref x)] []))
  obtain ⟨T1, X1, e1, st1⟩ := getS2 X0 hx hZ hown (host := "") (Or.inl (hw _ (List.mem_of_getElem? (i := 23) rfl))) Via.refl e0 S_C (g := (mkF m 0 #[.val (.ref x)] [])) rfl (hb hby own_d_jdk_42_method_152_code_0)
  refine own_st st1 ?_
  try clear st1
  show own_Gl p e below _ (T1.setTop (mkF m 3 #[.val (.ref x)] [(.int zc)]))
  refine own_st (fun tg_ kg_ => XS.ifNo X1.here hx rfl (hb hby own_d_jdk_42_method_152_code_3) rfl ((if0 _ _).trans (feq (hzc)).1) kg_) ?_
  show own_Gl p e below _ (T1.setTop (mkF m 6 #[.val (.ref x)] []))
  refine own_st (fun tg_ kg_ => XS.aloadN X1.here hx rfl (hb hby own_d_jdk_42_method_152_code_6) rfl rfl kg_) ?_
  show own_Gl p e below _ (T1.setTop (mkF m 7 #[.val (.ref x)] [(.ref x)]))
  obtain ⟨T2, X2, e2, st2⟩ := getF X1 hx hZ hown (host := "") (Or.inl (hw _ (List.mem_of_getElem? (i := 35) rfl))) Via.refl e1 F_c (g := (mkF m 7 #[.val (.ref x)] [(.ref x)])) rfl rfl (hb hby own_d_jdk_42_method_152_code_7)
  refine own_st st2 ?_
  try clear st2
  try clear e1
  try clear X1
  try clear T1
  show own_Gl p e below _ (T2.setTop (mkF m 10 #[.val (.ref x)] [(.int (0 : Int32))]))
  refine own_st (fun tg_ kg_ => XS.goto X2.here hx rfl (pc0 := 10) (pc' := 14) rfl (hb hby own_d_jdk_42_method_152_code_10) (by decide) (by decide) kg_) ?_
  show own_Gl p e below _ (T2.setTop (mkF m 14 #[.val (.ref x)] [(.int (0 : Int32))]))
  exact own_retN X2 hx Bd.notSynchronized (t := .byte) Bd.returns (by simp) (hb hby own_d_jdk_42_method_152_code_14) (by decide) (by decide) e2 (⟨rfl, N0, rfl⟩)
theorem own_pn2 : plainName "java/lang/StringCoding" = true := by first | (simp [plainName, overriddenIn]; done) | decide +kernel
theorem own_d_jdk_123_method_3_code_0 : decode jdk_123_method_3_code 0 = .ok (.iload_n 1, 1) := by decide +kernel
theorem own_d_jdk_123_method_3_code_1 : decode jdk_123_method_3_code 1 = .ok (.iload_n 2, 1) := by decide +kernel
theorem own_d_jdk_123_method_3_code_2 : decode jdk_123_method_3_code 2 = .ok (.iadd, 1) := by decide +kernel
theorem own_d_jdk_123_method_3_code_3 : decode jdk_123_method_3_code 3 = .ok (.istore_n 3, 1) := by decide +kernel
theorem own_d_jdk_123_method_3_code_4 : decode jdk_123_method_3_code 4 = .ok (.iload_n 1, 1) := by decide +kernel
theorem own_d_jdk_123_method_3_code_5 : decode jdk_123_method_3_code 5 = .ok (.istore 4, 2) := by decide +kernel
theorem own_d_jdk_123_method_3_code_7 : decode jdk_123_method_3_code 7 = .ok (.iload 4, 2) := by decide +kernel
theorem own_d_jdk_123_method_3_code_9 : decode jdk_123_method_3_code 9 = .ok (.iload_n 3, 1) := by decide +kernel
theorem own_d_jdk_123_method_3_code_10 : decode jdk_123_method_3_code 10 = .ok (.if_icmp .ge 21, 3) := by decide +kernel
theorem own_d_jdk_123_method_3_code_13 : decode jdk_123_method_3_code 13 = .ok (.aload_n 0, 1) := by decide +kernel
theorem own_d_jdk_123_method_3_code_14 : decode jdk_123_method_3_code 14 = .ok (.iload 4, 2) := by decide +kernel
theorem own_d_jdk_123_method_3_code_16 : decode jdk_123_method_3_code 16 = .ok (.baload, 1) := by decide +kernel
theorem own_d_jdk_123_method_3_code_17 : decode jdk_123_method_3_code 17 = .ok (.ifCond .ge 8, 3) := by decide +kernel
theorem own_d_jdk_123_method_3_code_20 : decode jdk_123_method_3_code 20 = .ok (.iload 4, 2) := by decide +kernel
theorem own_d_jdk_123_method_3_code_22 : decode jdk_123_method_3_code 22 = .ok (.iload_n 1, 1) := by decide +kernel
theorem own_d_jdk_123_method_3_code_23 : decode jdk_123_method_3_code 23 = .ok (.isub, 1) := by decide +kernel
theorem own_d_jdk_123_method_3_code_24 : decode jdk_123_method_3_code 24 = .ok (.ireturn, 1) := by decide +kernel
theorem own_ef_cnt (m : MethodId) (x0 : Addr) (x1 : Int32) (x2 : Int32) : entryFrame m #[(.ref x0), (.int x1), (.int x2)] 5 = mkF m 0 #[.val (.ref x0), .val (.int x1), .val (.int x2), .unset, .unset] [] := by first | (simp [entryFrame, mkF, argsToLocals, Value.category]; done) | rfl
def own_Q_cnt (Z : State) (t : Addr) (kt : ClassId) (bs : List Int32) (h0 : Heap) (n0 : Nat) (v : Option Value) (h : Heap) (L : List Loc) : Prop := v = some (.int 0) ∧ Fr n0 L ∧ h = h0
set_option maxRecDepth 65536 in
set_option maxHeartbeats 40000000 in
theorem own_rm_cnt (l : Launch) (Z : State) (a0 : Array Value) (hw : ∀ d ∈ tables_1, d.before a0 Z = true) (ws : List Jvm.Cond) (t : Addr) (kt : ClassId) (bs : List Int32) (h0 : Heap) (n0 : Nat) (Z0 : n0 ≤ h0.size) (V_t : Arv Z h0 t kt .byte (24 : Int32) (bs.map Value.int) (.int 0)) (hl : bs.length = 24)(hneg : bs.getD 0 0 < 0) :
    MetFree l (⟨"java/lang/StringCoding", "countPositives", "([BII)I"⟩ : MethodName) (head1 (Jvm.Cond.code (⟨"java/lang/StringCoding", "countPositives", "([BII)I"⟩ : MethodName) jdk_123_method_3_code 5 (some .int) :: ws) ({ frames := 0, cells := 0, slots := 0, locals := 0 } : Room)) (fun aa UU => aa = #[(.ref t), (.int (0 : Int32)), (.int (24 : Int32))] ∧ Z.Warmed39 UU.vm ∧ UU.heap = h0) (fun _ _ _ _ _ => True) (fun _ UU oo UU' => ∃ vv LL, oo = .returned vv ∧ own_Q_cnt Z t kt bs h0 n0 vv UU'.heap LL ∧ FrameEnd UU oo UU' LL ({ frames := 0, cells := 0, slots := 0, locals := 0 } : Room).cells ({ frames := 0, cells := 0, slots := 0, locals := 0 } : Room).slots) := by
  refine MetFree.of_bodySF (plainFor_of_name own_pn2) hisR ?_
  intro p e s m args below meth c s₁ Bd hml0 hP hK
  obtain ⟨rfl, hZ, hh⟩ := hP
  have hx := Bd.exec
  have hby := Bd.bytes
  have hml : c.maxLocals = 5 := hml0
  have hown : s.vm.findClass "java/lang/StringCoding" = some m.cls := findClass_of_methodNamed Bd.named
  have hnm := (name_of_methodNamed Bd.named Bd.method).1
  have X0 : Stand p l e ({ frames := 0, cells := 0, slots := 0, locals := 0 } : Room) s m #[(.ref t), (.int (0 : Int32)), (.int (24 : Int32))] below meth c s₁ [] 0 0 := Stand.of_body Bd
  have e0 : s₁.heap = h0 := by rw [← hh, Bd.state]; rfl
  have N0 := Fr.nil n0
  show own_Gl p e below (own_Post s (own_Q_cnt Z t kt bs h0 n0) ({ frames := 0, cells := 0, slots := 0, locals := 0 } : Room).cells ({ frames := 0, cells := 0, slots := 0, locals := 0 } : Room).slots) _
  refine own_st (fun tg_ kg_ => castTop (own_ef_cnt m t (0 : Int32) (24 : Int32)) kg_) ?_
  show own_Gl p e below _ (s₁.setTop (mkF m 0 #[.val (.ref t), .val (.int (0 : Int32)), .val (.int (24 : Int32)), .unset, .unset] []))
  refine own_st (fun tg_ kg_ => XS.iloadN X0.here hx rfl (hb hby own_d_jdk_123_method_3_code_0) rfl kg_) ?_
  show own_Gl p e below _ (s₁.setTop (mkF m 1 #[.val (.ref t), .val (.int (0 : Int32)), .val (.int (24 : Int32)), .unset, .unset] [(.int (0 : Int32))]))
  refine own_st (fun tg_ kg_ => XS.iloadN X0.here hx rfl (hb hby own_d_jdk_123_method_3_code_1) rfl kg_) ?_
  show own_Gl p e below _ (s₁.setTop (mkF m 2 #[.val (.ref t), .val (.int (0 : Int32)), .val (.int (24 : Int32)), .unset, .unset] [(.int (24 : Int32)), (.int (0 : Int32))]))
  refine own_st (fun tg_ kg_ => XS.iadd X0.here hx rfl (hb hby own_d_jdk_123_method_3_code_2) rfl kg_) ?_
  show own_Gl p e below _ (s₁.setTop (mkF m 3 #[.val (.ref t), .val (.int (0 : Int32)), .val (.int (24 : Int32)), .unset, .unset] [(.int (24 : Int32))]))
  refine own_st (fun tg_ kg_ => XS.istoreN X0.here hx rfl (hb hby own_d_jdk_123_method_3_code_3) rfl (l' := #[.val (.ref t), .val (.int (0 : Int32)), .val (.int (24 : Int32)), .val (.int (24 : Int32)), .unset]) rfl kg_) ?_
  show own_Gl p e below _ (s₁.setTop (mkF m 4 #[.val (.ref t), .val (.int (0 : Int32)), .val (.int (24 : Int32)), .val (.int (24 : Int32)), .unset] []))
  refine own_st (fun tg_ kg_ => XS.iloadN X0.here hx rfl (hb hby own_d_jdk_123_method_3_code_4) rfl kg_) ?_
  show own_Gl p e below _ (s₁.setTop (mkF m 5 #[.val (.ref t), .val (.int (0 : Int32)), .val (.int (24 : Int32)), .val (.int (24 : Int32)), .unset] [(.int (0 : Int32))]))
  refine own_st (fun tg_ kg_ => XS.istore X0.here hx rfl (hb hby own_d_jdk_123_method_3_code_5) rfl (l' := #[.val (.ref t), .val (.int (0 : Int32)), .val (.int (24 : Int32)), .val (.int (24 : Int32)), .val (.int (0 : Int32))]) rfl kg_) ?_
  show own_Gl p e below _ (s₁.setTop (mkF m 7 #[.val (.ref t), .val (.int (0 : Int32)), .val (.int (24 : Int32)), .val (.int (24 : Int32)), .val (.int (0 : Int32))] []))
  refine own_st (fun tg_ kg_ => XS.iload X0.here hx rfl (hb hby own_d_jdk_123_method_3_code_7) rfl kg_) ?_
  show own_Gl p e below _ (s₁.setTop (mkF m 9 #[.val (.ref t), .val (.int (0 : Int32)), .val (.int (24 : Int32)), .val (.int (24 : Int32)), .val (.int (0 : Int32))] [(.int (0 : Int32))]))
  refine own_st (fun tg_ kg_ => XS.iloadN X0.here hx rfl (hb hby own_d_jdk_123_method_3_code_9) rfl kg_) ?_
  show own_Gl p e below _ (s₁.setTop (mkF m 10 #[.val (.ref t), .val (.int (0 : Int32)), .val (.int (24 : Int32)), .val (.int (24 : Int32)), .val (.int (0 : Int32))] [(.int (24 : Int32)), (.int (0 : Int32))]))
  refine own_st (fun tg_ kg_ => XS.icmpNo X0.here hx rfl (hb hby own_d_jdk_123_method_3_code_10) rfl (tlt ((by decide : (0 : Int32) < (24 : Int32)))).2.1 kg_) ?_
  show own_Gl p e below _ (s₁.setTop (mkF m 13 #[.val (.ref t), .val (.int (0 : Int32)), .val (.int (24 : Int32)), .val (.int (24 : Int32)), .val (.int (0 : Int32))] []))
  refine own_st (fun tg_ kg_ => XS.aloadN X0.here hx rfl (hb hby own_d_jdk_123_method_3_code_13) rfl rfl kg_) ?_
  show own_Gl p e below _ (s₁.setTop (mkF m 14 #[.val (.ref t), .val (.int (0 : Int32)), .val (.int (24 : Int32)), .val (.int (24 : Int32)), .val (.int (0 : Int32))] [(.ref t)]))
  refine own_st (fun tg_ kg_ => XS.iload X0.here hx rfl (hb hby own_d_jdk_123_method_3_code_14) rfl kg_) ?_
  show own_Gl p e below _ (s₁.setTop (mkF m 16 #[.val (.ref t), .val (.int (0 : Int32)), .val (.int (24 : Int32)), .val (.int (24 : Int32)), .val (.int (0 : Int32))] [(.int (0 : Int32)), (.ref t)]))
  obtain ⟨cl1, Ar1, qa1, Sa1, Na1, Ha1, Ga1⟩ := id V_t
  have hin2 : ¬ ((0 : Int32) < 0 ∨ cl1.slots.size ≤ ((0 : Int32)).toNatClampNeg) := inb_of Sa1 ⟨by decide, by decide⟩
  have hat2 : cl1.slots[((0 : Int32)).toNatClampNeg]? = some (.int (bs.getD 0 0)) := Has.at Ha1 hin2 (by cases bs with | nil => cases hl | cons b r => rfl)
  refine own_st (fun tg_ kg_ => X0.baloadBytes hx (j := (0 : Int32)) (v := (.int (bs.getD 0 0))) (by rw [e0]; exact Ar1.1) (State.isArrayOf_alike hZ.alike Ar1.2.1) Ar1.2.2 hin2 hat2 (g := (mkF m 16 #[.val (.ref t), .val (.int (0 : Int32)), .val (.int (24 : Int32)), .val (.int (24 : Int32)), .val (.int (0 : Int32))] [(.int (0 : Int32)), (.ref t)])) rfl rfl (hb hby own_d_jdk_123_method_3_code_16) _ kg_) ?_
  show own_Gl p e below _ (s₁.setTop (mkF m 17 #[.val (.ref t), .val (.int (0 : Int32)), .val (.int (24 : Int32)), .val (.int (24 : Int32)), .val (.int (0 : Int32))] [(.int (bs.getD 0 0))]))
  refine own_st (fun tg_ kg_ => XS.ifNo X0.here hx rfl (hb hby own_d_jdk_123_method_3_code_17) rfl ((if0 _ _).trans (tlt (hneg)).2.1) kg_) ?_
  show own_Gl p e below _ (s₁.setTop (mkF m 20 #[.val (.ref t), .val (.int (0 : Int32)), .val (.int (24 : Int32)), .val (.int (24 : Int32)), .val (.int (0 : Int32))] []))
  refine own_st (fun tg_ kg_ => XS.iload X0.here hx rfl (hb hby own_d_jdk_123_method_3_code_20) rfl kg_) ?_
  show own_Gl p e below _ (s₁.setTop (mkF m 22 #[.val (.ref t), .val (.int (0 : Int32)), .val (.int (24 : Int32)), .val (.int (24 : Int32)), .val (.int (0 : Int32))] [(.int (0 : Int32))]))
  refine own_st (fun tg_ kg_ => XS.iloadN X0.here hx rfl (hb hby own_d_jdk_123_method_3_code_22) rfl kg_) ?_
  show own_Gl p e below _ (s₁.setTop (mkF m 23 #[.val (.ref t), .val (.int (0 : Int32)), .val (.int (24 : Int32)), .val (.int (24 : Int32)), .val (.int (0 : Int32))] [(.int (0 : Int32)), (.int (0 : Int32))]))
  refine own_st (fun tg_ kg_ => XS.isub X0.here hx rfl (hb hby own_d_jdk_123_method_3_code_23) rfl kg_) ?_
  show own_Gl p e below _ (s₁.setTop (mkF m 24 #[.val (.ref t), .val (.int (0 : Int32)), .val (.int (24 : Int32)), .val (.int (24 : Int32)), .val (.int (0 : Int32))] [(.int (0 : Int32))]))
  exact own_retI X0 hx Bd.notSynchronized Bd.returns (hb hby own_d_jdk_123_method_3_code_24) (by decide) (by decide) e0 (⟨rfl, N0, rfl⟩)
theorem own_pd0 : parseMethodDescriptor "([BII)I" = some ⟨[(.array .byte), .int, .int], some .int⟩ := by decide +kernel
theorem own_d_jdk_123_method_2_code_0 : decode jdk_123_method_2_code 0 = .ok (.aload_n 0, 1) := by decide +kernel
theorem own_d_jdk_123_method_2_code_1 : decode jdk_123_method_2_code 1 = .ok (.iload_n 1, 1) := by decide +kernel
theorem own_d_jdk_123_method_2_code_2 : decode jdk_123_method_2_code 2 = .ok (.iload_n 2, 1) := by decide +kernel
theorem own_d_jdk_123_method_2_code_3 : decode jdk_123_method_2_code 3 = .ok (.invokestatic 7, 3) := by decide +kernel
theorem own_d_jdk_123_method_2_code_6 : decode jdk_123_method_2_code 6 = .ok (.iload_n 2, 1) := by decide +kernel
theorem own_d_jdk_123_method_2_code_7 : decode jdk_123_method_2_code 7 = .ok (.if_icmp .eq 7, 3) := by decide +kernel
theorem own_d_jdk_123_method_2_code_10 : decode jdk_123_method_2_code 10 = .ok (.iconst 1, 1) := by decide +kernel
theorem own_d_jdk_123_method_2_code_11 : decode jdk_123_method_2_code 11 = .ok (.goto 4, 3) := by decide +kernel
theorem own_d_jdk_123_method_2_code_15 : decode jdk_123_method_2_code 15 = .ok (.ireturn, 1) := by decide +kernel
theorem own_ef_hng (m : MethodId) (x0 : Addr) (x1 : Int32) (x2 : Int32) : entryFrame m #[(.ref x0), (.int x1), (.int x2)] 3 = mkF m 0 #[.val (.ref x0), .val (.int x1), .val (.int x2)] [] := by first | (simp [entryFrame, mkF, argsToLocals, Value.category]; done) | rfl
def own_Q_hng (Z : State) (t : Addr) (kt : ClassId) (bs : List Int32) (h0 : Heap) (n0 : Nat) (v : Option Value) (h : Heap) (L : List Loc) : Prop := v = some (.int 1) ∧ Fr n0 L ∧ h = h0
set_option maxRecDepth 65536 in
set_option maxHeartbeats 40000000 in
theorem own_rm_hng (l : Launch) (Z : State) (a0 : Array Value) (hw : ∀ d ∈ tables_1, d.before a0 Z = true) (ws : List Jvm.Cond) (t : Addr) (kt : ClassId) (bs : List Int32) (h0 : Heap) (n0 : Nat) (Z0 : n0 ≤ h0.size) (V_t : Arv Z h0 t kt .byte (24 : Int32) (bs.map Value.int) (.int 0)) (hl : bs.length = 24)(hneg : bs.getD 0 0 < 0) :
    MetFree l (⟨"java/lang/StringCoding", "hasNegatives", "([BII)Z"⟩ : MethodName) (head1 (Jvm.Cond.code (⟨"java/lang/StringCoding", "hasNegatives", "([BII)Z"⟩ : MethodName) jdk_123_method_2_code 3 (some .boolean) :: ws) ({ frames := 1, cells := 0, slots := 0, locals := 16 } : Room)) (fun aa UU => aa = #[(.ref t), (.int (0 : Int32)), (.int (24 : Int32))] ∧ Z.Warmed39 UU.vm ∧ UU.heap = h0) (fun _ _ _ _ _ => True) (fun _ UU oo UU' => ∃ vv LL, oo = .returned vv ∧ own_Q_hng Z t kt bs h0 n0 vv UU'.heap LL ∧ FrameEnd UU oo UU' LL ({ frames := 1, cells := 0, slots := 0, locals := 16 } : Room).cells ({ frames := 1, cells := 0, slots := 0, locals := 16 } : Room).slots) := by
  refine MetFree.of_bodySF (plainFor_of_name own_pn2) hisR ?_
  intro p e s m args below meth c s₁ Bd hml0 hP hK
  obtain ⟨rfl, hZ, hh⟩ := hP
  have hx := Bd.exec
  have hby := Bd.bytes
  have hml : c.maxLocals = 3 := hml0
  have hown : s.vm.findClass "java/lang/StringCoding" = some m.cls := findClass_of_methodNamed Bd.named
  have hnm := (name_of_methodNamed Bd.named Bd.method).1
  have X0 : Stand p l e ({ frames := 1, cells := 0, slots := 0, locals := 16 } : Room) s m #[(.ref t), (.int (0 : Int32)), (.int (24 : Int32))] below meth c s₁ [] 0 0 := Stand.of_body Bd
  have e0 : s₁.heap = h0 := by rw [← hh, Bd.state]; rfl
  have N0 := Fr.nil n0
  show own_Gl p e below (own_Post s (own_Q_hng Z t kt bs h0 n0) ({ frames := 1, cells := 0, slots := 0, locals := 16 } : Room).cells ({ frames := 1, cells := 0, slots := 0, locals := 16 } : Room).slots) _
  refine own_st (fun tg_ kg_ => castTop (own_ef_hng m t (0 : Int32) (24 : Int32)) kg_) ?_
  show own_Gl p e below _ (s₁.setTop (mkF m 0 #[.val (.ref t), .val (.int (0 : Int32)), .val (.int (24 : Int32))] []))
  refine own_st (fun tg_ kg_ => XS.aloadN X0.here hx rfl (hb hby own_d_jdk_123_method_2_code_0) rfl rfl kg_) ?_
  show own_Gl p e below _ (s₁.setTop (mkF m 1 #[.val (.ref t), .val (.int (0 : Int32)), .val (.int (24 : Int32))] [(.ref t)]))
  refine own_st (fun tg_ kg_ => XS.iloadN X0.here hx rfl (hb hby own_d_jdk_123_method_2_code_1) rfl kg_) ?_
  show own_Gl p e below _ (s₁.setTop (mkF m 2 #[.val (.ref t), .val (.int (0 : Int32)), .val (.int (24 : Int32))] [(.int (0 : Int32)), (.ref t)]))
  refine own_st (fun tg_ kg_ => XS.iloadN X0.here hx rfl (hb hby own_d_jdk_123_method_2_code_2) rfl kg_) ?_
  show own_Gl p e below _ (s₁.setTop (mkF m 3 #[.val (.ref t), .val (.int (0 : Int32)), .val (.int (24 : Int32))] [(.int (24 : Int32)), (.int (0 : Int32)), (.ref t)]))
  obtain ⟨_, _, ⟨T1, L1, k1, n1⟩, -, X1, ⟨Lc1, hQ1, l1, y1, z1⟩, st1⟩ := Jvm.LawKit.callS X0 hx (y := (⟨"java/lang/StringCoding", "countPositives", "([BII)I"⟩ : MethodName)) hown (mvT hZ (hw _ (List.mem_of_getElem? (i := 67) rfl))) (mvT hZ (hw _ (List.mem_of_getElem? (i := 68) rfl))) (mvT hZ (hw _ (List.mem_of_getElem? (i := 65) rfl))) (mvT hZ (hw _ (List.mem_of_getElem? (i := 69) rfl))) (by decide) (backOf (W := 0) (own_rm_cnt l Z a0 hw [] t kt bs h0 n0 Z0 V_t hl hneg) hZ (hw _ (List.mem_of_getElem? (i := 69) rfl)) (hw _ (List.mem_of_getElem? (i := 65) rfl)) (by decide) (by decide)) (g := (mkF m 3 #[.val (.ref t), .val (.int (0 : Int32)), .val (.int (24 : Int32))] [(.int (24 : Int32)), (.int (0 : Int32)), (.ref t)])) rfl (by rw [hml]; rfl) (argsL := [(.ref t), (.int (0 : Int32)), (.int (24 : Int32))]) (rest := []) (lenOf own_pd0 rfl) rfl (by show 2 * 0 + _ ≤ _; exact Nat.le_of_eq rfl) (hb hby own_d_jdk_123_method_2_code_3) (fun _ _ => ⟨rfl, e0, (by decide : 0 + 0 ≤ _), (by decide : 0 + 0 ≤ _)⟩)
  dsimp only [Pt.U, Pt.locs, Pt.cells, Pt.slots] at X1 l1 y1 z1 st1 hQ1
  obtain rfl : k1 = 0 := y1
  obtain rfl : n1 = 0 := z1
  obtain ⟨rfl, N1q, e1⟩ := hQ1
  have N1 : Fr n0 L1 := by rw [l1]; exact Fr.app N0 N1q
  try clear l1
  refine own_st st1 ?_
  show own_Gl p e below _ (T1.setTop (mkF m 6 #[.val (.ref t), .val (.int (0 : Int32)), .val (.int (24 : Int32))] [(.int (0 : Int32))]))
  try clear st1
  try clear N1q
  refine own_st (fun tg_ kg_ => XS.iloadN X1.here hx rfl (hb hby own_d_jdk_123_method_2_code_6) rfl kg_) ?_
  show own_Gl p e below _ (T1.setTop (mkF m 7 #[.val (.ref t), .val (.int (0 : Int32)), .val (.int (24 : Int32))] [(.int (24 : Int32)), (.int (0 : Int32))]))
  refine own_st (fun tg_ kg_ => XS.icmpNo X1.here hx rfl (hb hby own_d_jdk_123_method_2_code_7) rfl (feq ((by decide : ¬ ((0 : Int32) = (24 : Int32))))).1 kg_) ?_
  show own_Gl p e below _ (T1.setTop (mkF m 10 #[.val (.ref t), .val (.int (0 : Int32)), .val (.int (24 : Int32))] []))
  refine own_st (fun tg_ kg_ => XS.iconst X1.here hx rfl (hb hby own_d_jdk_123_method_2_code_10) kg_) ?_
  show own_Gl p e below _ (T1.setTop (mkF m 11 #[.val (.ref t), .val (.int (0 : Int32)), .val (.int (24 : Int32))] [(.int (1 : Int32))]))
  refine own_st (fun tg_ kg_ => XS.goto X1.here hx rfl (pc0 := 11) (pc' := 15) rfl (hb hby own_d_jdk_123_method_2_code_11) (by decide) (by decide) kg_) ?_
  show own_Gl p e below _ (T1.setTop (mkF m 15 #[.val (.ref t), .val (.int (0 : Int32)), .val (.int (24 : Int32))] [(.int (1 : Int32))]))
  exact own_retN X1 hx Bd.notSynchronized (t := .boolean) Bd.returns (by simp) (hb hby own_d_jdk_123_method_2_code_15) (by decide) (by decide) e1 (⟨rfl, N1, rfl⟩)
theorem own_pn3 : plainName "java/lang/StringUTF16" = true := by first | (simp [plainName, overriddenIn]; done) | decide +kernel
theorem own_d_jdk_52_method_3_code_0 : decode jdk_52_method_3_code 0 = .ok (.iload_n 0, 1) := by decide +kernel
theorem own_d_jdk_52_method_3_code_1 : decode jdk_52_method_3_code 1 = .ok (.ifCond .ge 11, 3) := by decide +kernel
theorem own_d_jdk_52_method_3_code_12 : decode jdk_52_method_3_code 12 = .ok (.iload_n 0, 1) := by decide +kernel
theorem own_d_jdk_52_method_3_code_13 : decode jdk_52_method_3_code 13 = .ok (.ldc 20, 2) := by decide +kernel
theorem own_d_jdk_52_method_3_code_15 : decode jdk_52_method_3_code 15 = .ok (.if_icmp .lt 40, 3) := by decide +kernel
theorem own_d_jdk_52_method_3_code_55 : decode jdk_52_method_3_code 55 = .ok (.iload_n 0, 1) := by decide +kernel
theorem own_d_jdk_52_method_3_code_56 : decode jdk_52_method_3_code 56 = .ok (.iconst 1, 1) := by decide +kernel
theorem own_d_jdk_52_method_3_code_57 : decode jdk_52_method_3_code 57 = .ok (.ishl, 1) := by decide +kernel
theorem own_d_jdk_52_method_3_code_58 : decode jdk_52_method_3_code 58 = .ok (.ireturn, 1) := by decide +kernel
theorem own_ef_nbl (m : MethodId) (x0 : Int32) : entryFrame m #[(.int x0)] 1 = mkF m 0 #[.val (.int x0)] [] := by first | (simp [entryFrame, mkF, argsToLocals, Value.category]; done) | rfl
def own_Q_nbl (Z : State)  (h0 : Heap) (n0 : Nat) (v : Option Value) (h : Heap) (L : List Loc) : Prop := v = some (.int 48) ∧ Fr n0 L ∧ h = h0
set_option maxRecDepth 65536 in
set_option maxHeartbeats 40000000 in
theorem own_rm_nbl (l : Launch) (Z : State) (a0 : Array Value) (hw : ∀ d ∈ tables_1, d.before a0 Z = true) (ws : List Jvm.Cond)  (h0 : Heap) (n0 : Nat) (Z0 : n0 ≤ h0.size)  :
    MetFree l (⟨"java/lang/StringUTF16", "newBytesLength", "(I)I"⟩ : MethodName) (head1 (Jvm.Cond.code (⟨"java/lang/StringUTF16", "newBytesLength", "(I)I"⟩ : MethodName) jdk_52_method_3_code 1 (some .int) :: ws) ({ frames := 0, cells := 0, slots := 0, locals := 0 } : Room)) (fun aa UU => aa = #[(.int (24 : Int32))] ∧ Z.Warmed39 UU.vm ∧ UU.heap = h0) (fun _ _ _ _ _ => True) (fun _ UU oo UU' => ∃ vv LL, oo = .returned vv ∧ own_Q_nbl Z  h0 n0 vv UU'.heap LL ∧ FrameEnd UU oo UU' LL ({ frames := 0, cells := 0, slots := 0, locals := 0 } : Room).cells ({ frames := 0, cells := 0, slots := 0, locals := 0 } : Room).slots) := by
  refine MetFree.of_bodySF (plainFor_of_name own_pn3) hisR ?_
  intro p e s m args below meth c s₁ Bd hml0 hP hK
  obtain ⟨rfl, hZ, hh⟩ := hP
  have hx := Bd.exec
  have hby := Bd.bytes
  have hml : c.maxLocals = 1 := hml0
  have hown : s.vm.findClass "java/lang/StringUTF16" = some m.cls := findClass_of_methodNamed Bd.named
  have hnm := (name_of_methodNamed Bd.named Bd.method).1
  have X0 : Stand p l e ({ frames := 0, cells := 0, slots := 0, locals := 0 } : Room) s m #[(.int (24 : Int32))] below meth c s₁ [] 0 0 := Stand.of_body Bd
  have e0 : s₁.heap = h0 := by rw [← hh, Bd.state]; rfl
  have N0 := Fr.nil n0
  show own_Gl p e below (own_Post s (own_Q_nbl Z  h0 n0) ({ frames := 0, cells := 0, slots := 0, locals := 0 } : Room).cells ({ frames := 0, cells := 0, slots := 0, locals := 0 } : Room).slots) _
  refine own_st (fun tg_ kg_ => castTop (own_ef_nbl m (24 : Int32)) kg_) ?_
  show own_Gl p e below _ (s₁.setTop (mkF m 0 #[.val (.int (24 : Int32))] []))
  refine own_st (fun tg_ kg_ => XS.iloadN X0.here hx rfl (hb hby own_d_jdk_52_method_3_code_0) rfl kg_) ?_
  show own_Gl p e below _ (s₁.setTop (mkF m 1 #[.val (.int (24 : Int32))] [(.int (24 : Int32))]))
  refine own_st (fun tg_ kg_ => XS.ifYes X0.here hx rfl (pc0 := 1) (pc' := 12) rfl (hb hby own_d_jdk_52_method_3_code_1) rfl ((if0 _ _).trans (flt ((by decide : ¬ ((24 : Int32) < (0 : Int32))))).2.1) (by decide) (by decide) kg_) ?_
  show own_Gl p e below _ (s₁.setTop (mkF m 12 #[.val (.int (24 : Int32))] []))
  refine own_st (fun tg_ kg_ => XS.iloadN X0.here hx rfl (hb hby own_d_jdk_52_method_3_code_12) rfl kg_) ?_
  show own_Gl p e below _ (s₁.setTop (mkF m 13 #[.val (.int (24 : Int32))] [(.int (24 : Int32))]))
  refine own_st (fun tg_ kg_ => X0.ldcInt hx hown (mvT hZ (hw _ (List.mem_of_getElem? (i := 76) rfl))) (g := (mkF m 13 #[.val (.int (24 : Int32))] [(.int (24 : Int32))])) rfl (hb hby own_d_jdk_52_method_3_code_13) _ kg_) ?_
  show own_Gl p e below _ (s₁.setTop (mkF m 15 #[.val (.int (24 : Int32))] [(.int (1073741823 : Int32)), (.int (24 : Int32))]))
  refine own_st (fun tg_ kg_ => XS.icmpYes X0.here hx rfl (pc0 := 15) (pc' := 55) rfl (hb hby own_d_jdk_52_method_3_code_15) rfl (tlt ((by decide : (24 : Int32) < (1073741823 : Int32)))).1 (by decide) (by decide) kg_) ?_
  show own_Gl p e below _ (s₁.setTop (mkF m 55 #[.val (.int (24 : Int32))] []))
  refine own_st (fun tg_ kg_ => XS.iloadN X0.here hx rfl (hb hby own_d_jdk_52_method_3_code_55) rfl kg_) ?_
  show own_Gl p e below _ (s₁.setTop (mkF m 56 #[.val (.int (24 : Int32))] [(.int (24 : Int32))]))
  refine own_st (fun tg_ kg_ => XS.iconst X0.here hx rfl (hb hby own_d_jdk_52_method_3_code_56) kg_) ?_
  show own_Gl p e below _ (s₁.setTop (mkF m 57 #[.val (.int (24 : Int32))] [(.int (1 : Int32)), (.int (24 : Int32))]))
  refine own_st (fun tg_ kg_ => XS.ishl X0.here hx rfl (hb hby own_d_jdk_52_method_3_code_57) rfl kg_) ?_
  show own_Gl p e below _ (s₁.setTop (mkF m 58 #[.val (.int (24 : Int32))] [(.int ((24 : Int32) <<< ((1 : Int32) &&& 31)))]))
  exact own_retI X0 hx Bd.notSynchronized Bd.returns (hb hby own_d_jdk_52_method_3_code_58) (by decide) (by decide) e0 (⟨congrArg (fun z => some (Value.int z)) (by decide), N0, rfl⟩)
theorem own_pd1 : parseMethodDescriptor "(I)I" = some ⟨[.int], some .int⟩ := by decide +kernel
theorem own_d_jdk_52_method_2_code_0 : decode jdk_52_method_2_code 0 = .ok (.iload_n 0, 1) := by decide +kernel
theorem own_d_jdk_52_method_2_code_1 : decode jdk_52_method_2_code 1 = .ok (.invokestatic 11, 3) := by decide +kernel
theorem own_d_jdk_52_method_2_code_4 : decode jdk_52_method_2_code 4 = .ok (.newarray .byte, 2) := by decide +kernel
theorem own_d_jdk_52_method_2_code_6 : decode jdk_52_method_2_code 6 = .ok (.areturn, 1) := by decide +kernel
theorem own_ef_nbf (m : MethodId) (x0 : Int32) : entryFrame m #[(.int x0)] 1 = mkF m 0 #[.val (.int x0)] [] := by first | (simp [entryFrame, mkF, argsToLocals, Value.category]; done) | rfl
def own_Q_nbf (Z : State)  (h0 : Heap) (n0 : Nat) (v : Option Value) (h : Heap) (L : List Loc) : Prop := (∃ d kd, v = some (.ref d) ∧ h0.size ≤ d ∧ Arv Z h d kd .byte (48 : Int32) [] (.int 0) ∧ Exa Z h d "[B") ∧ Fr n0 L ∧ Ext h0 h
set_option maxRecDepth 65536 in
set_option maxHeartbeats 40000000 in
theorem own_rm_nbf (l : Launch) (Z : State) (a0 : Array Value) (hw : ∀ d ∈ tables_1, d.before a0 Z = true) (ws : List Jvm.Cond)  (h0 : Heap) (n0 : Nat) (Z0 : n0 ≤ h0.size)  :
    MetFree l (⟨"java/lang/StringUTF16", "newBytesFor", "(I)[B"⟩ : MethodName) (head1 (Jvm.Cond.code (⟨"java/lang/StringUTF16", "newBytesFor", "(I)[B"⟩ : MethodName) jdk_52_method_2_code 1 (some (.array .byte)) :: ws) ({ frames := 1, cells := 1, slots := 48, locals := 12 } : Room)) (fun aa UU => aa = #[(.int (24 : Int32))] ∧ Z.Warmed39 UU.vm ∧ UU.heap = h0) (fun _ _ _ _ _ => True) (fun _ UU oo UU' => ∃ vv LL, oo = .returned vv ∧ own_Q_nbf Z  h0 n0 vv UU'.heap LL ∧ FrameEnd UU oo UU' LL ({ frames := 1, cells := 1, slots := 48, locals := 12 } : Room).cells ({ frames := 1, cells := 1, slots := 48, locals := 12 } : Room).slots) := by
  refine MetFree.of_bodySF (plainFor_of_name own_pn3) hisR ?_
  intro p e s m args below meth c s₁ Bd hml0 hP hK
  obtain ⟨rfl, hZ, hh⟩ := hP
  have hx := Bd.exec
  have hby := Bd.bytes
  have hml : c.maxLocals = 1 := hml0
  have hown : s.vm.findClass "java/lang/StringUTF16" = some m.cls := findClass_of_methodNamed Bd.named
  have hnm := (name_of_methodNamed Bd.named Bd.method).1
  have X0 : Stand p l e ({ frames := 1, cells := 1, slots := 48, locals := 12 } : Room) s m #[(.int (24 : Int32))] below meth c s₁ [] 0 0 := Stand.of_body Bd
  have e0 : s₁.heap = h0 := by rw [← hh, Bd.state]; rfl
  have N0 := Fr.nil n0
  show own_Gl p e below (own_Post s (own_Q_nbf Z  h0 n0) ({ frames := 1, cells := 1, slots := 48, locals := 12 } : Room).cells ({ frames := 1, cells := 1, slots := 48, locals := 12 } : Room).slots) _
  refine own_st (fun tg_ kg_ => castTop (own_ef_nbf m (24 : Int32)) kg_) ?_
  show own_Gl p e below _ (s₁.setTop (mkF m 0 #[.val (.int (24 : Int32))] []))
  refine own_st (fun tg_ kg_ => XS.iloadN X0.here hx rfl (hb hby own_d_jdk_52_method_2_code_0) rfl kg_) ?_
  show own_Gl p e below _ (s₁.setTop (mkF m 1 #[.val (.int (24 : Int32))] [(.int (24 : Int32))]))
  obtain ⟨_, _, ⟨T1, L1, k1, n1⟩, -, X1, ⟨Lc1, hQ1, l1, y1, z1⟩, st1⟩ := Jvm.LawKit.callS X0 hx (y := (⟨"java/lang/StringUTF16", "newBytesLength", "(I)I"⟩ : MethodName)) hown (mvT hZ (hw _ (List.mem_of_getElem? (i := 73) rfl))) (mvT hZ (hw _ (List.mem_of_getElem? (i := 74) rfl))) (mvT hZ (hw _ (List.mem_of_getElem? (i := 26) rfl))) (mvT hZ (hw _ (List.mem_of_getElem? (i := 75) rfl))) (by decide) (backOf (W := 0) (own_rm_nbl l Z a0 hw [] h0 n0 Z0) hZ (hw _ (List.mem_of_getElem? (i := 75) rfl)) (hw _ (List.mem_of_getElem? (i := 26) rfl)) (by decide) (by decide)) (g := (mkF m 1 #[.val (.int (24 : Int32))] [(.int (24 : Int32))])) rfl (by rw [hml]; rfl) (argsL := [(.int (24 : Int32))]) (rest := []) (lenOf own_pd1 rfl) rfl (by show 2 * 0 + _ ≤ _; exact Nat.le_of_eq rfl) (hb hby own_d_jdk_52_method_2_code_1) (fun _ _ => ⟨rfl, e0, (by decide : 0 + 0 ≤ _), (by decide : 0 + 0 ≤ _)⟩)
  dsimp only [Pt.U, Pt.locs, Pt.cells, Pt.slots] at X1 l1 y1 z1 st1 hQ1
  obtain rfl : k1 = 0 := y1
  obtain rfl : n1 = 0 := z1
  obtain ⟨rfl, N1q, e1⟩ := hQ1
  have N1 : Fr n0 L1 := by rw [l1]; exact Fr.app N0 N1q
  try clear l1
  refine own_st st1 ?_
  show own_Gl p e below _ (T1.setTop (mkF m 4 #[.val (.int (24 : Int32))] [(.int (48 : Int32))]))
  try clear st1
  try clear N1q
  obtain ⟨T2, h2, k2, X2, e2, E2, A2, B2, st2⟩ := newPE X1 hx hZ (hw _ (List.mem_of_getElem? (i := 28) rfl)) e1 (g := (mkF m 4 #[.val (.int (24 : Int32))] [(.int (48 : Int32))])) rfl (hb hby own_d_jdk_52_method_2_code_4) rfl (by decide) (cap := 48) (by decide) (by decide) (by decide) (by decide) (ad := "[B") (by decide)
  obtain ⟨d, g2⟩ : ∃ z, z = h0.size := ⟨_, rfl⟩
  have sz_d : h0.size ≤ d := Nat.le_of_eq g2.symm
  have g_d : n0 ≤ d := Nat.le_trans Z0 sz_d
  rw [← g2] at A2 B2 st2
  have E_d := B2
  have V_d : Arv Z h2 d k2 .byte (48 : Int32) [] (.int 0) := Arv.new A2 (by decide)
  refine own_st st2 ?_
  try clear st2
  try clear e1
  try clear X1
  try clear T1
  show own_Gl p e below _ (T2.setTop (mkF m 6 #[.val (.int (24 : Int32))] [(.ref d)]))
  exact own_retA X2 hx Bd.notSynchronized Bd.returns rfl rfl (hb hby own_d_jdk_52_method_2_code_6) (by decide) (by decide) e2 (⟨⟨_, _, rfl, sz_d, V_d, E_d⟩, N1, E2⟩)
def own_min (x y : Int32) : Int32 := if y < x then y else x
theorem own_d_jdk_29_method_69_code_0 : decode jdk_29_method_69_code 0 = .ok (.iload_n 0, 1) := by decide +kernel
theorem own_d_jdk_29_method_69_code_1 : decode jdk_29_method_69_code 1 = .ok (.iload_n 1, 1) := by decide +kernel
theorem own_d_jdk_29_method_69_code_2 : decode jdk_29_method_69_code 2 = .ok (.if_icmp .gt 7, 3) := by decide +kernel
theorem own_d_jdk_29_method_69_code_5 : decode jdk_29_method_69_code 5 = .ok (.iload_n 0, 1) := by decide +kernel
theorem own_d_jdk_29_method_69_code_6 : decode jdk_29_method_69_code 6 = .ok (.goto 4, 3) := by decide +kernel
theorem own_d_jdk_29_method_69_code_9 : decode jdk_29_method_69_code 9 = .ok (.iload_n 1, 1) := by decide +kernel
theorem own_d_jdk_29_method_69_code_10 : decode jdk_29_method_69_code 10 = .ok (.ireturn, 1) := by decide +kernel
theorem own_ef_min (m : MethodId) (x0 : Int32) (x1 : Int32) : entryFrame m #[(.int x0), (.int x1)] 2 = mkF m 0 #[.val (.int x0), .val (.int x1)] [] := by first | (simp [entryFrame, mkF, argsToLocals, Value.category]; done) | rfl
def own_Q_min (Z : State) (p1 p2 : Int32) (h0 : Heap) (n0 : Nat) (v : Option Value) (h : Heap) (L : List Loc) : Prop := v = some (.int (own_min p1 p2)) ∧ Fr n0 L ∧ h = h0
set_option maxRecDepth 65536 in
set_option maxHeartbeats 40000000 in
theorem own_rm_min (l : Launch) (Z : State) (a0 : Array Value) (hw : ∀ d ∈ tables_1, d.before a0 Z = true) (ws : List Jvm.Cond) (p1 p2 : Int32) (h0 : Heap) (n0 : Nat) (Z0 : n0 ≤ h0.size)  :
    MetFree l (⟨"java/lang/Math", "min", "(II)I"⟩ : MethodName) (head1 (Jvm.Cond.code (⟨"java/lang/Math", "min", "(II)I"⟩ : MethodName) jdk_29_method_69_code 2 (some .int) :: ws) ({ frames := 0, cells := 0, slots := 0, locals := 0 } : Room)) (fun aa UU => aa = #[(.int p1), (.int p2)] ∧ Z.Warmed39 UU.vm ∧ UU.heap = h0) (fun _ _ _ _ _ => True) (fun _ UU oo UU' => ∃ vv LL, oo = .returned vv ∧ own_Q_min Z p1 p2 h0 n0 vv UU'.heap LL ∧ FrameEnd UU oo UU' LL ({ frames := 0, cells := 0, slots := 0, locals := 0 } : Room).cells ({ frames := 0, cells := 0, slots := 0, locals := 0 } : Room).slots) := by
  refine MetFree.of_bodySF (Jvm.Free.JP.mathPlain rfl (by decide +kernel)) hisR ?_
  intro p e s m args below meth c s₁ Bd hml0 hP hK
  obtain ⟨rfl, hZ, hh⟩ := hP
  have hx := Bd.exec
  have hby := Bd.bytes
  have hml : c.maxLocals = 2 := hml0
  have hown : s.vm.findClass "java/lang/Math" = some m.cls := findClass_of_methodNamed Bd.named
  have hnm := (name_of_methodNamed Bd.named Bd.method).1
  have X0 : Stand p l e ({ frames := 0, cells := 0, slots := 0, locals := 0 } : Room) s m #[(.int p1), (.int p2)] below meth c s₁ [] 0 0 := Stand.of_body Bd
  have e0 : s₁.heap = h0 := by rw [← hh, Bd.state]; rfl
  have N0 := Fr.nil n0
  show own_Gl p e below (own_Post s (own_Q_min Z p1 p2 h0 n0) ({ frames := 0, cells := 0, slots := 0, locals := 0 } : Room).cells ({ frames := 0, cells := 0, slots := 0, locals := 0 } : Room).slots) _
  refine own_st (fun tg_ kg_ => castTop (own_ef_min m p1 p2) kg_) ?_
  show own_Gl p e below _ (s₁.setTop (mkF m 0 #[.val (.int p1), .val (.int p2)] []))
  refine own_st (fun tg_ kg_ => XS.iloadN X0.here hx rfl (hb hby own_d_jdk_29_method_69_code_0) rfl kg_) ?_
  show own_Gl p e below _ (s₁.setTop (mkF m 1 #[.val (.int p1), .val (.int p2)] [(.int p1)]))
  refine own_st (fun tg_ kg_ => XS.iloadN X0.here hx rfl (hb hby own_d_jdk_29_method_69_code_1) rfl kg_) ?_
  show own_Gl p e below _ (s₁.setTop (mkF m 2 #[.val (.int p1), .val (.int p2)] [(.int p2), (.int p1)]))
  by_cases hc2_1 : p2 < p1
  ·
    show own_Gl p e below _ (s₁.setTop (mkF m 2 #[.val (.int p1), .val (.int p2)] [(.int p2), (.int p1)]))
    refine own_st (fun tg_ kg_ => XS.icmpYes X0.here hx rfl (pc0 := 2) (pc' := 9) rfl (hb hby own_d_jdk_29_method_69_code_2) rfl (tlt (hc2_1)).2.2.1 (by decide) (by decide) kg_) ?_
    show own_Gl p e below _ (s₁.setTop (mkF m 9 #[.val (.int p1), .val (.int p2)] []))
    refine own_st (fun tg_ kg_ => XS.iloadN X0.here hx rfl (hb hby own_d_jdk_29_method_69_code_9) rfl kg_) ?_
    show own_Gl p e below _ (s₁.setTop (mkF m 10 #[.val (.int p1), .val (.int p2)] [(.int p2)]))
    exact own_retI X0 hx Bd.notSynchronized Bd.returns (hb hby own_d_jdk_29_method_69_code_10) (by decide) (by decide) e0 (⟨by simp [own_min, eq_true hc2_1], N0, rfl⟩)
  ·
    show own_Gl p e below _ (s₁.setTop (mkF m 2 #[.val (.int p1), .val (.int p2)] [(.int p2), (.int p1)]))
    refine own_st (fun tg_ kg_ => XS.icmpNo X0.here hx rfl (hb hby own_d_jdk_29_method_69_code_2) rfl (flt (hc2_1)).2.2.1 kg_) ?_
    show own_Gl p e below _ (s₁.setTop (mkF m 5 #[.val (.int p1), .val (.int p2)] []))
    refine own_st (fun tg_ kg_ => XS.iloadN X0.here hx rfl (hb hby own_d_jdk_29_method_69_code_5) rfl kg_) ?_
    show own_Gl p e below _ (s₁.setTop (mkF m 6 #[.val (.int p1), .val (.int p2)] [(.int p1)]))
    refine own_st (fun tg_ kg_ => XS.goto X0.here hx rfl (pc0 := 6) (pc' := 10) rfl (hb hby own_d_jdk_29_method_69_code_6) (by decide) (by decide) kg_) ?_
    show own_Gl p e below _ (s₁.setTop (mkF m 10 #[.val (.int p1), .val (.int p2)] [(.int p1)]))
    exact own_retI X0 hx Bd.notSynchronized Bd.returns (hb hby own_d_jdk_29_method_69_code_10) (by decide) (by decide) e0 (⟨by simp [own_min, eq_false hc2_1], N0, rfl⟩)
theorem own_min48 {m : Nat} (h : m ≤ 48) : own_min (48 : Int32) (Int32.ofNat m) = Int32.ofNat m := by
  unfold own_min
  split
  · rfl
  · rename_i q
    rw [Int32.lt_iff_toInt_lt, own_ofn (by omega)] at q
    have e : (48 : Int32).toInt = 48 := by decide
    have : m = 48 := by omega
    subst this; rfl
theorem own_copied {vs : List Value} {m : Nat} (hm : vs.length = m) : (List.replicate m (Value.int 0)).take 0 ++ (List.range m).map (fun i => vs.getD (0 + i) (.int 0)) ++ (List.replicate m (Value.int 0)).drop (0 + m) = vs := by
  subst hm
  have e1 : (List.replicate vs.length (Value.int 0)).drop (0 + vs.length) = [] := by simp
  have e2 : (List.range vs.length).map (fun i => vs.getD (0 + i) (.int 0)) = vs := by
    apply List.ext_getElem
    · simp
    · intro i h1 h2; simp at h1; simp [h1]
  rw [e1, e2]; simp
theorem own_pd2 : parseMethodDescriptor "(II)I" = some ⟨[.int, .int], some .int⟩ := by decide +kernel
theorem own_pn4 : plainName "java/util/Arrays" = true := by first | (simp [plainName, overriddenIn]; done) | decide +kernel
theorem own_d_jdk_65_method_121_code_0 : decode jdk_65_method_121_code 0 = .ok (.iload_n 1, 1) := by decide +kernel
theorem own_d_jdk_65_method_121_code_1 : decode jdk_65_method_121_code 1 = .ok (.aload_n 0, 1) := by decide +kernel
theorem own_d_jdk_65_method_121_code_2 : decode jdk_65_method_121_code 2 = .ok (.arraylength, 1) := by decide +kernel
theorem own_d_jdk_65_method_121_code_3 : decode jdk_65_method_121_code 3 = .ok (.if_icmp .ne 11, 3) := by decide +kernel
theorem own_d_jdk_65_method_121_code_14 : decode jdk_65_method_121_code 14 = .ok (.iload_n 1, 1) := by decide +kernel
theorem own_d_jdk_65_method_121_code_15 : decode jdk_65_method_121_code 15 = .ok (.newarray .byte, 2) := by decide +kernel
theorem own_d_jdk_65_method_121_code_17 : decode jdk_65_method_121_code 17 = .ok (.astore_n 2, 1) := by decide +kernel
theorem own_d_jdk_65_method_121_code_18 : decode jdk_65_method_121_code 18 = .ok (.aload_n 0, 1) := by decide +kernel
theorem own_d_jdk_65_method_121_code_19 : decode jdk_65_method_121_code 19 = .ok (.iconst 0, 1) := by decide +kernel
theorem own_d_jdk_65_method_121_code_20 : decode jdk_65_method_121_code 20 = .ok (.aload_n 2, 1) := by decide +kernel
theorem own_d_jdk_65_method_121_code_21 : decode jdk_65_method_121_code 21 = .ok (.iconst 0, 1) := by decide +kernel
theorem own_d_jdk_65_method_121_code_22 : decode jdk_65_method_121_code 22 = .ok (.aload_n 0, 1) := by decide +kernel
theorem own_d_jdk_65_method_121_code_23 : decode jdk_65_method_121_code 23 = .ok (.arraylength, 1) := by decide +kernel
theorem own_d_jdk_65_method_121_code_24 : decode jdk_65_method_121_code 24 = .ok (.iload_n 1, 1) := by decide +kernel
theorem own_d_jdk_65_method_121_code_25 : decode jdk_65_method_121_code 25 = .ok (.invokestatic 304, 3) := by decide +kernel
theorem own_d_jdk_65_method_121_code_28 : decode jdk_65_method_121_code 28 = .ok (.invokestatic 150, 3) := by decide +kernel
theorem own_d_jdk_65_method_121_code_31 : decode jdk_65_method_121_code 31 = .ok (.aload_n 2, 1) := by decide +kernel
theorem own_d_jdk_65_method_121_code_32 : decode jdk_65_method_121_code 32 = .ok (.areturn, 1) := by decide +kernel
theorem own_ef_cpy (m : MethodId) (x0 : Addr) (x1 : Int32) : entryFrame m #[(.ref x0), (.int x1)] 3 = mkF m 0 #[.val (.ref x0), .val (.int x1), .unset] [] := by first | (simp [entryFrame, mkF, argsToLocals, Value.category]; done) | rfl
def own_Q_cpy (Z : State) (t : Addr) (kt : ClassId) (K : List Int32) (h0 : Heap) (n0 : Nat) (v : Option Value) (h : Heap) (L : List Loc) : Prop := (∃ w kw, v = some (.ref w) ∧ h0.size ≤ w ∧ Arv Z h w kw .byte (Int32.ofNat K.length) (K.map Value.int) (.int 0) ∧ Exa Z h w "[B") ∧ Fr n0 L ∧ Ext h0 h
set_option maxRecDepth 65536 in
set_option maxHeartbeats 40000000 in
theorem own_rm_cpy (l : Launch) (Z : State) (a0 : Array Value) (hw : ∀ d ∈ tables_1, d.before a0 Z = true) (ws : List Jvm.Cond) (t : Addr) (kt : ClassId) (K : List Int32) (h0 : Heap) (n0 : Nat) (Z0 : n0 ≤ h0.size) (V_t : Arv Z h0 t kt .byte (48 : Int32) (K.map Value.int) (.int 0)) (hk : K.length ≤ 48) (hk48 : ¬ Int32.ofNat K.length = 48) :
    MetFree l (⟨"java/util/Arrays", "copyOf", "([BI)[B"⟩ : MethodName) (head1 (Jvm.Cond.code (⟨"java/util/Arrays", "copyOf", "([BI)[B"⟩ : MethodName) jdk_65_method_121_code 3 (some (.array .byte)) :: ws) ({ frames := 1, cells := 1, slots := 48, locals := 60 } : Room)) (fun aa UU => aa = #[(.ref t), (.int (Int32.ofNat K.length))] ∧ Z.Warmed39 UU.vm ∧ UU.heap = h0) (fun _ _ _ _ _ => True) (fun _ UU oo UU' => ∃ vv LL, oo = .returned vv ∧ own_Q_cpy Z t kt K h0 n0 vv UU'.heap LL ∧ FrameEnd UU oo UU' LL ({ frames := 1, cells := 1, slots := 48, locals := 60 } : Room).cells ({ frames := 1, cells := 1, slots := 48, locals := 60 } : Room).slots) := by
  refine MetFree.of_bodySF (plainFor_of_name own_pn4) hisR ?_
  intro p e s m args below meth c s₁ Bd hml0 hP hK
  obtain ⟨rfl, hZ, hh⟩ := hP
  have hx := Bd.exec
  have hby := Bd.bytes
  have hml : c.maxLocals = 3 := hml0
  have hown : s.vm.findClass "java/util/Arrays" = some m.cls := findClass_of_methodNamed Bd.named
  have hnm := (name_of_methodNamed Bd.named Bd.method).1
  have X0 : Stand p l e ({ frames := 1, cells := 1, slots := 48, locals := 60 } : Room) s m #[(.ref t), (.int (Int32.ofNat K.length))] below meth c s₁ [] 0 0 := Stand.of_body Bd
  have e0 : s₁.heap = h0 := by rw [← hh, Bd.state]; rfl
  have N0 := Fr.nil n0
  show own_Gl p e below (own_Post s (own_Q_cpy Z t kt K h0 n0) ({ frames := 1, cells := 1, slots := 48, locals := 60 } : Room).cells ({ frames := 1, cells := 1, slots := 48, locals := 60 } : Room).slots) _
  refine own_st (fun tg_ kg_ => castTop (own_ef_cpy m t (Int32.ofNat K.length)) kg_) ?_
  show own_Gl p e below _ (s₁.setTop (mkF m 0 #[.val (.ref t), .val (.int (Int32.ofNat K.length)), .unset] []))
  refine own_st (fun tg_ kg_ => XS.iloadN X0.here hx rfl (hb hby own_d_jdk_65_method_121_code_0) rfl kg_) ?_
  show own_Gl p e below _ (s₁.setTop (mkF m 1 #[.val (.ref t), .val (.int (Int32.ofNat K.length)), .unset] [(.int (Int32.ofNat K.length))]))
  refine own_st (fun tg_ kg_ => XS.aloadN X0.here hx rfl (hb hby own_d_jdk_65_method_121_code_1) rfl rfl kg_) ?_
  show own_Gl p e below _ (s₁.setTop (mkF m 2 #[.val (.ref t), .val (.int (Int32.ofNat K.length)), .unset] [(.ref t), (.int (Int32.ofNat K.length))]))
  obtain ⟨cl1, Ar1, qa1, Sa1, Na1, Ha1, Ga1⟩ := id V_t
  refine own_st (fun tg_ kg_ => X0.arraylength hx (by rw [e0]; exact Ar1.1) (State.isArrayOf_alike hZ.alike Ar1.2.1) (g := (mkF m 2 #[.val (.ref t), .val (.int (Int32.ofNat K.length)), .unset] [(.ref t), (.int (Int32.ofNat K.length))])) rfl rfl (hb hby own_d_jdk_65_method_121_code_2) _ kg_) ?_
  rw [len_of Sa1 Na1]
  show own_Gl p e below _ (s₁.setTop (mkF m 3 #[.val (.ref t), .val (.int (Int32.ofNat K.length)), .unset] [(.int (48 : Int32)), (.int (Int32.ofNat K.length))]))
  refine own_st (fun tg_ kg_ => XS.icmpYes X0.here hx rfl (pc0 := 3) (pc' := 14) rfl (hb hby own_d_jdk_65_method_121_code_3) rfl (feq (hk48)).2 (by decide) (by decide) kg_) ?_
  show own_Gl p e below _ (s₁.setTop (mkF m 14 #[.val (.ref t), .val (.int (Int32.ofNat K.length)), .unset] []))
  refine own_st (fun tg_ kg_ => XS.iloadN X0.here hx rfl (hb hby own_d_jdk_65_method_121_code_14) rfl kg_) ?_
  show own_Gl p e below _ (s₁.setTop (mkF m 15 #[.val (.ref t), .val (.int (Int32.ofNat K.length)), .unset] [(.int (Int32.ofNat K.length))]))
  have hmn : ¬ Int32.ofNat K.length < 0 := own_ofn_nn (by omega)
  have hmc : (Int32.ofNat K.length).toNatClampNeg = K.length := own_ofn_clamp (by omega)
  obtain ⟨T2, h2, k2, X2, e2, E2, A2, B2, st2⟩ := newPE X0 hx hZ (hw _ (List.mem_of_getElem? (i := 28) rfl)) e0 (g := (mkF m 15 #[.val (.ref t), .val (.int (Int32.ofNat K.length)), .unset] [(.int (Int32.ofNat K.length))])) rfl (hb hby own_d_jdk_65_method_121_code_15) rfl hmn (cap := 48) (by rw [hmc]; omega) (by decide) (by decide) (by decide) (ad := "[B") (by decide)
  obtain ⟨w, g2⟩ : ∃ z, z = h0.size := ⟨_, rfl⟩
  have ne_t_w : t ≠ w := Nat.ne_of_lt (Nat.lt_of_lt_of_le V_t.lt (Nat.le_of_eq g2.symm))
  have sz_w : h0.size ≤ w := Nat.le_of_eq g2.symm
  have g_w : n0 ≤ w := Nat.le_trans Z0 sz_w
  rw [← g2] at A2 B2 st2
  have E_w := B2
  have V_w : Arv Z h2 w k2 .byte (Int32.ofNat K.length) (List.replicate K.length (.int 0)) (.int 0) := (Arv.new A2 hmn).pad (pad_rep [] (.int 0) K.length)
  refine own_st st2 ?_
  try clear st2
  show own_Gl p e below _ (T2.setTop (mkF m 17 #[.val (.ref t), .val (.int (Int32.ofNat K.length)), .unset] [(.ref w)]))
  refine own_st (fun tg_ kg_ => XS.astoreN X2.here hx rfl (hb hby own_d_jdk_65_method_121_code_17) rfl rfl (l' := #[.val (.ref t), .val (.int (Int32.ofNat K.length)), .val (.ref w)]) rfl kg_) ?_
  show own_Gl p e below _ (T2.setTop (mkF m 18 #[.val (.ref t), .val (.int (Int32.ofNat K.length)), .val (.ref w)] []))
  refine own_st (fun tg_ kg_ => XS.aloadN X2.here hx rfl (hb hby own_d_jdk_65_method_121_code_18) rfl rfl kg_) ?_
  show own_Gl p e below _ (T2.setTop (mkF m 19 #[.val (.ref t), .val (.int (Int32.ofNat K.length)), .val (.ref w)] [(.ref t)]))
  refine own_st (fun tg_ kg_ => XS.iconst X2.here hx rfl (hb hby own_d_jdk_65_method_121_code_19) kg_) ?_
  show own_Gl p e below _ (T2.setTop (mkF m 20 #[.val (.ref t), .val (.int (Int32.ofNat K.length)), .val (.ref w)] [(.int (0 : Int32)), (.ref t)]))
  refine own_st (fun tg_ kg_ => XS.aloadN X2.here hx rfl (hb hby own_d_jdk_65_method_121_code_20) rfl rfl kg_) ?_
  show own_Gl p e below _ (T2.setTop (mkF m 21 #[.val (.ref t), .val (.int (Int32.ofNat K.length)), .val (.ref w)] [(.ref w), (.int (0 : Int32)), (.ref t)]))
  refine own_st (fun tg_ kg_ => XS.iconst X2.here hx rfl (hb hby own_d_jdk_65_method_121_code_21) kg_) ?_
  show own_Gl p e below _ (T2.setTop (mkF m 22 #[.val (.ref t), .val (.int (Int32.ofNat K.length)), .val (.ref w)] [(.int (0 : Int32)), (.ref w), (.int (0 : Int32)), (.ref t)]))
  refine own_st (fun tg_ kg_ => XS.aloadN X2.here hx rfl (hb hby own_d_jdk_65_method_121_code_22) rfl rfl kg_) ?_
  show own_Gl p e below _ (T2.setTop (mkF m 23 #[.val (.ref t), .val (.int (Int32.ofNat K.length)), .val (.ref w)] [(.ref t), (.int (0 : Int32)), (.ref w), (.int (0 : Int32)), (.ref t)]))
  obtain ⟨cl4, Ar4, qa4, Sa4, Na4, Ha4, Ga4⟩ := id (V_t.ext E2)
  refine own_st (fun tg_ kg_ => X2.arraylength hx (by rw [e2]; exact Ar4.1) (State.isArrayOf_alike hZ.alike Ar4.2.1) (g := (mkF m 23 #[.val (.ref t), .val (.int (Int32.ofNat K.length)), .val (.ref w)] [(.ref t), (.int (0 : Int32)), (.ref w), (.int (0 : Int32)), (.ref t)])) rfl rfl (hb hby own_d_jdk_65_method_121_code_23) _ kg_) ?_
  rw [len_of Sa4 Na4]
  show own_Gl p e below _ (T2.setTop (mkF m 24 #[.val (.ref t), .val (.int (Int32.ofNat K.length)), .val (.ref w)] [(.int (48 : Int32)), (.int (0 : Int32)), (.ref w), (.int (0 : Int32)), (.ref t)]))
  refine own_st (fun tg_ kg_ => XS.iloadN X2.here hx rfl (hb hby own_d_jdk_65_method_121_code_24) rfl kg_) ?_
  show own_Gl p e below _ (T2.setTop (mkF m 25 #[.val (.ref t), .val (.int (Int32.ofNat K.length)), .val (.ref w)] [(.int (Int32.ofNat K.length)), (.int (48 : Int32)), (.int (0 : Int32)), (.ref w), (.int (0 : Int32)), (.ref t)]))
  obtain ⟨_, _, ⟨T5, L5, k5, n5⟩, -, X5, ⟨Lc5, hQ5, l5, y5, z5⟩, st5⟩ := Jvm.LawKit.callS X2 hx (y := (⟨"java/lang/Math", "min", "(II)I"⟩ : MethodName)) hown (mvT hZ (hw _ (List.mem_of_getElem? (i := 81) rfl))) (mvT hZ (hw _ (List.mem_of_getElem? (i := 82) rfl))) (mvT hZ (hw _ (List.mem_of_getElem? (i := 83) rfl))) (mvT hZ (hw _ (List.mem_of_getElem? (i := 84) rfl))) (by decide) (backOf (W := 4) (own_rm_min l Z a0 hw [] (48 : Int32) (Int32.ofNat K.length) h2 n0 (Nat.le_trans Z0 E2.1)) hZ (hw _ (List.mem_of_getElem? (i := 84) rfl)) (hw _ (List.mem_of_getElem? (i := 83) rfl)) (by decide) (by decide)) (g := (mkF m 25 #[.val (.ref t), .val (.int (Int32.ofNat K.length)), .val (.ref w)] [(.int (Int32.ofNat K.length)), (.int (48 : Int32)), (.int (0 : Int32)), (.ref w), (.int (0 : Int32)), (.ref t)])) rfl (by rw [hml]; rfl) (argsL := [(.int (48 : Int32)), (.int (Int32.ofNat K.length))]) (rest := [(.int (0 : Int32)), (.ref w), (.int (0 : Int32)), (.ref t)]) (lenOf own_pd2 rfl) rfl (by show 2 * 0 + _ ≤ _; exact Nat.le_of_eq rfl) (hb hby own_d_jdk_65_method_121_code_25) (fun _ _ => ⟨rfl, e2, (by decide : 1 + 0 ≤ _), (by decide : 48 + 0 ≤ _)⟩)
  dsimp only [Pt.U, Pt.locs, Pt.cells, Pt.slots] at X5 l5 y5 z5 st5 hQ5
  obtain rfl : k5 = 1 := y5
  obtain rfl : n5 = 48 := z5
  obtain ⟨rfl, N5q, e5⟩ := hQ5
  have N5 : Fr n0 L5 := by rw [l5]; exact Fr.app N0 N5q
  try clear l5
  refine own_st st5 ?_
  show own_Gl p e below _ (T5.setTop (mkF m 28 #[.val (.ref t), .val (.int (Int32.ofNat K.length)), .val (.ref w)] [(.int (own_min (48 : Int32) (Int32.ofNat K.length))), (.int (0 : Int32)), (.ref w), (.int (0 : Int32)), (.ref t)]))
  try clear st5
  try clear N5q
  try clear e2
  try clear X2
  try clear T2
  rw [own_min48 hk]
  show own_Gl p e below _ (T5.setTop (mkF m 28 #[.val (.ref t), .val (.int (Int32.ofNat K.length)), .val (.ref w)] [(.int (Int32.ofNat K.length)), (.int (0 : Int32)), (.ref w), (.int (0 : Int32)), (.ref t)]))
  obtain ⟨T6, h6, L6, X6, e6, N6, Kc6, V_w, st6⟩ := cpA X5 hx hZ hown (hw _ (List.mem_of_getElem? (i := 85) rfl)) (hw _ (List.mem_of_getElem? (i := 88) rfl)) (hw _ (List.mem_of_getElem? (i := 86) rfl)) (hw _ (List.mem_of_getElem? (i := 87) rfl)) e5 (V_t.ext E2) V_w (us := (List.range K.length).map (fun i => (K.map Value.int).getD (0 + i) (.int 0))) (Or.inl ⟨rfl, rfl⟩) (sp := (0 : Int32)) (dp := (0 : Int32)) (nn := Int32.ofNat K.length) (by decide) (by decide) hmn (by rw [hmc]; show 0 + K.length ≤ 48; omega) (by rw [hmc]; show 0 + K.length ≤ K.length; omega) (by rw [hmc]; rfl) (by rw [hmc, List.length_replicate]; show 0 + K.length ≤ K.length; omega) N5 g_w (g := (mkF m 28 #[.val (.ref t), .val (.int (Int32.ofNat K.length)), .val (.ref w)] [(.int (Int32.ofNat K.length)), (.int (0 : Int32)), (.ref w), (.int (0 : Int32)), (.ref t)])) rfl (by rw [hml]; rfl) rfl (hb hby own_d_jdk_65_method_121_code_28) (by decide) (W := 0) (by show 2 * 0 + _ ≤ _; exact Nat.le_of_eq rfl) (by decide)
  rw [hmc] at V_w
  have V_w : Arv Z h6 w k2 .byte (Int32.ofNat K.length) (K.map Value.int) (.int 0) := own_copied (vs := (K.map Value.int)) (m := K.length) (by simp) ▸ V_w
  replace E_w := E_w.keep Kc6
  have K7 := own_ext_keep E2 Kc6 (allS sz_w all0)
  try clear Kc6
  try clear E2
  refine own_st st6 ?_
  try clear st6
  try clear e5
  try clear X5
  try clear T5
  show own_Gl p e below _ (T6.setTop (mkF m 31 #[.val (.ref t), .val (.int (Int32.ofNat K.length)), .val (.ref w)] []))
  refine own_st (fun tg_ kg_ => XS.aloadN X6.here hx rfl (hb hby own_d_jdk_65_method_121_code_31) rfl rfl kg_) ?_
  show own_Gl p e below _ (T6.setTop (mkF m 32 #[.val (.ref t), .val (.int (Int32.ofNat K.length)), .val (.ref w)] [(.ref w)]))
  exact own_retA X6 hx Bd.notSynchronized Bd.returns rfl rfl (hb hby own_d_jdk_65_method_121_code_32) (by decide) (by decide) e6 (⟨⟨_, _, rfl, sz_w, V_w, E_w⟩, N6, K7⟩)
theorem own_d_jdk_65_method_121_code_6 : decode jdk_65_method_121_code 6 = .ok (.aload_n 0, 1) := by decide +kernel
theorem own_d_jdk_65_method_121_code_7 : decode jdk_65_method_121_code 7 = .ok (.invokevirtual 310, 3) := by decide +kernel
theorem own_d_jdk_65_method_121_code_10 : decode jdk_65_method_121_code 10 = .ok (.checkcast 311, 3) := by decide +kernel
theorem own_d_jdk_65_method_121_code_13 : decode jdk_65_method_121_code 13 = .ok (.areturn, 1) := by decide +kernel
theorem own_ef_cln (m : MethodId) (x0 : Addr) (x1 : Int32) : entryFrame m #[(.ref x0), (.int x1)] 3 = mkF m 0 #[.val (.ref x0), .val (.int x1), .unset] [] := by first | (simp [entryFrame, mkF, argsToLocals, Value.category]; done) | rfl
def own_Q_cln (Z : State) (t : Addr) (kt : ClassId) (K : List Int32) (h0 : Heap) (n0 : Nat) (v : Option Value) (h : Heap) (L : List Loc) : Prop := (∃ w kw, v = some (.ref w) ∧ h0.size ≤ w ∧ Arv Z h w kw .byte (Int32.ofNat K.length) (K.map Value.int) (.int 0)) ∧ Fr n0 L ∧ Ext h0 h
set_option maxRecDepth 65536 in
set_option maxHeartbeats 40000000 in
theorem own_rm_cln (l : Launch) (Z : State) (a0 : Array Value) (hw : ∀ d ∈ tables_1, d.before a0 Z = true) (ws : List Jvm.Cond) (t : Addr) (kt : ClassId) (K : List Int32) (h0 : Heap) (n0 : Nat) (Z0 : n0 ≤ h0.size) (V_t : Arv Z h0 t kt .byte (Int32.ofNat K.length) (K.map Value.int) (.int 0)) (E_t : Exa Z h0 t "[B") (hk : K.length ≤ 48) :
    MetFree l (⟨"java/util/Arrays", "copyOf", "([BI)[B"⟩ : MethodName) (head1 (Jvm.Cond.code (⟨"java/util/Arrays", "copyOf", "([BI)[B"⟩ : MethodName) jdk_65_method_121_code 3 (some (.array .byte)) :: ws) ({ frames := 1, cells := 1, slots := 48, locals := 14 } : Room)) (fun aa UU => aa = #[(.ref t), (.int (Int32.ofNat K.length))] ∧ Z.Warmed39 UU.vm ∧ UU.heap = h0) (fun _ _ _ _ _ => True) (fun _ UU oo UU' => ∃ vv LL, oo = .returned vv ∧ own_Q_cln Z t kt K h0 n0 vv UU'.heap LL ∧ FrameEnd UU oo UU' LL ({ frames := 1, cells := 1, slots := 48, locals := 14 } : Room).cells ({ frames := 1, cells := 1, slots := 48, locals := 14 } : Room).slots) := by
  refine MetFree.of_bodySF (plainFor_of_name own_pn4) hisR ?_
  intro p e s m args below meth c s₁ Bd hml0 hP hK
  obtain ⟨rfl, hZ, hh⟩ := hP
  have hx := Bd.exec
  have hby := Bd.bytes
  have hml : c.maxLocals = 3 := hml0
  have hown : s.vm.findClass "java/util/Arrays" = some m.cls := findClass_of_methodNamed Bd.named
  have hnm := (name_of_methodNamed Bd.named Bd.method).1
  have X0 : Stand p l e ({ frames := 1, cells := 1, slots := 48, locals := 14 } : Room) s m #[(.ref t), (.int (Int32.ofNat K.length))] below meth c s₁ [] 0 0 := Stand.of_body Bd
  have e0 : s₁.heap = h0 := by rw [← hh, Bd.state]; rfl
  have N0 := Fr.nil n0
  show own_Gl p e below (own_Post s (own_Q_cln Z t kt K h0 n0) ({ frames := 1, cells := 1, slots := 48, locals := 14 } : Room).cells ({ frames := 1, cells := 1, slots := 48, locals := 14 } : Room).slots) _
  refine own_st (fun tg_ kg_ => castTop (own_ef_cln m t (Int32.ofNat K.length)) kg_) ?_
  show own_Gl p e below _ (s₁.setTop (mkF m 0 #[.val (.ref t), .val (.int (Int32.ofNat K.length)), .unset] []))
  refine own_st (fun tg_ kg_ => XS.iloadN X0.here hx rfl (hb hby own_d_jdk_65_method_121_code_0) rfl kg_) ?_
  show own_Gl p e below _ (s₁.setTop (mkF m 1 #[.val (.ref t), .val (.int (Int32.ofNat K.length)), .unset] [(.int (Int32.ofNat K.length))]))
  refine own_st (fun tg_ kg_ => XS.aloadN X0.here hx rfl (hb hby own_d_jdk_65_method_121_code_1) rfl rfl kg_) ?_
  show own_Gl p e below _ (s₁.setTop (mkF m 2 #[.val (.ref t), .val (.int (Int32.ofNat K.length)), .unset] [(.ref t), (.int (Int32.ofNat K.length))]))
  obtain ⟨cl1, Ar1, qa1, Sa1, Na1, Ha1, Ga1⟩ := id V_t
  refine own_st (fun tg_ kg_ => X0.arraylength hx (by rw [e0]; exact Ar1.1) (State.isArrayOf_alike hZ.alike Ar1.2.1) (g := (mkF m 2 #[.val (.ref t), .val (.int (Int32.ofNat K.length)), .unset] [(.ref t), (.int (Int32.ofNat K.length))])) rfl rfl (hb hby own_d_jdk_65_method_121_code_2) _ kg_) ?_
  rw [len_of Sa1 Na1]
  show own_Gl p e below _ (s₁.setTop (mkF m 3 #[.val (.ref t), .val (.int (Int32.ofNat K.length)), .unset] [(.int (Int32.ofNat K.length)), (.int (Int32.ofNat K.length))]))
  refine own_st (fun tg_ kg_ => XS.icmpNo X0.here hx rfl (hb hby own_d_jdk_65_method_121_code_3) rfl (teq ((rfl : (Int32.ofNat K.length) = (Int32.ofNat K.length)))).2 kg_) ?_
  show own_Gl p e below _ (s₁.setTop (mkF m 6 #[.val (.ref t), .val (.int (Int32.ofNat K.length)), .unset] []))
  refine own_st (fun tg_ kg_ => XS.aloadN X0.here hx rfl (hb hby own_d_jdk_65_method_121_code_6) rfl rfl kg_) ?_
  show own_Gl p e below _ (s₁.setTop (mkF m 7 #[.val (.ref t), .val (.int (Int32.ofNat K.length)), .unset] [(.ref t)]))
  have hmc : (Int32.ofNat K.length).toNatClampNeg = K.length := own_ofn_clamp (by omega)
  obtain ⟨T2, h2, X2, e2, E2, A2, B2, st2⟩ := cloneH X0 hx hZ hown (hw _ (List.mem_of_getElem? (i := 103) rfl)) (hw _ (List.mem_of_getElem? (i := 104) rfl)) (hw _ (List.mem_of_getElem? (i := 108) rfl)) (hw _ (List.mem_of_getElem? (i := 106) rfl)) (hw _ (List.mem_of_getElem? (i := 107) rfl)) (hw _ (List.mem_of_getElem? (i := 109) rfl)) e0 V_t.arh E_t (g := (mkF m 7 #[.val (.ref t), .val (.int (Int32.ofNat K.length)), .unset] [(.ref t)])) rfl (by rw [hml]; rfl) rfl (hb hby own_d_jdk_65_method_121_code_7) (by decide) (W := 0) (cap := 48) (by show 2 * 0 + _ ≤ _; exact Nat.le_of_eq rfl) (by decide) (by rw [hmc]; omega) (by decide) (by decide)
  obtain ⟨w, g2⟩ : ∃ z, z = h0.size := ⟨_, rfl⟩
  have ne_t_w : t ≠ w := Nat.ne_of_lt (Nat.lt_of_lt_of_le V_t.lt (Nat.le_of_eq g2.symm))
  have sz_w : h0.size ≤ w := Nat.le_of_eq g2.symm
  have g_w : n0 ≤ w := Nat.le_trans Z0 sz_w
  rw [← g2] at A2 B2 st2
  have V_w : Arv Z h2 w kt .byte (Int32.ofNat K.length) (K.map Value.int) (.int 0) := A2
  have E_w := B2
  refine own_st st2 ?_
  try clear st2
  show own_Gl p e below _ (T2.setTop (mkF m 10 #[.val (.ref t), .val (.int (Int32.ofNat K.length)), .unset] [(.ref w)]))
  obtain ⟨T4, X4, e4, st4⟩ := castY X2 hx hZ hown (hw _ (List.mem_of_getElem? (i := 110) rfl)) e2 (Ins.self E_w) (g := (mkF m 10 #[.val (.ref t), .val (.int (Int32.ofNat K.length)), .unset] [(.ref w)])) rfl rfl (hb hby own_d_jdk_65_method_121_code_10)
  refine own_st st4 ?_
  try clear st4
  try clear e2
  try clear X2
  try clear T2
  show own_Gl p e below _ (T4.setTop (mkF m 13 #[.val (.ref t), .val (.int (Int32.ofNat K.length)), .unset] [(.ref w)]))
  exact own_retA X4 hx Bd.notSynchronized Bd.returns rfl rfl (hb hby own_d_jdk_65_method_121_code_13) (by decide) (by decide) e4 (⟨⟨_, _, rfl, sz_w, V_w⟩, N0, E2⟩)
theorem own_getm (bs : List Int32) (i : Nat) : (bs.map Value.int).getD i (.int 0) = .int (bs.getD i 0) := by
  simp only [List.getD_eq_getElem?_getD, List.getElem?_map]; cases bs[i]? <;> rfl
theorem own_next (bs : List Int32) {i : Nat} (hi : i < bs.length) : own_enc (bs.take (i + 1)) = own_enc (bs.take i) ++ own_e1 (bs.getD i 0) := by
  rw [own_take bs hi, own_enc_app, own_enc_one]; simp [List.getD_eq_getElem?_getD, hi]
theorem own_pd3 : parseMethodDescriptor "([BII)Z" = some ⟨[(.array .byte), .int, .int], some .boolean⟩ := by decide +kernel
theorem own_pd4 : parseMethodDescriptor "(I)[B" = some ⟨[.int], some (.array .byte)⟩ := by decide +kernel
theorem own_pd5 : parseMethodDescriptor "([BI)[B" = some ⟨[(.array .byte), .int], some (.array .byte)⟩ := by decide +kernel
theorem own_d_jdk_42_method_46_code_0 : decode jdk_42_method_46_code 0 = .ok (.iload_n 0, 1) := by decide +kernel
theorem own_d_jdk_42_method_46_code_1 : decode jdk_42_method_46_code 1 = .ok (.iconst 1, 1) := by decide +kernel
theorem own_d_jdk_42_method_46_code_2 : decode jdk_42_method_46_code 2 = .ok (.if_icmp .ne 9, 3) := by decide +kernel
theorem own_d_jdk_42_method_46_code_11 : decode jdk_42_method_46_code 11 = .ok (.aload_n 1, 1) := by decide +kernel
theorem own_d_jdk_42_method_46_code_12 : decode jdk_42_method_46_code 12 = .ok (.iconst 0, 1) := by decide +kernel
theorem own_d_jdk_42_method_46_code_13 : decode jdk_42_method_46_code 13 = .ok (.aload_n 1, 1) := by decide +kernel
theorem own_d_jdk_42_method_46_code_14 : decode jdk_42_method_46_code 14 = .ok (.arraylength, 1) := by decide +kernel
theorem own_d_jdk_42_method_46_code_15 : decode jdk_42_method_46_code 15 = .ok (.invokestatic 128, 3) := by decide +kernel
theorem own_d_jdk_42_method_46_code_18 : decode jdk_42_method_46_code 18 = .ok (.ifCond .ne 11, 3) := by decide +kernel
theorem own_d_jdk_42_method_46_code_29 : decode jdk_42_method_46_code 29 = .ok (.iconst 0, 1) := by decide +kernel
theorem own_d_jdk_42_method_46_code_30 : decode jdk_42_method_46_code 30 = .ok (.istore_n 3, 1) := by decide +kernel
theorem own_d_jdk_42_method_46_code_31 : decode jdk_42_method_46_code 31 = .ok (.aload_n 1, 1) := by decide +kernel
theorem own_d_jdk_42_method_46_code_32 : decode jdk_42_method_46_code 32 = .ok (.arraylength, 1) := by decide +kernel
theorem own_d_jdk_42_method_46_code_33 : decode jdk_42_method_46_code 33 = .ok (.invokestatic 60, 3) := by decide +kernel
theorem own_d_jdk_42_method_46_code_36 : decode jdk_42_method_46_code 36 = .ok (.astore 4, 2) := by decide +kernel
theorem own_d_jdk_42_method_46_code_38 : decode jdk_42_method_46_code 38 = .ok (.aload_n 1, 1) := by decide +kernel
theorem own_d_jdk_42_method_46_code_39 : decode jdk_42_method_46_code 39 = .ok (.astore 5, 2) := by decide +kernel
theorem own_d_jdk_42_method_46_code_41 : decode jdk_42_method_46_code 41 = .ok (.aload 5, 2) := by decide +kernel
theorem own_d_jdk_42_method_46_code_43 : decode jdk_42_method_46_code 43 = .ok (.arraylength, 1) := by decide +kernel
theorem own_d_jdk_42_method_46_code_44 : decode jdk_42_method_46_code 44 = .ok (.istore 6, 2) := by decide +kernel
theorem own_d_jdk_42_method_46_code_46 : decode jdk_42_method_46_code 46 = .ok (.iconst 0, 1) := by decide +kernel
theorem own_d_jdk_42_method_46_code_47 : decode jdk_42_method_46_code 47 = .ok (.istore 7, 2) := by decide +kernel
theorem own_d_jdk_42_method_46_code_49 : decode jdk_42_method_46_code 49 = .ok (.iload 7, 2) := by decide +kernel
theorem own_d_jdk_42_method_46_code_51 : decode jdk_42_method_46_code 51 = .ok (.iload 6, 2) := by decide +kernel
theorem own_d_jdk_42_method_46_code_53 : decode jdk_42_method_46_code 53 = .ok (.if_icmp .ge 71, 3) := by decide +kernel
theorem own_d_jdk_42_method_46_code_56 : decode jdk_42_method_46_code 56 = .ok (.aload 5, 2) := by decide +kernel
theorem own_d_jdk_42_method_46_code_58 : decode jdk_42_method_46_code 58 = .ok (.iload 7, 2) := by decide +kernel
theorem own_d_jdk_42_method_46_code_60 : decode jdk_42_method_46_code 60 = .ok (.baload, 1) := by decide +kernel
theorem own_d_jdk_42_method_46_code_61 : decode jdk_42_method_46_code 61 = .ok (.istore 8, 2) := by decide +kernel
theorem own_d_jdk_42_method_46_code_63 : decode jdk_42_method_46_code 63 = .ok (.iload 8, 2) := by decide +kernel
theorem own_d_jdk_42_method_46_code_65 : decode jdk_42_method_46_code 65 = .ok (.ifCond .ge 44, 3) := by decide +kernel
theorem own_d_jdk_42_method_46_code_68 : decode jdk_42_method_46_code 68 = .ok (.aload 4, 2) := by decide +kernel
theorem own_d_jdk_42_method_46_code_70 : decode jdk_42_method_46_code 70 = .ok (.iload_n 3, 1) := by decide +kernel
theorem own_d_jdk_42_method_46_code_71 : decode jdk_42_method_46_code 71 = .ok (.iinc 3 1, 3) := by decide +kernel
theorem own_d_jdk_42_method_46_code_74 : decode jdk_42_method_46_code 74 = .ok (.sipush 192, 3) := by decide +kernel
theorem own_d_jdk_42_method_46_code_77 : decode jdk_42_method_46_code 77 = .ok (.iload 8, 2) := by decide +kernel
theorem own_d_jdk_42_method_46_code_79 : decode jdk_42_method_46_code 79 = .ok (.sipush 255, 3) := by decide +kernel
theorem own_d_jdk_42_method_46_code_82 : decode jdk_42_method_46_code 82 = .ok (.iand, 1) := by decide +kernel
theorem own_d_jdk_42_method_46_code_83 : decode jdk_42_method_46_code 83 = .ok (.bipush 6, 2) := by decide +kernel
theorem own_d_jdk_42_method_46_code_85 : decode jdk_42_method_46_code 85 = .ok (.ishr, 1) := by decide +kernel
theorem own_d_jdk_42_method_46_code_86 : decode jdk_42_method_46_code 86 = .ok (.ior, 1) := by decide +kernel
theorem own_d_jdk_42_method_46_code_87 : decode jdk_42_method_46_code 87 = .ok (.i2b, 1) := by decide +kernel
theorem own_d_jdk_42_method_46_code_88 : decode jdk_42_method_46_code 88 = .ok (.bastore, 1) := by decide +kernel
theorem own_d_jdk_42_method_46_code_89 : decode jdk_42_method_46_code 89 = .ok (.aload 4, 2) := by decide +kernel
theorem own_d_jdk_42_method_46_code_91 : decode jdk_42_method_46_code 91 = .ok (.iload_n 3, 1) := by decide +kernel
theorem own_d_jdk_42_method_46_code_92 : decode jdk_42_method_46_code 92 = .ok (.iinc 3 1, 3) := by decide +kernel
theorem own_d_jdk_42_method_46_code_95 : decode jdk_42_method_46_code 95 = .ok (.sipush 128, 3) := by decide +kernel
theorem own_d_jdk_42_method_46_code_98 : decode jdk_42_method_46_code 98 = .ok (.iload 8, 2) := by decide +kernel
theorem own_d_jdk_42_method_46_code_100 : decode jdk_42_method_46_code 100 = .ok (.bipush 63, 2) := by decide +kernel
theorem own_d_jdk_42_method_46_code_102 : decode jdk_42_method_46_code 102 = .ok (.iand, 1) := by decide +kernel
theorem own_d_jdk_42_method_46_code_103 : decode jdk_42_method_46_code 103 = .ok (.ior, 1) := by decide +kernel
theorem own_d_jdk_42_method_46_code_104 : decode jdk_42_method_46_code 104 = .ok (.i2b, 1) := by decide +kernel
theorem own_d_jdk_42_method_46_code_105 : decode jdk_42_method_46_code 105 = .ok (.bastore, 1) := by decide +kernel
theorem own_d_jdk_42_method_46_code_106 : decode jdk_42_method_46_code 106 = .ok (.goto 12, 3) := by decide +kernel
theorem own_d_jdk_42_method_46_code_109 : decode jdk_42_method_46_code 109 = .ok (.aload 4, 2) := by decide +kernel
theorem own_d_jdk_42_method_46_code_111 : decode jdk_42_method_46_code 111 = .ok (.iload_n 3, 1) := by decide +kernel
theorem own_d_jdk_42_method_46_code_112 : decode jdk_42_method_46_code 112 = .ok (.iinc 3 1, 3) := by decide +kernel
theorem own_d_jdk_42_method_46_code_115 : decode jdk_42_method_46_code 115 = .ok (.iload 8, 2) := by decide +kernel
theorem own_d_jdk_42_method_46_code_117 : decode jdk_42_method_46_code 117 = .ok (.bastore, 1) := by decide +kernel
theorem own_d_jdk_42_method_46_code_118 : decode jdk_42_method_46_code 118 = .ok (.iinc 7 1, 3) := by decide +kernel
theorem own_d_jdk_42_method_46_code_121 : decode jdk_42_method_46_code 121 = .ok (.goto (-72), 3) := by decide +kernel
theorem own_d_jdk_42_method_46_code_124 : decode jdk_42_method_46_code 124 = .ok (.iload_n 3, 1) := by decide +kernel
theorem own_d_jdk_42_method_46_code_125 : decode jdk_42_method_46_code 125 = .ok (.aload 4, 2) := by decide +kernel
theorem own_d_jdk_42_method_46_code_127 : decode jdk_42_method_46_code 127 = .ok (.arraylength, 1) := by decide +kernel
theorem own_d_jdk_42_method_46_code_128 : decode jdk_42_method_46_code 128 = .ok (.if_icmp .ne 6, 3) := by decide +kernel
theorem own_d_jdk_42_method_46_code_131 : decode jdk_42_method_46_code 131 = .ok (.aload 4, 2) := by decide +kernel
theorem own_d_jdk_42_method_46_code_133 : decode jdk_42_method_46_code 133 = .ok (.areturn, 1) := by decide +kernel
theorem own_d_jdk_42_method_46_code_134 : decode jdk_42_method_46_code 134 = .ok (.aload 4, 2) := by decide +kernel
theorem own_d_jdk_42_method_46_code_136 : decode jdk_42_method_46_code 136 = .ok (.iload_n 3, 1) := by decide +kernel
theorem own_d_jdk_42_method_46_code_137 : decode jdk_42_method_46_code 137 = .ok (.invokestatic 102, 3) := by decide +kernel
theorem own_d_jdk_42_method_46_code_140 : decode jdk_42_method_46_code 140 = .ok (.areturn, 1) := by decide +kernel
theorem own_ef_eu8 (m : MethodId) (x0 : Int32) (x1 : Addr) (x2 : Int32) : entryFrame m #[(.int x0), (.ref x1), (.int x2)] 9 = mkF m 0 #[.val (.int x0), .val (.ref x1), .val (.int x2), .unset, .unset, .unset, .unset, .unset, .unset] [] := by first | (simp [entryFrame, mkF, argsToLocals, Value.category]; done) | rfl
def own_Q_eu8 (Z : State) (t : Addr) (kt : ClassId) (bs : List Int32) (h0 : Heap) (n0 : Nat) (v : Option Value) (h : Heap) (L : List Loc) : Prop := (∃ w kw, v = some (.ref w) ∧ h0.size ≤ w ∧ Arv Z h w kw .byte (Int32.ofNat (own_enc bs).length) ((own_enc bs).map Value.int) (.int 0) ∧ Exa Z h w "[B") ∧ Fr n0 L ∧ Ext h0 h
set_option maxRecDepth 65536 in
set_option maxHeartbeats 40000000 in
theorem own_rm_eu8 (l : Launch) (Z : State) (a0 : Array Value) (hw : ∀ d ∈ tables_1, d.before a0 Z = true) (ws : List Jvm.Cond) (t : Addr) (kt : ClassId) (bs : List Int32) (h0 : Heap) (n0 : Nat) (Z0 : n0 ≤ h0.size) (V_t : Arv Z h0 t kt .byte (24 : Int32) (bs.map Value.int) (.int 0)) (hl : bs.length = 24)(hneg : bs.getD 0 0 < 0) :
    MetFree l (⟨"java/lang/String", "encodeUTF8", "(B[BZ)[B"⟩ : MethodName) (head1 (Jvm.Cond.code (⟨"java/lang/String", "encodeUTF8", "(B[BZ)[B"⟩ : MethodName) jdk_42_method_46_code 9 (some (.array .byte)) :: ws) ({ frames := 2, cells := 2, slots := 96, locals := 74 } : Room)) (fun aa UU => aa = #[(.int (0 : Int32)), (.ref t), (.int (1 : Int32))] ∧ Z.Warmed39 UU.vm ∧ UU.heap = h0) (fun _ _ _ _ _ => True) (fun _ UU oo UU' => ∃ vv LL, oo = .returned vv ∧ own_Q_eu8 Z t kt bs h0 n0 vv UU'.heap LL ∧ FrameEnd UU oo UU' LL ({ frames := 2, cells := 2, slots := 96, locals := 74 } : Room).cells ({ frames := 2, cells := 2, slots := 96, locals := 74 } : Room).slots) := by
  refine MetFree.of_bodySF (plainFor_of_name own_pn1) hisR ?_
  intro p e s m args below meth c s₁ Bd hml0 hP hK
  obtain ⟨rfl, hZ, hh⟩ := hP
  have hx := Bd.exec
  have hby := Bd.bytes
  have hml : c.maxLocals = 9 := hml0
  have hown : s.vm.findClass "java/lang/String" = some m.cls := findClass_of_methodNamed Bd.named
  have hnm := (name_of_methodNamed Bd.named Bd.method).1
  have X0 : Stand p l e ({ frames := 2, cells := 2, slots := 96, locals := 74 } : Room) s m #[(.int (0 : Int32)), (.ref t), (.int (1 : Int32))] below meth c s₁ [] 0 0 := Stand.of_body Bd
  have e0 : s₁.heap = h0 := by rw [← hh, Bd.state]; rfl
  have N0 := Fr.nil n0
  show own_Gl p e below (own_Post s (own_Q_eu8 Z t kt bs h0 n0) ({ frames := 2, cells := 2, slots := 96, locals := 74 } : Room).cells ({ frames := 2, cells := 2, slots := 96, locals := 74 } : Room).slots) _
  refine own_st (fun tg_ kg_ => castTop (own_ef_eu8 m (0 : Int32) t (1 : Int32)) kg_) ?_
  show own_Gl p e below _ (s₁.setTop (mkF m 0 #[.val (.int (0 : Int32)), .val (.ref t), .val (.int (1 : Int32)), .unset, .unset, .unset, .unset, .unset, .unset] []))
  refine own_st (fun tg_ kg_ => XS.iloadN X0.here hx rfl (hb hby own_d_jdk_42_method_46_code_0) rfl kg_) ?_
  show own_Gl p e below _ (s₁.setTop (mkF m 1 #[.val (.int (0 : Int32)), .val (.ref t), .val (.int (1 : Int32)), .unset, .unset, .unset, .unset, .unset, .unset] [(.int (0 : Int32))]))
  refine own_st (fun tg_ kg_ => XS.iconst X0.here hx rfl (hb hby own_d_jdk_42_method_46_code_1) kg_) ?_
  show own_Gl p e below _ (s₁.setTop (mkF m 2 #[.val (.int (0 : Int32)), .val (.ref t), .val (.int (1 : Int32)), .unset, .unset, .unset, .unset, .unset, .unset] [(.int (1 : Int32)), (.int (0 : Int32))]))
  refine own_st (fun tg_ kg_ => XS.icmpYes X0.here hx rfl (pc0 := 2) (pc' := 11) rfl (hb hby own_d_jdk_42_method_46_code_2) rfl (feq ((by decide : ¬ ((0 : Int32) = (1 : Int32))))).2 (by decide) (by decide) kg_) ?_
  show own_Gl p e below _ (s₁.setTop (mkF m 11 #[.val (.int (0 : Int32)), .val (.ref t), .val (.int (1 : Int32)), .unset, .unset, .unset, .unset, .unset, .unset] []))
  refine own_st (fun tg_ kg_ => XS.aloadN X0.here hx rfl (hb hby own_d_jdk_42_method_46_code_11) rfl rfl kg_) ?_
  show own_Gl p e below _ (s₁.setTop (mkF m 12 #[.val (.int (0 : Int32)), .val (.ref t), .val (.int (1 : Int32)), .unset, .unset, .unset, .unset, .unset, .unset] [(.ref t)]))
  refine own_st (fun tg_ kg_ => XS.iconst X0.here hx rfl (hb hby own_d_jdk_42_method_46_code_12) kg_) ?_
  show own_Gl p e below _ (s₁.setTop (mkF m 13 #[.val (.int (0 : Int32)), .val (.ref t), .val (.int (1 : Int32)), .unset, .unset, .unset, .unset, .unset, .unset] [(.int (0 : Int32)), (.ref t)]))
  refine own_st (fun tg_ kg_ => XS.aloadN X0.here hx rfl (hb hby own_d_jdk_42_method_46_code_13) rfl rfl kg_) ?_
  show own_Gl p e below _ (s₁.setTop (mkF m 14 #[.val (.int (0 : Int32)), .val (.ref t), .val (.int (1 : Int32)), .unset, .unset, .unset, .unset, .unset, .unset] [(.ref t), (.int (0 : Int32)), (.ref t)]))
  obtain ⟨cl1, Ar1, qa1, Sa1, Na1, Ha1, Ga1⟩ := id V_t
  refine own_st (fun tg_ kg_ => X0.arraylength hx (by rw [e0]; exact Ar1.1) (State.isArrayOf_alike hZ.alike Ar1.2.1) (g := (mkF m 14 #[.val (.int (0 : Int32)), .val (.ref t), .val (.int (1 : Int32)), .unset, .unset, .unset, .unset, .unset, .unset] [(.ref t), (.int (0 : Int32)), (.ref t)])) rfl rfl (hb hby own_d_jdk_42_method_46_code_14) _ kg_) ?_
  rw [len_of Sa1 Na1]
  show own_Gl p e below _ (s₁.setTop (mkF m 15 #[.val (.int (0 : Int32)), .val (.ref t), .val (.int (1 : Int32)), .unset, .unset, .unset, .unset, .unset, .unset] [(.int (24 : Int32)), (.int (0 : Int32)), (.ref t)]))
  obtain ⟨_, _, ⟨T2, L2, k2, n2⟩, -, X2, ⟨Lc2, hQ2, l2, y2, z2⟩, st2⟩ := Jvm.LawKit.callS X0 hx (y := (⟨"java/lang/StringCoding", "hasNegatives", "([BII)Z"⟩ : MethodName)) hown (mvT hZ (hw _ (List.mem_of_getElem? (i := 63) rfl))) (mvT hZ (hw _ (List.mem_of_getElem? (i := 64) rfl))) (mvT hZ (hw _ (List.mem_of_getElem? (i := 65) rfl))) (mvT hZ (hw _ (List.mem_of_getElem? (i := 66) rfl))) (by decide) (backOf (W := 0) (own_rm_hng l Z a0 hw [] t kt bs h0 n0 Z0 V_t hl hneg) hZ (hw _ (List.mem_of_getElem? (i := 66) rfl)) (hw _ (List.mem_of_getElem? (i := 65) rfl)) (by decide) (by decide)) (g := (mkF m 15 #[.val (.int (0 : Int32)), .val (.ref t), .val (.int (1 : Int32)), .unset, .unset, .unset, .unset, .unset, .unset] [(.int (24 : Int32)), (.int (0 : Int32)), (.ref t)])) rfl (by rw [hml]; rfl) (argsL := [(.ref t), (.int (0 : Int32)), (.int (24 : Int32))]) (rest := []) (lenOf own_pd3 rfl) rfl (by show 2 * 0 + _ ≤ _; exact Nat.le_of_eq rfl) (hb hby own_d_jdk_42_method_46_code_15) (fun _ _ => ⟨rfl, e0, (by decide : 0 + 0 ≤ _), (by decide : 0 + 0 ≤ _)⟩)
  dsimp only [Pt.U, Pt.locs, Pt.cells, Pt.slots] at X2 l2 y2 z2 st2 hQ2
  obtain rfl : k2 = 0 := y2
  obtain rfl : n2 = 0 := z2
  obtain ⟨rfl, N2q, e2⟩ := hQ2
  have N2 : Fr n0 L2 := by rw [l2]; exact Fr.app N0 N2q
  try clear l2
  refine own_st st2 ?_
  show own_Gl p e below _ (T2.setTop (mkF m 18 #[.val (.int (0 : Int32)), .val (.ref t), .val (.int (1 : Int32)), .unset, .unset, .unset, .unset, .unset, .unset] [(.int (1 : Int32))]))
  try clear st2
  try clear N2q
  refine own_st (fun tg_ kg_ => XS.ifYes X2.here hx rfl (pc0 := 18) (pc' := 29) rfl (hb hby own_d_jdk_42_method_46_code_18) rfl ((if0 _ _).trans (feq ((by decide : ¬ ((1 : Int32) = (0 : Int32))))).2) (by decide) (by decide) kg_) ?_
  show own_Gl p e below _ (T2.setTop (mkF m 29 #[.val (.int (0 : Int32)), .val (.ref t), .val (.int (1 : Int32)), .unset, .unset, .unset, .unset, .unset, .unset] []))
  refine own_st (fun tg_ kg_ => XS.iconst X2.here hx rfl (hb hby own_d_jdk_42_method_46_code_29) kg_) ?_
  show own_Gl p e below _ (T2.setTop (mkF m 30 #[.val (.int (0 : Int32)), .val (.ref t), .val (.int (1 : Int32)), .unset, .unset, .unset, .unset, .unset, .unset] [(.int (0 : Int32))]))
  refine own_st (fun tg_ kg_ => XS.istoreN X2.here hx rfl (hb hby own_d_jdk_42_method_46_code_30) rfl (l' := #[.val (.int (0 : Int32)), .val (.ref t), .val (.int (1 : Int32)), .val (.int (0 : Int32)), .unset, .unset, .unset, .unset, .unset]) rfl kg_) ?_
  show own_Gl p e below _ (T2.setTop (mkF m 31 #[.val (.int (0 : Int32)), .val (.ref t), .val (.int (1 : Int32)), .val (.int (0 : Int32)), .unset, .unset, .unset, .unset, .unset] []))
  refine own_st (fun tg_ kg_ => XS.aloadN X2.here hx rfl (hb hby own_d_jdk_42_method_46_code_31) rfl rfl kg_) ?_
  show own_Gl p e below _ (T2.setTop (mkF m 32 #[.val (.int (0 : Int32)), .val (.ref t), .val (.int (1 : Int32)), .val (.int (0 : Int32)), .unset, .unset, .unset, .unset, .unset] [(.ref t)]))
  obtain ⟨cl3, Ar3, qa3, Sa3, Na3, Ha3, Ga3⟩ := id V_t
  refine own_st (fun tg_ kg_ => X2.arraylength hx (by rw [e2]; exact Ar3.1) (State.isArrayOf_alike hZ.alike Ar3.2.1) (g := (mkF m 32 #[.val (.int (0 : Int32)), .val (.ref t), .val (.int (1 : Int32)), .val (.int (0 : Int32)), .unset, .unset, .unset, .unset, .unset] [(.ref t)])) rfl rfl (hb hby own_d_jdk_42_method_46_code_32) _ kg_) ?_
  rw [len_of Sa3 Na3]
  show own_Gl p e below _ (T2.setTop (mkF m 33 #[.val (.int (0 : Int32)), .val (.ref t), .val (.int (1 : Int32)), .val (.int (0 : Int32)), .unset, .unset, .unset, .unset, .unset] [(.int (24 : Int32))]))
  obtain ⟨_, _, ⟨T4, L4, k4, n4⟩, -, X4, ⟨Lc4, hQ4, l4, y4, z4⟩, st4⟩ := Jvm.LawKit.callS X2 hx (y := (⟨"java/lang/StringUTF16", "newBytesFor", "(I)[B"⟩ : MethodName)) hown (mvT hZ (hw _ (List.mem_of_getElem? (i := 70) rfl))) (mvT hZ (hw _ (List.mem_of_getElem? (i := 71) rfl))) (mvT hZ (hw _ (List.mem_of_getElem? (i := 26) rfl))) (mvT hZ (hw _ (List.mem_of_getElem? (i := 72) rfl))) (by decide) (backOf (W := 0) (own_rm_nbf l Z a0 hw [] h0 n0 Z0) hZ (hw _ (List.mem_of_getElem? (i := 72) rfl)) (hw _ (List.mem_of_getElem? (i := 26) rfl)) (by decide) (by decide)) (g := (mkF m 33 #[.val (.int (0 : Int32)), .val (.ref t), .val (.int (1 : Int32)), .val (.int (0 : Int32)), .unset, .unset, .unset, .unset, .unset] [(.int (24 : Int32))])) rfl (by rw [hml]; rfl) (argsL := [(.int (24 : Int32))]) (rest := []) (lenOf own_pd4 rfl) rfl (by show 2 * 0 + _ ≤ _; exact Nat.le_of_eq rfl) (hb hby own_d_jdk_42_method_46_code_33) (fun _ _ => ⟨rfl, e2, (by decide : 0 + 1 ≤ _), (by decide : 0 + 48 ≤ _)⟩)
  dsimp only [Pt.U, Pt.locs, Pt.cells, Pt.slots] at X4 l4 y4 z4 st4 hQ4
  obtain rfl : k4 = 1 := y4
  obtain rfl : n4 = 48 := z4
  obtain ⟨⟨d, kd, rfl, szc4, V_d, E_d⟩, N4q, Kc4⟩ := hQ4
  have N4 : Fr n0 L4 := by rw [l4]; exact Fr.app N2 N4q
  try clear l4
  refine own_st st4 ?_
  have ne_t_d : t ≠ d := Nat.ne_of_lt (Nat.lt_of_lt_of_le V_t.lt szc4)
  have sz_d : h0.size ≤ d := szc4
  have g_d : n0 ≤ d := Nat.le_trans Z0 sz_d
  show own_Gl p e below _ (T4.setTop (mkF m 36 #[.val (.int (0 : Int32)), .val (.ref t), .val (.int (1 : Int32)), .val (.int (0 : Int32)), .unset, .unset, .unset, .unset, .unset] [(.ref d)]))
  try clear st4
  try clear N4q
  try clear N2
  try clear e2
  try clear X2
  try clear T2
  refine own_st (fun tg_ kg_ => XS.astore X4.here hx rfl (hb hby own_d_jdk_42_method_46_code_36) rfl rfl (l' := #[.val (.int (0 : Int32)), .val (.ref t), .val (.int (1 : Int32)), .val (.int (0 : Int32)), .val (.ref d), .unset, .unset, .unset, .unset]) rfl kg_) ?_
  show own_Gl p e below _ (T4.setTop (mkF m 38 #[.val (.int (0 : Int32)), .val (.ref t), .val (.int (1 : Int32)), .val (.int (0 : Int32)), .val (.ref d), .unset, .unset, .unset, .unset] []))
  refine own_st (fun tg_ kg_ => XS.aloadN X4.here hx rfl (hb hby own_d_jdk_42_method_46_code_38) rfl rfl kg_) ?_
  show own_Gl p e below _ (T4.setTop (mkF m 39 #[.val (.int (0 : Int32)), .val (.ref t), .val (.int (1 : Int32)), .val (.int (0 : Int32)), .val (.ref d), .unset, .unset, .unset, .unset] [(.ref t)]))
  refine own_st (fun tg_ kg_ => XS.astore X4.here hx rfl (hb hby own_d_jdk_42_method_46_code_39) rfl rfl (l' := #[.val (.int (0 : Int32)), .val (.ref t), .val (.int (1 : Int32)), .val (.int (0 : Int32)), .val (.ref d), .val (.ref t), .unset, .unset, .unset]) rfl kg_) ?_
  show own_Gl p e below _ (T4.setTop (mkF m 41 #[.val (.int (0 : Int32)), .val (.ref t), .val (.int (1 : Int32)), .val (.int (0 : Int32)), .val (.ref d), .val (.ref t), .unset, .unset, .unset] []))
  refine own_st (fun tg_ kg_ => XS.aload X4.here hx rfl (hb hby own_d_jdk_42_method_46_code_41) rfl rfl kg_) ?_
  show own_Gl p e below _ (T4.setTop (mkF m 43 #[.val (.int (0 : Int32)), .val (.ref t), .val (.int (1 : Int32)), .val (.int (0 : Int32)), .val (.ref d), .val (.ref t), .unset, .unset, .unset] [(.ref t)]))
  obtain ⟨cl6, Ar6, qa6, Sa6, Na6, Ha6, Ga6⟩ := id (V_t.ext Kc4)
  refine own_st (fun tg_ kg_ => X4.arraylength hx Ar6.1 (State.isArrayOf_alike hZ.alike Ar6.2.1) (g := (mkF m 43 #[.val (.int (0 : Int32)), .val (.ref t), .val (.int (1 : Int32)), .val (.int (0 : Int32)), .val (.ref d), .val (.ref t), .unset, .unset, .unset] [(.ref t)])) rfl rfl (hb hby own_d_jdk_42_method_46_code_43) _ kg_) ?_
  rw [len_of Sa6 Na6]
  show own_Gl p e below _ (T4.setTop (mkF m 44 #[.val (.int (0 : Int32)), .val (.ref t), .val (.int (1 : Int32)), .val (.int (0 : Int32)), .val (.ref d), .val (.ref t), .unset, .unset, .unset] [(.int (24 : Int32))]))
  refine own_st (fun tg_ kg_ => XS.istore X4.here hx rfl (hb hby own_d_jdk_42_method_46_code_44) rfl (l' := #[.val (.int (0 : Int32)), .val (.ref t), .val (.int (1 : Int32)), .val (.int (0 : Int32)), .val (.ref d), .val (.ref t), .val (.int (24 : Int32)), .unset, .unset]) rfl kg_) ?_
  show own_Gl p e below _ (T4.setTop (mkF m 46 #[.val (.int (0 : Int32)), .val (.ref t), .val (.int (1 : Int32)), .val (.int (0 : Int32)), .val (.ref d), .val (.ref t), .val (.int (24 : Int32)), .unset, .unset] []))
  refine own_st (fun tg_ kg_ => XS.iconst X4.here hx rfl (hb hby own_d_jdk_42_method_46_code_46) kg_) ?_
  show own_Gl p e below _ (T4.setTop (mkF m 47 #[.val (.int (0 : Int32)), .val (.ref t), .val (.int (1 : Int32)), .val (.int (0 : Int32)), .val (.ref d), .val (.ref t), .val (.int (24 : Int32)), .unset, .unset] [(.int (0 : Int32))]))
  refine own_st (fun tg_ kg_ => XS.istore X4.here hx rfl (hb hby own_d_jdk_42_method_46_code_47) rfl (l' := #[.val (.int (0 : Int32)), .val (.ref t), .val (.int (1 : Int32)), .val (.int (0 : Int32)), .val (.ref d), .val (.ref t), .val (.int (24 : Int32)), .val (.int (0 : Int32)), .unset]) rfl kg_) ?_
  show own_Gl p e below _ (T4.setTop (mkF m 49 #[.val (.int (0 : Int32)), .val (.ref t), .val (.int (1 : Int32)), .val (.int (0 : Int32)), .val (.ref d), .val (.ref t), .val (.int (24 : Int32)), .val (.int (0 : Int32)), .unset] []))
  have loop : ∀ (r i : Nat), i + r = 24 → ∀ (T : State) (H : Heap) (L : List Loc) (z : Slot), Stand p l e ({ frames := 2, cells := 2, slots := 96, locals := 74 } : Room) s m #[(.int (0 : Int32)), (.ref t), (.int (1 : Int32))] below meth c T L 1 48 → T.heap = H → Fr n0 L → Ext h0 H → Arv Z H d kd .byte (48 : Int32) ((own_enc (bs.take i)).map Value.int) (.int 0) → Exa Z H d "[B" → One z → own_Gl p e below (own_Post s (own_Q_eu8 Z t kt bs h0 n0) ({ frames := 2, cells := 2, slots := 96, locals := 74 } : Room).cells ({ frames := 2, cells := 2, slots := 96, locals := 74 } : Room).slots) (T.setTop (mkF m 49 #[.val (.int (0 : Int32)), .val (.ref t), .val (.int (1 : Int32)), .val (.int (Int32.ofNat (own_enc (bs.take i)).length)), .val (.ref d), .val (.ref t), .val (.int (24 : Int32)), .val (.int (Int32.ofNat i)), z] [])) := by
    intro r
    induction r with
    | zero =>
      intro i hi T H L z Xl el Nl Kl V_d E_d hz
      obtain rfl : i = 24 := by omega
      have ht : bs.take 24 = bs := List.take_of_length_le (by omega)
      rw [ht] at V_d ⊢
      show own_Gl p e below _ (T.setTop (mkF m 49 #[.val (.int (0 : Int32)), .val (.ref t), .val (.int (1 : Int32)), .val (.int (Int32.ofNat (own_enc bs).length)), .val (.ref d), .val (.ref t), .val (.int (24 : Int32)), .val (.int (Int32.ofNat 24)), z] []))
      refine own_st (fun tg_ kg_ => XS.iload Xl.here hx rfl (hb hby own_d_jdk_42_method_46_code_49) rfl kg_) ?_
      show own_Gl p e below _ (T.setTop (mkF m 51 #[.val (.int (0 : Int32)), .val (.ref t), .val (.int (1 : Int32)), .val (.int (Int32.ofNat (own_enc bs).length)), .val (.ref d), .val (.ref t), .val (.int (24 : Int32)), .val (.int (Int32.ofNat 24)), z] [(.int (Int32.ofNat 24))]))
      refine own_st (fun tg_ kg_ => XS.iload Xl.here hx rfl (hb hby own_d_jdk_42_method_46_code_51) rfl kg_) ?_
      show own_Gl p e below _ (T.setTop (mkF m 53 #[.val (.int (0 : Int32)), .val (.ref t), .val (.int (1 : Int32)), .val (.int (Int32.ofNat (own_enc bs).length)), .val (.ref d), .val (.ref t), .val (.int (24 : Int32)), .val (.int (Int32.ofNat 24)), z] [(.int (24 : Int32)), (.int (Int32.ofNat 24))]))
      refine own_st (fun tg_ kg_ => XS.icmpYes Xl.here hx rfl (pc0 := 53) (pc' := 124) rfl (hb hby own_d_jdk_42_method_46_code_53) rfl (flt (by decide)).2.1 (by decide) (by decide) kg_) ?_
      show own_Gl p e below _ (T.setTop (mkF m 124 #[.val (.int (0 : Int32)), .val (.ref t), .val (.int (1 : Int32)), .val (.int (Int32.ofNat (own_enc bs).length)), .val (.ref d), .val (.ref t), .val (.int (24 : Int32)), .val (.int (Int32.ofNat 24)), z] []))
      refine own_st (fun tg_ kg_ => XS.iloadN Xl.here hx rfl (hb hby own_d_jdk_42_method_46_code_124) rfl kg_) ?_
      show own_Gl p e below _ (T.setTop (mkF m 125 #[.val (.int (0 : Int32)), .val (.ref t), .val (.int (1 : Int32)), .val (.int (Int32.ofNat (own_enc bs).length)), .val (.ref d), .val (.ref t), .val (.int (24 : Int32)), .val (.int (Int32.ofNat 24)), z] [(.int (Int32.ofNat (own_enc bs).length))]))
      refine own_st (fun tg_ kg_ => XS.aload Xl.here hx rfl (hb hby own_d_jdk_42_method_46_code_125) rfl rfl kg_) ?_
      show own_Gl p e below _ (T.setTop (mkF m 127 #[.val (.int (0 : Int32)), .val (.ref t), .val (.int (1 : Int32)), .val (.int (Int32.ofNat (own_enc bs).length)), .val (.ref d), .val (.ref t), .val (.int (24 : Int32)), .val (.int (Int32.ofNat 24)), z] [(.ref d), (.int (Int32.ofNat (own_enc bs).length))]))
      obtain ⟨cl7, Ar7, qa7, Sa7, Na7, Ha7, Ga7⟩ := id V_d
      refine own_st (fun tg_ kg_ => Xl.arraylength hx (by rw [el]; exact Ar7.1) (State.isArrayOf_alike hZ.alike Ar7.2.1) (g := (mkF m 127 #[.val (.int (0 : Int32)), .val (.ref t), .val (.int (1 : Int32)), .val (.int (Int32.ofNat (own_enc bs).length)), .val (.ref d), .val (.ref t), .val (.int (24 : Int32)), .val (.int (Int32.ofNat 24)), z] [(.ref d), (.int (Int32.ofNat (own_enc bs).length))])) rfl rfl (hb hby own_d_jdk_42_method_46_code_127) _ kg_) ?_
      rw [len_of Sa7 Na7]
      show own_Gl p e below _ (T.setTop (mkF m 128 #[.val (.int (0 : Int32)), .val (.ref t), .val (.int (1 : Int32)), .val (.int (Int32.ofNat (own_enc bs).length)), .val (.ref d), .val (.ref t), .val (.int (24 : Int32)), .val (.int (Int32.ofNat 24)), z] [(.int (48 : Int32)), (.int (Int32.ofNat (own_enc bs).length))]))
      by_cases hc128_8 : (Int32.ofNat (own_enc bs).length) = (48 : Int32)
      ·
        show own_Gl p e below _ (T.setTop (mkF m 128 #[.val (.int (0 : Int32)), .val (.ref t), .val (.int (1 : Int32)), .val (.int (Int32.ofNat (own_enc bs).length)), .val (.ref d), .val (.ref t), .val (.int (24 : Int32)), .val (.int (Int32.ofNat 24)), z] [(.int (48 : Int32)), (.int (Int32.ofNat (own_enc bs).length))]))
        refine own_st (fun tg_ kg_ => XS.icmpNo Xl.here hx rfl (hb hby own_d_jdk_42_method_46_code_128) rfl (teq (hc128_8)).2 kg_) ?_
        show own_Gl p e below _ (T.setTop (mkF m 131 #[.val (.int (0 : Int32)), .val (.ref t), .val (.int (1 : Int32)), .val (.int (Int32.ofNat (own_enc bs).length)), .val (.ref d), .val (.ref t), .val (.int (24 : Int32)), .val (.int (Int32.ofNat 24)), z] []))
        refine own_st (fun tg_ kg_ => XS.aload Xl.here hx rfl (hb hby own_d_jdk_42_method_46_code_131) rfl rfl kg_) ?_
        show own_Gl p e below _ (T.setTop (mkF m 133 #[.val (.int (0 : Int32)), .val (.ref t), .val (.int (1 : Int32)), .val (.int (Int32.ofNat (own_enc bs).length)), .val (.ref d), .val (.ref t), .val (.int (24 : Int32)), .val (.int (Int32.ofNat 24)), z] [(.ref d)]))
        exact own_retA Xl hx Bd.notSynchronized Bd.returns rfl rfl (hb hby own_d_jdk_42_method_46_code_133) (by decide) (by decide) el (⟨⟨_, _, rfl, sz_d, by rw [hc128_8]; exact V_d, E_d⟩, Nl, Kl⟩)
      ·
        show own_Gl p e below _ (T.setTop (mkF m 128 #[.val (.int (0 : Int32)), .val (.ref t), .val (.int (1 : Int32)), .val (.int (Int32.ofNat (own_enc bs).length)), .val (.ref d), .val (.ref t), .val (.int (24 : Int32)), .val (.int (Int32.ofNat 24)), z] [(.int (48 : Int32)), (.int (Int32.ofNat (own_enc bs).length))]))
        refine own_st (fun tg_ kg_ => XS.icmpYes Xl.here hx rfl (pc0 := 128) (pc' := 134) rfl (hb hby own_d_jdk_42_method_46_code_128) rfl (feq (hc128_8)).2 (by decide) (by decide) kg_) ?_
        show own_Gl p e below _ (T.setTop (mkF m 134 #[.val (.int (0 : Int32)), .val (.ref t), .val (.int (1 : Int32)), .val (.int (Int32.ofNat (own_enc bs).length)), .val (.ref d), .val (.ref t), .val (.int (24 : Int32)), .val (.int (Int32.ofNat 24)), z] []))
        refine own_st (fun tg_ kg_ => XS.aload Xl.here hx rfl (hb hby own_d_jdk_42_method_46_code_134) rfl rfl kg_) ?_
        show own_Gl p e below _ (T.setTop (mkF m 136 #[.val (.int (0 : Int32)), .val (.ref t), .val (.int (1 : Int32)), .val (.int (Int32.ofNat (own_enc bs).length)), .val (.ref d), .val (.ref t), .val (.int (24 : Int32)), .val (.int (Int32.ofNat 24)), z] [(.ref d)]))
        refine own_st (fun tg_ kg_ => XS.iloadN Xl.here hx rfl (hb hby own_d_jdk_42_method_46_code_136) rfl kg_) ?_
        show own_Gl p e below _ (T.setTop (mkF m 137 #[.val (.int (0 : Int32)), .val (.ref t), .val (.int (1 : Int32)), .val (.int (Int32.ofNat (own_enc bs).length)), .val (.ref d), .val (.ref t), .val (.int (24 : Int32)), .val (.int (Int32.ofNat 24)), z] [(.int (Int32.ofNat (own_enc bs).length)), (.ref d)]))
        obtain ⟨_, _, ⟨T9, L9, k9, n9⟩, -, X9, ⟨Lc9, hQ9, l9, y9, z9⟩, st9⟩ := Jvm.LawKit.callS Xl hx (y := (⟨"java/util/Arrays", "copyOf", "([BI)[B"⟩ : MethodName)) hown (mvT hZ (hw _ (List.mem_of_getElem? (i := 77) rfl))) (mvT hZ (hw _ (List.mem_of_getElem? (i := 78) rfl))) (mvT hZ (hw _ (List.mem_of_getElem? (i := 79) rfl))) (mvT hZ (hw _ (List.mem_of_getElem? (i := 80) rfl))) (by decide) (backOf (W := 0) (own_rm_cpy l Z a0 hw [] d kd (own_enc bs) H n0 (Nat.le_trans Z0 Kl.1) V_d (by have := own_enc_len bs; omega) hc128_8) hZ (hw _ (List.mem_of_getElem? (i := 80) rfl)) (hw _ (List.mem_of_getElem? (i := 79) rfl)) (by decide) (by decide)) (g := (mkF m 137 #[.val (.int (0 : Int32)), .val (.ref t), .val (.int (1 : Int32)), .val (.int (Int32.ofNat (own_enc bs).length)), .val (.ref d), .val (.ref t), .val (.int (24 : Int32)), .val (.int (Int32.ofNat 24)), z] [(.int (Int32.ofNat (own_enc bs).length)), (.ref d)])) rfl (by rw [hml]; rfl) (argsL := [(.ref d), (.int (Int32.ofNat (own_enc bs).length))]) (rest := []) (lenOf own_pd5 rfl) rfl (by show 2 * 0 + _ ≤ _; exact Nat.le_of_eq rfl) (hb hby own_d_jdk_42_method_46_code_137) (fun _ _ => ⟨rfl, el, (by decide : 1 + 1 ≤ _), (by decide : 48 + 48 ≤ _)⟩)
        dsimp only [Pt.U, Pt.locs, Pt.cells, Pt.slots] at X9 l9 y9 z9 st9 hQ9
        obtain rfl : k9 = 2 := y9
        obtain rfl : n9 = 96 := z9
        obtain ⟨⟨w, kw, rfl, szc9, V_w, E_w⟩, N9q, Kc9⟩ := hQ9
        have N9 : Fr n0 L9 := by rw [l9]; exact Fr.app Nl N9q
        try clear l9
        refine own_st st9 ?_
        have ne_t_w : t ≠ w := Nat.ne_of_lt (Nat.lt_of_lt_of_le (V_t.ext Kl).lt szc9)
        have ne_d_w : d ≠ w := Nat.ne_of_lt (Nat.lt_of_lt_of_le V_d.lt szc9)
        have sz_w : h0.size ≤ w := Nat.le_trans Kl.1 szc9
        have g_w : n0 ≤ w := Nat.le_trans Z0 sz_w
        replace V_d := V_d.ext Kc9
        replace E_d := E_d.ext Kc9
        have K10 := own_ext_tr Kl Kc9
        try clear Kc9
        try clear Kl
        show own_Gl p e below _ (T9.setTop (mkF m 140 #[.val (.int (0 : Int32)), .val (.ref t), .val (.int (1 : Int32)), .val (.int (Int32.ofNat (own_enc bs).length)), .val (.ref d), .val (.ref t), .val (.int (24 : Int32)), .val (.int (Int32.ofNat 24)), z] [(.ref w)]))
        try clear st9
        try clear N9q
        try clear Nl
        try clear el
        try clear Xl
        try clear T
        exact own_retA X9 hx Bd.notSynchronized Bd.returns rfl rfl (hb hby own_d_jdk_42_method_46_code_140) (by decide) (by decide) rfl (⟨⟨_, _, rfl, sz_w, V_w, E_w⟩, N9, K10⟩)
    | succ r ih =>
      intro i hi T H L z Xl el Nl Kl V_d E_d hz
      show own_Gl p e below _ (T.setTop (mkF m 49 #[.val (.int (0 : Int32)), .val (.ref t), .val (.int (1 : Int32)), .val (.int (Int32.ofNat (own_enc (bs.take i)).length)), .val (.ref d), .val (.ref t), .val (.int (24 : Int32)), .val (.int (Int32.ofNat i)), z] []))
      have hi24 : i < 24 := by omega
      have hpl : (own_enc (bs.take i)).length + 2 ≤ 48 := by
        have q1 := own_enc_len (bs.take i)
        have q2 : (bs.take i).length ≤ i := by simp [Nat.min_le_left]
        omega
      have hlt : Int32.ofNat i < (24 : Int32) := (own_ofn_lt (a := i) (b := 24) (by omega) (by decide)).mpr hi24
      have hfb : fits .byte (.int (bs.getD i 0)) = true := by
        obtain ⟨cc, Ac, -, Sc, Nc, Hc, Gc⟩ := id V_t
        have q := Gc i (by rw [Sc]; exact hi24)
        rwa [own_getm] at q
      refine own_st (fun tg_ kg_ => XS.iload Xl.here hx rfl (hb hby own_d_jdk_42_method_46_code_49) rfl kg_) ?_
      show own_Gl p e below _ (T.setTop (mkF m 51 #[.val (.int (0 : Int32)), .val (.ref t), .val (.int (1 : Int32)), .val (.int (Int32.ofNat (own_enc (bs.take i)).length)), .val (.ref d), .val (.ref t), .val (.int (24 : Int32)), .val (.int (Int32.ofNat i)), z] [(.int (Int32.ofNat i))]))
      refine own_st (fun tg_ kg_ => XS.iload Xl.here hx rfl (hb hby own_d_jdk_42_method_46_code_51) rfl kg_) ?_
      show own_Gl p e below _ (T.setTop (mkF m 53 #[.val (.int (0 : Int32)), .val (.ref t), .val (.int (1 : Int32)), .val (.int (Int32.ofNat (own_enc (bs.take i)).length)), .val (.ref d), .val (.ref t), .val (.int (24 : Int32)), .val (.int (Int32.ofNat i)), z] [(.int (24 : Int32)), (.int (Int32.ofNat i))]))
      refine own_st (fun tg_ kg_ => XS.icmpNo Xl.here hx rfl (hb hby own_d_jdk_42_method_46_code_53) rfl (tlt (hlt)).2.1 kg_) ?_
      show own_Gl p e below _ (T.setTop (mkF m 56 #[.val (.int (0 : Int32)), .val (.ref t), .val (.int (1 : Int32)), .val (.int (Int32.ofNat (own_enc (bs.take i)).length)), .val (.ref d), .val (.ref t), .val (.int (24 : Int32)), .val (.int (Int32.ofNat i)), z] []))
      refine own_st (fun tg_ kg_ => XS.aload Xl.here hx rfl (hb hby own_d_jdk_42_method_46_code_56) rfl rfl kg_) ?_
      show own_Gl p e below _ (T.setTop (mkF m 58 #[.val (.int (0 : Int32)), .val (.ref t), .val (.int (1 : Int32)), .val (.int (Int32.ofNat (own_enc (bs.take i)).length)), .val (.ref d), .val (.ref t), .val (.int (24 : Int32)), .val (.int (Int32.ofNat i)), z] [(.ref t)]))
      refine own_st (fun tg_ kg_ => XS.iload Xl.here hx rfl (hb hby own_d_jdk_42_method_46_code_58) rfl kg_) ?_
      show own_Gl p e below _ (T.setTop (mkF m 60 #[.val (.int (0 : Int32)), .val (.ref t), .val (.int (1 : Int32)), .val (.int (Int32.ofNat (own_enc (bs.take i)).length)), .val (.ref d), .val (.ref t), .val (.int (24 : Int32)), .val (.int (Int32.ofNat i)), z] [(.int (Int32.ofNat i)), (.ref t)]))
      obtain ⟨cl11, Ar11, qa11, Sa11, Na11, Ha11, Ga11⟩ := id (V_t.ext Kl)
      have hin12 : ¬ ((Int32.ofNat i) < 0 ∨ cl11.slots.size ≤ ((Int32.ofNat i)).toNatClampNeg) := inb_of Sa11 ⟨own_ofn_nn (by omega), hlt⟩
      have hat12 : cl11.slots[((Int32.ofNat i)).toNatClampNeg]? = some (.int (bs.getD i 0)) := Has.at Ha11 hin12 (by rw [own_ofn_clamp (by omega)]; exact own_getm bs i)
      refine own_st (fun tg_ kg_ => Xl.baloadBytes hx (j := (Int32.ofNat i)) (v := (.int (bs.getD i 0))) (by rw [el]; exact Ar11.1) (State.isArrayOf_alike hZ.alike Ar11.2.1) Ar11.2.2 hin12 hat12 (g := (mkF m 60 #[.val (.int (0 : Int32)), .val (.ref t), .val (.int (1 : Int32)), .val (.int (Int32.ofNat (own_enc (bs.take i)).length)), .val (.ref d), .val (.ref t), .val (.int (24 : Int32)), .val (.int (Int32.ofNat i)), z] [(.int (Int32.ofNat i)), (.ref t)])) rfl rfl (hb hby own_d_jdk_42_method_46_code_60) _ kg_) ?_
      show own_Gl p e below _ (T.setTop (mkF m 61 #[.val (.int (0 : Int32)), .val (.ref t), .val (.int (1 : Int32)), .val (.int (Int32.ofNat (own_enc (bs.take i)).length)), .val (.ref d), .val (.ref t), .val (.int (24 : Int32)), .val (.int (Int32.ofNat i)), z] [(.int (bs.getD i 0))]))
      refine own_st (fun tg_ kg_ => XS.istoreS Xl.here hx rfl (hb hby own_d_jdk_42_method_46_code_61) rfl rfl hz kg_) ?_
      show own_Gl p e below _ (T.setTop (mkF m 63 #[.val (.int (0 : Int32)), .val (.ref t), .val (.int (1 : Int32)), .val (.int (Int32.ofNat (own_enc (bs.take i)).length)), .val (.ref d), .val (.ref t), .val (.int (24 : Int32)), .val (.int (Int32.ofNat i)), .val (.int (bs.getD i 0))] []))
      refine own_st (fun tg_ kg_ => XS.iload Xl.here hx rfl (hb hby own_d_jdk_42_method_46_code_63) rfl kg_) ?_
      show own_Gl p e below _ (T.setTop (mkF m 65 #[.val (.int (0 : Int32)), .val (.ref t), .val (.int (1 : Int32)), .val (.int (Int32.ofNat (own_enc (bs.take i)).length)), .val (.ref d), .val (.ref t), .val (.int (24 : Int32)), .val (.int (Int32.ofNat i)), .val (.int (bs.getD i 0))] [(.int (bs.getD i 0))]))
      by_cases hng : (bs.getD i 0) < (0 : Int32)
      ·
        show own_Gl p e below _ (T.setTop (mkF m 65 #[.val (.int (0 : Int32)), .val (.ref t), .val (.int (1 : Int32)), .val (.int (Int32.ofNat (own_enc (bs.take i)).length)), .val (.ref d), .val (.ref t), .val (.int (24 : Int32)), .val (.int (Int32.ofNat i)), .val (.int (bs.getD i 0))] [(.int (bs.getD i 0))]))
        refine own_st (fun tg_ kg_ => XS.ifNo Xl.here hx rfl (hb hby own_d_jdk_42_method_46_code_65) rfl ((if0 _ _).trans (tlt (hng)).2.1) kg_) ?_
        show own_Gl p e below _ (T.setTop (mkF m 68 #[.val (.int (0 : Int32)), .val (.ref t), .val (.int (1 : Int32)), .val (.int (Int32.ofNat (own_enc (bs.take i)).length)), .val (.ref d), .val (.ref t), .val (.int (24 : Int32)), .val (.int (Int32.ofNat i)), .val (.int (bs.getD i 0))] []))
        refine own_st (fun tg_ kg_ => XS.aload Xl.here hx rfl (hb hby own_d_jdk_42_method_46_code_68) rfl rfl kg_) ?_
        show own_Gl p e below _ (T.setTop (mkF m 70 #[.val (.int (0 : Int32)), .val (.ref t), .val (.int (1 : Int32)), .val (.int (Int32.ofNat (own_enc (bs.take i)).length)), .val (.ref d), .val (.ref t), .val (.int (24 : Int32)), .val (.int (Int32.ofNat i)), .val (.int (bs.getD i 0))] [(.ref d)]))
        refine own_st (fun tg_ kg_ => XS.iloadN Xl.here hx rfl (hb hby own_d_jdk_42_method_46_code_70) rfl kg_) ?_
        show own_Gl p e below _ (T.setTop (mkF m 71 #[.val (.int (0 : Int32)), .val (.ref t), .val (.int (1 : Int32)), .val (.int (Int32.ofNat (own_enc (bs.take i)).length)), .val (.ref d), .val (.ref t), .val (.int (24 : Int32)), .val (.int (Int32.ofNat i)), .val (.int (bs.getD i 0))] [(.int (Int32.ofNat (own_enc (bs.take i)).length)), (.ref d)]))
        refine own_st (fun tg_ kg_ => XS.iinc Xl.here hx rfl (hb hby own_d_jdk_42_method_46_code_71) rfl (l' := #[.val (.int (0 : Int32)), .val (.ref t), .val (.int (1 : Int32)), .val (.int ((Int32.ofNat (own_enc (bs.take i)).length) + (1 : Int32))), .val (.ref d), .val (.ref t), .val (.int (24 : Int32)), .val (.int (Int32.ofNat i)), .val (.int (bs.getD i 0))]) rfl kg_) ?_
        show own_Gl p e below _ (T.setTop (mkF m 74 #[.val (.int (0 : Int32)), .val (.ref t), .val (.int (1 : Int32)), .val (.int ((Int32.ofNat (own_enc (bs.take i)).length) + (1 : Int32))), .val (.ref d), .val (.ref t), .val (.int (24 : Int32)), .val (.int (Int32.ofNat i)), .val (.int (bs.getD i 0))] [(.int (Int32.ofNat (own_enc (bs.take i)).length)), (.ref d)]))
        refine own_st (fun tg_ kg_ => XS.sipush Xl.here hx rfl (hb hby own_d_jdk_42_method_46_code_74) kg_) ?_
        show own_Gl p e below _ (T.setTop (mkF m 77 #[.val (.int (0 : Int32)), .val (.ref t), .val (.int (1 : Int32)), .val (.int ((Int32.ofNat (own_enc (bs.take i)).length) + (1 : Int32))), .val (.ref d), .val (.ref t), .val (.int (24 : Int32)), .val (.int (Int32.ofNat i)), .val (.int (bs.getD i 0))] [(.int (192 : Int32)), (.int (Int32.ofNat (own_enc (bs.take i)).length)), (.ref d)]))
        refine own_st (fun tg_ kg_ => XS.iload Xl.here hx rfl (hb hby own_d_jdk_42_method_46_code_77) rfl kg_) ?_
        show own_Gl p e below _ (T.setTop (mkF m 79 #[.val (.int (0 : Int32)), .val (.ref t), .val (.int (1 : Int32)), .val (.int ((Int32.ofNat (own_enc (bs.take i)).length) + (1 : Int32))), .val (.ref d), .val (.ref t), .val (.int (24 : Int32)), .val (.int (Int32.ofNat i)), .val (.int (bs.getD i 0))] [(.int (bs.getD i 0)), (.int (192 : Int32)), (.int (Int32.ofNat (own_enc (bs.take i)).length)), (.ref d)]))
        refine own_st (fun tg_ kg_ => XS.sipush Xl.here hx rfl (hb hby own_d_jdk_42_method_46_code_79) kg_) ?_
        show own_Gl p e below _ (T.setTop (mkF m 82 #[.val (.int (0 : Int32)), .val (.ref t), .val (.int (1 : Int32)), .val (.int ((Int32.ofNat (own_enc (bs.take i)).length) + (1 : Int32))), .val (.ref d), .val (.ref t), .val (.int (24 : Int32)), .val (.int (Int32.ofNat i)), .val (.int (bs.getD i 0))] [(.int (255 : Int32)), (.int (bs.getD i 0)), (.int (192 : Int32)), (.int (Int32.ofNat (own_enc (bs.take i)).length)), (.ref d)]))
        refine own_st (fun tg_ kg_ => XS.iand Xl.here hx rfl (hb hby own_d_jdk_42_method_46_code_82) rfl kg_) ?_
        show own_Gl p e below _ (T.setTop (mkF m 83 #[.val (.int (0 : Int32)), .val (.ref t), .val (.int (1 : Int32)), .val (.int ((Int32.ofNat (own_enc (bs.take i)).length) + (1 : Int32))), .val (.ref d), .val (.ref t), .val (.int (24 : Int32)), .val (.int (Int32.ofNat i)), .val (.int (bs.getD i 0))] [(.int ((bs.getD i 0) &&& (255 : Int32))), (.int (192 : Int32)), (.int (Int32.ofNat (own_enc (bs.take i)).length)), (.ref d)]))
        refine own_st (fun tg_ kg_ => XS.bipush Xl.here hx rfl (hb hby own_d_jdk_42_method_46_code_83) kg_) ?_
        show own_Gl p e below _ (T.setTop (mkF m 85 #[.val (.int (0 : Int32)), .val (.ref t), .val (.int (1 : Int32)), .val (.int ((Int32.ofNat (own_enc (bs.take i)).length) + (1 : Int32))), .val (.ref d), .val (.ref t), .val (.int (24 : Int32)), .val (.int (Int32.ofNat i)), .val (.int (bs.getD i 0))] [(.int (6 : Int32)), (.int ((bs.getD i 0) &&& (255 : Int32))), (.int (192 : Int32)), (.int (Int32.ofNat (own_enc (bs.take i)).length)), (.ref d)]))
        refine own_st (fun tg_ kg_ => XS.ishr Xl.here hx rfl (hb hby own_d_jdk_42_method_46_code_85) rfl kg_) ?_
        show own_Gl p e below _ (T.setTop (mkF m 86 #[.val (.int (0 : Int32)), .val (.ref t), .val (.int (1 : Int32)), .val (.int ((Int32.ofNat (own_enc (bs.take i)).length) + (1 : Int32))), .val (.ref d), .val (.ref t), .val (.int (24 : Int32)), .val (.int (Int32.ofNat i)), .val (.int (bs.getD i 0))] [(.int (((bs.getD i 0) &&& (255 : Int32)) >>> ((6 : Int32) &&& 31))), (.int (192 : Int32)), (.int (Int32.ofNat (own_enc (bs.take i)).length)), (.ref d)]))
        refine own_st (fun tg_ kg_ => XS.ior Xl.here hx rfl (hb hby own_d_jdk_42_method_46_code_86) rfl kg_) ?_
        show own_Gl p e below _ (T.setTop (mkF m 87 #[.val (.int (0 : Int32)), .val (.ref t), .val (.int (1 : Int32)), .val (.int ((Int32.ofNat (own_enc (bs.take i)).length) + (1 : Int32))), .val (.ref d), .val (.ref t), .val (.int (24 : Int32)), .val (.int (Int32.ofNat i)), .val (.int (bs.getD i 0))] [(.int ((192 : Int32) ||| (((bs.getD i 0) &&& (255 : Int32)) >>> ((6 : Int32) &&& 31)))), (.int (Int32.ofNat (own_enc (bs.take i)).length)), (.ref d)]))
        refine own_st (fun tg_ kg_ => XS.i2b Xl.here hx rfl (hb hby own_d_jdk_42_method_46_code_87) rfl kg_) ?_
        show own_Gl p e below _ (T.setTop (mkF m 88 #[.val (.int (0 : Int32)), .val (.ref t), .val (.int (1 : Int32)), .val (.int ((Int32.ofNat (own_enc (bs.take i)).length) + (1 : Int32))), .val (.ref d), .val (.ref t), .val (.int (24 : Int32)), .val (.int (Int32.ofNat i)), .val (.int (bs.getD i 0))] [(.int (((192 : Int32) ||| (((bs.getD i 0) &&& (255 : Int32)) >>> ((6 : Int32) &&& 31))).toInt8.toInt32)), (.int (Int32.ofNat (own_enc (bs.take i)).length)), (.ref d)]))
        obtain ⟨cl13, Ar13, qa13, Sa13, Na13, Ha13, Ga13⟩ := own_pad V_d
        have hj13 : (Int32.ofNat (own_enc (bs.take i)).length) = Int32.ofNat (((own_enc (bs.take i)).map Value.int)).length := (by simp)
        have hb13 : (((own_enc (bs.take i)).map Value.int)).length < 48 := (by simp only [List.length_map]; omega)
        have hin13 : ¬ ((Int32.ofNat (own_enc (bs.take i)).length) < 0 ∨ cl13.slots.size ≤ ((Int32.ofNat (own_enc (bs.take i)).length)).toNatClampNeg) := by rw [hj13]; exact inb_of Sa13 ⟨own_ofn_nn (by omega), (own_ofn_lt (b := 48) (by omega) (by decide)).mpr hb13⟩
        obtain ⟨T13, h13, X13, e13, W13, st13⟩ := stB Xl hx hZ el Ar13 (j := (Int32.ofNat (own_enc (bs.take i)).length)) hin13 (g := (mkF m 88 #[.val (.int (0 : Int32)), .val (.ref t), .val (.int (1 : Int32)), .val (.int ((Int32.ofNat (own_enc (bs.take i)).length) + (1 : Int32))), .val (.ref d), .val (.ref t), .val (.int (24 : Int32)), .val (.int (Int32.ofNat i)), .val (.int (bs.getD i 0))] [(.int (((192 : Int32) ||| (((bs.getD i 0) &&& (255 : Int32)) >>> ((6 : Int32) &&& 31))).toInt8.toInt32)), (.int (Int32.ofNat (own_enc (bs.take i)).length)), (.ref d)])) rfl rfl (hb hby own_d_jdk_42_method_46_code_88)
        rw [own_narb8] at W13
        have N13 := Fr.snoc X13 Nl g_d
        replace E_d := E_d.wr W13
        have K14 := own_ext_wr Kl W13 sz_d
        try clear Kl
        replace V_d := own_push Ar13 qa13 Sa13 Na13 Ha13 Ga13 (fits_nar_byte _) W13 (by rw [hj13]; exact own_ofn_clamp (by omega))
        refine own_st st13 ?_
        try clear st13
        try clear el
        try clear Xl
        try clear T
        show own_Gl p e below _ (T13.setTop (mkF m 89 #[.val (.int (0 : Int32)), .val (.ref t), .val (.int (1 : Int32)), .val (.int ((Int32.ofNat (own_enc (bs.take i)).length) + (1 : Int32))), .val (.ref d), .val (.ref t), .val (.int (24 : Int32)), .val (.int (Int32.ofNat i)), .val (.int (bs.getD i 0))] []))
        refine own_st (fun tg_ kg_ => XS.aload X13.here hx rfl (hb hby own_d_jdk_42_method_46_code_89) rfl rfl kg_) ?_
        show own_Gl p e below _ (T13.setTop (mkF m 91 #[.val (.int (0 : Int32)), .val (.ref t), .val (.int (1 : Int32)), .val (.int ((Int32.ofNat (own_enc (bs.take i)).length) + (1 : Int32))), .val (.ref d), .val (.ref t), .val (.int (24 : Int32)), .val (.int (Int32.ofNat i)), .val (.int (bs.getD i 0))] [(.ref d)]))
        refine own_st (fun tg_ kg_ => XS.iloadN X13.here hx rfl (hb hby own_d_jdk_42_method_46_code_91) rfl kg_) ?_
        show own_Gl p e below _ (T13.setTop (mkF m 92 #[.val (.int (0 : Int32)), .val (.ref t), .val (.int (1 : Int32)), .val (.int ((Int32.ofNat (own_enc (bs.take i)).length) + (1 : Int32))), .val (.ref d), .val (.ref t), .val (.int (24 : Int32)), .val (.int (Int32.ofNat i)), .val (.int (bs.getD i 0))] [(.int ((Int32.ofNat (own_enc (bs.take i)).length) + (1 : Int32))), (.ref d)]))
        refine own_st (fun tg_ kg_ => XS.iinc X13.here hx rfl (hb hby own_d_jdk_42_method_46_code_92) rfl (l' := #[.val (.int (0 : Int32)), .val (.ref t), .val (.int (1 : Int32)), .val (.int (((Int32.ofNat (own_enc (bs.take i)).length) + (1 : Int32)) + (1 : Int32))), .val (.ref d), .val (.ref t), .val (.int (24 : Int32)), .val (.int (Int32.ofNat i)), .val (.int (bs.getD i 0))]) rfl kg_) ?_
        show own_Gl p e below _ (T13.setTop (mkF m 95 #[.val (.int (0 : Int32)), .val (.ref t), .val (.int (1 : Int32)), .val (.int (((Int32.ofNat (own_enc (bs.take i)).length) + (1 : Int32)) + (1 : Int32))), .val (.ref d), .val (.ref t), .val (.int (24 : Int32)), .val (.int (Int32.ofNat i)), .val (.int (bs.getD i 0))] [(.int ((Int32.ofNat (own_enc (bs.take i)).length) + (1 : Int32))), (.ref d)]))
        refine own_st (fun tg_ kg_ => XS.sipush X13.here hx rfl (hb hby own_d_jdk_42_method_46_code_95) kg_) ?_
        show own_Gl p e below _ (T13.setTop (mkF m 98 #[.val (.int (0 : Int32)), .val (.ref t), .val (.int (1 : Int32)), .val (.int (((Int32.ofNat (own_enc (bs.take i)).length) + (1 : Int32)) + (1 : Int32))), .val (.ref d), .val (.ref t), .val (.int (24 : Int32)), .val (.int (Int32.ofNat i)), .val (.int (bs.getD i 0))] [(.int (128 : Int32)), (.int ((Int32.ofNat (own_enc (bs.take i)).length) + (1 : Int32))), (.ref d)]))
        refine own_st (fun tg_ kg_ => XS.iload X13.here hx rfl (hb hby own_d_jdk_42_method_46_code_98) rfl kg_) ?_
        show own_Gl p e below _ (T13.setTop (mkF m 100 #[.val (.int (0 : Int32)), .val (.ref t), .val (.int (1 : Int32)), .val (.int (((Int32.ofNat (own_enc (bs.take i)).length) + (1 : Int32)) + (1 : Int32))), .val (.ref d), .val (.ref t), .val (.int (24 : Int32)), .val (.int (Int32.ofNat i)), .val (.int (bs.getD i 0))] [(.int (bs.getD i 0)), (.int (128 : Int32)), (.int ((Int32.ofNat (own_enc (bs.take i)).length) + (1 : Int32))), (.ref d)]))
        refine own_st (fun tg_ kg_ => XS.bipush X13.here hx rfl (hb hby own_d_jdk_42_method_46_code_100) kg_) ?_
        show own_Gl p e below _ (T13.setTop (mkF m 102 #[.val (.int (0 : Int32)), .val (.ref t), .val (.int (1 : Int32)), .val (.int (((Int32.ofNat (own_enc (bs.take i)).length) + (1 : Int32)) + (1 : Int32))), .val (.ref d), .val (.ref t), .val (.int (24 : Int32)), .val (.int (Int32.ofNat i)), .val (.int (bs.getD i 0))] [(.int (63 : Int32)), (.int (bs.getD i 0)), (.int (128 : Int32)), (.int ((Int32.ofNat (own_enc (bs.take i)).length) + (1 : Int32))), (.ref d)]))
        refine own_st (fun tg_ kg_ => XS.iand X13.here hx rfl (hb hby own_d_jdk_42_method_46_code_102) rfl kg_) ?_
        show own_Gl p e below _ (T13.setTop (mkF m 103 #[.val (.int (0 : Int32)), .val (.ref t), .val (.int (1 : Int32)), .val (.int (((Int32.ofNat (own_enc (bs.take i)).length) + (1 : Int32)) + (1 : Int32))), .val (.ref d), .val (.ref t), .val (.int (24 : Int32)), .val (.int (Int32.ofNat i)), .val (.int (bs.getD i 0))] [(.int ((bs.getD i 0) &&& (63 : Int32))), (.int (128 : Int32)), (.int ((Int32.ofNat (own_enc (bs.take i)).length) + (1 : Int32))), (.ref d)]))
        refine own_st (fun tg_ kg_ => XS.ior X13.here hx rfl (hb hby own_d_jdk_42_method_46_code_103) rfl kg_) ?_
        show own_Gl p e below _ (T13.setTop (mkF m 104 #[.val (.int (0 : Int32)), .val (.ref t), .val (.int (1 : Int32)), .val (.int (((Int32.ofNat (own_enc (bs.take i)).length) + (1 : Int32)) + (1 : Int32))), .val (.ref d), .val (.ref t), .val (.int (24 : Int32)), .val (.int (Int32.ofNat i)), .val (.int (bs.getD i 0))] [(.int ((128 : Int32) ||| ((bs.getD i 0) &&& (63 : Int32)))), (.int ((Int32.ofNat (own_enc (bs.take i)).length) + (1 : Int32))), (.ref d)]))
        refine own_st (fun tg_ kg_ => XS.i2b X13.here hx rfl (hb hby own_d_jdk_42_method_46_code_104) rfl kg_) ?_
        show own_Gl p e below _ (T13.setTop (mkF m 105 #[.val (.int (0 : Int32)), .val (.ref t), .val (.int (1 : Int32)), .val (.int (((Int32.ofNat (own_enc (bs.take i)).length) + (1 : Int32)) + (1 : Int32))), .val (.ref d), .val (.ref t), .val (.int (24 : Int32)), .val (.int (Int32.ofNat i)), .val (.int (bs.getD i 0))] [(.int (((128 : Int32) ||| ((bs.getD i 0) &&& (63 : Int32))).toInt8.toInt32)), (.int ((Int32.ofNat (own_enc (bs.take i)).length) + (1 : Int32))), (.ref d)]))
        obtain ⟨cl15, Ar15, qa15, Sa15, Na15, Ha15, Ga15⟩ := own_pad V_d
        have hj15 : ((Int32.ofNat (own_enc (bs.take i)).length) + (1 : Int32)) = Int32.ofNat (((own_enc (bs.take i)).map Value.int) ++ [Value.int (((192 : Int32) ||| (((bs.getD i 0) &&& (255 : Int32)) >>> ((6 : Int32) &&& 31))).toInt8.toInt32)]).length := (by simp only [List.length_append, List.length_map, List.length_cons, List.length_nil]; exact own_ofn_add _ 1)
        have hb15 : (((own_enc (bs.take i)).map Value.int) ++ [Value.int (((192 : Int32) ||| (((bs.getD i 0) &&& (255 : Int32)) >>> ((6 : Int32) &&& 31))).toInt8.toInt32)]).length < 48 := (by simp only [List.length_append, List.length_map, List.length_cons, List.length_nil]; omega)
        have hin15 : ¬ (((Int32.ofNat (own_enc (bs.take i)).length) + (1 : Int32)) < 0 ∨ cl15.slots.size ≤ (((Int32.ofNat (own_enc (bs.take i)).length) + (1 : Int32))).toNatClampNeg) := by rw [hj15]; exact inb_of Sa15 ⟨own_ofn_nn (by omega), (own_ofn_lt (b := 48) (by omega) (by decide)).mpr hb15⟩
        obtain ⟨T15, h15, X15, e15, W15, st15⟩ := stB X13 hx hZ e13 Ar15 (j := ((Int32.ofNat (own_enc (bs.take i)).length) + (1 : Int32))) hin15 (g := (mkF m 105 #[.val (.int (0 : Int32)), .val (.ref t), .val (.int (1 : Int32)), .val (.int (((Int32.ofNat (own_enc (bs.take i)).length) + (1 : Int32)) + (1 : Int32))), .val (.ref d), .val (.ref t), .val (.int (24 : Int32)), .val (.int (Int32.ofNat i)), .val (.int (bs.getD i 0))] [(.int (((128 : Int32) ||| ((bs.getD i 0) &&& (63 : Int32))).toInt8.toInt32)), (.int ((Int32.ofNat (own_enc (bs.take i)).length) + (1 : Int32))), (.ref d)])) rfl rfl (hb hby own_d_jdk_42_method_46_code_105)
        rw [own_narb8] at W15
        have N15 := Fr.snoc X15 N13 g_d
        replace E_d := E_d.wr W15
        have K16 := own_ext_wr K14 W15 sz_d
        try clear K14
        replace V_d := own_push Ar15 qa15 Sa15 Na15 Ha15 Ga15 (fits_nar_byte _) W15 (by rw [hj15]; exact own_ofn_clamp (by omega))
        refine own_st st15 ?_
        try clear st15
        try clear e13
        try clear X13
        try clear T13
        show own_Gl p e below _ (T15.setTop (mkF m 106 #[.val (.int (0 : Int32)), .val (.ref t), .val (.int (1 : Int32)), .val (.int (((Int32.ofNat (own_enc (bs.take i)).length) + (1 : Int32)) + (1 : Int32))), .val (.ref d), .val (.ref t), .val (.int (24 : Int32)), .val (.int (Int32.ofNat i)), .val (.int (bs.getD i 0))] []))
        refine own_st (fun tg_ kg_ => XS.goto X15.here hx rfl (pc0 := 106) (pc' := 118) rfl (hb hby own_d_jdk_42_method_46_code_106) (by decide) (by decide) kg_) ?_
        show own_Gl p e below _ (T15.setTop (mkF m 118 #[.val (.int (0 : Int32)), .val (.ref t), .val (.int (1 : Int32)), .val (.int (((Int32.ofNat (own_enc (bs.take i)).length) + (1 : Int32)) + (1 : Int32))), .val (.ref d), .val (.ref t), .val (.int (24 : Int32)), .val (.int (Int32.ofNat i)), .val (.int (bs.getD i 0))] []))
        refine own_st (fun tg_ kg_ => XS.iinc X15.here hx rfl (hb hby own_d_jdk_42_method_46_code_118) rfl (l' := #[.val (.int (0 : Int32)), .val (.ref t), .val (.int (1 : Int32)), .val (.int (((Int32.ofNat (own_enc (bs.take i)).length) + (1 : Int32)) + (1 : Int32))), .val (.ref d), .val (.ref t), .val (.int (24 : Int32)), .val (.int ((Int32.ofNat i) + (1 : Int32))), .val (.int (bs.getD i 0))]) rfl kg_) ?_
        show own_Gl p e below _ (T15.setTop (mkF m 121 #[.val (.int (0 : Int32)), .val (.ref t), .val (.int (1 : Int32)), .val (.int (((Int32.ofNat (own_enc (bs.take i)).length) + (1 : Int32)) + (1 : Int32))), .val (.ref d), .val (.ref t), .val (.int (24 : Int32)), .val (.int ((Int32.ofNat i) + (1 : Int32))), .val (.int (bs.getD i 0))] []))
        refine own_st (fun tg_ kg_ => XS.goto X15.here hx rfl (pc0 := 121) (pc' := 49) rfl (hb hby own_d_jdk_42_method_46_code_121) (by decide) (by decide) kg_) ?_
        show own_Gl p e below _ (T15.setTop (mkF m 49 #[.val (.int (0 : Int32)), .val (.ref t), .val (.int (1 : Int32)), .val (.int (((Int32.ofNat (own_enc (bs.take i)).length) + (1 : Int32)) + (1 : Int32))), .val (.ref d), .val (.ref t), .val (.int (24 : Int32)), .val (.int ((Int32.ofNat i) + (1 : Int32))), .val (.int (bs.getD i 0))] []))
        have hen : own_enc (bs.take (i + 1)) = (own_enc (bs.take i)) ++ own_e1 (bs.getD i 0) := own_next bs (by omega)
        rw [own_e1_neg hng] at hen
        have hdp : (((Int32.ofNat (own_enc (bs.take i)).length) + (1 : Int32)) + (1 : Int32)) = Int32.ofNat (own_enc (bs.take (i + 1))).length := by
          rw [hen, List.length_append]
          exact (congrArg (· + (1 : Int32)) (own_ofn_add _ 1)).trans (own_ofn_add _ 1)
        have hip : ((Int32.ofNat i) + (1 : Int32)) = Int32.ofNat (i + 1) := own_ofn_add i 1
        have V_d' : Arv Z h15 d kd .byte (48 : Int32) ((own_enc (bs.take (i + 1))).map Value.int) (.int 0) := by
          rw [hen, List.map_append]
          have q := V_d; rw [List.append_assoc] at q; exact q
        rw [hdp, hip]
        exact ih (i + 1) (by omega) _ _ _ _ X15 e15 N15 K16 V_d' E_d (One.val rfl)
      ·
        show own_Gl p e below _ (T.setTop (mkF m 65 #[.val (.int (0 : Int32)), .val (.ref t), .val (.int (1 : Int32)), .val (.int (Int32.ofNat (own_enc (bs.take i)).length)), .val (.ref d), .val (.ref t), .val (.int (24 : Int32)), .val (.int (Int32.ofNat i)), .val (.int (bs.getD i 0))] [(.int (bs.getD i 0))]))
        refine own_st (fun tg_ kg_ => XS.ifYes Xl.here hx rfl (pc0 := 65) (pc' := 109) rfl (hb hby own_d_jdk_42_method_46_code_65) rfl ((if0 _ _).trans (flt (hng)).2.1) (by decide) (by decide) kg_) ?_
        show own_Gl p e below _ (T.setTop (mkF m 109 #[.val (.int (0 : Int32)), .val (.ref t), .val (.int (1 : Int32)), .val (.int (Int32.ofNat (own_enc (bs.take i)).length)), .val (.ref d), .val (.ref t), .val (.int (24 : Int32)), .val (.int (Int32.ofNat i)), .val (.int (bs.getD i 0))] []))
        refine own_st (fun tg_ kg_ => XS.aload Xl.here hx rfl (hb hby own_d_jdk_42_method_46_code_109) rfl rfl kg_) ?_
        show own_Gl p e below _ (T.setTop (mkF m 111 #[.val (.int (0 : Int32)), .val (.ref t), .val (.int (1 : Int32)), .val (.int (Int32.ofNat (own_enc (bs.take i)).length)), .val (.ref d), .val (.ref t), .val (.int (24 : Int32)), .val (.int (Int32.ofNat i)), .val (.int (bs.getD i 0))] [(.ref d)]))
        refine own_st (fun tg_ kg_ => XS.iloadN Xl.here hx rfl (hb hby own_d_jdk_42_method_46_code_111) rfl kg_) ?_
        show own_Gl p e below _ (T.setTop (mkF m 112 #[.val (.int (0 : Int32)), .val (.ref t), .val (.int (1 : Int32)), .val (.int (Int32.ofNat (own_enc (bs.take i)).length)), .val (.ref d), .val (.ref t), .val (.int (24 : Int32)), .val (.int (Int32.ofNat i)), .val (.int (bs.getD i 0))] [(.int (Int32.ofNat (own_enc (bs.take i)).length)), (.ref d)]))
        refine own_st (fun tg_ kg_ => XS.iinc Xl.here hx rfl (hb hby own_d_jdk_42_method_46_code_112) rfl (l' := #[.val (.int (0 : Int32)), .val (.ref t), .val (.int (1 : Int32)), .val (.int ((Int32.ofNat (own_enc (bs.take i)).length) + (1 : Int32))), .val (.ref d), .val (.ref t), .val (.int (24 : Int32)), .val (.int (Int32.ofNat i)), .val (.int (bs.getD i 0))]) rfl kg_) ?_
        show own_Gl p e below _ (T.setTop (mkF m 115 #[.val (.int (0 : Int32)), .val (.ref t), .val (.int (1 : Int32)), .val (.int ((Int32.ofNat (own_enc (bs.take i)).length) + (1 : Int32))), .val (.ref d), .val (.ref t), .val (.int (24 : Int32)), .val (.int (Int32.ofNat i)), .val (.int (bs.getD i 0))] [(.int (Int32.ofNat (own_enc (bs.take i)).length)), (.ref d)]))
        refine own_st (fun tg_ kg_ => XS.iload Xl.here hx rfl (hb hby own_d_jdk_42_method_46_code_115) rfl kg_) ?_
        show own_Gl p e below _ (T.setTop (mkF m 117 #[.val (.int (0 : Int32)), .val (.ref t), .val (.int (1 : Int32)), .val (.int ((Int32.ofNat (own_enc (bs.take i)).length) + (1 : Int32))), .val (.ref d), .val (.ref t), .val (.int (24 : Int32)), .val (.int (Int32.ofNat i)), .val (.int (bs.getD i 0))] [(.int (bs.getD i 0)), (.int (Int32.ofNat (own_enc (bs.take i)).length)), (.ref d)]))
        obtain ⟨cl17, Ar17, qa17, Sa17, Na17, Ha17, Ga17⟩ := own_pad V_d
        have hj17 : (Int32.ofNat (own_enc (bs.take i)).length) = Int32.ofNat (((own_enc (bs.take i)).map Value.int)).length := (by simp)
        have hb17 : (((own_enc (bs.take i)).map Value.int)).length < 48 := (by simp only [List.length_map]; omega)
        have hin17 : ¬ ((Int32.ofNat (own_enc (bs.take i)).length) < 0 ∨ cl17.slots.size ≤ ((Int32.ofNat (own_enc (bs.take i)).length)).toNatClampNeg) := by rw [hj17]; exact inb_of Sa17 ⟨own_ofn_nn (by omega), (own_ofn_lt (b := 48) (by omega) (by decide)).mpr hb17⟩
        obtain ⟨T17, h17, X17, e17, W17, st17⟩ := stB Xl hx hZ el Ar17 (j := (Int32.ofNat (own_enc (bs.take i)).length)) hin17 (g := (mkF m 117 #[.val (.int (0 : Int32)), .val (.ref t), .val (.int (1 : Int32)), .val (.int ((Int32.ofNat (own_enc (bs.take i)).length) + (1 : Int32))), .val (.ref d), .val (.ref t), .val (.int (24 : Int32)), .val (.int (Int32.ofNat i)), .val (.int (bs.getD i 0))] [(.int (bs.getD i 0)), (.int (Int32.ofNat (own_enc (bs.take i)).length)), (.ref d)])) rfl rfl (hb hby own_d_jdk_42_method_46_code_117)
        rw [own_narb hfb] at W17
        have N17 := Fr.snoc X17 Nl g_d
        replace E_d := E_d.wr W17
        have K18 := own_ext_wr Kl W17 sz_d
        try clear Kl
        replace V_d := own_push Ar17 qa17 Sa17 Na17 Ha17 Ga17 hfb W17 (by rw [hj17]; exact own_ofn_clamp (by omega))
        refine own_st st17 ?_
        try clear st17
        try clear el
        try clear Xl
        try clear T
        show own_Gl p e below _ (T17.setTop (mkF m 118 #[.val (.int (0 : Int32)), .val (.ref t), .val (.int (1 : Int32)), .val (.int ((Int32.ofNat (own_enc (bs.take i)).length) + (1 : Int32))), .val (.ref d), .val (.ref t), .val (.int (24 : Int32)), .val (.int (Int32.ofNat i)), .val (.int (bs.getD i 0))] []))
        refine own_st (fun tg_ kg_ => XS.iinc X17.here hx rfl (hb hby own_d_jdk_42_method_46_code_118) rfl (l' := #[.val (.int (0 : Int32)), .val (.ref t), .val (.int (1 : Int32)), .val (.int ((Int32.ofNat (own_enc (bs.take i)).length) + (1 : Int32))), .val (.ref d), .val (.ref t), .val (.int (24 : Int32)), .val (.int ((Int32.ofNat i) + (1 : Int32))), .val (.int (bs.getD i 0))]) rfl kg_) ?_
        show own_Gl p e below _ (T17.setTop (mkF m 121 #[.val (.int (0 : Int32)), .val (.ref t), .val (.int (1 : Int32)), .val (.int ((Int32.ofNat (own_enc (bs.take i)).length) + (1 : Int32))), .val (.ref d), .val (.ref t), .val (.int (24 : Int32)), .val (.int ((Int32.ofNat i) + (1 : Int32))), .val (.int (bs.getD i 0))] []))
        refine own_st (fun tg_ kg_ => XS.goto X17.here hx rfl (pc0 := 121) (pc' := 49) rfl (hb hby own_d_jdk_42_method_46_code_121) (by decide) (by decide) kg_) ?_
        show own_Gl p e below _ (T17.setTop (mkF m 49 #[.val (.int (0 : Int32)), .val (.ref t), .val (.int (1 : Int32)), .val (.int ((Int32.ofNat (own_enc (bs.take i)).length) + (1 : Int32))), .val (.ref d), .val (.ref t), .val (.int (24 : Int32)), .val (.int ((Int32.ofNat i) + (1 : Int32))), .val (.int (bs.getD i 0))] []))
        have hen : own_enc (bs.take (i + 1)) = (own_enc (bs.take i)) ++ own_e1 (bs.getD i 0) := own_next bs (by omega)
        rw [own_e1_pos hng] at hen
        have hdp : ((Int32.ofNat (own_enc (bs.take i)).length) + (1 : Int32)) = Int32.ofNat (own_enc (bs.take (i + 1))).length := by
          rw [hen, List.length_append]
          exact own_ofn_add _ 1
        have hip : ((Int32.ofNat i) + (1 : Int32)) = Int32.ofNat (i + 1) := own_ofn_add i 1
        have V_d' : Arv Z h17 d kd .byte (48 : Int32) ((own_enc (bs.take (i + 1))).map Value.int) (.int 0) := by
          rw [hen, List.map_append]
          exact V_d
        rw [hdp, hip]
        exact ih (i + 1) (by omega) _ _ _ _ X17 e17 N17 K18 V_d' E_d (One.val rfl)
  exact loop 24 0 rfl _ _ _ _ X4 rfl N4 Kc4 V_d E_d One.u
theorem own_pd6 : parseMethodDescriptor "(B[BZ)[B" = some ⟨[.byte, (.array .byte), .boolean], some (.array .byte)⟩ := by decide +kernel
theorem own_d_jdk_42_method_18_code_0 : decode jdk_42_method_18_code 0 = .ok (.aload_n 0, 1) := by decide +kernel
theorem own_d_jdk_42_method_18_code_1 : decode jdk_42_method_18_code 1 = .ok (.getstatic 86, 3) := by decide +kernel
theorem own_d_jdk_42_method_18_code_4 : decode jdk_42_method_18_code 4 = .ok (.if_acmp .ne 10, 3) := by decide +kernel
theorem own_d_jdk_42_method_18_code_7 : decode jdk_42_method_18_code 7 = .ok (.iload_n 1, 1) := by decide +kernel
theorem own_d_jdk_42_method_18_code_8 : decode jdk_42_method_18_code 8 = .ok (.aload_n 2, 1) := by decide +kernel
theorem own_d_jdk_42_method_18_code_9 : decode jdk_42_method_18_code 9 = .ok (.iconst 1, 1) := by decide +kernel
theorem own_d_jdk_42_method_18_code_10 : decode jdk_42_method_18_code 10 = .ok (.invokestatic 252, 3) := by decide +kernel
theorem own_d_jdk_42_method_18_code_13 : decode jdk_42_method_18_code 13 = .ok (.areturn, 1) := by decide +kernel
theorem own_ef_enc (m : MethodId) (x0 : Addr) (x1 : Int32) (x2 : Addr) : entryFrame m #[(.ref x0), (.int x1), (.ref x2)] 3 = mkF m 0 #[.val (.ref x0), .val (.int x1), .val (.ref x2)] [] := by first | (simp [entryFrame, mkF, argsToLocals, Value.category]; done) | rfl
def own_Q_enc (Z : State) (u : Addr) (t : Addr) (kt : ClassId) (bs : List Int32) (h0 : Heap) (n0 : Nat) (v : Option Value) (h : Heap) (L : List Loc) : Prop := (∃ w kw, v = some (.ref w) ∧ h0.size ≤ w ∧ Arv Z h w kw .byte (Int32.ofNat (own_enc bs).length) ((own_enc bs).map Value.int) (.int 0) ∧ Exa Z h w "[B") ∧ Fr n0 L ∧ Ext h0 h
set_option maxRecDepth 65536 in
set_option maxHeartbeats 40000000 in
theorem own_rm_enc (l : Launch) (Z : State) (a0 : Array Value) (hw : ∀ d ∈ tables_1, d.before a0 Z = true) (ws : List Jvm.Cond) (u : Addr) (t : Addr) (kt : ClassId) (bs : List Int32) (h0 : Heap) (n0 : Nat) (Z0 : n0 ≤ h0.size) (S_I : Sta Z h0 "sun/nio/cs/UTF_8" "INSTANCE" "Lsun/nio/cs/UTF_8;" (.ref u))(V_t : Arv Z h0 t kt .byte (24 : Int32) (bs.map Value.int) (.int 0)) (hl : bs.length = 24)(hneg : bs.getD 0 0 < 0) :
    MetFree l (⟨"java/lang/String", "encode", "(Ljava/nio/charset/Charset;B[B)[B"⟩ : MethodName) (head1 (Jvm.Cond.code (⟨"java/lang/String", "encode", "(Ljava/nio/charset/Charset;B[B)[B"⟩ : MethodName) jdk_42_method_18_code 3 (some (.array .byte)) :: ws) ({ frames := 3, cells := 2, slots := 96, locals := 94 } : Room)) (fun aa UU => aa = #[(.ref u), (.int (0 : Int32)), (.ref t)] ∧ Z.Warmed39 UU.vm ∧ UU.heap = h0) (fun _ _ _ _ _ => True) (fun _ UU oo UU' => ∃ vv LL, oo = .returned vv ∧ own_Q_enc Z u t kt bs h0 n0 vv UU'.heap LL ∧ FrameEnd UU oo UU' LL ({ frames := 3, cells := 2, slots := 96, locals := 94 } : Room).cells ({ frames := 3, cells := 2, slots := 96, locals := 94 } : Room).slots) := by
  refine MetFree.of_bodySF (plainFor_of_name own_pn1) hisR ?_
  intro p e s m args below meth c s₁ Bd hml0 hP hK
  obtain ⟨rfl, hZ, hh⟩ := hP
  have hx := Bd.exec
  have hby := Bd.bytes
  have hml : c.maxLocals = 3 := hml0
  have hown : s.vm.findClass "java/lang/String" = some m.cls := findClass_of_methodNamed Bd.named
  have hnm := (name_of_methodNamed Bd.named Bd.method).1
  have X0 : Stand p l e ({ frames := 3, cells := 2, slots := 96, locals := 94 } : Room) s m #[(.ref u), (.int (0 : Int32)), (.ref t)] below meth c s₁ [] 0 0 := Stand.of_body Bd
  have e0 : s₁.heap = h0 := by rw [← hh, Bd.state]; rfl
  have N0 := Fr.nil n0
  show own_Gl p e below (own_Post s (own_Q_enc Z u t kt bs h0 n0) ({ frames := 3, cells := 2, slots := 96, locals := 94 } : Room).cells ({ frames := 3, cells := 2, slots := 96, locals := 94 } : Room).slots) _
  refine own_st (fun tg_ kg_ => castTop (own_ef_enc m u (0 : Int32) t) kg_) ?_
  show own_Gl p e below _ (s₁.setTop (mkF m 0 #[.val (.ref u), .val (.int (0 : Int32)), .val (.ref t)] []))
  refine own_st (fun tg_ kg_ => XS.aloadN X0.here hx rfl (hb hby own_d_jdk_42_method_18_code_0) rfl rfl kg_) ?_
  show own_Gl p e below _ (s₁.setTop (mkF m 1 #[.val (.ref u), .val (.int (0 : Int32)), .val (.ref t)] [(.ref u)]))
  obtain ⟨T1, X1, e1, st1⟩ := getS2 X0 hx hZ hown (host := "") (Or.inl (hw _ (List.mem_of_getElem? (i := 58) rfl))) Via.refl e0 S_I (g := (mkF m 1 #[.val (.ref u), .val (.int (0 : Int32)), .val (.ref t)] [(.ref u)])) rfl (hb hby own_d_jdk_42_method_18_code_1)
  refine own_st st1 ?_
  try clear st1
  show own_Gl p e below _ (T1.setTop (mkF m 4 #[.val (.ref u), .val (.int (0 : Int32)), .val (.ref t)] [(.ref u), (.ref u)]))
  refine own_st (fun tg_ kg_ => Jvm.RoadKit.acmp (g := (mkF m 4 #[.val (.ref u), .val (.int (0 : Int32)), .val (.ref t)] [(.ref u), (.ref u)])) X1 hx rfl rfl rfl (pc0 := 4) (pc' := 7) (same := true) rfl (hb hby own_d_jdk_42_method_18_code_4) rfl (decide_eq_true (rfl)) (by decide) (by decide) kg_) ?_
  show own_Gl p e below _ (T1.setTop (mkF m 7 #[.val (.ref u), .val (.int (0 : Int32)), .val (.ref t)] []))
  refine own_st (fun tg_ kg_ => XS.iloadN X1.here hx rfl (hb hby own_d_jdk_42_method_18_code_7) rfl kg_) ?_
  show own_Gl p e below _ (T1.setTop (mkF m 8 #[.val (.ref u), .val (.int (0 : Int32)), .val (.ref t)] [(.int (0 : Int32))]))
  refine own_st (fun tg_ kg_ => XS.aloadN X1.here hx rfl (hb hby own_d_jdk_42_method_18_code_8) rfl rfl kg_) ?_
  show own_Gl p e below _ (T1.setTop (mkF m 9 #[.val (.ref u), .val (.int (0 : Int32)), .val (.ref t)] [(.ref t), (.int (0 : Int32))]))
  refine own_st (fun tg_ kg_ => XS.iconst X1.here hx rfl (hb hby own_d_jdk_42_method_18_code_9) kg_) ?_
  show own_Gl p e below _ (T1.setTop (mkF m 10 #[.val (.ref u), .val (.int (0 : Int32)), .val (.ref t)] [(.int (1 : Int32)), (.ref t), (.int (0 : Int32))]))
  obtain ⟨_, _, ⟨T2, L2, k2, n2⟩, -, X2, ⟨Lc2, hQ2, l2, y2, z2⟩, st2⟩ := Jvm.LawKit.callS X1 hx (y := (⟨"java/lang/String", "encodeUTF8", "(B[BZ)[B"⟩ : MethodName)) hown (mvT hZ (hw _ (List.mem_of_getElem? (i := 60) rfl))) (mvT hZ (hw _ (List.mem_of_getElem? (i := 61) rfl))) (mvT hZ (hw _ (List.mem_of_getElem? (i := 12) rfl))) (mvT hZ (hw _ (List.mem_of_getElem? (i := 62) rfl))) (by decide) (backOf (W := 0) (own_rm_eu8 l Z a0 hw [] t kt bs h0 n0 Z0 V_t hl hneg) hZ (hw _ (List.mem_of_getElem? (i := 62) rfl)) (hw _ (List.mem_of_getElem? (i := 12) rfl)) (by decide) (by decide)) (g := (mkF m 10 #[.val (.ref u), .val (.int (0 : Int32)), .val (.ref t)] [(.int (1 : Int32)), (.ref t), (.int (0 : Int32))])) rfl (by rw [hml]; rfl) (argsL := [(.int (0 : Int32)), (.ref t), (.int (1 : Int32))]) (rest := []) (lenOf own_pd6 rfl) rfl (by show 2 * 0 + _ ≤ _; exact Nat.le_of_eq rfl) (hb hby own_d_jdk_42_method_18_code_10) (fun _ _ => ⟨rfl, e1, (by decide : 0 + 2 ≤ _), (by decide : 0 + 96 ≤ _)⟩)
  dsimp only [Pt.U, Pt.locs, Pt.cells, Pt.slots] at X2 l2 y2 z2 st2 hQ2
  obtain rfl : k2 = 2 := y2
  obtain rfl : n2 = 96 := z2
  obtain ⟨⟨w, kw, rfl, szc2, V_w, E_w⟩, N2q, Kc2⟩ := hQ2
  have N2 : Fr n0 L2 := by rw [l2]; exact Fr.app N0 N2q
  try clear l2
  refine own_st st2 ?_
  have ne_t_w : t ≠ w := Nat.ne_of_lt (Nat.lt_of_lt_of_le V_t.lt szc2)
  have sz_w : h0.size ≤ w := szc2
  have g_w : n0 ≤ w := Nat.le_trans Z0 sz_w
  show own_Gl p e below _ (T2.setTop (mkF m 13 #[.val (.ref u), .val (.int (0 : Int32)), .val (.ref t)] [(.ref w)]))
  try clear st2
  try clear N2q
  try clear e1
  try clear X1
  try clear T1
  exact own_retA X2 hx Bd.notSynchronized Bd.returns rfl rfl (hb hby own_d_jdk_42_method_18_code_13) (by decide) (by decide) rfl (⟨⟨_, _, rfl, sz_w, V_w, E_w⟩, N2, Kc2⟩)
theorem own_pd7 : parseMethodDescriptor "()B" = some ⟨[], some .byte⟩ := by decide +kernel
theorem own_pd8 : parseMethodDescriptor "(Ljava/nio/charset/Charset;B[B)[B" = some ⟨[(.object "java/nio/charset/Charset"), .byte, (.array .byte)], some (.array .byte)⟩ := by decide +kernel
theorem own_d_jdk_42_method_64_code_0 : decode jdk_42_method_64_code 0 = .ok (.aload_n 1, 1) := by decide +kernel
theorem own_d_jdk_42_method_64_code_1 : decode jdk_42_method_64_code 1 = .ok (.ifnonnull 11, 3) := by decide +kernel
theorem own_d_jdk_42_method_64_code_12 : decode jdk_42_method_64_code 12 = .ok (.aload_n 1, 1) := by decide +kernel
theorem own_d_jdk_42_method_64_code_13 : decode jdk_42_method_64_code 13 = .ok (.aload_n 0, 1) := by decide +kernel
theorem own_d_jdk_42_method_64_code_14 : decode jdk_42_method_64_code 14 = .ok (.invokevirtual 335, 3) := by decide +kernel
theorem own_d_jdk_42_method_64_code_17 : decode jdk_42_method_64_code 17 = .ok (.aload_n 0, 1) := by decide +kernel
theorem own_d_jdk_42_method_64_code_18 : decode jdk_42_method_64_code 18 = .ok (.getfield 9, 3) := by decide +kernel
theorem own_d_jdk_42_method_64_code_21 : decode jdk_42_method_64_code 21 = .ok (.invokestatic 535, 3) := by decide +kernel
theorem own_d_jdk_42_method_64_code_24 : decode jdk_42_method_64_code 24 = .ok (.areturn, 1) := by decide +kernel
theorem own_ef_gby (m : MethodId) (x0 : Addr) (x1 : Addr) : entryFrame m #[(.ref x0), (.ref x1)] 2 = mkF m 0 #[.val (.ref x0), .val (.ref x1)] [] := by first | (simp [entryFrame, mkF, argsToLocals, Value.category]; done) | rfl
def own_Q_gby (Z : State) (x u : Addr) (zc : Int32) (t : Addr) (kt : ClassId) (bs : List Int32) (h0 : Heap) (n0 : Nat) (v : Option Value) (h : Heap) (L : List Loc) : Prop := (∃ w kw, v = some (.ref w) ∧ h0.size ≤ w ∧ Arv Z h w kw .byte (Int32.ofNat (own_enc bs).length) ((own_enc bs).map Value.int) (.int 0) ∧ Exa Z h w "[B") ∧ Fr n0 L ∧ Ext h0 h
set_option maxRecDepth 65536 in
set_option maxHeartbeats 40000000 in
theorem own_rm_gby (l : Launch) (Z : State) (a0 : Array Value) (hw : ∀ d ∈ tables_1, d.before a0 Z = true) (ws : List Jvm.Cond) (x u : Addr) (zc : Int32) (t : Addr) (kt : ClassId) (bs : List Int32) (h0 : Heap) (n0 : Nat) (Z0 : n0 ≤ h0.size) (S_C : Sta Z h0 "java/lang/String" "COMPACT_STRINGS" "Z" (.int zc)) (hzc : ¬ zc = 0)(S_I : Sta Z h0 "sun/nio/cs/UTF_8" "INSTANCE" "Lsun/nio/cs/UTF_8;" (.ref u))(E_x : Exa Z h0 x "java/lang/String") (F_c : Fld Z h0 x "java/lang/String" "coder" "B" (.int 0)) (F_v : Fld Z h0 x "java/lang/String" "value" "[B" (.ref t))(V_t : Arv Z h0 t kt .byte (24 : Int32) (bs.map Value.int) (.int 0)) (hl : bs.length = 24)(hneg : bs.getD 0 0 < 0) :
    MetFree l (⟨"java/lang/String", "getBytes", "(Ljava/nio/charset/Charset;)[B"⟩ : MethodName) (head1 (Jvm.Cond.code (⟨"java/lang/String", "getBytes", "(Ljava/nio/charset/Charset;)[B"⟩ : MethodName) jdk_42_method_64_code 2 (some (.array .byte)) :: ws) ({ frames := 4, cells := 2, slots := 96, locals := 108 } : Room)) (fun aa UU => aa = #[(.ref x), (.ref u)] ∧ Z.Warmed39 UU.vm ∧ UU.heap = h0) (fun _ _ _ _ _ => True) (fun _ UU oo UU' => ∃ vv LL, oo = .returned vv ∧ own_Q_gby Z x u zc t kt bs h0 n0 vv UU'.heap LL ∧ FrameEnd UU oo UU' LL ({ frames := 4, cells := 2, slots := 96, locals := 108 } : Room).cells ({ frames := 4, cells := 2, slots := 96, locals := 108 } : Room).slots) := by
  refine MetFree.of_bodySF (plainFor_of_name own_pn1) hisR ?_
  intro p e s m args below meth c s₁ Bd hml0 hP hK
  obtain ⟨rfl, hZ, hh⟩ := hP
  have hx := Bd.exec
  have hby := Bd.bytes
  have hml : c.maxLocals = 2 := hml0
  have hown : s.vm.findClass "java/lang/String" = some m.cls := findClass_of_methodNamed Bd.named
  have hnm := (name_of_methodNamed Bd.named Bd.method).1
  have X0 : Stand p l e ({ frames := 4, cells := 2, slots := 96, locals := 108 } : Room) s m #[(.ref x), (.ref u)] below meth c s₁ [] 0 0 := Stand.of_body Bd
  have e0 : s₁.heap = h0 := by rw [← hh, Bd.state]; rfl
  have N0 := Fr.nil n0
  show own_Gl p e below (own_Post s (own_Q_gby Z x u zc t kt bs h0 n0) ({ frames := 4, cells := 2, slots := 96, locals := 108 } : Room).cells ({ frames := 4, cells := 2, slots := 96, locals := 108 } : Room).slots) _
  refine own_st (fun tg_ kg_ => castTop (own_ef_gby m x u) kg_) ?_
  show own_Gl p e below _ (s₁.setTop (mkF m 0 #[.val (.ref x), .val (.ref u)] []))
  refine own_st (fun tg_ kg_ => XS.aloadN X0.here hx rfl (hb hby own_d_jdk_42_method_64_code_0) rfl rfl kg_) ?_
  show own_Gl p e below _ (s₁.setTop (mkF m 1 #[.val (.ref x), .val (.ref u)] [(.ref u)]))
  refine own_st (fun tg_ kg_ => XT.nonnullYes X0.here hx rfl (pc0 := 1) (pc' := 12) rfl (hb hby own_d_jdk_42_method_64_code_1) rfl rfl nofun (by decide) (by decide) kg_) ?_
  show own_Gl p e below _ (s₁.setTop (mkF m 12 #[.val (.ref x), .val (.ref u)] []))
  refine own_st (fun tg_ kg_ => XS.aloadN X0.here hx rfl (hb hby own_d_jdk_42_method_64_code_12) rfl rfl kg_) ?_
  show own_Gl p e below _ (s₁.setTop (mkF m 13 #[.val (.ref x), .val (.ref u)] [(.ref u)]))
  refine own_st (fun tg_ kg_ => XS.aloadN X0.here hx rfl (hb hby own_d_jdk_42_method_64_code_13) rfl rfl kg_) ?_
  show own_Gl p e below _ (s₁.setTop (mkF m 14 #[.val (.ref x), .val (.ref u)] [(.ref x), (.ref u)]))
  obtain ⟨cq1, kq1, q1a, q1b, q1c⟩ := isOf hZ e0 E_x
  obtain ⟨_, _, ⟨T1, L1, k1, n1⟩, -, X1, ⟨Lc1, hQ1, l1, y1, z1⟩, st1⟩ := X0.virtualBack hx (y := (⟨"java/lang/String", "coder", "()B"⟩ : MethodName)) (z := (⟨"java/lang/String", "coder", "()B"⟩ : MethodName)) hown (mvT hZ (hw _ (List.mem_of_getElem? (i := 50) rfl))) (mvT hZ (hw _ (List.mem_of_getElem? (i := 51) rfl))) (notFace_of_selects (args := #[]) (mvT hZ (hw _ (List.mem_of_getElem? (i := 53) rfl)))) (mvT hZ (hw _ (List.mem_of_getElem? (i := 53) rfl))) (mvT hZ (hw _ (List.mem_of_getElem? (i := 52) rfl))) (by decide) (backOf (W := 1) (own_rm_cod l Z a0 hw [] x zc h0 n0 Z0 S_C hzc F_c) hZ (hw _ (List.mem_of_getElem? (i := 54) rfl)) (hw _ (List.mem_of_getElem? (i := 12) rfl)) (by decide) (by decide)) q1a q1c (g := (mkF m 14 #[.val (.ref x), .val (.ref u)] [(.ref x), (.ref u)])) rfl (by rw [hml]; rfl) (Steps.refl _) (argsL := []) (rest := [(.ref u)]) (lenOf own_pd7 rfl) rfl (by show 2 * 0 + _ ≤ _; exact Nat.le_of_eq rfl) (hb hby own_d_jdk_42_method_64_code_14) (fun _ _ => ⟨rfl, e0, (by decide : 0 + 0 ≤ _), (by decide : 0 + 0 ≤ _)⟩)
  dsimp only [Pt.U, Pt.locs, Pt.cells, Pt.slots] at X1 l1 y1 z1 st1 hQ1
  obtain rfl : k1 = 0 := y1
  obtain rfl : n1 = 0 := z1
  obtain ⟨rfl, N1q, e1⟩ := hQ1
  have N1 : Fr n0 L1 := by rw [l1]; exact Fr.app N0 N1q
  try clear l1
  refine own_tr st1 ?_
  show own_Gl p e below _ (T1.setTop (mkF m 17 #[.val (.ref x), .val (.ref u)] [(.int (0 : Int32)), (.ref u)]))
  try clear st1
  try clear N1q
  refine own_st (fun tg_ kg_ => XS.aloadN X1.here hx rfl (hb hby own_d_jdk_42_method_64_code_17) rfl rfl kg_) ?_
  show own_Gl p e below _ (T1.setTop (mkF m 18 #[.val (.ref x), .val (.ref u)] [(.ref x), (.int (0 : Int32)), (.ref u)]))
  obtain ⟨T2, X2, e2, st2⟩ := getF X1 hx hZ hown (host := "") (Or.inl (hw _ (List.mem_of_getElem? (i := 37) rfl))) Via.refl e1 F_v (g := (mkF m 18 #[.val (.ref x), .val (.ref u)] [(.ref x), (.int (0 : Int32)), (.ref u)])) rfl rfl (hb hby own_d_jdk_42_method_64_code_18)
  refine own_st st2 ?_
  try clear st2
  try clear e1
  try clear X1
  try clear T1
  show own_Gl p e below _ (T2.setTop (mkF m 21 #[.val (.ref x), .val (.ref u)] [(.ref t), (.int (0 : Int32)), (.ref u)]))
  obtain ⟨_, _, ⟨T3, L3, k3, n3⟩, -, X3, ⟨Lc3, hQ3, l3, y3, z3⟩, st3⟩ := Jvm.LawKit.callS X2 hx (y := (⟨"java/lang/String", "encode", "(Ljava/nio/charset/Charset;B[B)[B"⟩ : MethodName)) hown (mvT hZ (hw _ (List.mem_of_getElem? (i := 55) rfl))) (mvT hZ (hw _ (List.mem_of_getElem? (i := 56) rfl))) (mvT hZ (hw _ (List.mem_of_getElem? (i := 12) rfl))) (mvT hZ (hw _ (List.mem_of_getElem? (i := 57) rfl))) (by decide) (backOf (W := 0) (own_rm_enc l Z a0 hw [] u t kt bs h0 n0 Z0 S_I V_t hl hneg) hZ (hw _ (List.mem_of_getElem? (i := 57) rfl)) (hw _ (List.mem_of_getElem? (i := 12) rfl)) (by decide) (by decide)) (g := (mkF m 21 #[.val (.ref x), .val (.ref u)] [(.ref t), (.int (0 : Int32)), (.ref u)])) rfl (by rw [hml]; rfl) (argsL := [(.ref u), (.int (0 : Int32)), (.ref t)]) (rest := []) (lenOf own_pd8 rfl) rfl (by show 2 * 0 + _ ≤ _; exact Nat.le_of_eq rfl) (hb hby own_d_jdk_42_method_64_code_21) (fun _ _ => ⟨rfl, e2, (by decide : 0 + 2 ≤ _), (by decide : 0 + 96 ≤ _)⟩)
  dsimp only [Pt.U, Pt.locs, Pt.cells, Pt.slots] at X3 l3 y3 z3 st3 hQ3
  obtain rfl : k3 = 2 := y3
  obtain rfl : n3 = 96 := z3
  obtain ⟨⟨w, kw, rfl, szc3, V_w, E_w⟩, N3q, Kc3⟩ := hQ3
  have N3 : Fr n0 L3 := by rw [l3]; exact Fr.app N1 N3q
  try clear l3
  refine own_st st3 ?_
  have ne_t_w : t ≠ w := Nat.ne_of_lt (Nat.lt_of_lt_of_le V_t.lt szc3)
  have ne_x_w : x ≠ w := Nat.ne_of_lt (Nat.lt_of_lt_of_le E_x.lt szc3)
  have sz_w : h0.size ≤ w := szc3
  have g_w : n0 ≤ w := Nat.le_trans Z0 sz_w
  show own_Gl p e below _ (T3.setTop (mkF m 24 #[.val (.ref x), .val (.ref u)] [(.ref w)]))
  try clear st3
  try clear N3q
  try clear N1
  try clear e2
  try clear X2
  try clear T2
  exact own_retA X3 hx Bd.notSynchronized Bd.returns rfl rfl (hb hby own_d_jdk_42_method_64_code_24) (by decide) (by decide) rfl (⟨⟨_, _, rfl, sz_w, V_w, E_w⟩, N3, Kc3⟩)
theorem own_pn5 : plainName "com/example/highwater/highwater/config/TokenSecret" = true := by first | (simp [plainName, overriddenIn]; done) | decide +kernel
theorem own_d_prog_8_method_1_code_0 : decode prog_8_method_1_code 0 = .ok (.aload_n 0, 1) := by decide +kernel
theorem own_d_prog_8_method_1_code_1 : decode prog_8_method_1_code 1 = .ok (.invokespecial 1, 3) := by decide +kernel
theorem own_d_prog_8_method_1_code_4 : decode prog_8_method_1_code 4 = .ok (.aload_n 0, 1) := by decide +kernel
theorem own_d_prog_8_method_1_code_5 : decode prog_8_method_1_code 5 = .ok (.aload_n 1, 1) := by decide +kernel
theorem own_d_prog_8_method_1_code_6 : decode prog_8_method_1_code 6 = .ok (.putfield 7, 3) := by decide +kernel
theorem own_d_prog_8_method_1_code_9 : decode prog_8_method_1_code 9 = .ok (.return_, 1) := by decide +kernel
theorem own_ef_tsi (m : MethodId) (x0 : Addr) (x1 : Addr) : entryFrame m #[(.ref x0), (.ref x1)] 2 = mkF m 0 #[.val (.ref x0), .val (.ref x1)] [] := by first | (simp [entryFrame, mkF, argsToLocals, Value.category]; done) | rfl
def own_Q_tsi (Z : State) (a w : Addr) (h0 : Heap) (n0 : Nat) (v : Option Value) (h : Heap) (L : List Loc) : Prop := v = none ∧ Fr n0 L ∧ Keep h0 h [a] ∧ Fld Z h a "com/example/highwater/highwater/config/TokenSecret" "key" "[B" (.ref w)
set_option maxRecDepth 65536 in
set_option maxHeartbeats 40000000 in
theorem own_rm_tsi (l : Launch) (Z : State) (a0 : Array Value) (hw : ∀ d ∈ tables_1, d.before a0 Z = true) (ws : List Jvm.Cond) (a w : Addr) (h0 : Heap) (n0 : Nat) (Z0 : n0 ≤ h0.size) (E_a : Exa Z h0 a "com/example/highwater/highwater/config/TokenSecret") (F_k : Fld Z h0 a "com/example/highwater/highwater/config/TokenSecret" "key" "[B" .null) (g_a : n0 ≤ a) :
    MetFree l (⟨"com/example/highwater/highwater/config/TokenSecret", "<init>", "([B)V"⟩ : MethodName) (head1 (Jvm.Cond.code (⟨"com/example/highwater/highwater/config/TokenSecret", "<init>", "([B)V"⟩ : MethodName) prog_8_method_1_code 2 none :: ws) ({ frames := 1, cells := 0, slots := 0, locals := 12 } : Room)) (fun aa UU => aa = #[(.ref a), (.ref w)] ∧ Z.Warmed39 UU.vm ∧ UU.heap = h0) (fun _ _ _ _ _ => True) (fun _ UU oo UU' => ∃ vv LL, oo = .returned vv ∧ own_Q_tsi Z a w h0 n0 vv UU'.heap LL ∧ FrameEnd UU oo UU' LL ({ frames := 1, cells := 0, slots := 0, locals := 12 } : Room).cells ({ frames := 1, cells := 0, slots := 0, locals := 12 } : Room).slots) := by
  refine MetFree.of_bodySF (plainFor_of_name own_pn5) hisR ?_
  intro p e s m args below meth c s₁ Bd hml0 hP hK
  obtain ⟨rfl, hZ, hh⟩ := hP
  have hx := Bd.exec
  have hby := Bd.bytes
  have hml : c.maxLocals = 2 := hml0
  have hown : s.vm.findClass "com/example/highwater/highwater/config/TokenSecret" = some m.cls := findClass_of_methodNamed Bd.named
  have hnm := (name_of_methodNamed Bd.named Bd.method).1
  have X0 : Stand p l e ({ frames := 1, cells := 0, slots := 0, locals := 12 } : Room) s m #[(.ref a), (.ref w)] below meth c s₁ [] 0 0 := Stand.of_body Bd
  have e0 : s₁.heap = h0 := by rw [← hh, Bd.state]; rfl
  have N0 := Fr.nil n0
  have K0 : Keep h0 h0 [a] := Keep.refl h0 _
  show own_Gl p e below (own_Post s (own_Q_tsi Z a w h0 n0) ({ frames := 1, cells := 0, slots := 0, locals := 12 } : Room).cells ({ frames := 1, cells := 0, slots := 0, locals := 12 } : Room).slots) _
  refine own_st (fun tg_ kg_ => castTop (own_ef_tsi m a w) kg_) ?_
  show own_Gl p e below _ (s₁.setTop (mkF m 0 #[.val (.ref a), .val (.ref w)] []))
  refine own_st (fun tg_ kg_ => XS.aloadN X0.here hx rfl (hb hby own_d_prog_8_method_1_code_0) rfl rfl kg_) ?_
  show own_Gl p e below _ (s₁.setTop (mkF m 1 #[.val (.ref a), .val (.ref w)] [(.ref a)]))
  obtain ⟨T1, X1, e1, st1⟩ := initO X0 hx hZ hown (hw _ (List.mem_of_getElem? (i := 94) rfl)) (hw _ (List.mem_of_getElem? (i := 21) rfl)) (hw _ (List.mem_of_getElem? (i := 22) rfl)) e0 (g := (mkF m 1 #[.val (.ref a), .val (.ref w)] [(.ref a)])) rfl (by rw [hml]; rfl) rfl (hb hby own_d_prog_8_method_1_code_1) (by decide) (W := 0) (by show 2 * 0 + _ ≤ _; exact Nat.le_of_eq rfl) (by decide)
  refine own_st st1 ?_
  try clear st1
  show own_Gl p e below _ (T1.setTop (mkF m 4 #[.val (.ref a), .val (.ref w)] []))
  refine own_st (fun tg_ kg_ => XS.aloadN X1.here hx rfl (hb hby own_d_prog_8_method_1_code_4) rfl rfl kg_) ?_
  show own_Gl p e below _ (T1.setTop (mkF m 5 #[.val (.ref a), .val (.ref w)] [(.ref a)]))
  refine own_st (fun tg_ kg_ => XS.aloadN X1.here hx rfl (hb hby own_d_prog_8_method_1_code_5) rfl rfl kg_) ?_
  show own_Gl p e below _ (T1.setTop (mkF m 6 #[.val (.ref a), .val (.ref w)] [(.ref w), (.ref a)]))
  obtain ⟨T2, h2, X2, e2, W2, st2⟩ := putF X1 hx hZ hown (host := "") (Or.inl (hw _ (List.mem_of_getElem? (i := 95) rfl))) Via.refl e1 F_k E_a (Or.inr ⟨(hw _ (List.mem_of_getElem? (i := 96) rfl)), rfl, hnm⟩) (hw _ (List.mem_of_getElem? (i := 90) rfl)) (ty := (.array .byte)) (by decide) rfl rfl (g := (mkF m 6 #[.val (.ref a), .val (.ref w)] [(.ref w), (.ref a)])) rfl rfl (hb hby own_d_prog_8_method_1_code_6)
  have N2 := Fr.snoc X2 N0 g_a
  replace E_a := E_a.wr W2
  replace F_k := F_k.same W2
  have K3 : Keep h0 h2 [a] := K0.wr W2 (Or.inl (List.mem_of_getElem? (i := 0) rfl))
  refine own_st st2 ?_
  try clear st2
  try clear e1
  try clear X1
  try clear T1
  show own_Gl p e below _ (T2.setTop (mkF m 9 #[.val (.ref a), .val (.ref w)] []))
  exact own_retV X2 hx Bd.notSynchronized Bd.returns (hb hby own_d_prog_8_method_1_code_9) (by decide) (by decide) e2 (⟨rfl, N2, K3, F_k⟩)
theorem own_pd9 : parseMethodDescriptor "(Ljava/nio/charset/Charset;)[B" = some ⟨[(.object "java/nio/charset/Charset")], some (.array .byte)⟩ := by decide +kernel
theorem own_pd10 : parseMethodDescriptor "([B)V" = some ⟨[(.array .byte)], none⟩ := by decide +kernel
theorem own_d_prog_8_method_2_code_0 : decode prog_8_method_2_code 0 = .ok (.aload_n 0, 1) := by decide +kernel
theorem own_d_prog_8_method_2_code_1 : decode prog_8_method_2_code 1 = .ok (.getstatic 13, 3) := by decide +kernel
theorem own_d_prog_8_method_2_code_4 : decode prog_8_method_2_code 4 = .ok (.invokevirtual 19, 3) := by decide +kernel
theorem own_d_prog_8_method_2_code_7 : decode prog_8_method_2_code 7 = .ok (.astore_n 1, 1) := by decide +kernel
theorem own_d_prog_8_method_2_code_8 : decode prog_8_method_2_code 8 = .ok (.aload_n 1, 1) := by decide +kernel
theorem own_d_prog_8_method_2_code_9 : decode prog_8_method_2_code 9 = .ok (.arraylength, 1) := by decide +kernel
theorem own_d_prog_8_method_2_code_10 : decode prog_8_method_2_code 10 = .ok (.bipush 32, 2) := by decide +kernel
theorem own_d_prog_8_method_2_code_12 : decode prog_8_method_2_code 12 = .ok (.if_icmp .ge 18, 3) := by decide +kernel
theorem own_d_prog_8_method_2_code_30 : decode prog_8_method_2_code 30 = .ok (.new 8, 3) := by decide +kernel
theorem own_d_prog_8_method_2_code_33 : decode prog_8_method_2_code 33 = .ok (.dup, 1) := by decide +kernel
theorem own_d_prog_8_method_2_code_34 : decode prog_8_method_2_code 34 = .ok (.aload_n 1, 1) := by decide +kernel
theorem own_d_prog_8_method_2_code_35 : decode prog_8_method_2_code 35 = .ok (.invokespecial 34, 3) := by decide +kernel
theorem own_d_prog_8_method_2_code_38 : decode prog_8_method_2_code 38 = .ok (.areturn, 1) := by decide +kernel
theorem own_ef_frt (m : MethodId) (x0 : Addr) : entryFrame m #[(.ref x0)] 2 = mkF m 0 #[.val (.ref x0), .unset] [] := by first | (simp [entryFrame, mkF, argsToLocals, Value.category]; done) | rfl
def own_Q_frt (Z : State) (x u : Addr) (zc : Int32) (t : Addr) (kt : ClassId) (bs : List Int32) (h0 : Heap) (n0 : Nat) (v : Option Value) (h : Heap) (L : List Loc) : Prop := (∃ a w kw, v = some (.ref a) ∧ h0.size ≤ a ∧ h0.size ≤ w ∧ Exa Z h a "com/example/highwater/highwater/config/TokenSecret" ∧ Fld Z h a "com/example/highwater/highwater/config/TokenSecret" "key" "[B" (.ref w) ∧ Arv Z h w kw .byte (Int32.ofNat (own_enc bs).length) ((own_enc bs).map Value.int) (.int 0) ∧ Exa Z h w "[B") ∧ Fr n0 L ∧ Ext h0 h
set_option maxRecDepth 65536 in
set_option maxHeartbeats 40000000 in
theorem own_rm_frt (l : Launch) (Z : State) (a0 : Array Value) (hw : ∀ d ∈ tables_1, d.before a0 Z = true) (ws : List Jvm.Cond) (x u : Addr) (zc : Int32) (t : Addr) (kt : ClassId) (bs : List Int32) (h0 : Heap) (n0 : Nat) (Z0 : n0 ≤ h0.size) (S_C : Sta Z h0 "java/lang/String" "COMPACT_STRINGS" "Z" (.int zc)) (hzc : ¬ zc = 0)(S_I : Sta Z h0 "sun/nio/cs/UTF_8" "INSTANCE" "Lsun/nio/cs/UTF_8;" (.ref u))(S_8 : Sta Z h0 "java/nio/charset/StandardCharsets" "UTF_8" "Ljava/nio/charset/Charset;" (.ref u))(E_x : Exa Z h0 x "java/lang/String") (F_c : Fld Z h0 x "java/lang/String" "coder" "B" (.int 0)) (F_v : Fld Z h0 x "java/lang/String" "value" "[B" (.ref t))(V_t : Arv Z h0 t kt .byte (24 : Int32) (bs.map Value.int) (.int 0)) (hl : bs.length = 24)(hneg : bs.getD 0 0 < 0)(h32 : ¬ Int32.ofNat (own_enc bs).length < 32) :
    MetFree l (⟨"com/example/highwater/highwater/config/TokenSecret", "fromText", "(Ljava/lang/String;)Lcom/example/highwater/highwater/config/TokenSecret;"⟩ : MethodName) (head1 (Jvm.Cond.code (⟨"com/example/highwater/highwater/config/TokenSecret", "fromText", "(Ljava/lang/String;)Lcom/example/highwater/highwater/config/TokenSecret;"⟩ : MethodName) prog_8_method_2_code 2 (some (.object "com/example/highwater/highwater/config/TokenSecret")) :: ws) ({ frames := 5, cells := 3, slots := 97, locals := 121 } : Room)) (fun aa UU => aa = #[(.ref x)] ∧ Z.Warmed39 UU.vm ∧ UU.heap = h0) (fun _ _ _ _ _ => True) (fun _ UU oo UU' => ∃ vv LL, oo = .returned vv ∧ own_Q_frt Z x u zc t kt bs h0 n0 vv UU'.heap LL ∧ FrameEnd UU oo UU' LL ({ frames := 5, cells := 3, slots := 97, locals := 121 } : Room).cells ({ frames := 5, cells := 3, slots := 97, locals := 121 } : Room).slots) := by
  refine MetFree.of_bodySF (plainFor_of_name own_pn5) hisR ?_
  intro p e s m args below meth c s₁ Bd hml0 hP hK
  obtain ⟨rfl, hZ, hh⟩ := hP
  have hx := Bd.exec
  have hby := Bd.bytes
  have hml : c.maxLocals = 2 := hml0
  have hown : s.vm.findClass "com/example/highwater/highwater/config/TokenSecret" = some m.cls := findClass_of_methodNamed Bd.named
  have hnm := (name_of_methodNamed Bd.named Bd.method).1
  have X0 : Stand p l e ({ frames := 5, cells := 3, slots := 97, locals := 121 } : Room) s m #[(.ref x)] below meth c s₁ [] 0 0 := Stand.of_body Bd
  have e0 : s₁.heap = h0 := by rw [← hh, Bd.state]; rfl
  have N0 := Fr.nil n0
  show own_Gl p e below (own_Post s (own_Q_frt Z x u zc t kt bs h0 n0) ({ frames := 5, cells := 3, slots := 97, locals := 121 } : Room).cells ({ frames := 5, cells := 3, slots := 97, locals := 121 } : Room).slots) _
  refine own_st (fun tg_ kg_ => castTop (own_ef_frt m x) kg_) ?_
  show own_Gl p e below _ (s₁.setTop (mkF m 0 #[.val (.ref x), .unset] []))
  refine own_st (fun tg_ kg_ => XS.aloadN X0.here hx rfl (hb hby own_d_prog_8_method_2_code_0) rfl rfl kg_) ?_
  show own_Gl p e below _ (s₁.setTop (mkF m 1 #[.val (.ref x), .unset] [(.ref x)]))
  obtain ⟨T1, X1, e1, st1⟩ := getS2 X0 hx hZ hown (host := "") (Or.inl (hw _ (List.mem_of_getElem? (i := 43) rfl))) Via.refl e0 S_8 (g := (mkF m 1 #[.val (.ref x), .unset] [(.ref x)])) rfl (hb hby own_d_prog_8_method_2_code_1)
  refine own_st st1 ?_
  try clear st1
  show own_Gl p e below _ (T1.setTop (mkF m 4 #[.val (.ref x), .unset] [(.ref u), (.ref x)]))
  obtain ⟨cq2, kq2, q2a, q2b, q2c⟩ := isOf hZ e1 E_x
  obtain ⟨_, _, ⟨T2, L2, k2, n2⟩, -, X2, ⟨Lc2, hQ2, l2, y2, z2⟩, st2⟩ := X1.virtualBack hx (y := (⟨"java/lang/String", "getBytes", "(Ljava/nio/charset/Charset;)[B"⟩ : MethodName)) (z := (⟨"java/lang/String", "getBytes", "(Ljava/nio/charset/Charset;)[B"⟩ : MethodName)) hown (mvT hZ (hw _ (List.mem_of_getElem? (i := 45) rfl))) (mvT hZ (hw _ (List.mem_of_getElem? (i := 46) rfl))) (notFace_of_selects (args := #[]) (mvT hZ (hw _ (List.mem_of_getElem? (i := 48) rfl)))) (mvT hZ (hw _ (List.mem_of_getElem? (i := 48) rfl))) (mvT hZ (hw _ (List.mem_of_getElem? (i := 47) rfl))) (by decide) (backOf (W := 0) (own_rm_gby l Z a0 hw [] x u zc t kt bs h0 n0 Z0 S_C hzc S_I E_x F_c F_v V_t hl hneg) hZ (hw _ (List.mem_of_getElem? (i := 49) rfl)) (hw _ (List.mem_of_getElem? (i := 12) rfl)) (by decide) (by decide)) q2a q2c (g := (mkF m 4 #[.val (.ref x), .unset] [(.ref u), (.ref x)])) rfl (by rw [hml]; rfl) (Steps.refl _) (argsL := [(.ref u)]) (rest := []) (lenOf own_pd9 rfl) rfl (by show 2 * 0 + _ ≤ _; exact Nat.le_of_eq rfl) (hb hby own_d_prog_8_method_2_code_4) (fun _ _ => ⟨rfl, e1, (by decide : 0 + 2 ≤ _), (by decide : 0 + 96 ≤ _)⟩)
  dsimp only [Pt.U, Pt.locs, Pt.cells, Pt.slots] at X2 l2 y2 z2 st2 hQ2
  obtain rfl : k2 = 2 := y2
  obtain rfl : n2 = 96 := z2
  obtain ⟨⟨w, kw, rfl, szc2, V_w, E_w⟩, N2q, Kc2⟩ := hQ2
  have N2 : Fr n0 L2 := by rw [l2]; exact Fr.app N0 N2q
  try clear l2
  refine own_tr st2 ?_
  have ne_t_w : t ≠ w := Nat.ne_of_lt (Nat.lt_of_lt_of_le V_t.lt szc2)
  have ne_x_w : x ≠ w := Nat.ne_of_lt (Nat.lt_of_lt_of_le E_x.lt szc2)
  have sz_w : h0.size ≤ w := szc2
  have g_w : n0 ≤ w := Nat.le_trans Z0 sz_w
  show own_Gl p e below _ (T2.setTop (mkF m 7 #[.val (.ref x), .unset] [(.ref w)]))
  try clear st2
  try clear N2q
  try clear e1
  try clear X1
  try clear T1
  refine own_st (fun tg_ kg_ => XS.astoreN X2.here hx rfl (hb hby own_d_prog_8_method_2_code_7) rfl rfl (l' := #[.val (.ref x), .val (.ref w)]) rfl kg_) ?_
  show own_Gl p e below _ (T2.setTop (mkF m 8 #[.val (.ref x), .val (.ref w)] []))
  refine own_st (fun tg_ kg_ => XS.aloadN X2.here hx rfl (hb hby own_d_prog_8_method_2_code_8) rfl rfl kg_) ?_
  show own_Gl p e below _ (T2.setTop (mkF m 9 #[.val (.ref x), .val (.ref w)] [(.ref w)]))
  obtain ⟨cl4, Ar4, qa4, Sa4, Na4, Ha4, Ga4⟩ := id V_w
  refine own_st (fun tg_ kg_ => X2.arraylength hx Ar4.1 (State.isArrayOf_alike hZ.alike Ar4.2.1) (g := (mkF m 9 #[.val (.ref x), .val (.ref w)] [(.ref w)])) rfl rfl (hb hby own_d_prog_8_method_2_code_9) _ kg_) ?_
  rw [len_of Sa4 Na4]
  show own_Gl p e below _ (T2.setTop (mkF m 10 #[.val (.ref x), .val (.ref w)] [(.int (Int32.ofNat (own_enc bs).length))]))
  refine own_st (fun tg_ kg_ => XS.bipush X2.here hx rfl (hb hby own_d_prog_8_method_2_code_10) kg_) ?_
  show own_Gl p e below _ (T2.setTop (mkF m 12 #[.val (.ref x), .val (.ref w)] [(.int (32 : Int32)), (.int (Int32.ofNat (own_enc bs).length))]))
  refine own_st (fun tg_ kg_ => XS.icmpYes X2.here hx rfl (pc0 := 12) (pc' := 30) rfl (hb hby own_d_prog_8_method_2_code_12) rfl (flt (h32)).2.1 (by decide) (by decide) kg_) ?_
  show own_Gl p e below _ (T2.setTop (mkF m 30 #[.val (.ref x), .val (.ref w)] []))
  obtain ⟨T5, h5, X5, e5, E5, A5, D5, -, st5⟩ := newO X2 hx hZ hown (hw _ (List.mem_of_getElem? (i := 89) rfl)) (hw _ (List.mem_of_getElem? (i := 90) rfl)) (hw _ (List.mem_of_getElem? (i := 41) rfl)) rfl (g := (mkF m 30 #[.val (.ref x), .val (.ref w)] [])) rfl (hb hby own_d_prog_8_method_2_code_30) (by decide) (by decide)
  obtain ⟨a, g5⟩ : ∃ z, z = T2.heap.size := ⟨_, rfl⟩
  have ne_t_a : t ≠ a := Nat.ne_of_lt (Nat.lt_of_lt_of_le (V_t.ext Kc2).lt (Nat.le_of_eq g5.symm))
  have ne_x_a : x ≠ a := Nat.ne_of_lt (Nat.lt_of_lt_of_le (E_x.ext Kc2).lt (Nat.le_of_eq g5.symm))
  have ne_w_a : w ≠ a := Nat.ne_of_lt (Nat.lt_of_lt_of_le V_w.lt (Nat.le_of_eq g5.symm))
  have sz_a : h0.size ≤ a := (Nat.le_trans Kc2.1 (Nat.le_of_eq g5.symm))
  have g_a : n0 ≤ a := Nat.le_trans Z0 sz_a
  rw [← g5] at A5 D5 st5
  replace V_w := V_w.ext E5
  replace E_w := E_w.ext E5
  have K6 := own_ext_tr Kc2 E5
  try clear E5
  try clear Kc2
  have E_a := A5
  have F_key_a : Fld Z h5 a "com/example/highwater/highwater/config/TokenSecret" "key" "[B" .null := D5 (Or.inr (hw _ (List.mem_of_getElem? (i := 96) rfl))) (ty := (.array .byte)) (by decide)
  refine own_st st5 ?_
  try clear st5
  try clear X2
  try clear T2
  show own_Gl p e below _ (T5.setTop (mkF m 33 #[.val (.ref x), .val (.ref w)] [(.ref a)]))
  refine own_st (fun tg_ kg_ => XS.dup X5.here hx rfl (hb hby own_d_prog_8_method_2_code_33) rfl rfl kg_) ?_
  show own_Gl p e below _ (T5.setTop (mkF m 34 #[.val (.ref x), .val (.ref w)] [(.ref a), (.ref a)]))
  refine own_st (fun tg_ kg_ => XS.aloadN X5.here hx rfl (hb hby own_d_prog_8_method_2_code_34) rfl rfl kg_) ?_
  show own_Gl p e below _ (T5.setTop (mkF m 35 #[.val (.ref x), .val (.ref w)] [(.ref w), (.ref a), (.ref a)]))
  obtain ⟨_, _, ⟨T7, L7, k7, n7⟩, -, X7, ⟨Lc7, hQ7, l7, y7, z7⟩, st7⟩ := X5.specialBack hx (y := (⟨"com/example/highwater/highwater/config/TokenSecret", "<init>", "([B)V"⟩ : MethodName)) rfl hown (mvT hZ (hw _ (List.mem_of_getElem? (i := 91) rfl))) (mvT hZ (hw _ (List.mem_of_getElem? (i := 92) rfl))) (mvT hZ (hw _ (List.mem_of_getElem? (i := 93) rfl))) (by decide) (backOf (W := 1) (own_rm_tsi l Z a0 hw [] a w h5 n0 (Nat.le_trans Z0 K6.1) E_a F_key_a g_a) hZ (hw _ (List.mem_of_getElem? (i := 93) rfl)) (hw _ (List.mem_of_getElem? (i := 41) rfl)) (by decide) (by decide)) (g := (mkF m 35 #[.val (.ref x), .val (.ref w)] [(.ref w), (.ref a), (.ref a)])) rfl (by rw [hml]; rfl) (Steps.refl _) (a := a) (argsL := [(.ref w)]) (rest := [(.ref a)]) (lenOf own_pd10 rfl) rfl (by show 2 * 0 + _ ≤ _; exact Nat.le_of_eq rfl) (hb hby own_d_prog_8_method_2_code_35) (fun _ _ => ⟨rfl, e5, (by decide : 3 + 0 ≤ _), (by decide : 97 + 0 ≤ _)⟩)
  dsimp only [Pt.U, Pt.locs, Pt.cells, Pt.slots] at X7 l7 y7 z7 st7 hQ7
  obtain rfl : k7 = 3 := y7
  obtain rfl : n7 = 97 := z7
  obtain ⟨rfl, N7q, Kc7, F_k⟩ := hQ7
  have N7 : Fr n0 L7 := by rw [l7]; exact Fr.app N2 N7q
  try clear l7
  refine own_tr st7 ?_
  replace V_w := V_w.keep Kc7 (ninS ne_w_a nin0)
  replace E_w := E_w.keep Kc7
  replace E_a := E_a.keep Kc7
  have K8 := own_ext_keep K6 Kc7 (allS sz_a all0)
  try clear Kc7
  try clear K6
  show own_Gl p e below _ (T7.setTop (mkF m 38 #[.val (.ref x), .val (.ref w)] [(.ref a)]))
  try clear st7
  try clear N7q
  try clear N2
  try clear e5
  try clear X5
  try clear T5
  exact own_retA X7 hx Bd.notSynchronized Bd.returns rfl rfl (hb hby own_d_prog_8_method_2_code_38) (by decide) (by decide) rfl (⟨⟨_, _, _, rfl, sz_a, sz_w, E_a, F_k, V_w, E_w⟩, N7, K8⟩)
theorem own_d_prog_8_method_3_code_0 : decode prog_8_method_3_code 0 = .ok (.aload_n 0, 1) := by decide +kernel
theorem own_d_prog_8_method_3_code_1 : decode prog_8_method_3_code 1 = .ok (.getfield 7, 3) := by decide +kernel
theorem own_d_prog_8_method_3_code_4 : decode prog_8_method_3_code 4 = .ok (.aload_n 0, 1) := by decide +kernel
theorem own_d_prog_8_method_3_code_5 : decode prog_8_method_3_code 5 = .ok (.getfield 7, 3) := by decide +kernel
theorem own_d_prog_8_method_3_code_8 : decode prog_8_method_3_code 8 = .ok (.arraylength, 1) := by decide +kernel
theorem own_d_prog_8_method_3_code_9 : decode prog_8_method_3_code 9 = .ok (.invokestatic 37, 3) := by decide +kernel
theorem own_d_prog_8_method_3_code_12 : decode prog_8_method_3_code 12 = .ok (.areturn, 1) := by decide +kernel
theorem own_ef_byt (m : MethodId) (x0 : Addr) : entryFrame m #[(.ref x0)] 1 = mkF m 0 #[.val (.ref x0)] [] := by first | (simp [entryFrame, mkF, argsToLocals, Value.category]; done) | rfl
def own_Q_byt (Z : State) (a w : Addr) (kw : ClassId) (K : List Int32) (h0 : Heap) (n0 : Nat) (v : Option Value) (h : Heap) (L : List Loc) : Prop := (∃ w kw, v = some (.ref w) ∧ h0.size ≤ w ∧ Arv Z h w kw .byte (Int32.ofNat K.length) (K.map Value.int) (.int 0)) ∧ Fr n0 L ∧ Ext h0 h
set_option maxRecDepth 65536 in
set_option maxHeartbeats 40000000 in
theorem own_rm_byt (l : Launch) (Z : State) (a0 : Array Value) (hw : ∀ d ∈ tables_1, d.before a0 Z = true) (ws : List Jvm.Cond) (a w : Addr) (kw : ClassId) (K : List Int32) (h0 : Heap) (n0 : Nat) (Z0 : n0 ≤ h0.size) (F_k : Fld Z h0 a "com/example/highwater/highwater/config/TokenSecret" "key" "[B" (.ref w)) (V_w : Arv Z h0 w kw .byte (Int32.ofNat K.length) (K.map Value.int) (.int 0)) (E_w : Exa Z h0 w "[B") (hk : K.length ≤ 48) :
    MetFree l (⟨"com/example/highwater/highwater/config/TokenSecret", "bytes", "()[B"⟩ : MethodName) (head1 (Jvm.Cond.code (⟨"com/example/highwater/highwater/config/TokenSecret", "bytes", "()[B"⟩ : MethodName) prog_8_method_3_code 1 (some (.array .byte)) :: ws) ({ frames := 2, cells := 1, slots := 48, locals := 28 } : Room)) (fun aa UU => aa = #[(.ref a)] ∧ Z.Warmed39 UU.vm ∧ UU.heap = h0) (fun _ _ _ _ _ => True) (fun _ UU oo UU' => ∃ vv LL, oo = .returned vv ∧ own_Q_byt Z a w kw K h0 n0 vv UU'.heap LL ∧ FrameEnd UU oo UU' LL ({ frames := 2, cells := 1, slots := 48, locals := 28 } : Room).cells ({ frames := 2, cells := 1, slots := 48, locals := 28 } : Room).slots) := by
  refine MetFree.of_bodySF (plainFor_of_name own_pn5) hisR ?_
  intro p e s m args below meth c s₁ Bd hml0 hP hK
  obtain ⟨rfl, hZ, hh⟩ := hP
  have hx := Bd.exec
  have hby := Bd.bytes
  have hml : c.maxLocals = 1 := hml0
  have hown : s.vm.findClass "com/example/highwater/highwater/config/TokenSecret" = some m.cls := findClass_of_methodNamed Bd.named
  have hnm := (name_of_methodNamed Bd.named Bd.method).1
  have X0 : Stand p l e ({ frames := 2, cells := 1, slots := 48, locals := 28 } : Room) s m #[(.ref a)] below meth c s₁ [] 0 0 := Stand.of_body Bd
  have e0 : s₁.heap = h0 := by rw [← hh, Bd.state]; rfl
  have N0 := Fr.nil n0
  show own_Gl p e below (own_Post s (own_Q_byt Z a w kw K h0 n0) ({ frames := 2, cells := 1, slots := 48, locals := 28 } : Room).cells ({ frames := 2, cells := 1, slots := 48, locals := 28 } : Room).slots) _
  refine own_st (fun tg_ kg_ => castTop (own_ef_byt m a) kg_) ?_
  show own_Gl p e below _ (s₁.setTop (mkF m 0 #[.val (.ref a)] []))
  refine own_st (fun tg_ kg_ => XS.aloadN X0.here hx rfl (hb hby own_d_prog_8_method_3_code_0) rfl rfl kg_) ?_
  show own_Gl p e below _ (s₁.setTop (mkF m 1 #[.val (.ref a)] [(.ref a)]))
  obtain ⟨T1, X1, e1, st1⟩ := getF X0 hx hZ hown (host := "") (Or.inl (hw _ (List.mem_of_getElem? (i := 95) rfl))) Via.refl e0 F_k (g := (mkF m 1 #[.val (.ref a)] [(.ref a)])) rfl rfl (hb hby own_d_prog_8_method_3_code_1)
  refine own_st st1 ?_
  try clear st1
  show own_Gl p e below _ (T1.setTop (mkF m 4 #[.val (.ref a)] [(.ref w)]))
  refine own_st (fun tg_ kg_ => XS.aloadN X1.here hx rfl (hb hby own_d_prog_8_method_3_code_4) rfl rfl kg_) ?_
  show own_Gl p e below _ (T1.setTop (mkF m 5 #[.val (.ref a)] [(.ref a), (.ref w)]))
  obtain ⟨T2, X2, e2, st2⟩ := getF X1 hx hZ hown (host := "") (Or.inl (hw _ (List.mem_of_getElem? (i := 95) rfl))) Via.refl e1 F_k (g := (mkF m 5 #[.val (.ref a)] [(.ref a), (.ref w)])) rfl rfl (hb hby own_d_prog_8_method_3_code_5)
  refine own_st st2 ?_
  try clear st2
  try clear e1
  try clear X1
  try clear T1
  show own_Gl p e below _ (T2.setTop (mkF m 8 #[.val (.ref a)] [(.ref w), (.ref w)]))
  obtain ⟨cl3, Ar3, qa3, Sa3, Na3, Ha3, Ga3⟩ := id V_w
  refine own_st (fun tg_ kg_ => X2.arraylength hx (by rw [e2]; exact Ar3.1) (State.isArrayOf_alike hZ.alike Ar3.2.1) (g := (mkF m 8 #[.val (.ref a)] [(.ref w), (.ref w)])) rfl rfl (hb hby own_d_prog_8_method_3_code_8) _ kg_) ?_
  rw [len_of Sa3 Na3]
  show own_Gl p e below _ (T2.setTop (mkF m 9 #[.val (.ref a)] [(.int (Int32.ofNat K.length)), (.ref w)]))
  obtain ⟨_, _, ⟨T4, L4, k4, n4⟩, -, X4, ⟨Lc4, hQ4, l4, y4, z4⟩, st4⟩ := Jvm.LawKit.callS X2 hx (y := (⟨"java/util/Arrays", "copyOf", "([BI)[B"⟩ : MethodName)) hown (mvT hZ (hw _ (List.mem_of_getElem? (i := 102) rfl))) (mvT hZ (hw _ (List.mem_of_getElem? (i := 78) rfl))) (mvT hZ (hw _ (List.mem_of_getElem? (i := 79) rfl))) (mvT hZ (hw _ (List.mem_of_getElem? (i := 80) rfl))) (by decide) (backOf (W := 0) (own_rm_cln l Z a0 hw [] w kw K h0 n0 Z0 V_w E_w hk) hZ (hw _ (List.mem_of_getElem? (i := 80) rfl)) (hw _ (List.mem_of_getElem? (i := 79) rfl)) (by decide) (by decide)) (g := (mkF m 9 #[.val (.ref a)] [(.int (Int32.ofNat K.length)), (.ref w)])) rfl (by rw [hml]; rfl) (argsL := [(.ref w), (.int (Int32.ofNat K.length))]) (rest := []) (lenOf own_pd5 rfl) rfl (by show 2 * 0 + _ ≤ _; exact Nat.le_of_eq rfl) (hb hby own_d_prog_8_method_3_code_9) (fun _ _ => ⟨rfl, e2, (by decide : 0 + 1 ≤ _), (by decide : 0 + 48 ≤ _)⟩)
  dsimp only [Pt.U, Pt.locs, Pt.cells, Pt.slots] at X4 l4 y4 z4 st4 hQ4
  obtain rfl : k4 = 1 := y4
  obtain rfl : n4 = 48 := z4
  obtain ⟨⟨w2, kw2, rfl, szc4, V_w2⟩, N4q, Kc4⟩ := hQ4
  have N4 : Fr n0 L4 := by rw [l4]; exact Fr.app N0 N4q
  try clear l4
  refine own_st st4 ?_
  have ne_a_w2 : a ≠ w2 := Nat.ne_of_lt (Nat.lt_of_lt_of_le F_k.lt szc4)
  have ne_w_w2 : w ≠ w2 := Nat.ne_of_lt (Nat.lt_of_lt_of_le V_w.lt szc4)
  have sz_w2 : h0.size ≤ w2 := szc4
  have g_w2 : n0 ≤ w2 := Nat.le_trans Z0 sz_w2
  show own_Gl p e below _ (T4.setTop (mkF m 12 #[.val (.ref a)] [(.ref w2)]))
  try clear st4
  try clear N4q
  try clear e2
  try clear X2
  try clear T2
  exact own_retA X4 hx Bd.notSynchronized Bd.returns rfl rfl (hb hby own_d_prog_8_method_3_code_12) (by decide) (by decide) rfl (⟨⟨_, _, rfl, sz_w2, V_w2⟩, N4, Kc4⟩)
theorem own_at {xs ys : List Int32} {b : Int32} (j : Nat) (hj : j < (own_e1 b).length) : (own_enc (xs ++ b :: ys)).getD ((own_enc xs).length + j) 0 = (own_e1 b).getD j 0 := by
  rw [own_enc_app, own_enc_cons, List.getD_eq_getElem?_getD, List.getD_eq_getElem?_getD, List.getElem?_append_right (by omega)]
  have e : (own_enc xs).length + j - (own_enc xs).length = j := by omega
  rw [e, List.getElem?_append_left hj]
theorem own_len3 {xs ys : List Int32} {b : Int32} : (own_enc (xs ++ b :: ys)).length = (own_enc xs).length + (own_e1 b).length + (own_enc ys).length := by
  rw [own_enc_app, own_enc_cons]; simp only [List.length_append]; omega
theorem own_len1 {xs : List Int32} {b : Int32} : (own_enc (xs ++ [b])).length = (own_enc xs).length + (own_e1 b).length := by
  rw [own_enc_app, own_enc_one, List.length_append]
theorem own_d_method_5_code_0 : decode method_5_code 0 = .ok (.iload_n 1, 1) := by decide +kernel
theorem own_d_method_5_code_1 : decode method_5_code 1 = .ok (.ifCond .ge 5, 3) := by decide +kernel
theorem own_d_method_5_code_6 : decode method_5_code 6 = .ok (.iload_n 2, 1) := by decide +kernel
theorem own_d_method_5_code_7 : decode method_5_code 7 = .ok (.sipush 128, 3) := by decide +kernel
theorem own_d_method_5_code_10 : decode method_5_code 10 = .ok (.if_icmp .ge 27, 3) := by decide +kernel
theorem own_d_method_5_code_13 : decode method_5_code 13 = .ok (.iload_n 1, 1) := by decide +kernel
theorem own_d_method_5_code_14 : decode method_5_code 14 = .ok (.aload_n 0, 1) := by decide +kernel
theorem own_d_method_5_code_15 : decode method_5_code 15 = .ok (.arraylength, 1) := by decide +kernel
theorem own_d_method_5_code_16 : decode method_5_code 16 = .ok (.if_icmp .lt 5, 3) := by decide +kernel
theorem own_d_method_5_code_21 : decode method_5_code 21 = .ok (.aload_n 0, 1) := by decide +kernel
theorem own_d_method_5_code_22 : decode method_5_code 22 = .ok (.iload_n 1, 1) := by decide +kernel
theorem own_d_method_5_code_23 : decode method_5_code 23 = .ok (.baload, 1) := by decide +kernel
theorem own_d_method_5_code_24 : decode method_5_code 24 = .ok (.iload_n 2, 1) := by decide +kernel
theorem own_d_method_5_code_25 : decode method_5_code 25 = .ok (.i2b, 1) := by decide +kernel
theorem own_d_method_5_code_26 : decode method_5_code 26 = .ok (.if_icmp .ne 9, 3) := by decide +kernel
theorem own_d_method_5_code_29 : decode method_5_code 29 = .ok (.iload_n 1, 1) := by decide +kernel
theorem own_d_method_5_code_30 : decode method_5_code 30 = .ok (.iconst 1, 1) := by decide +kernel
theorem own_d_method_5_code_31 : decode method_5_code 31 = .ok (.iadd, 1) := by decide +kernel
theorem own_d_method_5_code_32 : decode method_5_code 32 = .ok (.goto 4, 3) := by decide +kernel
theorem own_d_method_5_code_36 : decode method_5_code 36 = .ok (.ireturn, 1) := by decide +kernel
theorem own_d_method_5_code_37 : decode method_5_code 37 = .ok (.iload_n 1, 1) := by decide +kernel
theorem own_d_method_5_code_38 : decode method_5_code 38 = .ok (.iconst 1, 1) := by decide +kernel
theorem own_d_method_5_code_39 : decode method_5_code 39 = .ok (.iadd, 1) := by decide +kernel
theorem own_d_method_5_code_40 : decode method_5_code 40 = .ok (.aload_n 0, 1) := by decide +kernel
theorem own_d_method_5_code_41 : decode method_5_code 41 = .ok (.arraylength, 1) := by decide +kernel
theorem own_d_method_5_code_42 : decode method_5_code 42 = .ok (.if_icmp .lt 5, 3) := by decide +kernel
theorem own_d_method_5_code_47 : decode method_5_code 47 = .ok (.aload_n 0, 1) := by decide +kernel
theorem own_d_method_5_code_48 : decode method_5_code 48 = .ok (.iload_n 1, 1) := by decide +kernel
theorem own_d_method_5_code_49 : decode method_5_code 49 = .ok (.baload, 1) := by decide +kernel
theorem own_d_method_5_code_50 : decode method_5_code 50 = .ok (.sipush 192, 3) := by decide +kernel
theorem own_d_method_5_code_53 : decode method_5_code 53 = .ok (.iload_n 2, 1) := by decide +kernel
theorem own_d_method_5_code_54 : decode method_5_code 54 = .ok (.bipush 6, 2) := by decide +kernel
theorem own_d_method_5_code_56 : decode method_5_code 56 = .ok (.ishr, 1) := by decide +kernel
theorem own_d_method_5_code_57 : decode method_5_code 57 = .ok (.ior, 1) := by decide +kernel
theorem own_d_method_5_code_58 : decode method_5_code 58 = .ok (.i2b, 1) := by decide +kernel
theorem own_d_method_5_code_59 : decode method_5_code 59 = .ok (.if_icmp .ne 24, 3) := by decide +kernel
theorem own_d_method_5_code_62 : decode method_5_code 62 = .ok (.aload_n 0, 1) := by decide +kernel
theorem own_d_method_5_code_63 : decode method_5_code 63 = .ok (.iload_n 1, 1) := by decide +kernel
theorem own_d_method_5_code_64 : decode method_5_code 64 = .ok (.iconst 1, 1) := by decide +kernel
theorem own_d_method_5_code_65 : decode method_5_code 65 = .ok (.iadd, 1) := by decide +kernel
theorem own_d_method_5_code_66 : decode method_5_code 66 = .ok (.baload, 1) := by decide +kernel
theorem own_d_method_5_code_67 : decode method_5_code 67 = .ok (.sipush 128, 3) := by decide +kernel
theorem own_d_method_5_code_70 : decode method_5_code 70 = .ok (.iload_n 2, 1) := by decide +kernel
theorem own_d_method_5_code_71 : decode method_5_code 71 = .ok (.bipush 63, 2) := by decide +kernel
theorem own_d_method_5_code_73 : decode method_5_code 73 = .ok (.iand, 1) := by decide +kernel
theorem own_d_method_5_code_74 : decode method_5_code 74 = .ok (.ior, 1) := by decide +kernel
theorem own_d_method_5_code_75 : decode method_5_code 75 = .ok (.i2b, 1) := by decide +kernel
theorem own_d_method_5_code_76 : decode method_5_code 76 = .ok (.if_icmp .ne 7, 3) := by decide +kernel
theorem own_d_method_5_code_79 : decode method_5_code 79 = .ok (.iload_n 1, 1) := by decide +kernel
theorem own_d_method_5_code_80 : decode method_5_code 80 = .ok (.iconst 2, 1) := by decide +kernel
theorem own_d_method_5_code_81 : decode method_5_code 81 = .ok (.iadd, 1) := by decide +kernel
theorem own_d_method_5_code_82 : decode method_5_code 82 = .ok (.ireturn, 1) := by decide +kernel
theorem own_ef_stp (m : MethodId) (x0 : Addr) (x1 : Int32) (x2 : Int32) : entryFrame m #[(.ref x0), (.int x1), (.int x2)] 3 = mkF m 0 #[.val (.ref x0), .val (.int x1), .val (.int x2)] [] := by first | (simp [entryFrame, mkF, argsToLocals, Value.category]; done) | rfl
def own_Q_stp (Z : State) (w : Addr) (kw : ClassId) (bs xs ys zs : List Int32) (ch : Int32) (h0 : Heap) (n0 : Nat) (v : Option Value) (h : Heap) (L : List Loc) : Prop := v = some (.int (Int32.ofNat (own_enc zs).length)) ∧ Fr n0 L ∧ h = h0
set_option maxRecDepth 65536 in
set_option maxHeartbeats 40000000 in
theorem own_rm_stp (l : Launch) (Z : State) (a0 : Array Value) (hw : ∀ d ∈ tables_1, d.before a0 Z = true) (ws : List Jvm.Cond) (w : Addr) (kw : ClassId) (bs xs ys zs : List Int32) (ch : Int32) (h0 : Heap) (n0 : Nat) (Z0 : n0 ≤ h0.size) (hbs : bs = xs ++ ch.toInt8.toInt32 :: ys) (hzs : zs = xs ++ [ch.toInt8.toInt32]) (V_w : Arv Z h0 w kw .byte (Int32.ofNat (own_enc bs).length) ((own_enc bs).map Value.int) (.int 0)) (hc : (¬ ch < 0 ∧ ¬ (255 : Int32) < ch)) (hk : (own_enc bs).length ≤ 48) :
    MetFree l (⟨"com/example/highwater/highwater/config/TokenSecretFromTextPinLaw", "step", "([BIC)I"⟩ : MethodName) (head1 (Jvm.Cond.code (⟨"com/example/highwater/highwater/config/TokenSecretFromTextPinLaw", "step", "([BIC)I"⟩ : MethodName) method_5_code 3 (some .int) :: ws) ({ frames := 0, cells := 0, slots := 0, locals := 0 } : Room)) (fun aa UU => aa = #[(.ref w), (.int (Int32.ofNat (own_enc xs).length)), (.int ch)] ∧ Z.Warmed39 UU.vm ∧ UU.heap = h0) (fun _ _ _ _ _ => True) (fun _ UU oo UU' => ∃ vv LL, oo = .returned vv ∧ own_Q_stp Z w kw bs xs ys zs ch h0 n0 vv UU'.heap LL ∧ FrameEnd UU oo UU' LL ({ frames := 0, cells := 0, slots := 0, locals := 0 } : Room).cells ({ frames := 0, cells := 0, slots := 0, locals := 0 } : Room).slots) := by
  refine MetFree.of_bodySF (plainFor_of_name own_pn0) hisR ?_
  intro p e s m args below meth c s₁ Bd hml0 hP hK
  obtain ⟨rfl, hZ, hh⟩ := hP
  have hx := Bd.exec
  have hby := Bd.bytes
  have hml : c.maxLocals = 3 := hml0
  have hown : s.vm.findClass "com/example/highwater/highwater/config/TokenSecretFromTextPinLaw" = some m.cls := findClass_of_methodNamed Bd.named
  have hnm := (name_of_methodNamed Bd.named Bd.method).1
  have X0 : Stand p l e ({ frames := 0, cells := 0, slots := 0, locals := 0 } : Room) s m #[(.ref w), (.int (Int32.ofNat (own_enc xs).length)), (.int ch)] below meth c s₁ [] 0 0 := Stand.of_body Bd
  have e0 : s₁.heap = h0 := by rw [← hh, Bd.state]; rfl
  have N0 := Fr.nil n0
  show own_Gl p e below (own_Post s (own_Q_stp Z w kw bs xs ys zs ch h0 n0) ({ frames := 0, cells := 0, slots := 0, locals := 0 } : Room).cells ({ frames := 0, cells := 0, slots := 0, locals := 0 } : Room).slots) _
  refine own_st (fun tg_ kg_ => castTop (own_ef_stp m w (Int32.ofNat (own_enc xs).length) ch) kg_) ?_
  show own_Gl p e below _ (s₁.setTop (mkF m 0 #[.val (.ref w), .val (.int (Int32.ofNat (own_enc xs).length)), .val (.int ch)] []))
  have hN : (own_enc bs).length = (own_enc xs).length + (own_e1 (ch.toInt8.toInt32)).length + (own_enc ys).length := by rw [hbs]; exact own_len3
  have hL := own_e1_len (ch.toInt8.toInt32)
  have hnn : ¬ Int32.ofNat (own_enc xs).length < 0 := own_ofn_nn (by omega)
  have hncl : (Int32.ofNat (own_enc xs).length).toNatClampNeg = (own_enc xs).length := own_ofn_clamp (by omega)
  refine own_st (fun tg_ kg_ => XS.iloadN X0.here hx rfl (hb hby own_d_method_5_code_0) rfl kg_) ?_
  show own_Gl p e below _ (s₁.setTop (mkF m 1 #[.val (.ref w), .val (.int (Int32.ofNat (own_enc xs).length)), .val (.int ch)] [(.int (Int32.ofNat (own_enc xs).length))]))
  refine own_st (fun tg_ kg_ => XS.ifYes X0.here hx rfl (pc0 := 1) (pc' := 6) rfl (hb hby own_d_method_5_code_1) rfl ((if0 _ _).trans (flt (hnn)).2.1) (by decide) (by decide) kg_) ?_
  show own_Gl p e below _ (s₁.setTop (mkF m 6 #[.val (.ref w), .val (.int (Int32.ofNat (own_enc xs).length)), .val (.int ch)] []))
  refine own_st (fun tg_ kg_ => XS.iloadN X0.here hx rfl (hb hby own_d_method_5_code_6) rfl kg_) ?_
  show own_Gl p e below _ (s₁.setTop (mkF m 7 #[.val (.ref w), .val (.int (Int32.ofNat (own_enc xs).length)), .val (.int ch)] [(.int ch)]))
  refine own_st (fun tg_ kg_ => XS.sipush X0.here hx rfl (hb hby own_d_method_5_code_7) kg_) ?_
  show own_Gl p e below _ (s₁.setTop (mkF m 10 #[.val (.ref w), .val (.int (Int32.ofNat (own_enc xs).length)), .val (.int ch)] [(.int (128 : Int32)), (.int ch)]))
  by_cases h128 : ch < (128 : Int32)
  ·
    have hbp : ch.toInt8.toInt32 = ch := own_b_pos hc.1 h128
    have he1 : own_e1 (ch.toInt8.toInt32) = [ch.toInt8.toInt32] := own_e1_pos (by rw [hbp]; exact hc.1)
    show own_Gl p e below _ (s₁.setTop (mkF m 10 #[.val (.ref w), .val (.int (Int32.ofNat (own_enc xs).length)), .val (.int ch)] [(.int (128 : Int32)), (.int ch)]))
    refine own_st (fun tg_ kg_ => XS.icmpNo X0.here hx rfl (hb hby own_d_method_5_code_10) rfl (tlt (h128)).2.1 kg_) ?_
    show own_Gl p e below _ (s₁.setTop (mkF m 13 #[.val (.ref w), .val (.int (Int32.ofNat (own_enc xs).length)), .val (.int ch)] []))
    refine own_st (fun tg_ kg_ => XS.iloadN X0.here hx rfl (hb hby own_d_method_5_code_13) rfl kg_) ?_
    show own_Gl p e below _ (s₁.setTop (mkF m 14 #[.val (.ref w), .val (.int (Int32.ofNat (own_enc xs).length)), .val (.int ch)] [(.int (Int32.ofNat (own_enc xs).length))]))
    refine own_st (fun tg_ kg_ => XS.aloadN X0.here hx rfl (hb hby own_d_method_5_code_14) rfl rfl kg_) ?_
    show own_Gl p e below _ (s₁.setTop (mkF m 15 #[.val (.ref w), .val (.int (Int32.ofNat (own_enc xs).length)), .val (.int ch)] [(.ref w), (.int (Int32.ofNat (own_enc xs).length))]))
    obtain ⟨cl1, Ar1, qa1, Sa1, Na1, Ha1, Ga1⟩ := id V_w
    refine own_st (fun tg_ kg_ => X0.arraylength hx (by rw [e0]; exact Ar1.1) (State.isArrayOf_alike hZ.alike Ar1.2.1) (g := (mkF m 15 #[.val (.ref w), .val (.int (Int32.ofNat (own_enc xs).length)), .val (.int ch)] [(.ref w), (.int (Int32.ofNat (own_enc xs).length))])) rfl rfl (hb hby own_d_method_5_code_15) _ kg_) ?_
    rw [len_of Sa1 Na1]
    show own_Gl p e below _ (s₁.setTop (mkF m 16 #[.val (.ref w), .val (.int (Int32.ofNat (own_enc xs).length)), .val (.int ch)] [(.int (Int32.ofNat (own_enc bs).length)), (.int (Int32.ofNat (own_enc xs).length))]))
    refine own_st (fun tg_ kg_ => XS.icmpYes X0.here hx rfl (pc0 := 16) (pc' := 21) rfl (hb hby own_d_method_5_code_16) rfl (tlt ((own_ofn_lt (by omega) (by omega)).mpr (by omega))).1 (by decide) (by decide) kg_) ?_
    show own_Gl p e below _ (s₁.setTop (mkF m 21 #[.val (.ref w), .val (.int (Int32.ofNat (own_enc xs).length)), .val (.int ch)] []))
    refine own_st (fun tg_ kg_ => XS.aloadN X0.here hx rfl (hb hby own_d_method_5_code_21) rfl rfl kg_) ?_
    show own_Gl p e below _ (s₁.setTop (mkF m 22 #[.val (.ref w), .val (.int (Int32.ofNat (own_enc xs).length)), .val (.int ch)] [(.ref w)]))
    refine own_st (fun tg_ kg_ => XS.iloadN X0.here hx rfl (hb hby own_d_method_5_code_22) rfl kg_) ?_
    show own_Gl p e below _ (s₁.setTop (mkF m 23 #[.val (.ref w), .val (.int (Int32.ofNat (own_enc xs).length)), .val (.int ch)] [(.int (Int32.ofNat (own_enc xs).length)), (.ref w)]))
    obtain ⟨cl2, Ar2, qa2, Sa2, Na2, Ha2, Ga2⟩ := id V_w
    have hin3 : ¬ ((Int32.ofNat (own_enc xs).length) < 0 ∨ cl2.slots.size ≤ ((Int32.ofNat (own_enc xs).length)).toNatClampNeg) := inb_of Sa2 ⟨hnn, (own_ofn_lt (by omega) (by omega)).mpr (by omega)⟩
    have hat3 : cl2.slots[((Int32.ofNat (own_enc xs).length)).toNatClampNeg]? = some (.int (ch.toInt8.toInt32)) := Has.at Ha2 hin3 (by rw [hncl, ← Nat.add_zero (own_enc xs).length, own_getm]; congr 1; rw [hbs, own_at 0 (by rw [he1]; simp), he1]; rfl)
    refine own_st (fun tg_ kg_ => X0.baloadBytes hx (j := (Int32.ofNat (own_enc xs).length)) (v := (.int (ch.toInt8.toInt32))) (by rw [e0]; exact Ar2.1) (State.isArrayOf_alike hZ.alike Ar2.2.1) Ar2.2.2 hin3 hat3 (g := (mkF m 23 #[.val (.ref w), .val (.int (Int32.ofNat (own_enc xs).length)), .val (.int ch)] [(.int (Int32.ofNat (own_enc xs).length)), (.ref w)])) rfl rfl (hb hby own_d_method_5_code_23) _ kg_) ?_
    show own_Gl p e below _ (s₁.setTop (mkF m 24 #[.val (.ref w), .val (.int (Int32.ofNat (own_enc xs).length)), .val (.int ch)] [(.int (ch.toInt8.toInt32))]))
    refine own_st (fun tg_ kg_ => XS.iloadN X0.here hx rfl (hb hby own_d_method_5_code_24) rfl kg_) ?_
    show own_Gl p e below _ (s₁.setTop (mkF m 25 #[.val (.ref w), .val (.int (Int32.ofNat (own_enc xs).length)), .val (.int ch)] [(.int ch), (.int (ch.toInt8.toInt32))]))
    refine own_st (fun tg_ kg_ => XS.i2b X0.here hx rfl (hb hby own_d_method_5_code_25) rfl kg_) ?_
    show own_Gl p e below _ (s₁.setTop (mkF m 26 #[.val (.ref w), .val (.int (Int32.ofNat (own_enc xs).length)), .val (.int ch)] [(.int (ch.toInt8.toInt32)), (.int (ch.toInt8.toInt32))]))
    refine own_st (fun tg_ kg_ => XS.icmpNo X0.here hx rfl (hb hby own_d_method_5_code_26) rfl (teq ((rfl : (ch.toInt8.toInt32) = (ch.toInt8.toInt32)))).2 kg_) ?_
    show own_Gl p e below _ (s₁.setTop (mkF m 29 #[.val (.ref w), .val (.int (Int32.ofNat (own_enc xs).length)), .val (.int ch)] []))
    refine own_st (fun tg_ kg_ => XS.iloadN X0.here hx rfl (hb hby own_d_method_5_code_29) rfl kg_) ?_
    show own_Gl p e below _ (s₁.setTop (mkF m 30 #[.val (.ref w), .val (.int (Int32.ofNat (own_enc xs).length)), .val (.int ch)] [(.int (Int32.ofNat (own_enc xs).length))]))
    refine own_st (fun tg_ kg_ => XS.iconst X0.here hx rfl (hb hby own_d_method_5_code_30) kg_) ?_
    show own_Gl p e below _ (s₁.setTop (mkF m 31 #[.val (.ref w), .val (.int (Int32.ofNat (own_enc xs).length)), .val (.int ch)] [(.int (1 : Int32)), (.int (Int32.ofNat (own_enc xs).length))]))
    refine own_st (fun tg_ kg_ => XS.iadd X0.here hx rfl (hb hby own_d_method_5_code_31) rfl kg_) ?_
    show own_Gl p e below _ (s₁.setTop (mkF m 32 #[.val (.ref w), .val (.int (Int32.ofNat (own_enc xs).length)), .val (.int ch)] [(.int ((Int32.ofNat (own_enc xs).length) + (1 : Int32)))]))
    refine own_st (fun tg_ kg_ => XS.goto X0.here hx rfl (pc0 := 32) (pc' := 36) rfl (hb hby own_d_method_5_code_32) (by decide) (by decide) kg_) ?_
    show own_Gl p e below _ (s₁.setTop (mkF m 36 #[.val (.ref w), .val (.int (Int32.ofNat (own_enc xs).length)), .val (.int ch)] [(.int ((Int32.ofNat (own_enc xs).length) + (1 : Int32)))]))
    exact own_retI X0 hx Bd.notSynchronized Bd.returns (hb hby own_d_method_5_code_36) (by decide) (by decide) e0 (⟨congrArg (fun z => some (Value.int z)) ((own_ofn_add _ 1).trans (by rw [hzs, own_len1, he1]; rfl)), N0, rfl⟩)
  ·
    have he1 := own_e1_neg (own_b_neg h128 hc.2)
    rw [own_b_255 hc.1 hc.2, own_b_63 hc.1 hc.2] at he1
    have hl2 : (own_e1 (ch.toInt8.toInt32)).length = 2 := own_e1_len2 (own_b_neg h128 hc.2)
    show own_Gl p e below _ (s₁.setTop (mkF m 10 #[.val (.ref w), .val (.int (Int32.ofNat (own_enc xs).length)), .val (.int ch)] [(.int (128 : Int32)), (.int ch)]))
    refine own_st (fun tg_ kg_ => XS.icmpYes X0.here hx rfl (pc0 := 10) (pc' := 37) rfl (hb hby own_d_method_5_code_10) rfl (flt (h128)).2.1 (by decide) (by decide) kg_) ?_
    show own_Gl p e below _ (s₁.setTop (mkF m 37 #[.val (.ref w), .val (.int (Int32.ofNat (own_enc xs).length)), .val (.int ch)] []))
    refine own_st (fun tg_ kg_ => XS.iloadN X0.here hx rfl (hb hby own_d_method_5_code_37) rfl kg_) ?_
    show own_Gl p e below _ (s₁.setTop (mkF m 38 #[.val (.ref w), .val (.int (Int32.ofNat (own_enc xs).length)), .val (.int ch)] [(.int (Int32.ofNat (own_enc xs).length))]))
    refine own_st (fun tg_ kg_ => XS.iconst X0.here hx rfl (hb hby own_d_method_5_code_38) kg_) ?_
    show own_Gl p e below _ (s₁.setTop (mkF m 39 #[.val (.ref w), .val (.int (Int32.ofNat (own_enc xs).length)), .val (.int ch)] [(.int (1 : Int32)), (.int (Int32.ofNat (own_enc xs).length))]))
    refine own_st (fun tg_ kg_ => XS.iadd X0.here hx rfl (hb hby own_d_method_5_code_39) rfl kg_) ?_
    show own_Gl p e below _ (s₁.setTop (mkF m 40 #[.val (.ref w), .val (.int (Int32.ofNat (own_enc xs).length)), .val (.int ch)] [(.int ((Int32.ofNat (own_enc xs).length) + (1 : Int32)))]))
    refine own_st (fun tg_ kg_ => XS.aloadN X0.here hx rfl (hb hby own_d_method_5_code_40) rfl rfl kg_) ?_
    show own_Gl p e below _ (s₁.setTop (mkF m 41 #[.val (.ref w), .val (.int (Int32.ofNat (own_enc xs).length)), .val (.int ch)] [(.ref w), (.int ((Int32.ofNat (own_enc xs).length) + (1 : Int32)))]))
    obtain ⟨cl4, Ar4, qa4, Sa4, Na4, Ha4, Ga4⟩ := id V_w
    refine own_st (fun tg_ kg_ => X0.arraylength hx (by rw [e0]; exact Ar4.1) (State.isArrayOf_alike hZ.alike Ar4.2.1) (g := (mkF m 41 #[.val (.ref w), .val (.int (Int32.ofNat (own_enc xs).length)), .val (.int ch)] [(.ref w), (.int ((Int32.ofNat (own_enc xs).length) + (1 : Int32)))])) rfl rfl (hb hby own_d_method_5_code_41) _ kg_) ?_
    rw [len_of Sa4 Na4]
    show own_Gl p e below _ (s₁.setTop (mkF m 42 #[.val (.ref w), .val (.int (Int32.ofNat (own_enc xs).length)), .val (.int ch)] [(.int (Int32.ofNat (own_enc bs).length)), (.int ((Int32.ofNat (own_enc xs).length) + (1 : Int32)))]))
    have hadd : Int32.ofNat (own_enc xs).length + (1 : Int32) = Int32.ofNat ((own_enc xs).length + 1) := own_ofn_add _ 1
    refine own_st (fun tg_ kg_ => XS.icmpYes X0.here hx rfl (pc0 := 42) (pc' := 47) rfl (hb hby own_d_method_5_code_42) rfl (tlt (by rw [hadd]; exact (own_ofn_lt (by omega) (by omega)).mpr (by omega))).1 (by decide) (by decide) kg_) ?_
    show own_Gl p e below _ (s₁.setTop (mkF m 47 #[.val (.ref w), .val (.int (Int32.ofNat (own_enc xs).length)), .val (.int ch)] []))
    refine own_st (fun tg_ kg_ => XS.aloadN X0.here hx rfl (hb hby own_d_method_5_code_47) rfl rfl kg_) ?_
    show own_Gl p e below _ (s₁.setTop (mkF m 48 #[.val (.ref w), .val (.int (Int32.ofNat (own_enc xs).length)), .val (.int ch)] [(.ref w)]))
    refine own_st (fun tg_ kg_ => XS.iloadN X0.here hx rfl (hb hby own_d_method_5_code_48) rfl kg_) ?_
    show own_Gl p e below _ (s₁.setTop (mkF m 49 #[.val (.ref w), .val (.int (Int32.ofNat (own_enc xs).length)), .val (.int ch)] [(.int (Int32.ofNat (own_enc xs).length)), (.ref w)]))
    obtain ⟨cl5, Ar5, qa5, Sa5, Na5, Ha5, Ga5⟩ := id V_w
    have hin6 : ¬ ((Int32.ofNat (own_enc xs).length) < 0 ∨ cl5.slots.size ≤ ((Int32.ofNat (own_enc xs).length)).toNatClampNeg) := inb_of Sa5 ⟨hnn, (own_ofn_lt (by omega) (by omega)).mpr (by omega)⟩
    have hat6 : cl5.slots[((Int32.ofNat (own_enc xs).length)).toNatClampNeg]? = some (.int (((192 : Int32) ||| (ch >>> ((6 : Int32) &&& 31))).toInt8.toInt32)) := Has.at Ha5 hin6 (by rw [hncl, ← Nat.add_zero (own_enc xs).length, own_getm]; congr 1; rw [hbs, own_at 0 (by rw [he1]; simp), he1]; rfl)
    refine own_st (fun tg_ kg_ => X0.baloadBytes hx (j := (Int32.ofNat (own_enc xs).length)) (v := (.int (((192 : Int32) ||| (ch >>> ((6 : Int32) &&& 31))).toInt8.toInt32))) (by rw [e0]; exact Ar5.1) (State.isArrayOf_alike hZ.alike Ar5.2.1) Ar5.2.2 hin6 hat6 (g := (mkF m 49 #[.val (.ref w), .val (.int (Int32.ofNat (own_enc xs).length)), .val (.int ch)] [(.int (Int32.ofNat (own_enc xs).length)), (.ref w)])) rfl rfl (hb hby own_d_method_5_code_49) _ kg_) ?_
    show own_Gl p e below _ (s₁.setTop (mkF m 50 #[.val (.ref w), .val (.int (Int32.ofNat (own_enc xs).length)), .val (.int ch)] [(.int (((192 : Int32) ||| (ch >>> ((6 : Int32) &&& 31))).toInt8.toInt32))]))
    refine own_st (fun tg_ kg_ => XS.sipush X0.here hx rfl (hb hby own_d_method_5_code_50) kg_) ?_
    show own_Gl p e below _ (s₁.setTop (mkF m 53 #[.val (.ref w), .val (.int (Int32.ofNat (own_enc xs).length)), .val (.int ch)] [(.int (192 : Int32)), (.int (((192 : Int32) ||| (ch >>> ((6 : Int32) &&& 31))).toInt8.toInt32))]))
    refine own_st (fun tg_ kg_ => XS.iloadN X0.here hx rfl (hb hby own_d_method_5_code_53) rfl kg_) ?_
    show own_Gl p e below _ (s₁.setTop (mkF m 54 #[.val (.ref w), .val (.int (Int32.ofNat (own_enc xs).length)), .val (.int ch)] [(.int ch), (.int (192 : Int32)), (.int (((192 : Int32) ||| (ch >>> ((6 : Int32) &&& 31))).toInt8.toInt32))]))
    refine own_st (fun tg_ kg_ => XS.bipush X0.here hx rfl (hb hby own_d_method_5_code_54) kg_) ?_
    show own_Gl p e below _ (s₁.setTop (mkF m 56 #[.val (.ref w), .val (.int (Int32.ofNat (own_enc xs).length)), .val (.int ch)] [(.int (6 : Int32)), (.int ch), (.int (192 : Int32)), (.int (((192 : Int32) ||| (ch >>> ((6 : Int32) &&& 31))).toInt8.toInt32))]))
    refine own_st (fun tg_ kg_ => XS.ishr X0.here hx rfl (hb hby own_d_method_5_code_56) rfl kg_) ?_
    show own_Gl p e below _ (s₁.setTop (mkF m 57 #[.val (.ref w), .val (.int (Int32.ofNat (own_enc xs).length)), .val (.int ch)] [(.int (ch >>> ((6 : Int32) &&& 31))), (.int (192 : Int32)), (.int (((192 : Int32) ||| (ch >>> ((6 : Int32) &&& 31))).toInt8.toInt32))]))
    refine own_st (fun tg_ kg_ => XS.ior X0.here hx rfl (hb hby own_d_method_5_code_57) rfl kg_) ?_
    show own_Gl p e below _ (s₁.setTop (mkF m 58 #[.val (.ref w), .val (.int (Int32.ofNat (own_enc xs).length)), .val (.int ch)] [(.int ((192 : Int32) ||| (ch >>> ((6 : Int32) &&& 31)))), (.int (((192 : Int32) ||| (ch >>> ((6 : Int32) &&& 31))).toInt8.toInt32))]))
    refine own_st (fun tg_ kg_ => XS.i2b X0.here hx rfl (hb hby own_d_method_5_code_58) rfl kg_) ?_
    show own_Gl p e below _ (s₁.setTop (mkF m 59 #[.val (.ref w), .val (.int (Int32.ofNat (own_enc xs).length)), .val (.int ch)] [(.int (((192 : Int32) ||| (ch >>> ((6 : Int32) &&& 31))).toInt8.toInt32)), (.int (((192 : Int32) ||| (ch >>> ((6 : Int32) &&& 31))).toInt8.toInt32))]))
    refine own_st (fun tg_ kg_ => XS.icmpNo X0.here hx rfl (hb hby own_d_method_5_code_59) rfl (teq ((rfl : (((192 : Int32) ||| (ch >>> ((6 : Int32) &&& 31))).toInt8.toInt32) = (((192 : Int32) ||| (ch >>> ((6 : Int32) &&& 31))).toInt8.toInt32)))).2 kg_) ?_
    show own_Gl p e below _ (s₁.setTop (mkF m 62 #[.val (.ref w), .val (.int (Int32.ofNat (own_enc xs).length)), .val (.int ch)] []))
    refine own_st (fun tg_ kg_ => XS.aloadN X0.here hx rfl (hb hby own_d_method_5_code_62) rfl rfl kg_) ?_
    show own_Gl p e below _ (s₁.setTop (mkF m 63 #[.val (.ref w), .val (.int (Int32.ofNat (own_enc xs).length)), .val (.int ch)] [(.ref w)]))
    refine own_st (fun tg_ kg_ => XS.iloadN X0.here hx rfl (hb hby own_d_method_5_code_63) rfl kg_) ?_
    show own_Gl p e below _ (s₁.setTop (mkF m 64 #[.val (.ref w), .val (.int (Int32.ofNat (own_enc xs).length)), .val (.int ch)] [(.int (Int32.ofNat (own_enc xs).length)), (.ref w)]))
    refine own_st (fun tg_ kg_ => XS.iconst X0.here hx rfl (hb hby own_d_method_5_code_64) kg_) ?_
    show own_Gl p e below _ (s₁.setTop (mkF m 65 #[.val (.ref w), .val (.int (Int32.ofNat (own_enc xs).length)), .val (.int ch)] [(.int (1 : Int32)), (.int (Int32.ofNat (own_enc xs).length)), (.ref w)]))
    refine own_st (fun tg_ kg_ => XS.iadd X0.here hx rfl (hb hby own_d_method_5_code_65) rfl kg_) ?_
    show own_Gl p e below _ (s₁.setTop (mkF m 66 #[.val (.ref w), .val (.int (Int32.ofNat (own_enc xs).length)), .val (.int ch)] [(.int ((Int32.ofNat (own_enc xs).length) + (1 : Int32))), (.ref w)]))
    obtain ⟨cl7, Ar7, qa7, Sa7, Na7, Ha7, Ga7⟩ := id V_w
    have hin8 : ¬ (((Int32.ofNat (own_enc xs).length) + (1 : Int32)) < 0 ∨ cl7.slots.size ≤ (((Int32.ofNat (own_enc xs).length) + (1 : Int32))).toNatClampNeg) := inb_of Sa7 (by rw [hadd]; exact ⟨own_ofn_nn (by omega), (own_ofn_lt (by omega) (by omega)).mpr (by omega)⟩)
    have hat8 : cl7.slots[(((Int32.ofNat (own_enc xs).length) + (1 : Int32))).toNatClampNeg]? = some (.int (((128 : Int32) ||| (ch &&& (63 : Int32))).toInt8.toInt32)) := Has.at Ha7 hin8 (by rw [hadd, own_ofn_clamp (show (own_enc xs).length + 1 < 2 ^ 31 by omega), own_getm]; congr 1; rw [hbs, own_at 1 (by rw [he1]; simp), he1]; rfl)
    refine own_st (fun tg_ kg_ => X0.baloadBytes hx (j := ((Int32.ofNat (own_enc xs).length) + (1 : Int32))) (v := (.int (((128 : Int32) ||| (ch &&& (63 : Int32))).toInt8.toInt32))) (by rw [e0]; exact Ar7.1) (State.isArrayOf_alike hZ.alike Ar7.2.1) Ar7.2.2 hin8 hat8 (g := (mkF m 66 #[.val (.ref w), .val (.int (Int32.ofNat (own_enc xs).length)), .val (.int ch)] [(.int ((Int32.ofNat (own_enc xs).length) + (1 : Int32))), (.ref w)])) rfl rfl (hb hby own_d_method_5_code_66) _ kg_) ?_
    show own_Gl p e below _ (s₁.setTop (mkF m 67 #[.val (.ref w), .val (.int (Int32.ofNat (own_enc xs).length)), .val (.int ch)] [(.int (((128 : Int32) ||| (ch &&& (63 : Int32))).toInt8.toInt32))]))
    refine own_st (fun tg_ kg_ => XS.sipush X0.here hx rfl (hb hby own_d_method_5_code_67) kg_) ?_
    show own_Gl p e below _ (s₁.setTop (mkF m 70 #[.val (.ref w), .val (.int (Int32.ofNat (own_enc xs).length)), .val (.int ch)] [(.int (128 : Int32)), (.int (((128 : Int32) ||| (ch &&& (63 : Int32))).toInt8.toInt32))]))
    refine own_st (fun tg_ kg_ => XS.iloadN X0.here hx rfl (hb hby own_d_method_5_code_70) rfl kg_) ?_
    show own_Gl p e below _ (s₁.setTop (mkF m 71 #[.val (.ref w), .val (.int (Int32.ofNat (own_enc xs).length)), .val (.int ch)] [(.int ch), (.int (128 : Int32)), (.int (((128 : Int32) ||| (ch &&& (63 : Int32))).toInt8.toInt32))]))
    refine own_st (fun tg_ kg_ => XS.bipush X0.here hx rfl (hb hby own_d_method_5_code_71) kg_) ?_
    show own_Gl p e below _ (s₁.setTop (mkF m 73 #[.val (.ref w), .val (.int (Int32.ofNat (own_enc xs).length)), .val (.int ch)] [(.int (63 : Int32)), (.int ch), (.int (128 : Int32)), (.int (((128 : Int32) ||| (ch &&& (63 : Int32))).toInt8.toInt32))]))
    refine own_st (fun tg_ kg_ => XS.iand X0.here hx rfl (hb hby own_d_method_5_code_73) rfl kg_) ?_
    show own_Gl p e below _ (s₁.setTop (mkF m 74 #[.val (.ref w), .val (.int (Int32.ofNat (own_enc xs).length)), .val (.int ch)] [(.int (ch &&& (63 : Int32))), (.int (128 : Int32)), (.int (((128 : Int32) ||| (ch &&& (63 : Int32))).toInt8.toInt32))]))
    refine own_st (fun tg_ kg_ => XS.ior X0.here hx rfl (hb hby own_d_method_5_code_74) rfl kg_) ?_
    show own_Gl p e below _ (s₁.setTop (mkF m 75 #[.val (.ref w), .val (.int (Int32.ofNat (own_enc xs).length)), .val (.int ch)] [(.int ((128 : Int32) ||| (ch &&& (63 : Int32)))), (.int (((128 : Int32) ||| (ch &&& (63 : Int32))).toInt8.toInt32))]))
    refine own_st (fun tg_ kg_ => XS.i2b X0.here hx rfl (hb hby own_d_method_5_code_75) rfl kg_) ?_
    show own_Gl p e below _ (s₁.setTop (mkF m 76 #[.val (.ref w), .val (.int (Int32.ofNat (own_enc xs).length)), .val (.int ch)] [(.int (((128 : Int32) ||| (ch &&& (63 : Int32))).toInt8.toInt32)), (.int (((128 : Int32) ||| (ch &&& (63 : Int32))).toInt8.toInt32))]))
    refine own_st (fun tg_ kg_ => XS.icmpNo X0.here hx rfl (hb hby own_d_method_5_code_76) rfl (teq ((rfl : (((128 : Int32) ||| (ch &&& (63 : Int32))).toInt8.toInt32) = (((128 : Int32) ||| (ch &&& (63 : Int32))).toInt8.toInt32)))).2 kg_) ?_
    show own_Gl p e below _ (s₁.setTop (mkF m 79 #[.val (.ref w), .val (.int (Int32.ofNat (own_enc xs).length)), .val (.int ch)] []))
    refine own_st (fun tg_ kg_ => XS.iloadN X0.here hx rfl (hb hby own_d_method_5_code_79) rfl kg_) ?_
    show own_Gl p e below _ (s₁.setTop (mkF m 80 #[.val (.ref w), .val (.int (Int32.ofNat (own_enc xs).length)), .val (.int ch)] [(.int (Int32.ofNat (own_enc xs).length))]))
    refine own_st (fun tg_ kg_ => XS.iconst X0.here hx rfl (hb hby own_d_method_5_code_80) kg_) ?_
    show own_Gl p e below _ (s₁.setTop (mkF m 81 #[.val (.ref w), .val (.int (Int32.ofNat (own_enc xs).length)), .val (.int ch)] [(.int (2 : Int32)), (.int (Int32.ofNat (own_enc xs).length))]))
    refine own_st (fun tg_ kg_ => XS.iadd X0.here hx rfl (hb hby own_d_method_5_code_81) rfl kg_) ?_
    show own_Gl p e below _ (s₁.setTop (mkF m 82 #[.val (.ref w), .val (.int (Int32.ofNat (own_enc xs).length)), .val (.int ch)] [(.int ((Int32.ofNat (own_enc xs).length) + (2 : Int32)))]))
    exact own_retI X0 hx Bd.notSynchronized Bd.returns (hb hby own_d_method_5_code_82) (by decide) (by decide) e0 (⟨congrArg (fun z => some (Value.int z)) ((own_ofn_add _ 2).trans (by rw [hzs, own_len1, he1]; rfl)), N0, rfl⟩)
theorem own_all {P : Int32 → Prop} {x : Int32} {l : List Int32} (h : P x) (t : ∀ c ∈ l, P c) : ∀ c ∈ x :: l, P c := fun c hc => (List.mem_cons.mp hc).elim (fun e => e ▸ h) (t c)
theorem own_32 {c0 : Int32} {c1 : Int32} {c2 : Int32} {c3 : Int32} {c4 : Int32} {c5 : Int32} {c6 : Int32} {c7 : Int32} {c8 : Int32} {c9 : Int32} {c10 : Int32} {c11 : Int32} {c12 : Int32} {c13 : Int32} {c14 : Int32} {c15 : Int32} {c16 : Int32} {c17 : Int32} {c18 : Int32} {c19 : Int32} {c20 : Int32} {c21 : Int32} {c22 : Int32} {c23 : Int32} (h0 : (¬ c0 < 128 ∧ ¬ (255 : Int32) < c0)) (h3 : (¬ c3 < 128 ∧ ¬ (255 : Int32) < c3)) (h6 : (¬ c6 < 128 ∧ ¬ (255 : Int32) < c6)) (h9 : (¬ c9 < 128 ∧ ¬ (255 : Int32) < c9)) (h12 : (¬ c12 < 128 ∧ ¬ (255 : Int32) < c12)) (h15 : (¬ c15 < 128 ∧ ¬ (255 : Int32) < c15)) (h18 : (¬ c18 < 128 ∧ ¬ (255 : Int32) < c18)) (h21 : (¬ c21 < 128 ∧ ¬ (255 : Int32) < c21)) : ¬ Int32.ofNat (own_enc [c0.toInt8.toInt32, c1.toInt8.toInt32, c2.toInt8.toInt32, c3.toInt8.toInt32, c4.toInt8.toInt32, c5.toInt8.toInt32, c6.toInt8.toInt32, c7.toInt8.toInt32, c8.toInt8.toInt32, c9.toInt8.toInt32, c10.toInt8.toInt32, c11.toInt8.toInt32, c12.toInt8.toInt32, c13.toInt8.toInt32, c14.toInt8.toInt32, c15.toInt8.toInt32, c16.toInt8.toInt32, c17.toInt8.toInt32, c18.toInt8.toInt32, c19.toInt8.toInt32, c20.toInt8.toInt32, c21.toInt8.toInt32, c22.toInt8.toInt32, c23.toInt8.toInt32]).length < 32 ∧ (own_enc [c0.toInt8.toInt32, c1.toInt8.toInt32, c2.toInt8.toInt32, c3.toInt8.toInt32, c4.toInt8.toInt32, c5.toInt8.toInt32, c6.toInt8.toInt32, c7.toInt8.toInt32, c8.toInt8.toInt32, c9.toInt8.toInt32, c10.toInt8.toInt32, c11.toInt8.toInt32, c12.toInt8.toInt32, c13.toInt8.toInt32, c14.toInt8.toInt32, c15.toInt8.toInt32, c16.toInt8.toInt32, c17.toInt8.toInt32, c18.toInt8.toInt32, c19.toInt8.toInt32, c20.toInt8.toInt32, c21.toInt8.toInt32, c22.toInt8.toInt32, c23.toInt8.toInt32]).length ≤ 48 := by
  have l0 := own_e1_len2 (own_b_neg h0.1 h0.2)
  have l3 := own_e1_len2 (own_b_neg h3.1 h3.2)
  have l6 := own_e1_len2 (own_b_neg h6.1 h6.2)
  have l9 := own_e1_len2 (own_b_neg h9.1 h9.2)
  have l12 := own_e1_len2 (own_b_neg h12.1 h12.2)
  have l15 := own_e1_len2 (own_b_neg h15.1 h15.2)
  have l18 := own_e1_len2 (own_b_neg h18.1 h18.2)
  have l21 := own_e1_len2 (own_b_neg h21.1 h21.2)
  have l1 := own_e1_len (c1.toInt8.toInt32)
  have l2 := own_e1_len (c2.toInt8.toInt32)
  have l4 := own_e1_len (c4.toInt8.toInt32)
  have l5 := own_e1_len (c5.toInt8.toInt32)
  have l7 := own_e1_len (c7.toInt8.toInt32)
  have l8 := own_e1_len (c8.toInt8.toInt32)
  have l10 := own_e1_len (c10.toInt8.toInt32)
  have l11 := own_e1_len (c11.toInt8.toInt32)
  have l13 := own_e1_len (c13.toInt8.toInt32)
  have l14 := own_e1_len (c14.toInt8.toInt32)
  have l16 := own_e1_len (c16.toInt8.toInt32)
  have l17 := own_e1_len (c17.toInt8.toInt32)
  have l19 := own_e1_len (c19.toInt8.toInt32)
  have l20 := own_e1_len (c20.toInt8.toInt32)
  have l22 := own_e1_len (c22.toInt8.toInt32)
  have l23 := own_e1_len (c23.toInt8.toInt32)
  have hle := own_enc_len [c0.toInt8.toInt32, c1.toInt8.toInt32, c2.toInt8.toInt32, c3.toInt8.toInt32, c4.toInt8.toInt32, c5.toInt8.toInt32, c6.toInt8.toInt32, c7.toInt8.toInt32, c8.toInt8.toInt32, c9.toInt8.toInt32, c10.toInt8.toInt32, c11.toInt8.toInt32, c12.toInt8.toInt32, c13.toInt8.toInt32, c14.toInt8.toInt32, c15.toInt8.toInt32, c16.toInt8.toInt32, c17.toInt8.toInt32, c18.toInt8.toInt32, c19.toInt8.toInt32, c20.toInt8.toInt32, c21.toInt8.toInt32, c22.toInt8.toInt32, c23.toInt8.toInt32]
  have hl : ([c0.toInt8.toInt32, c1.toInt8.toInt32, c2.toInt8.toInt32, c3.toInt8.toInt32, c4.toInt8.toInt32, c5.toInt8.toInt32, c6.toInt8.toInt32, c7.toInt8.toInt32, c8.toInt8.toInt32, c9.toInt8.toInt32, c10.toInt8.toInt32, c11.toInt8.toInt32, c12.toInt8.toInt32, c13.toInt8.toInt32, c14.toInt8.toInt32, c15.toInt8.toInt32, c16.toInt8.toInt32, c17.toInt8.toInt32, c18.toInt8.toInt32, c19.toInt8.toInt32, c20.toInt8.toInt32, c21.toInt8.toInt32, c22.toInt8.toInt32, c23.toInt8.toInt32] : List Int32).length = 24 := rfl
  have hs : 32 ≤ (own_enc [c0.toInt8.toInt32, c1.toInt8.toInt32, c2.toInt8.toInt32, c3.toInt8.toInt32, c4.toInt8.toInt32, c5.toInt8.toInt32, c6.toInt8.toInt32, c7.toInt8.toInt32, c8.toInt8.toInt32, c9.toInt8.toInt32, c10.toInt8.toInt32, c11.toInt8.toInt32, c12.toInt8.toInt32, c13.toInt8.toInt32, c14.toInt8.toInt32, c15.toInt8.toInt32, c16.toInt8.toInt32, c17.toInt8.toInt32, c18.toInt8.toInt32, c19.toInt8.toInt32, c20.toInt8.toInt32, c21.toInt8.toInt32, c22.toInt8.toInt32, c23.toInt8.toInt32]).length := by
    simp only [own_enc_cons, own_enc_nil, List.length_append, List.length_nil]
    omega
  refine ⟨?_, by omega⟩
  rw [Int32.lt_iff_toInt_lt, own_ofn (by omega)]
  have e : (32 : Int32).toInt = 32 := by decide
  omega
theorem own_pd11 : parseMethodDescriptor "(JI)C" = some ⟨[.long, .int], some .char⟩ := by decide +kernel
theorem own_pd12 : parseMethodDescriptor "([C)V" = some ⟨[(.array .char)], none⟩ := by decide +kernel
theorem own_pd13 : parseMethodDescriptor "(Ljava/lang/String;)Lcom/example/highwater/highwater/config/TokenSecret;" = some ⟨[(.object "java/lang/String")], some (.object "com/example/highwater/highwater/config/TokenSecret")⟩ := by decide +kernel
theorem own_pd14 : parseMethodDescriptor "()[B" = some ⟨[], some (.array .byte)⟩ := by decide +kernel
theorem own_pd15 : parseMethodDescriptor "([BIC)I" = some ⟨[(.array .byte), .int, .char], some .int⟩ := by decide +kernel
theorem own_ef_law (m : MethodId) (x0 : Int64) (x1 : Int64) (x2 : Int64) : entryFrame m #[(.long x0), (.long x1), (.long x2)] maxLocals = mkF m 0 #[.val (.long x0), .second, .val (.long x1), .second, .val (.long x2), .second, .unset, .unset, .unset] [] := by first | (simp [entryFrame, mkF, argsToLocals, Value.category, maxLocals]; done) | rfl
def own_Q_law (Z : State) (i0 i1 i2 : Int64) (u : Addr) (zc : Int32) (h0 : Heap) (n0 : Nat) (v : Option Value) (h : Heap) (L : List Loc) : Prop := v = some (.int 1) ∧ Fr n0 L
set_option maxRecDepth 65536 in
set_option maxHeartbeats 40000000 in
theorem own_rm_law (l : Launch) (Z : State) (a0 : Array Value) (hw : ∀ d ∈ tables_1, d.before a0 Z = true) (ws : List Jvm.Cond) (i0 i1 i2 : Int64) (u : Addr) (zc : Int32) (h0 : Heap) (n0 : Nat) (Z0 : n0 ≤ h0.size) (S_C : Sta Z h0 "java/lang/String" "COMPACT_STRINGS" "Z" (.int zc)) (hzc : ¬ zc = 0)(S_I : Sta Z h0 "sun/nio/cs/UTF_8" "INSTANCE" "Lsun/nio/cs/UTF_8;" (.ref u))(S_8 : Sta Z h0 "java/nio/charset/StandardCharsets" "UTF_8" "Ljava/nio/charset/Charset;" (.ref u)) :
    MetFree l x (head1 (Jvm.Cond.code x code maxLocals ret :: ws) room_1) (fun aa UU => aa = #[(.long i0), (.long i1), (.long i2)] ∧ Z.Warmed39 UU.vm ∧ UU.heap = h0) (fun _ _ _ _ _ => True) (fun _ UU oo UU' => ∃ vv LL, oo = .returned vv ∧ own_Q_law Z i0 i1 i2 u zc h0 n0 vv UU'.heap LL ∧ FrameEnd UU oo UU' LL room_1.cells room_1.slots) := by
  refine MetFree.of_bodySF (plainFor_of_name own_pn0) hisR ?_
  intro p e s m args below meth c s₁ Bd hml0 hP hK
  obtain ⟨rfl, hZ, hh⟩ := hP
  have hx := Bd.exec
  have hby := Bd.bytes
  have hml : c.maxLocals = 9 := hml0
  have hown : s.vm.findClass "com/example/highwater/highwater/config/TokenSecretFromTextPinLaw" = some m.cls := findClass_of_methodNamed Bd.named
  have hnm := (name_of_methodNamed Bd.named Bd.method).1
  have X0 : Stand p l e room_1 s m #[(.long i0), (.long i1), (.long i2)] below meth c s₁ [] 0 0 := Stand.of_body Bd
  have e0 : s₁.heap = h0 := by rw [← hh, Bd.state]; rfl
  have N0 := Fr.nil n0
  show own_Gl p e below (own_Post s (own_Q_law Z i0 i1 i2 u zc h0 n0) room_1.cells room_1.slots) _
  refine own_st (fun tg_ kg_ => castTop (own_ef_law m i0 i1 i2) kg_) ?_
  show own_Gl p e below _ (s₁.setTop (mkF m 0 #[.val (.long i0), .second, .val (.long i1), .second, .val (.long i2), .second, .unset, .unset, .unset] []))
  refine own_st (fun tg_ kg_ => XS.bipush X0.here hx rfl (hb hby at_0) kg_) ?_
  show own_Gl p e below _ (s₁.setTop (mkF m 2 #[.val (.long i0), .second, .val (.long i1), .second, .val (.long i2), .second, .unset, .unset, .unset] [(.int (24 : Int32))]))
  obtain ⟨T1, h1, k1, X1, e1, E1, A1, st1⟩ := newP X0 hx hZ (hw _ (List.mem_of_getElem? (i := 0) rfl)) e0 (g := (mkF m 2 #[.val (.long i0), .second, .val (.long i1), .second, .val (.long i2), .second, .unset, .unset, .unset] [(.int (24 : Int32))])) rfl (hb hby at_2) rfl (by decide) (cap := 24) (by decide) (by decide) (by decide) (by decide)
  obtain ⟨s0, g1⟩ : ∃ z, z = h0.size := ⟨_, rfl⟩
  have sz_s0 : h0.size ≤ s0 := Nat.le_of_eq g1.symm
  have g_s0 : n0 ≤ s0 := Nat.le_trans Z0 sz_s0
  rw [← g1] at A1 st1
  have V_s0 : Arv Z h1 s0 k1 .char (24 : Int32) [(.int (0 : Int32)), (.int (0 : Int32)), (.int (0 : Int32)), (.int (0 : Int32)), (.int (0 : Int32)), (.int (0 : Int32)), (.int (0 : Int32)), (.int (0 : Int32)), (.int (0 : Int32)), (.int (0 : Int32)), (.int (0 : Int32)), (.int (0 : Int32)), (.int (0 : Int32)), (.int (0 : Int32)), (.int (0 : Int32)), (.int (0 : Int32)), (.int (0 : Int32)), (.int (0 : Int32)), (.int (0 : Int32)), (.int (0 : Int32)), (.int (0 : Int32)), (.int (0 : Int32)), (.int (0 : Int32)), (.int (0 : Int32))] (.int (0 : Int32)) := (Arv.new A1 (by decide)).pad (pad_rep [] (.int (0 : Int32)) 24)
  refine own_st st1 ?_
  try clear st1
  show own_Gl p e below _ (T1.setTop (mkF m 4 #[.val (.long i0), .second, .val (.long i1), .second, .val (.long i2), .second, .unset, .unset, .unset] [(.ref s0)]))
  refine own_st (fun tg_ kg_ => XS.astore X1.here hx rfl (hb hby at_4) rfl rfl (l' := #[.val (.long i0), .second, .val (.long i1), .second, .val (.long i2), .second, .val (.ref s0), .unset, .unset]) rfl kg_) ?_
  show own_Gl p e below _ (T1.setTop (mkF m 6 #[.val (.long i0), .second, .val (.long i1), .second, .val (.long i2), .second, .val (.ref s0), .unset, .unset] []))
  refine own_st (fun tg_ kg_ => XS.aload X1.here hx rfl (hb hby at_6) rfl rfl kg_) ?_
  show own_Gl p e below _ (T1.setTop (mkF m 8 #[.val (.long i0), .second, .val (.long i1), .second, .val (.long i2), .second, .val (.ref s0), .unset, .unset] [(.ref s0)]))
  refine own_st (fun tg_ kg_ => XS.iconst X1.here hx rfl (hb hby at_8) kg_) ?_
  show own_Gl p e below _ (T1.setTop (mkF m 9 #[.val (.long i0), .second, .val (.long i1), .second, .val (.long i2), .second, .val (.ref s0), .unset, .unset] [(.int (0 : Int32)), (.ref s0)]))
  refine own_st (fun tg_ kg_ => XS.lloadN X1.here hx rfl (hb hby at_9) rfl kg_) ?_
  show own_Gl p e below _ (T1.setTop (mkF m 10 #[.val (.long i0), .second, .val (.long i1), .second, .val (.long i2), .second, .val (.ref s0), .unset, .unset] [(.long i0), (.int (0 : Int32)), (.ref s0)]))
  refine own_st (fun tg_ kg_ => XS.iconst X1.here hx rfl (hb hby at_10) kg_) ?_
  show own_Gl p e below _ (T1.setTop (mkF m 11 #[.val (.long i0), .second, .val (.long i1), .second, .val (.long i2), .second, .val (.ref s0), .unset, .unset] [(.int (0 : Int32)), (.long i0), (.int (0 : Int32)), (.ref s0)]))
  obtain ⟨_, _, ⟨T3, L3, k3, n3⟩, -, X3, ⟨Lc3, hQ3, l3, y3, z3⟩, st3⟩ := Jvm.LawKit.callS X1 hx (y := (⟨"com/example/highwater/highwater/config/TokenSecretFromTextPinLaw", "hi", "(JI)C"⟩ : MethodName)) hown (mvT hZ (hw _ (List.mem_of_getElem? (i := 1) rfl))) (mvT hZ (hw _ (List.mem_of_getElem? (i := 2) rfl))) (mvT hZ (hw _ (List.mem_of_getElem? (i := 3) rfl))) (mvT hZ (hw _ (List.mem_of_getElem? (i := 4) rfl))) (by decide) (backOf (W := 2) (own_rm_hi l Z a0 hw [] i0 (0 : Int32) h1 n0 (Nat.le_trans Z0 E1.1)) hZ (hw _ (List.mem_of_getElem? (i := 4) rfl)) (hw _ (List.mem_of_getElem? (i := 3) rfl)) (by decide) (by decide)) (g := (mkF m 11 #[.val (.long i0), .second, .val (.long i1), .second, .val (.long i2), .second, .val (.ref s0), .unset, .unset] [(.int (0 : Int32)), (.long i0), (.int (0 : Int32)), (.ref s0)])) rfl (by rw [hml]; rfl) (argsL := [(.long i0), (.int (0 : Int32))]) (rest := [(.int (0 : Int32)), (.ref s0)]) (lenOf own_pd11 rfl) rfl (by show 2 * 0 + _ ≤ _; exact Nat.le_of_eq rfl) (hb hby at_11) (fun _ _ => ⟨rfl, e1, (by decide : 1 + 0 ≤ _), (by decide : 24 + 0 ≤ _)⟩)
  dsimp only [Pt.U, Pt.locs, Pt.cells, Pt.slots] at X3 l3 y3 z3 st3 hQ3
  obtain rfl : k3 = 1 := y3
  obtain rfl : n3 = 24 := z3
  obtain ⟨⟨c0, rfl, hh0⟩, N3q, e3⟩ := hQ3
  have N3 : Fr n0 L3 := by rw [l3]; exact Fr.app N0 N3q
  try clear l3
  refine own_st st3 ?_
  show own_Gl p e below _ (T3.setTop (mkF m 14 #[.val (.long i0), .second, .val (.long i1), .second, .val (.long i2), .second, .val (.ref s0), .unset, .unset] [(.int c0), (.int (0 : Int32)), (.ref s0)]))
  try clear st3
  try clear N3q
  try clear e1
  try clear X1
  try clear T1
  have hc0 : (¬ c0 < 0 ∧ ¬ (255 : Int32) < c0) := ⟨own_lt0 hh0.1, hh0.2⟩
  obtain ⟨cl4, Ar4, qa4, Sa4, Na4, Ha4, Ga4⟩ := id V_s0
  have hin5 : ¬ ((0 : Int32) < 0 ∨ cl4.slots.size ≤ ((0 : Int32)).toNatClampNeg) := inb_of Sa4 ⟨by decide, by decide⟩
  obtain ⟨T5, h5, X5, e5, W5, st5⟩ := stC X3 hx hZ e3 Ar4 (j := (0 : Int32)) hin5 (g := (mkF m 14 #[.val (.long i0), .second, .val (.long i1), .second, .val (.long i2), .second, .val (.ref s0), .unset, .unset] [(.int c0), (.int (0 : Int32)), (.ref s0)])) rfl rfl (hb hby at_14)
  rw [own_narc hc0.1 hc0.2] at W5
  have N5 := Fr.snoc X5 N3 g_s0
  try clear N3
  have K6 := own_ext_wr E1 W5 sz_s0
  try clear E1
  replace V_s0 : Arv Z h5 s0 k1 .char (24 : Int32) [(.int c0), (.int (0 : Int32)), (.int (0 : Int32)), (.int (0 : Int32)), (.int (0 : Int32)), (.int (0 : Int32)), (.int (0 : Int32)), (.int (0 : Int32)), (.int (0 : Int32)), (.int (0 : Int32)), (.int (0 : Int32)), (.int (0 : Int32)), (.int (0 : Int32)), (.int (0 : Int32)), (.int (0 : Int32)), (.int (0 : Int32)), (.int (0 : Int32)), (.int (0 : Int32)), (.int (0 : Int32)), (.int (0 : Int32)), (.int (0 : Int32)), (.int (0 : Int32)), (.int (0 : Int32)), (.int (0 : Int32))] (.int (0 : Int32)) := Arv.set Ar4 qa4 Sa4 Na4 Ha4 Ga4 (own_fitc hc0.1 hc0.2) W5 0 rfl (Nat.le_of_ble_eq_true rfl)
  try clear Ga4
  try clear Ha4
  try clear Na4
  try clear Sa4
  try clear qa4
  try clear W5
  try clear hin5
  try clear Ar4
  try clear cl4
  refine own_st st5 ?_
  try clear st5
  try clear e3
  try clear X3
  try clear T3
  show own_Gl p e below _ (T5.setTop (mkF m 15 #[.val (.long i0), .second, .val (.long i1), .second, .val (.long i2), .second, .val (.ref s0), .unset, .unset] []))
  refine own_st (fun tg_ kg_ => XS.aload X5.here hx rfl (hb hby at_15) rfl rfl kg_) ?_
  show own_Gl p e below _ (T5.setTop (mkF m 17 #[.val (.long i0), .second, .val (.long i1), .second, .val (.long i2), .second, .val (.ref s0), .unset, .unset] [(.ref s0)]))
  refine own_st (fun tg_ kg_ => XS.iconst X5.here hx rfl (hb hby at_17) kg_) ?_
  show own_Gl p e below _ (T5.setTop (mkF m 18 #[.val (.long i0), .second, .val (.long i1), .second, .val (.long i2), .second, .val (.ref s0), .unset, .unset] [(.int (1 : Int32)), (.ref s0)]))
  refine own_st (fun tg_ kg_ => XS.lloadN X5.here hx rfl (hb hby at_18) rfl kg_) ?_
  show own_Gl p e below _ (T5.setTop (mkF m 19 #[.val (.long i0), .second, .val (.long i1), .second, .val (.long i2), .second, .val (.ref s0), .unset, .unset] [(.long i1), (.int (1 : Int32)), (.ref s0)]))
  refine own_st (fun tg_ kg_ => XS.iconst X5.here hx rfl (hb hby at_19) kg_) ?_
  show own_Gl p e below _ (T5.setTop (mkF m 20 #[.val (.long i0), .second, .val (.long i1), .second, .val (.long i2), .second, .val (.ref s0), .unset, .unset] [(.int (0 : Int32)), (.long i1), (.int (1 : Int32)), (.ref s0)]))
  obtain ⟨_, _, ⟨T7, L7, k7, n7⟩, -, X7, ⟨Lc7, hQ7, l7, y7, z7⟩, st7⟩ := Jvm.LawKit.callS X5 hx (y := (⟨"com/example/highwater/highwater/config/TokenSecretFromTextPinLaw", "lo", "(JI)C"⟩ : MethodName)) hown (mvT hZ (hw _ (List.mem_of_getElem? (i := 6) rfl))) (mvT hZ (hw _ (List.mem_of_getElem? (i := 7) rfl))) (mvT hZ (hw _ (List.mem_of_getElem? (i := 3) rfl))) (mvT hZ (hw _ (List.mem_of_getElem? (i := 8) rfl))) (by decide) (backOf (W := 2) (own_rm_lo l Z a0 hw [] i1 (0 : Int32) h5 n0 (Nat.le_trans Z0 K6.1)) hZ (hw _ (List.mem_of_getElem? (i := 8) rfl)) (hw _ (List.mem_of_getElem? (i := 3) rfl)) (by decide) (by decide)) (g := (mkF m 20 #[.val (.long i0), .second, .val (.long i1), .second, .val (.long i2), .second, .val (.ref s0), .unset, .unset] [(.int (0 : Int32)), (.long i1), (.int (1 : Int32)), (.ref s0)])) rfl (by rw [hml]; rfl) (argsL := [(.long i1), (.int (0 : Int32))]) (rest := [(.int (1 : Int32)), (.ref s0)]) (lenOf own_pd11 rfl) rfl (by show 2 * 0 + _ ≤ _; exact Nat.le_of_eq rfl) (hb hby at_20) (fun _ _ => ⟨rfl, e5, (by decide : 1 + 0 ≤ _), (by decide : 24 + 0 ≤ _)⟩)
  dsimp only [Pt.U, Pt.locs, Pt.cells, Pt.slots] at X7 l7 y7 z7 st7 hQ7
  obtain rfl : k7 = 1 := y7
  obtain rfl : n7 = 24 := z7
  obtain ⟨⟨c1, rfl, hh1⟩, N7q, e7⟩ := hQ7
  have N7 : Fr n0 L7 := by rw [l7]; exact Fr.app N5 N7q
  try clear l7
  refine own_st st7 ?_
  show own_Gl p e below _ (T7.setTop (mkF m 23 #[.val (.long i0), .second, .val (.long i1), .second, .val (.long i2), .second, .val (.ref s0), .unset, .unset] [(.int c1), (.int (1 : Int32)), (.ref s0)]))
  try clear st7
  try clear N7q
  try clear N5
  try clear e5
  try clear X5
  try clear T5
  have hc1 : (¬ c1 < 0 ∧ ¬ (255 : Int32) < c1) := hh1
  obtain ⟨cl8, Ar8, qa8, Sa8, Na8, Ha8, Ga8⟩ := id V_s0
  have hin9 : ¬ ((1 : Int32) < 0 ∨ cl8.slots.size ≤ ((1 : Int32)).toNatClampNeg) := inb_of Sa8 ⟨by decide, by decide⟩
  obtain ⟨T9, h9, X9, e9, W9, st9⟩ := stC X7 hx hZ e7 Ar8 (j := (1 : Int32)) hin9 (g := (mkF m 23 #[.val (.long i0), .second, .val (.long i1), .second, .val (.long i2), .second, .val (.ref s0), .unset, .unset] [(.int c1), (.int (1 : Int32)), (.ref s0)])) rfl rfl (hb hby at_23)
  rw [own_narc hc1.1 hc1.2] at W9
  have N9 := Fr.snoc X9 N7 g_s0
  try clear N7
  have K10 := own_ext_wr K6 W9 sz_s0
  try clear K6
  replace V_s0 : Arv Z h9 s0 k1 .char (24 : Int32) [(.int c0), (.int c1), (.int (0 : Int32)), (.int (0 : Int32)), (.int (0 : Int32)), (.int (0 : Int32)), (.int (0 : Int32)), (.int (0 : Int32)), (.int (0 : Int32)), (.int (0 : Int32)), (.int (0 : Int32)), (.int (0 : Int32)), (.int (0 : Int32)), (.int (0 : Int32)), (.int (0 : Int32)), (.int (0 : Int32)), (.int (0 : Int32)), (.int (0 : Int32)), (.int (0 : Int32)), (.int (0 : Int32)), (.int (0 : Int32)), (.int (0 : Int32)), (.int (0 : Int32)), (.int (0 : Int32))] (.int (0 : Int32)) := Arv.set Ar8 qa8 Sa8 Na8 Ha8 Ga8 (own_fitc hc1.1 hc1.2) W9 1 rfl (Nat.le_of_ble_eq_true rfl)
  try clear Ga8
  try clear Ha8
  try clear Na8
  try clear Sa8
  try clear qa8
  try clear W9
  try clear hin9
  try clear Ar8
  try clear cl8
  refine own_st st9 ?_
  try clear st9
  try clear e7
  try clear X7
  try clear T7
  show own_Gl p e below _ (T9.setTop (mkF m 24 #[.val (.long i0), .second, .val (.long i1), .second, .val (.long i2), .second, .val (.ref s0), .unset, .unset] []))
  refine own_st (fun tg_ kg_ => XS.aload X9.here hx rfl (hb hby at_24) rfl rfl kg_) ?_
  show own_Gl p e below _ (T9.setTop (mkF m 26 #[.val (.long i0), .second, .val (.long i1), .second, .val (.long i2), .second, .val (.ref s0), .unset, .unset] [(.ref s0)]))
  refine own_st (fun tg_ kg_ => XS.iconst X9.here hx rfl (hb hby at_26) kg_) ?_
  show own_Gl p e below _ (T9.setTop (mkF m 27 #[.val (.long i0), .second, .val (.long i1), .second, .val (.long i2), .second, .val (.ref s0), .unset, .unset] [(.int (2 : Int32)), (.ref s0)]))
  refine own_st (fun tg_ kg_ => XS.lload X9.here hx rfl (hb hby at_27) rfl kg_) ?_
  show own_Gl p e below _ (T9.setTop (mkF m 29 #[.val (.long i0), .second, .val (.long i1), .second, .val (.long i2), .second, .val (.ref s0), .unset, .unset] [(.long i2), (.int (2 : Int32)), (.ref s0)]))
  refine own_st (fun tg_ kg_ => XS.iconst X9.here hx rfl (hb hby at_29) kg_) ?_
  show own_Gl p e below _ (T9.setTop (mkF m 30 #[.val (.long i0), .second, .val (.long i1), .second, .val (.long i2), .second, .val (.ref s0), .unset, .unset] [(.int (0 : Int32)), (.long i2), (.int (2 : Int32)), (.ref s0)]))
  obtain ⟨_, _, ⟨T11, L11, k11, n11⟩, -, X11, ⟨Lc11, hQ11, l11, y11, z11⟩, st11⟩ := Jvm.LawKit.callS X9 hx (y := (⟨"com/example/highwater/highwater/config/TokenSecretFromTextPinLaw", "lo", "(JI)C"⟩ : MethodName)) hown (mvT hZ (hw _ (List.mem_of_getElem? (i := 6) rfl))) (mvT hZ (hw _ (List.mem_of_getElem? (i := 7) rfl))) (mvT hZ (hw _ (List.mem_of_getElem? (i := 3) rfl))) (mvT hZ (hw _ (List.mem_of_getElem? (i := 8) rfl))) (by decide) (backOf (W := 2) (own_rm_lo l Z a0 hw [] i2 (0 : Int32) h9 n0 (Nat.le_trans Z0 K10.1)) hZ (hw _ (List.mem_of_getElem? (i := 8) rfl)) (hw _ (List.mem_of_getElem? (i := 3) rfl)) (by decide) (by decide)) (g := (mkF m 30 #[.val (.long i0), .second, .val (.long i1), .second, .val (.long i2), .second, .val (.ref s0), .unset, .unset] [(.int (0 : Int32)), (.long i2), (.int (2 : Int32)), (.ref s0)])) rfl (by rw [hml]; rfl) (argsL := [(.long i2), (.int (0 : Int32))]) (rest := [(.int (2 : Int32)), (.ref s0)]) (lenOf own_pd11 rfl) rfl (by show 2 * 0 + _ ≤ _; exact Nat.le_of_eq rfl) (hb hby at_30) (fun _ _ => ⟨rfl, e9, (by decide : 1 + 0 ≤ _), (by decide : 24 + 0 ≤ _)⟩)
  dsimp only [Pt.U, Pt.locs, Pt.cells, Pt.slots] at X11 l11 y11 z11 st11 hQ11
  obtain rfl : k11 = 1 := y11
  obtain rfl : n11 = 24 := z11
  obtain ⟨⟨c2, rfl, hh2⟩, N11q, e11⟩ := hQ11
  have N11 : Fr n0 L11 := by rw [l11]; exact Fr.app N9 N11q
  try clear l11
  refine own_st st11 ?_
  show own_Gl p e below _ (T11.setTop (mkF m 33 #[.val (.long i0), .second, .val (.long i1), .second, .val (.long i2), .second, .val (.ref s0), .unset, .unset] [(.int c2), (.int (2 : Int32)), (.ref s0)]))
  try clear st11
  try clear N11q
  try clear N9
  try clear e9
  try clear X9
  try clear T9
  have hc2 : (¬ c2 < 0 ∧ ¬ (255 : Int32) < c2) := hh2
  obtain ⟨cl12, Ar12, qa12, Sa12, Na12, Ha12, Ga12⟩ := id V_s0
  have hin13 : ¬ ((2 : Int32) < 0 ∨ cl12.slots.size ≤ ((2 : Int32)).toNatClampNeg) := inb_of Sa12 ⟨by decide, by decide⟩
  obtain ⟨T13, h13, X13, e13, W13, st13⟩ := stC X11 hx hZ e11 Ar12 (j := (2 : Int32)) hin13 (g := (mkF m 33 #[.val (.long i0), .second, .val (.long i1), .second, .val (.long i2), .second, .val (.ref s0), .unset, .unset] [(.int c2), (.int (2 : Int32)), (.ref s0)])) rfl rfl (hb hby at_33)
  rw [own_narc hc2.1 hc2.2] at W13
  have N13 := Fr.snoc X13 N11 g_s0
  try clear N11
  have K14 := own_ext_wr K10 W13 sz_s0
  try clear K10
  replace V_s0 : Arv Z h13 s0 k1 .char (24 : Int32) [(.int c0), (.int c1), (.int c2), (.int (0 : Int32)), (.int (0 : Int32)), (.int (0 : Int32)), (.int (0 : Int32)), (.int (0 : Int32)), (.int (0 : Int32)), (.int (0 : Int32)), (.int (0 : Int32)), (.int (0 : Int32)), (.int (0 : Int32)), (.int (0 : Int32)), (.int (0 : Int32)), (.int (0 : Int32)), (.int (0 : Int32)), (.int (0 : Int32)), (.int (0 : Int32)), (.int (0 : Int32)), (.int (0 : Int32)), (.int (0 : Int32)), (.int (0 : Int32)), (.int (0 : Int32))] (.int (0 : Int32)) := Arv.set Ar12 qa12 Sa12 Na12 Ha12 Ga12 (own_fitc hc2.1 hc2.2) W13 2 rfl (Nat.le_of_ble_eq_true rfl)
  try clear Ga12
  try clear Ha12
  try clear Na12
  try clear Sa12
  try clear qa12
  try clear W13
  try clear hin13
  try clear Ar12
  try clear cl12
  refine own_st st13 ?_
  try clear st13
  try clear e11
  try clear X11
  try clear T11
  show own_Gl p e below _ (T13.setTop (mkF m 34 #[.val (.long i0), .second, .val (.long i1), .second, .val (.long i2), .second, .val (.ref s0), .unset, .unset] []))
  refine own_st (fun tg_ kg_ => XS.aload X13.here hx rfl (hb hby at_34) rfl rfl kg_) ?_
  show own_Gl p e below _ (T13.setTop (mkF m 36 #[.val (.long i0), .second, .val (.long i1), .second, .val (.long i2), .second, .val (.ref s0), .unset, .unset] [(.ref s0)]))
  refine own_st (fun tg_ kg_ => XS.iconst X13.here hx rfl (hb hby at_36) kg_) ?_
  show own_Gl p e below _ (T13.setTop (mkF m 37 #[.val (.long i0), .second, .val (.long i1), .second, .val (.long i2), .second, .val (.ref s0), .unset, .unset] [(.int (3 : Int32)), (.ref s0)]))
  refine own_st (fun tg_ kg_ => XS.lloadN X13.here hx rfl (hb hby at_37) rfl kg_) ?_
  show own_Gl p e below _ (T13.setTop (mkF m 38 #[.val (.long i0), .second, .val (.long i1), .second, .val (.long i2), .second, .val (.ref s0), .unset, .unset] [(.long i0), (.int (3 : Int32)), (.ref s0)]))
  refine own_st (fun tg_ kg_ => XS.iconst X13.here hx rfl (hb hby at_38) kg_) ?_
  show own_Gl p e below _ (T13.setTop (mkF m 39 #[.val (.long i0), .second, .val (.long i1), .second, .val (.long i2), .second, .val (.ref s0), .unset, .unset] [(.int (1 : Int32)), (.long i0), (.int (3 : Int32)), (.ref s0)]))
  obtain ⟨_, _, ⟨T15, L15, k15, n15⟩, -, X15, ⟨Lc15, hQ15, l15, y15, z15⟩, st15⟩ := Jvm.LawKit.callS X13 hx (y := (⟨"com/example/highwater/highwater/config/TokenSecretFromTextPinLaw", "hi", "(JI)C"⟩ : MethodName)) hown (mvT hZ (hw _ (List.mem_of_getElem? (i := 1) rfl))) (mvT hZ (hw _ (List.mem_of_getElem? (i := 2) rfl))) (mvT hZ (hw _ (List.mem_of_getElem? (i := 3) rfl))) (mvT hZ (hw _ (List.mem_of_getElem? (i := 4) rfl))) (by decide) (backOf (W := 2) (own_rm_hi l Z a0 hw [] i0 (1 : Int32) h13 n0 (Nat.le_trans Z0 K14.1)) hZ (hw _ (List.mem_of_getElem? (i := 4) rfl)) (hw _ (List.mem_of_getElem? (i := 3) rfl)) (by decide) (by decide)) (g := (mkF m 39 #[.val (.long i0), .second, .val (.long i1), .second, .val (.long i2), .second, .val (.ref s0), .unset, .unset] [(.int (1 : Int32)), (.long i0), (.int (3 : Int32)), (.ref s0)])) rfl (by rw [hml]; rfl) (argsL := [(.long i0), (.int (1 : Int32))]) (rest := [(.int (3 : Int32)), (.ref s0)]) (lenOf own_pd11 rfl) rfl (by show 2 * 0 + _ ≤ _; exact Nat.le_of_eq rfl) (hb hby at_39) (fun _ _ => ⟨rfl, e13, (by decide : 1 + 0 ≤ _), (by decide : 24 + 0 ≤ _)⟩)
  dsimp only [Pt.U, Pt.locs, Pt.cells, Pt.slots] at X15 l15 y15 z15 st15 hQ15
  obtain rfl : k15 = 1 := y15
  obtain rfl : n15 = 24 := z15
  obtain ⟨⟨c3, rfl, hh3⟩, N15q, e15⟩ := hQ15
  have N15 : Fr n0 L15 := by rw [l15]; exact Fr.app N13 N15q
  try clear l15
  refine own_st st15 ?_
  show own_Gl p e below _ (T15.setTop (mkF m 42 #[.val (.long i0), .second, .val (.long i1), .second, .val (.long i2), .second, .val (.ref s0), .unset, .unset] [(.int c3), (.int (3 : Int32)), (.ref s0)]))
  try clear st15
  try clear N15q
  try clear N13
  try clear e13
  try clear X13
  try clear T13
  have hc3 : (¬ c3 < 0 ∧ ¬ (255 : Int32) < c3) := ⟨own_lt0 hh3.1, hh3.2⟩
  obtain ⟨cl16, Ar16, qa16, Sa16, Na16, Ha16, Ga16⟩ := id V_s0
  have hin17 : ¬ ((3 : Int32) < 0 ∨ cl16.slots.size ≤ ((3 : Int32)).toNatClampNeg) := inb_of Sa16 ⟨by decide, by decide⟩
  obtain ⟨T17, h17, X17, e17, W17, st17⟩ := stC X15 hx hZ e15 Ar16 (j := (3 : Int32)) hin17 (g := (mkF m 42 #[.val (.long i0), .second, .val (.long i1), .second, .val (.long i2), .second, .val (.ref s0), .unset, .unset] [(.int c3), (.int (3 : Int32)), (.ref s0)])) rfl rfl (hb hby at_42)
  rw [own_narc hc3.1 hc3.2] at W17
  have N17 := Fr.snoc X17 N15 g_s0
  try clear N15
  have K18 := own_ext_wr K14 W17 sz_s0
  try clear K14
  replace V_s0 : Arv Z h17 s0 k1 .char (24 : Int32) [(.int c0), (.int c1), (.int c2), (.int c3), (.int (0 : Int32)), (.int (0 : Int32)), (.int (0 : Int32)), (.int (0 : Int32)), (.int (0 : Int32)), (.int (0 : Int32)), (.int (0 : Int32)), (.int (0 : Int32)), (.int (0 : Int32)), (.int (0 : Int32)), (.int (0 : Int32)), (.int (0 : Int32)), (.int (0 : Int32)), (.int (0 : Int32)), (.int (0 : Int32)), (.int (0 : Int32)), (.int (0 : Int32)), (.int (0 : Int32)), (.int (0 : Int32)), (.int (0 : Int32))] (.int (0 : Int32)) := Arv.set Ar16 qa16 Sa16 Na16 Ha16 Ga16 (own_fitc hc3.1 hc3.2) W17 3 rfl (Nat.le_of_ble_eq_true rfl)
  try clear Ga16
  try clear Ha16
  try clear Na16
  try clear Sa16
  try clear qa16
  try clear W17
  try clear hin17
  try clear Ar16
  try clear cl16
  refine own_st st17 ?_
  try clear st17
  try clear e15
  try clear X15
  try clear T15
  show own_Gl p e below _ (T17.setTop (mkF m 43 #[.val (.long i0), .second, .val (.long i1), .second, .val (.long i2), .second, .val (.ref s0), .unset, .unset] []))
  refine own_st (fun tg_ kg_ => XS.aload X17.here hx rfl (hb hby at_43) rfl rfl kg_) ?_
  show own_Gl p e below _ (T17.setTop (mkF m 45 #[.val (.long i0), .second, .val (.long i1), .second, .val (.long i2), .second, .val (.ref s0), .unset, .unset] [(.ref s0)]))
  refine own_st (fun tg_ kg_ => XS.iconst X17.here hx rfl (hb hby at_45) kg_) ?_
  show own_Gl p e below _ (T17.setTop (mkF m 46 #[.val (.long i0), .second, .val (.long i1), .second, .val (.long i2), .second, .val (.ref s0), .unset, .unset] [(.int (4 : Int32)), (.ref s0)]))
  refine own_st (fun tg_ kg_ => XS.lloadN X17.here hx rfl (hb hby at_46) rfl kg_) ?_
  show own_Gl p e below _ (T17.setTop (mkF m 47 #[.val (.long i0), .second, .val (.long i1), .second, .val (.long i2), .second, .val (.ref s0), .unset, .unset] [(.long i1), (.int (4 : Int32)), (.ref s0)]))
  refine own_st (fun tg_ kg_ => XS.iconst X17.here hx rfl (hb hby at_47) kg_) ?_
  show own_Gl p e below _ (T17.setTop (mkF m 48 #[.val (.long i0), .second, .val (.long i1), .second, .val (.long i2), .second, .val (.ref s0), .unset, .unset] [(.int (1 : Int32)), (.long i1), (.int (4 : Int32)), (.ref s0)]))
  obtain ⟨_, _, ⟨T19, L19, k19, n19⟩, -, X19, ⟨Lc19, hQ19, l19, y19, z19⟩, st19⟩ := Jvm.LawKit.callS X17 hx (y := (⟨"com/example/highwater/highwater/config/TokenSecretFromTextPinLaw", "lo", "(JI)C"⟩ : MethodName)) hown (mvT hZ (hw _ (List.mem_of_getElem? (i := 6) rfl))) (mvT hZ (hw _ (List.mem_of_getElem? (i := 7) rfl))) (mvT hZ (hw _ (List.mem_of_getElem? (i := 3) rfl))) (mvT hZ (hw _ (List.mem_of_getElem? (i := 8) rfl))) (by decide) (backOf (W := 2) (own_rm_lo l Z a0 hw [] i1 (1 : Int32) h17 n0 (Nat.le_trans Z0 K18.1)) hZ (hw _ (List.mem_of_getElem? (i := 8) rfl)) (hw _ (List.mem_of_getElem? (i := 3) rfl)) (by decide) (by decide)) (g := (mkF m 48 #[.val (.long i0), .second, .val (.long i1), .second, .val (.long i2), .second, .val (.ref s0), .unset, .unset] [(.int (1 : Int32)), (.long i1), (.int (4 : Int32)), (.ref s0)])) rfl (by rw [hml]; rfl) (argsL := [(.long i1), (.int (1 : Int32))]) (rest := [(.int (4 : Int32)), (.ref s0)]) (lenOf own_pd11 rfl) rfl (by show 2 * 0 + _ ≤ _; exact Nat.le_of_eq rfl) (hb hby at_48) (fun _ _ => ⟨rfl, e17, (by decide : 1 + 0 ≤ _), (by decide : 24 + 0 ≤ _)⟩)
  dsimp only [Pt.U, Pt.locs, Pt.cells, Pt.slots] at X19 l19 y19 z19 st19 hQ19
  obtain rfl : k19 = 1 := y19
  obtain rfl : n19 = 24 := z19
  obtain ⟨⟨c4, rfl, hh4⟩, N19q, e19⟩ := hQ19
  have N19 : Fr n0 L19 := by rw [l19]; exact Fr.app N17 N19q
  try clear l19
  refine own_st st19 ?_
  show own_Gl p e below _ (T19.setTop (mkF m 51 #[.val (.long i0), .second, .val (.long i1), .second, .val (.long i2), .second, .val (.ref s0), .unset, .unset] [(.int c4), (.int (4 : Int32)), (.ref s0)]))
  try clear st19
  try clear N19q
  try clear N17
  try clear e17
  try clear X17
  try clear T17
  have hc4 : (¬ c4 < 0 ∧ ¬ (255 : Int32) < c4) := hh4
  obtain ⟨cl20, Ar20, qa20, Sa20, Na20, Ha20, Ga20⟩ := id V_s0
  have hin21 : ¬ ((4 : Int32) < 0 ∨ cl20.slots.size ≤ ((4 : Int32)).toNatClampNeg) := inb_of Sa20 ⟨by decide, by decide⟩
  obtain ⟨T21, h21, X21, e21, W21, st21⟩ := stC X19 hx hZ e19 Ar20 (j := (4 : Int32)) hin21 (g := (mkF m 51 #[.val (.long i0), .second, .val (.long i1), .second, .val (.long i2), .second, .val (.ref s0), .unset, .unset] [(.int c4), (.int (4 : Int32)), (.ref s0)])) rfl rfl (hb hby at_51)
  rw [own_narc hc4.1 hc4.2] at W21
  have N21 := Fr.snoc X21 N19 g_s0
  try clear N19
  have K22 := own_ext_wr K18 W21 sz_s0
  try clear K18
  replace V_s0 : Arv Z h21 s0 k1 .char (24 : Int32) [(.int c0), (.int c1), (.int c2), (.int c3), (.int c4), (.int (0 : Int32)), (.int (0 : Int32)), (.int (0 : Int32)), (.int (0 : Int32)), (.int (0 : Int32)), (.int (0 : Int32)), (.int (0 : Int32)), (.int (0 : Int32)), (.int (0 : Int32)), (.int (0 : Int32)), (.int (0 : Int32)), (.int (0 : Int32)), (.int (0 : Int32)), (.int (0 : Int32)), (.int (0 : Int32)), (.int (0 : Int32)), (.int (0 : Int32)), (.int (0 : Int32)), (.int (0 : Int32))] (.int (0 : Int32)) := Arv.set Ar20 qa20 Sa20 Na20 Ha20 Ga20 (own_fitc hc4.1 hc4.2) W21 4 rfl (Nat.le_of_ble_eq_true rfl)
  try clear Ga20
  try clear Ha20
  try clear Na20
  try clear Sa20
  try clear qa20
  try clear W21
  try clear hin21
  try clear Ar20
  try clear cl20
  refine own_st st21 ?_
  try clear st21
  try clear e19
  try clear X19
  try clear T19
  show own_Gl p e below _ (T21.setTop (mkF m 52 #[.val (.long i0), .second, .val (.long i1), .second, .val (.long i2), .second, .val (.ref s0), .unset, .unset] []))
  refine own_st (fun tg_ kg_ => XS.aload X21.here hx rfl (hb hby at_52) rfl rfl kg_) ?_
  show own_Gl p e below _ (T21.setTop (mkF m 54 #[.val (.long i0), .second, .val (.long i1), .second, .val (.long i2), .second, .val (.ref s0), .unset, .unset] [(.ref s0)]))
  refine own_st (fun tg_ kg_ => XS.iconst X21.here hx rfl (hb hby at_54) kg_) ?_
  show own_Gl p e below _ (T21.setTop (mkF m 55 #[.val (.long i0), .second, .val (.long i1), .second, .val (.long i2), .second, .val (.ref s0), .unset, .unset] [(.int (5 : Int32)), (.ref s0)]))
  refine own_st (fun tg_ kg_ => XS.lload X21.here hx rfl (hb hby at_55) rfl kg_) ?_
  show own_Gl p e below _ (T21.setTop (mkF m 57 #[.val (.long i0), .second, .val (.long i1), .second, .val (.long i2), .second, .val (.ref s0), .unset, .unset] [(.long i2), (.int (5 : Int32)), (.ref s0)]))
  refine own_st (fun tg_ kg_ => XS.iconst X21.here hx rfl (hb hby at_57) kg_) ?_
  show own_Gl p e below _ (T21.setTop (mkF m 58 #[.val (.long i0), .second, .val (.long i1), .second, .val (.long i2), .second, .val (.ref s0), .unset, .unset] [(.int (1 : Int32)), (.long i2), (.int (5 : Int32)), (.ref s0)]))
  obtain ⟨_, _, ⟨T23, L23, k23, n23⟩, -, X23, ⟨Lc23, hQ23, l23, y23, z23⟩, st23⟩ := Jvm.LawKit.callS X21 hx (y := (⟨"com/example/highwater/highwater/config/TokenSecretFromTextPinLaw", "lo", "(JI)C"⟩ : MethodName)) hown (mvT hZ (hw _ (List.mem_of_getElem? (i := 6) rfl))) (mvT hZ (hw _ (List.mem_of_getElem? (i := 7) rfl))) (mvT hZ (hw _ (List.mem_of_getElem? (i := 3) rfl))) (mvT hZ (hw _ (List.mem_of_getElem? (i := 8) rfl))) (by decide) (backOf (W := 2) (own_rm_lo l Z a0 hw [] i2 (1 : Int32) h21 n0 (Nat.le_trans Z0 K22.1)) hZ (hw _ (List.mem_of_getElem? (i := 8) rfl)) (hw _ (List.mem_of_getElem? (i := 3) rfl)) (by decide) (by decide)) (g := (mkF m 58 #[.val (.long i0), .second, .val (.long i1), .second, .val (.long i2), .second, .val (.ref s0), .unset, .unset] [(.int (1 : Int32)), (.long i2), (.int (5 : Int32)), (.ref s0)])) rfl (by rw [hml]; rfl) (argsL := [(.long i2), (.int (1 : Int32))]) (rest := [(.int (5 : Int32)), (.ref s0)]) (lenOf own_pd11 rfl) rfl (by show 2 * 0 + _ ≤ _; exact Nat.le_of_eq rfl) (hb hby at_58) (fun _ _ => ⟨rfl, e21, (by decide : 1 + 0 ≤ _), (by decide : 24 + 0 ≤ _)⟩)
  dsimp only [Pt.U, Pt.locs, Pt.cells, Pt.slots] at X23 l23 y23 z23 st23 hQ23
  obtain rfl : k23 = 1 := y23
  obtain rfl : n23 = 24 := z23
  obtain ⟨⟨c5, rfl, hh5⟩, N23q, e23⟩ := hQ23
  have N23 : Fr n0 L23 := by rw [l23]; exact Fr.app N21 N23q
  try clear l23
  refine own_st st23 ?_
  show own_Gl p e below _ (T23.setTop (mkF m 61 #[.val (.long i0), .second, .val (.long i1), .second, .val (.long i2), .second, .val (.ref s0), .unset, .unset] [(.int c5), (.int (5 : Int32)), (.ref s0)]))
  try clear st23
  try clear N23q
  try clear N21
  try clear e21
  try clear X21
  try clear T21
  have hc5 : (¬ c5 < 0 ∧ ¬ (255 : Int32) < c5) := hh5
  obtain ⟨cl24, Ar24, qa24, Sa24, Na24, Ha24, Ga24⟩ := id V_s0
  have hin25 : ¬ ((5 : Int32) < 0 ∨ cl24.slots.size ≤ ((5 : Int32)).toNatClampNeg) := inb_of Sa24 ⟨by decide, by decide⟩
  obtain ⟨T25, h25, X25, e25, W25, st25⟩ := stC X23 hx hZ e23 Ar24 (j := (5 : Int32)) hin25 (g := (mkF m 61 #[.val (.long i0), .second, .val (.long i1), .second, .val (.long i2), .second, .val (.ref s0), .unset, .unset] [(.int c5), (.int (5 : Int32)), (.ref s0)])) rfl rfl (hb hby at_61)
  rw [own_narc hc5.1 hc5.2] at W25
  have N25 := Fr.snoc X25 N23 g_s0
  try clear N23
  have K26 := own_ext_wr K22 W25 sz_s0
  try clear K22
  replace V_s0 : Arv Z h25 s0 k1 .char (24 : Int32) [(.int c0), (.int c1), (.int c2), (.int c3), (.int c4), (.int c5), (.int (0 : Int32)), (.int (0 : Int32)), (.int (0 : Int32)), (.int (0 : Int32)), (.int (0 : Int32)), (.int (0 : Int32)), (.int (0 : Int32)), (.int (0 : Int32)), (.int (0 : Int32)), (.int (0 : Int32)), (.int (0 : Int32)), (.int (0 : Int32)), (.int (0 : Int32)), (.int (0 : Int32)), (.int (0 : Int32)), (.int (0 : Int32)), (.int (0 : Int32)), (.int (0 : Int32))] (.int (0 : Int32)) := Arv.set Ar24 qa24 Sa24 Na24 Ha24 Ga24 (own_fitc hc5.1 hc5.2) W25 5 rfl (Nat.le_of_ble_eq_true rfl)
  try clear Ga24
  try clear Ha24
  try clear Na24
  try clear Sa24
  try clear qa24
  try clear W25
  try clear hin25
  try clear Ar24
  try clear cl24
  refine own_st st25 ?_
  try clear st25
  try clear e23
  try clear X23
  try clear T23
  show own_Gl p e below _ (T25.setTop (mkF m 62 #[.val (.long i0), .second, .val (.long i1), .second, .val (.long i2), .second, .val (.ref s0), .unset, .unset] []))
  refine own_st (fun tg_ kg_ => XS.aload X25.here hx rfl (hb hby at_62) rfl rfl kg_) ?_
  show own_Gl p e below _ (T25.setTop (mkF m 64 #[.val (.long i0), .second, .val (.long i1), .second, .val (.long i2), .second, .val (.ref s0), .unset, .unset] [(.ref s0)]))
  refine own_st (fun tg_ kg_ => XS.bipush X25.here hx rfl (hb hby at_64) kg_) ?_
  show own_Gl p e below _ (T25.setTop (mkF m 66 #[.val (.long i0), .second, .val (.long i1), .second, .val (.long i2), .second, .val (.ref s0), .unset, .unset] [(.int (6 : Int32)), (.ref s0)]))
  refine own_st (fun tg_ kg_ => XS.lloadN X25.here hx rfl (hb hby at_66) rfl kg_) ?_
  show own_Gl p e below _ (T25.setTop (mkF m 67 #[.val (.long i0), .second, .val (.long i1), .second, .val (.long i2), .second, .val (.ref s0), .unset, .unset] [(.long i0), (.int (6 : Int32)), (.ref s0)]))
  refine own_st (fun tg_ kg_ => XS.iconst X25.here hx rfl (hb hby at_67) kg_) ?_
  show own_Gl p e below _ (T25.setTop (mkF m 68 #[.val (.long i0), .second, .val (.long i1), .second, .val (.long i2), .second, .val (.ref s0), .unset, .unset] [(.int (2 : Int32)), (.long i0), (.int (6 : Int32)), (.ref s0)]))
  obtain ⟨_, _, ⟨T27, L27, k27, n27⟩, -, X27, ⟨Lc27, hQ27, l27, y27, z27⟩, st27⟩ := Jvm.LawKit.callS X25 hx (y := (⟨"com/example/highwater/highwater/config/TokenSecretFromTextPinLaw", "hi", "(JI)C"⟩ : MethodName)) hown (mvT hZ (hw _ (List.mem_of_getElem? (i := 1) rfl))) (mvT hZ (hw _ (List.mem_of_getElem? (i := 2) rfl))) (mvT hZ (hw _ (List.mem_of_getElem? (i := 3) rfl))) (mvT hZ (hw _ (List.mem_of_getElem? (i := 4) rfl))) (by decide) (backOf (W := 2) (own_rm_hi l Z a0 hw [] i0 (2 : Int32) h25 n0 (Nat.le_trans Z0 K26.1)) hZ (hw _ (List.mem_of_getElem? (i := 4) rfl)) (hw _ (List.mem_of_getElem? (i := 3) rfl)) (by decide) (by decide)) (g := (mkF m 68 #[.val (.long i0), .second, .val (.long i1), .second, .val (.long i2), .second, .val (.ref s0), .unset, .unset] [(.int (2 : Int32)), (.long i0), (.int (6 : Int32)), (.ref s0)])) rfl (by rw [hml]; rfl) (argsL := [(.long i0), (.int (2 : Int32))]) (rest := [(.int (6 : Int32)), (.ref s0)]) (lenOf own_pd11 rfl) rfl (by show 2 * 0 + _ ≤ _; exact Nat.le_of_eq rfl) (hb hby at_68) (fun _ _ => ⟨rfl, e25, (by decide : 1 + 0 ≤ _), (by decide : 24 + 0 ≤ _)⟩)
  dsimp only [Pt.U, Pt.locs, Pt.cells, Pt.slots] at X27 l27 y27 z27 st27 hQ27
  obtain rfl : k27 = 1 := y27
  obtain rfl : n27 = 24 := z27
  obtain ⟨⟨c6, rfl, hh6⟩, N27q, e27⟩ := hQ27
  have N27 : Fr n0 L27 := by rw [l27]; exact Fr.app N25 N27q
  try clear l27
  refine own_st st27 ?_
  show own_Gl p e below _ (T27.setTop (mkF m 71 #[.val (.long i0), .second, .val (.long i1), .second, .val (.long i2), .second, .val (.ref s0), .unset, .unset] [(.int c6), (.int (6 : Int32)), (.ref s0)]))
  try clear st27
  try clear N27q
  try clear N25
  try clear e25
  try clear X25
  try clear T25
  have hc6 : (¬ c6 < 0 ∧ ¬ (255 : Int32) < c6) := ⟨own_lt0 hh6.1, hh6.2⟩
  obtain ⟨cl28, Ar28, qa28, Sa28, Na28, Ha28, Ga28⟩ := id V_s0
  have hin29 : ¬ ((6 : Int32) < 0 ∨ cl28.slots.size ≤ ((6 : Int32)).toNatClampNeg) := inb_of Sa28 ⟨by decide, by decide⟩
  obtain ⟨T29, h29, X29, e29, W29, st29⟩ := stC X27 hx hZ e27 Ar28 (j := (6 : Int32)) hin29 (g := (mkF m 71 #[.val (.long i0), .second, .val (.long i1), .second, .val (.long i2), .second, .val (.ref s0), .unset, .unset] [(.int c6), (.int (6 : Int32)), (.ref s0)])) rfl rfl (hb hby at_71)
  rw [own_narc hc6.1 hc6.2] at W29
  have N29 := Fr.snoc X29 N27 g_s0
  try clear N27
  have K30 := own_ext_wr K26 W29 sz_s0
  try clear K26
  replace V_s0 : Arv Z h29 s0 k1 .char (24 : Int32) [(.int c0), (.int c1), (.int c2), (.int c3), (.int c4), (.int c5), (.int c6), (.int (0 : Int32)), (.int (0 : Int32)), (.int (0 : Int32)), (.int (0 : Int32)), (.int (0 : Int32)), (.int (0 : Int32)), (.int (0 : Int32)), (.int (0 : Int32)), (.int (0 : Int32)), (.int (0 : Int32)), (.int (0 : Int32)), (.int (0 : Int32)), (.int (0 : Int32)), (.int (0 : Int32)), (.int (0 : Int32)), (.int (0 : Int32)), (.int (0 : Int32))] (.int (0 : Int32)) := Arv.set Ar28 qa28 Sa28 Na28 Ha28 Ga28 (own_fitc hc6.1 hc6.2) W29 6 rfl (Nat.le_of_ble_eq_true rfl)
  try clear Ga28
  try clear Ha28
  try clear Na28
  try clear Sa28
  try clear qa28
  try clear W29
  try clear hin29
  try clear Ar28
  try clear cl28
  refine own_st st29 ?_
  try clear st29
  try clear e27
  try clear X27
  try clear T27
  show own_Gl p e below _ (T29.setTop (mkF m 72 #[.val (.long i0), .second, .val (.long i1), .second, .val (.long i2), .second, .val (.ref s0), .unset, .unset] []))
  refine own_st (fun tg_ kg_ => XS.aload X29.here hx rfl (hb hby at_72) rfl rfl kg_) ?_
  show own_Gl p e below _ (T29.setTop (mkF m 74 #[.val (.long i0), .second, .val (.long i1), .second, .val (.long i2), .second, .val (.ref s0), .unset, .unset] [(.ref s0)]))
  refine own_st (fun tg_ kg_ => XS.bipush X29.here hx rfl (hb hby at_74) kg_) ?_
  show own_Gl p e below _ (T29.setTop (mkF m 76 #[.val (.long i0), .second, .val (.long i1), .second, .val (.long i2), .second, .val (.ref s0), .unset, .unset] [(.int (7 : Int32)), (.ref s0)]))
  refine own_st (fun tg_ kg_ => XS.lloadN X29.here hx rfl (hb hby at_76) rfl kg_) ?_
  show own_Gl p e below _ (T29.setTop (mkF m 77 #[.val (.long i0), .second, .val (.long i1), .second, .val (.long i2), .second, .val (.ref s0), .unset, .unset] [(.long i1), (.int (7 : Int32)), (.ref s0)]))
  refine own_st (fun tg_ kg_ => XS.iconst X29.here hx rfl (hb hby at_77) kg_) ?_
  show own_Gl p e below _ (T29.setTop (mkF m 78 #[.val (.long i0), .second, .val (.long i1), .second, .val (.long i2), .second, .val (.ref s0), .unset, .unset] [(.int (2 : Int32)), (.long i1), (.int (7 : Int32)), (.ref s0)]))
  obtain ⟨_, _, ⟨T31, L31, k31, n31⟩, -, X31, ⟨Lc31, hQ31, l31, y31, z31⟩, st31⟩ := Jvm.LawKit.callS X29 hx (y := (⟨"com/example/highwater/highwater/config/TokenSecretFromTextPinLaw", "lo", "(JI)C"⟩ : MethodName)) hown (mvT hZ (hw _ (List.mem_of_getElem? (i := 6) rfl))) (mvT hZ (hw _ (List.mem_of_getElem? (i := 7) rfl))) (mvT hZ (hw _ (List.mem_of_getElem? (i := 3) rfl))) (mvT hZ (hw _ (List.mem_of_getElem? (i := 8) rfl))) (by decide) (backOf (W := 2) (own_rm_lo l Z a0 hw [] i1 (2 : Int32) h29 n0 (Nat.le_trans Z0 K30.1)) hZ (hw _ (List.mem_of_getElem? (i := 8) rfl)) (hw _ (List.mem_of_getElem? (i := 3) rfl)) (by decide) (by decide)) (g := (mkF m 78 #[.val (.long i0), .second, .val (.long i1), .second, .val (.long i2), .second, .val (.ref s0), .unset, .unset] [(.int (2 : Int32)), (.long i1), (.int (7 : Int32)), (.ref s0)])) rfl (by rw [hml]; rfl) (argsL := [(.long i1), (.int (2 : Int32))]) (rest := [(.int (7 : Int32)), (.ref s0)]) (lenOf own_pd11 rfl) rfl (by show 2 * 0 + _ ≤ _; exact Nat.le_of_eq rfl) (hb hby at_78) (fun _ _ => ⟨rfl, e29, (by decide : 1 + 0 ≤ _), (by decide : 24 + 0 ≤ _)⟩)
  dsimp only [Pt.U, Pt.locs, Pt.cells, Pt.slots] at X31 l31 y31 z31 st31 hQ31
  obtain rfl : k31 = 1 := y31
  obtain rfl : n31 = 24 := z31
  obtain ⟨⟨c7, rfl, hh7⟩, N31q, e31⟩ := hQ31
  have N31 : Fr n0 L31 := by rw [l31]; exact Fr.app N29 N31q
  try clear l31
  refine own_st st31 ?_
  show own_Gl p e below _ (T31.setTop (mkF m 81 #[.val (.long i0), .second, .val (.long i1), .second, .val (.long i2), .second, .val (.ref s0), .unset, .unset] [(.int c7), (.int (7 : Int32)), (.ref s0)]))
  try clear st31
  try clear N31q
  try clear N29
  try clear e29
  try clear X29
  try clear T29
  have hc7 : (¬ c7 < 0 ∧ ¬ (255 : Int32) < c7) := hh7
  obtain ⟨cl32, Ar32, qa32, Sa32, Na32, Ha32, Ga32⟩ := id V_s0
  have hin33 : ¬ ((7 : Int32) < 0 ∨ cl32.slots.size ≤ ((7 : Int32)).toNatClampNeg) := inb_of Sa32 ⟨by decide, by decide⟩
  obtain ⟨T33, h33, X33, e33, W33, st33⟩ := stC X31 hx hZ e31 Ar32 (j := (7 : Int32)) hin33 (g := (mkF m 81 #[.val (.long i0), .second, .val (.long i1), .second, .val (.long i2), .second, .val (.ref s0), .unset, .unset] [(.int c7), (.int (7 : Int32)), (.ref s0)])) rfl rfl (hb hby at_81)
  rw [own_narc hc7.1 hc7.2] at W33
  have N33 := Fr.snoc X33 N31 g_s0
  try clear N31
  have K34 := own_ext_wr K30 W33 sz_s0
  try clear K30
  replace V_s0 : Arv Z h33 s0 k1 .char (24 : Int32) [(.int c0), (.int c1), (.int c2), (.int c3), (.int c4), (.int c5), (.int c6), (.int c7), (.int (0 : Int32)), (.int (0 : Int32)), (.int (0 : Int32)), (.int (0 : Int32)), (.int (0 : Int32)), (.int (0 : Int32)), (.int (0 : Int32)), (.int (0 : Int32)), (.int (0 : Int32)), (.int (0 : Int32)), (.int (0 : Int32)), (.int (0 : Int32)), (.int (0 : Int32)), (.int (0 : Int32)), (.int (0 : Int32)), (.int (0 : Int32))] (.int (0 : Int32)) := Arv.set Ar32 qa32 Sa32 Na32 Ha32 Ga32 (own_fitc hc7.1 hc7.2) W33 7 rfl (Nat.le_of_ble_eq_true rfl)
  try clear Ga32
  try clear Ha32
  try clear Na32
  try clear Sa32
  try clear qa32
  try clear W33
  try clear hin33
  try clear Ar32
  try clear cl32
  refine own_st st33 ?_
  try clear st33
  try clear e31
  try clear X31
  try clear T31
  show own_Gl p e below _ (T33.setTop (mkF m 82 #[.val (.long i0), .second, .val (.long i1), .second, .val (.long i2), .second, .val (.ref s0), .unset, .unset] []))
  refine own_st (fun tg_ kg_ => XS.aload X33.here hx rfl (hb hby at_82) rfl rfl kg_) ?_
  show own_Gl p e below _ (T33.setTop (mkF m 84 #[.val (.long i0), .second, .val (.long i1), .second, .val (.long i2), .second, .val (.ref s0), .unset, .unset] [(.ref s0)]))
  refine own_st (fun tg_ kg_ => XS.bipush X33.here hx rfl (hb hby at_84) kg_) ?_
  show own_Gl p e below _ (T33.setTop (mkF m 86 #[.val (.long i0), .second, .val (.long i1), .second, .val (.long i2), .second, .val (.ref s0), .unset, .unset] [(.int (8 : Int32)), (.ref s0)]))
  refine own_st (fun tg_ kg_ => XS.lload X33.here hx rfl (hb hby at_86) rfl kg_) ?_
  show own_Gl p e below _ (T33.setTop (mkF m 88 #[.val (.long i0), .second, .val (.long i1), .second, .val (.long i2), .second, .val (.ref s0), .unset, .unset] [(.long i2), (.int (8 : Int32)), (.ref s0)]))
  refine own_st (fun tg_ kg_ => XS.iconst X33.here hx rfl (hb hby at_88) kg_) ?_
  show own_Gl p e below _ (T33.setTop (mkF m 89 #[.val (.long i0), .second, .val (.long i1), .second, .val (.long i2), .second, .val (.ref s0), .unset, .unset] [(.int (2 : Int32)), (.long i2), (.int (8 : Int32)), (.ref s0)]))
  obtain ⟨_, _, ⟨T35, L35, k35, n35⟩, -, X35, ⟨Lc35, hQ35, l35, y35, z35⟩, st35⟩ := Jvm.LawKit.callS X33 hx (y := (⟨"com/example/highwater/highwater/config/TokenSecretFromTextPinLaw", "lo", "(JI)C"⟩ : MethodName)) hown (mvT hZ (hw _ (List.mem_of_getElem? (i := 6) rfl))) (mvT hZ (hw _ (List.mem_of_getElem? (i := 7) rfl))) (mvT hZ (hw _ (List.mem_of_getElem? (i := 3) rfl))) (mvT hZ (hw _ (List.mem_of_getElem? (i := 8) rfl))) (by decide) (backOf (W := 2) (own_rm_lo l Z a0 hw [] i2 (2 : Int32) h33 n0 (Nat.le_trans Z0 K34.1)) hZ (hw _ (List.mem_of_getElem? (i := 8) rfl)) (hw _ (List.mem_of_getElem? (i := 3) rfl)) (by decide) (by decide)) (g := (mkF m 89 #[.val (.long i0), .second, .val (.long i1), .second, .val (.long i2), .second, .val (.ref s0), .unset, .unset] [(.int (2 : Int32)), (.long i2), (.int (8 : Int32)), (.ref s0)])) rfl (by rw [hml]; rfl) (argsL := [(.long i2), (.int (2 : Int32))]) (rest := [(.int (8 : Int32)), (.ref s0)]) (lenOf own_pd11 rfl) rfl (by show 2 * 0 + _ ≤ _; exact Nat.le_of_eq rfl) (hb hby at_89) (fun _ _ => ⟨rfl, e33, (by decide : 1 + 0 ≤ _), (by decide : 24 + 0 ≤ _)⟩)
  dsimp only [Pt.U, Pt.locs, Pt.cells, Pt.slots] at X35 l35 y35 z35 st35 hQ35
  obtain rfl : k35 = 1 := y35
  obtain rfl : n35 = 24 := z35
  obtain ⟨⟨c8, rfl, hh8⟩, N35q, e35⟩ := hQ35
  have N35 : Fr n0 L35 := by rw [l35]; exact Fr.app N33 N35q
  try clear l35
  refine own_st st35 ?_
  show own_Gl p e below _ (T35.setTop (mkF m 92 #[.val (.long i0), .second, .val (.long i1), .second, .val (.long i2), .second, .val (.ref s0), .unset, .unset] [(.int c8), (.int (8 : Int32)), (.ref s0)]))
  try clear st35
  try clear N35q
  try clear N33
  try clear e33
  try clear X33
  try clear T33
  have hc8 : (¬ c8 < 0 ∧ ¬ (255 : Int32) < c8) := hh8
  obtain ⟨cl36, Ar36, qa36, Sa36, Na36, Ha36, Ga36⟩ := id V_s0
  have hin37 : ¬ ((8 : Int32) < 0 ∨ cl36.slots.size ≤ ((8 : Int32)).toNatClampNeg) := inb_of Sa36 ⟨by decide, by decide⟩
  obtain ⟨T37, h37, X37, e37, W37, st37⟩ := stC X35 hx hZ e35 Ar36 (j := (8 : Int32)) hin37 (g := (mkF m 92 #[.val (.long i0), .second, .val (.long i1), .second, .val (.long i2), .second, .val (.ref s0), .unset, .unset] [(.int c8), (.int (8 : Int32)), (.ref s0)])) rfl rfl (hb hby at_92)
  rw [own_narc hc8.1 hc8.2] at W37
  have N37 := Fr.snoc X37 N35 g_s0
  try clear N35
  have K38 := own_ext_wr K34 W37 sz_s0
  try clear K34
  replace V_s0 : Arv Z h37 s0 k1 .char (24 : Int32) [(.int c0), (.int c1), (.int c2), (.int c3), (.int c4), (.int c5), (.int c6), (.int c7), (.int c8), (.int (0 : Int32)), (.int (0 : Int32)), (.int (0 : Int32)), (.int (0 : Int32)), (.int (0 : Int32)), (.int (0 : Int32)), (.int (0 : Int32)), (.int (0 : Int32)), (.int (0 : Int32)), (.int (0 : Int32)), (.int (0 : Int32)), (.int (0 : Int32)), (.int (0 : Int32)), (.int (0 : Int32)), (.int (0 : Int32))] (.int (0 : Int32)) := Arv.set Ar36 qa36 Sa36 Na36 Ha36 Ga36 (own_fitc hc8.1 hc8.2) W37 8 rfl (Nat.le_of_ble_eq_true rfl)
  try clear Ga36
  try clear Ha36
  try clear Na36
  try clear Sa36
  try clear qa36
  try clear W37
  try clear hin37
  try clear Ar36
  try clear cl36
  refine own_st st37 ?_
  try clear st37
  try clear e35
  try clear X35
  try clear T35
  show own_Gl p e below _ (T37.setTop (mkF m 93 #[.val (.long i0), .second, .val (.long i1), .second, .val (.long i2), .second, .val (.ref s0), .unset, .unset] []))
  refine own_st (fun tg_ kg_ => XS.aload X37.here hx rfl (hb hby at_93) rfl rfl kg_) ?_
  show own_Gl p e below _ (T37.setTop (mkF m 95 #[.val (.long i0), .second, .val (.long i1), .second, .val (.long i2), .second, .val (.ref s0), .unset, .unset] [(.ref s0)]))
  refine own_st (fun tg_ kg_ => XS.bipush X37.here hx rfl (hb hby at_95) kg_) ?_
  show own_Gl p e below _ (T37.setTop (mkF m 97 #[.val (.long i0), .second, .val (.long i1), .second, .val (.long i2), .second, .val (.ref s0), .unset, .unset] [(.int (9 : Int32)), (.ref s0)]))
  refine own_st (fun tg_ kg_ => XS.lloadN X37.here hx rfl (hb hby at_97) rfl kg_) ?_
  show own_Gl p e below _ (T37.setTop (mkF m 98 #[.val (.long i0), .second, .val (.long i1), .second, .val (.long i2), .second, .val (.ref s0), .unset, .unset] [(.long i0), (.int (9 : Int32)), (.ref s0)]))
  refine own_st (fun tg_ kg_ => XS.iconst X37.here hx rfl (hb hby at_98) kg_) ?_
  show own_Gl p e below _ (T37.setTop (mkF m 99 #[.val (.long i0), .second, .val (.long i1), .second, .val (.long i2), .second, .val (.ref s0), .unset, .unset] [(.int (3 : Int32)), (.long i0), (.int (9 : Int32)), (.ref s0)]))
  obtain ⟨_, _, ⟨T39, L39, k39, n39⟩, -, X39, ⟨Lc39, hQ39, l39, y39, z39⟩, st39⟩ := Jvm.LawKit.callS X37 hx (y := (⟨"com/example/highwater/highwater/config/TokenSecretFromTextPinLaw", "hi", "(JI)C"⟩ : MethodName)) hown (mvT hZ (hw _ (List.mem_of_getElem? (i := 1) rfl))) (mvT hZ (hw _ (List.mem_of_getElem? (i := 2) rfl))) (mvT hZ (hw _ (List.mem_of_getElem? (i := 3) rfl))) (mvT hZ (hw _ (List.mem_of_getElem? (i := 4) rfl))) (by decide) (backOf (W := 2) (own_rm_hi l Z a0 hw [] i0 (3 : Int32) h37 n0 (Nat.le_trans Z0 K38.1)) hZ (hw _ (List.mem_of_getElem? (i := 4) rfl)) (hw _ (List.mem_of_getElem? (i := 3) rfl)) (by decide) (by decide)) (g := (mkF m 99 #[.val (.long i0), .second, .val (.long i1), .second, .val (.long i2), .second, .val (.ref s0), .unset, .unset] [(.int (3 : Int32)), (.long i0), (.int (9 : Int32)), (.ref s0)])) rfl (by rw [hml]; rfl) (argsL := [(.long i0), (.int (3 : Int32))]) (rest := [(.int (9 : Int32)), (.ref s0)]) (lenOf own_pd11 rfl) rfl (by show 2 * 0 + _ ≤ _; exact Nat.le_of_eq rfl) (hb hby at_99) (fun _ _ => ⟨rfl, e37, (by decide : 1 + 0 ≤ _), (by decide : 24 + 0 ≤ _)⟩)
  dsimp only [Pt.U, Pt.locs, Pt.cells, Pt.slots] at X39 l39 y39 z39 st39 hQ39
  obtain rfl : k39 = 1 := y39
  obtain rfl : n39 = 24 := z39
  obtain ⟨⟨c9, rfl, hh9⟩, N39q, e39⟩ := hQ39
  have N39 : Fr n0 L39 := by rw [l39]; exact Fr.app N37 N39q
  try clear l39
  refine own_st st39 ?_
  show own_Gl p e below _ (T39.setTop (mkF m 102 #[.val (.long i0), .second, .val (.long i1), .second, .val (.long i2), .second, .val (.ref s0), .unset, .unset] [(.int c9), (.int (9 : Int32)), (.ref s0)]))
  try clear st39
  try clear N39q
  try clear N37
  try clear e37
  try clear X37
  try clear T37
  have hc9 : (¬ c9 < 0 ∧ ¬ (255 : Int32) < c9) := ⟨own_lt0 hh9.1, hh9.2⟩
  obtain ⟨cl40, Ar40, qa40, Sa40, Na40, Ha40, Ga40⟩ := id V_s0
  have hin41 : ¬ ((9 : Int32) < 0 ∨ cl40.slots.size ≤ ((9 : Int32)).toNatClampNeg) := inb_of Sa40 ⟨by decide, by decide⟩
  obtain ⟨T41, h41, X41, e41, W41, st41⟩ := stC X39 hx hZ e39 Ar40 (j := (9 : Int32)) hin41 (g := (mkF m 102 #[.val (.long i0), .second, .val (.long i1), .second, .val (.long i2), .second, .val (.ref s0), .unset, .unset] [(.int c9), (.int (9 : Int32)), (.ref s0)])) rfl rfl (hb hby at_102)
  rw [own_narc hc9.1 hc9.2] at W41
  have N41 := Fr.snoc X41 N39 g_s0
  try clear N39
  have K42 := own_ext_wr K38 W41 sz_s0
  try clear K38
  replace V_s0 : Arv Z h41 s0 k1 .char (24 : Int32) [(.int c0), (.int c1), (.int c2), (.int c3), (.int c4), (.int c5), (.int c6), (.int c7), (.int c8), (.int c9), (.int (0 : Int32)), (.int (0 : Int32)), (.int (0 : Int32)), (.int (0 : Int32)), (.int (0 : Int32)), (.int (0 : Int32)), (.int (0 : Int32)), (.int (0 : Int32)), (.int (0 : Int32)), (.int (0 : Int32)), (.int (0 : Int32)), (.int (0 : Int32)), (.int (0 : Int32)), (.int (0 : Int32))] (.int (0 : Int32)) := Arv.set Ar40 qa40 Sa40 Na40 Ha40 Ga40 (own_fitc hc9.1 hc9.2) W41 9 rfl (Nat.le_of_ble_eq_true rfl)
  try clear Ga40
  try clear Ha40
  try clear Na40
  try clear Sa40
  try clear qa40
  try clear W41
  try clear hin41
  try clear Ar40
  try clear cl40
  refine own_st st41 ?_
  try clear st41
  try clear e39
  try clear X39
  try clear T39
  show own_Gl p e below _ (T41.setTop (mkF m 103 #[.val (.long i0), .second, .val (.long i1), .second, .val (.long i2), .second, .val (.ref s0), .unset, .unset] []))
  refine own_st (fun tg_ kg_ => XS.aload X41.here hx rfl (hb hby at_103) rfl rfl kg_) ?_
  show own_Gl p e below _ (T41.setTop (mkF m 105 #[.val (.long i0), .second, .val (.long i1), .second, .val (.long i2), .second, .val (.ref s0), .unset, .unset] [(.ref s0)]))
  refine own_st (fun tg_ kg_ => XS.bipush X41.here hx rfl (hb hby at_105) kg_) ?_
  show own_Gl p e below _ (T41.setTop (mkF m 107 #[.val (.long i0), .second, .val (.long i1), .second, .val (.long i2), .second, .val (.ref s0), .unset, .unset] [(.int (10 : Int32)), (.ref s0)]))
  refine own_st (fun tg_ kg_ => XS.lloadN X41.here hx rfl (hb hby at_107) rfl kg_) ?_
  show own_Gl p e below _ (T41.setTop (mkF m 108 #[.val (.long i0), .second, .val (.long i1), .second, .val (.long i2), .second, .val (.ref s0), .unset, .unset] [(.long i1), (.int (10 : Int32)), (.ref s0)]))
  refine own_st (fun tg_ kg_ => XS.iconst X41.here hx rfl (hb hby at_108) kg_) ?_
  show own_Gl p e below _ (T41.setTop (mkF m 109 #[.val (.long i0), .second, .val (.long i1), .second, .val (.long i2), .second, .val (.ref s0), .unset, .unset] [(.int (3 : Int32)), (.long i1), (.int (10 : Int32)), (.ref s0)]))
  obtain ⟨_, _, ⟨T43, L43, k43, n43⟩, -, X43, ⟨Lc43, hQ43, l43, y43, z43⟩, st43⟩ := Jvm.LawKit.callS X41 hx (y := (⟨"com/example/highwater/highwater/config/TokenSecretFromTextPinLaw", "lo", "(JI)C"⟩ : MethodName)) hown (mvT hZ (hw _ (List.mem_of_getElem? (i := 6) rfl))) (mvT hZ (hw _ (List.mem_of_getElem? (i := 7) rfl))) (mvT hZ (hw _ (List.mem_of_getElem? (i := 3) rfl))) (mvT hZ (hw _ (List.mem_of_getElem? (i := 8) rfl))) (by decide) (backOf (W := 2) (own_rm_lo l Z a0 hw [] i1 (3 : Int32) h41 n0 (Nat.le_trans Z0 K42.1)) hZ (hw _ (List.mem_of_getElem? (i := 8) rfl)) (hw _ (List.mem_of_getElem? (i := 3) rfl)) (by decide) (by decide)) (g := (mkF m 109 #[.val (.long i0), .second, .val (.long i1), .second, .val (.long i2), .second, .val (.ref s0), .unset, .unset] [(.int (3 : Int32)), (.long i1), (.int (10 : Int32)), (.ref s0)])) rfl (by rw [hml]; rfl) (argsL := [(.long i1), (.int (3 : Int32))]) (rest := [(.int (10 : Int32)), (.ref s0)]) (lenOf own_pd11 rfl) rfl (by show 2 * 0 + _ ≤ _; exact Nat.le_of_eq rfl) (hb hby at_109) (fun _ _ => ⟨rfl, e41, (by decide : 1 + 0 ≤ _), (by decide : 24 + 0 ≤ _)⟩)
  dsimp only [Pt.U, Pt.locs, Pt.cells, Pt.slots] at X43 l43 y43 z43 st43 hQ43
  obtain rfl : k43 = 1 := y43
  obtain rfl : n43 = 24 := z43
  obtain ⟨⟨c10, rfl, hh10⟩, N43q, e43⟩ := hQ43
  have N43 : Fr n0 L43 := by rw [l43]; exact Fr.app N41 N43q
  try clear l43
  refine own_st st43 ?_
  show own_Gl p e below _ (T43.setTop (mkF m 112 #[.val (.long i0), .second, .val (.long i1), .second, .val (.long i2), .second, .val (.ref s0), .unset, .unset] [(.int c10), (.int (10 : Int32)), (.ref s0)]))
  try clear st43
  try clear N43q
  try clear N41
  try clear e41
  try clear X41
  try clear T41
  have hc10 : (¬ c10 < 0 ∧ ¬ (255 : Int32) < c10) := hh10
  obtain ⟨cl44, Ar44, qa44, Sa44, Na44, Ha44, Ga44⟩ := id V_s0
  have hin45 : ¬ ((10 : Int32) < 0 ∨ cl44.slots.size ≤ ((10 : Int32)).toNatClampNeg) := inb_of Sa44 ⟨by decide, by decide⟩
  obtain ⟨T45, h45, X45, e45, W45, st45⟩ := stC X43 hx hZ e43 Ar44 (j := (10 : Int32)) hin45 (g := (mkF m 112 #[.val (.long i0), .second, .val (.long i1), .second, .val (.long i2), .second, .val (.ref s0), .unset, .unset] [(.int c10), (.int (10 : Int32)), (.ref s0)])) rfl rfl (hb hby at_112)
  rw [own_narc hc10.1 hc10.2] at W45
  have N45 := Fr.snoc X45 N43 g_s0
  try clear N43
  have K46 := own_ext_wr K42 W45 sz_s0
  try clear K42
  replace V_s0 : Arv Z h45 s0 k1 .char (24 : Int32) [(.int c0), (.int c1), (.int c2), (.int c3), (.int c4), (.int c5), (.int c6), (.int c7), (.int c8), (.int c9), (.int c10), (.int (0 : Int32)), (.int (0 : Int32)), (.int (0 : Int32)), (.int (0 : Int32)), (.int (0 : Int32)), (.int (0 : Int32)), (.int (0 : Int32)), (.int (0 : Int32)), (.int (0 : Int32)), (.int (0 : Int32)), (.int (0 : Int32)), (.int (0 : Int32)), (.int (0 : Int32))] (.int (0 : Int32)) := Arv.set Ar44 qa44 Sa44 Na44 Ha44 Ga44 (own_fitc hc10.1 hc10.2) W45 10 rfl (Nat.le_of_ble_eq_true rfl)
  try clear Ga44
  try clear Ha44
  try clear Na44
  try clear Sa44
  try clear qa44
  try clear W45
  try clear hin45
  try clear Ar44
  try clear cl44
  refine own_st st45 ?_
  try clear st45
  try clear e43
  try clear X43
  try clear T43
  show own_Gl p e below _ (T45.setTop (mkF m 113 #[.val (.long i0), .second, .val (.long i1), .second, .val (.long i2), .second, .val (.ref s0), .unset, .unset] []))
  refine own_st (fun tg_ kg_ => XS.aload X45.here hx rfl (hb hby at_113) rfl rfl kg_) ?_
  show own_Gl p e below _ (T45.setTop (mkF m 115 #[.val (.long i0), .second, .val (.long i1), .second, .val (.long i2), .second, .val (.ref s0), .unset, .unset] [(.ref s0)]))
  refine own_st (fun tg_ kg_ => XS.bipush X45.here hx rfl (hb hby at_115) kg_) ?_
  show own_Gl p e below _ (T45.setTop (mkF m 117 #[.val (.long i0), .second, .val (.long i1), .second, .val (.long i2), .second, .val (.ref s0), .unset, .unset] [(.int (11 : Int32)), (.ref s0)]))
  refine own_st (fun tg_ kg_ => XS.lload X45.here hx rfl (hb hby at_117) rfl kg_) ?_
  show own_Gl p e below _ (T45.setTop (mkF m 119 #[.val (.long i0), .second, .val (.long i1), .second, .val (.long i2), .second, .val (.ref s0), .unset, .unset] [(.long i2), (.int (11 : Int32)), (.ref s0)]))
  refine own_st (fun tg_ kg_ => XS.iconst X45.here hx rfl (hb hby at_119) kg_) ?_
  show own_Gl p e below _ (T45.setTop (mkF m 120 #[.val (.long i0), .second, .val (.long i1), .second, .val (.long i2), .second, .val (.ref s0), .unset, .unset] [(.int (3 : Int32)), (.long i2), (.int (11 : Int32)), (.ref s0)]))
  obtain ⟨_, _, ⟨T47, L47, k47, n47⟩, -, X47, ⟨Lc47, hQ47, l47, y47, z47⟩, st47⟩ := Jvm.LawKit.callS X45 hx (y := (⟨"com/example/highwater/highwater/config/TokenSecretFromTextPinLaw", "lo", "(JI)C"⟩ : MethodName)) hown (mvT hZ (hw _ (List.mem_of_getElem? (i := 6) rfl))) (mvT hZ (hw _ (List.mem_of_getElem? (i := 7) rfl))) (mvT hZ (hw _ (List.mem_of_getElem? (i := 3) rfl))) (mvT hZ (hw _ (List.mem_of_getElem? (i := 8) rfl))) (by decide) (backOf (W := 2) (own_rm_lo l Z a0 hw [] i2 (3 : Int32) h45 n0 (Nat.le_trans Z0 K46.1)) hZ (hw _ (List.mem_of_getElem? (i := 8) rfl)) (hw _ (List.mem_of_getElem? (i := 3) rfl)) (by decide) (by decide)) (g := (mkF m 120 #[.val (.long i0), .second, .val (.long i1), .second, .val (.long i2), .second, .val (.ref s0), .unset, .unset] [(.int (3 : Int32)), (.long i2), (.int (11 : Int32)), (.ref s0)])) rfl (by rw [hml]; rfl) (argsL := [(.long i2), (.int (3 : Int32))]) (rest := [(.int (11 : Int32)), (.ref s0)]) (lenOf own_pd11 rfl) rfl (by show 2 * 0 + _ ≤ _; exact Nat.le_of_eq rfl) (hb hby at_120) (fun _ _ => ⟨rfl, e45, (by decide : 1 + 0 ≤ _), (by decide : 24 + 0 ≤ _)⟩)
  dsimp only [Pt.U, Pt.locs, Pt.cells, Pt.slots] at X47 l47 y47 z47 st47 hQ47
  obtain rfl : k47 = 1 := y47
  obtain rfl : n47 = 24 := z47
  obtain ⟨⟨c11, rfl, hh11⟩, N47q, e47⟩ := hQ47
  have N47 : Fr n0 L47 := by rw [l47]; exact Fr.app N45 N47q
  try clear l47
  refine own_st st47 ?_
  show own_Gl p e below _ (T47.setTop (mkF m 123 #[.val (.long i0), .second, .val (.long i1), .second, .val (.long i2), .second, .val (.ref s0), .unset, .unset] [(.int c11), (.int (11 : Int32)), (.ref s0)]))
  try clear st47
  try clear N47q
  try clear N45
  try clear e45
  try clear X45
  try clear T45
  have hc11 : (¬ c11 < 0 ∧ ¬ (255 : Int32) < c11) := hh11
  obtain ⟨cl48, Ar48, qa48, Sa48, Na48, Ha48, Ga48⟩ := id V_s0
  have hin49 : ¬ ((11 : Int32) < 0 ∨ cl48.slots.size ≤ ((11 : Int32)).toNatClampNeg) := inb_of Sa48 ⟨by decide, by decide⟩
  obtain ⟨T49, h49, X49, e49, W49, st49⟩ := stC X47 hx hZ e47 Ar48 (j := (11 : Int32)) hin49 (g := (mkF m 123 #[.val (.long i0), .second, .val (.long i1), .second, .val (.long i2), .second, .val (.ref s0), .unset, .unset] [(.int c11), (.int (11 : Int32)), (.ref s0)])) rfl rfl (hb hby at_123)
  rw [own_narc hc11.1 hc11.2] at W49
  have N49 := Fr.snoc X49 N47 g_s0
  try clear N47
  have K50 := own_ext_wr K46 W49 sz_s0
  try clear K46
  replace V_s0 : Arv Z h49 s0 k1 .char (24 : Int32) [(.int c0), (.int c1), (.int c2), (.int c3), (.int c4), (.int c5), (.int c6), (.int c7), (.int c8), (.int c9), (.int c10), (.int c11), (.int (0 : Int32)), (.int (0 : Int32)), (.int (0 : Int32)), (.int (0 : Int32)), (.int (0 : Int32)), (.int (0 : Int32)), (.int (0 : Int32)), (.int (0 : Int32)), (.int (0 : Int32)), (.int (0 : Int32)), (.int (0 : Int32)), (.int (0 : Int32))] (.int (0 : Int32)) := Arv.set Ar48 qa48 Sa48 Na48 Ha48 Ga48 (own_fitc hc11.1 hc11.2) W49 11 rfl (Nat.le_of_ble_eq_true rfl)
  try clear Ga48
  try clear Ha48
  try clear Na48
  try clear Sa48
  try clear qa48
  try clear W49
  try clear hin49
  try clear Ar48
  try clear cl48
  refine own_st st49 ?_
  try clear st49
  try clear e47
  try clear X47
  try clear T47
  show own_Gl p e below _ (T49.setTop (mkF m 124 #[.val (.long i0), .second, .val (.long i1), .second, .val (.long i2), .second, .val (.ref s0), .unset, .unset] []))
  refine own_st (fun tg_ kg_ => XS.aload X49.here hx rfl (hb hby at_124) rfl rfl kg_) ?_
  show own_Gl p e below _ (T49.setTop (mkF m 126 #[.val (.long i0), .second, .val (.long i1), .second, .val (.long i2), .second, .val (.ref s0), .unset, .unset] [(.ref s0)]))
  refine own_st (fun tg_ kg_ => XS.bipush X49.here hx rfl (hb hby at_126) kg_) ?_
  show own_Gl p e below _ (T49.setTop (mkF m 128 #[.val (.long i0), .second, .val (.long i1), .second, .val (.long i2), .second, .val (.ref s0), .unset, .unset] [(.int (12 : Int32)), (.ref s0)]))
  refine own_st (fun tg_ kg_ => XS.lloadN X49.here hx rfl (hb hby at_128) rfl kg_) ?_
  show own_Gl p e below _ (T49.setTop (mkF m 129 #[.val (.long i0), .second, .val (.long i1), .second, .val (.long i2), .second, .val (.ref s0), .unset, .unset] [(.long i0), (.int (12 : Int32)), (.ref s0)]))
  refine own_st (fun tg_ kg_ => XS.iconst X49.here hx rfl (hb hby at_129) kg_) ?_
  show own_Gl p e below _ (T49.setTop (mkF m 130 #[.val (.long i0), .second, .val (.long i1), .second, .val (.long i2), .second, .val (.ref s0), .unset, .unset] [(.int (4 : Int32)), (.long i0), (.int (12 : Int32)), (.ref s0)]))
  obtain ⟨_, _, ⟨T51, L51, k51, n51⟩, -, X51, ⟨Lc51, hQ51, l51, y51, z51⟩, st51⟩ := Jvm.LawKit.callS X49 hx (y := (⟨"com/example/highwater/highwater/config/TokenSecretFromTextPinLaw", "hi", "(JI)C"⟩ : MethodName)) hown (mvT hZ (hw _ (List.mem_of_getElem? (i := 1) rfl))) (mvT hZ (hw _ (List.mem_of_getElem? (i := 2) rfl))) (mvT hZ (hw _ (List.mem_of_getElem? (i := 3) rfl))) (mvT hZ (hw _ (List.mem_of_getElem? (i := 4) rfl))) (by decide) (backOf (W := 2) (own_rm_hi l Z a0 hw [] i0 (4 : Int32) h49 n0 (Nat.le_trans Z0 K50.1)) hZ (hw _ (List.mem_of_getElem? (i := 4) rfl)) (hw _ (List.mem_of_getElem? (i := 3) rfl)) (by decide) (by decide)) (g := (mkF m 130 #[.val (.long i0), .second, .val (.long i1), .second, .val (.long i2), .second, .val (.ref s0), .unset, .unset] [(.int (4 : Int32)), (.long i0), (.int (12 : Int32)), (.ref s0)])) rfl (by rw [hml]; rfl) (argsL := [(.long i0), (.int (4 : Int32))]) (rest := [(.int (12 : Int32)), (.ref s0)]) (lenOf own_pd11 rfl) rfl (by show 2 * 0 + _ ≤ _; exact Nat.le_of_eq rfl) (hb hby at_130) (fun _ _ => ⟨rfl, e49, (by decide : 1 + 0 ≤ _), (by decide : 24 + 0 ≤ _)⟩)
  dsimp only [Pt.U, Pt.locs, Pt.cells, Pt.slots] at X51 l51 y51 z51 st51 hQ51
  obtain rfl : k51 = 1 := y51
  obtain rfl : n51 = 24 := z51
  obtain ⟨⟨c12, rfl, hh12⟩, N51q, e51⟩ := hQ51
  have N51 : Fr n0 L51 := by rw [l51]; exact Fr.app N49 N51q
  try clear l51
  refine own_st st51 ?_
  show own_Gl p e below _ (T51.setTop (mkF m 133 #[.val (.long i0), .second, .val (.long i1), .second, .val (.long i2), .second, .val (.ref s0), .unset, .unset] [(.int c12), (.int (12 : Int32)), (.ref s0)]))
  try clear st51
  try clear N51q
  try clear N49
  try clear e49
  try clear X49
  try clear T49
  have hc12 : (¬ c12 < 0 ∧ ¬ (255 : Int32) < c12) := ⟨own_lt0 hh12.1, hh12.2⟩
  obtain ⟨cl52, Ar52, qa52, Sa52, Na52, Ha52, Ga52⟩ := id V_s0
  have hin53 : ¬ ((12 : Int32) < 0 ∨ cl52.slots.size ≤ ((12 : Int32)).toNatClampNeg) := inb_of Sa52 ⟨by decide, by decide⟩
  obtain ⟨T53, h53, X53, e53, W53, st53⟩ := stC X51 hx hZ e51 Ar52 (j := (12 : Int32)) hin53 (g := (mkF m 133 #[.val (.long i0), .second, .val (.long i1), .second, .val (.long i2), .second, .val (.ref s0), .unset, .unset] [(.int c12), (.int (12 : Int32)), (.ref s0)])) rfl rfl (hb hby at_133)
  rw [own_narc hc12.1 hc12.2] at W53
  have N53 := Fr.snoc X53 N51 g_s0
  try clear N51
  have K54 := own_ext_wr K50 W53 sz_s0
  try clear K50
  replace V_s0 : Arv Z h53 s0 k1 .char (24 : Int32) [(.int c0), (.int c1), (.int c2), (.int c3), (.int c4), (.int c5), (.int c6), (.int c7), (.int c8), (.int c9), (.int c10), (.int c11), (.int c12), (.int (0 : Int32)), (.int (0 : Int32)), (.int (0 : Int32)), (.int (0 : Int32)), (.int (0 : Int32)), (.int (0 : Int32)), (.int (0 : Int32)), (.int (0 : Int32)), (.int (0 : Int32)), (.int (0 : Int32)), (.int (0 : Int32))] (.int (0 : Int32)) := Arv.set Ar52 qa52 Sa52 Na52 Ha52 Ga52 (own_fitc hc12.1 hc12.2) W53 12 rfl (Nat.le_of_ble_eq_true rfl)
  try clear Ga52
  try clear Ha52
  try clear Na52
  try clear Sa52
  try clear qa52
  try clear W53
  try clear hin53
  try clear Ar52
  try clear cl52
  refine own_st st53 ?_
  try clear st53
  try clear e51
  try clear X51
  try clear T51
  show own_Gl p e below _ (T53.setTop (mkF m 134 #[.val (.long i0), .second, .val (.long i1), .second, .val (.long i2), .second, .val (.ref s0), .unset, .unset] []))
  refine own_st (fun tg_ kg_ => XS.aload X53.here hx rfl (hb hby at_134) rfl rfl kg_) ?_
  show own_Gl p e below _ (T53.setTop (mkF m 136 #[.val (.long i0), .second, .val (.long i1), .second, .val (.long i2), .second, .val (.ref s0), .unset, .unset] [(.ref s0)]))
  refine own_st (fun tg_ kg_ => XS.bipush X53.here hx rfl (hb hby at_136) kg_) ?_
  show own_Gl p e below _ (T53.setTop (mkF m 138 #[.val (.long i0), .second, .val (.long i1), .second, .val (.long i2), .second, .val (.ref s0), .unset, .unset] [(.int (13 : Int32)), (.ref s0)]))
  refine own_st (fun tg_ kg_ => XS.lloadN X53.here hx rfl (hb hby at_138) rfl kg_) ?_
  show own_Gl p e below _ (T53.setTop (mkF m 139 #[.val (.long i0), .second, .val (.long i1), .second, .val (.long i2), .second, .val (.ref s0), .unset, .unset] [(.long i1), (.int (13 : Int32)), (.ref s0)]))
  refine own_st (fun tg_ kg_ => XS.iconst X53.here hx rfl (hb hby at_139) kg_) ?_
  show own_Gl p e below _ (T53.setTop (mkF m 140 #[.val (.long i0), .second, .val (.long i1), .second, .val (.long i2), .second, .val (.ref s0), .unset, .unset] [(.int (4 : Int32)), (.long i1), (.int (13 : Int32)), (.ref s0)]))
  obtain ⟨_, _, ⟨T55, L55, k55, n55⟩, -, X55, ⟨Lc55, hQ55, l55, y55, z55⟩, st55⟩ := Jvm.LawKit.callS X53 hx (y := (⟨"com/example/highwater/highwater/config/TokenSecretFromTextPinLaw", "lo", "(JI)C"⟩ : MethodName)) hown (mvT hZ (hw _ (List.mem_of_getElem? (i := 6) rfl))) (mvT hZ (hw _ (List.mem_of_getElem? (i := 7) rfl))) (mvT hZ (hw _ (List.mem_of_getElem? (i := 3) rfl))) (mvT hZ (hw _ (List.mem_of_getElem? (i := 8) rfl))) (by decide) (backOf (W := 2) (own_rm_lo l Z a0 hw [] i1 (4 : Int32) h53 n0 (Nat.le_trans Z0 K54.1)) hZ (hw _ (List.mem_of_getElem? (i := 8) rfl)) (hw _ (List.mem_of_getElem? (i := 3) rfl)) (by decide) (by decide)) (g := (mkF m 140 #[.val (.long i0), .second, .val (.long i1), .second, .val (.long i2), .second, .val (.ref s0), .unset, .unset] [(.int (4 : Int32)), (.long i1), (.int (13 : Int32)), (.ref s0)])) rfl (by rw [hml]; rfl) (argsL := [(.long i1), (.int (4 : Int32))]) (rest := [(.int (13 : Int32)), (.ref s0)]) (lenOf own_pd11 rfl) rfl (by show 2 * 0 + _ ≤ _; exact Nat.le_of_eq rfl) (hb hby at_140) (fun _ _ => ⟨rfl, e53, (by decide : 1 + 0 ≤ _), (by decide : 24 + 0 ≤ _)⟩)
  dsimp only [Pt.U, Pt.locs, Pt.cells, Pt.slots] at X55 l55 y55 z55 st55 hQ55
  obtain rfl : k55 = 1 := y55
  obtain rfl : n55 = 24 := z55
  obtain ⟨⟨c13, rfl, hh13⟩, N55q, e55⟩ := hQ55
  have N55 : Fr n0 L55 := by rw [l55]; exact Fr.app N53 N55q
  try clear l55
  refine own_st st55 ?_
  show own_Gl p e below _ (T55.setTop (mkF m 143 #[.val (.long i0), .second, .val (.long i1), .second, .val (.long i2), .second, .val (.ref s0), .unset, .unset] [(.int c13), (.int (13 : Int32)), (.ref s0)]))
  try clear st55
  try clear N55q
  try clear N53
  try clear e53
  try clear X53
  try clear T53
  have hc13 : (¬ c13 < 0 ∧ ¬ (255 : Int32) < c13) := hh13
  obtain ⟨cl56, Ar56, qa56, Sa56, Na56, Ha56, Ga56⟩ := id V_s0
  have hin57 : ¬ ((13 : Int32) < 0 ∨ cl56.slots.size ≤ ((13 : Int32)).toNatClampNeg) := inb_of Sa56 ⟨by decide, by decide⟩
  obtain ⟨T57, h57, X57, e57, W57, st57⟩ := stC X55 hx hZ e55 Ar56 (j := (13 : Int32)) hin57 (g := (mkF m 143 #[.val (.long i0), .second, .val (.long i1), .second, .val (.long i2), .second, .val (.ref s0), .unset, .unset] [(.int c13), (.int (13 : Int32)), (.ref s0)])) rfl rfl (hb hby at_143)
  rw [own_narc hc13.1 hc13.2] at W57
  have N57 := Fr.snoc X57 N55 g_s0
  try clear N55
  have K58 := own_ext_wr K54 W57 sz_s0
  try clear K54
  replace V_s0 : Arv Z h57 s0 k1 .char (24 : Int32) [(.int c0), (.int c1), (.int c2), (.int c3), (.int c4), (.int c5), (.int c6), (.int c7), (.int c8), (.int c9), (.int c10), (.int c11), (.int c12), (.int c13), (.int (0 : Int32)), (.int (0 : Int32)), (.int (0 : Int32)), (.int (0 : Int32)), (.int (0 : Int32)), (.int (0 : Int32)), (.int (0 : Int32)), (.int (0 : Int32)), (.int (0 : Int32)), (.int (0 : Int32))] (.int (0 : Int32)) := Arv.set Ar56 qa56 Sa56 Na56 Ha56 Ga56 (own_fitc hc13.1 hc13.2) W57 13 rfl (Nat.le_of_ble_eq_true rfl)
  try clear Ga56
  try clear Ha56
  try clear Na56
  try clear Sa56
  try clear qa56
  try clear W57
  try clear hin57
  try clear Ar56
  try clear cl56
  refine own_st st57 ?_
  try clear st57
  try clear e55
  try clear X55
  try clear T55
  show own_Gl p e below _ (T57.setTop (mkF m 144 #[.val (.long i0), .second, .val (.long i1), .second, .val (.long i2), .second, .val (.ref s0), .unset, .unset] []))
  refine own_st (fun tg_ kg_ => XS.aload X57.here hx rfl (hb hby at_144) rfl rfl kg_) ?_
  show own_Gl p e below _ (T57.setTop (mkF m 146 #[.val (.long i0), .second, .val (.long i1), .second, .val (.long i2), .second, .val (.ref s0), .unset, .unset] [(.ref s0)]))
  refine own_st (fun tg_ kg_ => XS.bipush X57.here hx rfl (hb hby at_146) kg_) ?_
  show own_Gl p e below _ (T57.setTop (mkF m 148 #[.val (.long i0), .second, .val (.long i1), .second, .val (.long i2), .second, .val (.ref s0), .unset, .unset] [(.int (14 : Int32)), (.ref s0)]))
  refine own_st (fun tg_ kg_ => XS.lload X57.here hx rfl (hb hby at_148) rfl kg_) ?_
  show own_Gl p e below _ (T57.setTop (mkF m 150 #[.val (.long i0), .second, .val (.long i1), .second, .val (.long i2), .second, .val (.ref s0), .unset, .unset] [(.long i2), (.int (14 : Int32)), (.ref s0)]))
  refine own_st (fun tg_ kg_ => XS.iconst X57.here hx rfl (hb hby at_150) kg_) ?_
  show own_Gl p e below _ (T57.setTop (mkF m 151 #[.val (.long i0), .second, .val (.long i1), .second, .val (.long i2), .second, .val (.ref s0), .unset, .unset] [(.int (4 : Int32)), (.long i2), (.int (14 : Int32)), (.ref s0)]))
  obtain ⟨_, _, ⟨T59, L59, k59, n59⟩, -, X59, ⟨Lc59, hQ59, l59, y59, z59⟩, st59⟩ := Jvm.LawKit.callS X57 hx (y := (⟨"com/example/highwater/highwater/config/TokenSecretFromTextPinLaw", "lo", "(JI)C"⟩ : MethodName)) hown (mvT hZ (hw _ (List.mem_of_getElem? (i := 6) rfl))) (mvT hZ (hw _ (List.mem_of_getElem? (i := 7) rfl))) (mvT hZ (hw _ (List.mem_of_getElem? (i := 3) rfl))) (mvT hZ (hw _ (List.mem_of_getElem? (i := 8) rfl))) (by decide) (backOf (W := 2) (own_rm_lo l Z a0 hw [] i2 (4 : Int32) h57 n0 (Nat.le_trans Z0 K58.1)) hZ (hw _ (List.mem_of_getElem? (i := 8) rfl)) (hw _ (List.mem_of_getElem? (i := 3) rfl)) (by decide) (by decide)) (g := (mkF m 151 #[.val (.long i0), .second, .val (.long i1), .second, .val (.long i2), .second, .val (.ref s0), .unset, .unset] [(.int (4 : Int32)), (.long i2), (.int (14 : Int32)), (.ref s0)])) rfl (by rw [hml]; rfl) (argsL := [(.long i2), (.int (4 : Int32))]) (rest := [(.int (14 : Int32)), (.ref s0)]) (lenOf own_pd11 rfl) rfl (by show 2 * 0 + _ ≤ _; exact Nat.le_of_eq rfl) (hb hby at_151) (fun _ _ => ⟨rfl, e57, (by decide : 1 + 0 ≤ _), (by decide : 24 + 0 ≤ _)⟩)
  dsimp only [Pt.U, Pt.locs, Pt.cells, Pt.slots] at X59 l59 y59 z59 st59 hQ59
  obtain rfl : k59 = 1 := y59
  obtain rfl : n59 = 24 := z59
  obtain ⟨⟨c14, rfl, hh14⟩, N59q, e59⟩ := hQ59
  have N59 : Fr n0 L59 := by rw [l59]; exact Fr.app N57 N59q
  try clear l59
  refine own_st st59 ?_
  show own_Gl p e below _ (T59.setTop (mkF m 154 #[.val (.long i0), .second, .val (.long i1), .second, .val (.long i2), .second, .val (.ref s0), .unset, .unset] [(.int c14), (.int (14 : Int32)), (.ref s0)]))
  try clear st59
  try clear N59q
  try clear N57
  try clear e57
  try clear X57
  try clear T57
  have hc14 : (¬ c14 < 0 ∧ ¬ (255 : Int32) < c14) := hh14
  obtain ⟨cl60, Ar60, qa60, Sa60, Na60, Ha60, Ga60⟩ := id V_s0
  have hin61 : ¬ ((14 : Int32) < 0 ∨ cl60.slots.size ≤ ((14 : Int32)).toNatClampNeg) := inb_of Sa60 ⟨by decide, by decide⟩
  obtain ⟨T61, h61, X61, e61, W61, st61⟩ := stC X59 hx hZ e59 Ar60 (j := (14 : Int32)) hin61 (g := (mkF m 154 #[.val (.long i0), .second, .val (.long i1), .second, .val (.long i2), .second, .val (.ref s0), .unset, .unset] [(.int c14), (.int (14 : Int32)), (.ref s0)])) rfl rfl (hb hby at_154)
  rw [own_narc hc14.1 hc14.2] at W61
  have N61 := Fr.snoc X61 N59 g_s0
  try clear N59
  have K62 := own_ext_wr K58 W61 sz_s0
  try clear K58
  replace V_s0 : Arv Z h61 s0 k1 .char (24 : Int32) [(.int c0), (.int c1), (.int c2), (.int c3), (.int c4), (.int c5), (.int c6), (.int c7), (.int c8), (.int c9), (.int c10), (.int c11), (.int c12), (.int c13), (.int c14), (.int (0 : Int32)), (.int (0 : Int32)), (.int (0 : Int32)), (.int (0 : Int32)), (.int (0 : Int32)), (.int (0 : Int32)), (.int (0 : Int32)), (.int (0 : Int32)), (.int (0 : Int32))] (.int (0 : Int32)) := Arv.set Ar60 qa60 Sa60 Na60 Ha60 Ga60 (own_fitc hc14.1 hc14.2) W61 14 rfl (Nat.le_of_ble_eq_true rfl)
  try clear Ga60
  try clear Ha60
  try clear Na60
  try clear Sa60
  try clear qa60
  try clear W61
  try clear hin61
  try clear Ar60
  try clear cl60
  refine own_st st61 ?_
  try clear st61
  try clear e59
  try clear X59
  try clear T59
  show own_Gl p e below _ (T61.setTop (mkF m 155 #[.val (.long i0), .second, .val (.long i1), .second, .val (.long i2), .second, .val (.ref s0), .unset, .unset] []))
  refine own_st (fun tg_ kg_ => XS.aload X61.here hx rfl (hb hby at_155) rfl rfl kg_) ?_
  show own_Gl p e below _ (T61.setTop (mkF m 157 #[.val (.long i0), .second, .val (.long i1), .second, .val (.long i2), .second, .val (.ref s0), .unset, .unset] [(.ref s0)]))
  refine own_st (fun tg_ kg_ => XS.bipush X61.here hx rfl (hb hby at_157) kg_) ?_
  show own_Gl p e below _ (T61.setTop (mkF m 159 #[.val (.long i0), .second, .val (.long i1), .second, .val (.long i2), .second, .val (.ref s0), .unset, .unset] [(.int (15 : Int32)), (.ref s0)]))
  refine own_st (fun tg_ kg_ => XS.lloadN X61.here hx rfl (hb hby at_159) rfl kg_) ?_
  show own_Gl p e below _ (T61.setTop (mkF m 160 #[.val (.long i0), .second, .val (.long i1), .second, .val (.long i2), .second, .val (.ref s0), .unset, .unset] [(.long i0), (.int (15 : Int32)), (.ref s0)]))
  refine own_st (fun tg_ kg_ => XS.iconst X61.here hx rfl (hb hby at_160) kg_) ?_
  show own_Gl p e below _ (T61.setTop (mkF m 161 #[.val (.long i0), .second, .val (.long i1), .second, .val (.long i2), .second, .val (.ref s0), .unset, .unset] [(.int (5 : Int32)), (.long i0), (.int (15 : Int32)), (.ref s0)]))
  obtain ⟨_, _, ⟨T63, L63, k63, n63⟩, -, X63, ⟨Lc63, hQ63, l63, y63, z63⟩, st63⟩ := Jvm.LawKit.callS X61 hx (y := (⟨"com/example/highwater/highwater/config/TokenSecretFromTextPinLaw", "hi", "(JI)C"⟩ : MethodName)) hown (mvT hZ (hw _ (List.mem_of_getElem? (i := 1) rfl))) (mvT hZ (hw _ (List.mem_of_getElem? (i := 2) rfl))) (mvT hZ (hw _ (List.mem_of_getElem? (i := 3) rfl))) (mvT hZ (hw _ (List.mem_of_getElem? (i := 4) rfl))) (by decide) (backOf (W := 2) (own_rm_hi l Z a0 hw [] i0 (5 : Int32) h61 n0 (Nat.le_trans Z0 K62.1)) hZ (hw _ (List.mem_of_getElem? (i := 4) rfl)) (hw _ (List.mem_of_getElem? (i := 3) rfl)) (by decide) (by decide)) (g := (mkF m 161 #[.val (.long i0), .second, .val (.long i1), .second, .val (.long i2), .second, .val (.ref s0), .unset, .unset] [(.int (5 : Int32)), (.long i0), (.int (15 : Int32)), (.ref s0)])) rfl (by rw [hml]; rfl) (argsL := [(.long i0), (.int (5 : Int32))]) (rest := [(.int (15 : Int32)), (.ref s0)]) (lenOf own_pd11 rfl) rfl (by show 2 * 0 + _ ≤ _; exact Nat.le_of_eq rfl) (hb hby at_161) (fun _ _ => ⟨rfl, e61, (by decide : 1 + 0 ≤ _), (by decide : 24 + 0 ≤ _)⟩)
  dsimp only [Pt.U, Pt.locs, Pt.cells, Pt.slots] at X63 l63 y63 z63 st63 hQ63
  obtain rfl : k63 = 1 := y63
  obtain rfl : n63 = 24 := z63
  obtain ⟨⟨c15, rfl, hh15⟩, N63q, e63⟩ := hQ63
  have N63 : Fr n0 L63 := by rw [l63]; exact Fr.app N61 N63q
  try clear l63
  refine own_st st63 ?_
  show own_Gl p e below _ (T63.setTop (mkF m 164 #[.val (.long i0), .second, .val (.long i1), .second, .val (.long i2), .second, .val (.ref s0), .unset, .unset] [(.int c15), (.int (15 : Int32)), (.ref s0)]))
  try clear st63
  try clear N63q
  try clear N61
  try clear e61
  try clear X61
  try clear T61
  have hc15 : (¬ c15 < 0 ∧ ¬ (255 : Int32) < c15) := ⟨own_lt0 hh15.1, hh15.2⟩
  obtain ⟨cl64, Ar64, qa64, Sa64, Na64, Ha64, Ga64⟩ := id V_s0
  have hin65 : ¬ ((15 : Int32) < 0 ∨ cl64.slots.size ≤ ((15 : Int32)).toNatClampNeg) := inb_of Sa64 ⟨by decide, by decide⟩
  obtain ⟨T65, h65, X65, e65, W65, st65⟩ := stC X63 hx hZ e63 Ar64 (j := (15 : Int32)) hin65 (g := (mkF m 164 #[.val (.long i0), .second, .val (.long i1), .second, .val (.long i2), .second, .val (.ref s0), .unset, .unset] [(.int c15), (.int (15 : Int32)), (.ref s0)])) rfl rfl (hb hby at_164)
  rw [own_narc hc15.1 hc15.2] at W65
  have N65 := Fr.snoc X65 N63 g_s0
  try clear N63
  have K66 := own_ext_wr K62 W65 sz_s0
  try clear K62
  replace V_s0 : Arv Z h65 s0 k1 .char (24 : Int32) [(.int c0), (.int c1), (.int c2), (.int c3), (.int c4), (.int c5), (.int c6), (.int c7), (.int c8), (.int c9), (.int c10), (.int c11), (.int c12), (.int c13), (.int c14), (.int c15), (.int (0 : Int32)), (.int (0 : Int32)), (.int (0 : Int32)), (.int (0 : Int32)), (.int (0 : Int32)), (.int (0 : Int32)), (.int (0 : Int32)), (.int (0 : Int32))] (.int (0 : Int32)) := Arv.set Ar64 qa64 Sa64 Na64 Ha64 Ga64 (own_fitc hc15.1 hc15.2) W65 15 rfl (Nat.le_of_ble_eq_true rfl)
  try clear Ga64
  try clear Ha64
  try clear Na64
  try clear Sa64
  try clear qa64
  try clear W65
  try clear hin65
  try clear Ar64
  try clear cl64
  refine own_st st65 ?_
  try clear st65
  try clear e63
  try clear X63
  try clear T63
  show own_Gl p e below _ (T65.setTop (mkF m 165 #[.val (.long i0), .second, .val (.long i1), .second, .val (.long i2), .second, .val (.ref s0), .unset, .unset] []))
  refine own_st (fun tg_ kg_ => XS.aload X65.here hx rfl (hb hby at_165) rfl rfl kg_) ?_
  show own_Gl p e below _ (T65.setTop (mkF m 167 #[.val (.long i0), .second, .val (.long i1), .second, .val (.long i2), .second, .val (.ref s0), .unset, .unset] [(.ref s0)]))
  refine own_st (fun tg_ kg_ => XS.bipush X65.here hx rfl (hb hby at_167) kg_) ?_
  show own_Gl p e below _ (T65.setTop (mkF m 169 #[.val (.long i0), .second, .val (.long i1), .second, .val (.long i2), .second, .val (.ref s0), .unset, .unset] [(.int (16 : Int32)), (.ref s0)]))
  refine own_st (fun tg_ kg_ => XS.lloadN X65.here hx rfl (hb hby at_169) rfl kg_) ?_
  show own_Gl p e below _ (T65.setTop (mkF m 170 #[.val (.long i0), .second, .val (.long i1), .second, .val (.long i2), .second, .val (.ref s0), .unset, .unset] [(.long i1), (.int (16 : Int32)), (.ref s0)]))
  refine own_st (fun tg_ kg_ => XS.iconst X65.here hx rfl (hb hby at_170) kg_) ?_
  show own_Gl p e below _ (T65.setTop (mkF m 171 #[.val (.long i0), .second, .val (.long i1), .second, .val (.long i2), .second, .val (.ref s0), .unset, .unset] [(.int (5 : Int32)), (.long i1), (.int (16 : Int32)), (.ref s0)]))
  obtain ⟨_, _, ⟨T67, L67, k67, n67⟩, -, X67, ⟨Lc67, hQ67, l67, y67, z67⟩, st67⟩ := Jvm.LawKit.callS X65 hx (y := (⟨"com/example/highwater/highwater/config/TokenSecretFromTextPinLaw", "lo", "(JI)C"⟩ : MethodName)) hown (mvT hZ (hw _ (List.mem_of_getElem? (i := 6) rfl))) (mvT hZ (hw _ (List.mem_of_getElem? (i := 7) rfl))) (mvT hZ (hw _ (List.mem_of_getElem? (i := 3) rfl))) (mvT hZ (hw _ (List.mem_of_getElem? (i := 8) rfl))) (by decide) (backOf (W := 2) (own_rm_lo l Z a0 hw [] i1 (5 : Int32) h65 n0 (Nat.le_trans Z0 K66.1)) hZ (hw _ (List.mem_of_getElem? (i := 8) rfl)) (hw _ (List.mem_of_getElem? (i := 3) rfl)) (by decide) (by decide)) (g := (mkF m 171 #[.val (.long i0), .second, .val (.long i1), .second, .val (.long i2), .second, .val (.ref s0), .unset, .unset] [(.int (5 : Int32)), (.long i1), (.int (16 : Int32)), (.ref s0)])) rfl (by rw [hml]; rfl) (argsL := [(.long i1), (.int (5 : Int32))]) (rest := [(.int (16 : Int32)), (.ref s0)]) (lenOf own_pd11 rfl) rfl (by show 2 * 0 + _ ≤ _; exact Nat.le_of_eq rfl) (hb hby at_171) (fun _ _ => ⟨rfl, e65, (by decide : 1 + 0 ≤ _), (by decide : 24 + 0 ≤ _)⟩)
  dsimp only [Pt.U, Pt.locs, Pt.cells, Pt.slots] at X67 l67 y67 z67 st67 hQ67
  obtain rfl : k67 = 1 := y67
  obtain rfl : n67 = 24 := z67
  obtain ⟨⟨c16, rfl, hh16⟩, N67q, e67⟩ := hQ67
  have N67 : Fr n0 L67 := by rw [l67]; exact Fr.app N65 N67q
  try clear l67
  refine own_st st67 ?_
  show own_Gl p e below _ (T67.setTop (mkF m 174 #[.val (.long i0), .second, .val (.long i1), .second, .val (.long i2), .second, .val (.ref s0), .unset, .unset] [(.int c16), (.int (16 : Int32)), (.ref s0)]))
  try clear st67
  try clear N67q
  try clear N65
  try clear e65
  try clear X65
  try clear T65
  have hc16 : (¬ c16 < 0 ∧ ¬ (255 : Int32) < c16) := hh16
  obtain ⟨cl68, Ar68, qa68, Sa68, Na68, Ha68, Ga68⟩ := id V_s0
  have hin69 : ¬ ((16 : Int32) < 0 ∨ cl68.slots.size ≤ ((16 : Int32)).toNatClampNeg) := inb_of Sa68 ⟨by decide, by decide⟩
  obtain ⟨T69, h69, X69, e69, W69, st69⟩ := stC X67 hx hZ e67 Ar68 (j := (16 : Int32)) hin69 (g := (mkF m 174 #[.val (.long i0), .second, .val (.long i1), .second, .val (.long i2), .second, .val (.ref s0), .unset, .unset] [(.int c16), (.int (16 : Int32)), (.ref s0)])) rfl rfl (hb hby at_174)
  rw [own_narc hc16.1 hc16.2] at W69
  have N69 := Fr.snoc X69 N67 g_s0
  try clear N67
  have K70 := own_ext_wr K66 W69 sz_s0
  try clear K66
  replace V_s0 : Arv Z h69 s0 k1 .char (24 : Int32) [(.int c0), (.int c1), (.int c2), (.int c3), (.int c4), (.int c5), (.int c6), (.int c7), (.int c8), (.int c9), (.int c10), (.int c11), (.int c12), (.int c13), (.int c14), (.int c15), (.int c16), (.int (0 : Int32)), (.int (0 : Int32)), (.int (0 : Int32)), (.int (0 : Int32)), (.int (0 : Int32)), (.int (0 : Int32)), (.int (0 : Int32))] (.int (0 : Int32)) := Arv.set Ar68 qa68 Sa68 Na68 Ha68 Ga68 (own_fitc hc16.1 hc16.2) W69 16 rfl (Nat.le_of_ble_eq_true rfl)
  try clear Ga68
  try clear Ha68
  try clear Na68
  try clear Sa68
  try clear qa68
  try clear W69
  try clear hin69
  try clear Ar68
  try clear cl68
  refine own_st st69 ?_
  try clear st69
  try clear e67
  try clear X67
  try clear T67
  show own_Gl p e below _ (T69.setTop (mkF m 175 #[.val (.long i0), .second, .val (.long i1), .second, .val (.long i2), .second, .val (.ref s0), .unset, .unset] []))
  refine own_st (fun tg_ kg_ => XS.aload X69.here hx rfl (hb hby at_175) rfl rfl kg_) ?_
  show own_Gl p e below _ (T69.setTop (mkF m 177 #[.val (.long i0), .second, .val (.long i1), .second, .val (.long i2), .second, .val (.ref s0), .unset, .unset] [(.ref s0)]))
  refine own_st (fun tg_ kg_ => XS.bipush X69.here hx rfl (hb hby at_177) kg_) ?_
  show own_Gl p e below _ (T69.setTop (mkF m 179 #[.val (.long i0), .second, .val (.long i1), .second, .val (.long i2), .second, .val (.ref s0), .unset, .unset] [(.int (17 : Int32)), (.ref s0)]))
  refine own_st (fun tg_ kg_ => XS.lload X69.here hx rfl (hb hby at_179) rfl kg_) ?_
  show own_Gl p e below _ (T69.setTop (mkF m 181 #[.val (.long i0), .second, .val (.long i1), .second, .val (.long i2), .second, .val (.ref s0), .unset, .unset] [(.long i2), (.int (17 : Int32)), (.ref s0)]))
  refine own_st (fun tg_ kg_ => XS.iconst X69.here hx rfl (hb hby at_181) kg_) ?_
  show own_Gl p e below _ (T69.setTop (mkF m 182 #[.val (.long i0), .second, .val (.long i1), .second, .val (.long i2), .second, .val (.ref s0), .unset, .unset] [(.int (5 : Int32)), (.long i2), (.int (17 : Int32)), (.ref s0)]))
  obtain ⟨_, _, ⟨T71, L71, k71, n71⟩, -, X71, ⟨Lc71, hQ71, l71, y71, z71⟩, st71⟩ := Jvm.LawKit.callS X69 hx (y := (⟨"com/example/highwater/highwater/config/TokenSecretFromTextPinLaw", "lo", "(JI)C"⟩ : MethodName)) hown (mvT hZ (hw _ (List.mem_of_getElem? (i := 6) rfl))) (mvT hZ (hw _ (List.mem_of_getElem? (i := 7) rfl))) (mvT hZ (hw _ (List.mem_of_getElem? (i := 3) rfl))) (mvT hZ (hw _ (List.mem_of_getElem? (i := 8) rfl))) (by decide) (backOf (W := 2) (own_rm_lo l Z a0 hw [] i2 (5 : Int32) h69 n0 (Nat.le_trans Z0 K70.1)) hZ (hw _ (List.mem_of_getElem? (i := 8) rfl)) (hw _ (List.mem_of_getElem? (i := 3) rfl)) (by decide) (by decide)) (g := (mkF m 182 #[.val (.long i0), .second, .val (.long i1), .second, .val (.long i2), .second, .val (.ref s0), .unset, .unset] [(.int (5 : Int32)), (.long i2), (.int (17 : Int32)), (.ref s0)])) rfl (by rw [hml]; rfl) (argsL := [(.long i2), (.int (5 : Int32))]) (rest := [(.int (17 : Int32)), (.ref s0)]) (lenOf own_pd11 rfl) rfl (by show 2 * 0 + _ ≤ _; exact Nat.le_of_eq rfl) (hb hby at_182) (fun _ _ => ⟨rfl, e69, (by decide : 1 + 0 ≤ _), (by decide : 24 + 0 ≤ _)⟩)
  dsimp only [Pt.U, Pt.locs, Pt.cells, Pt.slots] at X71 l71 y71 z71 st71 hQ71
  obtain rfl : k71 = 1 := y71
  obtain rfl : n71 = 24 := z71
  obtain ⟨⟨c17, rfl, hh17⟩, N71q, e71⟩ := hQ71
  have N71 : Fr n0 L71 := by rw [l71]; exact Fr.app N69 N71q
  try clear l71
  refine own_st st71 ?_
  show own_Gl p e below _ (T71.setTop (mkF m 185 #[.val (.long i0), .second, .val (.long i1), .second, .val (.long i2), .second, .val (.ref s0), .unset, .unset] [(.int c17), (.int (17 : Int32)), (.ref s0)]))
  try clear st71
  try clear N71q
  try clear N69
  try clear e69
  try clear X69
  try clear T69
  have hc17 : (¬ c17 < 0 ∧ ¬ (255 : Int32) < c17) := hh17
  obtain ⟨cl72, Ar72, qa72, Sa72, Na72, Ha72, Ga72⟩ := id V_s0
  have hin73 : ¬ ((17 : Int32) < 0 ∨ cl72.slots.size ≤ ((17 : Int32)).toNatClampNeg) := inb_of Sa72 ⟨by decide, by decide⟩
  obtain ⟨T73, h73, X73, e73, W73, st73⟩ := stC X71 hx hZ e71 Ar72 (j := (17 : Int32)) hin73 (g := (mkF m 185 #[.val (.long i0), .second, .val (.long i1), .second, .val (.long i2), .second, .val (.ref s0), .unset, .unset] [(.int c17), (.int (17 : Int32)), (.ref s0)])) rfl rfl (hb hby at_185)
  rw [own_narc hc17.1 hc17.2] at W73
  have N73 := Fr.snoc X73 N71 g_s0
  try clear N71
  have K74 := own_ext_wr K70 W73 sz_s0
  try clear K70
  replace V_s0 : Arv Z h73 s0 k1 .char (24 : Int32) [(.int c0), (.int c1), (.int c2), (.int c3), (.int c4), (.int c5), (.int c6), (.int c7), (.int c8), (.int c9), (.int c10), (.int c11), (.int c12), (.int c13), (.int c14), (.int c15), (.int c16), (.int c17), (.int (0 : Int32)), (.int (0 : Int32)), (.int (0 : Int32)), (.int (0 : Int32)), (.int (0 : Int32)), (.int (0 : Int32))] (.int (0 : Int32)) := Arv.set Ar72 qa72 Sa72 Na72 Ha72 Ga72 (own_fitc hc17.1 hc17.2) W73 17 rfl (Nat.le_of_ble_eq_true rfl)
  try clear Ga72
  try clear Ha72
  try clear Na72
  try clear Sa72
  try clear qa72
  try clear W73
  try clear hin73
  try clear Ar72
  try clear cl72
  refine own_st st73 ?_
  try clear st73
  try clear e71
  try clear X71
  try clear T71
  show own_Gl p e below _ (T73.setTop (mkF m 186 #[.val (.long i0), .second, .val (.long i1), .second, .val (.long i2), .second, .val (.ref s0), .unset, .unset] []))
  refine own_st (fun tg_ kg_ => XS.aload X73.here hx rfl (hb hby at_186) rfl rfl kg_) ?_
  show own_Gl p e below _ (T73.setTop (mkF m 188 #[.val (.long i0), .second, .val (.long i1), .second, .val (.long i2), .second, .val (.ref s0), .unset, .unset] [(.ref s0)]))
  refine own_st (fun tg_ kg_ => XS.bipush X73.here hx rfl (hb hby at_188) kg_) ?_
  show own_Gl p e below _ (T73.setTop (mkF m 190 #[.val (.long i0), .second, .val (.long i1), .second, .val (.long i2), .second, .val (.ref s0), .unset, .unset] [(.int (18 : Int32)), (.ref s0)]))
  refine own_st (fun tg_ kg_ => XS.lloadN X73.here hx rfl (hb hby at_190) rfl kg_) ?_
  show own_Gl p e below _ (T73.setTop (mkF m 191 #[.val (.long i0), .second, .val (.long i1), .second, .val (.long i2), .second, .val (.ref s0), .unset, .unset] [(.long i0), (.int (18 : Int32)), (.ref s0)]))
  refine own_st (fun tg_ kg_ => XS.bipush X73.here hx rfl (hb hby at_191) kg_) ?_
  show own_Gl p e below _ (T73.setTop (mkF m 193 #[.val (.long i0), .second, .val (.long i1), .second, .val (.long i2), .second, .val (.ref s0), .unset, .unset] [(.int (6 : Int32)), (.long i0), (.int (18 : Int32)), (.ref s0)]))
  obtain ⟨_, _, ⟨T75, L75, k75, n75⟩, -, X75, ⟨Lc75, hQ75, l75, y75, z75⟩, st75⟩ := Jvm.LawKit.callS X73 hx (y := (⟨"com/example/highwater/highwater/config/TokenSecretFromTextPinLaw", "hi", "(JI)C"⟩ : MethodName)) hown (mvT hZ (hw _ (List.mem_of_getElem? (i := 1) rfl))) (mvT hZ (hw _ (List.mem_of_getElem? (i := 2) rfl))) (mvT hZ (hw _ (List.mem_of_getElem? (i := 3) rfl))) (mvT hZ (hw _ (List.mem_of_getElem? (i := 4) rfl))) (by decide) (backOf (W := 2) (own_rm_hi l Z a0 hw [] i0 (6 : Int32) h73 n0 (Nat.le_trans Z0 K74.1)) hZ (hw _ (List.mem_of_getElem? (i := 4) rfl)) (hw _ (List.mem_of_getElem? (i := 3) rfl)) (by decide) (by decide)) (g := (mkF m 193 #[.val (.long i0), .second, .val (.long i1), .second, .val (.long i2), .second, .val (.ref s0), .unset, .unset] [(.int (6 : Int32)), (.long i0), (.int (18 : Int32)), (.ref s0)])) rfl (by rw [hml]; rfl) (argsL := [(.long i0), (.int (6 : Int32))]) (rest := [(.int (18 : Int32)), (.ref s0)]) (lenOf own_pd11 rfl) rfl (by show 2 * 0 + _ ≤ _; exact Nat.le_of_eq rfl) (hb hby at_193) (fun _ _ => ⟨rfl, e73, (by decide : 1 + 0 ≤ _), (by decide : 24 + 0 ≤ _)⟩)
  dsimp only [Pt.U, Pt.locs, Pt.cells, Pt.slots] at X75 l75 y75 z75 st75 hQ75
  obtain rfl : k75 = 1 := y75
  obtain rfl : n75 = 24 := z75
  obtain ⟨⟨c18, rfl, hh18⟩, N75q, e75⟩ := hQ75
  have N75 : Fr n0 L75 := by rw [l75]; exact Fr.app N73 N75q
  try clear l75
  refine own_st st75 ?_
  show own_Gl p e below _ (T75.setTop (mkF m 196 #[.val (.long i0), .second, .val (.long i1), .second, .val (.long i2), .second, .val (.ref s0), .unset, .unset] [(.int c18), (.int (18 : Int32)), (.ref s0)]))
  try clear st75
  try clear N75q
  try clear N73
  try clear e73
  try clear X73
  try clear T73
  have hc18 : (¬ c18 < 0 ∧ ¬ (255 : Int32) < c18) := ⟨own_lt0 hh18.1, hh18.2⟩
  obtain ⟨cl76, Ar76, qa76, Sa76, Na76, Ha76, Ga76⟩ := id V_s0
  have hin77 : ¬ ((18 : Int32) < 0 ∨ cl76.slots.size ≤ ((18 : Int32)).toNatClampNeg) := inb_of Sa76 ⟨by decide, by decide⟩
  obtain ⟨T77, h77, X77, e77, W77, st77⟩ := stC X75 hx hZ e75 Ar76 (j := (18 : Int32)) hin77 (g := (mkF m 196 #[.val (.long i0), .second, .val (.long i1), .second, .val (.long i2), .second, .val (.ref s0), .unset, .unset] [(.int c18), (.int (18 : Int32)), (.ref s0)])) rfl rfl (hb hby at_196)
  rw [own_narc hc18.1 hc18.2] at W77
  have N77 := Fr.snoc X77 N75 g_s0
  try clear N75
  have K78 := own_ext_wr K74 W77 sz_s0
  try clear K74
  replace V_s0 : Arv Z h77 s0 k1 .char (24 : Int32) [(.int c0), (.int c1), (.int c2), (.int c3), (.int c4), (.int c5), (.int c6), (.int c7), (.int c8), (.int c9), (.int c10), (.int c11), (.int c12), (.int c13), (.int c14), (.int c15), (.int c16), (.int c17), (.int c18), (.int (0 : Int32)), (.int (0 : Int32)), (.int (0 : Int32)), (.int (0 : Int32)), (.int (0 : Int32))] (.int (0 : Int32)) := Arv.set Ar76 qa76 Sa76 Na76 Ha76 Ga76 (own_fitc hc18.1 hc18.2) W77 18 rfl (Nat.le_of_ble_eq_true rfl)
  try clear Ga76
  try clear Ha76
  try clear Na76
  try clear Sa76
  try clear qa76
  try clear W77
  try clear hin77
  try clear Ar76
  try clear cl76
  refine own_st st77 ?_
  try clear st77
  try clear e75
  try clear X75
  try clear T75
  show own_Gl p e below _ (T77.setTop (mkF m 197 #[.val (.long i0), .second, .val (.long i1), .second, .val (.long i2), .second, .val (.ref s0), .unset, .unset] []))
  refine own_st (fun tg_ kg_ => XS.aload X77.here hx rfl (hb hby at_197) rfl rfl kg_) ?_
  show own_Gl p e below _ (T77.setTop (mkF m 199 #[.val (.long i0), .second, .val (.long i1), .second, .val (.long i2), .second, .val (.ref s0), .unset, .unset] [(.ref s0)]))
  refine own_st (fun tg_ kg_ => XS.bipush X77.here hx rfl (hb hby at_199) kg_) ?_
  show own_Gl p e below _ (T77.setTop (mkF m 201 #[.val (.long i0), .second, .val (.long i1), .second, .val (.long i2), .second, .val (.ref s0), .unset, .unset] [(.int (19 : Int32)), (.ref s0)]))
  refine own_st (fun tg_ kg_ => XS.lloadN X77.here hx rfl (hb hby at_201) rfl kg_) ?_
  show own_Gl p e below _ (T77.setTop (mkF m 202 #[.val (.long i0), .second, .val (.long i1), .second, .val (.long i2), .second, .val (.ref s0), .unset, .unset] [(.long i1), (.int (19 : Int32)), (.ref s0)]))
  refine own_st (fun tg_ kg_ => XS.bipush X77.here hx rfl (hb hby at_202) kg_) ?_
  show own_Gl p e below _ (T77.setTop (mkF m 204 #[.val (.long i0), .second, .val (.long i1), .second, .val (.long i2), .second, .val (.ref s0), .unset, .unset] [(.int (6 : Int32)), (.long i1), (.int (19 : Int32)), (.ref s0)]))
  obtain ⟨_, _, ⟨T79, L79, k79, n79⟩, -, X79, ⟨Lc79, hQ79, l79, y79, z79⟩, st79⟩ := Jvm.LawKit.callS X77 hx (y := (⟨"com/example/highwater/highwater/config/TokenSecretFromTextPinLaw", "lo", "(JI)C"⟩ : MethodName)) hown (mvT hZ (hw _ (List.mem_of_getElem? (i := 6) rfl))) (mvT hZ (hw _ (List.mem_of_getElem? (i := 7) rfl))) (mvT hZ (hw _ (List.mem_of_getElem? (i := 3) rfl))) (mvT hZ (hw _ (List.mem_of_getElem? (i := 8) rfl))) (by decide) (backOf (W := 2) (own_rm_lo l Z a0 hw [] i1 (6 : Int32) h77 n0 (Nat.le_trans Z0 K78.1)) hZ (hw _ (List.mem_of_getElem? (i := 8) rfl)) (hw _ (List.mem_of_getElem? (i := 3) rfl)) (by decide) (by decide)) (g := (mkF m 204 #[.val (.long i0), .second, .val (.long i1), .second, .val (.long i2), .second, .val (.ref s0), .unset, .unset] [(.int (6 : Int32)), (.long i1), (.int (19 : Int32)), (.ref s0)])) rfl (by rw [hml]; rfl) (argsL := [(.long i1), (.int (6 : Int32))]) (rest := [(.int (19 : Int32)), (.ref s0)]) (lenOf own_pd11 rfl) rfl (by show 2 * 0 + _ ≤ _; exact Nat.le_of_eq rfl) (hb hby at_204) (fun _ _ => ⟨rfl, e77, (by decide : 1 + 0 ≤ _), (by decide : 24 + 0 ≤ _)⟩)
  dsimp only [Pt.U, Pt.locs, Pt.cells, Pt.slots] at X79 l79 y79 z79 st79 hQ79
  obtain rfl : k79 = 1 := y79
  obtain rfl : n79 = 24 := z79
  obtain ⟨⟨c19, rfl, hh19⟩, N79q, e79⟩ := hQ79
  have N79 : Fr n0 L79 := by rw [l79]; exact Fr.app N77 N79q
  try clear l79
  refine own_st st79 ?_
  show own_Gl p e below _ (T79.setTop (mkF m 207 #[.val (.long i0), .second, .val (.long i1), .second, .val (.long i2), .second, .val (.ref s0), .unset, .unset] [(.int c19), (.int (19 : Int32)), (.ref s0)]))
  try clear st79
  try clear N79q
  try clear N77
  try clear e77
  try clear X77
  try clear T77
  have hc19 : (¬ c19 < 0 ∧ ¬ (255 : Int32) < c19) := hh19
  obtain ⟨cl80, Ar80, qa80, Sa80, Na80, Ha80, Ga80⟩ := id V_s0
  have hin81 : ¬ ((19 : Int32) < 0 ∨ cl80.slots.size ≤ ((19 : Int32)).toNatClampNeg) := inb_of Sa80 ⟨by decide, by decide⟩
  obtain ⟨T81, h81, X81, e81, W81, st81⟩ := stC X79 hx hZ e79 Ar80 (j := (19 : Int32)) hin81 (g := (mkF m 207 #[.val (.long i0), .second, .val (.long i1), .second, .val (.long i2), .second, .val (.ref s0), .unset, .unset] [(.int c19), (.int (19 : Int32)), (.ref s0)])) rfl rfl (hb hby at_207)
  rw [own_narc hc19.1 hc19.2] at W81
  have N81 := Fr.snoc X81 N79 g_s0
  try clear N79
  have K82 := own_ext_wr K78 W81 sz_s0
  try clear K78
  replace V_s0 : Arv Z h81 s0 k1 .char (24 : Int32) [(.int c0), (.int c1), (.int c2), (.int c3), (.int c4), (.int c5), (.int c6), (.int c7), (.int c8), (.int c9), (.int c10), (.int c11), (.int c12), (.int c13), (.int c14), (.int c15), (.int c16), (.int c17), (.int c18), (.int c19), (.int (0 : Int32)), (.int (0 : Int32)), (.int (0 : Int32)), (.int (0 : Int32))] (.int (0 : Int32)) := Arv.set Ar80 qa80 Sa80 Na80 Ha80 Ga80 (own_fitc hc19.1 hc19.2) W81 19 rfl (Nat.le_of_ble_eq_true rfl)
  try clear Ga80
  try clear Ha80
  try clear Na80
  try clear Sa80
  try clear qa80
  try clear W81
  try clear hin81
  try clear Ar80
  try clear cl80
  refine own_st st81 ?_
  try clear st81
  try clear e79
  try clear X79
  try clear T79
  show own_Gl p e below _ (T81.setTop (mkF m 208 #[.val (.long i0), .second, .val (.long i1), .second, .val (.long i2), .second, .val (.ref s0), .unset, .unset] []))
  refine own_st (fun tg_ kg_ => XS.aload X81.here hx rfl (hb hby at_208) rfl rfl kg_) ?_
  show own_Gl p e below _ (T81.setTop (mkF m 210 #[.val (.long i0), .second, .val (.long i1), .second, .val (.long i2), .second, .val (.ref s0), .unset, .unset] [(.ref s0)]))
  refine own_st (fun tg_ kg_ => XS.bipush X81.here hx rfl (hb hby at_210) kg_) ?_
  show own_Gl p e below _ (T81.setTop (mkF m 212 #[.val (.long i0), .second, .val (.long i1), .second, .val (.long i2), .second, .val (.ref s0), .unset, .unset] [(.int (20 : Int32)), (.ref s0)]))
  refine own_st (fun tg_ kg_ => XS.lload X81.here hx rfl (hb hby at_212) rfl kg_) ?_
  show own_Gl p e below _ (T81.setTop (mkF m 214 #[.val (.long i0), .second, .val (.long i1), .second, .val (.long i2), .second, .val (.ref s0), .unset, .unset] [(.long i2), (.int (20 : Int32)), (.ref s0)]))
  refine own_st (fun tg_ kg_ => XS.bipush X81.here hx rfl (hb hby at_214) kg_) ?_
  show own_Gl p e below _ (T81.setTop (mkF m 216 #[.val (.long i0), .second, .val (.long i1), .second, .val (.long i2), .second, .val (.ref s0), .unset, .unset] [(.int (6 : Int32)), (.long i2), (.int (20 : Int32)), (.ref s0)]))
  obtain ⟨_, _, ⟨T83, L83, k83, n83⟩, -, X83, ⟨Lc83, hQ83, l83, y83, z83⟩, st83⟩ := Jvm.LawKit.callS X81 hx (y := (⟨"com/example/highwater/highwater/config/TokenSecretFromTextPinLaw", "lo", "(JI)C"⟩ : MethodName)) hown (mvT hZ (hw _ (List.mem_of_getElem? (i := 6) rfl))) (mvT hZ (hw _ (List.mem_of_getElem? (i := 7) rfl))) (mvT hZ (hw _ (List.mem_of_getElem? (i := 3) rfl))) (mvT hZ (hw _ (List.mem_of_getElem? (i := 8) rfl))) (by decide) (backOf (W := 2) (own_rm_lo l Z a0 hw [] i2 (6 : Int32) h81 n0 (Nat.le_trans Z0 K82.1)) hZ (hw _ (List.mem_of_getElem? (i := 8) rfl)) (hw _ (List.mem_of_getElem? (i := 3) rfl)) (by decide) (by decide)) (g := (mkF m 216 #[.val (.long i0), .second, .val (.long i1), .second, .val (.long i2), .second, .val (.ref s0), .unset, .unset] [(.int (6 : Int32)), (.long i2), (.int (20 : Int32)), (.ref s0)])) rfl (by rw [hml]; rfl) (argsL := [(.long i2), (.int (6 : Int32))]) (rest := [(.int (20 : Int32)), (.ref s0)]) (lenOf own_pd11 rfl) rfl (by show 2 * 0 + _ ≤ _; exact Nat.le_of_eq rfl) (hb hby at_216) (fun _ _ => ⟨rfl, e81, (by decide : 1 + 0 ≤ _), (by decide : 24 + 0 ≤ _)⟩)
  dsimp only [Pt.U, Pt.locs, Pt.cells, Pt.slots] at X83 l83 y83 z83 st83 hQ83
  obtain rfl : k83 = 1 := y83
  obtain rfl : n83 = 24 := z83
  obtain ⟨⟨c20, rfl, hh20⟩, N83q, e83⟩ := hQ83
  have N83 : Fr n0 L83 := by rw [l83]; exact Fr.app N81 N83q
  try clear l83
  refine own_st st83 ?_
  show own_Gl p e below _ (T83.setTop (mkF m 219 #[.val (.long i0), .second, .val (.long i1), .second, .val (.long i2), .second, .val (.ref s0), .unset, .unset] [(.int c20), (.int (20 : Int32)), (.ref s0)]))
  try clear st83
  try clear N83q
  try clear N81
  try clear e81
  try clear X81
  try clear T81
  have hc20 : (¬ c20 < 0 ∧ ¬ (255 : Int32) < c20) := hh20
  obtain ⟨cl84, Ar84, qa84, Sa84, Na84, Ha84, Ga84⟩ := id V_s0
  have hin85 : ¬ ((20 : Int32) < 0 ∨ cl84.slots.size ≤ ((20 : Int32)).toNatClampNeg) := inb_of Sa84 ⟨by decide, by decide⟩
  obtain ⟨T85, h85, X85, e85, W85, st85⟩ := stC X83 hx hZ e83 Ar84 (j := (20 : Int32)) hin85 (g := (mkF m 219 #[.val (.long i0), .second, .val (.long i1), .second, .val (.long i2), .second, .val (.ref s0), .unset, .unset] [(.int c20), (.int (20 : Int32)), (.ref s0)])) rfl rfl (hb hby at_219)
  rw [own_narc hc20.1 hc20.2] at W85
  have N85 := Fr.snoc X85 N83 g_s0
  try clear N83
  have K86 := own_ext_wr K82 W85 sz_s0
  try clear K82
  replace V_s0 : Arv Z h85 s0 k1 .char (24 : Int32) [(.int c0), (.int c1), (.int c2), (.int c3), (.int c4), (.int c5), (.int c6), (.int c7), (.int c8), (.int c9), (.int c10), (.int c11), (.int c12), (.int c13), (.int c14), (.int c15), (.int c16), (.int c17), (.int c18), (.int c19), (.int c20), (.int (0 : Int32)), (.int (0 : Int32)), (.int (0 : Int32))] (.int (0 : Int32)) := Arv.set Ar84 qa84 Sa84 Na84 Ha84 Ga84 (own_fitc hc20.1 hc20.2) W85 20 rfl (Nat.le_of_ble_eq_true rfl)
  try clear Ga84
  try clear Ha84
  try clear Na84
  try clear Sa84
  try clear qa84
  try clear W85
  try clear hin85
  try clear Ar84
  try clear cl84
  refine own_st st85 ?_
  try clear st85
  try clear e83
  try clear X83
  try clear T83
  show own_Gl p e below _ (T85.setTop (mkF m 220 #[.val (.long i0), .second, .val (.long i1), .second, .val (.long i2), .second, .val (.ref s0), .unset, .unset] []))
  refine own_st (fun tg_ kg_ => XS.aload X85.here hx rfl (hb hby at_220) rfl rfl kg_) ?_
  show own_Gl p e below _ (T85.setTop (mkF m 222 #[.val (.long i0), .second, .val (.long i1), .second, .val (.long i2), .second, .val (.ref s0), .unset, .unset] [(.ref s0)]))
  refine own_st (fun tg_ kg_ => XS.bipush X85.here hx rfl (hb hby at_222) kg_) ?_
  show own_Gl p e below _ (T85.setTop (mkF m 224 #[.val (.long i0), .second, .val (.long i1), .second, .val (.long i2), .second, .val (.ref s0), .unset, .unset] [(.int (21 : Int32)), (.ref s0)]))
  refine own_st (fun tg_ kg_ => XS.lloadN X85.here hx rfl (hb hby at_224) rfl kg_) ?_
  show own_Gl p e below _ (T85.setTop (mkF m 225 #[.val (.long i0), .second, .val (.long i1), .second, .val (.long i2), .second, .val (.ref s0), .unset, .unset] [(.long i0), (.int (21 : Int32)), (.ref s0)]))
  refine own_st (fun tg_ kg_ => XS.bipush X85.here hx rfl (hb hby at_225) kg_) ?_
  show own_Gl p e below _ (T85.setTop (mkF m 227 #[.val (.long i0), .second, .val (.long i1), .second, .val (.long i2), .second, .val (.ref s0), .unset, .unset] [(.int (7 : Int32)), (.long i0), (.int (21 : Int32)), (.ref s0)]))
  obtain ⟨_, _, ⟨T87, L87, k87, n87⟩, -, X87, ⟨Lc87, hQ87, l87, y87, z87⟩, st87⟩ := Jvm.LawKit.callS X85 hx (y := (⟨"com/example/highwater/highwater/config/TokenSecretFromTextPinLaw", "hi", "(JI)C"⟩ : MethodName)) hown (mvT hZ (hw _ (List.mem_of_getElem? (i := 1) rfl))) (mvT hZ (hw _ (List.mem_of_getElem? (i := 2) rfl))) (mvT hZ (hw _ (List.mem_of_getElem? (i := 3) rfl))) (mvT hZ (hw _ (List.mem_of_getElem? (i := 4) rfl))) (by decide) (backOf (W := 2) (own_rm_hi l Z a0 hw [] i0 (7 : Int32) h85 n0 (Nat.le_trans Z0 K86.1)) hZ (hw _ (List.mem_of_getElem? (i := 4) rfl)) (hw _ (List.mem_of_getElem? (i := 3) rfl)) (by decide) (by decide)) (g := (mkF m 227 #[.val (.long i0), .second, .val (.long i1), .second, .val (.long i2), .second, .val (.ref s0), .unset, .unset] [(.int (7 : Int32)), (.long i0), (.int (21 : Int32)), (.ref s0)])) rfl (by rw [hml]; rfl) (argsL := [(.long i0), (.int (7 : Int32))]) (rest := [(.int (21 : Int32)), (.ref s0)]) (lenOf own_pd11 rfl) rfl (by show 2 * 0 + _ ≤ _; exact Nat.le_of_eq rfl) (hb hby at_227) (fun _ _ => ⟨rfl, e85, (by decide : 1 + 0 ≤ _), (by decide : 24 + 0 ≤ _)⟩)
  dsimp only [Pt.U, Pt.locs, Pt.cells, Pt.slots] at X87 l87 y87 z87 st87 hQ87
  obtain rfl : k87 = 1 := y87
  obtain rfl : n87 = 24 := z87
  obtain ⟨⟨c21, rfl, hh21⟩, N87q, e87⟩ := hQ87
  have N87 : Fr n0 L87 := by rw [l87]; exact Fr.app N85 N87q
  try clear l87
  refine own_st st87 ?_
  show own_Gl p e below _ (T87.setTop (mkF m 230 #[.val (.long i0), .second, .val (.long i1), .second, .val (.long i2), .second, .val (.ref s0), .unset, .unset] [(.int c21), (.int (21 : Int32)), (.ref s0)]))
  try clear st87
  try clear N87q
  try clear N85
  try clear e85
  try clear X85
  try clear T85
  have hc21 : (¬ c21 < 0 ∧ ¬ (255 : Int32) < c21) := ⟨own_lt0 hh21.1, hh21.2⟩
  obtain ⟨cl88, Ar88, qa88, Sa88, Na88, Ha88, Ga88⟩ := id V_s0
  have hin89 : ¬ ((21 : Int32) < 0 ∨ cl88.slots.size ≤ ((21 : Int32)).toNatClampNeg) := inb_of Sa88 ⟨by decide, by decide⟩
  obtain ⟨T89, h89, X89, e89, W89, st89⟩ := stC X87 hx hZ e87 Ar88 (j := (21 : Int32)) hin89 (g := (mkF m 230 #[.val (.long i0), .second, .val (.long i1), .second, .val (.long i2), .second, .val (.ref s0), .unset, .unset] [(.int c21), (.int (21 : Int32)), (.ref s0)])) rfl rfl (hb hby at_230)
  rw [own_narc hc21.1 hc21.2] at W89
  have N89 := Fr.snoc X89 N87 g_s0
  try clear N87
  have K90 := own_ext_wr K86 W89 sz_s0
  try clear K86
  replace V_s0 : Arv Z h89 s0 k1 .char (24 : Int32) [(.int c0), (.int c1), (.int c2), (.int c3), (.int c4), (.int c5), (.int c6), (.int c7), (.int c8), (.int c9), (.int c10), (.int c11), (.int c12), (.int c13), (.int c14), (.int c15), (.int c16), (.int c17), (.int c18), (.int c19), (.int c20), (.int c21), (.int (0 : Int32)), (.int (0 : Int32))] (.int (0 : Int32)) := Arv.set Ar88 qa88 Sa88 Na88 Ha88 Ga88 (own_fitc hc21.1 hc21.2) W89 21 rfl (Nat.le_of_ble_eq_true rfl)
  try clear Ga88
  try clear Ha88
  try clear Na88
  try clear Sa88
  try clear qa88
  try clear W89
  try clear hin89
  try clear Ar88
  try clear cl88
  refine own_st st89 ?_
  try clear st89
  try clear e87
  try clear X87
  try clear T87
  show own_Gl p e below _ (T89.setTop (mkF m 231 #[.val (.long i0), .second, .val (.long i1), .second, .val (.long i2), .second, .val (.ref s0), .unset, .unset] []))
  refine own_st (fun tg_ kg_ => XS.aload X89.here hx rfl (hb hby at_231) rfl rfl kg_) ?_
  show own_Gl p e below _ (T89.setTop (mkF m 233 #[.val (.long i0), .second, .val (.long i1), .second, .val (.long i2), .second, .val (.ref s0), .unset, .unset] [(.ref s0)]))
  refine own_st (fun tg_ kg_ => XS.bipush X89.here hx rfl (hb hby at_233) kg_) ?_
  show own_Gl p e below _ (T89.setTop (mkF m 235 #[.val (.long i0), .second, .val (.long i1), .second, .val (.long i2), .second, .val (.ref s0), .unset, .unset] [(.int (22 : Int32)), (.ref s0)]))
  refine own_st (fun tg_ kg_ => XS.lloadN X89.here hx rfl (hb hby at_235) rfl kg_) ?_
  show own_Gl p e below _ (T89.setTop (mkF m 236 #[.val (.long i0), .second, .val (.long i1), .second, .val (.long i2), .second, .val (.ref s0), .unset, .unset] [(.long i1), (.int (22 : Int32)), (.ref s0)]))
  refine own_st (fun tg_ kg_ => XS.bipush X89.here hx rfl (hb hby at_236) kg_) ?_
  show own_Gl p e below _ (T89.setTop (mkF m 238 #[.val (.long i0), .second, .val (.long i1), .second, .val (.long i2), .second, .val (.ref s0), .unset, .unset] [(.int (7 : Int32)), (.long i1), (.int (22 : Int32)), (.ref s0)]))
  obtain ⟨_, _, ⟨T91, L91, k91, n91⟩, -, X91, ⟨Lc91, hQ91, l91, y91, z91⟩, st91⟩ := Jvm.LawKit.callS X89 hx (y := (⟨"com/example/highwater/highwater/config/TokenSecretFromTextPinLaw", "lo", "(JI)C"⟩ : MethodName)) hown (mvT hZ (hw _ (List.mem_of_getElem? (i := 6) rfl))) (mvT hZ (hw _ (List.mem_of_getElem? (i := 7) rfl))) (mvT hZ (hw _ (List.mem_of_getElem? (i := 3) rfl))) (mvT hZ (hw _ (List.mem_of_getElem? (i := 8) rfl))) (by decide) (backOf (W := 2) (own_rm_lo l Z a0 hw [] i1 (7 : Int32) h89 n0 (Nat.le_trans Z0 K90.1)) hZ (hw _ (List.mem_of_getElem? (i := 8) rfl)) (hw _ (List.mem_of_getElem? (i := 3) rfl)) (by decide) (by decide)) (g := (mkF m 238 #[.val (.long i0), .second, .val (.long i1), .second, .val (.long i2), .second, .val (.ref s0), .unset, .unset] [(.int (7 : Int32)), (.long i1), (.int (22 : Int32)), (.ref s0)])) rfl (by rw [hml]; rfl) (argsL := [(.long i1), (.int (7 : Int32))]) (rest := [(.int (22 : Int32)), (.ref s0)]) (lenOf own_pd11 rfl) rfl (by show 2 * 0 + _ ≤ _; exact Nat.le_of_eq rfl) (hb hby at_238) (fun _ _ => ⟨rfl, e89, (by decide : 1 + 0 ≤ _), (by decide : 24 + 0 ≤ _)⟩)
  dsimp only [Pt.U, Pt.locs, Pt.cells, Pt.slots] at X91 l91 y91 z91 st91 hQ91
  obtain rfl : k91 = 1 := y91
  obtain rfl : n91 = 24 := z91
  obtain ⟨⟨c22, rfl, hh22⟩, N91q, e91⟩ := hQ91
  have N91 : Fr n0 L91 := by rw [l91]; exact Fr.app N89 N91q
  try clear l91
  refine own_st st91 ?_
  show own_Gl p e below _ (T91.setTop (mkF m 241 #[.val (.long i0), .second, .val (.long i1), .second, .val (.long i2), .second, .val (.ref s0), .unset, .unset] [(.int c22), (.int (22 : Int32)), (.ref s0)]))
  try clear st91
  try clear N91q
  try clear N89
  try clear e89
  try clear X89
  try clear T89
  have hc22 : (¬ c22 < 0 ∧ ¬ (255 : Int32) < c22) := hh22
  obtain ⟨cl92, Ar92, qa92, Sa92, Na92, Ha92, Ga92⟩ := id V_s0
  have hin93 : ¬ ((22 : Int32) < 0 ∨ cl92.slots.size ≤ ((22 : Int32)).toNatClampNeg) := inb_of Sa92 ⟨by decide, by decide⟩
  obtain ⟨T93, h93, X93, e93, W93, st93⟩ := stC X91 hx hZ e91 Ar92 (j := (22 : Int32)) hin93 (g := (mkF m 241 #[.val (.long i0), .second, .val (.long i1), .second, .val (.long i2), .second, .val (.ref s0), .unset, .unset] [(.int c22), (.int (22 : Int32)), (.ref s0)])) rfl rfl (hb hby at_241)
  rw [own_narc hc22.1 hc22.2] at W93
  have N93 := Fr.snoc X93 N91 g_s0
  try clear N91
  have K94 := own_ext_wr K90 W93 sz_s0
  try clear K90
  replace V_s0 : Arv Z h93 s0 k1 .char (24 : Int32) [(.int c0), (.int c1), (.int c2), (.int c3), (.int c4), (.int c5), (.int c6), (.int c7), (.int c8), (.int c9), (.int c10), (.int c11), (.int c12), (.int c13), (.int c14), (.int c15), (.int c16), (.int c17), (.int c18), (.int c19), (.int c20), (.int c21), (.int c22), (.int (0 : Int32))] (.int (0 : Int32)) := Arv.set Ar92 qa92 Sa92 Na92 Ha92 Ga92 (own_fitc hc22.1 hc22.2) W93 22 rfl (Nat.le_of_ble_eq_true rfl)
  try clear Ga92
  try clear Ha92
  try clear Na92
  try clear Sa92
  try clear qa92
  try clear W93
  try clear hin93
  try clear Ar92
  try clear cl92
  refine own_st st93 ?_
  try clear st93
  try clear e91
  try clear X91
  try clear T91
  show own_Gl p e below _ (T93.setTop (mkF m 242 #[.val (.long i0), .second, .val (.long i1), .second, .val (.long i2), .second, .val (.ref s0), .unset, .unset] []))
  refine own_st (fun tg_ kg_ => XS.aload X93.here hx rfl (hb hby at_242) rfl rfl kg_) ?_
  show own_Gl p e below _ (T93.setTop (mkF m 244 #[.val (.long i0), .second, .val (.long i1), .second, .val (.long i2), .second, .val (.ref s0), .unset, .unset] [(.ref s0)]))
  refine own_st (fun tg_ kg_ => XS.bipush X93.here hx rfl (hb hby at_244) kg_) ?_
  show own_Gl p e below _ (T93.setTop (mkF m 246 #[.val (.long i0), .second, .val (.long i1), .second, .val (.long i2), .second, .val (.ref s0), .unset, .unset] [(.int (23 : Int32)), (.ref s0)]))
  refine own_st (fun tg_ kg_ => XS.lload X93.here hx rfl (hb hby at_246) rfl kg_) ?_
  show own_Gl p e below _ (T93.setTop (mkF m 248 #[.val (.long i0), .second, .val (.long i1), .second, .val (.long i2), .second, .val (.ref s0), .unset, .unset] [(.long i2), (.int (23 : Int32)), (.ref s0)]))
  refine own_st (fun tg_ kg_ => XS.bipush X93.here hx rfl (hb hby at_248) kg_) ?_
  show own_Gl p e below _ (T93.setTop (mkF m 250 #[.val (.long i0), .second, .val (.long i1), .second, .val (.long i2), .second, .val (.ref s0), .unset, .unset] [(.int (7 : Int32)), (.long i2), (.int (23 : Int32)), (.ref s0)]))
  obtain ⟨_, _, ⟨T95, L95, k95, n95⟩, -, X95, ⟨Lc95, hQ95, l95, y95, z95⟩, st95⟩ := Jvm.LawKit.callS X93 hx (y := (⟨"com/example/highwater/highwater/config/TokenSecretFromTextPinLaw", "lo", "(JI)C"⟩ : MethodName)) hown (mvT hZ (hw _ (List.mem_of_getElem? (i := 6) rfl))) (mvT hZ (hw _ (List.mem_of_getElem? (i := 7) rfl))) (mvT hZ (hw _ (List.mem_of_getElem? (i := 3) rfl))) (mvT hZ (hw _ (List.mem_of_getElem? (i := 8) rfl))) (by decide) (backOf (W := 2) (own_rm_lo l Z a0 hw [] i2 (7 : Int32) h93 n0 (Nat.le_trans Z0 K94.1)) hZ (hw _ (List.mem_of_getElem? (i := 8) rfl)) (hw _ (List.mem_of_getElem? (i := 3) rfl)) (by decide) (by decide)) (g := (mkF m 250 #[.val (.long i0), .second, .val (.long i1), .second, .val (.long i2), .second, .val (.ref s0), .unset, .unset] [(.int (7 : Int32)), (.long i2), (.int (23 : Int32)), (.ref s0)])) rfl (by rw [hml]; rfl) (argsL := [(.long i2), (.int (7 : Int32))]) (rest := [(.int (23 : Int32)), (.ref s0)]) (lenOf own_pd11 rfl) rfl (by show 2 * 0 + _ ≤ _; exact Nat.le_of_eq rfl) (hb hby at_250) (fun _ _ => ⟨rfl, e93, (by decide : 1 + 0 ≤ _), (by decide : 24 + 0 ≤ _)⟩)
  dsimp only [Pt.U, Pt.locs, Pt.cells, Pt.slots] at X95 l95 y95 z95 st95 hQ95
  obtain rfl : k95 = 1 := y95
  obtain rfl : n95 = 24 := z95
  obtain ⟨⟨c23, rfl, hh23⟩, N95q, e95⟩ := hQ95
  have N95 : Fr n0 L95 := by rw [l95]; exact Fr.app N93 N95q
  try clear l95
  refine own_st st95 ?_
  show own_Gl p e below _ (T95.setTop (mkF m 253 #[.val (.long i0), .second, .val (.long i1), .second, .val (.long i2), .second, .val (.ref s0), .unset, .unset] [(.int c23), (.int (23 : Int32)), (.ref s0)]))
  try clear st95
  try clear N95q
  try clear N93
  try clear e93
  try clear X93
  try clear T93
  have hc23 : (¬ c23 < 0 ∧ ¬ (255 : Int32) < c23) := hh23
  obtain ⟨cl96, Ar96, qa96, Sa96, Na96, Ha96, Ga96⟩ := id V_s0
  have hin97 : ¬ ((23 : Int32) < 0 ∨ cl96.slots.size ≤ ((23 : Int32)).toNatClampNeg) := inb_of Sa96 ⟨by decide, by decide⟩
  obtain ⟨T97, h97, X97, e97, W97, st97⟩ := stC X95 hx hZ e95 Ar96 (j := (23 : Int32)) hin97 (g := (mkF m 253 #[.val (.long i0), .second, .val (.long i1), .second, .val (.long i2), .second, .val (.ref s0), .unset, .unset] [(.int c23), (.int (23 : Int32)), (.ref s0)])) rfl rfl (hb hby at_253)
  rw [own_narc hc23.1 hc23.2] at W97
  have N97 := Fr.snoc X97 N95 g_s0
  try clear N95
  have K98 := own_ext_wr K94 W97 sz_s0
  try clear K94
  replace V_s0 : Arv Z h97 s0 k1 .char (24 : Int32) [(.int c0), (.int c1), (.int c2), (.int c3), (.int c4), (.int c5), (.int c6), (.int c7), (.int c8), (.int c9), (.int c10), (.int c11), (.int c12), (.int c13), (.int c14), (.int c15), (.int c16), (.int c17), (.int c18), (.int c19), (.int c20), (.int c21), (.int c22), (.int c23)] (.int (0 : Int32)) := Arv.set Ar96 qa96 Sa96 Na96 Ha96 Ga96 (own_fitc hc23.1 hc23.2) W97 23 rfl (Nat.le_of_ble_eq_true rfl)
  try clear Ga96
  try clear Ha96
  try clear Na96
  try clear Sa96
  try clear qa96
  try clear W97
  try clear hin97
  try clear Ar96
  try clear cl96
  refine own_st st97 ?_
  try clear st97
  try clear e95
  try clear X95
  try clear T95
  show own_Gl p e below _ (T97.setTop (mkF m 254 #[.val (.long i0), .second, .val (.long i1), .second, .val (.long i2), .second, .val (.ref s0), .unset, .unset] []))
  obtain ⟨T99, h99, X99, e99, E99, A99, D99, -, st99⟩ := newO X97 hx hZ hown (hw _ (List.mem_of_getElem? (i := 10) rfl)) (hw _ (List.mem_of_getElem? (i := 11) rfl)) (hw _ (List.mem_of_getElem? (i := 12) rfl)) e97 (g := (mkF m 254 #[.val (.long i0), .second, .val (.long i1), .second, .val (.long i2), .second, .val (.ref s0), .unset, .unset] [])) rfl (hb hby at_254) (by decide) (by decide)
  obtain ⟨x, g99⟩ : ∃ z, z = h97.size := ⟨_, rfl⟩
  have ne_s0_x : s0 ≠ x := Nat.ne_of_lt (Nat.lt_of_lt_of_le V_s0.lt (Nat.le_of_eq g99.symm))
  have sz_x : h0.size ≤ x := (Nat.le_trans K98.1 (Nat.le_of_eq g99.symm))
  have g_x : n0 ≤ x := Nat.le_trans Z0 sz_x
  rw [← g99] at A99 D99 st99
  replace V_s0 := V_s0.ext E99
  have K100 := own_ext_tr K98 E99
  try clear E99
  try clear K98
  have E_x := A99
  have F_coder_x : Fld Z h99 x "java/lang/String" "coder" "B" (.int (0 : Int32)) := D99 (Or.inr (hw _ (List.mem_of_getElem? (i := 36) rfl))) (ty := .byte) (by decide)
  have F_value_x : Fld Z h99 x "java/lang/String" "value" "[B" .null := D99 (Or.inr (hw _ (List.mem_of_getElem? (i := 38) rfl))) (ty := (.array .byte)) (by decide)
  refine own_st st99 ?_
  try clear st99
  try clear e97
  try clear X97
  try clear T97
  show own_Gl p e below _ (T99.setTop (mkF m 257 #[.val (.long i0), .second, .val (.long i1), .second, .val (.long i2), .second, .val (.ref s0), .unset, .unset] [(.ref x)]))
  refine own_st (fun tg_ kg_ => XS.dup X99.here hx rfl (hb hby at_257) rfl rfl kg_) ?_
  show own_Gl p e below _ (T99.setTop (mkF m 258 #[.val (.long i0), .second, .val (.long i1), .second, .val (.long i2), .second, .val (.ref s0), .unset, .unset] [(.ref x), (.ref x)]))
  refine own_st (fun tg_ kg_ => XS.aload X99.here hx rfl (hb hby at_258) rfl rfl kg_) ?_
  show own_Gl p e below _ (T99.setTop (mkF m 260 #[.val (.long i0), .second, .val (.long i1), .second, .val (.long i2), .second, .val (.ref s0), .unset, .unset] [(.ref s0), (.ref x), (.ref x)]))
  have hws : ∀ d ∈ StrChars.Road.words, d.before a0 Z = true := fun d hd => hw d ((by decide +kernel : ∀ d ∈ StrChars.Road.words, d ∈ tables_1) d hd)
  have hpc : ∀ c ∈ ([c0, c1, c2, c3, c4, c5, c6, c7, c8, c9, c10, c11, c12, c13, c14, c15, c16, c17, c18, c19, c20, c21, c22, c23] : List Int32), ¬ c < 0 ∧ ¬ (255 : Int32) < c := (own_all hc0 (own_all hc1 (own_all hc2 (own_all hc3 (own_all hc4 (own_all hc5 (own_all hc6 (own_all hc7 (own_all hc8 (own_all hc9 (own_all hc10 (own_all hc11 (own_all hc12 (own_all hc13 (own_all hc14 (own_all hc15 (own_all hc16 (own_all hc17 (own_all hc18 (own_all hc19 (own_all hc20 (own_all hc21 (own_all hc22 (own_all hc23 (fun _ q => nomatch q)))))))))))))))))))))))))
  have V_s' : Arv Z h99 s0 k1 .char (24 : Int32) (([c0, c1, c2, c3, c4, c5, c6, c7, c8, c9, c10, c11, c12, c13, c14, c15, c16, c17, c18, c19, c20, c21, c22, c23] : List Int32).map Value.int) (.int (0 : Int32)) := V_s0
  obtain ⟨_, _, ⟨T101, L101, k101, n101⟩, -, X101, ⟨Lc101, hQ101, l101, y101, z101⟩, st101⟩ := X99.specialBack hx (y := (⟨"java/lang/String", "<init>", "([C)V"⟩ : MethodName)) rfl hown (mvT hZ (hw _ (List.mem_of_getElem? (i := 13) rfl))) (mvT hZ (hw _ (List.mem_of_getElem? (i := 14) rfl))) (mvT hZ (hw _ (List.mem_of_getElem? (i := 15) rfl))) (by decide) (StrChars.Road.backV (W := 1) hZ hws (kI := 4) (hw _ (List.mem_of_getElem? (i := 11) rfl)) (cs := [c0, c1, c2, c3, c4, c5, c6, c7, c8, c9, c10, c11, c12, c13, c14, c15, c16, c17, c18, c19, c20, c21, c22, c23]) (bs := [c0.toInt8.toInt32, c1.toInt8.toInt32, c2.toInt8.toInt32, c3.toInt8.toInt32, c4.toInt8.toInt32, c5.toInt8.toInt32, c6.toInt8.toInt32, c7.toInt8.toInt32, c8.toInt8.toInt32, c9.toInt8.toInt32, c10.toInt8.toInt32, c11.toInt8.toInt32, c12.toInt8.toInt32, c13.toInt8.toInt32, c14.toInt8.toInt32, c15.toInt8.toInt32, c16.toInt8.toInt32, c17.toInt8.toInt32, c18.toInt8.toInt32, c19.toInt8.toInt32, c20.toInt8.toInt32, c21.toInt8.toInt32, c22.toInt8.toInt32, c23.toInt8.toInt32]) (n := 24) g_x (Nat.le_trans Z0 K100.1) E_x F_value_x F_coder_x V_s' (S_C.ext K100) hzc rfl rfl (by decide) (by decide) hpc rfl (by decide) (by decide)) (g := (mkF m 260 #[.val (.long i0), .second, .val (.long i1), .second, .val (.long i2), .second, .val (.ref s0), .unset, .unset] [(.ref s0), (.ref x), (.ref x)])) rfl (by rw [hml]; rfl) (Steps.refl _) (a := x) (argsL := [(.ref s0)]) (rest := [(.ref x)]) (lenOf own_pd12 rfl) rfl (by show 2 * 0 + _ ≤ _; exact Nat.le_of_eq rfl) (hb hby at_260) (fun _ _ => ⟨rfl, e99, (by decide : 2 + 1 ≤ _), (by decide : 28 + 24 ≤ _)⟩)
  dsimp only [Pt.U, Pt.locs, Pt.cells, Pt.slots] at X101 l101 y101 z101 st101 hQ101
  obtain rfl : k101 = 3 := y101
  obtain rfl : n101 = 52 := z101
  obtain ⟨rfl, N101q, Kc101, -, F_c, t, kt, -, szc101, -, F_v, V_t⟩ := hQ101
  have N101 : Fr n0 L101 := by rw [l101]; exact Fr.app N97 N101q
  try clear l101
  refine own_tr st101 ?_
  have ne_s0_t : s0 ≠ t := Nat.ne_of_lt (Nat.lt_of_lt_of_le V_s0.lt szc101)
  have ne_x_t : x ≠ t := Nat.ne_of_lt (Nat.lt_of_lt_of_le E_x.lt szc101)
  have sz_t : h0.size ≤ t := Nat.le_trans K100.1 szc101
  have g_t : n0 ≤ t := Nat.le_trans Z0 sz_t
  replace V_s0 := V_s0.keep Kc101 (ninS ne_s0_x nin0)
  replace E_x := E_x.keep Kc101
  have K102 := own_ext_keep K100 Kc101 (allS sz_x all0)
  try clear Kc101
  try clear K100
  show own_Gl p e below _ (T101.setTop (mkF m 263 #[.val (.long i0), .second, .val (.long i1), .second, .val (.long i2), .second, .val (.ref s0), .unset, .unset] [(.ref x)]))
  try clear st101
  try clear N101q
  try clear N97
  try clear e99
  try clear X99
  try clear T99
  have h32 := own_32 (c0 := c0) (c1 := c1) (c2 := c2) (c3 := c3) (c4 := c4) (c5 := c5) (c6 := c6) (c7 := c7) (c8 := c8) (c9 := c9) (c10 := c10) (c11 := c11) (c12 := c12) (c13 := c13) (c14 := c14) (c15 := c15) (c16 := c16) (c17 := c17) (c18 := c18) (c19 := c19) (c20 := c20) (c21 := c21) (c22 := c22) (c23 := c23) hh0 hh3 hh6 hh9 hh12 hh15 hh18 hh21
  obtain ⟨_, _, ⟨T103, L103, k103, n103⟩, -, X103, ⟨Lc103, hQ103, l103, y103, z103⟩, st103⟩ := Jvm.LawKit.callS X101 hx (y := (⟨"com/example/highwater/highwater/config/TokenSecret", "fromText", "(Ljava/lang/String;)Lcom/example/highwater/highwater/config/TokenSecret;"⟩ : MethodName)) hown (mvT hZ (hw _ (List.mem_of_getElem? (i := 39) rfl))) (mvT hZ (hw _ (List.mem_of_getElem? (i := 40) rfl))) (mvT hZ (hw _ (List.mem_of_getElem? (i := 41) rfl))) (mvT hZ (hw _ (List.mem_of_getElem? (i := 42) rfl))) (by decide) (backOf (W := 0) (own_rm_frt l Z a0 hw [] x u zc t kt [c0.toInt8.toInt32, c1.toInt8.toInt32, c2.toInt8.toInt32, c3.toInt8.toInt32, c4.toInt8.toInt32, c5.toInt8.toInt32, c6.toInt8.toInt32, c7.toInt8.toInt32, c8.toInt8.toInt32, c9.toInt8.toInt32, c10.toInt8.toInt32, c11.toInt8.toInt32, c12.toInt8.toInt32, c13.toInt8.toInt32, c14.toInt8.toInt32, c15.toInt8.toInt32, c16.toInt8.toInt32, c17.toInt8.toInt32, c18.toInt8.toInt32, c19.toInt8.toInt32, c20.toInt8.toInt32, c21.toInt8.toInt32, c22.toInt8.toInt32, c23.toInt8.toInt32] T101.heap n0 (Nat.le_trans Z0 K102.1) (S_C.ext K102) hzc (S_I.ext K102) (S_8.ext K102) E_x F_c F_v V_t rfl (own_b_neg hh0.1 hh0.2) h32.1) hZ (hw _ (List.mem_of_getElem? (i := 42) rfl)) (hw _ (List.mem_of_getElem? (i := 41) rfl)) (by decide) (by decide)) (g := (mkF m 263 #[.val (.long i0), .second, .val (.long i1), .second, .val (.long i2), .second, .val (.ref s0), .unset, .unset] [(.ref x)])) rfl (by rw [hml]; rfl) (argsL := [(.ref x)]) (rest := []) (lenOf own_pd13 rfl) rfl (by show 2 * 0 + _ ≤ _; exact Nat.le_of_eq rfl) (hb hby at_263) (fun _ _ => ⟨rfl, rfl, (by decide : 3 + 3 ≤ _), (by decide : 52 + 97 ≤ _)⟩)
  dsimp only [Pt.U, Pt.locs, Pt.cells, Pt.slots] at X103 l103 y103 z103 st103 hQ103
  obtain rfl : k103 = 6 := y103
  obtain rfl : n103 = 149 := z103
  obtain ⟨⟨a, w, kw, rfl, sza103, szw103, E_a, F_k, V_w, E_w⟩, N103q, Kc103⟩ := hQ103
  have N103 : Fr n0 L103 := by rw [l103]; exact Fr.app N101 N103q
  try clear l103
  refine own_st st103 ?_
  have ne_s0_a : s0 ≠ a := Nat.ne_of_lt (Nat.lt_of_lt_of_le V_s0.lt sza103)
  have ne_x_a : x ≠ a := Nat.ne_of_lt (Nat.lt_of_lt_of_le E_x.lt sza103)
  have ne_t_a : t ≠ a := Nat.ne_of_lt (Nat.lt_of_lt_of_le V_t.lt sza103)
  have sz_a : h0.size ≤ a := Nat.le_trans K102.1 sza103
  have g_a : n0 ≤ a := Nat.le_trans Z0 sz_a
  have ne_s0_w : s0 ≠ w := Nat.ne_of_lt (Nat.lt_of_lt_of_le V_s0.lt szw103)
  have ne_x_w : x ≠ w := Nat.ne_of_lt (Nat.lt_of_lt_of_le E_x.lt szw103)
  have ne_t_w : t ≠ w := Nat.ne_of_lt (Nat.lt_of_lt_of_le V_t.lt szw103)
  have sz_w : h0.size ≤ w := Nat.le_trans K102.1 szw103
  have g_w : n0 ≤ w := Nat.le_trans Z0 sz_w
  replace V_s0 := V_s0.ext Kc103
  replace E_x := E_x.ext Kc103
  replace F_c := F_c.ext Kc103
  replace F_v := F_v.ext Kc103
  replace V_t := V_t.ext Kc103
  have K104 := own_ext_tr K102 Kc103
  try clear Kc103
  try clear K102
  show own_Gl p e below _ (T103.setTop (mkF m 266 #[.val (.long i0), .second, .val (.long i1), .second, .val (.long i2), .second, .val (.ref s0), .unset, .unset] [(.ref a)]))
  try clear st103
  try clear N103q
  try clear N101
  try clear X101
  try clear T101
  obtain ⟨cq105, kq105, q105a, q105b, q105c⟩ := isOf hZ rfl E_a
  obtain ⟨_, _, ⟨T105, L105, k105, n105⟩, -, X105, ⟨Lc105, hQ105, l105, y105, z105⟩, st105⟩ := X103.virtualBack hx (y := (⟨"com/example/highwater/highwater/config/TokenSecret", "bytes", "()[B"⟩ : MethodName)) (z := (⟨"com/example/highwater/highwater/config/TokenSecret", "bytes", "()[B"⟩ : MethodName)) hown (mvT hZ (hw _ (List.mem_of_getElem? (i := 97) rfl))) (mvT hZ (hw _ (List.mem_of_getElem? (i := 98) rfl))) (notFace_of_selects (args := #[]) (mvT hZ (hw _ (List.mem_of_getElem? (i := 100) rfl)))) (mvT hZ (hw _ (List.mem_of_getElem? (i := 100) rfl))) (mvT hZ (hw _ (List.mem_of_getElem? (i := 99) rfl))) (by decide) (backOf (W := 0) (own_rm_byt l Z a0 hw [] a w kw (own_enc [c0.toInt8.toInt32, c1.toInt8.toInt32, c2.toInt8.toInt32, c3.toInt8.toInt32, c4.toInt8.toInt32, c5.toInt8.toInt32, c6.toInt8.toInt32, c7.toInt8.toInt32, c8.toInt8.toInt32, c9.toInt8.toInt32, c10.toInt8.toInt32, c11.toInt8.toInt32, c12.toInt8.toInt32, c13.toInt8.toInt32, c14.toInt8.toInt32, c15.toInt8.toInt32, c16.toInt8.toInt32, c17.toInt8.toInt32, c18.toInt8.toInt32, c19.toInt8.toInt32, c20.toInt8.toInt32, c21.toInt8.toInt32, c22.toInt8.toInt32, c23.toInt8.toInt32]) T103.heap n0 (Nat.le_trans Z0 K104.1) F_k V_w E_w h32.2) hZ (hw _ (List.mem_of_getElem? (i := 101) rfl)) (hw _ (List.mem_of_getElem? (i := 41) rfl)) (by decide) (by decide)) q105a q105c (g := (mkF m 266 #[.val (.long i0), .second, .val (.long i1), .second, .val (.long i2), .second, .val (.ref s0), .unset, .unset] [(.ref a)])) rfl (by rw [hml]; rfl) (Steps.refl _) (argsL := []) (rest := []) (lenOf own_pd14 rfl) rfl (by show 2 * 0 + _ ≤ _; exact Nat.le_of_eq rfl) (hb hby at_266) (fun _ _ => ⟨rfl, rfl, (by decide : 6 + 1 ≤ _), (by decide : 149 + 48 ≤ _)⟩)
  dsimp only [Pt.U, Pt.locs, Pt.cells, Pt.slots] at X105 l105 y105 z105 st105 hQ105
  obtain rfl : k105 = 7 := y105
  obtain rfl : n105 = 197 := z105
  obtain ⟨⟨w2, kw2, rfl, szc105, V_w2⟩, N105q, Kc105⟩ := hQ105
  have N105 : Fr n0 L105 := by rw [l105]; exact Fr.app N103 N105q
  try clear l105
  refine own_tr st105 ?_
  have ne_s0_w2 : s0 ≠ w2 := Nat.ne_of_lt (Nat.lt_of_lt_of_le V_s0.lt szc105)
  have ne_x_w2 : x ≠ w2 := Nat.ne_of_lt (Nat.lt_of_lt_of_le E_x.lt szc105)
  have ne_t_w2 : t ≠ w2 := Nat.ne_of_lt (Nat.lt_of_lt_of_le V_t.lt szc105)
  have ne_a_w2 : a ≠ w2 := Nat.ne_of_lt (Nat.lt_of_lt_of_le E_a.lt szc105)
  have ne_w_w2 : w ≠ w2 := Nat.ne_of_lt (Nat.lt_of_lt_of_le V_w.lt szc105)
  have sz_w2 : h0.size ≤ w2 := Nat.le_trans K104.1 szc105
  have g_w2 : n0 ≤ w2 := Nat.le_trans Z0 sz_w2
  replace V_s0 := V_s0.ext Kc105
  replace E_x := E_x.ext Kc105
  replace F_c := F_c.ext Kc105
  replace F_v := F_v.ext Kc105
  replace V_t := V_t.ext Kc105
  replace E_a := E_a.ext Kc105
  replace F_k := F_k.ext Kc105
  replace V_w := V_w.ext Kc105
  replace E_w := E_w.ext Kc105
  have K106 := own_ext_tr K104 Kc105
  try clear Kc105
  try clear K104
  show own_Gl p e below _ (T105.setTop (mkF m 269 #[.val (.long i0), .second, .val (.long i1), .second, .val (.long i2), .second, .val (.ref s0), .unset, .unset] [(.ref w2)]))
  try clear st105
  try clear N105q
  try clear N103
  try clear X103
  try clear T103
  refine own_st (fun tg_ kg_ => XS.astore X105.here hx rfl (hb hby at_269) rfl rfl (l' := #[.val (.long i0), .second, .val (.long i1), .second, .val (.long i2), .second, .val (.ref s0), .val (.ref w2), .unset]) rfl kg_) ?_
  show own_Gl p e below _ (T105.setTop (mkF m 271 #[.val (.long i0), .second, .val (.long i1), .second, .val (.long i2), .second, .val (.ref s0), .val (.ref w2), .unset] []))
  refine own_st (fun tg_ kg_ => XS.iconst X105.here hx rfl (hb hby at_271) kg_) ?_
  show own_Gl p e below _ (T105.setTop (mkF m 272 #[.val (.long i0), .second, .val (.long i1), .second, .val (.long i2), .second, .val (.ref s0), .val (.ref w2), .unset] [(.int (0 : Int32))]))
  refine own_st (fun tg_ kg_ => XS.istore X105.here hx rfl (hb hby at_272) rfl (l' := #[.val (.long i0), .second, .val (.long i1), .second, .val (.long i2), .second, .val (.ref s0), .val (.ref w2), .val (.int (0 : Int32))]) rfl kg_) ?_
  show own_Gl p e below _ (T105.setTop (mkF m 274 #[.val (.long i0), .second, .val (.long i1), .second, .val (.long i2), .second, .val (.ref s0), .val (.ref w2), .val (.int (0 : Int32))] []))
  show own_Gl p e below _ (T105.setTop (mkF m 274 #[.val (.long i0), .second, .val (.long i1), .second, .val (.long i2), .second, .val (.ref s0), .val (.ref w2), .val (.int (Int32.ofNat (own_enc []).length))] []))
  refine own_st (fun tg_ kg_ => XS.aload X105.here hx rfl (hb hby at_274) rfl rfl kg_) ?_
  show own_Gl p e below _ (T105.setTop (mkF m 276 #[.val (.long i0), .second, .val (.long i1), .second, .val (.long i2), .second, .val (.ref s0), .val (.ref w2), .val (.int (Int32.ofNat (own_enc []).length))] [(.ref w2)]))
  refine own_st (fun tg_ kg_ => XS.iload X105.here hx rfl (hb hby at_276) rfl kg_) ?_
  show own_Gl p e below _ (T105.setTop (mkF m 278 #[.val (.long i0), .second, .val (.long i1), .second, .val (.long i2), .second, .val (.ref s0), .val (.ref w2), .val (.int (Int32.ofNat (own_enc []).length))] [(.int (Int32.ofNat (own_enc []).length)), (.ref w2)]))
  refine own_st (fun tg_ kg_ => XS.aload X105.here hx rfl (hb hby at_278) rfl rfl kg_) ?_
  show own_Gl p e below _ (T105.setTop (mkF m 280 #[.val (.long i0), .second, .val (.long i1), .second, .val (.long i2), .second, .val (.ref s0), .val (.ref w2), .val (.int (Int32.ofNat (own_enc []).length))] [(.ref s0), (.int (Int32.ofNat (own_enc []).length)), (.ref w2)]))
  refine own_st (fun tg_ kg_ => XS.iconst X105.here hx rfl (hb hby at_280) kg_) ?_
  show own_Gl p e below _ (T105.setTop (mkF m 281 #[.val (.long i0), .second, .val (.long i1), .second, .val (.long i2), .second, .val (.ref s0), .val (.ref w2), .val (.int (Int32.ofNat (own_enc []).length))] [(.int (0 : Int32)), (.ref s0), (.int (Int32.ofNat (own_enc []).length)), (.ref w2)]))
  obtain ⟨cl107, Ar107, qa107, Sa107, Na107, Ha107, Ga107⟩ := id V_s0
  have hin108 : ¬ ((0 : Int32) < 0 ∨ cl107.slots.size ≤ ((0 : Int32)).toNatClampNeg) := inb_of Sa107 ⟨by decide, by decide⟩
  have hat108 : cl107.slots[((0 : Int32)).toNatClampNeg]? = some (.int c0) := Has.at Ha107 hin108 rfl
  refine own_st (fun tg_ kg_ => X105.caload hx (j := (0 : Int32)) (v := (.int c0)) Ar107.1 (State.isArrayOf_alike hZ.alike Ar107.2.1) Ar107.2.2 hin108 hat108 (g := (mkF m 281 #[.val (.long i0), .second, .val (.long i1), .second, .val (.long i2), .second, .val (.ref s0), .val (.ref w2), .val (.int (Int32.ofNat (own_enc []).length))] [(.int (0 : Int32)), (.ref s0), (.int (Int32.ofNat (own_enc []).length)), (.ref w2)])) rfl rfl (hb hby at_281) _ kg_) ?_
  show own_Gl p e below _ (T105.setTop (mkF m 282 #[.val (.long i0), .second, .val (.long i1), .second, .val (.long i2), .second, .val (.ref s0), .val (.ref w2), .val (.int (Int32.ofNat (own_enc []).length))] [(.int c0), (.int (Int32.ofNat (own_enc []).length)), (.ref w2)]))
  obtain ⟨_, _, ⟨T109, L109, k109, n109⟩, -, X109, ⟨Lc109, hQ109, l109, y109, z109⟩, st109⟩ := Jvm.LawKit.callS X105 hx (y := (⟨"com/example/highwater/highwater/config/TokenSecretFromTextPinLaw", "step", "([BIC)I"⟩ : MethodName)) hown (mvT hZ (hw _ (List.mem_of_getElem? (i := 112) rfl))) (mvT hZ (hw _ (List.mem_of_getElem? (i := 113) rfl))) (mvT hZ (hw _ (List.mem_of_getElem? (i := 3) rfl))) (mvT hZ (hw _ (List.mem_of_getElem? (i := 114) rfl))) (by decide) (backOf (W := 0) (own_rm_stp l Z a0 hw [] w2 kw2 [c0.toInt8.toInt32, c1.toInt8.toInt32, c2.toInt8.toInt32, c3.toInt8.toInt32, c4.toInt8.toInt32, c5.toInt8.toInt32, c6.toInt8.toInt32, c7.toInt8.toInt32, c8.toInt8.toInt32, c9.toInt8.toInt32, c10.toInt8.toInt32, c11.toInt8.toInt32, c12.toInt8.toInt32, c13.toInt8.toInt32, c14.toInt8.toInt32, c15.toInt8.toInt32, c16.toInt8.toInt32, c17.toInt8.toInt32, c18.toInt8.toInt32, c19.toInt8.toInt32, c20.toInt8.toInt32, c21.toInt8.toInt32, c22.toInt8.toInt32, c23.toInt8.toInt32] [] [c1.toInt8.toInt32, c2.toInt8.toInt32, c3.toInt8.toInt32, c4.toInt8.toInt32, c5.toInt8.toInt32, c6.toInt8.toInt32, c7.toInt8.toInt32, c8.toInt8.toInt32, c9.toInt8.toInt32, c10.toInt8.toInt32, c11.toInt8.toInt32, c12.toInt8.toInt32, c13.toInt8.toInt32, c14.toInt8.toInt32, c15.toInt8.toInt32, c16.toInt8.toInt32, c17.toInt8.toInt32, c18.toInt8.toInt32, c19.toInt8.toInt32, c20.toInt8.toInt32, c21.toInt8.toInt32, c22.toInt8.toInt32, c23.toInt8.toInt32] [c0.toInt8.toInt32] c0 T105.heap n0 (Nat.le_trans Z0 K106.1) rfl rfl V_w2 hc0 h32.2) hZ (hw _ (List.mem_of_getElem? (i := 114) rfl)) (hw _ (List.mem_of_getElem? (i := 3) rfl)) (by decide) (by decide)) (g := (mkF m 282 #[.val (.long i0), .second, .val (.long i1), .second, .val (.long i2), .second, .val (.ref s0), .val (.ref w2), .val (.int (Int32.ofNat (own_enc []).length))] [(.int c0), (.int (Int32.ofNat (own_enc []).length)), (.ref w2)])) rfl (by rw [hml]; rfl) (argsL := [(.ref w2), (.int (Int32.ofNat (own_enc []).length)), (.int c0)]) (rest := []) (lenOf own_pd15 rfl) rfl (by show 2 * 0 + _ ≤ _; exact Nat.le_of_eq rfl) (hb hby at_282) (fun _ _ => ⟨rfl, rfl, (by decide : 7 + 0 ≤ _), (by decide : 197 + 0 ≤ _)⟩)
  dsimp only [Pt.U, Pt.locs, Pt.cells, Pt.slots] at X109 l109 y109 z109 st109 hQ109
  obtain rfl : k109 = 7 := y109
  obtain rfl : n109 = 197 := z109
  obtain ⟨rfl, N109q, e109⟩ := hQ109
  have N109 : Fr n0 L109 := by rw [l109]; exact Fr.app N105 N109q
  try clear l109
  refine own_st st109 ?_
  show own_Gl p e below _ (T109.setTop (mkF m 285 #[.val (.long i0), .second, .val (.long i1), .second, .val (.long i2), .second, .val (.ref s0), .val (.ref w2), .val (.int (Int32.ofNat (own_enc []).length))] [(.int (Int32.ofNat (own_enc [c0.toInt8.toInt32]).length))]))
  try clear st109
  try clear N109q
  try clear N105
  try clear X105
  refine own_st (fun tg_ kg_ => XS.istore X109.here hx rfl (hb hby at_285) rfl (l' := #[.val (.long i0), .second, .val (.long i1), .second, .val (.long i2), .second, .val (.ref s0), .val (.ref w2), .val (.int (Int32.ofNat (own_enc [c0.toInt8.toInt32]).length))]) rfl kg_) ?_
  show own_Gl p e below _ (T109.setTop (mkF m 287 #[.val (.long i0), .second, .val (.long i1), .second, .val (.long i2), .second, .val (.ref s0), .val (.ref w2), .val (.int (Int32.ofNat (own_enc [c0.toInt8.toInt32]).length))] []))
  refine own_st (fun tg_ kg_ => XS.aload X109.here hx rfl (hb hby at_287) rfl rfl kg_) ?_
  show own_Gl p e below _ (T109.setTop (mkF m 289 #[.val (.long i0), .second, .val (.long i1), .second, .val (.long i2), .second, .val (.ref s0), .val (.ref w2), .val (.int (Int32.ofNat (own_enc [c0.toInt8.toInt32]).length))] [(.ref w2)]))
  refine own_st (fun tg_ kg_ => XS.iload X109.here hx rfl (hb hby at_289) rfl kg_) ?_
  show own_Gl p e below _ (T109.setTop (mkF m 291 #[.val (.long i0), .second, .val (.long i1), .second, .val (.long i2), .second, .val (.ref s0), .val (.ref w2), .val (.int (Int32.ofNat (own_enc [c0.toInt8.toInt32]).length))] [(.int (Int32.ofNat (own_enc [c0.toInt8.toInt32]).length)), (.ref w2)]))
  refine own_st (fun tg_ kg_ => XS.aload X109.here hx rfl (hb hby at_291) rfl rfl kg_) ?_
  show own_Gl p e below _ (T109.setTop (mkF m 293 #[.val (.long i0), .second, .val (.long i1), .second, .val (.long i2), .second, .val (.ref s0), .val (.ref w2), .val (.int (Int32.ofNat (own_enc [c0.toInt8.toInt32]).length))] [(.ref s0), (.int (Int32.ofNat (own_enc [c0.toInt8.toInt32]).length)), (.ref w2)]))
  refine own_st (fun tg_ kg_ => XS.iconst X109.here hx rfl (hb hby at_293) kg_) ?_
  show own_Gl p e below _ (T109.setTop (mkF m 294 #[.val (.long i0), .second, .val (.long i1), .second, .val (.long i2), .second, .val (.ref s0), .val (.ref w2), .val (.int (Int32.ofNat (own_enc [c0.toInt8.toInt32]).length))] [(.int (1 : Int32)), (.ref s0), (.int (Int32.ofNat (own_enc [c0.toInt8.toInt32]).length)), (.ref w2)]))
  obtain ⟨cl110, Ar110, qa110, Sa110, Na110, Ha110, Ga110⟩ := id V_s0
  have hin111 : ¬ ((1 : Int32) < 0 ∨ cl110.slots.size ≤ ((1 : Int32)).toNatClampNeg) := inb_of Sa110 ⟨by decide, by decide⟩
  have hat111 : cl110.slots[((1 : Int32)).toNatClampNeg]? = some (.int c1) := Has.at Ha110 hin111 rfl
  refine own_st (fun tg_ kg_ => X109.caload hx (j := (1 : Int32)) (v := (.int c1)) (by rw [e109]; exact Ar110.1) (State.isArrayOf_alike hZ.alike Ar110.2.1) Ar110.2.2 hin111 hat111 (g := (mkF m 294 #[.val (.long i0), .second, .val (.long i1), .second, .val (.long i2), .second, .val (.ref s0), .val (.ref w2), .val (.int (Int32.ofNat (own_enc [c0.toInt8.toInt32]).length))] [(.int (1 : Int32)), (.ref s0), (.int (Int32.ofNat (own_enc [c0.toInt8.toInt32]).length)), (.ref w2)])) rfl rfl (hb hby at_294) _ kg_) ?_
  show own_Gl p e below _ (T109.setTop (mkF m 295 #[.val (.long i0), .second, .val (.long i1), .second, .val (.long i2), .second, .val (.ref s0), .val (.ref w2), .val (.int (Int32.ofNat (own_enc [c0.toInt8.toInt32]).length))] [(.int c1), (.int (Int32.ofNat (own_enc [c0.toInt8.toInt32]).length)), (.ref w2)]))
  obtain ⟨_, _, ⟨T112, L112, k112, n112⟩, -, X112, ⟨Lc112, hQ112, l112, y112, z112⟩, st112⟩ := Jvm.LawKit.callS X109 hx (y := (⟨"com/example/highwater/highwater/config/TokenSecretFromTextPinLaw", "step", "([BIC)I"⟩ : MethodName)) hown (mvT hZ (hw _ (List.mem_of_getElem? (i := 112) rfl))) (mvT hZ (hw _ (List.mem_of_getElem? (i := 113) rfl))) (mvT hZ (hw _ (List.mem_of_getElem? (i := 3) rfl))) (mvT hZ (hw _ (List.mem_of_getElem? (i := 114) rfl))) (by decide) (backOf (W := 0) (own_rm_stp l Z a0 hw [] w2 kw2 [c0.toInt8.toInt32, c1.toInt8.toInt32, c2.toInt8.toInt32, c3.toInt8.toInt32, c4.toInt8.toInt32, c5.toInt8.toInt32, c6.toInt8.toInt32, c7.toInt8.toInt32, c8.toInt8.toInt32, c9.toInt8.toInt32, c10.toInt8.toInt32, c11.toInt8.toInt32, c12.toInt8.toInt32, c13.toInt8.toInt32, c14.toInt8.toInt32, c15.toInt8.toInt32, c16.toInt8.toInt32, c17.toInt8.toInt32, c18.toInt8.toInt32, c19.toInt8.toInt32, c20.toInt8.toInt32, c21.toInt8.toInt32, c22.toInt8.toInt32, c23.toInt8.toInt32] [c0.toInt8.toInt32] [c2.toInt8.toInt32, c3.toInt8.toInt32, c4.toInt8.toInt32, c5.toInt8.toInt32, c6.toInt8.toInt32, c7.toInt8.toInt32, c8.toInt8.toInt32, c9.toInt8.toInt32, c10.toInt8.toInt32, c11.toInt8.toInt32, c12.toInt8.toInt32, c13.toInt8.toInt32, c14.toInt8.toInt32, c15.toInt8.toInt32, c16.toInt8.toInt32, c17.toInt8.toInt32, c18.toInt8.toInt32, c19.toInt8.toInt32, c20.toInt8.toInt32, c21.toInt8.toInt32, c22.toInt8.toInt32, c23.toInt8.toInt32] [c0.toInt8.toInt32, c1.toInt8.toInt32] c1 T105.heap n0 (Nat.le_trans Z0 K106.1) rfl rfl V_w2 hc1 h32.2) hZ (hw _ (List.mem_of_getElem? (i := 114) rfl)) (hw _ (List.mem_of_getElem? (i := 3) rfl)) (by decide) (by decide)) (g := (mkF m 295 #[.val (.long i0), .second, .val (.long i1), .second, .val (.long i2), .second, .val (.ref s0), .val (.ref w2), .val (.int (Int32.ofNat (own_enc [c0.toInt8.toInt32]).length))] [(.int c1), (.int (Int32.ofNat (own_enc [c0.toInt8.toInt32]).length)), (.ref w2)])) rfl (by rw [hml]; rfl) (argsL := [(.ref w2), (.int (Int32.ofNat (own_enc [c0.toInt8.toInt32]).length)), (.int c1)]) (rest := []) (lenOf own_pd15 rfl) rfl (by show 2 * 0 + _ ≤ _; exact Nat.le_of_eq rfl) (hb hby at_295) (fun _ _ => ⟨rfl, e109, (by decide : 7 + 0 ≤ _), (by decide : 197 + 0 ≤ _)⟩)
  dsimp only [Pt.U, Pt.locs, Pt.cells, Pt.slots] at X112 l112 y112 z112 st112 hQ112
  obtain rfl : k112 = 7 := y112
  obtain rfl : n112 = 197 := z112
  obtain ⟨rfl, N112q, e112⟩ := hQ112
  have N112 : Fr n0 L112 := by rw [l112]; exact Fr.app N109 N112q
  try clear l112
  refine own_st st112 ?_
  show own_Gl p e below _ (T112.setTop (mkF m 298 #[.val (.long i0), .second, .val (.long i1), .second, .val (.long i2), .second, .val (.ref s0), .val (.ref w2), .val (.int (Int32.ofNat (own_enc [c0.toInt8.toInt32]).length))] [(.int (Int32.ofNat (own_enc [c0.toInt8.toInt32, c1.toInt8.toInt32]).length))]))
  try clear st112
  try clear N112q
  try clear N109
  try clear e109
  try clear X109
  try clear T109
  refine own_st (fun tg_ kg_ => XS.istore X112.here hx rfl (hb hby at_298) rfl (l' := #[.val (.long i0), .second, .val (.long i1), .second, .val (.long i2), .second, .val (.ref s0), .val (.ref w2), .val (.int (Int32.ofNat (own_enc [c0.toInt8.toInt32, c1.toInt8.toInt32]).length))]) rfl kg_) ?_
  show own_Gl p e below _ (T112.setTop (mkF m 300 #[.val (.long i0), .second, .val (.long i1), .second, .val (.long i2), .second, .val (.ref s0), .val (.ref w2), .val (.int (Int32.ofNat (own_enc [c0.toInt8.toInt32, c1.toInt8.toInt32]).length))] []))
  refine own_st (fun tg_ kg_ => XS.aload X112.here hx rfl (hb hby at_300) rfl rfl kg_) ?_
  show own_Gl p e below _ (T112.setTop (mkF m 302 #[.val (.long i0), .second, .val (.long i1), .second, .val (.long i2), .second, .val (.ref s0), .val (.ref w2), .val (.int (Int32.ofNat (own_enc [c0.toInt8.toInt32, c1.toInt8.toInt32]).length))] [(.ref w2)]))
  refine own_st (fun tg_ kg_ => XS.iload X112.here hx rfl (hb hby at_302) rfl kg_) ?_
  show own_Gl p e below _ (T112.setTop (mkF m 304 #[.val (.long i0), .second, .val (.long i1), .second, .val (.long i2), .second, .val (.ref s0), .val (.ref w2), .val (.int (Int32.ofNat (own_enc [c0.toInt8.toInt32, c1.toInt8.toInt32]).length))] [(.int (Int32.ofNat (own_enc [c0.toInt8.toInt32, c1.toInt8.toInt32]).length)), (.ref w2)]))
  refine own_st (fun tg_ kg_ => XS.aload X112.here hx rfl (hb hby at_304) rfl rfl kg_) ?_
  show own_Gl p e below _ (T112.setTop (mkF m 306 #[.val (.long i0), .second, .val (.long i1), .second, .val (.long i2), .second, .val (.ref s0), .val (.ref w2), .val (.int (Int32.ofNat (own_enc [c0.toInt8.toInt32, c1.toInt8.toInt32]).length))] [(.ref s0), (.int (Int32.ofNat (own_enc [c0.toInt8.toInt32, c1.toInt8.toInt32]).length)), (.ref w2)]))
  refine own_st (fun tg_ kg_ => XS.iconst X112.here hx rfl (hb hby at_306) kg_) ?_
  show own_Gl p e below _ (T112.setTop (mkF m 307 #[.val (.long i0), .second, .val (.long i1), .second, .val (.long i2), .second, .val (.ref s0), .val (.ref w2), .val (.int (Int32.ofNat (own_enc [c0.toInt8.toInt32, c1.toInt8.toInt32]).length))] [(.int (2 : Int32)), (.ref s0), (.int (Int32.ofNat (own_enc [c0.toInt8.toInt32, c1.toInt8.toInt32]).length)), (.ref w2)]))
  obtain ⟨cl113, Ar113, qa113, Sa113, Na113, Ha113, Ga113⟩ := id V_s0
  have hin114 : ¬ ((2 : Int32) < 0 ∨ cl113.slots.size ≤ ((2 : Int32)).toNatClampNeg) := inb_of Sa113 ⟨by decide, by decide⟩
  have hat114 : cl113.slots[((2 : Int32)).toNatClampNeg]? = some (.int c2) := Has.at Ha113 hin114 rfl
  refine own_st (fun tg_ kg_ => X112.caload hx (j := (2 : Int32)) (v := (.int c2)) (by rw [e112]; exact Ar113.1) (State.isArrayOf_alike hZ.alike Ar113.2.1) Ar113.2.2 hin114 hat114 (g := (mkF m 307 #[.val (.long i0), .second, .val (.long i1), .second, .val (.long i2), .second, .val (.ref s0), .val (.ref w2), .val (.int (Int32.ofNat (own_enc [c0.toInt8.toInt32, c1.toInt8.toInt32]).length))] [(.int (2 : Int32)), (.ref s0), (.int (Int32.ofNat (own_enc [c0.toInt8.toInt32, c1.toInt8.toInt32]).length)), (.ref w2)])) rfl rfl (hb hby at_307) _ kg_) ?_
  show own_Gl p e below _ (T112.setTop (mkF m 308 #[.val (.long i0), .second, .val (.long i1), .second, .val (.long i2), .second, .val (.ref s0), .val (.ref w2), .val (.int (Int32.ofNat (own_enc [c0.toInt8.toInt32, c1.toInt8.toInt32]).length))] [(.int c2), (.int (Int32.ofNat (own_enc [c0.toInt8.toInt32, c1.toInt8.toInt32]).length)), (.ref w2)]))
  obtain ⟨_, _, ⟨T115, L115, k115, n115⟩, -, X115, ⟨Lc115, hQ115, l115, y115, z115⟩, st115⟩ := Jvm.LawKit.callS X112 hx (y := (⟨"com/example/highwater/highwater/config/TokenSecretFromTextPinLaw", "step", "([BIC)I"⟩ : MethodName)) hown (mvT hZ (hw _ (List.mem_of_getElem? (i := 112) rfl))) (mvT hZ (hw _ (List.mem_of_getElem? (i := 113) rfl))) (mvT hZ (hw _ (List.mem_of_getElem? (i := 3) rfl))) (mvT hZ (hw _ (List.mem_of_getElem? (i := 114) rfl))) (by decide) (backOf (W := 0) (own_rm_stp l Z a0 hw [] w2 kw2 [c0.toInt8.toInt32, c1.toInt8.toInt32, c2.toInt8.toInt32, c3.toInt8.toInt32, c4.toInt8.toInt32, c5.toInt8.toInt32, c6.toInt8.toInt32, c7.toInt8.toInt32, c8.toInt8.toInt32, c9.toInt8.toInt32, c10.toInt8.toInt32, c11.toInt8.toInt32, c12.toInt8.toInt32, c13.toInt8.toInt32, c14.toInt8.toInt32, c15.toInt8.toInt32, c16.toInt8.toInt32, c17.toInt8.toInt32, c18.toInt8.toInt32, c19.toInt8.toInt32, c20.toInt8.toInt32, c21.toInt8.toInt32, c22.toInt8.toInt32, c23.toInt8.toInt32] [c0.toInt8.toInt32, c1.toInt8.toInt32] [c3.toInt8.toInt32, c4.toInt8.toInt32, c5.toInt8.toInt32, c6.toInt8.toInt32, c7.toInt8.toInt32, c8.toInt8.toInt32, c9.toInt8.toInt32, c10.toInt8.toInt32, c11.toInt8.toInt32, c12.toInt8.toInt32, c13.toInt8.toInt32, c14.toInt8.toInt32, c15.toInt8.toInt32, c16.toInt8.toInt32, c17.toInt8.toInt32, c18.toInt8.toInt32, c19.toInt8.toInt32, c20.toInt8.toInt32, c21.toInt8.toInt32, c22.toInt8.toInt32, c23.toInt8.toInt32] [c0.toInt8.toInt32, c1.toInt8.toInt32, c2.toInt8.toInt32] c2 T105.heap n0 (Nat.le_trans Z0 K106.1) rfl rfl V_w2 hc2 h32.2) hZ (hw _ (List.mem_of_getElem? (i := 114) rfl)) (hw _ (List.mem_of_getElem? (i := 3) rfl)) (by decide) (by decide)) (g := (mkF m 308 #[.val (.long i0), .second, .val (.long i1), .second, .val (.long i2), .second, .val (.ref s0), .val (.ref w2), .val (.int (Int32.ofNat (own_enc [c0.toInt8.toInt32, c1.toInt8.toInt32]).length))] [(.int c2), (.int (Int32.ofNat (own_enc [c0.toInt8.toInt32, c1.toInt8.toInt32]).length)), (.ref w2)])) rfl (by rw [hml]; rfl) (argsL := [(.ref w2), (.int (Int32.ofNat (own_enc [c0.toInt8.toInt32, c1.toInt8.toInt32]).length)), (.int c2)]) (rest := []) (lenOf own_pd15 rfl) rfl (by show 2 * 0 + _ ≤ _; exact Nat.le_of_eq rfl) (hb hby at_308) (fun _ _ => ⟨rfl, e112, (by decide : 7 + 0 ≤ _), (by decide : 197 + 0 ≤ _)⟩)
  dsimp only [Pt.U, Pt.locs, Pt.cells, Pt.slots] at X115 l115 y115 z115 st115 hQ115
  obtain rfl : k115 = 7 := y115
  obtain rfl : n115 = 197 := z115
  obtain ⟨rfl, N115q, e115⟩ := hQ115
  have N115 : Fr n0 L115 := by rw [l115]; exact Fr.app N112 N115q
  try clear l115
  refine own_st st115 ?_
  show own_Gl p e below _ (T115.setTop (mkF m 311 #[.val (.long i0), .second, .val (.long i1), .second, .val (.long i2), .second, .val (.ref s0), .val (.ref w2), .val (.int (Int32.ofNat (own_enc [c0.toInt8.toInt32, c1.toInt8.toInt32]).length))] [(.int (Int32.ofNat (own_enc [c0.toInt8.toInt32, c1.toInt8.toInt32, c2.toInt8.toInt32]).length))]))
  try clear st115
  try clear N115q
  try clear N112
  try clear e112
  try clear X112
  try clear T112
  refine own_st (fun tg_ kg_ => XS.istore X115.here hx rfl (hb hby at_311) rfl (l' := #[.val (.long i0), .second, .val (.long i1), .second, .val (.long i2), .second, .val (.ref s0), .val (.ref w2), .val (.int (Int32.ofNat (own_enc [c0.toInt8.toInt32, c1.toInt8.toInt32, c2.toInt8.toInt32]).length))]) rfl kg_) ?_
  show own_Gl p e below _ (T115.setTop (mkF m 313 #[.val (.long i0), .second, .val (.long i1), .second, .val (.long i2), .second, .val (.ref s0), .val (.ref w2), .val (.int (Int32.ofNat (own_enc [c0.toInt8.toInt32, c1.toInt8.toInt32, c2.toInt8.toInt32]).length))] []))
  refine own_st (fun tg_ kg_ => XS.aload X115.here hx rfl (hb hby at_313) rfl rfl kg_) ?_
  show own_Gl p e below _ (T115.setTop (mkF m 315 #[.val (.long i0), .second, .val (.long i1), .second, .val (.long i2), .second, .val (.ref s0), .val (.ref w2), .val (.int (Int32.ofNat (own_enc [c0.toInt8.toInt32, c1.toInt8.toInt32, c2.toInt8.toInt32]).length))] [(.ref w2)]))
  refine own_st (fun tg_ kg_ => XS.iload X115.here hx rfl (hb hby at_315) rfl kg_) ?_
  show own_Gl p e below _ (T115.setTop (mkF m 317 #[.val (.long i0), .second, .val (.long i1), .second, .val (.long i2), .second, .val (.ref s0), .val (.ref w2), .val (.int (Int32.ofNat (own_enc [c0.toInt8.toInt32, c1.toInt8.toInt32, c2.toInt8.toInt32]).length))] [(.int (Int32.ofNat (own_enc [c0.toInt8.toInt32, c1.toInt8.toInt32, c2.toInt8.toInt32]).length)), (.ref w2)]))
  refine own_st (fun tg_ kg_ => XS.aload X115.here hx rfl (hb hby at_317) rfl rfl kg_) ?_
  show own_Gl p e below _ (T115.setTop (mkF m 319 #[.val (.long i0), .second, .val (.long i1), .second, .val (.long i2), .second, .val (.ref s0), .val (.ref w2), .val (.int (Int32.ofNat (own_enc [c0.toInt8.toInt32, c1.toInt8.toInt32, c2.toInt8.toInt32]).length))] [(.ref s0), (.int (Int32.ofNat (own_enc [c0.toInt8.toInt32, c1.toInt8.toInt32, c2.toInt8.toInt32]).length)), (.ref w2)]))
  refine own_st (fun tg_ kg_ => XS.iconst X115.here hx rfl (hb hby at_319) kg_) ?_
  show own_Gl p e below _ (T115.setTop (mkF m 320 #[.val (.long i0), .second, .val (.long i1), .second, .val (.long i2), .second, .val (.ref s0), .val (.ref w2), .val (.int (Int32.ofNat (own_enc [c0.toInt8.toInt32, c1.toInt8.toInt32, c2.toInt8.toInt32]).length))] [(.int (3 : Int32)), (.ref s0), (.int (Int32.ofNat (own_enc [c0.toInt8.toInt32, c1.toInt8.toInt32, c2.toInt8.toInt32]).length)), (.ref w2)]))
  obtain ⟨cl116, Ar116, qa116, Sa116, Na116, Ha116, Ga116⟩ := id V_s0
  have hin117 : ¬ ((3 : Int32) < 0 ∨ cl116.slots.size ≤ ((3 : Int32)).toNatClampNeg) := inb_of Sa116 ⟨by decide, by decide⟩
  have hat117 : cl116.slots[((3 : Int32)).toNatClampNeg]? = some (.int c3) := Has.at Ha116 hin117 rfl
  refine own_st (fun tg_ kg_ => X115.caload hx (j := (3 : Int32)) (v := (.int c3)) (by rw [e115]; exact Ar116.1) (State.isArrayOf_alike hZ.alike Ar116.2.1) Ar116.2.2 hin117 hat117 (g := (mkF m 320 #[.val (.long i0), .second, .val (.long i1), .second, .val (.long i2), .second, .val (.ref s0), .val (.ref w2), .val (.int (Int32.ofNat (own_enc [c0.toInt8.toInt32, c1.toInt8.toInt32, c2.toInt8.toInt32]).length))] [(.int (3 : Int32)), (.ref s0), (.int (Int32.ofNat (own_enc [c0.toInt8.toInt32, c1.toInt8.toInt32, c2.toInt8.toInt32]).length)), (.ref w2)])) rfl rfl (hb hby at_320) _ kg_) ?_
  show own_Gl p e below _ (T115.setTop (mkF m 321 #[.val (.long i0), .second, .val (.long i1), .second, .val (.long i2), .second, .val (.ref s0), .val (.ref w2), .val (.int (Int32.ofNat (own_enc [c0.toInt8.toInt32, c1.toInt8.toInt32, c2.toInt8.toInt32]).length))] [(.int c3), (.int (Int32.ofNat (own_enc [c0.toInt8.toInt32, c1.toInt8.toInt32, c2.toInt8.toInt32]).length)), (.ref w2)]))
  obtain ⟨_, _, ⟨T118, L118, k118, n118⟩, -, X118, ⟨Lc118, hQ118, l118, y118, z118⟩, st118⟩ := Jvm.LawKit.callS X115 hx (y := (⟨"com/example/highwater/highwater/config/TokenSecretFromTextPinLaw", "step", "([BIC)I"⟩ : MethodName)) hown (mvT hZ (hw _ (List.mem_of_getElem? (i := 112) rfl))) (mvT hZ (hw _ (List.mem_of_getElem? (i := 113) rfl))) (mvT hZ (hw _ (List.mem_of_getElem? (i := 3) rfl))) (mvT hZ (hw _ (List.mem_of_getElem? (i := 114) rfl))) (by decide) (backOf (W := 0) (own_rm_stp l Z a0 hw [] w2 kw2 [c0.toInt8.toInt32, c1.toInt8.toInt32, c2.toInt8.toInt32, c3.toInt8.toInt32, c4.toInt8.toInt32, c5.toInt8.toInt32, c6.toInt8.toInt32, c7.toInt8.toInt32, c8.toInt8.toInt32, c9.toInt8.toInt32, c10.toInt8.toInt32, c11.toInt8.toInt32, c12.toInt8.toInt32, c13.toInt8.toInt32, c14.toInt8.toInt32, c15.toInt8.toInt32, c16.toInt8.toInt32, c17.toInt8.toInt32, c18.toInt8.toInt32, c19.toInt8.toInt32, c20.toInt8.toInt32, c21.toInt8.toInt32, c22.toInt8.toInt32, c23.toInt8.toInt32] [c0.toInt8.toInt32, c1.toInt8.toInt32, c2.toInt8.toInt32] [c4.toInt8.toInt32, c5.toInt8.toInt32, c6.toInt8.toInt32, c7.toInt8.toInt32, c8.toInt8.toInt32, c9.toInt8.toInt32, c10.toInt8.toInt32, c11.toInt8.toInt32, c12.toInt8.toInt32, c13.toInt8.toInt32, c14.toInt8.toInt32, c15.toInt8.toInt32, c16.toInt8.toInt32, c17.toInt8.toInt32, c18.toInt8.toInt32, c19.toInt8.toInt32, c20.toInt8.toInt32, c21.toInt8.toInt32, c22.toInt8.toInt32, c23.toInt8.toInt32] [c0.toInt8.toInt32, c1.toInt8.toInt32, c2.toInt8.toInt32, c3.toInt8.toInt32] c3 T105.heap n0 (Nat.le_trans Z0 K106.1) rfl rfl V_w2 hc3 h32.2) hZ (hw _ (List.mem_of_getElem? (i := 114) rfl)) (hw _ (List.mem_of_getElem? (i := 3) rfl)) (by decide) (by decide)) (g := (mkF m 321 #[.val (.long i0), .second, .val (.long i1), .second, .val (.long i2), .second, .val (.ref s0), .val (.ref w2), .val (.int (Int32.ofNat (own_enc [c0.toInt8.toInt32, c1.toInt8.toInt32, c2.toInt8.toInt32]).length))] [(.int c3), (.int (Int32.ofNat (own_enc [c0.toInt8.toInt32, c1.toInt8.toInt32, c2.toInt8.toInt32]).length)), (.ref w2)])) rfl (by rw [hml]; rfl) (argsL := [(.ref w2), (.int (Int32.ofNat (own_enc [c0.toInt8.toInt32, c1.toInt8.toInt32, c2.toInt8.toInt32]).length)), (.int c3)]) (rest := []) (lenOf own_pd15 rfl) rfl (by show 2 * 0 + _ ≤ _; exact Nat.le_of_eq rfl) (hb hby at_321) (fun _ _ => ⟨rfl, e115, (by decide : 7 + 0 ≤ _), (by decide : 197 + 0 ≤ _)⟩)
  dsimp only [Pt.U, Pt.locs, Pt.cells, Pt.slots] at X118 l118 y118 z118 st118 hQ118
  obtain rfl : k118 = 7 := y118
  obtain rfl : n118 = 197 := z118
  obtain ⟨rfl, N118q, e118⟩ := hQ118
  have N118 : Fr n0 L118 := by rw [l118]; exact Fr.app N115 N118q
  try clear l118
  refine own_st st118 ?_
  show own_Gl p e below _ (T118.setTop (mkF m 324 #[.val (.long i0), .second, .val (.long i1), .second, .val (.long i2), .second, .val (.ref s0), .val (.ref w2), .val (.int (Int32.ofNat (own_enc [c0.toInt8.toInt32, c1.toInt8.toInt32, c2.toInt8.toInt32]).length))] [(.int (Int32.ofNat (own_enc [c0.toInt8.toInt32, c1.toInt8.toInt32, c2.toInt8.toInt32, c3.toInt8.toInt32]).length))]))
  try clear st118
  try clear N118q
  try clear N115
  try clear e115
  try clear X115
  try clear T115
  refine own_st (fun tg_ kg_ => XS.istore X118.here hx rfl (hb hby at_324) rfl (l' := #[.val (.long i0), .second, .val (.long i1), .second, .val (.long i2), .second, .val (.ref s0), .val (.ref w2), .val (.int (Int32.ofNat (own_enc [c0.toInt8.toInt32, c1.toInt8.toInt32, c2.toInt8.toInt32, c3.toInt8.toInt32]).length))]) rfl kg_) ?_
  show own_Gl p e below _ (T118.setTop (mkF m 326 #[.val (.long i0), .second, .val (.long i1), .second, .val (.long i2), .second, .val (.ref s0), .val (.ref w2), .val (.int (Int32.ofNat (own_enc [c0.toInt8.toInt32, c1.toInt8.toInt32, c2.toInt8.toInt32, c3.toInt8.toInt32]).length))] []))
  refine own_st (fun tg_ kg_ => XS.aload X118.here hx rfl (hb hby at_326) rfl rfl kg_) ?_
  show own_Gl p e below _ (T118.setTop (mkF m 328 #[.val (.long i0), .second, .val (.long i1), .second, .val (.long i2), .second, .val (.ref s0), .val (.ref w2), .val (.int (Int32.ofNat (own_enc [c0.toInt8.toInt32, c1.toInt8.toInt32, c2.toInt8.toInt32, c3.toInt8.toInt32]).length))] [(.ref w2)]))
  refine own_st (fun tg_ kg_ => XS.iload X118.here hx rfl (hb hby at_328) rfl kg_) ?_
  show own_Gl p e below _ (T118.setTop (mkF m 330 #[.val (.long i0), .second, .val (.long i1), .second, .val (.long i2), .second, .val (.ref s0), .val (.ref w2), .val (.int (Int32.ofNat (own_enc [c0.toInt8.toInt32, c1.toInt8.toInt32, c2.toInt8.toInt32, c3.toInt8.toInt32]).length))] [(.int (Int32.ofNat (own_enc [c0.toInt8.toInt32, c1.toInt8.toInt32, c2.toInt8.toInt32, c3.toInt8.toInt32]).length)), (.ref w2)]))
  refine own_st (fun tg_ kg_ => XS.aload X118.here hx rfl (hb hby at_330) rfl rfl kg_) ?_
  show own_Gl p e below _ (T118.setTop (mkF m 332 #[.val (.long i0), .second, .val (.long i1), .second, .val (.long i2), .second, .val (.ref s0), .val (.ref w2), .val (.int (Int32.ofNat (own_enc [c0.toInt8.toInt32, c1.toInt8.toInt32, c2.toInt8.toInt32, c3.toInt8.toInt32]).length))] [(.ref s0), (.int (Int32.ofNat (own_enc [c0.toInt8.toInt32, c1.toInt8.toInt32, c2.toInt8.toInt32, c3.toInt8.toInt32]).length)), (.ref w2)]))
  refine own_st (fun tg_ kg_ => XS.iconst X118.here hx rfl (hb hby at_332) kg_) ?_
  show own_Gl p e below _ (T118.setTop (mkF m 333 #[.val (.long i0), .second, .val (.long i1), .second, .val (.long i2), .second, .val (.ref s0), .val (.ref w2), .val (.int (Int32.ofNat (own_enc [c0.toInt8.toInt32, c1.toInt8.toInt32, c2.toInt8.toInt32, c3.toInt8.toInt32]).length))] [(.int (4 : Int32)), (.ref s0), (.int (Int32.ofNat (own_enc [c0.toInt8.toInt32, c1.toInt8.toInt32, c2.toInt8.toInt32, c3.toInt8.toInt32]).length)), (.ref w2)]))
  obtain ⟨cl119, Ar119, qa119, Sa119, Na119, Ha119, Ga119⟩ := id V_s0
  have hin120 : ¬ ((4 : Int32) < 0 ∨ cl119.slots.size ≤ ((4 : Int32)).toNatClampNeg) := inb_of Sa119 ⟨by decide, by decide⟩
  have hat120 : cl119.slots[((4 : Int32)).toNatClampNeg]? = some (.int c4) := Has.at Ha119 hin120 rfl
  refine own_st (fun tg_ kg_ => X118.caload hx (j := (4 : Int32)) (v := (.int c4)) (by rw [e118]; exact Ar119.1) (State.isArrayOf_alike hZ.alike Ar119.2.1) Ar119.2.2 hin120 hat120 (g := (mkF m 333 #[.val (.long i0), .second, .val (.long i1), .second, .val (.long i2), .second, .val (.ref s0), .val (.ref w2), .val (.int (Int32.ofNat (own_enc [c0.toInt8.toInt32, c1.toInt8.toInt32, c2.toInt8.toInt32, c3.toInt8.toInt32]).length))] [(.int (4 : Int32)), (.ref s0), (.int (Int32.ofNat (own_enc [c0.toInt8.toInt32, c1.toInt8.toInt32, c2.toInt8.toInt32, c3.toInt8.toInt32]).length)), (.ref w2)])) rfl rfl (hb hby at_333) _ kg_) ?_
  show own_Gl p e below _ (T118.setTop (mkF m 334 #[.val (.long i0), .second, .val (.long i1), .second, .val (.long i2), .second, .val (.ref s0), .val (.ref w2), .val (.int (Int32.ofNat (own_enc [c0.toInt8.toInt32, c1.toInt8.toInt32, c2.toInt8.toInt32, c3.toInt8.toInt32]).length))] [(.int c4), (.int (Int32.ofNat (own_enc [c0.toInt8.toInt32, c1.toInt8.toInt32, c2.toInt8.toInt32, c3.toInt8.toInt32]).length)), (.ref w2)]))
  obtain ⟨_, _, ⟨T121, L121, k121, n121⟩, -, X121, ⟨Lc121, hQ121, l121, y121, z121⟩, st121⟩ := Jvm.LawKit.callS X118 hx (y := (⟨"com/example/highwater/highwater/config/TokenSecretFromTextPinLaw", "step", "([BIC)I"⟩ : MethodName)) hown (mvT hZ (hw _ (List.mem_of_getElem? (i := 112) rfl))) (mvT hZ (hw _ (List.mem_of_getElem? (i := 113) rfl))) (mvT hZ (hw _ (List.mem_of_getElem? (i := 3) rfl))) (mvT hZ (hw _ (List.mem_of_getElem? (i := 114) rfl))) (by decide) (backOf (W := 0) (own_rm_stp l Z a0 hw [] w2 kw2 [c0.toInt8.toInt32, c1.toInt8.toInt32, c2.toInt8.toInt32, c3.toInt8.toInt32, c4.toInt8.toInt32, c5.toInt8.toInt32, c6.toInt8.toInt32, c7.toInt8.toInt32, c8.toInt8.toInt32, c9.toInt8.toInt32, c10.toInt8.toInt32, c11.toInt8.toInt32, c12.toInt8.toInt32, c13.toInt8.toInt32, c14.toInt8.toInt32, c15.toInt8.toInt32, c16.toInt8.toInt32, c17.toInt8.toInt32, c18.toInt8.toInt32, c19.toInt8.toInt32, c20.toInt8.toInt32, c21.toInt8.toInt32, c22.toInt8.toInt32, c23.toInt8.toInt32] [c0.toInt8.toInt32, c1.toInt8.toInt32, c2.toInt8.toInt32, c3.toInt8.toInt32] [c5.toInt8.toInt32, c6.toInt8.toInt32, c7.toInt8.toInt32, c8.toInt8.toInt32, c9.toInt8.toInt32, c10.toInt8.toInt32, c11.toInt8.toInt32, c12.toInt8.toInt32, c13.toInt8.toInt32, c14.toInt8.toInt32, c15.toInt8.toInt32, c16.toInt8.toInt32, c17.toInt8.toInt32, c18.toInt8.toInt32, c19.toInt8.toInt32, c20.toInt8.toInt32, c21.toInt8.toInt32, c22.toInt8.toInt32, c23.toInt8.toInt32] [c0.toInt8.toInt32, c1.toInt8.toInt32, c2.toInt8.toInt32, c3.toInt8.toInt32, c4.toInt8.toInt32] c4 T105.heap n0 (Nat.le_trans Z0 K106.1) rfl rfl V_w2 hc4 h32.2) hZ (hw _ (List.mem_of_getElem? (i := 114) rfl)) (hw _ (List.mem_of_getElem? (i := 3) rfl)) (by decide) (by decide)) (g := (mkF m 334 #[.val (.long i0), .second, .val (.long i1), .second, .val (.long i2), .second, .val (.ref s0), .val (.ref w2), .val (.int (Int32.ofNat (own_enc [c0.toInt8.toInt32, c1.toInt8.toInt32, c2.toInt8.toInt32, c3.toInt8.toInt32]).length))] [(.int c4), (.int (Int32.ofNat (own_enc [c0.toInt8.toInt32, c1.toInt8.toInt32, c2.toInt8.toInt32, c3.toInt8.toInt32]).length)), (.ref w2)])) rfl (by rw [hml]; rfl) (argsL := [(.ref w2), (.int (Int32.ofNat (own_enc [c0.toInt8.toInt32, c1.toInt8.toInt32, c2.toInt8.toInt32, c3.toInt8.toInt32]).length)), (.int c4)]) (rest := []) (lenOf own_pd15 rfl) rfl (by show 2 * 0 + _ ≤ _; exact Nat.le_of_eq rfl) (hb hby at_334) (fun _ _ => ⟨rfl, e118, (by decide : 7 + 0 ≤ _), (by decide : 197 + 0 ≤ _)⟩)
  dsimp only [Pt.U, Pt.locs, Pt.cells, Pt.slots] at X121 l121 y121 z121 st121 hQ121
  obtain rfl : k121 = 7 := y121
  obtain rfl : n121 = 197 := z121
  obtain ⟨rfl, N121q, e121⟩ := hQ121
  have N121 : Fr n0 L121 := by rw [l121]; exact Fr.app N118 N121q
  try clear l121
  refine own_st st121 ?_
  show own_Gl p e below _ (T121.setTop (mkF m 337 #[.val (.long i0), .second, .val (.long i1), .second, .val (.long i2), .second, .val (.ref s0), .val (.ref w2), .val (.int (Int32.ofNat (own_enc [c0.toInt8.toInt32, c1.toInt8.toInt32, c2.toInt8.toInt32, c3.toInt8.toInt32]).length))] [(.int (Int32.ofNat (own_enc [c0.toInt8.toInt32, c1.toInt8.toInt32, c2.toInt8.toInt32, c3.toInt8.toInt32, c4.toInt8.toInt32]).length))]))
  try clear st121
  try clear N121q
  try clear N118
  try clear e118
  try clear X118
  try clear T118
  refine own_st (fun tg_ kg_ => XS.istore X121.here hx rfl (hb hby at_337) rfl (l' := #[.val (.long i0), .second, .val (.long i1), .second, .val (.long i2), .second, .val (.ref s0), .val (.ref w2), .val (.int (Int32.ofNat (own_enc [c0.toInt8.toInt32, c1.toInt8.toInt32, c2.toInt8.toInt32, c3.toInt8.toInt32, c4.toInt8.toInt32]).length))]) rfl kg_) ?_
  show own_Gl p e below _ (T121.setTop (mkF m 339 #[.val (.long i0), .second, .val (.long i1), .second, .val (.long i2), .second, .val (.ref s0), .val (.ref w2), .val (.int (Int32.ofNat (own_enc [c0.toInt8.toInt32, c1.toInt8.toInt32, c2.toInt8.toInt32, c3.toInt8.toInt32, c4.toInt8.toInt32]).length))] []))
  refine own_st (fun tg_ kg_ => XS.aload X121.here hx rfl (hb hby at_339) rfl rfl kg_) ?_
  show own_Gl p e below _ (T121.setTop (mkF m 341 #[.val (.long i0), .second, .val (.long i1), .second, .val (.long i2), .second, .val (.ref s0), .val (.ref w2), .val (.int (Int32.ofNat (own_enc [c0.toInt8.toInt32, c1.toInt8.toInt32, c2.toInt8.toInt32, c3.toInt8.toInt32, c4.toInt8.toInt32]).length))] [(.ref w2)]))
  refine own_st (fun tg_ kg_ => XS.iload X121.here hx rfl (hb hby at_341) rfl kg_) ?_
  show own_Gl p e below _ (T121.setTop (mkF m 343 #[.val (.long i0), .second, .val (.long i1), .second, .val (.long i2), .second, .val (.ref s0), .val (.ref w2), .val (.int (Int32.ofNat (own_enc [c0.toInt8.toInt32, c1.toInt8.toInt32, c2.toInt8.toInt32, c3.toInt8.toInt32, c4.toInt8.toInt32]).length))] [(.int (Int32.ofNat (own_enc [c0.toInt8.toInt32, c1.toInt8.toInt32, c2.toInt8.toInt32, c3.toInt8.toInt32, c4.toInt8.toInt32]).length)), (.ref w2)]))
  refine own_st (fun tg_ kg_ => XS.aload X121.here hx rfl (hb hby at_343) rfl rfl kg_) ?_
  show own_Gl p e below _ (T121.setTop (mkF m 345 #[.val (.long i0), .second, .val (.long i1), .second, .val (.long i2), .second, .val (.ref s0), .val (.ref w2), .val (.int (Int32.ofNat (own_enc [c0.toInt8.toInt32, c1.toInt8.toInt32, c2.toInt8.toInt32, c3.toInt8.toInt32, c4.toInt8.toInt32]).length))] [(.ref s0), (.int (Int32.ofNat (own_enc [c0.toInt8.toInt32, c1.toInt8.toInt32, c2.toInt8.toInt32, c3.toInt8.toInt32, c4.toInt8.toInt32]).length)), (.ref w2)]))
  refine own_st (fun tg_ kg_ => XS.iconst X121.here hx rfl (hb hby at_345) kg_) ?_
  show own_Gl p e below _ (T121.setTop (mkF m 346 #[.val (.long i0), .second, .val (.long i1), .second, .val (.long i2), .second, .val (.ref s0), .val (.ref w2), .val (.int (Int32.ofNat (own_enc [c0.toInt8.toInt32, c1.toInt8.toInt32, c2.toInt8.toInt32, c3.toInt8.toInt32, c4.toInt8.toInt32]).length))] [(.int (5 : Int32)), (.ref s0), (.int (Int32.ofNat (own_enc [c0.toInt8.toInt32, c1.toInt8.toInt32, c2.toInt8.toInt32, c3.toInt8.toInt32, c4.toInt8.toInt32]).length)), (.ref w2)]))
  obtain ⟨cl122, Ar122, qa122, Sa122, Na122, Ha122, Ga122⟩ := id V_s0
  have hin123 : ¬ ((5 : Int32) < 0 ∨ cl122.slots.size ≤ ((5 : Int32)).toNatClampNeg) := inb_of Sa122 ⟨by decide, by decide⟩
  have hat123 : cl122.slots[((5 : Int32)).toNatClampNeg]? = some (.int c5) := Has.at Ha122 hin123 rfl
  refine own_st (fun tg_ kg_ => X121.caload hx (j := (5 : Int32)) (v := (.int c5)) (by rw [e121]; exact Ar122.1) (State.isArrayOf_alike hZ.alike Ar122.2.1) Ar122.2.2 hin123 hat123 (g := (mkF m 346 #[.val (.long i0), .second, .val (.long i1), .second, .val (.long i2), .second, .val (.ref s0), .val (.ref w2), .val (.int (Int32.ofNat (own_enc [c0.toInt8.toInt32, c1.toInt8.toInt32, c2.toInt8.toInt32, c3.toInt8.toInt32, c4.toInt8.toInt32]).length))] [(.int (5 : Int32)), (.ref s0), (.int (Int32.ofNat (own_enc [c0.toInt8.toInt32, c1.toInt8.toInt32, c2.toInt8.toInt32, c3.toInt8.toInt32, c4.toInt8.toInt32]).length)), (.ref w2)])) rfl rfl (hb hby at_346) _ kg_) ?_
  show own_Gl p e below _ (T121.setTop (mkF m 347 #[.val (.long i0), .second, .val (.long i1), .second, .val (.long i2), .second, .val (.ref s0), .val (.ref w2), .val (.int (Int32.ofNat (own_enc [c0.toInt8.toInt32, c1.toInt8.toInt32, c2.toInt8.toInt32, c3.toInt8.toInt32, c4.toInt8.toInt32]).length))] [(.int c5), (.int (Int32.ofNat (own_enc [c0.toInt8.toInt32, c1.toInt8.toInt32, c2.toInt8.toInt32, c3.toInt8.toInt32, c4.toInt8.toInt32]).length)), (.ref w2)]))
  obtain ⟨_, _, ⟨T124, L124, k124, n124⟩, -, X124, ⟨Lc124, hQ124, l124, y124, z124⟩, st124⟩ := Jvm.LawKit.callS X121 hx (y := (⟨"com/example/highwater/highwater/config/TokenSecretFromTextPinLaw", "step", "([BIC)I"⟩ : MethodName)) hown (mvT hZ (hw _ (List.mem_of_getElem? (i := 112) rfl))) (mvT hZ (hw _ (List.mem_of_getElem? (i := 113) rfl))) (mvT hZ (hw _ (List.mem_of_getElem? (i := 3) rfl))) (mvT hZ (hw _ (List.mem_of_getElem? (i := 114) rfl))) (by decide) (backOf (W := 0) (own_rm_stp l Z a0 hw [] w2 kw2 [c0.toInt8.toInt32, c1.toInt8.toInt32, c2.toInt8.toInt32, c3.toInt8.toInt32, c4.toInt8.toInt32, c5.toInt8.toInt32, c6.toInt8.toInt32, c7.toInt8.toInt32, c8.toInt8.toInt32, c9.toInt8.toInt32, c10.toInt8.toInt32, c11.toInt8.toInt32, c12.toInt8.toInt32, c13.toInt8.toInt32, c14.toInt8.toInt32, c15.toInt8.toInt32, c16.toInt8.toInt32, c17.toInt8.toInt32, c18.toInt8.toInt32, c19.toInt8.toInt32, c20.toInt8.toInt32, c21.toInt8.toInt32, c22.toInt8.toInt32, c23.toInt8.toInt32] [c0.toInt8.toInt32, c1.toInt8.toInt32, c2.toInt8.toInt32, c3.toInt8.toInt32, c4.toInt8.toInt32] [c6.toInt8.toInt32, c7.toInt8.toInt32, c8.toInt8.toInt32, c9.toInt8.toInt32, c10.toInt8.toInt32, c11.toInt8.toInt32, c12.toInt8.toInt32, c13.toInt8.toInt32, c14.toInt8.toInt32, c15.toInt8.toInt32, c16.toInt8.toInt32, c17.toInt8.toInt32, c18.toInt8.toInt32, c19.toInt8.toInt32, c20.toInt8.toInt32, c21.toInt8.toInt32, c22.toInt8.toInt32, c23.toInt8.toInt32] [c0.toInt8.toInt32, c1.toInt8.toInt32, c2.toInt8.toInt32, c3.toInt8.toInt32, c4.toInt8.toInt32, c5.toInt8.toInt32] c5 T105.heap n0 (Nat.le_trans Z0 K106.1) rfl rfl V_w2 hc5 h32.2) hZ (hw _ (List.mem_of_getElem? (i := 114) rfl)) (hw _ (List.mem_of_getElem? (i := 3) rfl)) (by decide) (by decide)) (g := (mkF m 347 #[.val (.long i0), .second, .val (.long i1), .second, .val (.long i2), .second, .val (.ref s0), .val (.ref w2), .val (.int (Int32.ofNat (own_enc [c0.toInt8.toInt32, c1.toInt8.toInt32, c2.toInt8.toInt32, c3.toInt8.toInt32, c4.toInt8.toInt32]).length))] [(.int c5), (.int (Int32.ofNat (own_enc [c0.toInt8.toInt32, c1.toInt8.toInt32, c2.toInt8.toInt32, c3.toInt8.toInt32, c4.toInt8.toInt32]).length)), (.ref w2)])) rfl (by rw [hml]; rfl) (argsL := [(.ref w2), (.int (Int32.ofNat (own_enc [c0.toInt8.toInt32, c1.toInt8.toInt32, c2.toInt8.toInt32, c3.toInt8.toInt32, c4.toInt8.toInt32]).length)), (.int c5)]) (rest := []) (lenOf own_pd15 rfl) rfl (by show 2 * 0 + _ ≤ _; exact Nat.le_of_eq rfl) (hb hby at_347) (fun _ _ => ⟨rfl, e121, (by decide : 7 + 0 ≤ _), (by decide : 197 + 0 ≤ _)⟩)
  dsimp only [Pt.U, Pt.locs, Pt.cells, Pt.slots] at X124 l124 y124 z124 st124 hQ124
  obtain rfl : k124 = 7 := y124
  obtain rfl : n124 = 197 := z124
  obtain ⟨rfl, N124q, e124⟩ := hQ124
  have N124 : Fr n0 L124 := by rw [l124]; exact Fr.app N121 N124q
  try clear l124
  refine own_st st124 ?_
  show own_Gl p e below _ (T124.setTop (mkF m 350 #[.val (.long i0), .second, .val (.long i1), .second, .val (.long i2), .second, .val (.ref s0), .val (.ref w2), .val (.int (Int32.ofNat (own_enc [c0.toInt8.toInt32, c1.toInt8.toInt32, c2.toInt8.toInt32, c3.toInt8.toInt32, c4.toInt8.toInt32]).length))] [(.int (Int32.ofNat (own_enc [c0.toInt8.toInt32, c1.toInt8.toInt32, c2.toInt8.toInt32, c3.toInt8.toInt32, c4.toInt8.toInt32, c5.toInt8.toInt32]).length))]))
  try clear st124
  try clear N124q
  try clear N121
  try clear e121
  try clear X121
  try clear T121
  refine own_st (fun tg_ kg_ => XS.istore X124.here hx rfl (hb hby at_350) rfl (l' := #[.val (.long i0), .second, .val (.long i1), .second, .val (.long i2), .second, .val (.ref s0), .val (.ref w2), .val (.int (Int32.ofNat (own_enc [c0.toInt8.toInt32, c1.toInt8.toInt32, c2.toInt8.toInt32, c3.toInt8.toInt32, c4.toInt8.toInt32, c5.toInt8.toInt32]).length))]) rfl kg_) ?_
  show own_Gl p e below _ (T124.setTop (mkF m 352 #[.val (.long i0), .second, .val (.long i1), .second, .val (.long i2), .second, .val (.ref s0), .val (.ref w2), .val (.int (Int32.ofNat (own_enc [c0.toInt8.toInt32, c1.toInt8.toInt32, c2.toInt8.toInt32, c3.toInt8.toInt32, c4.toInt8.toInt32, c5.toInt8.toInt32]).length))] []))
  refine own_st (fun tg_ kg_ => XS.aload X124.here hx rfl (hb hby at_352) rfl rfl kg_) ?_
  show own_Gl p e below _ (T124.setTop (mkF m 354 #[.val (.long i0), .second, .val (.long i1), .second, .val (.long i2), .second, .val (.ref s0), .val (.ref w2), .val (.int (Int32.ofNat (own_enc [c0.toInt8.toInt32, c1.toInt8.toInt32, c2.toInt8.toInt32, c3.toInt8.toInt32, c4.toInt8.toInt32, c5.toInt8.toInt32]).length))] [(.ref w2)]))
  refine own_st (fun tg_ kg_ => XS.iload X124.here hx rfl (hb hby at_354) rfl kg_) ?_
  show own_Gl p e below _ (T124.setTop (mkF m 356 #[.val (.long i0), .second, .val (.long i1), .second, .val (.long i2), .second, .val (.ref s0), .val (.ref w2), .val (.int (Int32.ofNat (own_enc [c0.toInt8.toInt32, c1.toInt8.toInt32, c2.toInt8.toInt32, c3.toInt8.toInt32, c4.toInt8.toInt32, c5.toInt8.toInt32]).length))] [(.int (Int32.ofNat (own_enc [c0.toInt8.toInt32, c1.toInt8.toInt32, c2.toInt8.toInt32, c3.toInt8.toInt32, c4.toInt8.toInt32, c5.toInt8.toInt32]).length)), (.ref w2)]))
  refine own_st (fun tg_ kg_ => XS.aload X124.here hx rfl (hb hby at_356) rfl rfl kg_) ?_
  show own_Gl p e below _ (T124.setTop (mkF m 358 #[.val (.long i0), .second, .val (.long i1), .second, .val (.long i2), .second, .val (.ref s0), .val (.ref w2), .val (.int (Int32.ofNat (own_enc [c0.toInt8.toInt32, c1.toInt8.toInt32, c2.toInt8.toInt32, c3.toInt8.toInt32, c4.toInt8.toInt32, c5.toInt8.toInt32]).length))] [(.ref s0), (.int (Int32.ofNat (own_enc [c0.toInt8.toInt32, c1.toInt8.toInt32, c2.toInt8.toInt32, c3.toInt8.toInt32, c4.toInt8.toInt32, c5.toInt8.toInt32]).length)), (.ref w2)]))
  refine own_st (fun tg_ kg_ => XS.bipush X124.here hx rfl (hb hby at_358) kg_) ?_
  show own_Gl p e below _ (T124.setTop (mkF m 360 #[.val (.long i0), .second, .val (.long i1), .second, .val (.long i2), .second, .val (.ref s0), .val (.ref w2), .val (.int (Int32.ofNat (own_enc [c0.toInt8.toInt32, c1.toInt8.toInt32, c2.toInt8.toInt32, c3.toInt8.toInt32, c4.toInt8.toInt32, c5.toInt8.toInt32]).length))] [(.int (6 : Int32)), (.ref s0), (.int (Int32.ofNat (own_enc [c0.toInt8.toInt32, c1.toInt8.toInt32, c2.toInt8.toInt32, c3.toInt8.toInt32, c4.toInt8.toInt32, c5.toInt8.toInt32]).length)), (.ref w2)]))
  obtain ⟨cl125, Ar125, qa125, Sa125, Na125, Ha125, Ga125⟩ := id V_s0
  have hin126 : ¬ ((6 : Int32) < 0 ∨ cl125.slots.size ≤ ((6 : Int32)).toNatClampNeg) := inb_of Sa125 ⟨by decide, by decide⟩
  have hat126 : cl125.slots[((6 : Int32)).toNatClampNeg]? = some (.int c6) := Has.at Ha125 hin126 rfl
  refine own_st (fun tg_ kg_ => X124.caload hx (j := (6 : Int32)) (v := (.int c6)) (by rw [e124]; exact Ar125.1) (State.isArrayOf_alike hZ.alike Ar125.2.1) Ar125.2.2 hin126 hat126 (g := (mkF m 360 #[.val (.long i0), .second, .val (.long i1), .second, .val (.long i2), .second, .val (.ref s0), .val (.ref w2), .val (.int (Int32.ofNat (own_enc [c0.toInt8.toInt32, c1.toInt8.toInt32, c2.toInt8.toInt32, c3.toInt8.toInt32, c4.toInt8.toInt32, c5.toInt8.toInt32]).length))] [(.int (6 : Int32)), (.ref s0), (.int (Int32.ofNat (own_enc [c0.toInt8.toInt32, c1.toInt8.toInt32, c2.toInt8.toInt32, c3.toInt8.toInt32, c4.toInt8.toInt32, c5.toInt8.toInt32]).length)), (.ref w2)])) rfl rfl (hb hby at_360) _ kg_) ?_
  show own_Gl p e below _ (T124.setTop (mkF m 361 #[.val (.long i0), .second, .val (.long i1), .second, .val (.long i2), .second, .val (.ref s0), .val (.ref w2), .val (.int (Int32.ofNat (own_enc [c0.toInt8.toInt32, c1.toInt8.toInt32, c2.toInt8.toInt32, c3.toInt8.toInt32, c4.toInt8.toInt32, c5.toInt8.toInt32]).length))] [(.int c6), (.int (Int32.ofNat (own_enc [c0.toInt8.toInt32, c1.toInt8.toInt32, c2.toInt8.toInt32, c3.toInt8.toInt32, c4.toInt8.toInt32, c5.toInt8.toInt32]).length)), (.ref w2)]))
  obtain ⟨_, _, ⟨T127, L127, k127, n127⟩, -, X127, ⟨Lc127, hQ127, l127, y127, z127⟩, st127⟩ := Jvm.LawKit.callS X124 hx (y := (⟨"com/example/highwater/highwater/config/TokenSecretFromTextPinLaw", "step", "([BIC)I"⟩ : MethodName)) hown (mvT hZ (hw _ (List.mem_of_getElem? (i := 112) rfl))) (mvT hZ (hw _ (List.mem_of_getElem? (i := 113) rfl))) (mvT hZ (hw _ (List.mem_of_getElem? (i := 3) rfl))) (mvT hZ (hw _ (List.mem_of_getElem? (i := 114) rfl))) (by decide) (backOf (W := 0) (own_rm_stp l Z a0 hw [] w2 kw2 [c0.toInt8.toInt32, c1.toInt8.toInt32, c2.toInt8.toInt32, c3.toInt8.toInt32, c4.toInt8.toInt32, c5.toInt8.toInt32, c6.toInt8.toInt32, c7.toInt8.toInt32, c8.toInt8.toInt32, c9.toInt8.toInt32, c10.toInt8.toInt32, c11.toInt8.toInt32, c12.toInt8.toInt32, c13.toInt8.toInt32, c14.toInt8.toInt32, c15.toInt8.toInt32, c16.toInt8.toInt32, c17.toInt8.toInt32, c18.toInt8.toInt32, c19.toInt8.toInt32, c20.toInt8.toInt32, c21.toInt8.toInt32, c22.toInt8.toInt32, c23.toInt8.toInt32] [c0.toInt8.toInt32, c1.toInt8.toInt32, c2.toInt8.toInt32, c3.toInt8.toInt32, c4.toInt8.toInt32, c5.toInt8.toInt32] [c7.toInt8.toInt32, c8.toInt8.toInt32, c9.toInt8.toInt32, c10.toInt8.toInt32, c11.toInt8.toInt32, c12.toInt8.toInt32, c13.toInt8.toInt32, c14.toInt8.toInt32, c15.toInt8.toInt32, c16.toInt8.toInt32, c17.toInt8.toInt32, c18.toInt8.toInt32, c19.toInt8.toInt32, c20.toInt8.toInt32, c21.toInt8.toInt32, c22.toInt8.toInt32, c23.toInt8.toInt32] [c0.toInt8.toInt32, c1.toInt8.toInt32, c2.toInt8.toInt32, c3.toInt8.toInt32, c4.toInt8.toInt32, c5.toInt8.toInt32, c6.toInt8.toInt32] c6 T105.heap n0 (Nat.le_trans Z0 K106.1) rfl rfl V_w2 hc6 h32.2) hZ (hw _ (List.mem_of_getElem? (i := 114) rfl)) (hw _ (List.mem_of_getElem? (i := 3) rfl)) (by decide) (by decide)) (g := (mkF m 361 #[.val (.long i0), .second, .val (.long i1), .second, .val (.long i2), .second, .val (.ref s0), .val (.ref w2), .val (.int (Int32.ofNat (own_enc [c0.toInt8.toInt32, c1.toInt8.toInt32, c2.toInt8.toInt32, c3.toInt8.toInt32, c4.toInt8.toInt32, c5.toInt8.toInt32]).length))] [(.int c6), (.int (Int32.ofNat (own_enc [c0.toInt8.toInt32, c1.toInt8.toInt32, c2.toInt8.toInt32, c3.toInt8.toInt32, c4.toInt8.toInt32, c5.toInt8.toInt32]).length)), (.ref w2)])) rfl (by rw [hml]; rfl) (argsL := [(.ref w2), (.int (Int32.ofNat (own_enc [c0.toInt8.toInt32, c1.toInt8.toInt32, c2.toInt8.toInt32, c3.toInt8.toInt32, c4.toInt8.toInt32, c5.toInt8.toInt32]).length)), (.int c6)]) (rest := []) (lenOf own_pd15 rfl) rfl (by show 2 * 0 + _ ≤ _; exact Nat.le_of_eq rfl) (hb hby at_361) (fun _ _ => ⟨rfl, e124, (by decide : 7 + 0 ≤ _), (by decide : 197 + 0 ≤ _)⟩)
  dsimp only [Pt.U, Pt.locs, Pt.cells, Pt.slots] at X127 l127 y127 z127 st127 hQ127
  obtain rfl : k127 = 7 := y127
  obtain rfl : n127 = 197 := z127
  obtain ⟨rfl, N127q, e127⟩ := hQ127
  have N127 : Fr n0 L127 := by rw [l127]; exact Fr.app N124 N127q
  try clear l127
  refine own_st st127 ?_
  show own_Gl p e below _ (T127.setTop (mkF m 364 #[.val (.long i0), .second, .val (.long i1), .second, .val (.long i2), .second, .val (.ref s0), .val (.ref w2), .val (.int (Int32.ofNat (own_enc [c0.toInt8.toInt32, c1.toInt8.toInt32, c2.toInt8.toInt32, c3.toInt8.toInt32, c4.toInt8.toInt32, c5.toInt8.toInt32]).length))] [(.int (Int32.ofNat (own_enc [c0.toInt8.toInt32, c1.toInt8.toInt32, c2.toInt8.toInt32, c3.toInt8.toInt32, c4.toInt8.toInt32, c5.toInt8.toInt32, c6.toInt8.toInt32]).length))]))
  try clear st127
  try clear N127q
  try clear N124
  try clear e124
  try clear X124
  try clear T124
  refine own_st (fun tg_ kg_ => XS.istore X127.here hx rfl (hb hby at_364) rfl (l' := #[.val (.long i0), .second, .val (.long i1), .second, .val (.long i2), .second, .val (.ref s0), .val (.ref w2), .val (.int (Int32.ofNat (own_enc [c0.toInt8.toInt32, c1.toInt8.toInt32, c2.toInt8.toInt32, c3.toInt8.toInt32, c4.toInt8.toInt32, c5.toInt8.toInt32, c6.toInt8.toInt32]).length))]) rfl kg_) ?_
  show own_Gl p e below _ (T127.setTop (mkF m 366 #[.val (.long i0), .second, .val (.long i1), .second, .val (.long i2), .second, .val (.ref s0), .val (.ref w2), .val (.int (Int32.ofNat (own_enc [c0.toInt8.toInt32, c1.toInt8.toInt32, c2.toInt8.toInt32, c3.toInt8.toInt32, c4.toInt8.toInt32, c5.toInt8.toInt32, c6.toInt8.toInt32]).length))] []))
  refine own_st (fun tg_ kg_ => XS.aload X127.here hx rfl (hb hby at_366) rfl rfl kg_) ?_
  show own_Gl p e below _ (T127.setTop (mkF m 368 #[.val (.long i0), .second, .val (.long i1), .second, .val (.long i2), .second, .val (.ref s0), .val (.ref w2), .val (.int (Int32.ofNat (own_enc [c0.toInt8.toInt32, c1.toInt8.toInt32, c2.toInt8.toInt32, c3.toInt8.toInt32, c4.toInt8.toInt32, c5.toInt8.toInt32, c6.toInt8.toInt32]).length))] [(.ref w2)]))
  refine own_st (fun tg_ kg_ => XS.iload X127.here hx rfl (hb hby at_368) rfl kg_) ?_
  show own_Gl p e below _ (T127.setTop (mkF m 370 #[.val (.long i0), .second, .val (.long i1), .second, .val (.long i2), .second, .val (.ref s0), .val (.ref w2), .val (.int (Int32.ofNat (own_enc [c0.toInt8.toInt32, c1.toInt8.toInt32, c2.toInt8.toInt32, c3.toInt8.toInt32, c4.toInt8.toInt32, c5.toInt8.toInt32, c6.toInt8.toInt32]).length))] [(.int (Int32.ofNat (own_enc [c0.toInt8.toInt32, c1.toInt8.toInt32, c2.toInt8.toInt32, c3.toInt8.toInt32, c4.toInt8.toInt32, c5.toInt8.toInt32, c6.toInt8.toInt32]).length)), (.ref w2)]))
  refine own_st (fun tg_ kg_ => XS.aload X127.here hx rfl (hb hby at_370) rfl rfl kg_) ?_
  show own_Gl p e below _ (T127.setTop (mkF m 372 #[.val (.long i0), .second, .val (.long i1), .second, .val (.long i2), .second, .val (.ref s0), .val (.ref w2), .val (.int (Int32.ofNat (own_enc [c0.toInt8.toInt32, c1.toInt8.toInt32, c2.toInt8.toInt32, c3.toInt8.toInt32, c4.toInt8.toInt32, c5.toInt8.toInt32, c6.toInt8.toInt32]).length))] [(.ref s0), (.int (Int32.ofNat (own_enc [c0.toInt8.toInt32, c1.toInt8.toInt32, c2.toInt8.toInt32, c3.toInt8.toInt32, c4.toInt8.toInt32, c5.toInt8.toInt32, c6.toInt8.toInt32]).length)), (.ref w2)]))
  refine own_st (fun tg_ kg_ => XS.bipush X127.here hx rfl (hb hby at_372) kg_) ?_
  show own_Gl p e below _ (T127.setTop (mkF m 374 #[.val (.long i0), .second, .val (.long i1), .second, .val (.long i2), .second, .val (.ref s0), .val (.ref w2), .val (.int (Int32.ofNat (own_enc [c0.toInt8.toInt32, c1.toInt8.toInt32, c2.toInt8.toInt32, c3.toInt8.toInt32, c4.toInt8.toInt32, c5.toInt8.toInt32, c6.toInt8.toInt32]).length))] [(.int (7 : Int32)), (.ref s0), (.int (Int32.ofNat (own_enc [c0.toInt8.toInt32, c1.toInt8.toInt32, c2.toInt8.toInt32, c3.toInt8.toInt32, c4.toInt8.toInt32, c5.toInt8.toInt32, c6.toInt8.toInt32]).length)), (.ref w2)]))
  obtain ⟨cl128, Ar128, qa128, Sa128, Na128, Ha128, Ga128⟩ := id V_s0
  have hin129 : ¬ ((7 : Int32) < 0 ∨ cl128.slots.size ≤ ((7 : Int32)).toNatClampNeg) := inb_of Sa128 ⟨by decide, by decide⟩
  have hat129 : cl128.slots[((7 : Int32)).toNatClampNeg]? = some (.int c7) := Has.at Ha128 hin129 rfl
  refine own_st (fun tg_ kg_ => X127.caload hx (j := (7 : Int32)) (v := (.int c7)) (by rw [e127]; exact Ar128.1) (State.isArrayOf_alike hZ.alike Ar128.2.1) Ar128.2.2 hin129 hat129 (g := (mkF m 374 #[.val (.long i0), .second, .val (.long i1), .second, .val (.long i2), .second, .val (.ref s0), .val (.ref w2), .val (.int (Int32.ofNat (own_enc [c0.toInt8.toInt32, c1.toInt8.toInt32, c2.toInt8.toInt32, c3.toInt8.toInt32, c4.toInt8.toInt32, c5.toInt8.toInt32, c6.toInt8.toInt32]).length))] [(.int (7 : Int32)), (.ref s0), (.int (Int32.ofNat (own_enc [c0.toInt8.toInt32, c1.toInt8.toInt32, c2.toInt8.toInt32, c3.toInt8.toInt32, c4.toInt8.toInt32, c5.toInt8.toInt32, c6.toInt8.toInt32]).length)), (.ref w2)])) rfl rfl (hb hby at_374) _ kg_) ?_
  show own_Gl p e below _ (T127.setTop (mkF m 375 #[.val (.long i0), .second, .val (.long i1), .second, .val (.long i2), .second, .val (.ref s0), .val (.ref w2), .val (.int (Int32.ofNat (own_enc [c0.toInt8.toInt32, c1.toInt8.toInt32, c2.toInt8.toInt32, c3.toInt8.toInt32, c4.toInt8.toInt32, c5.toInt8.toInt32, c6.toInt8.toInt32]).length))] [(.int c7), (.int (Int32.ofNat (own_enc [c0.toInt8.toInt32, c1.toInt8.toInt32, c2.toInt8.toInt32, c3.toInt8.toInt32, c4.toInt8.toInt32, c5.toInt8.toInt32, c6.toInt8.toInt32]).length)), (.ref w2)]))
  obtain ⟨_, _, ⟨T130, L130, k130, n130⟩, -, X130, ⟨Lc130, hQ130, l130, y130, z130⟩, st130⟩ := Jvm.LawKit.callS X127 hx (y := (⟨"com/example/highwater/highwater/config/TokenSecretFromTextPinLaw", "step", "([BIC)I"⟩ : MethodName)) hown (mvT hZ (hw _ (List.mem_of_getElem? (i := 112) rfl))) (mvT hZ (hw _ (List.mem_of_getElem? (i := 113) rfl))) (mvT hZ (hw _ (List.mem_of_getElem? (i := 3) rfl))) (mvT hZ (hw _ (List.mem_of_getElem? (i := 114) rfl))) (by decide) (backOf (W := 0) (own_rm_stp l Z a0 hw [] w2 kw2 [c0.toInt8.toInt32, c1.toInt8.toInt32, c2.toInt8.toInt32, c3.toInt8.toInt32, c4.toInt8.toInt32, c5.toInt8.toInt32, c6.toInt8.toInt32, c7.toInt8.toInt32, c8.toInt8.toInt32, c9.toInt8.toInt32, c10.toInt8.toInt32, c11.toInt8.toInt32, c12.toInt8.toInt32, c13.toInt8.toInt32, c14.toInt8.toInt32, c15.toInt8.toInt32, c16.toInt8.toInt32, c17.toInt8.toInt32, c18.toInt8.toInt32, c19.toInt8.toInt32, c20.toInt8.toInt32, c21.toInt8.toInt32, c22.toInt8.toInt32, c23.toInt8.toInt32] [c0.toInt8.toInt32, c1.toInt8.toInt32, c2.toInt8.toInt32, c3.toInt8.toInt32, c4.toInt8.toInt32, c5.toInt8.toInt32, c6.toInt8.toInt32] [c8.toInt8.toInt32, c9.toInt8.toInt32, c10.toInt8.toInt32, c11.toInt8.toInt32, c12.toInt8.toInt32, c13.toInt8.toInt32, c14.toInt8.toInt32, c15.toInt8.toInt32, c16.toInt8.toInt32, c17.toInt8.toInt32, c18.toInt8.toInt32, c19.toInt8.toInt32, c20.toInt8.toInt32, c21.toInt8.toInt32, c22.toInt8.toInt32, c23.toInt8.toInt32] [c0.toInt8.toInt32, c1.toInt8.toInt32, c2.toInt8.toInt32, c3.toInt8.toInt32, c4.toInt8.toInt32, c5.toInt8.toInt32, c6.toInt8.toInt32, c7.toInt8.toInt32] c7 T105.heap n0 (Nat.le_trans Z0 K106.1) rfl rfl V_w2 hc7 h32.2) hZ (hw _ (List.mem_of_getElem? (i := 114) rfl)) (hw _ (List.mem_of_getElem? (i := 3) rfl)) (by decide) (by decide)) (g := (mkF m 375 #[.val (.long i0), .second, .val (.long i1), .second, .val (.long i2), .second, .val (.ref s0), .val (.ref w2), .val (.int (Int32.ofNat (own_enc [c0.toInt8.toInt32, c1.toInt8.toInt32, c2.toInt8.toInt32, c3.toInt8.toInt32, c4.toInt8.toInt32, c5.toInt8.toInt32, c6.toInt8.toInt32]).length))] [(.int c7), (.int (Int32.ofNat (own_enc [c0.toInt8.toInt32, c1.toInt8.toInt32, c2.toInt8.toInt32, c3.toInt8.toInt32, c4.toInt8.toInt32, c5.toInt8.toInt32, c6.toInt8.toInt32]).length)), (.ref w2)])) rfl (by rw [hml]; rfl) (argsL := [(.ref w2), (.int (Int32.ofNat (own_enc [c0.toInt8.toInt32, c1.toInt8.toInt32, c2.toInt8.toInt32, c3.toInt8.toInt32, c4.toInt8.toInt32, c5.toInt8.toInt32, c6.toInt8.toInt32]).length)), (.int c7)]) (rest := []) (lenOf own_pd15 rfl) rfl (by show 2 * 0 + _ ≤ _; exact Nat.le_of_eq rfl) (hb hby at_375) (fun _ _ => ⟨rfl, e127, (by decide : 7 + 0 ≤ _), (by decide : 197 + 0 ≤ _)⟩)
  dsimp only [Pt.U, Pt.locs, Pt.cells, Pt.slots] at X130 l130 y130 z130 st130 hQ130
  obtain rfl : k130 = 7 := y130
  obtain rfl : n130 = 197 := z130
  obtain ⟨rfl, N130q, e130⟩ := hQ130
  have N130 : Fr n0 L130 := by rw [l130]; exact Fr.app N127 N130q
  try clear l130
  refine own_st st130 ?_
  show own_Gl p e below _ (T130.setTop (mkF m 378 #[.val (.long i0), .second, .val (.long i1), .second, .val (.long i2), .second, .val (.ref s0), .val (.ref w2), .val (.int (Int32.ofNat (own_enc [c0.toInt8.toInt32, c1.toInt8.toInt32, c2.toInt8.toInt32, c3.toInt8.toInt32, c4.toInt8.toInt32, c5.toInt8.toInt32, c6.toInt8.toInt32]).length))] [(.int (Int32.ofNat (own_enc [c0.toInt8.toInt32, c1.toInt8.toInt32, c2.toInt8.toInt32, c3.toInt8.toInt32, c4.toInt8.toInt32, c5.toInt8.toInt32, c6.toInt8.toInt32, c7.toInt8.toInt32]).length))]))
  try clear st130
  try clear N130q
  try clear N127
  try clear e127
  try clear X127
  try clear T127
  refine own_st (fun tg_ kg_ => XS.istore X130.here hx rfl (hb hby at_378) rfl (l' := #[.val (.long i0), .second, .val (.long i1), .second, .val (.long i2), .second, .val (.ref s0), .val (.ref w2), .val (.int (Int32.ofNat (own_enc [c0.toInt8.toInt32, c1.toInt8.toInt32, c2.toInt8.toInt32, c3.toInt8.toInt32, c4.toInt8.toInt32, c5.toInt8.toInt32, c6.toInt8.toInt32, c7.toInt8.toInt32]).length))]) rfl kg_) ?_
  show own_Gl p e below _ (T130.setTop (mkF m 380 #[.val (.long i0), .second, .val (.long i1), .second, .val (.long i2), .second, .val (.ref s0), .val (.ref w2), .val (.int (Int32.ofNat (own_enc [c0.toInt8.toInt32, c1.toInt8.toInt32, c2.toInt8.toInt32, c3.toInt8.toInt32, c4.toInt8.toInt32, c5.toInt8.toInt32, c6.toInt8.toInt32, c7.toInt8.toInt32]).length))] []))
  refine own_st (fun tg_ kg_ => XS.aload X130.here hx rfl (hb hby at_380) rfl rfl kg_) ?_
  show own_Gl p e below _ (T130.setTop (mkF m 382 #[.val (.long i0), .second, .val (.long i1), .second, .val (.long i2), .second, .val (.ref s0), .val (.ref w2), .val (.int (Int32.ofNat (own_enc [c0.toInt8.toInt32, c1.toInt8.toInt32, c2.toInt8.toInt32, c3.toInt8.toInt32, c4.toInt8.toInt32, c5.toInt8.toInt32, c6.toInt8.toInt32, c7.toInt8.toInt32]).length))] [(.ref w2)]))
  refine own_st (fun tg_ kg_ => XS.iload X130.here hx rfl (hb hby at_382) rfl kg_) ?_
  show own_Gl p e below _ (T130.setTop (mkF m 384 #[.val (.long i0), .second, .val (.long i1), .second, .val (.long i2), .second, .val (.ref s0), .val (.ref w2), .val (.int (Int32.ofNat (own_enc [c0.toInt8.toInt32, c1.toInt8.toInt32, c2.toInt8.toInt32, c3.toInt8.toInt32, c4.toInt8.toInt32, c5.toInt8.toInt32, c6.toInt8.toInt32, c7.toInt8.toInt32]).length))] [(.int (Int32.ofNat (own_enc [c0.toInt8.toInt32, c1.toInt8.toInt32, c2.toInt8.toInt32, c3.toInt8.toInt32, c4.toInt8.toInt32, c5.toInt8.toInt32, c6.toInt8.toInt32, c7.toInt8.toInt32]).length)), (.ref w2)]))
  refine own_st (fun tg_ kg_ => XS.aload X130.here hx rfl (hb hby at_384) rfl rfl kg_) ?_
  show own_Gl p e below _ (T130.setTop (mkF m 386 #[.val (.long i0), .second, .val (.long i1), .second, .val (.long i2), .second, .val (.ref s0), .val (.ref w2), .val (.int (Int32.ofNat (own_enc [c0.toInt8.toInt32, c1.toInt8.toInt32, c2.toInt8.toInt32, c3.toInt8.toInt32, c4.toInt8.toInt32, c5.toInt8.toInt32, c6.toInt8.toInt32, c7.toInt8.toInt32]).length))] [(.ref s0), (.int (Int32.ofNat (own_enc [c0.toInt8.toInt32, c1.toInt8.toInt32, c2.toInt8.toInt32, c3.toInt8.toInt32, c4.toInt8.toInt32, c5.toInt8.toInt32, c6.toInt8.toInt32, c7.toInt8.toInt32]).length)), (.ref w2)]))
  refine own_st (fun tg_ kg_ => XS.bipush X130.here hx rfl (hb hby at_386) kg_) ?_
  show own_Gl p e below _ (T130.setTop (mkF m 388 #[.val (.long i0), .second, .val (.long i1), .second, .val (.long i2), .second, .val (.ref s0), .val (.ref w2), .val (.int (Int32.ofNat (own_enc [c0.toInt8.toInt32, c1.toInt8.toInt32, c2.toInt8.toInt32, c3.toInt8.toInt32, c4.toInt8.toInt32, c5.toInt8.toInt32, c6.toInt8.toInt32, c7.toInt8.toInt32]).length))] [(.int (8 : Int32)), (.ref s0), (.int (Int32.ofNat (own_enc [c0.toInt8.toInt32, c1.toInt8.toInt32, c2.toInt8.toInt32, c3.toInt8.toInt32, c4.toInt8.toInt32, c5.toInt8.toInt32, c6.toInt8.toInt32, c7.toInt8.toInt32]).length)), (.ref w2)]))
  obtain ⟨cl131, Ar131, qa131, Sa131, Na131, Ha131, Ga131⟩ := id V_s0
  have hin132 : ¬ ((8 : Int32) < 0 ∨ cl131.slots.size ≤ ((8 : Int32)).toNatClampNeg) := inb_of Sa131 ⟨by decide, by decide⟩
  have hat132 : cl131.slots[((8 : Int32)).toNatClampNeg]? = some (.int c8) := Has.at Ha131 hin132 rfl
  refine own_st (fun tg_ kg_ => X130.caload hx (j := (8 : Int32)) (v := (.int c8)) (by rw [e130]; exact Ar131.1) (State.isArrayOf_alike hZ.alike Ar131.2.1) Ar131.2.2 hin132 hat132 (g := (mkF m 388 #[.val (.long i0), .second, .val (.long i1), .second, .val (.long i2), .second, .val (.ref s0), .val (.ref w2), .val (.int (Int32.ofNat (own_enc [c0.toInt8.toInt32, c1.toInt8.toInt32, c2.toInt8.toInt32, c3.toInt8.toInt32, c4.toInt8.toInt32, c5.toInt8.toInt32, c6.toInt8.toInt32, c7.toInt8.toInt32]).length))] [(.int (8 : Int32)), (.ref s0), (.int (Int32.ofNat (own_enc [c0.toInt8.toInt32, c1.toInt8.toInt32, c2.toInt8.toInt32, c3.toInt8.toInt32, c4.toInt8.toInt32, c5.toInt8.toInt32, c6.toInt8.toInt32, c7.toInt8.toInt32]).length)), (.ref w2)])) rfl rfl (hb hby at_388) _ kg_) ?_
  show own_Gl p e below _ (T130.setTop (mkF m 389 #[.val (.long i0), .second, .val (.long i1), .second, .val (.long i2), .second, .val (.ref s0), .val (.ref w2), .val (.int (Int32.ofNat (own_enc [c0.toInt8.toInt32, c1.toInt8.toInt32, c2.toInt8.toInt32, c3.toInt8.toInt32, c4.toInt8.toInt32, c5.toInt8.toInt32, c6.toInt8.toInt32, c7.toInt8.toInt32]).length))] [(.int c8), (.int (Int32.ofNat (own_enc [c0.toInt8.toInt32, c1.toInt8.toInt32, c2.toInt8.toInt32, c3.toInt8.toInt32, c4.toInt8.toInt32, c5.toInt8.toInt32, c6.toInt8.toInt32, c7.toInt8.toInt32]).length)), (.ref w2)]))
  obtain ⟨_, _, ⟨T133, L133, k133, n133⟩, -, X133, ⟨Lc133, hQ133, l133, y133, z133⟩, st133⟩ := Jvm.LawKit.callS X130 hx (y := (⟨"com/example/highwater/highwater/config/TokenSecretFromTextPinLaw", "step", "([BIC)I"⟩ : MethodName)) hown (mvT hZ (hw _ (List.mem_of_getElem? (i := 112) rfl))) (mvT hZ (hw _ (List.mem_of_getElem? (i := 113) rfl))) (mvT hZ (hw _ (List.mem_of_getElem? (i := 3) rfl))) (mvT hZ (hw _ (List.mem_of_getElem? (i := 114) rfl))) (by decide) (backOf (W := 0) (own_rm_stp l Z a0 hw [] w2 kw2 [c0.toInt8.toInt32, c1.toInt8.toInt32, c2.toInt8.toInt32, c3.toInt8.toInt32, c4.toInt8.toInt32, c5.toInt8.toInt32, c6.toInt8.toInt32, c7.toInt8.toInt32, c8.toInt8.toInt32, c9.toInt8.toInt32, c10.toInt8.toInt32, c11.toInt8.toInt32, c12.toInt8.toInt32, c13.toInt8.toInt32, c14.toInt8.toInt32, c15.toInt8.toInt32, c16.toInt8.toInt32, c17.toInt8.toInt32, c18.toInt8.toInt32, c19.toInt8.toInt32, c20.toInt8.toInt32, c21.toInt8.toInt32, c22.toInt8.toInt32, c23.toInt8.toInt32] [c0.toInt8.toInt32, c1.toInt8.toInt32, c2.toInt8.toInt32, c3.toInt8.toInt32, c4.toInt8.toInt32, c5.toInt8.toInt32, c6.toInt8.toInt32, c7.toInt8.toInt32] [c9.toInt8.toInt32, c10.toInt8.toInt32, c11.toInt8.toInt32, c12.toInt8.toInt32, c13.toInt8.toInt32, c14.toInt8.toInt32, c15.toInt8.toInt32, c16.toInt8.toInt32, c17.toInt8.toInt32, c18.toInt8.toInt32, c19.toInt8.toInt32, c20.toInt8.toInt32, c21.toInt8.toInt32, c22.toInt8.toInt32, c23.toInt8.toInt32] [c0.toInt8.toInt32, c1.toInt8.toInt32, c2.toInt8.toInt32, c3.toInt8.toInt32, c4.toInt8.toInt32, c5.toInt8.toInt32, c6.toInt8.toInt32, c7.toInt8.toInt32, c8.toInt8.toInt32] c8 T105.heap n0 (Nat.le_trans Z0 K106.1) rfl rfl V_w2 hc8 h32.2) hZ (hw _ (List.mem_of_getElem? (i := 114) rfl)) (hw _ (List.mem_of_getElem? (i := 3) rfl)) (by decide) (by decide)) (g := (mkF m 389 #[.val (.long i0), .second, .val (.long i1), .second, .val (.long i2), .second, .val (.ref s0), .val (.ref w2), .val (.int (Int32.ofNat (own_enc [c0.toInt8.toInt32, c1.toInt8.toInt32, c2.toInt8.toInt32, c3.toInt8.toInt32, c4.toInt8.toInt32, c5.toInt8.toInt32, c6.toInt8.toInt32, c7.toInt8.toInt32]).length))] [(.int c8), (.int (Int32.ofNat (own_enc [c0.toInt8.toInt32, c1.toInt8.toInt32, c2.toInt8.toInt32, c3.toInt8.toInt32, c4.toInt8.toInt32, c5.toInt8.toInt32, c6.toInt8.toInt32, c7.toInt8.toInt32]).length)), (.ref w2)])) rfl (by rw [hml]; rfl) (argsL := [(.ref w2), (.int (Int32.ofNat (own_enc [c0.toInt8.toInt32, c1.toInt8.toInt32, c2.toInt8.toInt32, c3.toInt8.toInt32, c4.toInt8.toInt32, c5.toInt8.toInt32, c6.toInt8.toInt32, c7.toInt8.toInt32]).length)), (.int c8)]) (rest := []) (lenOf own_pd15 rfl) rfl (by show 2 * 0 + _ ≤ _; exact Nat.le_of_eq rfl) (hb hby at_389) (fun _ _ => ⟨rfl, e130, (by decide : 7 + 0 ≤ _), (by decide : 197 + 0 ≤ _)⟩)
  dsimp only [Pt.U, Pt.locs, Pt.cells, Pt.slots] at X133 l133 y133 z133 st133 hQ133
  obtain rfl : k133 = 7 := y133
  obtain rfl : n133 = 197 := z133
  obtain ⟨rfl, N133q, e133⟩ := hQ133
  have N133 : Fr n0 L133 := by rw [l133]; exact Fr.app N130 N133q
  try clear l133
  refine own_st st133 ?_
  show own_Gl p e below _ (T133.setTop (mkF m 392 #[.val (.long i0), .second, .val (.long i1), .second, .val (.long i2), .second, .val (.ref s0), .val (.ref w2), .val (.int (Int32.ofNat (own_enc [c0.toInt8.toInt32, c1.toInt8.toInt32, c2.toInt8.toInt32, c3.toInt8.toInt32, c4.toInt8.toInt32, c5.toInt8.toInt32, c6.toInt8.toInt32, c7.toInt8.toInt32]).length))] [(.int (Int32.ofNat (own_enc [c0.toInt8.toInt32, c1.toInt8.toInt32, c2.toInt8.toInt32, c3.toInt8.toInt32, c4.toInt8.toInt32, c5.toInt8.toInt32, c6.toInt8.toInt32, c7.toInt8.toInt32, c8.toInt8.toInt32]).length))]))
  try clear st133
  try clear N133q
  try clear N130
  try clear e130
  try clear X130
  try clear T130
  refine own_st (fun tg_ kg_ => XS.istore X133.here hx rfl (hb hby at_392) rfl (l' := #[.val (.long i0), .second, .val (.long i1), .second, .val (.long i2), .second, .val (.ref s0), .val (.ref w2), .val (.int (Int32.ofNat (own_enc [c0.toInt8.toInt32, c1.toInt8.toInt32, c2.toInt8.toInt32, c3.toInt8.toInt32, c4.toInt8.toInt32, c5.toInt8.toInt32, c6.toInt8.toInt32, c7.toInt8.toInt32, c8.toInt8.toInt32]).length))]) rfl kg_) ?_
  show own_Gl p e below _ (T133.setTop (mkF m 394 #[.val (.long i0), .second, .val (.long i1), .second, .val (.long i2), .second, .val (.ref s0), .val (.ref w2), .val (.int (Int32.ofNat (own_enc [c0.toInt8.toInt32, c1.toInt8.toInt32, c2.toInt8.toInt32, c3.toInt8.toInt32, c4.toInt8.toInt32, c5.toInt8.toInt32, c6.toInt8.toInt32, c7.toInt8.toInt32, c8.toInt8.toInt32]).length))] []))
  refine own_st (fun tg_ kg_ => XS.aload X133.here hx rfl (hb hby at_394) rfl rfl kg_) ?_
  show own_Gl p e below _ (T133.setTop (mkF m 396 #[.val (.long i0), .second, .val (.long i1), .second, .val (.long i2), .second, .val (.ref s0), .val (.ref w2), .val (.int (Int32.ofNat (own_enc [c0.toInt8.toInt32, c1.toInt8.toInt32, c2.toInt8.toInt32, c3.toInt8.toInt32, c4.toInt8.toInt32, c5.toInt8.toInt32, c6.toInt8.toInt32, c7.toInt8.toInt32, c8.toInt8.toInt32]).length))] [(.ref w2)]))
  refine own_st (fun tg_ kg_ => XS.iload X133.here hx rfl (hb hby at_396) rfl kg_) ?_
  show own_Gl p e below _ (T133.setTop (mkF m 398 #[.val (.long i0), .second, .val (.long i1), .second, .val (.long i2), .second, .val (.ref s0), .val (.ref w2), .val (.int (Int32.ofNat (own_enc [c0.toInt8.toInt32, c1.toInt8.toInt32, c2.toInt8.toInt32, c3.toInt8.toInt32, c4.toInt8.toInt32, c5.toInt8.toInt32, c6.toInt8.toInt32, c7.toInt8.toInt32, c8.toInt8.toInt32]).length))] [(.int (Int32.ofNat (own_enc [c0.toInt8.toInt32, c1.toInt8.toInt32, c2.toInt8.toInt32, c3.toInt8.toInt32, c4.toInt8.toInt32, c5.toInt8.toInt32, c6.toInt8.toInt32, c7.toInt8.toInt32, c8.toInt8.toInt32]).length)), (.ref w2)]))
  refine own_st (fun tg_ kg_ => XS.aload X133.here hx rfl (hb hby at_398) rfl rfl kg_) ?_
  show own_Gl p e below _ (T133.setTop (mkF m 400 #[.val (.long i0), .second, .val (.long i1), .second, .val (.long i2), .second, .val (.ref s0), .val (.ref w2), .val (.int (Int32.ofNat (own_enc [c0.toInt8.toInt32, c1.toInt8.toInt32, c2.toInt8.toInt32, c3.toInt8.toInt32, c4.toInt8.toInt32, c5.toInt8.toInt32, c6.toInt8.toInt32, c7.toInt8.toInt32, c8.toInt8.toInt32]).length))] [(.ref s0), (.int (Int32.ofNat (own_enc [c0.toInt8.toInt32, c1.toInt8.toInt32, c2.toInt8.toInt32, c3.toInt8.toInt32, c4.toInt8.toInt32, c5.toInt8.toInt32, c6.toInt8.toInt32, c7.toInt8.toInt32, c8.toInt8.toInt32]).length)), (.ref w2)]))
  refine own_st (fun tg_ kg_ => XS.bipush X133.here hx rfl (hb hby at_400) kg_) ?_
  show own_Gl p e below _ (T133.setTop (mkF m 402 #[.val (.long i0), .second, .val (.long i1), .second, .val (.long i2), .second, .val (.ref s0), .val (.ref w2), .val (.int (Int32.ofNat (own_enc [c0.toInt8.toInt32, c1.toInt8.toInt32, c2.toInt8.toInt32, c3.toInt8.toInt32, c4.toInt8.toInt32, c5.toInt8.toInt32, c6.toInt8.toInt32, c7.toInt8.toInt32, c8.toInt8.toInt32]).length))] [(.int (9 : Int32)), (.ref s0), (.int (Int32.ofNat (own_enc [c0.toInt8.toInt32, c1.toInt8.toInt32, c2.toInt8.toInt32, c3.toInt8.toInt32, c4.toInt8.toInt32, c5.toInt8.toInt32, c6.toInt8.toInt32, c7.toInt8.toInt32, c8.toInt8.toInt32]).length)), (.ref w2)]))
  obtain ⟨cl134, Ar134, qa134, Sa134, Na134, Ha134, Ga134⟩ := id V_s0
  have hin135 : ¬ ((9 : Int32) < 0 ∨ cl134.slots.size ≤ ((9 : Int32)).toNatClampNeg) := inb_of Sa134 ⟨by decide, by decide⟩
  have hat135 : cl134.slots[((9 : Int32)).toNatClampNeg]? = some (.int c9) := Has.at Ha134 hin135 rfl
  refine own_st (fun tg_ kg_ => X133.caload hx (j := (9 : Int32)) (v := (.int c9)) (by rw [e133]; exact Ar134.1) (State.isArrayOf_alike hZ.alike Ar134.2.1) Ar134.2.2 hin135 hat135 (g := (mkF m 402 #[.val (.long i0), .second, .val (.long i1), .second, .val (.long i2), .second, .val (.ref s0), .val (.ref w2), .val (.int (Int32.ofNat (own_enc [c0.toInt8.toInt32, c1.toInt8.toInt32, c2.toInt8.toInt32, c3.toInt8.toInt32, c4.toInt8.toInt32, c5.toInt8.toInt32, c6.toInt8.toInt32, c7.toInt8.toInt32, c8.toInt8.toInt32]).length))] [(.int (9 : Int32)), (.ref s0), (.int (Int32.ofNat (own_enc [c0.toInt8.toInt32, c1.toInt8.toInt32, c2.toInt8.toInt32, c3.toInt8.toInt32, c4.toInt8.toInt32, c5.toInt8.toInt32, c6.toInt8.toInt32, c7.toInt8.toInt32, c8.toInt8.toInt32]).length)), (.ref w2)])) rfl rfl (hb hby at_402) _ kg_) ?_
  show own_Gl p e below _ (T133.setTop (mkF m 403 #[.val (.long i0), .second, .val (.long i1), .second, .val (.long i2), .second, .val (.ref s0), .val (.ref w2), .val (.int (Int32.ofNat (own_enc [c0.toInt8.toInt32, c1.toInt8.toInt32, c2.toInt8.toInt32, c3.toInt8.toInt32, c4.toInt8.toInt32, c5.toInt8.toInt32, c6.toInt8.toInt32, c7.toInt8.toInt32, c8.toInt8.toInt32]).length))] [(.int c9), (.int (Int32.ofNat (own_enc [c0.toInt8.toInt32, c1.toInt8.toInt32, c2.toInt8.toInt32, c3.toInt8.toInt32, c4.toInt8.toInt32, c5.toInt8.toInt32, c6.toInt8.toInt32, c7.toInt8.toInt32, c8.toInt8.toInt32]).length)), (.ref w2)]))
  obtain ⟨_, _, ⟨T136, L136, k136, n136⟩, -, X136, ⟨Lc136, hQ136, l136, y136, z136⟩, st136⟩ := Jvm.LawKit.callS X133 hx (y := (⟨"com/example/highwater/highwater/config/TokenSecretFromTextPinLaw", "step", "([BIC)I"⟩ : MethodName)) hown (mvT hZ (hw _ (List.mem_of_getElem? (i := 112) rfl))) (mvT hZ (hw _ (List.mem_of_getElem? (i := 113) rfl))) (mvT hZ (hw _ (List.mem_of_getElem? (i := 3) rfl))) (mvT hZ (hw _ (List.mem_of_getElem? (i := 114) rfl))) (by decide) (backOf (W := 0) (own_rm_stp l Z a0 hw [] w2 kw2 [c0.toInt8.toInt32, c1.toInt8.toInt32, c2.toInt8.toInt32, c3.toInt8.toInt32, c4.toInt8.toInt32, c5.toInt8.toInt32, c6.toInt8.toInt32, c7.toInt8.toInt32, c8.toInt8.toInt32, c9.toInt8.toInt32, c10.toInt8.toInt32, c11.toInt8.toInt32, c12.toInt8.toInt32, c13.toInt8.toInt32, c14.toInt8.toInt32, c15.toInt8.toInt32, c16.toInt8.toInt32, c17.toInt8.toInt32, c18.toInt8.toInt32, c19.toInt8.toInt32, c20.toInt8.toInt32, c21.toInt8.toInt32, c22.toInt8.toInt32, c23.toInt8.toInt32] [c0.toInt8.toInt32, c1.toInt8.toInt32, c2.toInt8.toInt32, c3.toInt8.toInt32, c4.toInt8.toInt32, c5.toInt8.toInt32, c6.toInt8.toInt32, c7.toInt8.toInt32, c8.toInt8.toInt32] [c10.toInt8.toInt32, c11.toInt8.toInt32, c12.toInt8.toInt32, c13.toInt8.toInt32, c14.toInt8.toInt32, c15.toInt8.toInt32, c16.toInt8.toInt32, c17.toInt8.toInt32, c18.toInt8.toInt32, c19.toInt8.toInt32, c20.toInt8.toInt32, c21.toInt8.toInt32, c22.toInt8.toInt32, c23.toInt8.toInt32] [c0.toInt8.toInt32, c1.toInt8.toInt32, c2.toInt8.toInt32, c3.toInt8.toInt32, c4.toInt8.toInt32, c5.toInt8.toInt32, c6.toInt8.toInt32, c7.toInt8.toInt32, c8.toInt8.toInt32, c9.toInt8.toInt32] c9 T105.heap n0 (Nat.le_trans Z0 K106.1) rfl rfl V_w2 hc9 h32.2) hZ (hw _ (List.mem_of_getElem? (i := 114) rfl)) (hw _ (List.mem_of_getElem? (i := 3) rfl)) (by decide) (by decide)) (g := (mkF m 403 #[.val (.long i0), .second, .val (.long i1), .second, .val (.long i2), .second, .val (.ref s0), .val (.ref w2), .val (.int (Int32.ofNat (own_enc [c0.toInt8.toInt32, c1.toInt8.toInt32, c2.toInt8.toInt32, c3.toInt8.toInt32, c4.toInt8.toInt32, c5.toInt8.toInt32, c6.toInt8.toInt32, c7.toInt8.toInt32, c8.toInt8.toInt32]).length))] [(.int c9), (.int (Int32.ofNat (own_enc [c0.toInt8.toInt32, c1.toInt8.toInt32, c2.toInt8.toInt32, c3.toInt8.toInt32, c4.toInt8.toInt32, c5.toInt8.toInt32, c6.toInt8.toInt32, c7.toInt8.toInt32, c8.toInt8.toInt32]).length)), (.ref w2)])) rfl (by rw [hml]; rfl) (argsL := [(.ref w2), (.int (Int32.ofNat (own_enc [c0.toInt8.toInt32, c1.toInt8.toInt32, c2.toInt8.toInt32, c3.toInt8.toInt32, c4.toInt8.toInt32, c5.toInt8.toInt32, c6.toInt8.toInt32, c7.toInt8.toInt32, c8.toInt8.toInt32]).length)), (.int c9)]) (rest := []) (lenOf own_pd15 rfl) rfl (by show 2 * 0 + _ ≤ _; exact Nat.le_of_eq rfl) (hb hby at_403) (fun _ _ => ⟨rfl, e133, (by decide : 7 + 0 ≤ _), (by decide : 197 + 0 ≤ _)⟩)
  dsimp only [Pt.U, Pt.locs, Pt.cells, Pt.slots] at X136 l136 y136 z136 st136 hQ136
  obtain rfl : k136 = 7 := y136
  obtain rfl : n136 = 197 := z136
  obtain ⟨rfl, N136q, e136⟩ := hQ136
  have N136 : Fr n0 L136 := by rw [l136]; exact Fr.app N133 N136q
  try clear l136
  refine own_st st136 ?_
  show own_Gl p e below _ (T136.setTop (mkF m 406 #[.val (.long i0), .second, .val (.long i1), .second, .val (.long i2), .second, .val (.ref s0), .val (.ref w2), .val (.int (Int32.ofNat (own_enc [c0.toInt8.toInt32, c1.toInt8.toInt32, c2.toInt8.toInt32, c3.toInt8.toInt32, c4.toInt8.toInt32, c5.toInt8.toInt32, c6.toInt8.toInt32, c7.toInt8.toInt32, c8.toInt8.toInt32]).length))] [(.int (Int32.ofNat (own_enc [c0.toInt8.toInt32, c1.toInt8.toInt32, c2.toInt8.toInt32, c3.toInt8.toInt32, c4.toInt8.toInt32, c5.toInt8.toInt32, c6.toInt8.toInt32, c7.toInt8.toInt32, c8.toInt8.toInt32, c9.toInt8.toInt32]).length))]))
  try clear st136
  try clear N136q
  try clear N133
  try clear e133
  try clear X133
  try clear T133
  refine own_st (fun tg_ kg_ => XS.istore X136.here hx rfl (hb hby at_406) rfl (l' := #[.val (.long i0), .second, .val (.long i1), .second, .val (.long i2), .second, .val (.ref s0), .val (.ref w2), .val (.int (Int32.ofNat (own_enc [c0.toInt8.toInt32, c1.toInt8.toInt32, c2.toInt8.toInt32, c3.toInt8.toInt32, c4.toInt8.toInt32, c5.toInt8.toInt32, c6.toInt8.toInt32, c7.toInt8.toInt32, c8.toInt8.toInt32, c9.toInt8.toInt32]).length))]) rfl kg_) ?_
  show own_Gl p e below _ (T136.setTop (mkF m 408 #[.val (.long i0), .second, .val (.long i1), .second, .val (.long i2), .second, .val (.ref s0), .val (.ref w2), .val (.int (Int32.ofNat (own_enc [c0.toInt8.toInt32, c1.toInt8.toInt32, c2.toInt8.toInt32, c3.toInt8.toInt32, c4.toInt8.toInt32, c5.toInt8.toInt32, c6.toInt8.toInt32, c7.toInt8.toInt32, c8.toInt8.toInt32, c9.toInt8.toInt32]).length))] []))
  refine own_st (fun tg_ kg_ => XS.aload X136.here hx rfl (hb hby at_408) rfl rfl kg_) ?_
  show own_Gl p e below _ (T136.setTop (mkF m 410 #[.val (.long i0), .second, .val (.long i1), .second, .val (.long i2), .second, .val (.ref s0), .val (.ref w2), .val (.int (Int32.ofNat (own_enc [c0.toInt8.toInt32, c1.toInt8.toInt32, c2.toInt8.toInt32, c3.toInt8.toInt32, c4.toInt8.toInt32, c5.toInt8.toInt32, c6.toInt8.toInt32, c7.toInt8.toInt32, c8.toInt8.toInt32, c9.toInt8.toInt32]).length))] [(.ref w2)]))
  refine own_st (fun tg_ kg_ => XS.iload X136.here hx rfl (hb hby at_410) rfl kg_) ?_
  show own_Gl p e below _ (T136.setTop (mkF m 412 #[.val (.long i0), .second, .val (.long i1), .second, .val (.long i2), .second, .val (.ref s0), .val (.ref w2), .val (.int (Int32.ofNat (own_enc [c0.toInt8.toInt32, c1.toInt8.toInt32, c2.toInt8.toInt32, c3.toInt8.toInt32, c4.toInt8.toInt32, c5.toInt8.toInt32, c6.toInt8.toInt32, c7.toInt8.toInt32, c8.toInt8.toInt32, c9.toInt8.toInt32]).length))] [(.int (Int32.ofNat (own_enc [c0.toInt8.toInt32, c1.toInt8.toInt32, c2.toInt8.toInt32, c3.toInt8.toInt32, c4.toInt8.toInt32, c5.toInt8.toInt32, c6.toInt8.toInt32, c7.toInt8.toInt32, c8.toInt8.toInt32, c9.toInt8.toInt32]).length)), (.ref w2)]))
  refine own_st (fun tg_ kg_ => XS.aload X136.here hx rfl (hb hby at_412) rfl rfl kg_) ?_
  show own_Gl p e below _ (T136.setTop (mkF m 414 #[.val (.long i0), .second, .val (.long i1), .second, .val (.long i2), .second, .val (.ref s0), .val (.ref w2), .val (.int (Int32.ofNat (own_enc [c0.toInt8.toInt32, c1.toInt8.toInt32, c2.toInt8.toInt32, c3.toInt8.toInt32, c4.toInt8.toInt32, c5.toInt8.toInt32, c6.toInt8.toInt32, c7.toInt8.toInt32, c8.toInt8.toInt32, c9.toInt8.toInt32]).length))] [(.ref s0), (.int (Int32.ofNat (own_enc [c0.toInt8.toInt32, c1.toInt8.toInt32, c2.toInt8.toInt32, c3.toInt8.toInt32, c4.toInt8.toInt32, c5.toInt8.toInt32, c6.toInt8.toInt32, c7.toInt8.toInt32, c8.toInt8.toInt32, c9.toInt8.toInt32]).length)), (.ref w2)]))
  refine own_st (fun tg_ kg_ => XS.bipush X136.here hx rfl (hb hby at_414) kg_) ?_
  show own_Gl p e below _ (T136.setTop (mkF m 416 #[.val (.long i0), .second, .val (.long i1), .second, .val (.long i2), .second, .val (.ref s0), .val (.ref w2), .val (.int (Int32.ofNat (own_enc [c0.toInt8.toInt32, c1.toInt8.toInt32, c2.toInt8.toInt32, c3.toInt8.toInt32, c4.toInt8.toInt32, c5.toInt8.toInt32, c6.toInt8.toInt32, c7.toInt8.toInt32, c8.toInt8.toInt32, c9.toInt8.toInt32]).length))] [(.int (10 : Int32)), (.ref s0), (.int (Int32.ofNat (own_enc [c0.toInt8.toInt32, c1.toInt8.toInt32, c2.toInt8.toInt32, c3.toInt8.toInt32, c4.toInt8.toInt32, c5.toInt8.toInt32, c6.toInt8.toInt32, c7.toInt8.toInt32, c8.toInt8.toInt32, c9.toInt8.toInt32]).length)), (.ref w2)]))
  obtain ⟨cl137, Ar137, qa137, Sa137, Na137, Ha137, Ga137⟩ := id V_s0
  have hin138 : ¬ ((10 : Int32) < 0 ∨ cl137.slots.size ≤ ((10 : Int32)).toNatClampNeg) := inb_of Sa137 ⟨by decide, by decide⟩
  have hat138 : cl137.slots[((10 : Int32)).toNatClampNeg]? = some (.int c10) := Has.at Ha137 hin138 rfl
  refine own_st (fun tg_ kg_ => X136.caload hx (j := (10 : Int32)) (v := (.int c10)) (by rw [e136]; exact Ar137.1) (State.isArrayOf_alike hZ.alike Ar137.2.1) Ar137.2.2 hin138 hat138 (g := (mkF m 416 #[.val (.long i0), .second, .val (.long i1), .second, .val (.long i2), .second, .val (.ref s0), .val (.ref w2), .val (.int (Int32.ofNat (own_enc [c0.toInt8.toInt32, c1.toInt8.toInt32, c2.toInt8.toInt32, c3.toInt8.toInt32, c4.toInt8.toInt32, c5.toInt8.toInt32, c6.toInt8.toInt32, c7.toInt8.toInt32, c8.toInt8.toInt32, c9.toInt8.toInt32]).length))] [(.int (10 : Int32)), (.ref s0), (.int (Int32.ofNat (own_enc [c0.toInt8.toInt32, c1.toInt8.toInt32, c2.toInt8.toInt32, c3.toInt8.toInt32, c4.toInt8.toInt32, c5.toInt8.toInt32, c6.toInt8.toInt32, c7.toInt8.toInt32, c8.toInt8.toInt32, c9.toInt8.toInt32]).length)), (.ref w2)])) rfl rfl (hb hby at_416) _ kg_) ?_
  show own_Gl p e below _ (T136.setTop (mkF m 417 #[.val (.long i0), .second, .val (.long i1), .second, .val (.long i2), .second, .val (.ref s0), .val (.ref w2), .val (.int (Int32.ofNat (own_enc [c0.toInt8.toInt32, c1.toInt8.toInt32, c2.toInt8.toInt32, c3.toInt8.toInt32, c4.toInt8.toInt32, c5.toInt8.toInt32, c6.toInt8.toInt32, c7.toInt8.toInt32, c8.toInt8.toInt32, c9.toInt8.toInt32]).length))] [(.int c10), (.int (Int32.ofNat (own_enc [c0.toInt8.toInt32, c1.toInt8.toInt32, c2.toInt8.toInt32, c3.toInt8.toInt32, c4.toInt8.toInt32, c5.toInt8.toInt32, c6.toInt8.toInt32, c7.toInt8.toInt32, c8.toInt8.toInt32, c9.toInt8.toInt32]).length)), (.ref w2)]))
  obtain ⟨_, _, ⟨T139, L139, k139, n139⟩, -, X139, ⟨Lc139, hQ139, l139, y139, z139⟩, st139⟩ := Jvm.LawKit.callS X136 hx (y := (⟨"com/example/highwater/highwater/config/TokenSecretFromTextPinLaw", "step", "([BIC)I"⟩ : MethodName)) hown (mvT hZ (hw _ (List.mem_of_getElem? (i := 112) rfl))) (mvT hZ (hw _ (List.mem_of_getElem? (i := 113) rfl))) (mvT hZ (hw _ (List.mem_of_getElem? (i := 3) rfl))) (mvT hZ (hw _ (List.mem_of_getElem? (i := 114) rfl))) (by decide) (backOf (W := 0) (own_rm_stp l Z a0 hw [] w2 kw2 [c0.toInt8.toInt32, c1.toInt8.toInt32, c2.toInt8.toInt32, c3.toInt8.toInt32, c4.toInt8.toInt32, c5.toInt8.toInt32, c6.toInt8.toInt32, c7.toInt8.toInt32, c8.toInt8.toInt32, c9.toInt8.toInt32, c10.toInt8.toInt32, c11.toInt8.toInt32, c12.toInt8.toInt32, c13.toInt8.toInt32, c14.toInt8.toInt32, c15.toInt8.toInt32, c16.toInt8.toInt32, c17.toInt8.toInt32, c18.toInt8.toInt32, c19.toInt8.toInt32, c20.toInt8.toInt32, c21.toInt8.toInt32, c22.toInt8.toInt32, c23.toInt8.toInt32] [c0.toInt8.toInt32, c1.toInt8.toInt32, c2.toInt8.toInt32, c3.toInt8.toInt32, c4.toInt8.toInt32, c5.toInt8.toInt32, c6.toInt8.toInt32, c7.toInt8.toInt32, c8.toInt8.toInt32, c9.toInt8.toInt32] [c11.toInt8.toInt32, c12.toInt8.toInt32, c13.toInt8.toInt32, c14.toInt8.toInt32, c15.toInt8.toInt32, c16.toInt8.toInt32, c17.toInt8.toInt32, c18.toInt8.toInt32, c19.toInt8.toInt32, c20.toInt8.toInt32, c21.toInt8.toInt32, c22.toInt8.toInt32, c23.toInt8.toInt32] [c0.toInt8.toInt32, c1.toInt8.toInt32, c2.toInt8.toInt32, c3.toInt8.toInt32, c4.toInt8.toInt32, c5.toInt8.toInt32, c6.toInt8.toInt32, c7.toInt8.toInt32, c8.toInt8.toInt32, c9.toInt8.toInt32, c10.toInt8.toInt32] c10 T105.heap n0 (Nat.le_trans Z0 K106.1) rfl rfl V_w2 hc10 h32.2) hZ (hw _ (List.mem_of_getElem? (i := 114) rfl)) (hw _ (List.mem_of_getElem? (i := 3) rfl)) (by decide) (by decide)) (g := (mkF m 417 #[.val (.long i0), .second, .val (.long i1), .second, .val (.long i2), .second, .val (.ref s0), .val (.ref w2), .val (.int (Int32.ofNat (own_enc [c0.toInt8.toInt32, c1.toInt8.toInt32, c2.toInt8.toInt32, c3.toInt8.toInt32, c4.toInt8.toInt32, c5.toInt8.toInt32, c6.toInt8.toInt32, c7.toInt8.toInt32, c8.toInt8.toInt32, c9.toInt8.toInt32]).length))] [(.int c10), (.int (Int32.ofNat (own_enc [c0.toInt8.toInt32, c1.toInt8.toInt32, c2.toInt8.toInt32, c3.toInt8.toInt32, c4.toInt8.toInt32, c5.toInt8.toInt32, c6.toInt8.toInt32, c7.toInt8.toInt32, c8.toInt8.toInt32, c9.toInt8.toInt32]).length)), (.ref w2)])) rfl (by rw [hml]; rfl) (argsL := [(.ref w2), (.int (Int32.ofNat (own_enc [c0.toInt8.toInt32, c1.toInt8.toInt32, c2.toInt8.toInt32, c3.toInt8.toInt32, c4.toInt8.toInt32, c5.toInt8.toInt32, c6.toInt8.toInt32, c7.toInt8.toInt32, c8.toInt8.toInt32, c9.toInt8.toInt32]).length)), (.int c10)]) (rest := []) (lenOf own_pd15 rfl) rfl (by show 2 * 0 + _ ≤ _; exact Nat.le_of_eq rfl) (hb hby at_417) (fun _ _ => ⟨rfl, e136, (by decide : 7 + 0 ≤ _), (by decide : 197 + 0 ≤ _)⟩)
  dsimp only [Pt.U, Pt.locs, Pt.cells, Pt.slots] at X139 l139 y139 z139 st139 hQ139
  obtain rfl : k139 = 7 := y139
  obtain rfl : n139 = 197 := z139
  obtain ⟨rfl, N139q, e139⟩ := hQ139
  have N139 : Fr n0 L139 := by rw [l139]; exact Fr.app N136 N139q
  try clear l139
  refine own_st st139 ?_
  show own_Gl p e below _ (T139.setTop (mkF m 420 #[.val (.long i0), .second, .val (.long i1), .second, .val (.long i2), .second, .val (.ref s0), .val (.ref w2), .val (.int (Int32.ofNat (own_enc [c0.toInt8.toInt32, c1.toInt8.toInt32, c2.toInt8.toInt32, c3.toInt8.toInt32, c4.toInt8.toInt32, c5.toInt8.toInt32, c6.toInt8.toInt32, c7.toInt8.toInt32, c8.toInt8.toInt32, c9.toInt8.toInt32]).length))] [(.int (Int32.ofNat (own_enc [c0.toInt8.toInt32, c1.toInt8.toInt32, c2.toInt8.toInt32, c3.toInt8.toInt32, c4.toInt8.toInt32, c5.toInt8.toInt32, c6.toInt8.toInt32, c7.toInt8.toInt32, c8.toInt8.toInt32, c9.toInt8.toInt32, c10.toInt8.toInt32]).length))]))
  try clear st139
  try clear N139q
  try clear N136
  try clear e136
  try clear X136
  try clear T136
  refine own_st (fun tg_ kg_ => XS.istore X139.here hx rfl (hb hby at_420) rfl (l' := #[.val (.long i0), .second, .val (.long i1), .second, .val (.long i2), .second, .val (.ref s0), .val (.ref w2), .val (.int (Int32.ofNat (own_enc [c0.toInt8.toInt32, c1.toInt8.toInt32, c2.toInt8.toInt32, c3.toInt8.toInt32, c4.toInt8.toInt32, c5.toInt8.toInt32, c6.toInt8.toInt32, c7.toInt8.toInt32, c8.toInt8.toInt32, c9.toInt8.toInt32, c10.toInt8.toInt32]).length))]) rfl kg_) ?_
  show own_Gl p e below _ (T139.setTop (mkF m 422 #[.val (.long i0), .second, .val (.long i1), .second, .val (.long i2), .second, .val (.ref s0), .val (.ref w2), .val (.int (Int32.ofNat (own_enc [c0.toInt8.toInt32, c1.toInt8.toInt32, c2.toInt8.toInt32, c3.toInt8.toInt32, c4.toInt8.toInt32, c5.toInt8.toInt32, c6.toInt8.toInt32, c7.toInt8.toInt32, c8.toInt8.toInt32, c9.toInt8.toInt32, c10.toInt8.toInt32]).length))] []))
  refine own_st (fun tg_ kg_ => XS.aload X139.here hx rfl (hb hby at_422) rfl rfl kg_) ?_
  show own_Gl p e below _ (T139.setTop (mkF m 424 #[.val (.long i0), .second, .val (.long i1), .second, .val (.long i2), .second, .val (.ref s0), .val (.ref w2), .val (.int (Int32.ofNat (own_enc [c0.toInt8.toInt32, c1.toInt8.toInt32, c2.toInt8.toInt32, c3.toInt8.toInt32, c4.toInt8.toInt32, c5.toInt8.toInt32, c6.toInt8.toInt32, c7.toInt8.toInt32, c8.toInt8.toInt32, c9.toInt8.toInt32, c10.toInt8.toInt32]).length))] [(.ref w2)]))
  refine own_st (fun tg_ kg_ => XS.iload X139.here hx rfl (hb hby at_424) rfl kg_) ?_
  show own_Gl p e below _ (T139.setTop (mkF m 426 #[.val (.long i0), .second, .val (.long i1), .second, .val (.long i2), .second, .val (.ref s0), .val (.ref w2), .val (.int (Int32.ofNat (own_enc [c0.toInt8.toInt32, c1.toInt8.toInt32, c2.toInt8.toInt32, c3.toInt8.toInt32, c4.toInt8.toInt32, c5.toInt8.toInt32, c6.toInt8.toInt32, c7.toInt8.toInt32, c8.toInt8.toInt32, c9.toInt8.toInt32, c10.toInt8.toInt32]).length))] [(.int (Int32.ofNat (own_enc [c0.toInt8.toInt32, c1.toInt8.toInt32, c2.toInt8.toInt32, c3.toInt8.toInt32, c4.toInt8.toInt32, c5.toInt8.toInt32, c6.toInt8.toInt32, c7.toInt8.toInt32, c8.toInt8.toInt32, c9.toInt8.toInt32, c10.toInt8.toInt32]).length)), (.ref w2)]))
  refine own_st (fun tg_ kg_ => XS.aload X139.here hx rfl (hb hby at_426) rfl rfl kg_) ?_
  show own_Gl p e below _ (T139.setTop (mkF m 428 #[.val (.long i0), .second, .val (.long i1), .second, .val (.long i2), .second, .val (.ref s0), .val (.ref w2), .val (.int (Int32.ofNat (own_enc [c0.toInt8.toInt32, c1.toInt8.toInt32, c2.toInt8.toInt32, c3.toInt8.toInt32, c4.toInt8.toInt32, c5.toInt8.toInt32, c6.toInt8.toInt32, c7.toInt8.toInt32, c8.toInt8.toInt32, c9.toInt8.toInt32, c10.toInt8.toInt32]).length))] [(.ref s0), (.int (Int32.ofNat (own_enc [c0.toInt8.toInt32, c1.toInt8.toInt32, c2.toInt8.toInt32, c3.toInt8.toInt32, c4.toInt8.toInt32, c5.toInt8.toInt32, c6.toInt8.toInt32, c7.toInt8.toInt32, c8.toInt8.toInt32, c9.toInt8.toInt32, c10.toInt8.toInt32]).length)), (.ref w2)]))
  refine own_st (fun tg_ kg_ => XS.bipush X139.here hx rfl (hb hby at_428) kg_) ?_
  show own_Gl p e below _ (T139.setTop (mkF m 430 #[.val (.long i0), .second, .val (.long i1), .second, .val (.long i2), .second, .val (.ref s0), .val (.ref w2), .val (.int (Int32.ofNat (own_enc [c0.toInt8.toInt32, c1.toInt8.toInt32, c2.toInt8.toInt32, c3.toInt8.toInt32, c4.toInt8.toInt32, c5.toInt8.toInt32, c6.toInt8.toInt32, c7.toInt8.toInt32, c8.toInt8.toInt32, c9.toInt8.toInt32, c10.toInt8.toInt32]).length))] [(.int (11 : Int32)), (.ref s0), (.int (Int32.ofNat (own_enc [c0.toInt8.toInt32, c1.toInt8.toInt32, c2.toInt8.toInt32, c3.toInt8.toInt32, c4.toInt8.toInt32, c5.toInt8.toInt32, c6.toInt8.toInt32, c7.toInt8.toInt32, c8.toInt8.toInt32, c9.toInt8.toInt32, c10.toInt8.toInt32]).length)), (.ref w2)]))
  obtain ⟨cl140, Ar140, qa140, Sa140, Na140, Ha140, Ga140⟩ := id V_s0
  have hin141 : ¬ ((11 : Int32) < 0 ∨ cl140.slots.size ≤ ((11 : Int32)).toNatClampNeg) := inb_of Sa140 ⟨by decide, by decide⟩
  have hat141 : cl140.slots[((11 : Int32)).toNatClampNeg]? = some (.int c11) := Has.at Ha140 hin141 rfl
  refine own_st (fun tg_ kg_ => X139.caload hx (j := (11 : Int32)) (v := (.int c11)) (by rw [e139]; exact Ar140.1) (State.isArrayOf_alike hZ.alike Ar140.2.1) Ar140.2.2 hin141 hat141 (g := (mkF m 430 #[.val (.long i0), .second, .val (.long i1), .second, .val (.long i2), .second, .val (.ref s0), .val (.ref w2), .val (.int (Int32.ofNat (own_enc [c0.toInt8.toInt32, c1.toInt8.toInt32, c2.toInt8.toInt32, c3.toInt8.toInt32, c4.toInt8.toInt32, c5.toInt8.toInt32, c6.toInt8.toInt32, c7.toInt8.toInt32, c8.toInt8.toInt32, c9.toInt8.toInt32, c10.toInt8.toInt32]).length))] [(.int (11 : Int32)), (.ref s0), (.int (Int32.ofNat (own_enc [c0.toInt8.toInt32, c1.toInt8.toInt32, c2.toInt8.toInt32, c3.toInt8.toInt32, c4.toInt8.toInt32, c5.toInt8.toInt32, c6.toInt8.toInt32, c7.toInt8.toInt32, c8.toInt8.toInt32, c9.toInt8.toInt32, c10.toInt8.toInt32]).length)), (.ref w2)])) rfl rfl (hb hby at_430) _ kg_) ?_
  show own_Gl p e below _ (T139.setTop (mkF m 431 #[.val (.long i0), .second, .val (.long i1), .second, .val (.long i2), .second, .val (.ref s0), .val (.ref w2), .val (.int (Int32.ofNat (own_enc [c0.toInt8.toInt32, c1.toInt8.toInt32, c2.toInt8.toInt32, c3.toInt8.toInt32, c4.toInt8.toInt32, c5.toInt8.toInt32, c6.toInt8.toInt32, c7.toInt8.toInt32, c8.toInt8.toInt32, c9.toInt8.toInt32, c10.toInt8.toInt32]).length))] [(.int c11), (.int (Int32.ofNat (own_enc [c0.toInt8.toInt32, c1.toInt8.toInt32, c2.toInt8.toInt32, c3.toInt8.toInt32, c4.toInt8.toInt32, c5.toInt8.toInt32, c6.toInt8.toInt32, c7.toInt8.toInt32, c8.toInt8.toInt32, c9.toInt8.toInt32, c10.toInt8.toInt32]).length)), (.ref w2)]))
  obtain ⟨_, _, ⟨T142, L142, k142, n142⟩, -, X142, ⟨Lc142, hQ142, l142, y142, z142⟩, st142⟩ := Jvm.LawKit.callS X139 hx (y := (⟨"com/example/highwater/highwater/config/TokenSecretFromTextPinLaw", "step", "([BIC)I"⟩ : MethodName)) hown (mvT hZ (hw _ (List.mem_of_getElem? (i := 112) rfl))) (mvT hZ (hw _ (List.mem_of_getElem? (i := 113) rfl))) (mvT hZ (hw _ (List.mem_of_getElem? (i := 3) rfl))) (mvT hZ (hw _ (List.mem_of_getElem? (i := 114) rfl))) (by decide) (backOf (W := 0) (own_rm_stp l Z a0 hw [] w2 kw2 [c0.toInt8.toInt32, c1.toInt8.toInt32, c2.toInt8.toInt32, c3.toInt8.toInt32, c4.toInt8.toInt32, c5.toInt8.toInt32, c6.toInt8.toInt32, c7.toInt8.toInt32, c8.toInt8.toInt32, c9.toInt8.toInt32, c10.toInt8.toInt32, c11.toInt8.toInt32, c12.toInt8.toInt32, c13.toInt8.toInt32, c14.toInt8.toInt32, c15.toInt8.toInt32, c16.toInt8.toInt32, c17.toInt8.toInt32, c18.toInt8.toInt32, c19.toInt8.toInt32, c20.toInt8.toInt32, c21.toInt8.toInt32, c22.toInt8.toInt32, c23.toInt8.toInt32] [c0.toInt8.toInt32, c1.toInt8.toInt32, c2.toInt8.toInt32, c3.toInt8.toInt32, c4.toInt8.toInt32, c5.toInt8.toInt32, c6.toInt8.toInt32, c7.toInt8.toInt32, c8.toInt8.toInt32, c9.toInt8.toInt32, c10.toInt8.toInt32] [c12.toInt8.toInt32, c13.toInt8.toInt32, c14.toInt8.toInt32, c15.toInt8.toInt32, c16.toInt8.toInt32, c17.toInt8.toInt32, c18.toInt8.toInt32, c19.toInt8.toInt32, c20.toInt8.toInt32, c21.toInt8.toInt32, c22.toInt8.toInt32, c23.toInt8.toInt32] [c0.toInt8.toInt32, c1.toInt8.toInt32, c2.toInt8.toInt32, c3.toInt8.toInt32, c4.toInt8.toInt32, c5.toInt8.toInt32, c6.toInt8.toInt32, c7.toInt8.toInt32, c8.toInt8.toInt32, c9.toInt8.toInt32, c10.toInt8.toInt32, c11.toInt8.toInt32] c11 T105.heap n0 (Nat.le_trans Z0 K106.1) rfl rfl V_w2 hc11 h32.2) hZ (hw _ (List.mem_of_getElem? (i := 114) rfl)) (hw _ (List.mem_of_getElem? (i := 3) rfl)) (by decide) (by decide)) (g := (mkF m 431 #[.val (.long i0), .second, .val (.long i1), .second, .val (.long i2), .second, .val (.ref s0), .val (.ref w2), .val (.int (Int32.ofNat (own_enc [c0.toInt8.toInt32, c1.toInt8.toInt32, c2.toInt8.toInt32, c3.toInt8.toInt32, c4.toInt8.toInt32, c5.toInt8.toInt32, c6.toInt8.toInt32, c7.toInt8.toInt32, c8.toInt8.toInt32, c9.toInt8.toInt32, c10.toInt8.toInt32]).length))] [(.int c11), (.int (Int32.ofNat (own_enc [c0.toInt8.toInt32, c1.toInt8.toInt32, c2.toInt8.toInt32, c3.toInt8.toInt32, c4.toInt8.toInt32, c5.toInt8.toInt32, c6.toInt8.toInt32, c7.toInt8.toInt32, c8.toInt8.toInt32, c9.toInt8.toInt32, c10.toInt8.toInt32]).length)), (.ref w2)])) rfl (by rw [hml]; rfl) (argsL := [(.ref w2), (.int (Int32.ofNat (own_enc [c0.toInt8.toInt32, c1.toInt8.toInt32, c2.toInt8.toInt32, c3.toInt8.toInt32, c4.toInt8.toInt32, c5.toInt8.toInt32, c6.toInt8.toInt32, c7.toInt8.toInt32, c8.toInt8.toInt32, c9.toInt8.toInt32, c10.toInt8.toInt32]).length)), (.int c11)]) (rest := []) (lenOf own_pd15 rfl) rfl (by show 2 * 0 + _ ≤ _; exact Nat.le_of_eq rfl) (hb hby at_431) (fun _ _ => ⟨rfl, e139, (by decide : 7 + 0 ≤ _), (by decide : 197 + 0 ≤ _)⟩)
  dsimp only [Pt.U, Pt.locs, Pt.cells, Pt.slots] at X142 l142 y142 z142 st142 hQ142
  obtain rfl : k142 = 7 := y142
  obtain rfl : n142 = 197 := z142
  obtain ⟨rfl, N142q, e142⟩ := hQ142
  have N142 : Fr n0 L142 := by rw [l142]; exact Fr.app N139 N142q
  try clear l142
  refine own_st st142 ?_
  show own_Gl p e below _ (T142.setTop (mkF m 434 #[.val (.long i0), .second, .val (.long i1), .second, .val (.long i2), .second, .val (.ref s0), .val (.ref w2), .val (.int (Int32.ofNat (own_enc [c0.toInt8.toInt32, c1.toInt8.toInt32, c2.toInt8.toInt32, c3.toInt8.toInt32, c4.toInt8.toInt32, c5.toInt8.toInt32, c6.toInt8.toInt32, c7.toInt8.toInt32, c8.toInt8.toInt32, c9.toInt8.toInt32, c10.toInt8.toInt32]).length))] [(.int (Int32.ofNat (own_enc [c0.toInt8.toInt32, c1.toInt8.toInt32, c2.toInt8.toInt32, c3.toInt8.toInt32, c4.toInt8.toInt32, c5.toInt8.toInt32, c6.toInt8.toInt32, c7.toInt8.toInt32, c8.toInt8.toInt32, c9.toInt8.toInt32, c10.toInt8.toInt32, c11.toInt8.toInt32]).length))]))
  try clear st142
  try clear N142q
  try clear N139
  try clear e139
  try clear X139
  try clear T139
  refine own_st (fun tg_ kg_ => XS.istore X142.here hx rfl (hb hby at_434) rfl (l' := #[.val (.long i0), .second, .val (.long i1), .second, .val (.long i2), .second, .val (.ref s0), .val (.ref w2), .val (.int (Int32.ofNat (own_enc [c0.toInt8.toInt32, c1.toInt8.toInt32, c2.toInt8.toInt32, c3.toInt8.toInt32, c4.toInt8.toInt32, c5.toInt8.toInt32, c6.toInt8.toInt32, c7.toInt8.toInt32, c8.toInt8.toInt32, c9.toInt8.toInt32, c10.toInt8.toInt32, c11.toInt8.toInt32]).length))]) rfl kg_) ?_
  show own_Gl p e below _ (T142.setTop (mkF m 436 #[.val (.long i0), .second, .val (.long i1), .second, .val (.long i2), .second, .val (.ref s0), .val (.ref w2), .val (.int (Int32.ofNat (own_enc [c0.toInt8.toInt32, c1.toInt8.toInt32, c2.toInt8.toInt32, c3.toInt8.toInt32, c4.toInt8.toInt32, c5.toInt8.toInt32, c6.toInt8.toInt32, c7.toInt8.toInt32, c8.toInt8.toInt32, c9.toInt8.toInt32, c10.toInt8.toInt32, c11.toInt8.toInt32]).length))] []))
  refine own_st (fun tg_ kg_ => XS.aload X142.here hx rfl (hb hby at_436) rfl rfl kg_) ?_
  show own_Gl p e below _ (T142.setTop (mkF m 438 #[.val (.long i0), .second, .val (.long i1), .second, .val (.long i2), .second, .val (.ref s0), .val (.ref w2), .val (.int (Int32.ofNat (own_enc [c0.toInt8.toInt32, c1.toInt8.toInt32, c2.toInt8.toInt32, c3.toInt8.toInt32, c4.toInt8.toInt32, c5.toInt8.toInt32, c6.toInt8.toInt32, c7.toInt8.toInt32, c8.toInt8.toInt32, c9.toInt8.toInt32, c10.toInt8.toInt32, c11.toInt8.toInt32]).length))] [(.ref w2)]))
  refine own_st (fun tg_ kg_ => XS.iload X142.here hx rfl (hb hby at_438) rfl kg_) ?_
  show own_Gl p e below _ (T142.setTop (mkF m 440 #[.val (.long i0), .second, .val (.long i1), .second, .val (.long i2), .second, .val (.ref s0), .val (.ref w2), .val (.int (Int32.ofNat (own_enc [c0.toInt8.toInt32, c1.toInt8.toInt32, c2.toInt8.toInt32, c3.toInt8.toInt32, c4.toInt8.toInt32, c5.toInt8.toInt32, c6.toInt8.toInt32, c7.toInt8.toInt32, c8.toInt8.toInt32, c9.toInt8.toInt32, c10.toInt8.toInt32, c11.toInt8.toInt32]).length))] [(.int (Int32.ofNat (own_enc [c0.toInt8.toInt32, c1.toInt8.toInt32, c2.toInt8.toInt32, c3.toInt8.toInt32, c4.toInt8.toInt32, c5.toInt8.toInt32, c6.toInt8.toInt32, c7.toInt8.toInt32, c8.toInt8.toInt32, c9.toInt8.toInt32, c10.toInt8.toInt32, c11.toInt8.toInt32]).length)), (.ref w2)]))
  refine own_st (fun tg_ kg_ => XS.aload X142.here hx rfl (hb hby at_440) rfl rfl kg_) ?_
  show own_Gl p e below _ (T142.setTop (mkF m 442 #[.val (.long i0), .second, .val (.long i1), .second, .val (.long i2), .second, .val (.ref s0), .val (.ref w2), .val (.int (Int32.ofNat (own_enc [c0.toInt8.toInt32, c1.toInt8.toInt32, c2.toInt8.toInt32, c3.toInt8.toInt32, c4.toInt8.toInt32, c5.toInt8.toInt32, c6.toInt8.toInt32, c7.toInt8.toInt32, c8.toInt8.toInt32, c9.toInt8.toInt32, c10.toInt8.toInt32, c11.toInt8.toInt32]).length))] [(.ref s0), (.int (Int32.ofNat (own_enc [c0.toInt8.toInt32, c1.toInt8.toInt32, c2.toInt8.toInt32, c3.toInt8.toInt32, c4.toInt8.toInt32, c5.toInt8.toInt32, c6.toInt8.toInt32, c7.toInt8.toInt32, c8.toInt8.toInt32, c9.toInt8.toInt32, c10.toInt8.toInt32, c11.toInt8.toInt32]).length)), (.ref w2)]))
  refine own_st (fun tg_ kg_ => XS.bipush X142.here hx rfl (hb hby at_442) kg_) ?_
  show own_Gl p e below _ (T142.setTop (mkF m 444 #[.val (.long i0), .second, .val (.long i1), .second, .val (.long i2), .second, .val (.ref s0), .val (.ref w2), .val (.int (Int32.ofNat (own_enc [c0.toInt8.toInt32, c1.toInt8.toInt32, c2.toInt8.toInt32, c3.toInt8.toInt32, c4.toInt8.toInt32, c5.toInt8.toInt32, c6.toInt8.toInt32, c7.toInt8.toInt32, c8.toInt8.toInt32, c9.toInt8.toInt32, c10.toInt8.toInt32, c11.toInt8.toInt32]).length))] [(.int (12 : Int32)), (.ref s0), (.int (Int32.ofNat (own_enc [c0.toInt8.toInt32, c1.toInt8.toInt32, c2.toInt8.toInt32, c3.toInt8.toInt32, c4.toInt8.toInt32, c5.toInt8.toInt32, c6.toInt8.toInt32, c7.toInt8.toInt32, c8.toInt8.toInt32, c9.toInt8.toInt32, c10.toInt8.toInt32, c11.toInt8.toInt32]).length)), (.ref w2)]))
  obtain ⟨cl143, Ar143, qa143, Sa143, Na143, Ha143, Ga143⟩ := id V_s0
  have hin144 : ¬ ((12 : Int32) < 0 ∨ cl143.slots.size ≤ ((12 : Int32)).toNatClampNeg) := inb_of Sa143 ⟨by decide, by decide⟩
  have hat144 : cl143.slots[((12 : Int32)).toNatClampNeg]? = some (.int c12) := Has.at Ha143 hin144 rfl
  refine own_st (fun tg_ kg_ => X142.caload hx (j := (12 : Int32)) (v := (.int c12)) (by rw [e142]; exact Ar143.1) (State.isArrayOf_alike hZ.alike Ar143.2.1) Ar143.2.2 hin144 hat144 (g := (mkF m 444 #[.val (.long i0), .second, .val (.long i1), .second, .val (.long i2), .second, .val (.ref s0), .val (.ref w2), .val (.int (Int32.ofNat (own_enc [c0.toInt8.toInt32, c1.toInt8.toInt32, c2.toInt8.toInt32, c3.toInt8.toInt32, c4.toInt8.toInt32, c5.toInt8.toInt32, c6.toInt8.toInt32, c7.toInt8.toInt32, c8.toInt8.toInt32, c9.toInt8.toInt32, c10.toInt8.toInt32, c11.toInt8.toInt32]).length))] [(.int (12 : Int32)), (.ref s0), (.int (Int32.ofNat (own_enc [c0.toInt8.toInt32, c1.toInt8.toInt32, c2.toInt8.toInt32, c3.toInt8.toInt32, c4.toInt8.toInt32, c5.toInt8.toInt32, c6.toInt8.toInt32, c7.toInt8.toInt32, c8.toInt8.toInt32, c9.toInt8.toInt32, c10.toInt8.toInt32, c11.toInt8.toInt32]).length)), (.ref w2)])) rfl rfl (hb hby at_444) _ kg_) ?_
  show own_Gl p e below _ (T142.setTop (mkF m 445 #[.val (.long i0), .second, .val (.long i1), .second, .val (.long i2), .second, .val (.ref s0), .val (.ref w2), .val (.int (Int32.ofNat (own_enc [c0.toInt8.toInt32, c1.toInt8.toInt32, c2.toInt8.toInt32, c3.toInt8.toInt32, c4.toInt8.toInt32, c5.toInt8.toInt32, c6.toInt8.toInt32, c7.toInt8.toInt32, c8.toInt8.toInt32, c9.toInt8.toInt32, c10.toInt8.toInt32, c11.toInt8.toInt32]).length))] [(.int c12), (.int (Int32.ofNat (own_enc [c0.toInt8.toInt32, c1.toInt8.toInt32, c2.toInt8.toInt32, c3.toInt8.toInt32, c4.toInt8.toInt32, c5.toInt8.toInt32, c6.toInt8.toInt32, c7.toInt8.toInt32, c8.toInt8.toInt32, c9.toInt8.toInt32, c10.toInt8.toInt32, c11.toInt8.toInt32]).length)), (.ref w2)]))
  obtain ⟨_, _, ⟨T145, L145, k145, n145⟩, -, X145, ⟨Lc145, hQ145, l145, y145, z145⟩, st145⟩ := Jvm.LawKit.callS X142 hx (y := (⟨"com/example/highwater/highwater/config/TokenSecretFromTextPinLaw", "step", "([BIC)I"⟩ : MethodName)) hown (mvT hZ (hw _ (List.mem_of_getElem? (i := 112) rfl))) (mvT hZ (hw _ (List.mem_of_getElem? (i := 113) rfl))) (mvT hZ (hw _ (List.mem_of_getElem? (i := 3) rfl))) (mvT hZ (hw _ (List.mem_of_getElem? (i := 114) rfl))) (by decide) (backOf (W := 0) (own_rm_stp l Z a0 hw [] w2 kw2 [c0.toInt8.toInt32, c1.toInt8.toInt32, c2.toInt8.toInt32, c3.toInt8.toInt32, c4.toInt8.toInt32, c5.toInt8.toInt32, c6.toInt8.toInt32, c7.toInt8.toInt32, c8.toInt8.toInt32, c9.toInt8.toInt32, c10.toInt8.toInt32, c11.toInt8.toInt32, c12.toInt8.toInt32, c13.toInt8.toInt32, c14.toInt8.toInt32, c15.toInt8.toInt32, c16.toInt8.toInt32, c17.toInt8.toInt32, c18.toInt8.toInt32, c19.toInt8.toInt32, c20.toInt8.toInt32, c21.toInt8.toInt32, c22.toInt8.toInt32, c23.toInt8.toInt32] [c0.toInt8.toInt32, c1.toInt8.toInt32, c2.toInt8.toInt32, c3.toInt8.toInt32, c4.toInt8.toInt32, c5.toInt8.toInt32, c6.toInt8.toInt32, c7.toInt8.toInt32, c8.toInt8.toInt32, c9.toInt8.toInt32, c10.toInt8.toInt32, c11.toInt8.toInt32] [c13.toInt8.toInt32, c14.toInt8.toInt32, c15.toInt8.toInt32, c16.toInt8.toInt32, c17.toInt8.toInt32, c18.toInt8.toInt32, c19.toInt8.toInt32, c20.toInt8.toInt32, c21.toInt8.toInt32, c22.toInt8.toInt32, c23.toInt8.toInt32] [c0.toInt8.toInt32, c1.toInt8.toInt32, c2.toInt8.toInt32, c3.toInt8.toInt32, c4.toInt8.toInt32, c5.toInt8.toInt32, c6.toInt8.toInt32, c7.toInt8.toInt32, c8.toInt8.toInt32, c9.toInt8.toInt32, c10.toInt8.toInt32, c11.toInt8.toInt32, c12.toInt8.toInt32] c12 T105.heap n0 (Nat.le_trans Z0 K106.1) rfl rfl V_w2 hc12 h32.2) hZ (hw _ (List.mem_of_getElem? (i := 114) rfl)) (hw _ (List.mem_of_getElem? (i := 3) rfl)) (by decide) (by decide)) (g := (mkF m 445 #[.val (.long i0), .second, .val (.long i1), .second, .val (.long i2), .second, .val (.ref s0), .val (.ref w2), .val (.int (Int32.ofNat (own_enc [c0.toInt8.toInt32, c1.toInt8.toInt32, c2.toInt8.toInt32, c3.toInt8.toInt32, c4.toInt8.toInt32, c5.toInt8.toInt32, c6.toInt8.toInt32, c7.toInt8.toInt32, c8.toInt8.toInt32, c9.toInt8.toInt32, c10.toInt8.toInt32, c11.toInt8.toInt32]).length))] [(.int c12), (.int (Int32.ofNat (own_enc [c0.toInt8.toInt32, c1.toInt8.toInt32, c2.toInt8.toInt32, c3.toInt8.toInt32, c4.toInt8.toInt32, c5.toInt8.toInt32, c6.toInt8.toInt32, c7.toInt8.toInt32, c8.toInt8.toInt32, c9.toInt8.toInt32, c10.toInt8.toInt32, c11.toInt8.toInt32]).length)), (.ref w2)])) rfl (by rw [hml]; rfl) (argsL := [(.ref w2), (.int (Int32.ofNat (own_enc [c0.toInt8.toInt32, c1.toInt8.toInt32, c2.toInt8.toInt32, c3.toInt8.toInt32, c4.toInt8.toInt32, c5.toInt8.toInt32, c6.toInt8.toInt32, c7.toInt8.toInt32, c8.toInt8.toInt32, c9.toInt8.toInt32, c10.toInt8.toInt32, c11.toInt8.toInt32]).length)), (.int c12)]) (rest := []) (lenOf own_pd15 rfl) rfl (by show 2 * 0 + _ ≤ _; exact Nat.le_of_eq rfl) (hb hby at_445) (fun _ _ => ⟨rfl, e142, (by decide : 7 + 0 ≤ _), (by decide : 197 + 0 ≤ _)⟩)
  dsimp only [Pt.U, Pt.locs, Pt.cells, Pt.slots] at X145 l145 y145 z145 st145 hQ145
  obtain rfl : k145 = 7 := y145
  obtain rfl : n145 = 197 := z145
  obtain ⟨rfl, N145q, e145⟩ := hQ145
  have N145 : Fr n0 L145 := by rw [l145]; exact Fr.app N142 N145q
  try clear l145
  refine own_st st145 ?_
  show own_Gl p e below _ (T145.setTop (mkF m 448 #[.val (.long i0), .second, .val (.long i1), .second, .val (.long i2), .second, .val (.ref s0), .val (.ref w2), .val (.int (Int32.ofNat (own_enc [c0.toInt8.toInt32, c1.toInt8.toInt32, c2.toInt8.toInt32, c3.toInt8.toInt32, c4.toInt8.toInt32, c5.toInt8.toInt32, c6.toInt8.toInt32, c7.toInt8.toInt32, c8.toInt8.toInt32, c9.toInt8.toInt32, c10.toInt8.toInt32, c11.toInt8.toInt32]).length))] [(.int (Int32.ofNat (own_enc [c0.toInt8.toInt32, c1.toInt8.toInt32, c2.toInt8.toInt32, c3.toInt8.toInt32, c4.toInt8.toInt32, c5.toInt8.toInt32, c6.toInt8.toInt32, c7.toInt8.toInt32, c8.toInt8.toInt32, c9.toInt8.toInt32, c10.toInt8.toInt32, c11.toInt8.toInt32, c12.toInt8.toInt32]).length))]))
  try clear st145
  try clear N145q
  try clear N142
  try clear e142
  try clear X142
  try clear T142
  refine own_st (fun tg_ kg_ => XS.istore X145.here hx rfl (hb hby at_448) rfl (l' := #[.val (.long i0), .second, .val (.long i1), .second, .val (.long i2), .second, .val (.ref s0), .val (.ref w2), .val (.int (Int32.ofNat (own_enc [c0.toInt8.toInt32, c1.toInt8.toInt32, c2.toInt8.toInt32, c3.toInt8.toInt32, c4.toInt8.toInt32, c5.toInt8.toInt32, c6.toInt8.toInt32, c7.toInt8.toInt32, c8.toInt8.toInt32, c9.toInt8.toInt32, c10.toInt8.toInt32, c11.toInt8.toInt32, c12.toInt8.toInt32]).length))]) rfl kg_) ?_
  show own_Gl p e below _ (T145.setTop (mkF m 450 #[.val (.long i0), .second, .val (.long i1), .second, .val (.long i2), .second, .val (.ref s0), .val (.ref w2), .val (.int (Int32.ofNat (own_enc [c0.toInt8.toInt32, c1.toInt8.toInt32, c2.toInt8.toInt32, c3.toInt8.toInt32, c4.toInt8.toInt32, c5.toInt8.toInt32, c6.toInt8.toInt32, c7.toInt8.toInt32, c8.toInt8.toInt32, c9.toInt8.toInt32, c10.toInt8.toInt32, c11.toInt8.toInt32, c12.toInt8.toInt32]).length))] []))
  refine own_st (fun tg_ kg_ => XS.aload X145.here hx rfl (hb hby at_450) rfl rfl kg_) ?_
  show own_Gl p e below _ (T145.setTop (mkF m 452 #[.val (.long i0), .second, .val (.long i1), .second, .val (.long i2), .second, .val (.ref s0), .val (.ref w2), .val (.int (Int32.ofNat (own_enc [c0.toInt8.toInt32, c1.toInt8.toInt32, c2.toInt8.toInt32, c3.toInt8.toInt32, c4.toInt8.toInt32, c5.toInt8.toInt32, c6.toInt8.toInt32, c7.toInt8.toInt32, c8.toInt8.toInt32, c9.toInt8.toInt32, c10.toInt8.toInt32, c11.toInt8.toInt32, c12.toInt8.toInt32]).length))] [(.ref w2)]))
  refine own_st (fun tg_ kg_ => XS.iload X145.here hx rfl (hb hby at_452) rfl kg_) ?_
  show own_Gl p e below _ (T145.setTop (mkF m 454 #[.val (.long i0), .second, .val (.long i1), .second, .val (.long i2), .second, .val (.ref s0), .val (.ref w2), .val (.int (Int32.ofNat (own_enc [c0.toInt8.toInt32, c1.toInt8.toInt32, c2.toInt8.toInt32, c3.toInt8.toInt32, c4.toInt8.toInt32, c5.toInt8.toInt32, c6.toInt8.toInt32, c7.toInt8.toInt32, c8.toInt8.toInt32, c9.toInt8.toInt32, c10.toInt8.toInt32, c11.toInt8.toInt32, c12.toInt8.toInt32]).length))] [(.int (Int32.ofNat (own_enc [c0.toInt8.toInt32, c1.toInt8.toInt32, c2.toInt8.toInt32, c3.toInt8.toInt32, c4.toInt8.toInt32, c5.toInt8.toInt32, c6.toInt8.toInt32, c7.toInt8.toInt32, c8.toInt8.toInt32, c9.toInt8.toInt32, c10.toInt8.toInt32, c11.toInt8.toInt32, c12.toInt8.toInt32]).length)), (.ref w2)]))
  refine own_st (fun tg_ kg_ => XS.aload X145.here hx rfl (hb hby at_454) rfl rfl kg_) ?_
  show own_Gl p e below _ (T145.setTop (mkF m 456 #[.val (.long i0), .second, .val (.long i1), .second, .val (.long i2), .second, .val (.ref s0), .val (.ref w2), .val (.int (Int32.ofNat (own_enc [c0.toInt8.toInt32, c1.toInt8.toInt32, c2.toInt8.toInt32, c3.toInt8.toInt32, c4.toInt8.toInt32, c5.toInt8.toInt32, c6.toInt8.toInt32, c7.toInt8.toInt32, c8.toInt8.toInt32, c9.toInt8.toInt32, c10.toInt8.toInt32, c11.toInt8.toInt32, c12.toInt8.toInt32]).length))] [(.ref s0), (.int (Int32.ofNat (own_enc [c0.toInt8.toInt32, c1.toInt8.toInt32, c2.toInt8.toInt32, c3.toInt8.toInt32, c4.toInt8.toInt32, c5.toInt8.toInt32, c6.toInt8.toInt32, c7.toInt8.toInt32, c8.toInt8.toInt32, c9.toInt8.toInt32, c10.toInt8.toInt32, c11.toInt8.toInt32, c12.toInt8.toInt32]).length)), (.ref w2)]))
  refine own_st (fun tg_ kg_ => XS.bipush X145.here hx rfl (hb hby at_456) kg_) ?_
  show own_Gl p e below _ (T145.setTop (mkF m 458 #[.val (.long i0), .second, .val (.long i1), .second, .val (.long i2), .second, .val (.ref s0), .val (.ref w2), .val (.int (Int32.ofNat (own_enc [c0.toInt8.toInt32, c1.toInt8.toInt32, c2.toInt8.toInt32, c3.toInt8.toInt32, c4.toInt8.toInt32, c5.toInt8.toInt32, c6.toInt8.toInt32, c7.toInt8.toInt32, c8.toInt8.toInt32, c9.toInt8.toInt32, c10.toInt8.toInt32, c11.toInt8.toInt32, c12.toInt8.toInt32]).length))] [(.int (13 : Int32)), (.ref s0), (.int (Int32.ofNat (own_enc [c0.toInt8.toInt32, c1.toInt8.toInt32, c2.toInt8.toInt32, c3.toInt8.toInt32, c4.toInt8.toInt32, c5.toInt8.toInt32, c6.toInt8.toInt32, c7.toInt8.toInt32, c8.toInt8.toInt32, c9.toInt8.toInt32, c10.toInt8.toInt32, c11.toInt8.toInt32, c12.toInt8.toInt32]).length)), (.ref w2)]))
  obtain ⟨cl146, Ar146, qa146, Sa146, Na146, Ha146, Ga146⟩ := id V_s0
  have hin147 : ¬ ((13 : Int32) < 0 ∨ cl146.slots.size ≤ ((13 : Int32)).toNatClampNeg) := inb_of Sa146 ⟨by decide, by decide⟩
  have hat147 : cl146.slots[((13 : Int32)).toNatClampNeg]? = some (.int c13) := Has.at Ha146 hin147 rfl
  refine own_st (fun tg_ kg_ => X145.caload hx (j := (13 : Int32)) (v := (.int c13)) (by rw [e145]; exact Ar146.1) (State.isArrayOf_alike hZ.alike Ar146.2.1) Ar146.2.2 hin147 hat147 (g := (mkF m 458 #[.val (.long i0), .second, .val (.long i1), .second, .val (.long i2), .second, .val (.ref s0), .val (.ref w2), .val (.int (Int32.ofNat (own_enc [c0.toInt8.toInt32, c1.toInt8.toInt32, c2.toInt8.toInt32, c3.toInt8.toInt32, c4.toInt8.toInt32, c5.toInt8.toInt32, c6.toInt8.toInt32, c7.toInt8.toInt32, c8.toInt8.toInt32, c9.toInt8.toInt32, c10.toInt8.toInt32, c11.toInt8.toInt32, c12.toInt8.toInt32]).length))] [(.int (13 : Int32)), (.ref s0), (.int (Int32.ofNat (own_enc [c0.toInt8.toInt32, c1.toInt8.toInt32, c2.toInt8.toInt32, c3.toInt8.toInt32, c4.toInt8.toInt32, c5.toInt8.toInt32, c6.toInt8.toInt32, c7.toInt8.toInt32, c8.toInt8.toInt32, c9.toInt8.toInt32, c10.toInt8.toInt32, c11.toInt8.toInt32, c12.toInt8.toInt32]).length)), (.ref w2)])) rfl rfl (hb hby at_458) _ kg_) ?_
  show own_Gl p e below _ (T145.setTop (mkF m 459 #[.val (.long i0), .second, .val (.long i1), .second, .val (.long i2), .second, .val (.ref s0), .val (.ref w2), .val (.int (Int32.ofNat (own_enc [c0.toInt8.toInt32, c1.toInt8.toInt32, c2.toInt8.toInt32, c3.toInt8.toInt32, c4.toInt8.toInt32, c5.toInt8.toInt32, c6.toInt8.toInt32, c7.toInt8.toInt32, c8.toInt8.toInt32, c9.toInt8.toInt32, c10.toInt8.toInt32, c11.toInt8.toInt32, c12.toInt8.toInt32]).length))] [(.int c13), (.int (Int32.ofNat (own_enc [c0.toInt8.toInt32, c1.toInt8.toInt32, c2.toInt8.toInt32, c3.toInt8.toInt32, c4.toInt8.toInt32, c5.toInt8.toInt32, c6.toInt8.toInt32, c7.toInt8.toInt32, c8.toInt8.toInt32, c9.toInt8.toInt32, c10.toInt8.toInt32, c11.toInt8.toInt32, c12.toInt8.toInt32]).length)), (.ref w2)]))
  obtain ⟨_, _, ⟨T148, L148, k148, n148⟩, -, X148, ⟨Lc148, hQ148, l148, y148, z148⟩, st148⟩ := Jvm.LawKit.callS X145 hx (y := (⟨"com/example/highwater/highwater/config/TokenSecretFromTextPinLaw", "step", "([BIC)I"⟩ : MethodName)) hown (mvT hZ (hw _ (List.mem_of_getElem? (i := 112) rfl))) (mvT hZ (hw _ (List.mem_of_getElem? (i := 113) rfl))) (mvT hZ (hw _ (List.mem_of_getElem? (i := 3) rfl))) (mvT hZ (hw _ (List.mem_of_getElem? (i := 114) rfl))) (by decide) (backOf (W := 0) (own_rm_stp l Z a0 hw [] w2 kw2 [c0.toInt8.toInt32, c1.toInt8.toInt32, c2.toInt8.toInt32, c3.toInt8.toInt32, c4.toInt8.toInt32, c5.toInt8.toInt32, c6.toInt8.toInt32, c7.toInt8.toInt32, c8.toInt8.toInt32, c9.toInt8.toInt32, c10.toInt8.toInt32, c11.toInt8.toInt32, c12.toInt8.toInt32, c13.toInt8.toInt32, c14.toInt8.toInt32, c15.toInt8.toInt32, c16.toInt8.toInt32, c17.toInt8.toInt32, c18.toInt8.toInt32, c19.toInt8.toInt32, c20.toInt8.toInt32, c21.toInt8.toInt32, c22.toInt8.toInt32, c23.toInt8.toInt32] [c0.toInt8.toInt32, c1.toInt8.toInt32, c2.toInt8.toInt32, c3.toInt8.toInt32, c4.toInt8.toInt32, c5.toInt8.toInt32, c6.toInt8.toInt32, c7.toInt8.toInt32, c8.toInt8.toInt32, c9.toInt8.toInt32, c10.toInt8.toInt32, c11.toInt8.toInt32, c12.toInt8.toInt32] [c14.toInt8.toInt32, c15.toInt8.toInt32, c16.toInt8.toInt32, c17.toInt8.toInt32, c18.toInt8.toInt32, c19.toInt8.toInt32, c20.toInt8.toInt32, c21.toInt8.toInt32, c22.toInt8.toInt32, c23.toInt8.toInt32] [c0.toInt8.toInt32, c1.toInt8.toInt32, c2.toInt8.toInt32, c3.toInt8.toInt32, c4.toInt8.toInt32, c5.toInt8.toInt32, c6.toInt8.toInt32, c7.toInt8.toInt32, c8.toInt8.toInt32, c9.toInt8.toInt32, c10.toInt8.toInt32, c11.toInt8.toInt32, c12.toInt8.toInt32, c13.toInt8.toInt32] c13 T105.heap n0 (Nat.le_trans Z0 K106.1) rfl rfl V_w2 hc13 h32.2) hZ (hw _ (List.mem_of_getElem? (i := 114) rfl)) (hw _ (List.mem_of_getElem? (i := 3) rfl)) (by decide) (by decide)) (g := (mkF m 459 #[.val (.long i0), .second, .val (.long i1), .second, .val (.long i2), .second, .val (.ref s0), .val (.ref w2), .val (.int (Int32.ofNat (own_enc [c0.toInt8.toInt32, c1.toInt8.toInt32, c2.toInt8.toInt32, c3.toInt8.toInt32, c4.toInt8.toInt32, c5.toInt8.toInt32, c6.toInt8.toInt32, c7.toInt8.toInt32, c8.toInt8.toInt32, c9.toInt8.toInt32, c10.toInt8.toInt32, c11.toInt8.toInt32, c12.toInt8.toInt32]).length))] [(.int c13), (.int (Int32.ofNat (own_enc [c0.toInt8.toInt32, c1.toInt8.toInt32, c2.toInt8.toInt32, c3.toInt8.toInt32, c4.toInt8.toInt32, c5.toInt8.toInt32, c6.toInt8.toInt32, c7.toInt8.toInt32, c8.toInt8.toInt32, c9.toInt8.toInt32, c10.toInt8.toInt32, c11.toInt8.toInt32, c12.toInt8.toInt32]).length)), (.ref w2)])) rfl (by rw [hml]; rfl) (argsL := [(.ref w2), (.int (Int32.ofNat (own_enc [c0.toInt8.toInt32, c1.toInt8.toInt32, c2.toInt8.toInt32, c3.toInt8.toInt32, c4.toInt8.toInt32, c5.toInt8.toInt32, c6.toInt8.toInt32, c7.toInt8.toInt32, c8.toInt8.toInt32, c9.toInt8.toInt32, c10.toInt8.toInt32, c11.toInt8.toInt32, c12.toInt8.toInt32]).length)), (.int c13)]) (rest := []) (lenOf own_pd15 rfl) rfl (by show 2 * 0 + _ ≤ _; exact Nat.le_of_eq rfl) (hb hby at_459) (fun _ _ => ⟨rfl, e145, (by decide : 7 + 0 ≤ _), (by decide : 197 + 0 ≤ _)⟩)
  dsimp only [Pt.U, Pt.locs, Pt.cells, Pt.slots] at X148 l148 y148 z148 st148 hQ148
  obtain rfl : k148 = 7 := y148
  obtain rfl : n148 = 197 := z148
  obtain ⟨rfl, N148q, e148⟩ := hQ148
  have N148 : Fr n0 L148 := by rw [l148]; exact Fr.app N145 N148q
  try clear l148
  refine own_st st148 ?_
  show own_Gl p e below _ (T148.setTop (mkF m 462 #[.val (.long i0), .second, .val (.long i1), .second, .val (.long i2), .second, .val (.ref s0), .val (.ref w2), .val (.int (Int32.ofNat (own_enc [c0.toInt8.toInt32, c1.toInt8.toInt32, c2.toInt8.toInt32, c3.toInt8.toInt32, c4.toInt8.toInt32, c5.toInt8.toInt32, c6.toInt8.toInt32, c7.toInt8.toInt32, c8.toInt8.toInt32, c9.toInt8.toInt32, c10.toInt8.toInt32, c11.toInt8.toInt32, c12.toInt8.toInt32]).length))] [(.int (Int32.ofNat (own_enc [c0.toInt8.toInt32, c1.toInt8.toInt32, c2.toInt8.toInt32, c3.toInt8.toInt32, c4.toInt8.toInt32, c5.toInt8.toInt32, c6.toInt8.toInt32, c7.toInt8.toInt32, c8.toInt8.toInt32, c9.toInt8.toInt32, c10.toInt8.toInt32, c11.toInt8.toInt32, c12.toInt8.toInt32, c13.toInt8.toInt32]).length))]))
  try clear st148
  try clear N148q
  try clear N145
  try clear e145
  try clear X145
  try clear T145
  refine own_st (fun tg_ kg_ => XS.istore X148.here hx rfl (hb hby at_462) rfl (l' := #[.val (.long i0), .second, .val (.long i1), .second, .val (.long i2), .second, .val (.ref s0), .val (.ref w2), .val (.int (Int32.ofNat (own_enc [c0.toInt8.toInt32, c1.toInt8.toInt32, c2.toInt8.toInt32, c3.toInt8.toInt32, c4.toInt8.toInt32, c5.toInt8.toInt32, c6.toInt8.toInt32, c7.toInt8.toInt32, c8.toInt8.toInt32, c9.toInt8.toInt32, c10.toInt8.toInt32, c11.toInt8.toInt32, c12.toInt8.toInt32, c13.toInt8.toInt32]).length))]) rfl kg_) ?_
  show own_Gl p e below _ (T148.setTop (mkF m 464 #[.val (.long i0), .second, .val (.long i1), .second, .val (.long i2), .second, .val (.ref s0), .val (.ref w2), .val (.int (Int32.ofNat (own_enc [c0.toInt8.toInt32, c1.toInt8.toInt32, c2.toInt8.toInt32, c3.toInt8.toInt32, c4.toInt8.toInt32, c5.toInt8.toInt32, c6.toInt8.toInt32, c7.toInt8.toInt32, c8.toInt8.toInt32, c9.toInt8.toInt32, c10.toInt8.toInt32, c11.toInt8.toInt32, c12.toInt8.toInt32, c13.toInt8.toInt32]).length))] []))
  refine own_st (fun tg_ kg_ => XS.aload X148.here hx rfl (hb hby at_464) rfl rfl kg_) ?_
  show own_Gl p e below _ (T148.setTop (mkF m 466 #[.val (.long i0), .second, .val (.long i1), .second, .val (.long i2), .second, .val (.ref s0), .val (.ref w2), .val (.int (Int32.ofNat (own_enc [c0.toInt8.toInt32, c1.toInt8.toInt32, c2.toInt8.toInt32, c3.toInt8.toInt32, c4.toInt8.toInt32, c5.toInt8.toInt32, c6.toInt8.toInt32, c7.toInt8.toInt32, c8.toInt8.toInt32, c9.toInt8.toInt32, c10.toInt8.toInt32, c11.toInt8.toInt32, c12.toInt8.toInt32, c13.toInt8.toInt32]).length))] [(.ref w2)]))
  refine own_st (fun tg_ kg_ => XS.iload X148.here hx rfl (hb hby at_466) rfl kg_) ?_
  show own_Gl p e below _ (T148.setTop (mkF m 468 #[.val (.long i0), .second, .val (.long i1), .second, .val (.long i2), .second, .val (.ref s0), .val (.ref w2), .val (.int (Int32.ofNat (own_enc [c0.toInt8.toInt32, c1.toInt8.toInt32, c2.toInt8.toInt32, c3.toInt8.toInt32, c4.toInt8.toInt32, c5.toInt8.toInt32, c6.toInt8.toInt32, c7.toInt8.toInt32, c8.toInt8.toInt32, c9.toInt8.toInt32, c10.toInt8.toInt32, c11.toInt8.toInt32, c12.toInt8.toInt32, c13.toInt8.toInt32]).length))] [(.int (Int32.ofNat (own_enc [c0.toInt8.toInt32, c1.toInt8.toInt32, c2.toInt8.toInt32, c3.toInt8.toInt32, c4.toInt8.toInt32, c5.toInt8.toInt32, c6.toInt8.toInt32, c7.toInt8.toInt32, c8.toInt8.toInt32, c9.toInt8.toInt32, c10.toInt8.toInt32, c11.toInt8.toInt32, c12.toInt8.toInt32, c13.toInt8.toInt32]).length)), (.ref w2)]))
  refine own_st (fun tg_ kg_ => XS.aload X148.here hx rfl (hb hby at_468) rfl rfl kg_) ?_
  show own_Gl p e below _ (T148.setTop (mkF m 470 #[.val (.long i0), .second, .val (.long i1), .second, .val (.long i2), .second, .val (.ref s0), .val (.ref w2), .val (.int (Int32.ofNat (own_enc [c0.toInt8.toInt32, c1.toInt8.toInt32, c2.toInt8.toInt32, c3.toInt8.toInt32, c4.toInt8.toInt32, c5.toInt8.toInt32, c6.toInt8.toInt32, c7.toInt8.toInt32, c8.toInt8.toInt32, c9.toInt8.toInt32, c10.toInt8.toInt32, c11.toInt8.toInt32, c12.toInt8.toInt32, c13.toInt8.toInt32]).length))] [(.ref s0), (.int (Int32.ofNat (own_enc [c0.toInt8.toInt32, c1.toInt8.toInt32, c2.toInt8.toInt32, c3.toInt8.toInt32, c4.toInt8.toInt32, c5.toInt8.toInt32, c6.toInt8.toInt32, c7.toInt8.toInt32, c8.toInt8.toInt32, c9.toInt8.toInt32, c10.toInt8.toInt32, c11.toInt8.toInt32, c12.toInt8.toInt32, c13.toInt8.toInt32]).length)), (.ref w2)]))
  refine own_st (fun tg_ kg_ => XS.bipush X148.here hx rfl (hb hby at_470) kg_) ?_
  show own_Gl p e below _ (T148.setTop (mkF m 472 #[.val (.long i0), .second, .val (.long i1), .second, .val (.long i2), .second, .val (.ref s0), .val (.ref w2), .val (.int (Int32.ofNat (own_enc [c0.toInt8.toInt32, c1.toInt8.toInt32, c2.toInt8.toInt32, c3.toInt8.toInt32, c4.toInt8.toInt32, c5.toInt8.toInt32, c6.toInt8.toInt32, c7.toInt8.toInt32, c8.toInt8.toInt32, c9.toInt8.toInt32, c10.toInt8.toInt32, c11.toInt8.toInt32, c12.toInt8.toInt32, c13.toInt8.toInt32]).length))] [(.int (14 : Int32)), (.ref s0), (.int (Int32.ofNat (own_enc [c0.toInt8.toInt32, c1.toInt8.toInt32, c2.toInt8.toInt32, c3.toInt8.toInt32, c4.toInt8.toInt32, c5.toInt8.toInt32, c6.toInt8.toInt32, c7.toInt8.toInt32, c8.toInt8.toInt32, c9.toInt8.toInt32, c10.toInt8.toInt32, c11.toInt8.toInt32, c12.toInt8.toInt32, c13.toInt8.toInt32]).length)), (.ref w2)]))
  obtain ⟨cl149, Ar149, qa149, Sa149, Na149, Ha149, Ga149⟩ := id V_s0
  have hin150 : ¬ ((14 : Int32) < 0 ∨ cl149.slots.size ≤ ((14 : Int32)).toNatClampNeg) := inb_of Sa149 ⟨by decide, by decide⟩
  have hat150 : cl149.slots[((14 : Int32)).toNatClampNeg]? = some (.int c14) := Has.at Ha149 hin150 rfl
  refine own_st (fun tg_ kg_ => X148.caload hx (j := (14 : Int32)) (v := (.int c14)) (by rw [e148]; exact Ar149.1) (State.isArrayOf_alike hZ.alike Ar149.2.1) Ar149.2.2 hin150 hat150 (g := (mkF m 472 #[.val (.long i0), .second, .val (.long i1), .second, .val (.long i2), .second, .val (.ref s0), .val (.ref w2), .val (.int (Int32.ofNat (own_enc [c0.toInt8.toInt32, c1.toInt8.toInt32, c2.toInt8.toInt32, c3.toInt8.toInt32, c4.toInt8.toInt32, c5.toInt8.toInt32, c6.toInt8.toInt32, c7.toInt8.toInt32, c8.toInt8.toInt32, c9.toInt8.toInt32, c10.toInt8.toInt32, c11.toInt8.toInt32, c12.toInt8.toInt32, c13.toInt8.toInt32]).length))] [(.int (14 : Int32)), (.ref s0), (.int (Int32.ofNat (own_enc [c0.toInt8.toInt32, c1.toInt8.toInt32, c2.toInt8.toInt32, c3.toInt8.toInt32, c4.toInt8.toInt32, c5.toInt8.toInt32, c6.toInt8.toInt32, c7.toInt8.toInt32, c8.toInt8.toInt32, c9.toInt8.toInt32, c10.toInt8.toInt32, c11.toInt8.toInt32, c12.toInt8.toInt32, c13.toInt8.toInt32]).length)), (.ref w2)])) rfl rfl (hb hby at_472) _ kg_) ?_
  show own_Gl p e below _ (T148.setTop (mkF m 473 #[.val (.long i0), .second, .val (.long i1), .second, .val (.long i2), .second, .val (.ref s0), .val (.ref w2), .val (.int (Int32.ofNat (own_enc [c0.toInt8.toInt32, c1.toInt8.toInt32, c2.toInt8.toInt32, c3.toInt8.toInt32, c4.toInt8.toInt32, c5.toInt8.toInt32, c6.toInt8.toInt32, c7.toInt8.toInt32, c8.toInt8.toInt32, c9.toInt8.toInt32, c10.toInt8.toInt32, c11.toInt8.toInt32, c12.toInt8.toInt32, c13.toInt8.toInt32]).length))] [(.int c14), (.int (Int32.ofNat (own_enc [c0.toInt8.toInt32, c1.toInt8.toInt32, c2.toInt8.toInt32, c3.toInt8.toInt32, c4.toInt8.toInt32, c5.toInt8.toInt32, c6.toInt8.toInt32, c7.toInt8.toInt32, c8.toInt8.toInt32, c9.toInt8.toInt32, c10.toInt8.toInt32, c11.toInt8.toInt32, c12.toInt8.toInt32, c13.toInt8.toInt32]).length)), (.ref w2)]))
  obtain ⟨_, _, ⟨T151, L151, k151, n151⟩, -, X151, ⟨Lc151, hQ151, l151, y151, z151⟩, st151⟩ := Jvm.LawKit.callS X148 hx (y := (⟨"com/example/highwater/highwater/config/TokenSecretFromTextPinLaw", "step", "([BIC)I"⟩ : MethodName)) hown (mvT hZ (hw _ (List.mem_of_getElem? (i := 112) rfl))) (mvT hZ (hw _ (List.mem_of_getElem? (i := 113) rfl))) (mvT hZ (hw _ (List.mem_of_getElem? (i := 3) rfl))) (mvT hZ (hw _ (List.mem_of_getElem? (i := 114) rfl))) (by decide) (backOf (W := 0) (own_rm_stp l Z a0 hw [] w2 kw2 [c0.toInt8.toInt32, c1.toInt8.toInt32, c2.toInt8.toInt32, c3.toInt8.toInt32, c4.toInt8.toInt32, c5.toInt8.toInt32, c6.toInt8.toInt32, c7.toInt8.toInt32, c8.toInt8.toInt32, c9.toInt8.toInt32, c10.toInt8.toInt32, c11.toInt8.toInt32, c12.toInt8.toInt32, c13.toInt8.toInt32, c14.toInt8.toInt32, c15.toInt8.toInt32, c16.toInt8.toInt32, c17.toInt8.toInt32, c18.toInt8.toInt32, c19.toInt8.toInt32, c20.toInt8.toInt32, c21.toInt8.toInt32, c22.toInt8.toInt32, c23.toInt8.toInt32] [c0.toInt8.toInt32, c1.toInt8.toInt32, c2.toInt8.toInt32, c3.toInt8.toInt32, c4.toInt8.toInt32, c5.toInt8.toInt32, c6.toInt8.toInt32, c7.toInt8.toInt32, c8.toInt8.toInt32, c9.toInt8.toInt32, c10.toInt8.toInt32, c11.toInt8.toInt32, c12.toInt8.toInt32, c13.toInt8.toInt32] [c15.toInt8.toInt32, c16.toInt8.toInt32, c17.toInt8.toInt32, c18.toInt8.toInt32, c19.toInt8.toInt32, c20.toInt8.toInt32, c21.toInt8.toInt32, c22.toInt8.toInt32, c23.toInt8.toInt32] [c0.toInt8.toInt32, c1.toInt8.toInt32, c2.toInt8.toInt32, c3.toInt8.toInt32, c4.toInt8.toInt32, c5.toInt8.toInt32, c6.toInt8.toInt32, c7.toInt8.toInt32, c8.toInt8.toInt32, c9.toInt8.toInt32, c10.toInt8.toInt32, c11.toInt8.toInt32, c12.toInt8.toInt32, c13.toInt8.toInt32, c14.toInt8.toInt32] c14 T105.heap n0 (Nat.le_trans Z0 K106.1) rfl rfl V_w2 hc14 h32.2) hZ (hw _ (List.mem_of_getElem? (i := 114) rfl)) (hw _ (List.mem_of_getElem? (i := 3) rfl)) (by decide) (by decide)) (g := (mkF m 473 #[.val (.long i0), .second, .val (.long i1), .second, .val (.long i2), .second, .val (.ref s0), .val (.ref w2), .val (.int (Int32.ofNat (own_enc [c0.toInt8.toInt32, c1.toInt8.toInt32, c2.toInt8.toInt32, c3.toInt8.toInt32, c4.toInt8.toInt32, c5.toInt8.toInt32, c6.toInt8.toInt32, c7.toInt8.toInt32, c8.toInt8.toInt32, c9.toInt8.toInt32, c10.toInt8.toInt32, c11.toInt8.toInt32, c12.toInt8.toInt32, c13.toInt8.toInt32]).length))] [(.int c14), (.int (Int32.ofNat (own_enc [c0.toInt8.toInt32, c1.toInt8.toInt32, c2.toInt8.toInt32, c3.toInt8.toInt32, c4.toInt8.toInt32, c5.toInt8.toInt32, c6.toInt8.toInt32, c7.toInt8.toInt32, c8.toInt8.toInt32, c9.toInt8.toInt32, c10.toInt8.toInt32, c11.toInt8.toInt32, c12.toInt8.toInt32, c13.toInt8.toInt32]).length)), (.ref w2)])) rfl (by rw [hml]; rfl) (argsL := [(.ref w2), (.int (Int32.ofNat (own_enc [c0.toInt8.toInt32, c1.toInt8.toInt32, c2.toInt8.toInt32, c3.toInt8.toInt32, c4.toInt8.toInt32, c5.toInt8.toInt32, c6.toInt8.toInt32, c7.toInt8.toInt32, c8.toInt8.toInt32, c9.toInt8.toInt32, c10.toInt8.toInt32, c11.toInt8.toInt32, c12.toInt8.toInt32, c13.toInt8.toInt32]).length)), (.int c14)]) (rest := []) (lenOf own_pd15 rfl) rfl (by show 2 * 0 + _ ≤ _; exact Nat.le_of_eq rfl) (hb hby at_473) (fun _ _ => ⟨rfl, e148, (by decide : 7 + 0 ≤ _), (by decide : 197 + 0 ≤ _)⟩)
  dsimp only [Pt.U, Pt.locs, Pt.cells, Pt.slots] at X151 l151 y151 z151 st151 hQ151
  obtain rfl : k151 = 7 := y151
  obtain rfl : n151 = 197 := z151
  obtain ⟨rfl, N151q, e151⟩ := hQ151
  have N151 : Fr n0 L151 := by rw [l151]; exact Fr.app N148 N151q
  try clear l151
  refine own_st st151 ?_
  show own_Gl p e below _ (T151.setTop (mkF m 476 #[.val (.long i0), .second, .val (.long i1), .second, .val (.long i2), .second, .val (.ref s0), .val (.ref w2), .val (.int (Int32.ofNat (own_enc [c0.toInt8.toInt32, c1.toInt8.toInt32, c2.toInt8.toInt32, c3.toInt8.toInt32, c4.toInt8.toInt32, c5.toInt8.toInt32, c6.toInt8.toInt32, c7.toInt8.toInt32, c8.toInt8.toInt32, c9.toInt8.toInt32, c10.toInt8.toInt32, c11.toInt8.toInt32, c12.toInt8.toInt32, c13.toInt8.toInt32]).length))] [(.int (Int32.ofNat (own_enc [c0.toInt8.toInt32, c1.toInt8.toInt32, c2.toInt8.toInt32, c3.toInt8.toInt32, c4.toInt8.toInt32, c5.toInt8.toInt32, c6.toInt8.toInt32, c7.toInt8.toInt32, c8.toInt8.toInt32, c9.toInt8.toInt32, c10.toInt8.toInt32, c11.toInt8.toInt32, c12.toInt8.toInt32, c13.toInt8.toInt32, c14.toInt8.toInt32]).length))]))
  try clear st151
  try clear N151q
  try clear N148
  try clear e148
  try clear X148
  try clear T148
  refine own_st (fun tg_ kg_ => XS.istore X151.here hx rfl (hb hby at_476) rfl (l' := #[.val (.long i0), .second, .val (.long i1), .second, .val (.long i2), .second, .val (.ref s0), .val (.ref w2), .val (.int (Int32.ofNat (own_enc [c0.toInt8.toInt32, c1.toInt8.toInt32, c2.toInt8.toInt32, c3.toInt8.toInt32, c4.toInt8.toInt32, c5.toInt8.toInt32, c6.toInt8.toInt32, c7.toInt8.toInt32, c8.toInt8.toInt32, c9.toInt8.toInt32, c10.toInt8.toInt32, c11.toInt8.toInt32, c12.toInt8.toInt32, c13.toInt8.toInt32, c14.toInt8.toInt32]).length))]) rfl kg_) ?_
  show own_Gl p e below _ (T151.setTop (mkF m 478 #[.val (.long i0), .second, .val (.long i1), .second, .val (.long i2), .second, .val (.ref s0), .val (.ref w2), .val (.int (Int32.ofNat (own_enc [c0.toInt8.toInt32, c1.toInt8.toInt32, c2.toInt8.toInt32, c3.toInt8.toInt32, c4.toInt8.toInt32, c5.toInt8.toInt32, c6.toInt8.toInt32, c7.toInt8.toInt32, c8.toInt8.toInt32, c9.toInt8.toInt32, c10.toInt8.toInt32, c11.toInt8.toInt32, c12.toInt8.toInt32, c13.toInt8.toInt32, c14.toInt8.toInt32]).length))] []))
  refine own_st (fun tg_ kg_ => XS.aload X151.here hx rfl (hb hby at_478) rfl rfl kg_) ?_
  show own_Gl p e below _ (T151.setTop (mkF m 480 #[.val (.long i0), .second, .val (.long i1), .second, .val (.long i2), .second, .val (.ref s0), .val (.ref w2), .val (.int (Int32.ofNat (own_enc [c0.toInt8.toInt32, c1.toInt8.toInt32, c2.toInt8.toInt32, c3.toInt8.toInt32, c4.toInt8.toInt32, c5.toInt8.toInt32, c6.toInt8.toInt32, c7.toInt8.toInt32, c8.toInt8.toInt32, c9.toInt8.toInt32, c10.toInt8.toInt32, c11.toInt8.toInt32, c12.toInt8.toInt32, c13.toInt8.toInt32, c14.toInt8.toInt32]).length))] [(.ref w2)]))
  refine own_st (fun tg_ kg_ => XS.iload X151.here hx rfl (hb hby at_480) rfl kg_) ?_
  show own_Gl p e below _ (T151.setTop (mkF m 482 #[.val (.long i0), .second, .val (.long i1), .second, .val (.long i2), .second, .val (.ref s0), .val (.ref w2), .val (.int (Int32.ofNat (own_enc [c0.toInt8.toInt32, c1.toInt8.toInt32, c2.toInt8.toInt32, c3.toInt8.toInt32, c4.toInt8.toInt32, c5.toInt8.toInt32, c6.toInt8.toInt32, c7.toInt8.toInt32, c8.toInt8.toInt32, c9.toInt8.toInt32, c10.toInt8.toInt32, c11.toInt8.toInt32, c12.toInt8.toInt32, c13.toInt8.toInt32, c14.toInt8.toInt32]).length))] [(.int (Int32.ofNat (own_enc [c0.toInt8.toInt32, c1.toInt8.toInt32, c2.toInt8.toInt32, c3.toInt8.toInt32, c4.toInt8.toInt32, c5.toInt8.toInt32, c6.toInt8.toInt32, c7.toInt8.toInt32, c8.toInt8.toInt32, c9.toInt8.toInt32, c10.toInt8.toInt32, c11.toInt8.toInt32, c12.toInt8.toInt32, c13.toInt8.toInt32, c14.toInt8.toInt32]).length)), (.ref w2)]))
  refine own_st (fun tg_ kg_ => XS.aload X151.here hx rfl (hb hby at_482) rfl rfl kg_) ?_
  show own_Gl p e below _ (T151.setTop (mkF m 484 #[.val (.long i0), .second, .val (.long i1), .second, .val (.long i2), .second, .val (.ref s0), .val (.ref w2), .val (.int (Int32.ofNat (own_enc [c0.toInt8.toInt32, c1.toInt8.toInt32, c2.toInt8.toInt32, c3.toInt8.toInt32, c4.toInt8.toInt32, c5.toInt8.toInt32, c6.toInt8.toInt32, c7.toInt8.toInt32, c8.toInt8.toInt32, c9.toInt8.toInt32, c10.toInt8.toInt32, c11.toInt8.toInt32, c12.toInt8.toInt32, c13.toInt8.toInt32, c14.toInt8.toInt32]).length))] [(.ref s0), (.int (Int32.ofNat (own_enc [c0.toInt8.toInt32, c1.toInt8.toInt32, c2.toInt8.toInt32, c3.toInt8.toInt32, c4.toInt8.toInt32, c5.toInt8.toInt32, c6.toInt8.toInt32, c7.toInt8.toInt32, c8.toInt8.toInt32, c9.toInt8.toInt32, c10.toInt8.toInt32, c11.toInt8.toInt32, c12.toInt8.toInt32, c13.toInt8.toInt32, c14.toInt8.toInt32]).length)), (.ref w2)]))
  refine own_st (fun tg_ kg_ => XS.bipush X151.here hx rfl (hb hby at_484) kg_) ?_
  show own_Gl p e below _ (T151.setTop (mkF m 486 #[.val (.long i0), .second, .val (.long i1), .second, .val (.long i2), .second, .val (.ref s0), .val (.ref w2), .val (.int (Int32.ofNat (own_enc [c0.toInt8.toInt32, c1.toInt8.toInt32, c2.toInt8.toInt32, c3.toInt8.toInt32, c4.toInt8.toInt32, c5.toInt8.toInt32, c6.toInt8.toInt32, c7.toInt8.toInt32, c8.toInt8.toInt32, c9.toInt8.toInt32, c10.toInt8.toInt32, c11.toInt8.toInt32, c12.toInt8.toInt32, c13.toInt8.toInt32, c14.toInt8.toInt32]).length))] [(.int (15 : Int32)), (.ref s0), (.int (Int32.ofNat (own_enc [c0.toInt8.toInt32, c1.toInt8.toInt32, c2.toInt8.toInt32, c3.toInt8.toInt32, c4.toInt8.toInt32, c5.toInt8.toInt32, c6.toInt8.toInt32, c7.toInt8.toInt32, c8.toInt8.toInt32, c9.toInt8.toInt32, c10.toInt8.toInt32, c11.toInt8.toInt32, c12.toInt8.toInt32, c13.toInt8.toInt32, c14.toInt8.toInt32]).length)), (.ref w2)]))
  obtain ⟨cl152, Ar152, qa152, Sa152, Na152, Ha152, Ga152⟩ := id V_s0
  have hin153 : ¬ ((15 : Int32) < 0 ∨ cl152.slots.size ≤ ((15 : Int32)).toNatClampNeg) := inb_of Sa152 ⟨by decide, by decide⟩
  have hat153 : cl152.slots[((15 : Int32)).toNatClampNeg]? = some (.int c15) := Has.at Ha152 hin153 rfl
  refine own_st (fun tg_ kg_ => X151.caload hx (j := (15 : Int32)) (v := (.int c15)) (by rw [e151]; exact Ar152.1) (State.isArrayOf_alike hZ.alike Ar152.2.1) Ar152.2.2 hin153 hat153 (g := (mkF m 486 #[.val (.long i0), .second, .val (.long i1), .second, .val (.long i2), .second, .val (.ref s0), .val (.ref w2), .val (.int (Int32.ofNat (own_enc [c0.toInt8.toInt32, c1.toInt8.toInt32, c2.toInt8.toInt32, c3.toInt8.toInt32, c4.toInt8.toInt32, c5.toInt8.toInt32, c6.toInt8.toInt32, c7.toInt8.toInt32, c8.toInt8.toInt32, c9.toInt8.toInt32, c10.toInt8.toInt32, c11.toInt8.toInt32, c12.toInt8.toInt32, c13.toInt8.toInt32, c14.toInt8.toInt32]).length))] [(.int (15 : Int32)), (.ref s0), (.int (Int32.ofNat (own_enc [c0.toInt8.toInt32, c1.toInt8.toInt32, c2.toInt8.toInt32, c3.toInt8.toInt32, c4.toInt8.toInt32, c5.toInt8.toInt32, c6.toInt8.toInt32, c7.toInt8.toInt32, c8.toInt8.toInt32, c9.toInt8.toInt32, c10.toInt8.toInt32, c11.toInt8.toInt32, c12.toInt8.toInt32, c13.toInt8.toInt32, c14.toInt8.toInt32]).length)), (.ref w2)])) rfl rfl (hb hby at_486) _ kg_) ?_
  show own_Gl p e below _ (T151.setTop (mkF m 487 #[.val (.long i0), .second, .val (.long i1), .second, .val (.long i2), .second, .val (.ref s0), .val (.ref w2), .val (.int (Int32.ofNat (own_enc [c0.toInt8.toInt32, c1.toInt8.toInt32, c2.toInt8.toInt32, c3.toInt8.toInt32, c4.toInt8.toInt32, c5.toInt8.toInt32, c6.toInt8.toInt32, c7.toInt8.toInt32, c8.toInt8.toInt32, c9.toInt8.toInt32, c10.toInt8.toInt32, c11.toInt8.toInt32, c12.toInt8.toInt32, c13.toInt8.toInt32, c14.toInt8.toInt32]).length))] [(.int c15), (.int (Int32.ofNat (own_enc [c0.toInt8.toInt32, c1.toInt8.toInt32, c2.toInt8.toInt32, c3.toInt8.toInt32, c4.toInt8.toInt32, c5.toInt8.toInt32, c6.toInt8.toInt32, c7.toInt8.toInt32, c8.toInt8.toInt32, c9.toInt8.toInt32, c10.toInt8.toInt32, c11.toInt8.toInt32, c12.toInt8.toInt32, c13.toInt8.toInt32, c14.toInt8.toInt32]).length)), (.ref w2)]))
  obtain ⟨_, _, ⟨T154, L154, k154, n154⟩, -, X154, ⟨Lc154, hQ154, l154, y154, z154⟩, st154⟩ := Jvm.LawKit.callS X151 hx (y := (⟨"com/example/highwater/highwater/config/TokenSecretFromTextPinLaw", "step", "([BIC)I"⟩ : MethodName)) hown (mvT hZ (hw _ (List.mem_of_getElem? (i := 112) rfl))) (mvT hZ (hw _ (List.mem_of_getElem? (i := 113) rfl))) (mvT hZ (hw _ (List.mem_of_getElem? (i := 3) rfl))) (mvT hZ (hw _ (List.mem_of_getElem? (i := 114) rfl))) (by decide) (backOf (W := 0) (own_rm_stp l Z a0 hw [] w2 kw2 [c0.toInt8.toInt32, c1.toInt8.toInt32, c2.toInt8.toInt32, c3.toInt8.toInt32, c4.toInt8.toInt32, c5.toInt8.toInt32, c6.toInt8.toInt32, c7.toInt8.toInt32, c8.toInt8.toInt32, c9.toInt8.toInt32, c10.toInt8.toInt32, c11.toInt8.toInt32, c12.toInt8.toInt32, c13.toInt8.toInt32, c14.toInt8.toInt32, c15.toInt8.toInt32, c16.toInt8.toInt32, c17.toInt8.toInt32, c18.toInt8.toInt32, c19.toInt8.toInt32, c20.toInt8.toInt32, c21.toInt8.toInt32, c22.toInt8.toInt32, c23.toInt8.toInt32] [c0.toInt8.toInt32, c1.toInt8.toInt32, c2.toInt8.toInt32, c3.toInt8.toInt32, c4.toInt8.toInt32, c5.toInt8.toInt32, c6.toInt8.toInt32, c7.toInt8.toInt32, c8.toInt8.toInt32, c9.toInt8.toInt32, c10.toInt8.toInt32, c11.toInt8.toInt32, c12.toInt8.toInt32, c13.toInt8.toInt32, c14.toInt8.toInt32] [c16.toInt8.toInt32, c17.toInt8.toInt32, c18.toInt8.toInt32, c19.toInt8.toInt32, c20.toInt8.toInt32, c21.toInt8.toInt32, c22.toInt8.toInt32, c23.toInt8.toInt32] [c0.toInt8.toInt32, c1.toInt8.toInt32, c2.toInt8.toInt32, c3.toInt8.toInt32, c4.toInt8.toInt32, c5.toInt8.toInt32, c6.toInt8.toInt32, c7.toInt8.toInt32, c8.toInt8.toInt32, c9.toInt8.toInt32, c10.toInt8.toInt32, c11.toInt8.toInt32, c12.toInt8.toInt32, c13.toInt8.toInt32, c14.toInt8.toInt32, c15.toInt8.toInt32] c15 T105.heap n0 (Nat.le_trans Z0 K106.1) rfl rfl V_w2 hc15 h32.2) hZ (hw _ (List.mem_of_getElem? (i := 114) rfl)) (hw _ (List.mem_of_getElem? (i := 3) rfl)) (by decide) (by decide)) (g := (mkF m 487 #[.val (.long i0), .second, .val (.long i1), .second, .val (.long i2), .second, .val (.ref s0), .val (.ref w2), .val (.int (Int32.ofNat (own_enc [c0.toInt8.toInt32, c1.toInt8.toInt32, c2.toInt8.toInt32, c3.toInt8.toInt32, c4.toInt8.toInt32, c5.toInt8.toInt32, c6.toInt8.toInt32, c7.toInt8.toInt32, c8.toInt8.toInt32, c9.toInt8.toInt32, c10.toInt8.toInt32, c11.toInt8.toInt32, c12.toInt8.toInt32, c13.toInt8.toInt32, c14.toInt8.toInt32]).length))] [(.int c15), (.int (Int32.ofNat (own_enc [c0.toInt8.toInt32, c1.toInt8.toInt32, c2.toInt8.toInt32, c3.toInt8.toInt32, c4.toInt8.toInt32, c5.toInt8.toInt32, c6.toInt8.toInt32, c7.toInt8.toInt32, c8.toInt8.toInt32, c9.toInt8.toInt32, c10.toInt8.toInt32, c11.toInt8.toInt32, c12.toInt8.toInt32, c13.toInt8.toInt32, c14.toInt8.toInt32]).length)), (.ref w2)])) rfl (by rw [hml]; rfl) (argsL := [(.ref w2), (.int (Int32.ofNat (own_enc [c0.toInt8.toInt32, c1.toInt8.toInt32, c2.toInt8.toInt32, c3.toInt8.toInt32, c4.toInt8.toInt32, c5.toInt8.toInt32, c6.toInt8.toInt32, c7.toInt8.toInt32, c8.toInt8.toInt32, c9.toInt8.toInt32, c10.toInt8.toInt32, c11.toInt8.toInt32, c12.toInt8.toInt32, c13.toInt8.toInt32, c14.toInt8.toInt32]).length)), (.int c15)]) (rest := []) (lenOf own_pd15 rfl) rfl (by show 2 * 0 + _ ≤ _; exact Nat.le_of_eq rfl) (hb hby at_487) (fun _ _ => ⟨rfl, e151, (by decide : 7 + 0 ≤ _), (by decide : 197 + 0 ≤ _)⟩)
  dsimp only [Pt.U, Pt.locs, Pt.cells, Pt.slots] at X154 l154 y154 z154 st154 hQ154
  obtain rfl : k154 = 7 := y154
  obtain rfl : n154 = 197 := z154
  obtain ⟨rfl, N154q, e154⟩ := hQ154
  have N154 : Fr n0 L154 := by rw [l154]; exact Fr.app N151 N154q
  try clear l154
  refine own_st st154 ?_
  show own_Gl p e below _ (T154.setTop (mkF m 490 #[.val (.long i0), .second, .val (.long i1), .second, .val (.long i2), .second, .val (.ref s0), .val (.ref w2), .val (.int (Int32.ofNat (own_enc [c0.toInt8.toInt32, c1.toInt8.toInt32, c2.toInt8.toInt32, c3.toInt8.toInt32, c4.toInt8.toInt32, c5.toInt8.toInt32, c6.toInt8.toInt32, c7.toInt8.toInt32, c8.toInt8.toInt32, c9.toInt8.toInt32, c10.toInt8.toInt32, c11.toInt8.toInt32, c12.toInt8.toInt32, c13.toInt8.toInt32, c14.toInt8.toInt32]).length))] [(.int (Int32.ofNat (own_enc [c0.toInt8.toInt32, c1.toInt8.toInt32, c2.toInt8.toInt32, c3.toInt8.toInt32, c4.toInt8.toInt32, c5.toInt8.toInt32, c6.toInt8.toInt32, c7.toInt8.toInt32, c8.toInt8.toInt32, c9.toInt8.toInt32, c10.toInt8.toInt32, c11.toInt8.toInt32, c12.toInt8.toInt32, c13.toInt8.toInt32, c14.toInt8.toInt32, c15.toInt8.toInt32]).length))]))
  try clear st154
  try clear N154q
  try clear N151
  try clear e151
  try clear X151
  try clear T151
  refine own_st (fun tg_ kg_ => XS.istore X154.here hx rfl (hb hby at_490) rfl (l' := #[.val (.long i0), .second, .val (.long i1), .second, .val (.long i2), .second, .val (.ref s0), .val (.ref w2), .val (.int (Int32.ofNat (own_enc [c0.toInt8.toInt32, c1.toInt8.toInt32, c2.toInt8.toInt32, c3.toInt8.toInt32, c4.toInt8.toInt32, c5.toInt8.toInt32, c6.toInt8.toInt32, c7.toInt8.toInt32, c8.toInt8.toInt32, c9.toInt8.toInt32, c10.toInt8.toInt32, c11.toInt8.toInt32, c12.toInt8.toInt32, c13.toInt8.toInt32, c14.toInt8.toInt32, c15.toInt8.toInt32]).length))]) rfl kg_) ?_
  show own_Gl p e below _ (T154.setTop (mkF m 492 #[.val (.long i0), .second, .val (.long i1), .second, .val (.long i2), .second, .val (.ref s0), .val (.ref w2), .val (.int (Int32.ofNat (own_enc [c0.toInt8.toInt32, c1.toInt8.toInt32, c2.toInt8.toInt32, c3.toInt8.toInt32, c4.toInt8.toInt32, c5.toInt8.toInt32, c6.toInt8.toInt32, c7.toInt8.toInt32, c8.toInt8.toInt32, c9.toInt8.toInt32, c10.toInt8.toInt32, c11.toInt8.toInt32, c12.toInt8.toInt32, c13.toInt8.toInt32, c14.toInt8.toInt32, c15.toInt8.toInt32]).length))] []))
  refine own_st (fun tg_ kg_ => XS.aload X154.here hx rfl (hb hby at_492) rfl rfl kg_) ?_
  show own_Gl p e below _ (T154.setTop (mkF m 494 #[.val (.long i0), .second, .val (.long i1), .second, .val (.long i2), .second, .val (.ref s0), .val (.ref w2), .val (.int (Int32.ofNat (own_enc [c0.toInt8.toInt32, c1.toInt8.toInt32, c2.toInt8.toInt32, c3.toInt8.toInt32, c4.toInt8.toInt32, c5.toInt8.toInt32, c6.toInt8.toInt32, c7.toInt8.toInt32, c8.toInt8.toInt32, c9.toInt8.toInt32, c10.toInt8.toInt32, c11.toInt8.toInt32, c12.toInt8.toInt32, c13.toInt8.toInt32, c14.toInt8.toInt32, c15.toInt8.toInt32]).length))] [(.ref w2)]))
  refine own_st (fun tg_ kg_ => XS.iload X154.here hx rfl (hb hby at_494) rfl kg_) ?_
  show own_Gl p e below _ (T154.setTop (mkF m 496 #[.val (.long i0), .second, .val (.long i1), .second, .val (.long i2), .second, .val (.ref s0), .val (.ref w2), .val (.int (Int32.ofNat (own_enc [c0.toInt8.toInt32, c1.toInt8.toInt32, c2.toInt8.toInt32, c3.toInt8.toInt32, c4.toInt8.toInt32, c5.toInt8.toInt32, c6.toInt8.toInt32, c7.toInt8.toInt32, c8.toInt8.toInt32, c9.toInt8.toInt32, c10.toInt8.toInt32, c11.toInt8.toInt32, c12.toInt8.toInt32, c13.toInt8.toInt32, c14.toInt8.toInt32, c15.toInt8.toInt32]).length))] [(.int (Int32.ofNat (own_enc [c0.toInt8.toInt32, c1.toInt8.toInt32, c2.toInt8.toInt32, c3.toInt8.toInt32, c4.toInt8.toInt32, c5.toInt8.toInt32, c6.toInt8.toInt32, c7.toInt8.toInt32, c8.toInt8.toInt32, c9.toInt8.toInt32, c10.toInt8.toInt32, c11.toInt8.toInt32, c12.toInt8.toInt32, c13.toInt8.toInt32, c14.toInt8.toInt32, c15.toInt8.toInt32]).length)), (.ref w2)]))
  refine own_st (fun tg_ kg_ => XS.aload X154.here hx rfl (hb hby at_496) rfl rfl kg_) ?_
  show own_Gl p e below _ (T154.setTop (mkF m 498 #[.val (.long i0), .second, .val (.long i1), .second, .val (.long i2), .second, .val (.ref s0), .val (.ref w2), .val (.int (Int32.ofNat (own_enc [c0.toInt8.toInt32, c1.toInt8.toInt32, c2.toInt8.toInt32, c3.toInt8.toInt32, c4.toInt8.toInt32, c5.toInt8.toInt32, c6.toInt8.toInt32, c7.toInt8.toInt32, c8.toInt8.toInt32, c9.toInt8.toInt32, c10.toInt8.toInt32, c11.toInt8.toInt32, c12.toInt8.toInt32, c13.toInt8.toInt32, c14.toInt8.toInt32, c15.toInt8.toInt32]).length))] [(.ref s0), (.int (Int32.ofNat (own_enc [c0.toInt8.toInt32, c1.toInt8.toInt32, c2.toInt8.toInt32, c3.toInt8.toInt32, c4.toInt8.toInt32, c5.toInt8.toInt32, c6.toInt8.toInt32, c7.toInt8.toInt32, c8.toInt8.toInt32, c9.toInt8.toInt32, c10.toInt8.toInt32, c11.toInt8.toInt32, c12.toInt8.toInt32, c13.toInt8.toInt32, c14.toInt8.toInt32, c15.toInt8.toInt32]).length)), (.ref w2)]))
  refine own_st (fun tg_ kg_ => XS.bipush X154.here hx rfl (hb hby at_498) kg_) ?_
  show own_Gl p e below _ (T154.setTop (mkF m 500 #[.val (.long i0), .second, .val (.long i1), .second, .val (.long i2), .second, .val (.ref s0), .val (.ref w2), .val (.int (Int32.ofNat (own_enc [c0.toInt8.toInt32, c1.toInt8.toInt32, c2.toInt8.toInt32, c3.toInt8.toInt32, c4.toInt8.toInt32, c5.toInt8.toInt32, c6.toInt8.toInt32, c7.toInt8.toInt32, c8.toInt8.toInt32, c9.toInt8.toInt32, c10.toInt8.toInt32, c11.toInt8.toInt32, c12.toInt8.toInt32, c13.toInt8.toInt32, c14.toInt8.toInt32, c15.toInt8.toInt32]).length))] [(.int (16 : Int32)), (.ref s0), (.int (Int32.ofNat (own_enc [c0.toInt8.toInt32, c1.toInt8.toInt32, c2.toInt8.toInt32, c3.toInt8.toInt32, c4.toInt8.toInt32, c5.toInt8.toInt32, c6.toInt8.toInt32, c7.toInt8.toInt32, c8.toInt8.toInt32, c9.toInt8.toInt32, c10.toInt8.toInt32, c11.toInt8.toInt32, c12.toInt8.toInt32, c13.toInt8.toInt32, c14.toInt8.toInt32, c15.toInt8.toInt32]).length)), (.ref w2)]))
  obtain ⟨cl155, Ar155, qa155, Sa155, Na155, Ha155, Ga155⟩ := id V_s0
  have hin156 : ¬ ((16 : Int32) < 0 ∨ cl155.slots.size ≤ ((16 : Int32)).toNatClampNeg) := inb_of Sa155 ⟨by decide, by decide⟩
  have hat156 : cl155.slots[((16 : Int32)).toNatClampNeg]? = some (.int c16) := Has.at Ha155 hin156 rfl
  refine own_st (fun tg_ kg_ => X154.caload hx (j := (16 : Int32)) (v := (.int c16)) (by rw [e154]; exact Ar155.1) (State.isArrayOf_alike hZ.alike Ar155.2.1) Ar155.2.2 hin156 hat156 (g := (mkF m 500 #[.val (.long i0), .second, .val (.long i1), .second, .val (.long i2), .second, .val (.ref s0), .val (.ref w2), .val (.int (Int32.ofNat (own_enc [c0.toInt8.toInt32, c1.toInt8.toInt32, c2.toInt8.toInt32, c3.toInt8.toInt32, c4.toInt8.toInt32, c5.toInt8.toInt32, c6.toInt8.toInt32, c7.toInt8.toInt32, c8.toInt8.toInt32, c9.toInt8.toInt32, c10.toInt8.toInt32, c11.toInt8.toInt32, c12.toInt8.toInt32, c13.toInt8.toInt32, c14.toInt8.toInt32, c15.toInt8.toInt32]).length))] [(.int (16 : Int32)), (.ref s0), (.int (Int32.ofNat (own_enc [c0.toInt8.toInt32, c1.toInt8.toInt32, c2.toInt8.toInt32, c3.toInt8.toInt32, c4.toInt8.toInt32, c5.toInt8.toInt32, c6.toInt8.toInt32, c7.toInt8.toInt32, c8.toInt8.toInt32, c9.toInt8.toInt32, c10.toInt8.toInt32, c11.toInt8.toInt32, c12.toInt8.toInt32, c13.toInt8.toInt32, c14.toInt8.toInt32, c15.toInt8.toInt32]).length)), (.ref w2)])) rfl rfl (hb hby at_500) _ kg_) ?_
  show own_Gl p e below _ (T154.setTop (mkF m 501 #[.val (.long i0), .second, .val (.long i1), .second, .val (.long i2), .second, .val (.ref s0), .val (.ref w2), .val (.int (Int32.ofNat (own_enc [c0.toInt8.toInt32, c1.toInt8.toInt32, c2.toInt8.toInt32, c3.toInt8.toInt32, c4.toInt8.toInt32, c5.toInt8.toInt32, c6.toInt8.toInt32, c7.toInt8.toInt32, c8.toInt8.toInt32, c9.toInt8.toInt32, c10.toInt8.toInt32, c11.toInt8.toInt32, c12.toInt8.toInt32, c13.toInt8.toInt32, c14.toInt8.toInt32, c15.toInt8.toInt32]).length))] [(.int c16), (.int (Int32.ofNat (own_enc [c0.toInt8.toInt32, c1.toInt8.toInt32, c2.toInt8.toInt32, c3.toInt8.toInt32, c4.toInt8.toInt32, c5.toInt8.toInt32, c6.toInt8.toInt32, c7.toInt8.toInt32, c8.toInt8.toInt32, c9.toInt8.toInt32, c10.toInt8.toInt32, c11.toInt8.toInt32, c12.toInt8.toInt32, c13.toInt8.toInt32, c14.toInt8.toInt32, c15.toInt8.toInt32]).length)), (.ref w2)]))
  obtain ⟨_, _, ⟨T157, L157, k157, n157⟩, -, X157, ⟨Lc157, hQ157, l157, y157, z157⟩, st157⟩ := Jvm.LawKit.callS X154 hx (y := (⟨"com/example/highwater/highwater/config/TokenSecretFromTextPinLaw", "step", "([BIC)I"⟩ : MethodName)) hown (mvT hZ (hw _ (List.mem_of_getElem? (i := 112) rfl))) (mvT hZ (hw _ (List.mem_of_getElem? (i := 113) rfl))) (mvT hZ (hw _ (List.mem_of_getElem? (i := 3) rfl))) (mvT hZ (hw _ (List.mem_of_getElem? (i := 114) rfl))) (by decide) (backOf (W := 0) (own_rm_stp l Z a0 hw [] w2 kw2 [c0.toInt8.toInt32, c1.toInt8.toInt32, c2.toInt8.toInt32, c3.toInt8.toInt32, c4.toInt8.toInt32, c5.toInt8.toInt32, c6.toInt8.toInt32, c7.toInt8.toInt32, c8.toInt8.toInt32, c9.toInt8.toInt32, c10.toInt8.toInt32, c11.toInt8.toInt32, c12.toInt8.toInt32, c13.toInt8.toInt32, c14.toInt8.toInt32, c15.toInt8.toInt32, c16.toInt8.toInt32, c17.toInt8.toInt32, c18.toInt8.toInt32, c19.toInt8.toInt32, c20.toInt8.toInt32, c21.toInt8.toInt32, c22.toInt8.toInt32, c23.toInt8.toInt32] [c0.toInt8.toInt32, c1.toInt8.toInt32, c2.toInt8.toInt32, c3.toInt8.toInt32, c4.toInt8.toInt32, c5.toInt8.toInt32, c6.toInt8.toInt32, c7.toInt8.toInt32, c8.toInt8.toInt32, c9.toInt8.toInt32, c10.toInt8.toInt32, c11.toInt8.toInt32, c12.toInt8.toInt32, c13.toInt8.toInt32, c14.toInt8.toInt32, c15.toInt8.toInt32] [c17.toInt8.toInt32, c18.toInt8.toInt32, c19.toInt8.toInt32, c20.toInt8.toInt32, c21.toInt8.toInt32, c22.toInt8.toInt32, c23.toInt8.toInt32] [c0.toInt8.toInt32, c1.toInt8.toInt32, c2.toInt8.toInt32, c3.toInt8.toInt32, c4.toInt8.toInt32, c5.toInt8.toInt32, c6.toInt8.toInt32, c7.toInt8.toInt32, c8.toInt8.toInt32, c9.toInt8.toInt32, c10.toInt8.toInt32, c11.toInt8.toInt32, c12.toInt8.toInt32, c13.toInt8.toInt32, c14.toInt8.toInt32, c15.toInt8.toInt32, c16.toInt8.toInt32] c16 T105.heap n0 (Nat.le_trans Z0 K106.1) rfl rfl V_w2 hc16 h32.2) hZ (hw _ (List.mem_of_getElem? (i := 114) rfl)) (hw _ (List.mem_of_getElem? (i := 3) rfl)) (by decide) (by decide)) (g := (mkF m 501 #[.val (.long i0), .second, .val (.long i1), .second, .val (.long i2), .second, .val (.ref s0), .val (.ref w2), .val (.int (Int32.ofNat (own_enc [c0.toInt8.toInt32, c1.toInt8.toInt32, c2.toInt8.toInt32, c3.toInt8.toInt32, c4.toInt8.toInt32, c5.toInt8.toInt32, c6.toInt8.toInt32, c7.toInt8.toInt32, c8.toInt8.toInt32, c9.toInt8.toInt32, c10.toInt8.toInt32, c11.toInt8.toInt32, c12.toInt8.toInt32, c13.toInt8.toInt32, c14.toInt8.toInt32, c15.toInt8.toInt32]).length))] [(.int c16), (.int (Int32.ofNat (own_enc [c0.toInt8.toInt32, c1.toInt8.toInt32, c2.toInt8.toInt32, c3.toInt8.toInt32, c4.toInt8.toInt32, c5.toInt8.toInt32, c6.toInt8.toInt32, c7.toInt8.toInt32, c8.toInt8.toInt32, c9.toInt8.toInt32, c10.toInt8.toInt32, c11.toInt8.toInt32, c12.toInt8.toInt32, c13.toInt8.toInt32, c14.toInt8.toInt32, c15.toInt8.toInt32]).length)), (.ref w2)])) rfl (by rw [hml]; rfl) (argsL := [(.ref w2), (.int (Int32.ofNat (own_enc [c0.toInt8.toInt32, c1.toInt8.toInt32, c2.toInt8.toInt32, c3.toInt8.toInt32, c4.toInt8.toInt32, c5.toInt8.toInt32, c6.toInt8.toInt32, c7.toInt8.toInt32, c8.toInt8.toInt32, c9.toInt8.toInt32, c10.toInt8.toInt32, c11.toInt8.toInt32, c12.toInt8.toInt32, c13.toInt8.toInt32, c14.toInt8.toInt32, c15.toInt8.toInt32]).length)), (.int c16)]) (rest := []) (lenOf own_pd15 rfl) rfl (by show 2 * 0 + _ ≤ _; exact Nat.le_of_eq rfl) (hb hby at_501) (fun _ _ => ⟨rfl, e154, (by decide : 7 + 0 ≤ _), (by decide : 197 + 0 ≤ _)⟩)
  dsimp only [Pt.U, Pt.locs, Pt.cells, Pt.slots] at X157 l157 y157 z157 st157 hQ157
  obtain rfl : k157 = 7 := y157
  obtain rfl : n157 = 197 := z157
  obtain ⟨rfl, N157q, e157⟩ := hQ157
  have N157 : Fr n0 L157 := by rw [l157]; exact Fr.app N154 N157q
  try clear l157
  refine own_st st157 ?_
  show own_Gl p e below _ (T157.setTop (mkF m 504 #[.val (.long i0), .second, .val (.long i1), .second, .val (.long i2), .second, .val (.ref s0), .val (.ref w2), .val (.int (Int32.ofNat (own_enc [c0.toInt8.toInt32, c1.toInt8.toInt32, c2.toInt8.toInt32, c3.toInt8.toInt32, c4.toInt8.toInt32, c5.toInt8.toInt32, c6.toInt8.toInt32, c7.toInt8.toInt32, c8.toInt8.toInt32, c9.toInt8.toInt32, c10.toInt8.toInt32, c11.toInt8.toInt32, c12.toInt8.toInt32, c13.toInt8.toInt32, c14.toInt8.toInt32, c15.toInt8.toInt32]).length))] [(.int (Int32.ofNat (own_enc [c0.toInt8.toInt32, c1.toInt8.toInt32, c2.toInt8.toInt32, c3.toInt8.toInt32, c4.toInt8.toInt32, c5.toInt8.toInt32, c6.toInt8.toInt32, c7.toInt8.toInt32, c8.toInt8.toInt32, c9.toInt8.toInt32, c10.toInt8.toInt32, c11.toInt8.toInt32, c12.toInt8.toInt32, c13.toInt8.toInt32, c14.toInt8.toInt32, c15.toInt8.toInt32, c16.toInt8.toInt32]).length))]))
  try clear st157
  try clear N157q
  try clear N154
  try clear e154
  try clear X154
  try clear T154
  refine own_st (fun tg_ kg_ => XS.istore X157.here hx rfl (hb hby at_504) rfl (l' := #[.val (.long i0), .second, .val (.long i1), .second, .val (.long i2), .second, .val (.ref s0), .val (.ref w2), .val (.int (Int32.ofNat (own_enc [c0.toInt8.toInt32, c1.toInt8.toInt32, c2.toInt8.toInt32, c3.toInt8.toInt32, c4.toInt8.toInt32, c5.toInt8.toInt32, c6.toInt8.toInt32, c7.toInt8.toInt32, c8.toInt8.toInt32, c9.toInt8.toInt32, c10.toInt8.toInt32, c11.toInt8.toInt32, c12.toInt8.toInt32, c13.toInt8.toInt32, c14.toInt8.toInt32, c15.toInt8.toInt32, c16.toInt8.toInt32]).length))]) rfl kg_) ?_
  show own_Gl p e below _ (T157.setTop (mkF m 506 #[.val (.long i0), .second, .val (.long i1), .second, .val (.long i2), .second, .val (.ref s0), .val (.ref w2), .val (.int (Int32.ofNat (own_enc [c0.toInt8.toInt32, c1.toInt8.toInt32, c2.toInt8.toInt32, c3.toInt8.toInt32, c4.toInt8.toInt32, c5.toInt8.toInt32, c6.toInt8.toInt32, c7.toInt8.toInt32, c8.toInt8.toInt32, c9.toInt8.toInt32, c10.toInt8.toInt32, c11.toInt8.toInt32, c12.toInt8.toInt32, c13.toInt8.toInt32, c14.toInt8.toInt32, c15.toInt8.toInt32, c16.toInt8.toInt32]).length))] []))
  refine own_st (fun tg_ kg_ => XS.aload X157.here hx rfl (hb hby at_506) rfl rfl kg_) ?_
  show own_Gl p e below _ (T157.setTop (mkF m 508 #[.val (.long i0), .second, .val (.long i1), .second, .val (.long i2), .second, .val (.ref s0), .val (.ref w2), .val (.int (Int32.ofNat (own_enc [c0.toInt8.toInt32, c1.toInt8.toInt32, c2.toInt8.toInt32, c3.toInt8.toInt32, c4.toInt8.toInt32, c5.toInt8.toInt32, c6.toInt8.toInt32, c7.toInt8.toInt32, c8.toInt8.toInt32, c9.toInt8.toInt32, c10.toInt8.toInt32, c11.toInt8.toInt32, c12.toInt8.toInt32, c13.toInt8.toInt32, c14.toInt8.toInt32, c15.toInt8.toInt32, c16.toInt8.toInt32]).length))] [(.ref w2)]))
  refine own_st (fun tg_ kg_ => XS.iload X157.here hx rfl (hb hby at_508) rfl kg_) ?_
  show own_Gl p e below _ (T157.setTop (mkF m 510 #[.val (.long i0), .second, .val (.long i1), .second, .val (.long i2), .second, .val (.ref s0), .val (.ref w2), .val (.int (Int32.ofNat (own_enc [c0.toInt8.toInt32, c1.toInt8.toInt32, c2.toInt8.toInt32, c3.toInt8.toInt32, c4.toInt8.toInt32, c5.toInt8.toInt32, c6.toInt8.toInt32, c7.toInt8.toInt32, c8.toInt8.toInt32, c9.toInt8.toInt32, c10.toInt8.toInt32, c11.toInt8.toInt32, c12.toInt8.toInt32, c13.toInt8.toInt32, c14.toInt8.toInt32, c15.toInt8.toInt32, c16.toInt8.toInt32]).length))] [(.int (Int32.ofNat (own_enc [c0.toInt8.toInt32, c1.toInt8.toInt32, c2.toInt8.toInt32, c3.toInt8.toInt32, c4.toInt8.toInt32, c5.toInt8.toInt32, c6.toInt8.toInt32, c7.toInt8.toInt32, c8.toInt8.toInt32, c9.toInt8.toInt32, c10.toInt8.toInt32, c11.toInt8.toInt32, c12.toInt8.toInt32, c13.toInt8.toInt32, c14.toInt8.toInt32, c15.toInt8.toInt32, c16.toInt8.toInt32]).length)), (.ref w2)]))
  refine own_st (fun tg_ kg_ => XS.aload X157.here hx rfl (hb hby at_510) rfl rfl kg_) ?_
  show own_Gl p e below _ (T157.setTop (mkF m 512 #[.val (.long i0), .second, .val (.long i1), .second, .val (.long i2), .second, .val (.ref s0), .val (.ref w2), .val (.int (Int32.ofNat (own_enc [c0.toInt8.toInt32, c1.toInt8.toInt32, c2.toInt8.toInt32, c3.toInt8.toInt32, c4.toInt8.toInt32, c5.toInt8.toInt32, c6.toInt8.toInt32, c7.toInt8.toInt32, c8.toInt8.toInt32, c9.toInt8.toInt32, c10.toInt8.toInt32, c11.toInt8.toInt32, c12.toInt8.toInt32, c13.toInt8.toInt32, c14.toInt8.toInt32, c15.toInt8.toInt32, c16.toInt8.toInt32]).length))] [(.ref s0), (.int (Int32.ofNat (own_enc [c0.toInt8.toInt32, c1.toInt8.toInt32, c2.toInt8.toInt32, c3.toInt8.toInt32, c4.toInt8.toInt32, c5.toInt8.toInt32, c6.toInt8.toInt32, c7.toInt8.toInt32, c8.toInt8.toInt32, c9.toInt8.toInt32, c10.toInt8.toInt32, c11.toInt8.toInt32, c12.toInt8.toInt32, c13.toInt8.toInt32, c14.toInt8.toInt32, c15.toInt8.toInt32, c16.toInt8.toInt32]).length)), (.ref w2)]))
  refine own_st (fun tg_ kg_ => XS.bipush X157.here hx rfl (hb hby at_512) kg_) ?_
  show own_Gl p e below _ (T157.setTop (mkF m 514 #[.val (.long i0), .second, .val (.long i1), .second, .val (.long i2), .second, .val (.ref s0), .val (.ref w2), .val (.int (Int32.ofNat (own_enc [c0.toInt8.toInt32, c1.toInt8.toInt32, c2.toInt8.toInt32, c3.toInt8.toInt32, c4.toInt8.toInt32, c5.toInt8.toInt32, c6.toInt8.toInt32, c7.toInt8.toInt32, c8.toInt8.toInt32, c9.toInt8.toInt32, c10.toInt8.toInt32, c11.toInt8.toInt32, c12.toInt8.toInt32, c13.toInt8.toInt32, c14.toInt8.toInt32, c15.toInt8.toInt32, c16.toInt8.toInt32]).length))] [(.int (17 : Int32)), (.ref s0), (.int (Int32.ofNat (own_enc [c0.toInt8.toInt32, c1.toInt8.toInt32, c2.toInt8.toInt32, c3.toInt8.toInt32, c4.toInt8.toInt32, c5.toInt8.toInt32, c6.toInt8.toInt32, c7.toInt8.toInt32, c8.toInt8.toInt32, c9.toInt8.toInt32, c10.toInt8.toInt32, c11.toInt8.toInt32, c12.toInt8.toInt32, c13.toInt8.toInt32, c14.toInt8.toInt32, c15.toInt8.toInt32, c16.toInt8.toInt32]).length)), (.ref w2)]))
  obtain ⟨cl158, Ar158, qa158, Sa158, Na158, Ha158, Ga158⟩ := id V_s0
  have hin159 : ¬ ((17 : Int32) < 0 ∨ cl158.slots.size ≤ ((17 : Int32)).toNatClampNeg) := inb_of Sa158 ⟨by decide, by decide⟩
  have hat159 : cl158.slots[((17 : Int32)).toNatClampNeg]? = some (.int c17) := Has.at Ha158 hin159 rfl
  refine own_st (fun tg_ kg_ => X157.caload hx (j := (17 : Int32)) (v := (.int c17)) (by rw [e157]; exact Ar158.1) (State.isArrayOf_alike hZ.alike Ar158.2.1) Ar158.2.2 hin159 hat159 (g := (mkF m 514 #[.val (.long i0), .second, .val (.long i1), .second, .val (.long i2), .second, .val (.ref s0), .val (.ref w2), .val (.int (Int32.ofNat (own_enc [c0.toInt8.toInt32, c1.toInt8.toInt32, c2.toInt8.toInt32, c3.toInt8.toInt32, c4.toInt8.toInt32, c5.toInt8.toInt32, c6.toInt8.toInt32, c7.toInt8.toInt32, c8.toInt8.toInt32, c9.toInt8.toInt32, c10.toInt8.toInt32, c11.toInt8.toInt32, c12.toInt8.toInt32, c13.toInt8.toInt32, c14.toInt8.toInt32, c15.toInt8.toInt32, c16.toInt8.toInt32]).length))] [(.int (17 : Int32)), (.ref s0), (.int (Int32.ofNat (own_enc [c0.toInt8.toInt32, c1.toInt8.toInt32, c2.toInt8.toInt32, c3.toInt8.toInt32, c4.toInt8.toInt32, c5.toInt8.toInt32, c6.toInt8.toInt32, c7.toInt8.toInt32, c8.toInt8.toInt32, c9.toInt8.toInt32, c10.toInt8.toInt32, c11.toInt8.toInt32, c12.toInt8.toInt32, c13.toInt8.toInt32, c14.toInt8.toInt32, c15.toInt8.toInt32, c16.toInt8.toInt32]).length)), (.ref w2)])) rfl rfl (hb hby at_514) _ kg_) ?_
  show own_Gl p e below _ (T157.setTop (mkF m 515 #[.val (.long i0), .second, .val (.long i1), .second, .val (.long i2), .second, .val (.ref s0), .val (.ref w2), .val (.int (Int32.ofNat (own_enc [c0.toInt8.toInt32, c1.toInt8.toInt32, c2.toInt8.toInt32, c3.toInt8.toInt32, c4.toInt8.toInt32, c5.toInt8.toInt32, c6.toInt8.toInt32, c7.toInt8.toInt32, c8.toInt8.toInt32, c9.toInt8.toInt32, c10.toInt8.toInt32, c11.toInt8.toInt32, c12.toInt8.toInt32, c13.toInt8.toInt32, c14.toInt8.toInt32, c15.toInt8.toInt32, c16.toInt8.toInt32]).length))] [(.int c17), (.int (Int32.ofNat (own_enc [c0.toInt8.toInt32, c1.toInt8.toInt32, c2.toInt8.toInt32, c3.toInt8.toInt32, c4.toInt8.toInt32, c5.toInt8.toInt32, c6.toInt8.toInt32, c7.toInt8.toInt32, c8.toInt8.toInt32, c9.toInt8.toInt32, c10.toInt8.toInt32, c11.toInt8.toInt32, c12.toInt8.toInt32, c13.toInt8.toInt32, c14.toInt8.toInt32, c15.toInt8.toInt32, c16.toInt8.toInt32]).length)), (.ref w2)]))
  obtain ⟨_, _, ⟨T160, L160, k160, n160⟩, -, X160, ⟨Lc160, hQ160, l160, y160, z160⟩, st160⟩ := Jvm.LawKit.callS X157 hx (y := (⟨"com/example/highwater/highwater/config/TokenSecretFromTextPinLaw", "step", "([BIC)I"⟩ : MethodName)) hown (mvT hZ (hw _ (List.mem_of_getElem? (i := 112) rfl))) (mvT hZ (hw _ (List.mem_of_getElem? (i := 113) rfl))) (mvT hZ (hw _ (List.mem_of_getElem? (i := 3) rfl))) (mvT hZ (hw _ (List.mem_of_getElem? (i := 114) rfl))) (by decide) (backOf (W := 0) (own_rm_stp l Z a0 hw [] w2 kw2 [c0.toInt8.toInt32, c1.toInt8.toInt32, c2.toInt8.toInt32, c3.toInt8.toInt32, c4.toInt8.toInt32, c5.toInt8.toInt32, c6.toInt8.toInt32, c7.toInt8.toInt32, c8.toInt8.toInt32, c9.toInt8.toInt32, c10.toInt8.toInt32, c11.toInt8.toInt32, c12.toInt8.toInt32, c13.toInt8.toInt32, c14.toInt8.toInt32, c15.toInt8.toInt32, c16.toInt8.toInt32, c17.toInt8.toInt32, c18.toInt8.toInt32, c19.toInt8.toInt32, c20.toInt8.toInt32, c21.toInt8.toInt32, c22.toInt8.toInt32, c23.toInt8.toInt32] [c0.toInt8.toInt32, c1.toInt8.toInt32, c2.toInt8.toInt32, c3.toInt8.toInt32, c4.toInt8.toInt32, c5.toInt8.toInt32, c6.toInt8.toInt32, c7.toInt8.toInt32, c8.toInt8.toInt32, c9.toInt8.toInt32, c10.toInt8.toInt32, c11.toInt8.toInt32, c12.toInt8.toInt32, c13.toInt8.toInt32, c14.toInt8.toInt32, c15.toInt8.toInt32, c16.toInt8.toInt32] [c18.toInt8.toInt32, c19.toInt8.toInt32, c20.toInt8.toInt32, c21.toInt8.toInt32, c22.toInt8.toInt32, c23.toInt8.toInt32] [c0.toInt8.toInt32, c1.toInt8.toInt32, c2.toInt8.toInt32, c3.toInt8.toInt32, c4.toInt8.toInt32, c5.toInt8.toInt32, c6.toInt8.toInt32, c7.toInt8.toInt32, c8.toInt8.toInt32, c9.toInt8.toInt32, c10.toInt8.toInt32, c11.toInt8.toInt32, c12.toInt8.toInt32, c13.toInt8.toInt32, c14.toInt8.toInt32, c15.toInt8.toInt32, c16.toInt8.toInt32, c17.toInt8.toInt32] c17 T105.heap n0 (Nat.le_trans Z0 K106.1) rfl rfl V_w2 hc17 h32.2) hZ (hw _ (List.mem_of_getElem? (i := 114) rfl)) (hw _ (List.mem_of_getElem? (i := 3) rfl)) (by decide) (by decide)) (g := (mkF m 515 #[.val (.long i0), .second, .val (.long i1), .second, .val (.long i2), .second, .val (.ref s0), .val (.ref w2), .val (.int (Int32.ofNat (own_enc [c0.toInt8.toInt32, c1.toInt8.toInt32, c2.toInt8.toInt32, c3.toInt8.toInt32, c4.toInt8.toInt32, c5.toInt8.toInt32, c6.toInt8.toInt32, c7.toInt8.toInt32, c8.toInt8.toInt32, c9.toInt8.toInt32, c10.toInt8.toInt32, c11.toInt8.toInt32, c12.toInt8.toInt32, c13.toInt8.toInt32, c14.toInt8.toInt32, c15.toInt8.toInt32, c16.toInt8.toInt32]).length))] [(.int c17), (.int (Int32.ofNat (own_enc [c0.toInt8.toInt32, c1.toInt8.toInt32, c2.toInt8.toInt32, c3.toInt8.toInt32, c4.toInt8.toInt32, c5.toInt8.toInt32, c6.toInt8.toInt32, c7.toInt8.toInt32, c8.toInt8.toInt32, c9.toInt8.toInt32, c10.toInt8.toInt32, c11.toInt8.toInt32, c12.toInt8.toInt32, c13.toInt8.toInt32, c14.toInt8.toInt32, c15.toInt8.toInt32, c16.toInt8.toInt32]).length)), (.ref w2)])) rfl (by rw [hml]; rfl) (argsL := [(.ref w2), (.int (Int32.ofNat (own_enc [c0.toInt8.toInt32, c1.toInt8.toInt32, c2.toInt8.toInt32, c3.toInt8.toInt32, c4.toInt8.toInt32, c5.toInt8.toInt32, c6.toInt8.toInt32, c7.toInt8.toInt32, c8.toInt8.toInt32, c9.toInt8.toInt32, c10.toInt8.toInt32, c11.toInt8.toInt32, c12.toInt8.toInt32, c13.toInt8.toInt32, c14.toInt8.toInt32, c15.toInt8.toInt32, c16.toInt8.toInt32]).length)), (.int c17)]) (rest := []) (lenOf own_pd15 rfl) rfl (by show 2 * 0 + _ ≤ _; exact Nat.le_of_eq rfl) (hb hby at_515) (fun _ _ => ⟨rfl, e157, (by decide : 7 + 0 ≤ _), (by decide : 197 + 0 ≤ _)⟩)
  dsimp only [Pt.U, Pt.locs, Pt.cells, Pt.slots] at X160 l160 y160 z160 st160 hQ160
  obtain rfl : k160 = 7 := y160
  obtain rfl : n160 = 197 := z160
  obtain ⟨rfl, N160q, e160⟩ := hQ160
  have N160 : Fr n0 L160 := by rw [l160]; exact Fr.app N157 N160q
  try clear l160
  refine own_st st160 ?_
  show own_Gl p e below _ (T160.setTop (mkF m 518 #[.val (.long i0), .second, .val (.long i1), .second, .val (.long i2), .second, .val (.ref s0), .val (.ref w2), .val (.int (Int32.ofNat (own_enc [c0.toInt8.toInt32, c1.toInt8.toInt32, c2.toInt8.toInt32, c3.toInt8.toInt32, c4.toInt8.toInt32, c5.toInt8.toInt32, c6.toInt8.toInt32, c7.toInt8.toInt32, c8.toInt8.toInt32, c9.toInt8.toInt32, c10.toInt8.toInt32, c11.toInt8.toInt32, c12.toInt8.toInt32, c13.toInt8.toInt32, c14.toInt8.toInt32, c15.toInt8.toInt32, c16.toInt8.toInt32]).length))] [(.int (Int32.ofNat (own_enc [c0.toInt8.toInt32, c1.toInt8.toInt32, c2.toInt8.toInt32, c3.toInt8.toInt32, c4.toInt8.toInt32, c5.toInt8.toInt32, c6.toInt8.toInt32, c7.toInt8.toInt32, c8.toInt8.toInt32, c9.toInt8.toInt32, c10.toInt8.toInt32, c11.toInt8.toInt32, c12.toInt8.toInt32, c13.toInt8.toInt32, c14.toInt8.toInt32, c15.toInt8.toInt32, c16.toInt8.toInt32, c17.toInt8.toInt32]).length))]))
  try clear st160
  try clear N160q
  try clear N157
  try clear e157
  try clear X157
  try clear T157
  refine own_st (fun tg_ kg_ => XS.istore X160.here hx rfl (hb hby at_518) rfl (l' := #[.val (.long i0), .second, .val (.long i1), .second, .val (.long i2), .second, .val (.ref s0), .val (.ref w2), .val (.int (Int32.ofNat (own_enc [c0.toInt8.toInt32, c1.toInt8.toInt32, c2.toInt8.toInt32, c3.toInt8.toInt32, c4.toInt8.toInt32, c5.toInt8.toInt32, c6.toInt8.toInt32, c7.toInt8.toInt32, c8.toInt8.toInt32, c9.toInt8.toInt32, c10.toInt8.toInt32, c11.toInt8.toInt32, c12.toInt8.toInt32, c13.toInt8.toInt32, c14.toInt8.toInt32, c15.toInt8.toInt32, c16.toInt8.toInt32, c17.toInt8.toInt32]).length))]) rfl kg_) ?_
  show own_Gl p e below _ (T160.setTop (mkF m 520 #[.val (.long i0), .second, .val (.long i1), .second, .val (.long i2), .second, .val (.ref s0), .val (.ref w2), .val (.int (Int32.ofNat (own_enc [c0.toInt8.toInt32, c1.toInt8.toInt32, c2.toInt8.toInt32, c3.toInt8.toInt32, c4.toInt8.toInt32, c5.toInt8.toInt32, c6.toInt8.toInt32, c7.toInt8.toInt32, c8.toInt8.toInt32, c9.toInt8.toInt32, c10.toInt8.toInt32, c11.toInt8.toInt32, c12.toInt8.toInt32, c13.toInt8.toInt32, c14.toInt8.toInt32, c15.toInt8.toInt32, c16.toInt8.toInt32, c17.toInt8.toInt32]).length))] []))
  refine own_st (fun tg_ kg_ => XS.aload X160.here hx rfl (hb hby at_520) rfl rfl kg_) ?_
  show own_Gl p e below _ (T160.setTop (mkF m 522 #[.val (.long i0), .second, .val (.long i1), .second, .val (.long i2), .second, .val (.ref s0), .val (.ref w2), .val (.int (Int32.ofNat (own_enc [c0.toInt8.toInt32, c1.toInt8.toInt32, c2.toInt8.toInt32, c3.toInt8.toInt32, c4.toInt8.toInt32, c5.toInt8.toInt32, c6.toInt8.toInt32, c7.toInt8.toInt32, c8.toInt8.toInt32, c9.toInt8.toInt32, c10.toInt8.toInt32, c11.toInt8.toInt32, c12.toInt8.toInt32, c13.toInt8.toInt32, c14.toInt8.toInt32, c15.toInt8.toInt32, c16.toInt8.toInt32, c17.toInt8.toInt32]).length))] [(.ref w2)]))
  refine own_st (fun tg_ kg_ => XS.iload X160.here hx rfl (hb hby at_522) rfl kg_) ?_
  show own_Gl p e below _ (T160.setTop (mkF m 524 #[.val (.long i0), .second, .val (.long i1), .second, .val (.long i2), .second, .val (.ref s0), .val (.ref w2), .val (.int (Int32.ofNat (own_enc [c0.toInt8.toInt32, c1.toInt8.toInt32, c2.toInt8.toInt32, c3.toInt8.toInt32, c4.toInt8.toInt32, c5.toInt8.toInt32, c6.toInt8.toInt32, c7.toInt8.toInt32, c8.toInt8.toInt32, c9.toInt8.toInt32, c10.toInt8.toInt32, c11.toInt8.toInt32, c12.toInt8.toInt32, c13.toInt8.toInt32, c14.toInt8.toInt32, c15.toInt8.toInt32, c16.toInt8.toInt32, c17.toInt8.toInt32]).length))] [(.int (Int32.ofNat (own_enc [c0.toInt8.toInt32, c1.toInt8.toInt32, c2.toInt8.toInt32, c3.toInt8.toInt32, c4.toInt8.toInt32, c5.toInt8.toInt32, c6.toInt8.toInt32, c7.toInt8.toInt32, c8.toInt8.toInt32, c9.toInt8.toInt32, c10.toInt8.toInt32, c11.toInt8.toInt32, c12.toInt8.toInt32, c13.toInt8.toInt32, c14.toInt8.toInt32, c15.toInt8.toInt32, c16.toInt8.toInt32, c17.toInt8.toInt32]).length)), (.ref w2)]))
  refine own_st (fun tg_ kg_ => XS.aload X160.here hx rfl (hb hby at_524) rfl rfl kg_) ?_
  show own_Gl p e below _ (T160.setTop (mkF m 526 #[.val (.long i0), .second, .val (.long i1), .second, .val (.long i2), .second, .val (.ref s0), .val (.ref w2), .val (.int (Int32.ofNat (own_enc [c0.toInt8.toInt32, c1.toInt8.toInt32, c2.toInt8.toInt32, c3.toInt8.toInt32, c4.toInt8.toInt32, c5.toInt8.toInt32, c6.toInt8.toInt32, c7.toInt8.toInt32, c8.toInt8.toInt32, c9.toInt8.toInt32, c10.toInt8.toInt32, c11.toInt8.toInt32, c12.toInt8.toInt32, c13.toInt8.toInt32, c14.toInt8.toInt32, c15.toInt8.toInt32, c16.toInt8.toInt32, c17.toInt8.toInt32]).length))] [(.ref s0), (.int (Int32.ofNat (own_enc [c0.toInt8.toInt32, c1.toInt8.toInt32, c2.toInt8.toInt32, c3.toInt8.toInt32, c4.toInt8.toInt32, c5.toInt8.toInt32, c6.toInt8.toInt32, c7.toInt8.toInt32, c8.toInt8.toInt32, c9.toInt8.toInt32, c10.toInt8.toInt32, c11.toInt8.toInt32, c12.toInt8.toInt32, c13.toInt8.toInt32, c14.toInt8.toInt32, c15.toInt8.toInt32, c16.toInt8.toInt32, c17.toInt8.toInt32]).length)), (.ref w2)]))
  refine own_st (fun tg_ kg_ => XS.bipush X160.here hx rfl (hb hby at_526) kg_) ?_
  show own_Gl p e below _ (T160.setTop (mkF m 528 #[.val (.long i0), .second, .val (.long i1), .second, .val (.long i2), .second, .val (.ref s0), .val (.ref w2), .val (.int (Int32.ofNat (own_enc [c0.toInt8.toInt32, c1.toInt8.toInt32, c2.toInt8.toInt32, c3.toInt8.toInt32, c4.toInt8.toInt32, c5.toInt8.toInt32, c6.toInt8.toInt32, c7.toInt8.toInt32, c8.toInt8.toInt32, c9.toInt8.toInt32, c10.toInt8.toInt32, c11.toInt8.toInt32, c12.toInt8.toInt32, c13.toInt8.toInt32, c14.toInt8.toInt32, c15.toInt8.toInt32, c16.toInt8.toInt32, c17.toInt8.toInt32]).length))] [(.int (18 : Int32)), (.ref s0), (.int (Int32.ofNat (own_enc [c0.toInt8.toInt32, c1.toInt8.toInt32, c2.toInt8.toInt32, c3.toInt8.toInt32, c4.toInt8.toInt32, c5.toInt8.toInt32, c6.toInt8.toInt32, c7.toInt8.toInt32, c8.toInt8.toInt32, c9.toInt8.toInt32, c10.toInt8.toInt32, c11.toInt8.toInt32, c12.toInt8.toInt32, c13.toInt8.toInt32, c14.toInt8.toInt32, c15.toInt8.toInt32, c16.toInt8.toInt32, c17.toInt8.toInt32]).length)), (.ref w2)]))
  obtain ⟨cl161, Ar161, qa161, Sa161, Na161, Ha161, Ga161⟩ := id V_s0
  have hin162 : ¬ ((18 : Int32) < 0 ∨ cl161.slots.size ≤ ((18 : Int32)).toNatClampNeg) := inb_of Sa161 ⟨by decide, by decide⟩
  have hat162 : cl161.slots[((18 : Int32)).toNatClampNeg]? = some (.int c18) := Has.at Ha161 hin162 rfl
  refine own_st (fun tg_ kg_ => X160.caload hx (j := (18 : Int32)) (v := (.int c18)) (by rw [e160]; exact Ar161.1) (State.isArrayOf_alike hZ.alike Ar161.2.1) Ar161.2.2 hin162 hat162 (g := (mkF m 528 #[.val (.long i0), .second, .val (.long i1), .second, .val (.long i2), .second, .val (.ref s0), .val (.ref w2), .val (.int (Int32.ofNat (own_enc [c0.toInt8.toInt32, c1.toInt8.toInt32, c2.toInt8.toInt32, c3.toInt8.toInt32, c4.toInt8.toInt32, c5.toInt8.toInt32, c6.toInt8.toInt32, c7.toInt8.toInt32, c8.toInt8.toInt32, c9.toInt8.toInt32, c10.toInt8.toInt32, c11.toInt8.toInt32, c12.toInt8.toInt32, c13.toInt8.toInt32, c14.toInt8.toInt32, c15.toInt8.toInt32, c16.toInt8.toInt32, c17.toInt8.toInt32]).length))] [(.int (18 : Int32)), (.ref s0), (.int (Int32.ofNat (own_enc [c0.toInt8.toInt32, c1.toInt8.toInt32, c2.toInt8.toInt32, c3.toInt8.toInt32, c4.toInt8.toInt32, c5.toInt8.toInt32, c6.toInt8.toInt32, c7.toInt8.toInt32, c8.toInt8.toInt32, c9.toInt8.toInt32, c10.toInt8.toInt32, c11.toInt8.toInt32, c12.toInt8.toInt32, c13.toInt8.toInt32, c14.toInt8.toInt32, c15.toInt8.toInt32, c16.toInt8.toInt32, c17.toInt8.toInt32]).length)), (.ref w2)])) rfl rfl (hb hby at_528) _ kg_) ?_
  show own_Gl p e below _ (T160.setTop (mkF m 529 #[.val (.long i0), .second, .val (.long i1), .second, .val (.long i2), .second, .val (.ref s0), .val (.ref w2), .val (.int (Int32.ofNat (own_enc [c0.toInt8.toInt32, c1.toInt8.toInt32, c2.toInt8.toInt32, c3.toInt8.toInt32, c4.toInt8.toInt32, c5.toInt8.toInt32, c6.toInt8.toInt32, c7.toInt8.toInt32, c8.toInt8.toInt32, c9.toInt8.toInt32, c10.toInt8.toInt32, c11.toInt8.toInt32, c12.toInt8.toInt32, c13.toInt8.toInt32, c14.toInt8.toInt32, c15.toInt8.toInt32, c16.toInt8.toInt32, c17.toInt8.toInt32]).length))] [(.int c18), (.int (Int32.ofNat (own_enc [c0.toInt8.toInt32, c1.toInt8.toInt32, c2.toInt8.toInt32, c3.toInt8.toInt32, c4.toInt8.toInt32, c5.toInt8.toInt32, c6.toInt8.toInt32, c7.toInt8.toInt32, c8.toInt8.toInt32, c9.toInt8.toInt32, c10.toInt8.toInt32, c11.toInt8.toInt32, c12.toInt8.toInt32, c13.toInt8.toInt32, c14.toInt8.toInt32, c15.toInt8.toInt32, c16.toInt8.toInt32, c17.toInt8.toInt32]).length)), (.ref w2)]))
  obtain ⟨_, _, ⟨T163, L163, k163, n163⟩, -, X163, ⟨Lc163, hQ163, l163, y163, z163⟩, st163⟩ := Jvm.LawKit.callS X160 hx (y := (⟨"com/example/highwater/highwater/config/TokenSecretFromTextPinLaw", "step", "([BIC)I"⟩ : MethodName)) hown (mvT hZ (hw _ (List.mem_of_getElem? (i := 112) rfl))) (mvT hZ (hw _ (List.mem_of_getElem? (i := 113) rfl))) (mvT hZ (hw _ (List.mem_of_getElem? (i := 3) rfl))) (mvT hZ (hw _ (List.mem_of_getElem? (i := 114) rfl))) (by decide) (backOf (W := 0) (own_rm_stp l Z a0 hw [] w2 kw2 [c0.toInt8.toInt32, c1.toInt8.toInt32, c2.toInt8.toInt32, c3.toInt8.toInt32, c4.toInt8.toInt32, c5.toInt8.toInt32, c6.toInt8.toInt32, c7.toInt8.toInt32, c8.toInt8.toInt32, c9.toInt8.toInt32, c10.toInt8.toInt32, c11.toInt8.toInt32, c12.toInt8.toInt32, c13.toInt8.toInt32, c14.toInt8.toInt32, c15.toInt8.toInt32, c16.toInt8.toInt32, c17.toInt8.toInt32, c18.toInt8.toInt32, c19.toInt8.toInt32, c20.toInt8.toInt32, c21.toInt8.toInt32, c22.toInt8.toInt32, c23.toInt8.toInt32] [c0.toInt8.toInt32, c1.toInt8.toInt32, c2.toInt8.toInt32, c3.toInt8.toInt32, c4.toInt8.toInt32, c5.toInt8.toInt32, c6.toInt8.toInt32, c7.toInt8.toInt32, c8.toInt8.toInt32, c9.toInt8.toInt32, c10.toInt8.toInt32, c11.toInt8.toInt32, c12.toInt8.toInt32, c13.toInt8.toInt32, c14.toInt8.toInt32, c15.toInt8.toInt32, c16.toInt8.toInt32, c17.toInt8.toInt32] [c19.toInt8.toInt32, c20.toInt8.toInt32, c21.toInt8.toInt32, c22.toInt8.toInt32, c23.toInt8.toInt32] [c0.toInt8.toInt32, c1.toInt8.toInt32, c2.toInt8.toInt32, c3.toInt8.toInt32, c4.toInt8.toInt32, c5.toInt8.toInt32, c6.toInt8.toInt32, c7.toInt8.toInt32, c8.toInt8.toInt32, c9.toInt8.toInt32, c10.toInt8.toInt32, c11.toInt8.toInt32, c12.toInt8.toInt32, c13.toInt8.toInt32, c14.toInt8.toInt32, c15.toInt8.toInt32, c16.toInt8.toInt32, c17.toInt8.toInt32, c18.toInt8.toInt32] c18 T105.heap n0 (Nat.le_trans Z0 K106.1) rfl rfl V_w2 hc18 h32.2) hZ (hw _ (List.mem_of_getElem? (i := 114) rfl)) (hw _ (List.mem_of_getElem? (i := 3) rfl)) (by decide) (by decide)) (g := (mkF m 529 #[.val (.long i0), .second, .val (.long i1), .second, .val (.long i2), .second, .val (.ref s0), .val (.ref w2), .val (.int (Int32.ofNat (own_enc [c0.toInt8.toInt32, c1.toInt8.toInt32, c2.toInt8.toInt32, c3.toInt8.toInt32, c4.toInt8.toInt32, c5.toInt8.toInt32, c6.toInt8.toInt32, c7.toInt8.toInt32, c8.toInt8.toInt32, c9.toInt8.toInt32, c10.toInt8.toInt32, c11.toInt8.toInt32, c12.toInt8.toInt32, c13.toInt8.toInt32, c14.toInt8.toInt32, c15.toInt8.toInt32, c16.toInt8.toInt32, c17.toInt8.toInt32]).length))] [(.int c18), (.int (Int32.ofNat (own_enc [c0.toInt8.toInt32, c1.toInt8.toInt32, c2.toInt8.toInt32, c3.toInt8.toInt32, c4.toInt8.toInt32, c5.toInt8.toInt32, c6.toInt8.toInt32, c7.toInt8.toInt32, c8.toInt8.toInt32, c9.toInt8.toInt32, c10.toInt8.toInt32, c11.toInt8.toInt32, c12.toInt8.toInt32, c13.toInt8.toInt32, c14.toInt8.toInt32, c15.toInt8.toInt32, c16.toInt8.toInt32, c17.toInt8.toInt32]).length)), (.ref w2)])) rfl (by rw [hml]; rfl) (argsL := [(.ref w2), (.int (Int32.ofNat (own_enc [c0.toInt8.toInt32, c1.toInt8.toInt32, c2.toInt8.toInt32, c3.toInt8.toInt32, c4.toInt8.toInt32, c5.toInt8.toInt32, c6.toInt8.toInt32, c7.toInt8.toInt32, c8.toInt8.toInt32, c9.toInt8.toInt32, c10.toInt8.toInt32, c11.toInt8.toInt32, c12.toInt8.toInt32, c13.toInt8.toInt32, c14.toInt8.toInt32, c15.toInt8.toInt32, c16.toInt8.toInt32, c17.toInt8.toInt32]).length)), (.int c18)]) (rest := []) (lenOf own_pd15 rfl) rfl (by show 2 * 0 + _ ≤ _; exact Nat.le_of_eq rfl) (hb hby at_529) (fun _ _ => ⟨rfl, e160, (by decide : 7 + 0 ≤ _), (by decide : 197 + 0 ≤ _)⟩)
  dsimp only [Pt.U, Pt.locs, Pt.cells, Pt.slots] at X163 l163 y163 z163 st163 hQ163
  obtain rfl : k163 = 7 := y163
  obtain rfl : n163 = 197 := z163
  obtain ⟨rfl, N163q, e163⟩ := hQ163
  have N163 : Fr n0 L163 := by rw [l163]; exact Fr.app N160 N163q
  try clear l163
  refine own_st st163 ?_
  show own_Gl p e below _ (T163.setTop (mkF m 532 #[.val (.long i0), .second, .val (.long i1), .second, .val (.long i2), .second, .val (.ref s0), .val (.ref w2), .val (.int (Int32.ofNat (own_enc [c0.toInt8.toInt32, c1.toInt8.toInt32, c2.toInt8.toInt32, c3.toInt8.toInt32, c4.toInt8.toInt32, c5.toInt8.toInt32, c6.toInt8.toInt32, c7.toInt8.toInt32, c8.toInt8.toInt32, c9.toInt8.toInt32, c10.toInt8.toInt32, c11.toInt8.toInt32, c12.toInt8.toInt32, c13.toInt8.toInt32, c14.toInt8.toInt32, c15.toInt8.toInt32, c16.toInt8.toInt32, c17.toInt8.toInt32]).length))] [(.int (Int32.ofNat (own_enc [c0.toInt8.toInt32, c1.toInt8.toInt32, c2.toInt8.toInt32, c3.toInt8.toInt32, c4.toInt8.toInt32, c5.toInt8.toInt32, c6.toInt8.toInt32, c7.toInt8.toInt32, c8.toInt8.toInt32, c9.toInt8.toInt32, c10.toInt8.toInt32, c11.toInt8.toInt32, c12.toInt8.toInt32, c13.toInt8.toInt32, c14.toInt8.toInt32, c15.toInt8.toInt32, c16.toInt8.toInt32, c17.toInt8.toInt32, c18.toInt8.toInt32]).length))]))
  try clear st163
  try clear N163q
  try clear N160
  try clear e160
  try clear X160
  try clear T160
  refine own_st (fun tg_ kg_ => XS.istore X163.here hx rfl (hb hby at_532) rfl (l' := #[.val (.long i0), .second, .val (.long i1), .second, .val (.long i2), .second, .val (.ref s0), .val (.ref w2), .val (.int (Int32.ofNat (own_enc [c0.toInt8.toInt32, c1.toInt8.toInt32, c2.toInt8.toInt32, c3.toInt8.toInt32, c4.toInt8.toInt32, c5.toInt8.toInt32, c6.toInt8.toInt32, c7.toInt8.toInt32, c8.toInt8.toInt32, c9.toInt8.toInt32, c10.toInt8.toInt32, c11.toInt8.toInt32, c12.toInt8.toInt32, c13.toInt8.toInt32, c14.toInt8.toInt32, c15.toInt8.toInt32, c16.toInt8.toInt32, c17.toInt8.toInt32, c18.toInt8.toInt32]).length))]) rfl kg_) ?_
  show own_Gl p e below _ (T163.setTop (mkF m 534 #[.val (.long i0), .second, .val (.long i1), .second, .val (.long i2), .second, .val (.ref s0), .val (.ref w2), .val (.int (Int32.ofNat (own_enc [c0.toInt8.toInt32, c1.toInt8.toInt32, c2.toInt8.toInt32, c3.toInt8.toInt32, c4.toInt8.toInt32, c5.toInt8.toInt32, c6.toInt8.toInt32, c7.toInt8.toInt32, c8.toInt8.toInt32, c9.toInt8.toInt32, c10.toInt8.toInt32, c11.toInt8.toInt32, c12.toInt8.toInt32, c13.toInt8.toInt32, c14.toInt8.toInt32, c15.toInt8.toInt32, c16.toInt8.toInt32, c17.toInt8.toInt32, c18.toInt8.toInt32]).length))] []))
  refine own_st (fun tg_ kg_ => XS.aload X163.here hx rfl (hb hby at_534) rfl rfl kg_) ?_
  show own_Gl p e below _ (T163.setTop (mkF m 536 #[.val (.long i0), .second, .val (.long i1), .second, .val (.long i2), .second, .val (.ref s0), .val (.ref w2), .val (.int (Int32.ofNat (own_enc [c0.toInt8.toInt32, c1.toInt8.toInt32, c2.toInt8.toInt32, c3.toInt8.toInt32, c4.toInt8.toInt32, c5.toInt8.toInt32, c6.toInt8.toInt32, c7.toInt8.toInt32, c8.toInt8.toInt32, c9.toInt8.toInt32, c10.toInt8.toInt32, c11.toInt8.toInt32, c12.toInt8.toInt32, c13.toInt8.toInt32, c14.toInt8.toInt32, c15.toInt8.toInt32, c16.toInt8.toInt32, c17.toInt8.toInt32, c18.toInt8.toInt32]).length))] [(.ref w2)]))
  refine own_st (fun tg_ kg_ => XS.iload X163.here hx rfl (hb hby at_536) rfl kg_) ?_
  show own_Gl p e below _ (T163.setTop (mkF m 538 #[.val (.long i0), .second, .val (.long i1), .second, .val (.long i2), .second, .val (.ref s0), .val (.ref w2), .val (.int (Int32.ofNat (own_enc [c0.toInt8.toInt32, c1.toInt8.toInt32, c2.toInt8.toInt32, c3.toInt8.toInt32, c4.toInt8.toInt32, c5.toInt8.toInt32, c6.toInt8.toInt32, c7.toInt8.toInt32, c8.toInt8.toInt32, c9.toInt8.toInt32, c10.toInt8.toInt32, c11.toInt8.toInt32, c12.toInt8.toInt32, c13.toInt8.toInt32, c14.toInt8.toInt32, c15.toInt8.toInt32, c16.toInt8.toInt32, c17.toInt8.toInt32, c18.toInt8.toInt32]).length))] [(.int (Int32.ofNat (own_enc [c0.toInt8.toInt32, c1.toInt8.toInt32, c2.toInt8.toInt32, c3.toInt8.toInt32, c4.toInt8.toInt32, c5.toInt8.toInt32, c6.toInt8.toInt32, c7.toInt8.toInt32, c8.toInt8.toInt32, c9.toInt8.toInt32, c10.toInt8.toInt32, c11.toInt8.toInt32, c12.toInt8.toInt32, c13.toInt8.toInt32, c14.toInt8.toInt32, c15.toInt8.toInt32, c16.toInt8.toInt32, c17.toInt8.toInt32, c18.toInt8.toInt32]).length)), (.ref w2)]))
  refine own_st (fun tg_ kg_ => XS.aload X163.here hx rfl (hb hby at_538) rfl rfl kg_) ?_
  show own_Gl p e below _ (T163.setTop (mkF m 540 #[.val (.long i0), .second, .val (.long i1), .second, .val (.long i2), .second, .val (.ref s0), .val (.ref w2), .val (.int (Int32.ofNat (own_enc [c0.toInt8.toInt32, c1.toInt8.toInt32, c2.toInt8.toInt32, c3.toInt8.toInt32, c4.toInt8.toInt32, c5.toInt8.toInt32, c6.toInt8.toInt32, c7.toInt8.toInt32, c8.toInt8.toInt32, c9.toInt8.toInt32, c10.toInt8.toInt32, c11.toInt8.toInt32, c12.toInt8.toInt32, c13.toInt8.toInt32, c14.toInt8.toInt32, c15.toInt8.toInt32, c16.toInt8.toInt32, c17.toInt8.toInt32, c18.toInt8.toInt32]).length))] [(.ref s0), (.int (Int32.ofNat (own_enc [c0.toInt8.toInt32, c1.toInt8.toInt32, c2.toInt8.toInt32, c3.toInt8.toInt32, c4.toInt8.toInt32, c5.toInt8.toInt32, c6.toInt8.toInt32, c7.toInt8.toInt32, c8.toInt8.toInt32, c9.toInt8.toInt32, c10.toInt8.toInt32, c11.toInt8.toInt32, c12.toInt8.toInt32, c13.toInt8.toInt32, c14.toInt8.toInt32, c15.toInt8.toInt32, c16.toInt8.toInt32, c17.toInt8.toInt32, c18.toInt8.toInt32]).length)), (.ref w2)]))
  refine own_st (fun tg_ kg_ => XS.bipush X163.here hx rfl (hb hby at_540) kg_) ?_
  show own_Gl p e below _ (T163.setTop (mkF m 542 #[.val (.long i0), .second, .val (.long i1), .second, .val (.long i2), .second, .val (.ref s0), .val (.ref w2), .val (.int (Int32.ofNat (own_enc [c0.toInt8.toInt32, c1.toInt8.toInt32, c2.toInt8.toInt32, c3.toInt8.toInt32, c4.toInt8.toInt32, c5.toInt8.toInt32, c6.toInt8.toInt32, c7.toInt8.toInt32, c8.toInt8.toInt32, c9.toInt8.toInt32, c10.toInt8.toInt32, c11.toInt8.toInt32, c12.toInt8.toInt32, c13.toInt8.toInt32, c14.toInt8.toInt32, c15.toInt8.toInt32, c16.toInt8.toInt32, c17.toInt8.toInt32, c18.toInt8.toInt32]).length))] [(.int (19 : Int32)), (.ref s0), (.int (Int32.ofNat (own_enc [c0.toInt8.toInt32, c1.toInt8.toInt32, c2.toInt8.toInt32, c3.toInt8.toInt32, c4.toInt8.toInt32, c5.toInt8.toInt32, c6.toInt8.toInt32, c7.toInt8.toInt32, c8.toInt8.toInt32, c9.toInt8.toInt32, c10.toInt8.toInt32, c11.toInt8.toInt32, c12.toInt8.toInt32, c13.toInt8.toInt32, c14.toInt8.toInt32, c15.toInt8.toInt32, c16.toInt8.toInt32, c17.toInt8.toInt32, c18.toInt8.toInt32]).length)), (.ref w2)]))
  obtain ⟨cl164, Ar164, qa164, Sa164, Na164, Ha164, Ga164⟩ := id V_s0
  have hin165 : ¬ ((19 : Int32) < 0 ∨ cl164.slots.size ≤ ((19 : Int32)).toNatClampNeg) := inb_of Sa164 ⟨by decide, by decide⟩
  have hat165 : cl164.slots[((19 : Int32)).toNatClampNeg]? = some (.int c19) := Has.at Ha164 hin165 rfl
  refine own_st (fun tg_ kg_ => X163.caload hx (j := (19 : Int32)) (v := (.int c19)) (by rw [e163]; exact Ar164.1) (State.isArrayOf_alike hZ.alike Ar164.2.1) Ar164.2.2 hin165 hat165 (g := (mkF m 542 #[.val (.long i0), .second, .val (.long i1), .second, .val (.long i2), .second, .val (.ref s0), .val (.ref w2), .val (.int (Int32.ofNat (own_enc [c0.toInt8.toInt32, c1.toInt8.toInt32, c2.toInt8.toInt32, c3.toInt8.toInt32, c4.toInt8.toInt32, c5.toInt8.toInt32, c6.toInt8.toInt32, c7.toInt8.toInt32, c8.toInt8.toInt32, c9.toInt8.toInt32, c10.toInt8.toInt32, c11.toInt8.toInt32, c12.toInt8.toInt32, c13.toInt8.toInt32, c14.toInt8.toInt32, c15.toInt8.toInt32, c16.toInt8.toInt32, c17.toInt8.toInt32, c18.toInt8.toInt32]).length))] [(.int (19 : Int32)), (.ref s0), (.int (Int32.ofNat (own_enc [c0.toInt8.toInt32, c1.toInt8.toInt32, c2.toInt8.toInt32, c3.toInt8.toInt32, c4.toInt8.toInt32, c5.toInt8.toInt32, c6.toInt8.toInt32, c7.toInt8.toInt32, c8.toInt8.toInt32, c9.toInt8.toInt32, c10.toInt8.toInt32, c11.toInt8.toInt32, c12.toInt8.toInt32, c13.toInt8.toInt32, c14.toInt8.toInt32, c15.toInt8.toInt32, c16.toInt8.toInt32, c17.toInt8.toInt32, c18.toInt8.toInt32]).length)), (.ref w2)])) rfl rfl (hb hby at_542) _ kg_) ?_
  show own_Gl p e below _ (T163.setTop (mkF m 543 #[.val (.long i0), .second, .val (.long i1), .second, .val (.long i2), .second, .val (.ref s0), .val (.ref w2), .val (.int (Int32.ofNat (own_enc [c0.toInt8.toInt32, c1.toInt8.toInt32, c2.toInt8.toInt32, c3.toInt8.toInt32, c4.toInt8.toInt32, c5.toInt8.toInt32, c6.toInt8.toInt32, c7.toInt8.toInt32, c8.toInt8.toInt32, c9.toInt8.toInt32, c10.toInt8.toInt32, c11.toInt8.toInt32, c12.toInt8.toInt32, c13.toInt8.toInt32, c14.toInt8.toInt32, c15.toInt8.toInt32, c16.toInt8.toInt32, c17.toInt8.toInt32, c18.toInt8.toInt32]).length))] [(.int c19), (.int (Int32.ofNat (own_enc [c0.toInt8.toInt32, c1.toInt8.toInt32, c2.toInt8.toInt32, c3.toInt8.toInt32, c4.toInt8.toInt32, c5.toInt8.toInt32, c6.toInt8.toInt32, c7.toInt8.toInt32, c8.toInt8.toInt32, c9.toInt8.toInt32, c10.toInt8.toInt32, c11.toInt8.toInt32, c12.toInt8.toInt32, c13.toInt8.toInt32, c14.toInt8.toInt32, c15.toInt8.toInt32, c16.toInt8.toInt32, c17.toInt8.toInt32, c18.toInt8.toInt32]).length)), (.ref w2)]))
  obtain ⟨_, _, ⟨T166, L166, k166, n166⟩, -, X166, ⟨Lc166, hQ166, l166, y166, z166⟩, st166⟩ := Jvm.LawKit.callS X163 hx (y := (⟨"com/example/highwater/highwater/config/TokenSecretFromTextPinLaw", "step", "([BIC)I"⟩ : MethodName)) hown (mvT hZ (hw _ (List.mem_of_getElem? (i := 112) rfl))) (mvT hZ (hw _ (List.mem_of_getElem? (i := 113) rfl))) (mvT hZ (hw _ (List.mem_of_getElem? (i := 3) rfl))) (mvT hZ (hw _ (List.mem_of_getElem? (i := 114) rfl))) (by decide) (backOf (W := 0) (own_rm_stp l Z a0 hw [] w2 kw2 [c0.toInt8.toInt32, c1.toInt8.toInt32, c2.toInt8.toInt32, c3.toInt8.toInt32, c4.toInt8.toInt32, c5.toInt8.toInt32, c6.toInt8.toInt32, c7.toInt8.toInt32, c8.toInt8.toInt32, c9.toInt8.toInt32, c10.toInt8.toInt32, c11.toInt8.toInt32, c12.toInt8.toInt32, c13.toInt8.toInt32, c14.toInt8.toInt32, c15.toInt8.toInt32, c16.toInt8.toInt32, c17.toInt8.toInt32, c18.toInt8.toInt32, c19.toInt8.toInt32, c20.toInt8.toInt32, c21.toInt8.toInt32, c22.toInt8.toInt32, c23.toInt8.toInt32] [c0.toInt8.toInt32, c1.toInt8.toInt32, c2.toInt8.toInt32, c3.toInt8.toInt32, c4.toInt8.toInt32, c5.toInt8.toInt32, c6.toInt8.toInt32, c7.toInt8.toInt32, c8.toInt8.toInt32, c9.toInt8.toInt32, c10.toInt8.toInt32, c11.toInt8.toInt32, c12.toInt8.toInt32, c13.toInt8.toInt32, c14.toInt8.toInt32, c15.toInt8.toInt32, c16.toInt8.toInt32, c17.toInt8.toInt32, c18.toInt8.toInt32] [c20.toInt8.toInt32, c21.toInt8.toInt32, c22.toInt8.toInt32, c23.toInt8.toInt32] [c0.toInt8.toInt32, c1.toInt8.toInt32, c2.toInt8.toInt32, c3.toInt8.toInt32, c4.toInt8.toInt32, c5.toInt8.toInt32, c6.toInt8.toInt32, c7.toInt8.toInt32, c8.toInt8.toInt32, c9.toInt8.toInt32, c10.toInt8.toInt32, c11.toInt8.toInt32, c12.toInt8.toInt32, c13.toInt8.toInt32, c14.toInt8.toInt32, c15.toInt8.toInt32, c16.toInt8.toInt32, c17.toInt8.toInt32, c18.toInt8.toInt32, c19.toInt8.toInt32] c19 T105.heap n0 (Nat.le_trans Z0 K106.1) rfl rfl V_w2 hc19 h32.2) hZ (hw _ (List.mem_of_getElem? (i := 114) rfl)) (hw _ (List.mem_of_getElem? (i := 3) rfl)) (by decide) (by decide)) (g := (mkF m 543 #[.val (.long i0), .second, .val (.long i1), .second, .val (.long i2), .second, .val (.ref s0), .val (.ref w2), .val (.int (Int32.ofNat (own_enc [c0.toInt8.toInt32, c1.toInt8.toInt32, c2.toInt8.toInt32, c3.toInt8.toInt32, c4.toInt8.toInt32, c5.toInt8.toInt32, c6.toInt8.toInt32, c7.toInt8.toInt32, c8.toInt8.toInt32, c9.toInt8.toInt32, c10.toInt8.toInt32, c11.toInt8.toInt32, c12.toInt8.toInt32, c13.toInt8.toInt32, c14.toInt8.toInt32, c15.toInt8.toInt32, c16.toInt8.toInt32, c17.toInt8.toInt32, c18.toInt8.toInt32]).length))] [(.int c19), (.int (Int32.ofNat (own_enc [c0.toInt8.toInt32, c1.toInt8.toInt32, c2.toInt8.toInt32, c3.toInt8.toInt32, c4.toInt8.toInt32, c5.toInt8.toInt32, c6.toInt8.toInt32, c7.toInt8.toInt32, c8.toInt8.toInt32, c9.toInt8.toInt32, c10.toInt8.toInt32, c11.toInt8.toInt32, c12.toInt8.toInt32, c13.toInt8.toInt32, c14.toInt8.toInt32, c15.toInt8.toInt32, c16.toInt8.toInt32, c17.toInt8.toInt32, c18.toInt8.toInt32]).length)), (.ref w2)])) rfl (by rw [hml]; rfl) (argsL := [(.ref w2), (.int (Int32.ofNat (own_enc [c0.toInt8.toInt32, c1.toInt8.toInt32, c2.toInt8.toInt32, c3.toInt8.toInt32, c4.toInt8.toInt32, c5.toInt8.toInt32, c6.toInt8.toInt32, c7.toInt8.toInt32, c8.toInt8.toInt32, c9.toInt8.toInt32, c10.toInt8.toInt32, c11.toInt8.toInt32, c12.toInt8.toInt32, c13.toInt8.toInt32, c14.toInt8.toInt32, c15.toInt8.toInt32, c16.toInt8.toInt32, c17.toInt8.toInt32, c18.toInt8.toInt32]).length)), (.int c19)]) (rest := []) (lenOf own_pd15 rfl) rfl (by show 2 * 0 + _ ≤ _; exact Nat.le_of_eq rfl) (hb hby at_543) (fun _ _ => ⟨rfl, e163, (by decide : 7 + 0 ≤ _), (by decide : 197 + 0 ≤ _)⟩)
  dsimp only [Pt.U, Pt.locs, Pt.cells, Pt.slots] at X166 l166 y166 z166 st166 hQ166
  obtain rfl : k166 = 7 := y166
  obtain rfl : n166 = 197 := z166
  obtain ⟨rfl, N166q, e166⟩ := hQ166
  have N166 : Fr n0 L166 := by rw [l166]; exact Fr.app N163 N166q
  try clear l166
  refine own_st st166 ?_
  show own_Gl p e below _ (T166.setTop (mkF m 546 #[.val (.long i0), .second, .val (.long i1), .second, .val (.long i2), .second, .val (.ref s0), .val (.ref w2), .val (.int (Int32.ofNat (own_enc [c0.toInt8.toInt32, c1.toInt8.toInt32, c2.toInt8.toInt32, c3.toInt8.toInt32, c4.toInt8.toInt32, c5.toInt8.toInt32, c6.toInt8.toInt32, c7.toInt8.toInt32, c8.toInt8.toInt32, c9.toInt8.toInt32, c10.toInt8.toInt32, c11.toInt8.toInt32, c12.toInt8.toInt32, c13.toInt8.toInt32, c14.toInt8.toInt32, c15.toInt8.toInt32, c16.toInt8.toInt32, c17.toInt8.toInt32, c18.toInt8.toInt32]).length))] [(.int (Int32.ofNat (own_enc [c0.toInt8.toInt32, c1.toInt8.toInt32, c2.toInt8.toInt32, c3.toInt8.toInt32, c4.toInt8.toInt32, c5.toInt8.toInt32, c6.toInt8.toInt32, c7.toInt8.toInt32, c8.toInt8.toInt32, c9.toInt8.toInt32, c10.toInt8.toInt32, c11.toInt8.toInt32, c12.toInt8.toInt32, c13.toInt8.toInt32, c14.toInt8.toInt32, c15.toInt8.toInt32, c16.toInt8.toInt32, c17.toInt8.toInt32, c18.toInt8.toInt32, c19.toInt8.toInt32]).length))]))
  try clear st166
  try clear N166q
  try clear N163
  try clear e163
  try clear X163
  try clear T163
  refine own_st (fun tg_ kg_ => XS.istore X166.here hx rfl (hb hby at_546) rfl (l' := #[.val (.long i0), .second, .val (.long i1), .second, .val (.long i2), .second, .val (.ref s0), .val (.ref w2), .val (.int (Int32.ofNat (own_enc [c0.toInt8.toInt32, c1.toInt8.toInt32, c2.toInt8.toInt32, c3.toInt8.toInt32, c4.toInt8.toInt32, c5.toInt8.toInt32, c6.toInt8.toInt32, c7.toInt8.toInt32, c8.toInt8.toInt32, c9.toInt8.toInt32, c10.toInt8.toInt32, c11.toInt8.toInt32, c12.toInt8.toInt32, c13.toInt8.toInt32, c14.toInt8.toInt32, c15.toInt8.toInt32, c16.toInt8.toInt32, c17.toInt8.toInt32, c18.toInt8.toInt32, c19.toInt8.toInt32]).length))]) rfl kg_) ?_
  show own_Gl p e below _ (T166.setTop (mkF m 548 #[.val (.long i0), .second, .val (.long i1), .second, .val (.long i2), .second, .val (.ref s0), .val (.ref w2), .val (.int (Int32.ofNat (own_enc [c0.toInt8.toInt32, c1.toInt8.toInt32, c2.toInt8.toInt32, c3.toInt8.toInt32, c4.toInt8.toInt32, c5.toInt8.toInt32, c6.toInt8.toInt32, c7.toInt8.toInt32, c8.toInt8.toInt32, c9.toInt8.toInt32, c10.toInt8.toInt32, c11.toInt8.toInt32, c12.toInt8.toInt32, c13.toInt8.toInt32, c14.toInt8.toInt32, c15.toInt8.toInt32, c16.toInt8.toInt32, c17.toInt8.toInt32, c18.toInt8.toInt32, c19.toInt8.toInt32]).length))] []))
  refine own_st (fun tg_ kg_ => XS.aload X166.here hx rfl (hb hby at_548) rfl rfl kg_) ?_
  show own_Gl p e below _ (T166.setTop (mkF m 550 #[.val (.long i0), .second, .val (.long i1), .second, .val (.long i2), .second, .val (.ref s0), .val (.ref w2), .val (.int (Int32.ofNat (own_enc [c0.toInt8.toInt32, c1.toInt8.toInt32, c2.toInt8.toInt32, c3.toInt8.toInt32, c4.toInt8.toInt32, c5.toInt8.toInt32, c6.toInt8.toInt32, c7.toInt8.toInt32, c8.toInt8.toInt32, c9.toInt8.toInt32, c10.toInt8.toInt32, c11.toInt8.toInt32, c12.toInt8.toInt32, c13.toInt8.toInt32, c14.toInt8.toInt32, c15.toInt8.toInt32, c16.toInt8.toInt32, c17.toInt8.toInt32, c18.toInt8.toInt32, c19.toInt8.toInt32]).length))] [(.ref w2)]))
  refine own_st (fun tg_ kg_ => XS.iload X166.here hx rfl (hb hby at_550) rfl kg_) ?_
  show own_Gl p e below _ (T166.setTop (mkF m 552 #[.val (.long i0), .second, .val (.long i1), .second, .val (.long i2), .second, .val (.ref s0), .val (.ref w2), .val (.int (Int32.ofNat (own_enc [c0.toInt8.toInt32, c1.toInt8.toInt32, c2.toInt8.toInt32, c3.toInt8.toInt32, c4.toInt8.toInt32, c5.toInt8.toInt32, c6.toInt8.toInt32, c7.toInt8.toInt32, c8.toInt8.toInt32, c9.toInt8.toInt32, c10.toInt8.toInt32, c11.toInt8.toInt32, c12.toInt8.toInt32, c13.toInt8.toInt32, c14.toInt8.toInt32, c15.toInt8.toInt32, c16.toInt8.toInt32, c17.toInt8.toInt32, c18.toInt8.toInt32, c19.toInt8.toInt32]).length))] [(.int (Int32.ofNat (own_enc [c0.toInt8.toInt32, c1.toInt8.toInt32, c2.toInt8.toInt32, c3.toInt8.toInt32, c4.toInt8.toInt32, c5.toInt8.toInt32, c6.toInt8.toInt32, c7.toInt8.toInt32, c8.toInt8.toInt32, c9.toInt8.toInt32, c10.toInt8.toInt32, c11.toInt8.toInt32, c12.toInt8.toInt32, c13.toInt8.toInt32, c14.toInt8.toInt32, c15.toInt8.toInt32, c16.toInt8.toInt32, c17.toInt8.toInt32, c18.toInt8.toInt32, c19.toInt8.toInt32]).length)), (.ref w2)]))
  refine own_st (fun tg_ kg_ => XS.aload X166.here hx rfl (hb hby at_552) rfl rfl kg_) ?_
  show own_Gl p e below _ (T166.setTop (mkF m 554 #[.val (.long i0), .second, .val (.long i1), .second, .val (.long i2), .second, .val (.ref s0), .val (.ref w2), .val (.int (Int32.ofNat (own_enc [c0.toInt8.toInt32, c1.toInt8.toInt32, c2.toInt8.toInt32, c3.toInt8.toInt32, c4.toInt8.toInt32, c5.toInt8.toInt32, c6.toInt8.toInt32, c7.toInt8.toInt32, c8.toInt8.toInt32, c9.toInt8.toInt32, c10.toInt8.toInt32, c11.toInt8.toInt32, c12.toInt8.toInt32, c13.toInt8.toInt32, c14.toInt8.toInt32, c15.toInt8.toInt32, c16.toInt8.toInt32, c17.toInt8.toInt32, c18.toInt8.toInt32, c19.toInt8.toInt32]).length))] [(.ref s0), (.int (Int32.ofNat (own_enc [c0.toInt8.toInt32, c1.toInt8.toInt32, c2.toInt8.toInt32, c3.toInt8.toInt32, c4.toInt8.toInt32, c5.toInt8.toInt32, c6.toInt8.toInt32, c7.toInt8.toInt32, c8.toInt8.toInt32, c9.toInt8.toInt32, c10.toInt8.toInt32, c11.toInt8.toInt32, c12.toInt8.toInt32, c13.toInt8.toInt32, c14.toInt8.toInt32, c15.toInt8.toInt32, c16.toInt8.toInt32, c17.toInt8.toInt32, c18.toInt8.toInt32, c19.toInt8.toInt32]).length)), (.ref w2)]))
  refine own_st (fun tg_ kg_ => XS.bipush X166.here hx rfl (hb hby at_554) kg_) ?_
  show own_Gl p e below _ (T166.setTop (mkF m 556 #[.val (.long i0), .second, .val (.long i1), .second, .val (.long i2), .second, .val (.ref s0), .val (.ref w2), .val (.int (Int32.ofNat (own_enc [c0.toInt8.toInt32, c1.toInt8.toInt32, c2.toInt8.toInt32, c3.toInt8.toInt32, c4.toInt8.toInt32, c5.toInt8.toInt32, c6.toInt8.toInt32, c7.toInt8.toInt32, c8.toInt8.toInt32, c9.toInt8.toInt32, c10.toInt8.toInt32, c11.toInt8.toInt32, c12.toInt8.toInt32, c13.toInt8.toInt32, c14.toInt8.toInt32, c15.toInt8.toInt32, c16.toInt8.toInt32, c17.toInt8.toInt32, c18.toInt8.toInt32, c19.toInt8.toInt32]).length))] [(.int (20 : Int32)), (.ref s0), (.int (Int32.ofNat (own_enc [c0.toInt8.toInt32, c1.toInt8.toInt32, c2.toInt8.toInt32, c3.toInt8.toInt32, c4.toInt8.toInt32, c5.toInt8.toInt32, c6.toInt8.toInt32, c7.toInt8.toInt32, c8.toInt8.toInt32, c9.toInt8.toInt32, c10.toInt8.toInt32, c11.toInt8.toInt32, c12.toInt8.toInt32, c13.toInt8.toInt32, c14.toInt8.toInt32, c15.toInt8.toInt32, c16.toInt8.toInt32, c17.toInt8.toInt32, c18.toInt8.toInt32, c19.toInt8.toInt32]).length)), (.ref w2)]))
  obtain ⟨cl167, Ar167, qa167, Sa167, Na167, Ha167, Ga167⟩ := id V_s0
  have hin168 : ¬ ((20 : Int32) < 0 ∨ cl167.slots.size ≤ ((20 : Int32)).toNatClampNeg) := inb_of Sa167 ⟨by decide, by decide⟩
  have hat168 : cl167.slots[((20 : Int32)).toNatClampNeg]? = some (.int c20) := Has.at Ha167 hin168 rfl
  refine own_st (fun tg_ kg_ => X166.caload hx (j := (20 : Int32)) (v := (.int c20)) (by rw [e166]; exact Ar167.1) (State.isArrayOf_alike hZ.alike Ar167.2.1) Ar167.2.2 hin168 hat168 (g := (mkF m 556 #[.val (.long i0), .second, .val (.long i1), .second, .val (.long i2), .second, .val (.ref s0), .val (.ref w2), .val (.int (Int32.ofNat (own_enc [c0.toInt8.toInt32, c1.toInt8.toInt32, c2.toInt8.toInt32, c3.toInt8.toInt32, c4.toInt8.toInt32, c5.toInt8.toInt32, c6.toInt8.toInt32, c7.toInt8.toInt32, c8.toInt8.toInt32, c9.toInt8.toInt32, c10.toInt8.toInt32, c11.toInt8.toInt32, c12.toInt8.toInt32, c13.toInt8.toInt32, c14.toInt8.toInt32, c15.toInt8.toInt32, c16.toInt8.toInt32, c17.toInt8.toInt32, c18.toInt8.toInt32, c19.toInt8.toInt32]).length))] [(.int (20 : Int32)), (.ref s0), (.int (Int32.ofNat (own_enc [c0.toInt8.toInt32, c1.toInt8.toInt32, c2.toInt8.toInt32, c3.toInt8.toInt32, c4.toInt8.toInt32, c5.toInt8.toInt32, c6.toInt8.toInt32, c7.toInt8.toInt32, c8.toInt8.toInt32, c9.toInt8.toInt32, c10.toInt8.toInt32, c11.toInt8.toInt32, c12.toInt8.toInt32, c13.toInt8.toInt32, c14.toInt8.toInt32, c15.toInt8.toInt32, c16.toInt8.toInt32, c17.toInt8.toInt32, c18.toInt8.toInt32, c19.toInt8.toInt32]).length)), (.ref w2)])) rfl rfl (hb hby at_556) _ kg_) ?_
  show own_Gl p e below _ (T166.setTop (mkF m 557 #[.val (.long i0), .second, .val (.long i1), .second, .val (.long i2), .second, .val (.ref s0), .val (.ref w2), .val (.int (Int32.ofNat (own_enc [c0.toInt8.toInt32, c1.toInt8.toInt32, c2.toInt8.toInt32, c3.toInt8.toInt32, c4.toInt8.toInt32, c5.toInt8.toInt32, c6.toInt8.toInt32, c7.toInt8.toInt32, c8.toInt8.toInt32, c9.toInt8.toInt32, c10.toInt8.toInt32, c11.toInt8.toInt32, c12.toInt8.toInt32, c13.toInt8.toInt32, c14.toInt8.toInt32, c15.toInt8.toInt32, c16.toInt8.toInt32, c17.toInt8.toInt32, c18.toInt8.toInt32, c19.toInt8.toInt32]).length))] [(.int c20), (.int (Int32.ofNat (own_enc [c0.toInt8.toInt32, c1.toInt8.toInt32, c2.toInt8.toInt32, c3.toInt8.toInt32, c4.toInt8.toInt32, c5.toInt8.toInt32, c6.toInt8.toInt32, c7.toInt8.toInt32, c8.toInt8.toInt32, c9.toInt8.toInt32, c10.toInt8.toInt32, c11.toInt8.toInt32, c12.toInt8.toInt32, c13.toInt8.toInt32, c14.toInt8.toInt32, c15.toInt8.toInt32, c16.toInt8.toInt32, c17.toInt8.toInt32, c18.toInt8.toInt32, c19.toInt8.toInt32]).length)), (.ref w2)]))
  obtain ⟨_, _, ⟨T169, L169, k169, n169⟩, -, X169, ⟨Lc169, hQ169, l169, y169, z169⟩, st169⟩ := Jvm.LawKit.callS X166 hx (y := (⟨"com/example/highwater/highwater/config/TokenSecretFromTextPinLaw", "step", "([BIC)I"⟩ : MethodName)) hown (mvT hZ (hw _ (List.mem_of_getElem? (i := 112) rfl))) (mvT hZ (hw _ (List.mem_of_getElem? (i := 113) rfl))) (mvT hZ (hw _ (List.mem_of_getElem? (i := 3) rfl))) (mvT hZ (hw _ (List.mem_of_getElem? (i := 114) rfl))) (by decide) (backOf (W := 0) (own_rm_stp l Z a0 hw [] w2 kw2 [c0.toInt8.toInt32, c1.toInt8.toInt32, c2.toInt8.toInt32, c3.toInt8.toInt32, c4.toInt8.toInt32, c5.toInt8.toInt32, c6.toInt8.toInt32, c7.toInt8.toInt32, c8.toInt8.toInt32, c9.toInt8.toInt32, c10.toInt8.toInt32, c11.toInt8.toInt32, c12.toInt8.toInt32, c13.toInt8.toInt32, c14.toInt8.toInt32, c15.toInt8.toInt32, c16.toInt8.toInt32, c17.toInt8.toInt32, c18.toInt8.toInt32, c19.toInt8.toInt32, c20.toInt8.toInt32, c21.toInt8.toInt32, c22.toInt8.toInt32, c23.toInt8.toInt32] [c0.toInt8.toInt32, c1.toInt8.toInt32, c2.toInt8.toInt32, c3.toInt8.toInt32, c4.toInt8.toInt32, c5.toInt8.toInt32, c6.toInt8.toInt32, c7.toInt8.toInt32, c8.toInt8.toInt32, c9.toInt8.toInt32, c10.toInt8.toInt32, c11.toInt8.toInt32, c12.toInt8.toInt32, c13.toInt8.toInt32, c14.toInt8.toInt32, c15.toInt8.toInt32, c16.toInt8.toInt32, c17.toInt8.toInt32, c18.toInt8.toInt32, c19.toInt8.toInt32] [c21.toInt8.toInt32, c22.toInt8.toInt32, c23.toInt8.toInt32] [c0.toInt8.toInt32, c1.toInt8.toInt32, c2.toInt8.toInt32, c3.toInt8.toInt32, c4.toInt8.toInt32, c5.toInt8.toInt32, c6.toInt8.toInt32, c7.toInt8.toInt32, c8.toInt8.toInt32, c9.toInt8.toInt32, c10.toInt8.toInt32, c11.toInt8.toInt32, c12.toInt8.toInt32, c13.toInt8.toInt32, c14.toInt8.toInt32, c15.toInt8.toInt32, c16.toInt8.toInt32, c17.toInt8.toInt32, c18.toInt8.toInt32, c19.toInt8.toInt32, c20.toInt8.toInt32] c20 T105.heap n0 (Nat.le_trans Z0 K106.1) rfl rfl V_w2 hc20 h32.2) hZ (hw _ (List.mem_of_getElem? (i := 114) rfl)) (hw _ (List.mem_of_getElem? (i := 3) rfl)) (by decide) (by decide)) (g := (mkF m 557 #[.val (.long i0), .second, .val (.long i1), .second, .val (.long i2), .second, .val (.ref s0), .val (.ref w2), .val (.int (Int32.ofNat (own_enc [c0.toInt8.toInt32, c1.toInt8.toInt32, c2.toInt8.toInt32, c3.toInt8.toInt32, c4.toInt8.toInt32, c5.toInt8.toInt32, c6.toInt8.toInt32, c7.toInt8.toInt32, c8.toInt8.toInt32, c9.toInt8.toInt32, c10.toInt8.toInt32, c11.toInt8.toInt32, c12.toInt8.toInt32, c13.toInt8.toInt32, c14.toInt8.toInt32, c15.toInt8.toInt32, c16.toInt8.toInt32, c17.toInt8.toInt32, c18.toInt8.toInt32, c19.toInt8.toInt32]).length))] [(.int c20), (.int (Int32.ofNat (own_enc [c0.toInt8.toInt32, c1.toInt8.toInt32, c2.toInt8.toInt32, c3.toInt8.toInt32, c4.toInt8.toInt32, c5.toInt8.toInt32, c6.toInt8.toInt32, c7.toInt8.toInt32, c8.toInt8.toInt32, c9.toInt8.toInt32, c10.toInt8.toInt32, c11.toInt8.toInt32, c12.toInt8.toInt32, c13.toInt8.toInt32, c14.toInt8.toInt32, c15.toInt8.toInt32, c16.toInt8.toInt32, c17.toInt8.toInt32, c18.toInt8.toInt32, c19.toInt8.toInt32]).length)), (.ref w2)])) rfl (by rw [hml]; rfl) (argsL := [(.ref w2), (.int (Int32.ofNat (own_enc [c0.toInt8.toInt32, c1.toInt8.toInt32, c2.toInt8.toInt32, c3.toInt8.toInt32, c4.toInt8.toInt32, c5.toInt8.toInt32, c6.toInt8.toInt32, c7.toInt8.toInt32, c8.toInt8.toInt32, c9.toInt8.toInt32, c10.toInt8.toInt32, c11.toInt8.toInt32, c12.toInt8.toInt32, c13.toInt8.toInt32, c14.toInt8.toInt32, c15.toInt8.toInt32, c16.toInt8.toInt32, c17.toInt8.toInt32, c18.toInt8.toInt32, c19.toInt8.toInt32]).length)), (.int c20)]) (rest := []) (lenOf own_pd15 rfl) rfl (by show 2 * 0 + _ ≤ _; exact Nat.le_of_eq rfl) (hb hby at_557) (fun _ _ => ⟨rfl, e166, (by decide : 7 + 0 ≤ _), (by decide : 197 + 0 ≤ _)⟩)
  dsimp only [Pt.U, Pt.locs, Pt.cells, Pt.slots] at X169 l169 y169 z169 st169 hQ169
  obtain rfl : k169 = 7 := y169
  obtain rfl : n169 = 197 := z169
  obtain ⟨rfl, N169q, e169⟩ := hQ169
  have N169 : Fr n0 L169 := by rw [l169]; exact Fr.app N166 N169q
  try clear l169
  refine own_st st169 ?_
  show own_Gl p e below _ (T169.setTop (mkF m 560 #[.val (.long i0), .second, .val (.long i1), .second, .val (.long i2), .second, .val (.ref s0), .val (.ref w2), .val (.int (Int32.ofNat (own_enc [c0.toInt8.toInt32, c1.toInt8.toInt32, c2.toInt8.toInt32, c3.toInt8.toInt32, c4.toInt8.toInt32, c5.toInt8.toInt32, c6.toInt8.toInt32, c7.toInt8.toInt32, c8.toInt8.toInt32, c9.toInt8.toInt32, c10.toInt8.toInt32, c11.toInt8.toInt32, c12.toInt8.toInt32, c13.toInt8.toInt32, c14.toInt8.toInt32, c15.toInt8.toInt32, c16.toInt8.toInt32, c17.toInt8.toInt32, c18.toInt8.toInt32, c19.toInt8.toInt32]).length))] [(.int (Int32.ofNat (own_enc [c0.toInt8.toInt32, c1.toInt8.toInt32, c2.toInt8.toInt32, c3.toInt8.toInt32, c4.toInt8.toInt32, c5.toInt8.toInt32, c6.toInt8.toInt32, c7.toInt8.toInt32, c8.toInt8.toInt32, c9.toInt8.toInt32, c10.toInt8.toInt32, c11.toInt8.toInt32, c12.toInt8.toInt32, c13.toInt8.toInt32, c14.toInt8.toInt32, c15.toInt8.toInt32, c16.toInt8.toInt32, c17.toInt8.toInt32, c18.toInt8.toInt32, c19.toInt8.toInt32, c20.toInt8.toInt32]).length))]))
  try clear st169
  try clear N169q
  try clear N166
  try clear e166
  try clear X166
  try clear T166
  refine own_st (fun tg_ kg_ => XS.istore X169.here hx rfl (hb hby at_560) rfl (l' := #[.val (.long i0), .second, .val (.long i1), .second, .val (.long i2), .second, .val (.ref s0), .val (.ref w2), .val (.int (Int32.ofNat (own_enc [c0.toInt8.toInt32, c1.toInt8.toInt32, c2.toInt8.toInt32, c3.toInt8.toInt32, c4.toInt8.toInt32, c5.toInt8.toInt32, c6.toInt8.toInt32, c7.toInt8.toInt32, c8.toInt8.toInt32, c9.toInt8.toInt32, c10.toInt8.toInt32, c11.toInt8.toInt32, c12.toInt8.toInt32, c13.toInt8.toInt32, c14.toInt8.toInt32, c15.toInt8.toInt32, c16.toInt8.toInt32, c17.toInt8.toInt32, c18.toInt8.toInt32, c19.toInt8.toInt32, c20.toInt8.toInt32]).length))]) rfl kg_) ?_
  show own_Gl p e below _ (T169.setTop (mkF m 562 #[.val (.long i0), .second, .val (.long i1), .second, .val (.long i2), .second, .val (.ref s0), .val (.ref w2), .val (.int (Int32.ofNat (own_enc [c0.toInt8.toInt32, c1.toInt8.toInt32, c2.toInt8.toInt32, c3.toInt8.toInt32, c4.toInt8.toInt32, c5.toInt8.toInt32, c6.toInt8.toInt32, c7.toInt8.toInt32, c8.toInt8.toInt32, c9.toInt8.toInt32, c10.toInt8.toInt32, c11.toInt8.toInt32, c12.toInt8.toInt32, c13.toInt8.toInt32, c14.toInt8.toInt32, c15.toInt8.toInt32, c16.toInt8.toInt32, c17.toInt8.toInt32, c18.toInt8.toInt32, c19.toInt8.toInt32, c20.toInt8.toInt32]).length))] []))
  refine own_st (fun tg_ kg_ => XS.aload X169.here hx rfl (hb hby at_562) rfl rfl kg_) ?_
  show own_Gl p e below _ (T169.setTop (mkF m 564 #[.val (.long i0), .second, .val (.long i1), .second, .val (.long i2), .second, .val (.ref s0), .val (.ref w2), .val (.int (Int32.ofNat (own_enc [c0.toInt8.toInt32, c1.toInt8.toInt32, c2.toInt8.toInt32, c3.toInt8.toInt32, c4.toInt8.toInt32, c5.toInt8.toInt32, c6.toInt8.toInt32, c7.toInt8.toInt32, c8.toInt8.toInt32, c9.toInt8.toInt32, c10.toInt8.toInt32, c11.toInt8.toInt32, c12.toInt8.toInt32, c13.toInt8.toInt32, c14.toInt8.toInt32, c15.toInt8.toInt32, c16.toInt8.toInt32, c17.toInt8.toInt32, c18.toInt8.toInt32, c19.toInt8.toInt32, c20.toInt8.toInt32]).length))] [(.ref w2)]))
  refine own_st (fun tg_ kg_ => XS.iload X169.here hx rfl (hb hby at_564) rfl kg_) ?_
  show own_Gl p e below _ (T169.setTop (mkF m 566 #[.val (.long i0), .second, .val (.long i1), .second, .val (.long i2), .second, .val (.ref s0), .val (.ref w2), .val (.int (Int32.ofNat (own_enc [c0.toInt8.toInt32, c1.toInt8.toInt32, c2.toInt8.toInt32, c3.toInt8.toInt32, c4.toInt8.toInt32, c5.toInt8.toInt32, c6.toInt8.toInt32, c7.toInt8.toInt32, c8.toInt8.toInt32, c9.toInt8.toInt32, c10.toInt8.toInt32, c11.toInt8.toInt32, c12.toInt8.toInt32, c13.toInt8.toInt32, c14.toInt8.toInt32, c15.toInt8.toInt32, c16.toInt8.toInt32, c17.toInt8.toInt32, c18.toInt8.toInt32, c19.toInt8.toInt32, c20.toInt8.toInt32]).length))] [(.int (Int32.ofNat (own_enc [c0.toInt8.toInt32, c1.toInt8.toInt32, c2.toInt8.toInt32, c3.toInt8.toInt32, c4.toInt8.toInt32, c5.toInt8.toInt32, c6.toInt8.toInt32, c7.toInt8.toInt32, c8.toInt8.toInt32, c9.toInt8.toInt32, c10.toInt8.toInt32, c11.toInt8.toInt32, c12.toInt8.toInt32, c13.toInt8.toInt32, c14.toInt8.toInt32, c15.toInt8.toInt32, c16.toInt8.toInt32, c17.toInt8.toInt32, c18.toInt8.toInt32, c19.toInt8.toInt32, c20.toInt8.toInt32]).length)), (.ref w2)]))
  refine own_st (fun tg_ kg_ => XS.aload X169.here hx rfl (hb hby at_566) rfl rfl kg_) ?_
  show own_Gl p e below _ (T169.setTop (mkF m 568 #[.val (.long i0), .second, .val (.long i1), .second, .val (.long i2), .second, .val (.ref s0), .val (.ref w2), .val (.int (Int32.ofNat (own_enc [c0.toInt8.toInt32, c1.toInt8.toInt32, c2.toInt8.toInt32, c3.toInt8.toInt32, c4.toInt8.toInt32, c5.toInt8.toInt32, c6.toInt8.toInt32, c7.toInt8.toInt32, c8.toInt8.toInt32, c9.toInt8.toInt32, c10.toInt8.toInt32, c11.toInt8.toInt32, c12.toInt8.toInt32, c13.toInt8.toInt32, c14.toInt8.toInt32, c15.toInt8.toInt32, c16.toInt8.toInt32, c17.toInt8.toInt32, c18.toInt8.toInt32, c19.toInt8.toInt32, c20.toInt8.toInt32]).length))] [(.ref s0), (.int (Int32.ofNat (own_enc [c0.toInt8.toInt32, c1.toInt8.toInt32, c2.toInt8.toInt32, c3.toInt8.toInt32, c4.toInt8.toInt32, c5.toInt8.toInt32, c6.toInt8.toInt32, c7.toInt8.toInt32, c8.toInt8.toInt32, c9.toInt8.toInt32, c10.toInt8.toInt32, c11.toInt8.toInt32, c12.toInt8.toInt32, c13.toInt8.toInt32, c14.toInt8.toInt32, c15.toInt8.toInt32, c16.toInt8.toInt32, c17.toInt8.toInt32, c18.toInt8.toInt32, c19.toInt8.toInt32, c20.toInt8.toInt32]).length)), (.ref w2)]))
  refine own_st (fun tg_ kg_ => XS.bipush X169.here hx rfl (hb hby at_568) kg_) ?_
  show own_Gl p e below _ (T169.setTop (mkF m 570 #[.val (.long i0), .second, .val (.long i1), .second, .val (.long i2), .second, .val (.ref s0), .val (.ref w2), .val (.int (Int32.ofNat (own_enc [c0.toInt8.toInt32, c1.toInt8.toInt32, c2.toInt8.toInt32, c3.toInt8.toInt32, c4.toInt8.toInt32, c5.toInt8.toInt32, c6.toInt8.toInt32, c7.toInt8.toInt32, c8.toInt8.toInt32, c9.toInt8.toInt32, c10.toInt8.toInt32, c11.toInt8.toInt32, c12.toInt8.toInt32, c13.toInt8.toInt32, c14.toInt8.toInt32, c15.toInt8.toInt32, c16.toInt8.toInt32, c17.toInt8.toInt32, c18.toInt8.toInt32, c19.toInt8.toInt32, c20.toInt8.toInt32]).length))] [(.int (21 : Int32)), (.ref s0), (.int (Int32.ofNat (own_enc [c0.toInt8.toInt32, c1.toInt8.toInt32, c2.toInt8.toInt32, c3.toInt8.toInt32, c4.toInt8.toInt32, c5.toInt8.toInt32, c6.toInt8.toInt32, c7.toInt8.toInt32, c8.toInt8.toInt32, c9.toInt8.toInt32, c10.toInt8.toInt32, c11.toInt8.toInt32, c12.toInt8.toInt32, c13.toInt8.toInt32, c14.toInt8.toInt32, c15.toInt8.toInt32, c16.toInt8.toInt32, c17.toInt8.toInt32, c18.toInt8.toInt32, c19.toInt8.toInt32, c20.toInt8.toInt32]).length)), (.ref w2)]))
  obtain ⟨cl170, Ar170, qa170, Sa170, Na170, Ha170, Ga170⟩ := id V_s0
  have hin171 : ¬ ((21 : Int32) < 0 ∨ cl170.slots.size ≤ ((21 : Int32)).toNatClampNeg) := inb_of Sa170 ⟨by decide, by decide⟩
  have hat171 : cl170.slots[((21 : Int32)).toNatClampNeg]? = some (.int c21) := Has.at Ha170 hin171 rfl
  refine own_st (fun tg_ kg_ => X169.caload hx (j := (21 : Int32)) (v := (.int c21)) (by rw [e169]; exact Ar170.1) (State.isArrayOf_alike hZ.alike Ar170.2.1) Ar170.2.2 hin171 hat171 (g := (mkF m 570 #[.val (.long i0), .second, .val (.long i1), .second, .val (.long i2), .second, .val (.ref s0), .val (.ref w2), .val (.int (Int32.ofNat (own_enc [c0.toInt8.toInt32, c1.toInt8.toInt32, c2.toInt8.toInt32, c3.toInt8.toInt32, c4.toInt8.toInt32, c5.toInt8.toInt32, c6.toInt8.toInt32, c7.toInt8.toInt32, c8.toInt8.toInt32, c9.toInt8.toInt32, c10.toInt8.toInt32, c11.toInt8.toInt32, c12.toInt8.toInt32, c13.toInt8.toInt32, c14.toInt8.toInt32, c15.toInt8.toInt32, c16.toInt8.toInt32, c17.toInt8.toInt32, c18.toInt8.toInt32, c19.toInt8.toInt32, c20.toInt8.toInt32]).length))] [(.int (21 : Int32)), (.ref s0), (.int (Int32.ofNat (own_enc [c0.toInt8.toInt32, c1.toInt8.toInt32, c2.toInt8.toInt32, c3.toInt8.toInt32, c4.toInt8.toInt32, c5.toInt8.toInt32, c6.toInt8.toInt32, c7.toInt8.toInt32, c8.toInt8.toInt32, c9.toInt8.toInt32, c10.toInt8.toInt32, c11.toInt8.toInt32, c12.toInt8.toInt32, c13.toInt8.toInt32, c14.toInt8.toInt32, c15.toInt8.toInt32, c16.toInt8.toInt32, c17.toInt8.toInt32, c18.toInt8.toInt32, c19.toInt8.toInt32, c20.toInt8.toInt32]).length)), (.ref w2)])) rfl rfl (hb hby at_570) _ kg_) ?_
  show own_Gl p e below _ (T169.setTop (mkF m 571 #[.val (.long i0), .second, .val (.long i1), .second, .val (.long i2), .second, .val (.ref s0), .val (.ref w2), .val (.int (Int32.ofNat (own_enc [c0.toInt8.toInt32, c1.toInt8.toInt32, c2.toInt8.toInt32, c3.toInt8.toInt32, c4.toInt8.toInt32, c5.toInt8.toInt32, c6.toInt8.toInt32, c7.toInt8.toInt32, c8.toInt8.toInt32, c9.toInt8.toInt32, c10.toInt8.toInt32, c11.toInt8.toInt32, c12.toInt8.toInt32, c13.toInt8.toInt32, c14.toInt8.toInt32, c15.toInt8.toInt32, c16.toInt8.toInt32, c17.toInt8.toInt32, c18.toInt8.toInt32, c19.toInt8.toInt32, c20.toInt8.toInt32]).length))] [(.int c21), (.int (Int32.ofNat (own_enc [c0.toInt8.toInt32, c1.toInt8.toInt32, c2.toInt8.toInt32, c3.toInt8.toInt32, c4.toInt8.toInt32, c5.toInt8.toInt32, c6.toInt8.toInt32, c7.toInt8.toInt32, c8.toInt8.toInt32, c9.toInt8.toInt32, c10.toInt8.toInt32, c11.toInt8.toInt32, c12.toInt8.toInt32, c13.toInt8.toInt32, c14.toInt8.toInt32, c15.toInt8.toInt32, c16.toInt8.toInt32, c17.toInt8.toInt32, c18.toInt8.toInt32, c19.toInt8.toInt32, c20.toInt8.toInt32]).length)), (.ref w2)]))
  obtain ⟨_, _, ⟨T172, L172, k172, n172⟩, -, X172, ⟨Lc172, hQ172, l172, y172, z172⟩, st172⟩ := Jvm.LawKit.callS X169 hx (y := (⟨"com/example/highwater/highwater/config/TokenSecretFromTextPinLaw", "step", "([BIC)I"⟩ : MethodName)) hown (mvT hZ (hw _ (List.mem_of_getElem? (i := 112) rfl))) (mvT hZ (hw _ (List.mem_of_getElem? (i := 113) rfl))) (mvT hZ (hw _ (List.mem_of_getElem? (i := 3) rfl))) (mvT hZ (hw _ (List.mem_of_getElem? (i := 114) rfl))) (by decide) (backOf (W := 0) (own_rm_stp l Z a0 hw [] w2 kw2 [c0.toInt8.toInt32, c1.toInt8.toInt32, c2.toInt8.toInt32, c3.toInt8.toInt32, c4.toInt8.toInt32, c5.toInt8.toInt32, c6.toInt8.toInt32, c7.toInt8.toInt32, c8.toInt8.toInt32, c9.toInt8.toInt32, c10.toInt8.toInt32, c11.toInt8.toInt32, c12.toInt8.toInt32, c13.toInt8.toInt32, c14.toInt8.toInt32, c15.toInt8.toInt32, c16.toInt8.toInt32, c17.toInt8.toInt32, c18.toInt8.toInt32, c19.toInt8.toInt32, c20.toInt8.toInt32, c21.toInt8.toInt32, c22.toInt8.toInt32, c23.toInt8.toInt32] [c0.toInt8.toInt32, c1.toInt8.toInt32, c2.toInt8.toInt32, c3.toInt8.toInt32, c4.toInt8.toInt32, c5.toInt8.toInt32, c6.toInt8.toInt32, c7.toInt8.toInt32, c8.toInt8.toInt32, c9.toInt8.toInt32, c10.toInt8.toInt32, c11.toInt8.toInt32, c12.toInt8.toInt32, c13.toInt8.toInt32, c14.toInt8.toInt32, c15.toInt8.toInt32, c16.toInt8.toInt32, c17.toInt8.toInt32, c18.toInt8.toInt32, c19.toInt8.toInt32, c20.toInt8.toInt32] [c22.toInt8.toInt32, c23.toInt8.toInt32] [c0.toInt8.toInt32, c1.toInt8.toInt32, c2.toInt8.toInt32, c3.toInt8.toInt32, c4.toInt8.toInt32, c5.toInt8.toInt32, c6.toInt8.toInt32, c7.toInt8.toInt32, c8.toInt8.toInt32, c9.toInt8.toInt32, c10.toInt8.toInt32, c11.toInt8.toInt32, c12.toInt8.toInt32, c13.toInt8.toInt32, c14.toInt8.toInt32, c15.toInt8.toInt32, c16.toInt8.toInt32, c17.toInt8.toInt32, c18.toInt8.toInt32, c19.toInt8.toInt32, c20.toInt8.toInt32, c21.toInt8.toInt32] c21 T105.heap n0 (Nat.le_trans Z0 K106.1) rfl rfl V_w2 hc21 h32.2) hZ (hw _ (List.mem_of_getElem? (i := 114) rfl)) (hw _ (List.mem_of_getElem? (i := 3) rfl)) (by decide) (by decide)) (g := (mkF m 571 #[.val (.long i0), .second, .val (.long i1), .second, .val (.long i2), .second, .val (.ref s0), .val (.ref w2), .val (.int (Int32.ofNat (own_enc [c0.toInt8.toInt32, c1.toInt8.toInt32, c2.toInt8.toInt32, c3.toInt8.toInt32, c4.toInt8.toInt32, c5.toInt8.toInt32, c6.toInt8.toInt32, c7.toInt8.toInt32, c8.toInt8.toInt32, c9.toInt8.toInt32, c10.toInt8.toInt32, c11.toInt8.toInt32, c12.toInt8.toInt32, c13.toInt8.toInt32, c14.toInt8.toInt32, c15.toInt8.toInt32, c16.toInt8.toInt32, c17.toInt8.toInt32, c18.toInt8.toInt32, c19.toInt8.toInt32, c20.toInt8.toInt32]).length))] [(.int c21), (.int (Int32.ofNat (own_enc [c0.toInt8.toInt32, c1.toInt8.toInt32, c2.toInt8.toInt32, c3.toInt8.toInt32, c4.toInt8.toInt32, c5.toInt8.toInt32, c6.toInt8.toInt32, c7.toInt8.toInt32, c8.toInt8.toInt32, c9.toInt8.toInt32, c10.toInt8.toInt32, c11.toInt8.toInt32, c12.toInt8.toInt32, c13.toInt8.toInt32, c14.toInt8.toInt32, c15.toInt8.toInt32, c16.toInt8.toInt32, c17.toInt8.toInt32, c18.toInt8.toInt32, c19.toInt8.toInt32, c20.toInt8.toInt32]).length)), (.ref w2)])) rfl (by rw [hml]; rfl) (argsL := [(.ref w2), (.int (Int32.ofNat (own_enc [c0.toInt8.toInt32, c1.toInt8.toInt32, c2.toInt8.toInt32, c3.toInt8.toInt32, c4.toInt8.toInt32, c5.toInt8.toInt32, c6.toInt8.toInt32, c7.toInt8.toInt32, c8.toInt8.toInt32, c9.toInt8.toInt32, c10.toInt8.toInt32, c11.toInt8.toInt32, c12.toInt8.toInt32, c13.toInt8.toInt32, c14.toInt8.toInt32, c15.toInt8.toInt32, c16.toInt8.toInt32, c17.toInt8.toInt32, c18.toInt8.toInt32, c19.toInt8.toInt32, c20.toInt8.toInt32]).length)), (.int c21)]) (rest := []) (lenOf own_pd15 rfl) rfl (by show 2 * 0 + _ ≤ _; exact Nat.le_of_eq rfl) (hb hby at_571) (fun _ _ => ⟨rfl, e169, (by decide : 7 + 0 ≤ _), (by decide : 197 + 0 ≤ _)⟩)
  dsimp only [Pt.U, Pt.locs, Pt.cells, Pt.slots] at X172 l172 y172 z172 st172 hQ172
  obtain rfl : k172 = 7 := y172
  obtain rfl : n172 = 197 := z172
  obtain ⟨rfl, N172q, e172⟩ := hQ172
  have N172 : Fr n0 L172 := by rw [l172]; exact Fr.app N169 N172q
  try clear l172
  refine own_st st172 ?_
  show own_Gl p e below _ (T172.setTop (mkF m 574 #[.val (.long i0), .second, .val (.long i1), .second, .val (.long i2), .second, .val (.ref s0), .val (.ref w2), .val (.int (Int32.ofNat (own_enc [c0.toInt8.toInt32, c1.toInt8.toInt32, c2.toInt8.toInt32, c3.toInt8.toInt32, c4.toInt8.toInt32, c5.toInt8.toInt32, c6.toInt8.toInt32, c7.toInt8.toInt32, c8.toInt8.toInt32, c9.toInt8.toInt32, c10.toInt8.toInt32, c11.toInt8.toInt32, c12.toInt8.toInt32, c13.toInt8.toInt32, c14.toInt8.toInt32, c15.toInt8.toInt32, c16.toInt8.toInt32, c17.toInt8.toInt32, c18.toInt8.toInt32, c19.toInt8.toInt32, c20.toInt8.toInt32]).length))] [(.int (Int32.ofNat (own_enc [c0.toInt8.toInt32, c1.toInt8.toInt32, c2.toInt8.toInt32, c3.toInt8.toInt32, c4.toInt8.toInt32, c5.toInt8.toInt32, c6.toInt8.toInt32, c7.toInt8.toInt32, c8.toInt8.toInt32, c9.toInt8.toInt32, c10.toInt8.toInt32, c11.toInt8.toInt32, c12.toInt8.toInt32, c13.toInt8.toInt32, c14.toInt8.toInt32, c15.toInt8.toInt32, c16.toInt8.toInt32, c17.toInt8.toInt32, c18.toInt8.toInt32, c19.toInt8.toInt32, c20.toInt8.toInt32, c21.toInt8.toInt32]).length))]))
  try clear st172
  try clear N172q
  try clear N169
  try clear e169
  try clear X169
  try clear T169
  refine own_st (fun tg_ kg_ => XS.istore X172.here hx rfl (hb hby at_574) rfl (l' := #[.val (.long i0), .second, .val (.long i1), .second, .val (.long i2), .second, .val (.ref s0), .val (.ref w2), .val (.int (Int32.ofNat (own_enc [c0.toInt8.toInt32, c1.toInt8.toInt32, c2.toInt8.toInt32, c3.toInt8.toInt32, c4.toInt8.toInt32, c5.toInt8.toInt32, c6.toInt8.toInt32, c7.toInt8.toInt32, c8.toInt8.toInt32, c9.toInt8.toInt32, c10.toInt8.toInt32, c11.toInt8.toInt32, c12.toInt8.toInt32, c13.toInt8.toInt32, c14.toInt8.toInt32, c15.toInt8.toInt32, c16.toInt8.toInt32, c17.toInt8.toInt32, c18.toInt8.toInt32, c19.toInt8.toInt32, c20.toInt8.toInt32, c21.toInt8.toInt32]).length))]) rfl kg_) ?_
  show own_Gl p e below _ (T172.setTop (mkF m 576 #[.val (.long i0), .second, .val (.long i1), .second, .val (.long i2), .second, .val (.ref s0), .val (.ref w2), .val (.int (Int32.ofNat (own_enc [c0.toInt8.toInt32, c1.toInt8.toInt32, c2.toInt8.toInt32, c3.toInt8.toInt32, c4.toInt8.toInt32, c5.toInt8.toInt32, c6.toInt8.toInt32, c7.toInt8.toInt32, c8.toInt8.toInt32, c9.toInt8.toInt32, c10.toInt8.toInt32, c11.toInt8.toInt32, c12.toInt8.toInt32, c13.toInt8.toInt32, c14.toInt8.toInt32, c15.toInt8.toInt32, c16.toInt8.toInt32, c17.toInt8.toInt32, c18.toInt8.toInt32, c19.toInt8.toInt32, c20.toInt8.toInt32, c21.toInt8.toInt32]).length))] []))
  refine own_st (fun tg_ kg_ => XS.aload X172.here hx rfl (hb hby at_576) rfl rfl kg_) ?_
  show own_Gl p e below _ (T172.setTop (mkF m 578 #[.val (.long i0), .second, .val (.long i1), .second, .val (.long i2), .second, .val (.ref s0), .val (.ref w2), .val (.int (Int32.ofNat (own_enc [c0.toInt8.toInt32, c1.toInt8.toInt32, c2.toInt8.toInt32, c3.toInt8.toInt32, c4.toInt8.toInt32, c5.toInt8.toInt32, c6.toInt8.toInt32, c7.toInt8.toInt32, c8.toInt8.toInt32, c9.toInt8.toInt32, c10.toInt8.toInt32, c11.toInt8.toInt32, c12.toInt8.toInt32, c13.toInt8.toInt32, c14.toInt8.toInt32, c15.toInt8.toInt32, c16.toInt8.toInt32, c17.toInt8.toInt32, c18.toInt8.toInt32, c19.toInt8.toInt32, c20.toInt8.toInt32, c21.toInt8.toInt32]).length))] [(.ref w2)]))
  refine own_st (fun tg_ kg_ => XS.iload X172.here hx rfl (hb hby at_578) rfl kg_) ?_
  show own_Gl p e below _ (T172.setTop (mkF m 580 #[.val (.long i0), .second, .val (.long i1), .second, .val (.long i2), .second, .val (.ref s0), .val (.ref w2), .val (.int (Int32.ofNat (own_enc [c0.toInt8.toInt32, c1.toInt8.toInt32, c2.toInt8.toInt32, c3.toInt8.toInt32, c4.toInt8.toInt32, c5.toInt8.toInt32, c6.toInt8.toInt32, c7.toInt8.toInt32, c8.toInt8.toInt32, c9.toInt8.toInt32, c10.toInt8.toInt32, c11.toInt8.toInt32, c12.toInt8.toInt32, c13.toInt8.toInt32, c14.toInt8.toInt32, c15.toInt8.toInt32, c16.toInt8.toInt32, c17.toInt8.toInt32, c18.toInt8.toInt32, c19.toInt8.toInt32, c20.toInt8.toInt32, c21.toInt8.toInt32]).length))] [(.int (Int32.ofNat (own_enc [c0.toInt8.toInt32, c1.toInt8.toInt32, c2.toInt8.toInt32, c3.toInt8.toInt32, c4.toInt8.toInt32, c5.toInt8.toInt32, c6.toInt8.toInt32, c7.toInt8.toInt32, c8.toInt8.toInt32, c9.toInt8.toInt32, c10.toInt8.toInt32, c11.toInt8.toInt32, c12.toInt8.toInt32, c13.toInt8.toInt32, c14.toInt8.toInt32, c15.toInt8.toInt32, c16.toInt8.toInt32, c17.toInt8.toInt32, c18.toInt8.toInt32, c19.toInt8.toInt32, c20.toInt8.toInt32, c21.toInt8.toInt32]).length)), (.ref w2)]))
  refine own_st (fun tg_ kg_ => XS.aload X172.here hx rfl (hb hby at_580) rfl rfl kg_) ?_
  show own_Gl p e below _ (T172.setTop (mkF m 582 #[.val (.long i0), .second, .val (.long i1), .second, .val (.long i2), .second, .val (.ref s0), .val (.ref w2), .val (.int (Int32.ofNat (own_enc [c0.toInt8.toInt32, c1.toInt8.toInt32, c2.toInt8.toInt32, c3.toInt8.toInt32, c4.toInt8.toInt32, c5.toInt8.toInt32, c6.toInt8.toInt32, c7.toInt8.toInt32, c8.toInt8.toInt32, c9.toInt8.toInt32, c10.toInt8.toInt32, c11.toInt8.toInt32, c12.toInt8.toInt32, c13.toInt8.toInt32, c14.toInt8.toInt32, c15.toInt8.toInt32, c16.toInt8.toInt32, c17.toInt8.toInt32, c18.toInt8.toInt32, c19.toInt8.toInt32, c20.toInt8.toInt32, c21.toInt8.toInt32]).length))] [(.ref s0), (.int (Int32.ofNat (own_enc [c0.toInt8.toInt32, c1.toInt8.toInt32, c2.toInt8.toInt32, c3.toInt8.toInt32, c4.toInt8.toInt32, c5.toInt8.toInt32, c6.toInt8.toInt32, c7.toInt8.toInt32, c8.toInt8.toInt32, c9.toInt8.toInt32, c10.toInt8.toInt32, c11.toInt8.toInt32, c12.toInt8.toInt32, c13.toInt8.toInt32, c14.toInt8.toInt32, c15.toInt8.toInt32, c16.toInt8.toInt32, c17.toInt8.toInt32, c18.toInt8.toInt32, c19.toInt8.toInt32, c20.toInt8.toInt32, c21.toInt8.toInt32]).length)), (.ref w2)]))
  refine own_st (fun tg_ kg_ => XS.bipush X172.here hx rfl (hb hby at_582) kg_) ?_
  show own_Gl p e below _ (T172.setTop (mkF m 584 #[.val (.long i0), .second, .val (.long i1), .second, .val (.long i2), .second, .val (.ref s0), .val (.ref w2), .val (.int (Int32.ofNat (own_enc [c0.toInt8.toInt32, c1.toInt8.toInt32, c2.toInt8.toInt32, c3.toInt8.toInt32, c4.toInt8.toInt32, c5.toInt8.toInt32, c6.toInt8.toInt32, c7.toInt8.toInt32, c8.toInt8.toInt32, c9.toInt8.toInt32, c10.toInt8.toInt32, c11.toInt8.toInt32, c12.toInt8.toInt32, c13.toInt8.toInt32, c14.toInt8.toInt32, c15.toInt8.toInt32, c16.toInt8.toInt32, c17.toInt8.toInt32, c18.toInt8.toInt32, c19.toInt8.toInt32, c20.toInt8.toInt32, c21.toInt8.toInt32]).length))] [(.int (22 : Int32)), (.ref s0), (.int (Int32.ofNat (own_enc [c0.toInt8.toInt32, c1.toInt8.toInt32, c2.toInt8.toInt32, c3.toInt8.toInt32, c4.toInt8.toInt32, c5.toInt8.toInt32, c6.toInt8.toInt32, c7.toInt8.toInt32, c8.toInt8.toInt32, c9.toInt8.toInt32, c10.toInt8.toInt32, c11.toInt8.toInt32, c12.toInt8.toInt32, c13.toInt8.toInt32, c14.toInt8.toInt32, c15.toInt8.toInt32, c16.toInt8.toInt32, c17.toInt8.toInt32, c18.toInt8.toInt32, c19.toInt8.toInt32, c20.toInt8.toInt32, c21.toInt8.toInt32]).length)), (.ref w2)]))
  obtain ⟨cl173, Ar173, qa173, Sa173, Na173, Ha173, Ga173⟩ := id V_s0
  have hin174 : ¬ ((22 : Int32) < 0 ∨ cl173.slots.size ≤ ((22 : Int32)).toNatClampNeg) := inb_of Sa173 ⟨by decide, by decide⟩
  have hat174 : cl173.slots[((22 : Int32)).toNatClampNeg]? = some (.int c22) := Has.at Ha173 hin174 rfl
  refine own_st (fun tg_ kg_ => X172.caload hx (j := (22 : Int32)) (v := (.int c22)) (by rw [e172]; exact Ar173.1) (State.isArrayOf_alike hZ.alike Ar173.2.1) Ar173.2.2 hin174 hat174 (g := (mkF m 584 #[.val (.long i0), .second, .val (.long i1), .second, .val (.long i2), .second, .val (.ref s0), .val (.ref w2), .val (.int (Int32.ofNat (own_enc [c0.toInt8.toInt32, c1.toInt8.toInt32, c2.toInt8.toInt32, c3.toInt8.toInt32, c4.toInt8.toInt32, c5.toInt8.toInt32, c6.toInt8.toInt32, c7.toInt8.toInt32, c8.toInt8.toInt32, c9.toInt8.toInt32, c10.toInt8.toInt32, c11.toInt8.toInt32, c12.toInt8.toInt32, c13.toInt8.toInt32, c14.toInt8.toInt32, c15.toInt8.toInt32, c16.toInt8.toInt32, c17.toInt8.toInt32, c18.toInt8.toInt32, c19.toInt8.toInt32, c20.toInt8.toInt32, c21.toInt8.toInt32]).length))] [(.int (22 : Int32)), (.ref s0), (.int (Int32.ofNat (own_enc [c0.toInt8.toInt32, c1.toInt8.toInt32, c2.toInt8.toInt32, c3.toInt8.toInt32, c4.toInt8.toInt32, c5.toInt8.toInt32, c6.toInt8.toInt32, c7.toInt8.toInt32, c8.toInt8.toInt32, c9.toInt8.toInt32, c10.toInt8.toInt32, c11.toInt8.toInt32, c12.toInt8.toInt32, c13.toInt8.toInt32, c14.toInt8.toInt32, c15.toInt8.toInt32, c16.toInt8.toInt32, c17.toInt8.toInt32, c18.toInt8.toInt32, c19.toInt8.toInt32, c20.toInt8.toInt32, c21.toInt8.toInt32]).length)), (.ref w2)])) rfl rfl (hb hby at_584) _ kg_) ?_
  show own_Gl p e below _ (T172.setTop (mkF m 585 #[.val (.long i0), .second, .val (.long i1), .second, .val (.long i2), .second, .val (.ref s0), .val (.ref w2), .val (.int (Int32.ofNat (own_enc [c0.toInt8.toInt32, c1.toInt8.toInt32, c2.toInt8.toInt32, c3.toInt8.toInt32, c4.toInt8.toInt32, c5.toInt8.toInt32, c6.toInt8.toInt32, c7.toInt8.toInt32, c8.toInt8.toInt32, c9.toInt8.toInt32, c10.toInt8.toInt32, c11.toInt8.toInt32, c12.toInt8.toInt32, c13.toInt8.toInt32, c14.toInt8.toInt32, c15.toInt8.toInt32, c16.toInt8.toInt32, c17.toInt8.toInt32, c18.toInt8.toInt32, c19.toInt8.toInt32, c20.toInt8.toInt32, c21.toInt8.toInt32]).length))] [(.int c22), (.int (Int32.ofNat (own_enc [c0.toInt8.toInt32, c1.toInt8.toInt32, c2.toInt8.toInt32, c3.toInt8.toInt32, c4.toInt8.toInt32, c5.toInt8.toInt32, c6.toInt8.toInt32, c7.toInt8.toInt32, c8.toInt8.toInt32, c9.toInt8.toInt32, c10.toInt8.toInt32, c11.toInt8.toInt32, c12.toInt8.toInt32, c13.toInt8.toInt32, c14.toInt8.toInt32, c15.toInt8.toInt32, c16.toInt8.toInt32, c17.toInt8.toInt32, c18.toInt8.toInt32, c19.toInt8.toInt32, c20.toInt8.toInt32, c21.toInt8.toInt32]).length)), (.ref w2)]))
  obtain ⟨_, _, ⟨T175, L175, k175, n175⟩, -, X175, ⟨Lc175, hQ175, l175, y175, z175⟩, st175⟩ := Jvm.LawKit.callS X172 hx (y := (⟨"com/example/highwater/highwater/config/TokenSecretFromTextPinLaw", "step", "([BIC)I"⟩ : MethodName)) hown (mvT hZ (hw _ (List.mem_of_getElem? (i := 112) rfl))) (mvT hZ (hw _ (List.mem_of_getElem? (i := 113) rfl))) (mvT hZ (hw _ (List.mem_of_getElem? (i := 3) rfl))) (mvT hZ (hw _ (List.mem_of_getElem? (i := 114) rfl))) (by decide) (backOf (W := 0) (own_rm_stp l Z a0 hw [] w2 kw2 [c0.toInt8.toInt32, c1.toInt8.toInt32, c2.toInt8.toInt32, c3.toInt8.toInt32, c4.toInt8.toInt32, c5.toInt8.toInt32, c6.toInt8.toInt32, c7.toInt8.toInt32, c8.toInt8.toInt32, c9.toInt8.toInt32, c10.toInt8.toInt32, c11.toInt8.toInt32, c12.toInt8.toInt32, c13.toInt8.toInt32, c14.toInt8.toInt32, c15.toInt8.toInt32, c16.toInt8.toInt32, c17.toInt8.toInt32, c18.toInt8.toInt32, c19.toInt8.toInt32, c20.toInt8.toInt32, c21.toInt8.toInt32, c22.toInt8.toInt32, c23.toInt8.toInt32] [c0.toInt8.toInt32, c1.toInt8.toInt32, c2.toInt8.toInt32, c3.toInt8.toInt32, c4.toInt8.toInt32, c5.toInt8.toInt32, c6.toInt8.toInt32, c7.toInt8.toInt32, c8.toInt8.toInt32, c9.toInt8.toInt32, c10.toInt8.toInt32, c11.toInt8.toInt32, c12.toInt8.toInt32, c13.toInt8.toInt32, c14.toInt8.toInt32, c15.toInt8.toInt32, c16.toInt8.toInt32, c17.toInt8.toInt32, c18.toInt8.toInt32, c19.toInt8.toInt32, c20.toInt8.toInt32, c21.toInt8.toInt32] [c23.toInt8.toInt32] [c0.toInt8.toInt32, c1.toInt8.toInt32, c2.toInt8.toInt32, c3.toInt8.toInt32, c4.toInt8.toInt32, c5.toInt8.toInt32, c6.toInt8.toInt32, c7.toInt8.toInt32, c8.toInt8.toInt32, c9.toInt8.toInt32, c10.toInt8.toInt32, c11.toInt8.toInt32, c12.toInt8.toInt32, c13.toInt8.toInt32, c14.toInt8.toInt32, c15.toInt8.toInt32, c16.toInt8.toInt32, c17.toInt8.toInt32, c18.toInt8.toInt32, c19.toInt8.toInt32, c20.toInt8.toInt32, c21.toInt8.toInt32, c22.toInt8.toInt32] c22 T105.heap n0 (Nat.le_trans Z0 K106.1) rfl rfl V_w2 hc22 h32.2) hZ (hw _ (List.mem_of_getElem? (i := 114) rfl)) (hw _ (List.mem_of_getElem? (i := 3) rfl)) (by decide) (by decide)) (g := (mkF m 585 #[.val (.long i0), .second, .val (.long i1), .second, .val (.long i2), .second, .val (.ref s0), .val (.ref w2), .val (.int (Int32.ofNat (own_enc [c0.toInt8.toInt32, c1.toInt8.toInt32, c2.toInt8.toInt32, c3.toInt8.toInt32, c4.toInt8.toInt32, c5.toInt8.toInt32, c6.toInt8.toInt32, c7.toInt8.toInt32, c8.toInt8.toInt32, c9.toInt8.toInt32, c10.toInt8.toInt32, c11.toInt8.toInt32, c12.toInt8.toInt32, c13.toInt8.toInt32, c14.toInt8.toInt32, c15.toInt8.toInt32, c16.toInt8.toInt32, c17.toInt8.toInt32, c18.toInt8.toInt32, c19.toInt8.toInt32, c20.toInt8.toInt32, c21.toInt8.toInt32]).length))] [(.int c22), (.int (Int32.ofNat (own_enc [c0.toInt8.toInt32, c1.toInt8.toInt32, c2.toInt8.toInt32, c3.toInt8.toInt32, c4.toInt8.toInt32, c5.toInt8.toInt32, c6.toInt8.toInt32, c7.toInt8.toInt32, c8.toInt8.toInt32, c9.toInt8.toInt32, c10.toInt8.toInt32, c11.toInt8.toInt32, c12.toInt8.toInt32, c13.toInt8.toInt32, c14.toInt8.toInt32, c15.toInt8.toInt32, c16.toInt8.toInt32, c17.toInt8.toInt32, c18.toInt8.toInt32, c19.toInt8.toInt32, c20.toInt8.toInt32, c21.toInt8.toInt32]).length)), (.ref w2)])) rfl (by rw [hml]; rfl) (argsL := [(.ref w2), (.int (Int32.ofNat (own_enc [c0.toInt8.toInt32, c1.toInt8.toInt32, c2.toInt8.toInt32, c3.toInt8.toInt32, c4.toInt8.toInt32, c5.toInt8.toInt32, c6.toInt8.toInt32, c7.toInt8.toInt32, c8.toInt8.toInt32, c9.toInt8.toInt32, c10.toInt8.toInt32, c11.toInt8.toInt32, c12.toInt8.toInt32, c13.toInt8.toInt32, c14.toInt8.toInt32, c15.toInt8.toInt32, c16.toInt8.toInt32, c17.toInt8.toInt32, c18.toInt8.toInt32, c19.toInt8.toInt32, c20.toInt8.toInt32, c21.toInt8.toInt32]).length)), (.int c22)]) (rest := []) (lenOf own_pd15 rfl) rfl (by show 2 * 0 + _ ≤ _; exact Nat.le_of_eq rfl) (hb hby at_585) (fun _ _ => ⟨rfl, e172, (by decide : 7 + 0 ≤ _), (by decide : 197 + 0 ≤ _)⟩)
  dsimp only [Pt.U, Pt.locs, Pt.cells, Pt.slots] at X175 l175 y175 z175 st175 hQ175
  obtain rfl : k175 = 7 := y175
  obtain rfl : n175 = 197 := z175
  obtain ⟨rfl, N175q, e175⟩ := hQ175
  have N175 : Fr n0 L175 := by rw [l175]; exact Fr.app N172 N175q
  try clear l175
  refine own_st st175 ?_
  show own_Gl p e below _ (T175.setTop (mkF m 588 #[.val (.long i0), .second, .val (.long i1), .second, .val (.long i2), .second, .val (.ref s0), .val (.ref w2), .val (.int (Int32.ofNat (own_enc [c0.toInt8.toInt32, c1.toInt8.toInt32, c2.toInt8.toInt32, c3.toInt8.toInt32, c4.toInt8.toInt32, c5.toInt8.toInt32, c6.toInt8.toInt32, c7.toInt8.toInt32, c8.toInt8.toInt32, c9.toInt8.toInt32, c10.toInt8.toInt32, c11.toInt8.toInt32, c12.toInt8.toInt32, c13.toInt8.toInt32, c14.toInt8.toInt32, c15.toInt8.toInt32, c16.toInt8.toInt32, c17.toInt8.toInt32, c18.toInt8.toInt32, c19.toInt8.toInt32, c20.toInt8.toInt32, c21.toInt8.toInt32]).length))] [(.int (Int32.ofNat (own_enc [c0.toInt8.toInt32, c1.toInt8.toInt32, c2.toInt8.toInt32, c3.toInt8.toInt32, c4.toInt8.toInt32, c5.toInt8.toInt32, c6.toInt8.toInt32, c7.toInt8.toInt32, c8.toInt8.toInt32, c9.toInt8.toInt32, c10.toInt8.toInt32, c11.toInt8.toInt32, c12.toInt8.toInt32, c13.toInt8.toInt32, c14.toInt8.toInt32, c15.toInt8.toInt32, c16.toInt8.toInt32, c17.toInt8.toInt32, c18.toInt8.toInt32, c19.toInt8.toInt32, c20.toInt8.toInt32, c21.toInt8.toInt32, c22.toInt8.toInt32]).length))]))
  try clear st175
  try clear N175q
  try clear N172
  try clear e172
  try clear X172
  try clear T172
  refine own_st (fun tg_ kg_ => XS.istore X175.here hx rfl (hb hby at_588) rfl (l' := #[.val (.long i0), .second, .val (.long i1), .second, .val (.long i2), .second, .val (.ref s0), .val (.ref w2), .val (.int (Int32.ofNat (own_enc [c0.toInt8.toInt32, c1.toInt8.toInt32, c2.toInt8.toInt32, c3.toInt8.toInt32, c4.toInt8.toInt32, c5.toInt8.toInt32, c6.toInt8.toInt32, c7.toInt8.toInt32, c8.toInt8.toInt32, c9.toInt8.toInt32, c10.toInt8.toInt32, c11.toInt8.toInt32, c12.toInt8.toInt32, c13.toInt8.toInt32, c14.toInt8.toInt32, c15.toInt8.toInt32, c16.toInt8.toInt32, c17.toInt8.toInt32, c18.toInt8.toInt32, c19.toInt8.toInt32, c20.toInt8.toInt32, c21.toInt8.toInt32, c22.toInt8.toInt32]).length))]) rfl kg_) ?_
  show own_Gl p e below _ (T175.setTop (mkF m 590 #[.val (.long i0), .second, .val (.long i1), .second, .val (.long i2), .second, .val (.ref s0), .val (.ref w2), .val (.int (Int32.ofNat (own_enc [c0.toInt8.toInt32, c1.toInt8.toInt32, c2.toInt8.toInt32, c3.toInt8.toInt32, c4.toInt8.toInt32, c5.toInt8.toInt32, c6.toInt8.toInt32, c7.toInt8.toInt32, c8.toInt8.toInt32, c9.toInt8.toInt32, c10.toInt8.toInt32, c11.toInt8.toInt32, c12.toInt8.toInt32, c13.toInt8.toInt32, c14.toInt8.toInt32, c15.toInt8.toInt32, c16.toInt8.toInt32, c17.toInt8.toInt32, c18.toInt8.toInt32, c19.toInt8.toInt32, c20.toInt8.toInt32, c21.toInt8.toInt32, c22.toInt8.toInt32]).length))] []))
  refine own_st (fun tg_ kg_ => XS.aload X175.here hx rfl (hb hby at_590) rfl rfl kg_) ?_
  show own_Gl p e below _ (T175.setTop (mkF m 592 #[.val (.long i0), .second, .val (.long i1), .second, .val (.long i2), .second, .val (.ref s0), .val (.ref w2), .val (.int (Int32.ofNat (own_enc [c0.toInt8.toInt32, c1.toInt8.toInt32, c2.toInt8.toInt32, c3.toInt8.toInt32, c4.toInt8.toInt32, c5.toInt8.toInt32, c6.toInt8.toInt32, c7.toInt8.toInt32, c8.toInt8.toInt32, c9.toInt8.toInt32, c10.toInt8.toInt32, c11.toInt8.toInt32, c12.toInt8.toInt32, c13.toInt8.toInt32, c14.toInt8.toInt32, c15.toInt8.toInt32, c16.toInt8.toInt32, c17.toInt8.toInt32, c18.toInt8.toInt32, c19.toInt8.toInt32, c20.toInt8.toInt32, c21.toInt8.toInt32, c22.toInt8.toInt32]).length))] [(.ref w2)]))
  refine own_st (fun tg_ kg_ => XS.iload X175.here hx rfl (hb hby at_592) rfl kg_) ?_
  show own_Gl p e below _ (T175.setTop (mkF m 594 #[.val (.long i0), .second, .val (.long i1), .second, .val (.long i2), .second, .val (.ref s0), .val (.ref w2), .val (.int (Int32.ofNat (own_enc [c0.toInt8.toInt32, c1.toInt8.toInt32, c2.toInt8.toInt32, c3.toInt8.toInt32, c4.toInt8.toInt32, c5.toInt8.toInt32, c6.toInt8.toInt32, c7.toInt8.toInt32, c8.toInt8.toInt32, c9.toInt8.toInt32, c10.toInt8.toInt32, c11.toInt8.toInt32, c12.toInt8.toInt32, c13.toInt8.toInt32, c14.toInt8.toInt32, c15.toInt8.toInt32, c16.toInt8.toInt32, c17.toInt8.toInt32, c18.toInt8.toInt32, c19.toInt8.toInt32, c20.toInt8.toInt32, c21.toInt8.toInt32, c22.toInt8.toInt32]).length))] [(.int (Int32.ofNat (own_enc [c0.toInt8.toInt32, c1.toInt8.toInt32, c2.toInt8.toInt32, c3.toInt8.toInt32, c4.toInt8.toInt32, c5.toInt8.toInt32, c6.toInt8.toInt32, c7.toInt8.toInt32, c8.toInt8.toInt32, c9.toInt8.toInt32, c10.toInt8.toInt32, c11.toInt8.toInt32, c12.toInt8.toInt32, c13.toInt8.toInt32, c14.toInt8.toInt32, c15.toInt8.toInt32, c16.toInt8.toInt32, c17.toInt8.toInt32, c18.toInt8.toInt32, c19.toInt8.toInt32, c20.toInt8.toInt32, c21.toInt8.toInt32, c22.toInt8.toInt32]).length)), (.ref w2)]))
  refine own_st (fun tg_ kg_ => XS.aload X175.here hx rfl (hb hby at_594) rfl rfl kg_) ?_
  show own_Gl p e below _ (T175.setTop (mkF m 596 #[.val (.long i0), .second, .val (.long i1), .second, .val (.long i2), .second, .val (.ref s0), .val (.ref w2), .val (.int (Int32.ofNat (own_enc [c0.toInt8.toInt32, c1.toInt8.toInt32, c2.toInt8.toInt32, c3.toInt8.toInt32, c4.toInt8.toInt32, c5.toInt8.toInt32, c6.toInt8.toInt32, c7.toInt8.toInt32, c8.toInt8.toInt32, c9.toInt8.toInt32, c10.toInt8.toInt32, c11.toInt8.toInt32, c12.toInt8.toInt32, c13.toInt8.toInt32, c14.toInt8.toInt32, c15.toInt8.toInt32, c16.toInt8.toInt32, c17.toInt8.toInt32, c18.toInt8.toInt32, c19.toInt8.toInt32, c20.toInt8.toInt32, c21.toInt8.toInt32, c22.toInt8.toInt32]).length))] [(.ref s0), (.int (Int32.ofNat (own_enc [c0.toInt8.toInt32, c1.toInt8.toInt32, c2.toInt8.toInt32, c3.toInt8.toInt32, c4.toInt8.toInt32, c5.toInt8.toInt32, c6.toInt8.toInt32, c7.toInt8.toInt32, c8.toInt8.toInt32, c9.toInt8.toInt32, c10.toInt8.toInt32, c11.toInt8.toInt32, c12.toInt8.toInt32, c13.toInt8.toInt32, c14.toInt8.toInt32, c15.toInt8.toInt32, c16.toInt8.toInt32, c17.toInt8.toInt32, c18.toInt8.toInt32, c19.toInt8.toInt32, c20.toInt8.toInt32, c21.toInt8.toInt32, c22.toInt8.toInt32]).length)), (.ref w2)]))
  refine own_st (fun tg_ kg_ => XS.bipush X175.here hx rfl (hb hby at_596) kg_) ?_
  show own_Gl p e below _ (T175.setTop (mkF m 598 #[.val (.long i0), .second, .val (.long i1), .second, .val (.long i2), .second, .val (.ref s0), .val (.ref w2), .val (.int (Int32.ofNat (own_enc [c0.toInt8.toInt32, c1.toInt8.toInt32, c2.toInt8.toInt32, c3.toInt8.toInt32, c4.toInt8.toInt32, c5.toInt8.toInt32, c6.toInt8.toInt32, c7.toInt8.toInt32, c8.toInt8.toInt32, c9.toInt8.toInt32, c10.toInt8.toInt32, c11.toInt8.toInt32, c12.toInt8.toInt32, c13.toInt8.toInt32, c14.toInt8.toInt32, c15.toInt8.toInt32, c16.toInt8.toInt32, c17.toInt8.toInt32, c18.toInt8.toInt32, c19.toInt8.toInt32, c20.toInt8.toInt32, c21.toInt8.toInt32, c22.toInt8.toInt32]).length))] [(.int (23 : Int32)), (.ref s0), (.int (Int32.ofNat (own_enc [c0.toInt8.toInt32, c1.toInt8.toInt32, c2.toInt8.toInt32, c3.toInt8.toInt32, c4.toInt8.toInt32, c5.toInt8.toInt32, c6.toInt8.toInt32, c7.toInt8.toInt32, c8.toInt8.toInt32, c9.toInt8.toInt32, c10.toInt8.toInt32, c11.toInt8.toInt32, c12.toInt8.toInt32, c13.toInt8.toInt32, c14.toInt8.toInt32, c15.toInt8.toInt32, c16.toInt8.toInt32, c17.toInt8.toInt32, c18.toInt8.toInt32, c19.toInt8.toInt32, c20.toInt8.toInt32, c21.toInt8.toInt32, c22.toInt8.toInt32]).length)), (.ref w2)]))
  obtain ⟨cl176, Ar176, qa176, Sa176, Na176, Ha176, Ga176⟩ := id V_s0
  have hin177 : ¬ ((23 : Int32) < 0 ∨ cl176.slots.size ≤ ((23 : Int32)).toNatClampNeg) := inb_of Sa176 ⟨by decide, by decide⟩
  have hat177 : cl176.slots[((23 : Int32)).toNatClampNeg]? = some (.int c23) := Has.at Ha176 hin177 rfl
  refine own_st (fun tg_ kg_ => X175.caload hx (j := (23 : Int32)) (v := (.int c23)) (by rw [e175]; exact Ar176.1) (State.isArrayOf_alike hZ.alike Ar176.2.1) Ar176.2.2 hin177 hat177 (g := (mkF m 598 #[.val (.long i0), .second, .val (.long i1), .second, .val (.long i2), .second, .val (.ref s0), .val (.ref w2), .val (.int (Int32.ofNat (own_enc [c0.toInt8.toInt32, c1.toInt8.toInt32, c2.toInt8.toInt32, c3.toInt8.toInt32, c4.toInt8.toInt32, c5.toInt8.toInt32, c6.toInt8.toInt32, c7.toInt8.toInt32, c8.toInt8.toInt32, c9.toInt8.toInt32, c10.toInt8.toInt32, c11.toInt8.toInt32, c12.toInt8.toInt32, c13.toInt8.toInt32, c14.toInt8.toInt32, c15.toInt8.toInt32, c16.toInt8.toInt32, c17.toInt8.toInt32, c18.toInt8.toInt32, c19.toInt8.toInt32, c20.toInt8.toInt32, c21.toInt8.toInt32, c22.toInt8.toInt32]).length))] [(.int (23 : Int32)), (.ref s0), (.int (Int32.ofNat (own_enc [c0.toInt8.toInt32, c1.toInt8.toInt32, c2.toInt8.toInt32, c3.toInt8.toInt32, c4.toInt8.toInt32, c5.toInt8.toInt32, c6.toInt8.toInt32, c7.toInt8.toInt32, c8.toInt8.toInt32, c9.toInt8.toInt32, c10.toInt8.toInt32, c11.toInt8.toInt32, c12.toInt8.toInt32, c13.toInt8.toInt32, c14.toInt8.toInt32, c15.toInt8.toInt32, c16.toInt8.toInt32, c17.toInt8.toInt32, c18.toInt8.toInt32, c19.toInt8.toInt32, c20.toInt8.toInt32, c21.toInt8.toInt32, c22.toInt8.toInt32]).length)), (.ref w2)])) rfl rfl (hb hby at_598) _ kg_) ?_
  show own_Gl p e below _ (T175.setTop (mkF m 599 #[.val (.long i0), .second, .val (.long i1), .second, .val (.long i2), .second, .val (.ref s0), .val (.ref w2), .val (.int (Int32.ofNat (own_enc [c0.toInt8.toInt32, c1.toInt8.toInt32, c2.toInt8.toInt32, c3.toInt8.toInt32, c4.toInt8.toInt32, c5.toInt8.toInt32, c6.toInt8.toInt32, c7.toInt8.toInt32, c8.toInt8.toInt32, c9.toInt8.toInt32, c10.toInt8.toInt32, c11.toInt8.toInt32, c12.toInt8.toInt32, c13.toInt8.toInt32, c14.toInt8.toInt32, c15.toInt8.toInt32, c16.toInt8.toInt32, c17.toInt8.toInt32, c18.toInt8.toInt32, c19.toInt8.toInt32, c20.toInt8.toInt32, c21.toInt8.toInt32, c22.toInt8.toInt32]).length))] [(.int c23), (.int (Int32.ofNat (own_enc [c0.toInt8.toInt32, c1.toInt8.toInt32, c2.toInt8.toInt32, c3.toInt8.toInt32, c4.toInt8.toInt32, c5.toInt8.toInt32, c6.toInt8.toInt32, c7.toInt8.toInt32, c8.toInt8.toInt32, c9.toInt8.toInt32, c10.toInt8.toInt32, c11.toInt8.toInt32, c12.toInt8.toInt32, c13.toInt8.toInt32, c14.toInt8.toInt32, c15.toInt8.toInt32, c16.toInt8.toInt32, c17.toInt8.toInt32, c18.toInt8.toInt32, c19.toInt8.toInt32, c20.toInt8.toInt32, c21.toInt8.toInt32, c22.toInt8.toInt32]).length)), (.ref w2)]))
  obtain ⟨_, _, ⟨T178, L178, k178, n178⟩, -, X178, ⟨Lc178, hQ178, l178, y178, z178⟩, st178⟩ := Jvm.LawKit.callS X175 hx (y := (⟨"com/example/highwater/highwater/config/TokenSecretFromTextPinLaw", "step", "([BIC)I"⟩ : MethodName)) hown (mvT hZ (hw _ (List.mem_of_getElem? (i := 112) rfl))) (mvT hZ (hw _ (List.mem_of_getElem? (i := 113) rfl))) (mvT hZ (hw _ (List.mem_of_getElem? (i := 3) rfl))) (mvT hZ (hw _ (List.mem_of_getElem? (i := 114) rfl))) (by decide) (backOf (W := 0) (own_rm_stp l Z a0 hw [] w2 kw2 [c0.toInt8.toInt32, c1.toInt8.toInt32, c2.toInt8.toInt32, c3.toInt8.toInt32, c4.toInt8.toInt32, c5.toInt8.toInt32, c6.toInt8.toInt32, c7.toInt8.toInt32, c8.toInt8.toInt32, c9.toInt8.toInt32, c10.toInt8.toInt32, c11.toInt8.toInt32, c12.toInt8.toInt32, c13.toInt8.toInt32, c14.toInt8.toInt32, c15.toInt8.toInt32, c16.toInt8.toInt32, c17.toInt8.toInt32, c18.toInt8.toInt32, c19.toInt8.toInt32, c20.toInt8.toInt32, c21.toInt8.toInt32, c22.toInt8.toInt32, c23.toInt8.toInt32] [c0.toInt8.toInt32, c1.toInt8.toInt32, c2.toInt8.toInt32, c3.toInt8.toInt32, c4.toInt8.toInt32, c5.toInt8.toInt32, c6.toInt8.toInt32, c7.toInt8.toInt32, c8.toInt8.toInt32, c9.toInt8.toInt32, c10.toInt8.toInt32, c11.toInt8.toInt32, c12.toInt8.toInt32, c13.toInt8.toInt32, c14.toInt8.toInt32, c15.toInt8.toInt32, c16.toInt8.toInt32, c17.toInt8.toInt32, c18.toInt8.toInt32, c19.toInt8.toInt32, c20.toInt8.toInt32, c21.toInt8.toInt32, c22.toInt8.toInt32] [] [c0.toInt8.toInt32, c1.toInt8.toInt32, c2.toInt8.toInt32, c3.toInt8.toInt32, c4.toInt8.toInt32, c5.toInt8.toInt32, c6.toInt8.toInt32, c7.toInt8.toInt32, c8.toInt8.toInt32, c9.toInt8.toInt32, c10.toInt8.toInt32, c11.toInt8.toInt32, c12.toInt8.toInt32, c13.toInt8.toInt32, c14.toInt8.toInt32, c15.toInt8.toInt32, c16.toInt8.toInt32, c17.toInt8.toInt32, c18.toInt8.toInt32, c19.toInt8.toInt32, c20.toInt8.toInt32, c21.toInt8.toInt32, c22.toInt8.toInt32, c23.toInt8.toInt32] c23 T105.heap n0 (Nat.le_trans Z0 K106.1) rfl rfl V_w2 hc23 h32.2) hZ (hw _ (List.mem_of_getElem? (i := 114) rfl)) (hw _ (List.mem_of_getElem? (i := 3) rfl)) (by decide) (by decide)) (g := (mkF m 599 #[.val (.long i0), .second, .val (.long i1), .second, .val (.long i2), .second, .val (.ref s0), .val (.ref w2), .val (.int (Int32.ofNat (own_enc [c0.toInt8.toInt32, c1.toInt8.toInt32, c2.toInt8.toInt32, c3.toInt8.toInt32, c4.toInt8.toInt32, c5.toInt8.toInt32, c6.toInt8.toInt32, c7.toInt8.toInt32, c8.toInt8.toInt32, c9.toInt8.toInt32, c10.toInt8.toInt32, c11.toInt8.toInt32, c12.toInt8.toInt32, c13.toInt8.toInt32, c14.toInt8.toInt32, c15.toInt8.toInt32, c16.toInt8.toInt32, c17.toInt8.toInt32, c18.toInt8.toInt32, c19.toInt8.toInt32, c20.toInt8.toInt32, c21.toInt8.toInt32, c22.toInt8.toInt32]).length))] [(.int c23), (.int (Int32.ofNat (own_enc [c0.toInt8.toInt32, c1.toInt8.toInt32, c2.toInt8.toInt32, c3.toInt8.toInt32, c4.toInt8.toInt32, c5.toInt8.toInt32, c6.toInt8.toInt32, c7.toInt8.toInt32, c8.toInt8.toInt32, c9.toInt8.toInt32, c10.toInt8.toInt32, c11.toInt8.toInt32, c12.toInt8.toInt32, c13.toInt8.toInt32, c14.toInt8.toInt32, c15.toInt8.toInt32, c16.toInt8.toInt32, c17.toInt8.toInt32, c18.toInt8.toInt32, c19.toInt8.toInt32, c20.toInt8.toInt32, c21.toInt8.toInt32, c22.toInt8.toInt32]).length)), (.ref w2)])) rfl (by rw [hml]; rfl) (argsL := [(.ref w2), (.int (Int32.ofNat (own_enc [c0.toInt8.toInt32, c1.toInt8.toInt32, c2.toInt8.toInt32, c3.toInt8.toInt32, c4.toInt8.toInt32, c5.toInt8.toInt32, c6.toInt8.toInt32, c7.toInt8.toInt32, c8.toInt8.toInt32, c9.toInt8.toInt32, c10.toInt8.toInt32, c11.toInt8.toInt32, c12.toInt8.toInt32, c13.toInt8.toInt32, c14.toInt8.toInt32, c15.toInt8.toInt32, c16.toInt8.toInt32, c17.toInt8.toInt32, c18.toInt8.toInt32, c19.toInt8.toInt32, c20.toInt8.toInt32, c21.toInt8.toInt32, c22.toInt8.toInt32]).length)), (.int c23)]) (rest := []) (lenOf own_pd15 rfl) rfl (by show 2 * 0 + _ ≤ _; exact Nat.le_of_eq rfl) (hb hby at_599) (fun _ _ => ⟨rfl, e175, (by decide : 7 + 0 ≤ _), (by decide : 197 + 0 ≤ _)⟩)
  dsimp only [Pt.U, Pt.locs, Pt.cells, Pt.slots] at X178 l178 y178 z178 st178 hQ178
  obtain rfl : k178 = 7 := y178
  obtain rfl : n178 = 197 := z178
  obtain ⟨rfl, N178q, e178⟩ := hQ178
  have N178 : Fr n0 L178 := by rw [l178]; exact Fr.app N175 N178q
  try clear l178
  refine own_st st178 ?_
  show own_Gl p e below _ (T178.setTop (mkF m 602 #[.val (.long i0), .second, .val (.long i1), .second, .val (.long i2), .second, .val (.ref s0), .val (.ref w2), .val (.int (Int32.ofNat (own_enc [c0.toInt8.toInt32, c1.toInt8.toInt32, c2.toInt8.toInt32, c3.toInt8.toInt32, c4.toInt8.toInt32, c5.toInt8.toInt32, c6.toInt8.toInt32, c7.toInt8.toInt32, c8.toInt8.toInt32, c9.toInt8.toInt32, c10.toInt8.toInt32, c11.toInt8.toInt32, c12.toInt8.toInt32, c13.toInt8.toInt32, c14.toInt8.toInt32, c15.toInt8.toInt32, c16.toInt8.toInt32, c17.toInt8.toInt32, c18.toInt8.toInt32, c19.toInt8.toInt32, c20.toInt8.toInt32, c21.toInt8.toInt32, c22.toInt8.toInt32]).length))] [(.int (Int32.ofNat (own_enc [c0.toInt8.toInt32, c1.toInt8.toInt32, c2.toInt8.toInt32, c3.toInt8.toInt32, c4.toInt8.toInt32, c5.toInt8.toInt32, c6.toInt8.toInt32, c7.toInt8.toInt32, c8.toInt8.toInt32, c9.toInt8.toInt32, c10.toInt8.toInt32, c11.toInt8.toInt32, c12.toInt8.toInt32, c13.toInt8.toInt32, c14.toInt8.toInt32, c15.toInt8.toInt32, c16.toInt8.toInt32, c17.toInt8.toInt32, c18.toInt8.toInt32, c19.toInt8.toInt32, c20.toInt8.toInt32, c21.toInt8.toInt32, c22.toInt8.toInt32, c23.toInt8.toInt32]).length))]))
  try clear st178
  try clear N178q
  try clear N175
  try clear e175
  try clear X175
  try clear T175
  refine own_st (fun tg_ kg_ => XS.istore X178.here hx rfl (hb hby at_602) rfl (l' := #[.val (.long i0), .second, .val (.long i1), .second, .val (.long i2), .second, .val (.ref s0), .val (.ref w2), .val (.int (Int32.ofNat (own_enc [c0.toInt8.toInt32, c1.toInt8.toInt32, c2.toInt8.toInt32, c3.toInt8.toInt32, c4.toInt8.toInt32, c5.toInt8.toInt32, c6.toInt8.toInt32, c7.toInt8.toInt32, c8.toInt8.toInt32, c9.toInt8.toInt32, c10.toInt8.toInt32, c11.toInt8.toInt32, c12.toInt8.toInt32, c13.toInt8.toInt32, c14.toInt8.toInt32, c15.toInt8.toInt32, c16.toInt8.toInt32, c17.toInt8.toInt32, c18.toInt8.toInt32, c19.toInt8.toInt32, c20.toInt8.toInt32, c21.toInt8.toInt32, c22.toInt8.toInt32, c23.toInt8.toInt32]).length))]) rfl kg_) ?_
  show own_Gl p e below _ (T178.setTop (mkF m 604 #[.val (.long i0), .second, .val (.long i1), .second, .val (.long i2), .second, .val (.ref s0), .val (.ref w2), .val (.int (Int32.ofNat (own_enc [c0.toInt8.toInt32, c1.toInt8.toInt32, c2.toInt8.toInt32, c3.toInt8.toInt32, c4.toInt8.toInt32, c5.toInt8.toInt32, c6.toInt8.toInt32, c7.toInt8.toInt32, c8.toInt8.toInt32, c9.toInt8.toInt32, c10.toInt8.toInt32, c11.toInt8.toInt32, c12.toInt8.toInt32, c13.toInt8.toInt32, c14.toInt8.toInt32, c15.toInt8.toInt32, c16.toInt8.toInt32, c17.toInt8.toInt32, c18.toInt8.toInt32, c19.toInt8.toInt32, c20.toInt8.toInt32, c21.toInt8.toInt32, c22.toInt8.toInt32, c23.toInt8.toInt32]).length))] []))
  refine own_st (fun tg_ kg_ => XS.iload X178.here hx rfl (hb hby at_604) rfl kg_) ?_
  show own_Gl p e below _ (T178.setTop (mkF m 606 #[.val (.long i0), .second, .val (.long i1), .second, .val (.long i2), .second, .val (.ref s0), .val (.ref w2), .val (.int (Int32.ofNat (own_enc [c0.toInt8.toInt32, c1.toInt8.toInt32, c2.toInt8.toInt32, c3.toInt8.toInt32, c4.toInt8.toInt32, c5.toInt8.toInt32, c6.toInt8.toInt32, c7.toInt8.toInt32, c8.toInt8.toInt32, c9.toInt8.toInt32, c10.toInt8.toInt32, c11.toInt8.toInt32, c12.toInt8.toInt32, c13.toInt8.toInt32, c14.toInt8.toInt32, c15.toInt8.toInt32, c16.toInt8.toInt32, c17.toInt8.toInt32, c18.toInt8.toInt32, c19.toInt8.toInt32, c20.toInt8.toInt32, c21.toInt8.toInt32, c22.toInt8.toInt32, c23.toInt8.toInt32]).length))] [(.int (Int32.ofNat (own_enc [c0.toInt8.toInt32, c1.toInt8.toInt32, c2.toInt8.toInt32, c3.toInt8.toInt32, c4.toInt8.toInt32, c5.toInt8.toInt32, c6.toInt8.toInt32, c7.toInt8.toInt32, c8.toInt8.toInt32, c9.toInt8.toInt32, c10.toInt8.toInt32, c11.toInt8.toInt32, c12.toInt8.toInt32, c13.toInt8.toInt32, c14.toInt8.toInt32, c15.toInt8.toInt32, c16.toInt8.toInt32, c17.toInt8.toInt32, c18.toInt8.toInt32, c19.toInt8.toInt32, c20.toInt8.toInt32, c21.toInt8.toInt32, c22.toInt8.toInt32, c23.toInt8.toInt32]).length))]))
  refine own_st (fun tg_ kg_ => XS.aload X178.here hx rfl (hb hby at_606) rfl rfl kg_) ?_
  show own_Gl p e below _ (T178.setTop (mkF m 608 #[.val (.long i0), .second, .val (.long i1), .second, .val (.long i2), .second, .val (.ref s0), .val (.ref w2), .val (.int (Int32.ofNat (own_enc [c0.toInt8.toInt32, c1.toInt8.toInt32, c2.toInt8.toInt32, c3.toInt8.toInt32, c4.toInt8.toInt32, c5.toInt8.toInt32, c6.toInt8.toInt32, c7.toInt8.toInt32, c8.toInt8.toInt32, c9.toInt8.toInt32, c10.toInt8.toInt32, c11.toInt8.toInt32, c12.toInt8.toInt32, c13.toInt8.toInt32, c14.toInt8.toInt32, c15.toInt8.toInt32, c16.toInt8.toInt32, c17.toInt8.toInt32, c18.toInt8.toInt32, c19.toInt8.toInt32, c20.toInt8.toInt32, c21.toInt8.toInt32, c22.toInt8.toInt32, c23.toInt8.toInt32]).length))] [(.ref w2), (.int (Int32.ofNat (own_enc [c0.toInt8.toInt32, c1.toInt8.toInt32, c2.toInt8.toInt32, c3.toInt8.toInt32, c4.toInt8.toInt32, c5.toInt8.toInt32, c6.toInt8.toInt32, c7.toInt8.toInt32, c8.toInt8.toInt32, c9.toInt8.toInt32, c10.toInt8.toInt32, c11.toInt8.toInt32, c12.toInt8.toInt32, c13.toInt8.toInt32, c14.toInt8.toInt32, c15.toInt8.toInt32, c16.toInt8.toInt32, c17.toInt8.toInt32, c18.toInt8.toInt32, c19.toInt8.toInt32, c20.toInt8.toInt32, c21.toInt8.toInt32, c22.toInt8.toInt32, c23.toInt8.toInt32]).length))]))
  obtain ⟨cl179, Ar179, qa179, Sa179, Na179, Ha179, Ga179⟩ := id V_w2
  refine own_st (fun tg_ kg_ => X178.arraylength hx (by rw [e178]; exact Ar179.1) (State.isArrayOf_alike hZ.alike Ar179.2.1) (g := (mkF m 608 #[.val (.long i0), .second, .val (.long i1), .second, .val (.long i2), .second, .val (.ref s0), .val (.ref w2), .val (.int (Int32.ofNat (own_enc [c0.toInt8.toInt32, c1.toInt8.toInt32, c2.toInt8.toInt32, c3.toInt8.toInt32, c4.toInt8.toInt32, c5.toInt8.toInt32, c6.toInt8.toInt32, c7.toInt8.toInt32, c8.toInt8.toInt32, c9.toInt8.toInt32, c10.toInt8.toInt32, c11.toInt8.toInt32, c12.toInt8.toInt32, c13.toInt8.toInt32, c14.toInt8.toInt32, c15.toInt8.toInt32, c16.toInt8.toInt32, c17.toInt8.toInt32, c18.toInt8.toInt32, c19.toInt8.toInt32, c20.toInt8.toInt32, c21.toInt8.toInt32, c22.toInt8.toInt32, c23.toInt8.toInt32]).length))] [(.ref w2), (.int (Int32.ofNat (own_enc [c0.toInt8.toInt32, c1.toInt8.toInt32, c2.toInt8.toInt32, c3.toInt8.toInt32, c4.toInt8.toInt32, c5.toInt8.toInt32, c6.toInt8.toInt32, c7.toInt8.toInt32, c8.toInt8.toInt32, c9.toInt8.toInt32, c10.toInt8.toInt32, c11.toInt8.toInt32, c12.toInt8.toInt32, c13.toInt8.toInt32, c14.toInt8.toInt32, c15.toInt8.toInt32, c16.toInt8.toInt32, c17.toInt8.toInt32, c18.toInt8.toInt32, c19.toInt8.toInt32, c20.toInt8.toInt32, c21.toInt8.toInt32, c22.toInt8.toInt32, c23.toInt8.toInt32]).length))])) rfl rfl (hb hby at_608) _ kg_) ?_
  rw [len_of Sa179 Na179]
  show own_Gl p e below _ (T178.setTop (mkF m 609 #[.val (.long i0), .second, .val (.long i1), .second, .val (.long i2), .second, .val (.ref s0), .val (.ref w2), .val (.int (Int32.ofNat (own_enc [c0.toInt8.toInt32, c1.toInt8.toInt32, c2.toInt8.toInt32, c3.toInt8.toInt32, c4.toInt8.toInt32, c5.toInt8.toInt32, c6.toInt8.toInt32, c7.toInt8.toInt32, c8.toInt8.toInt32, c9.toInt8.toInt32, c10.toInt8.toInt32, c11.toInt8.toInt32, c12.toInt8.toInt32, c13.toInt8.toInt32, c14.toInt8.toInt32, c15.toInt8.toInt32, c16.toInt8.toInt32, c17.toInt8.toInt32, c18.toInt8.toInt32, c19.toInt8.toInt32, c20.toInt8.toInt32, c21.toInt8.toInt32, c22.toInt8.toInt32, c23.toInt8.toInt32]).length))] [(.int (Int32.ofNat (own_enc [c0.toInt8.toInt32, c1.toInt8.toInt32, c2.toInt8.toInt32, c3.toInt8.toInt32, c4.toInt8.toInt32, c5.toInt8.toInt32, c6.toInt8.toInt32, c7.toInt8.toInt32, c8.toInt8.toInt32, c9.toInt8.toInt32, c10.toInt8.toInt32, c11.toInt8.toInt32, c12.toInt8.toInt32, c13.toInt8.toInt32, c14.toInt8.toInt32, c15.toInt8.toInt32, c16.toInt8.toInt32, c17.toInt8.toInt32, c18.toInt8.toInt32, c19.toInt8.toInt32, c20.toInt8.toInt32, c21.toInt8.toInt32, c22.toInt8.toInt32, c23.toInt8.toInt32]).length)), (.int (Int32.ofNat (own_enc [c0.toInt8.toInt32, c1.toInt8.toInt32, c2.toInt8.toInt32, c3.toInt8.toInt32, c4.toInt8.toInt32, c5.toInt8.toInt32, c6.toInt8.toInt32, c7.toInt8.toInt32, c8.toInt8.toInt32, c9.toInt8.toInt32, c10.toInt8.toInt32, c11.toInt8.toInt32, c12.toInt8.toInt32, c13.toInt8.toInt32, c14.toInt8.toInt32, c15.toInt8.toInt32, c16.toInt8.toInt32, c17.toInt8.toInt32, c18.toInt8.toInt32, c19.toInt8.toInt32, c20.toInt8.toInt32, c21.toInt8.toInt32, c22.toInt8.toInt32, c23.toInt8.toInt32]).length))]))
  refine own_st (fun tg_ kg_ => XS.icmpNo X178.here hx rfl (hb hby at_609) rfl (teq ((rfl : (Int32.ofNat (own_enc [c0.toInt8.toInt32, c1.toInt8.toInt32, c2.toInt8.toInt32, c3.toInt8.toInt32, c4.toInt8.toInt32, c5.toInt8.toInt32, c6.toInt8.toInt32, c7.toInt8.toInt32, c8.toInt8.toInt32, c9.toInt8.toInt32, c10.toInt8.toInt32, c11.toInt8.toInt32, c12.toInt8.toInt32, c13.toInt8.toInt32, c14.toInt8.toInt32, c15.toInt8.toInt32, c16.toInt8.toInt32, c17.toInt8.toInt32, c18.toInt8.toInt32, c19.toInt8.toInt32, c20.toInt8.toInt32, c21.toInt8.toInt32, c22.toInt8.toInt32, c23.toInt8.toInt32]).length) = (Int32.ofNat (own_enc [c0.toInt8.toInt32, c1.toInt8.toInt32, c2.toInt8.toInt32, c3.toInt8.toInt32, c4.toInt8.toInt32, c5.toInt8.toInt32, c6.toInt8.toInt32, c7.toInt8.toInt32, c8.toInt8.toInt32, c9.toInt8.toInt32, c10.toInt8.toInt32, c11.toInt8.toInt32, c12.toInt8.toInt32, c13.toInt8.toInt32, c14.toInt8.toInt32, c15.toInt8.toInt32, c16.toInt8.toInt32, c17.toInt8.toInt32, c18.toInt8.toInt32, c19.toInt8.toInt32, c20.toInt8.toInt32, c21.toInt8.toInt32, c22.toInt8.toInt32, c23.toInt8.toInt32]).length)))).2 kg_) ?_
  show own_Gl p e below _ (T178.setTop (mkF m 612 #[.val (.long i0), .second, .val (.long i1), .second, .val (.long i2), .second, .val (.ref s0), .val (.ref w2), .val (.int (Int32.ofNat (own_enc [c0.toInt8.toInt32, c1.toInt8.toInt32, c2.toInt8.toInt32, c3.toInt8.toInt32, c4.toInt8.toInt32, c5.toInt8.toInt32, c6.toInt8.toInt32, c7.toInt8.toInt32, c8.toInt8.toInt32, c9.toInt8.toInt32, c10.toInt8.toInt32, c11.toInt8.toInt32, c12.toInt8.toInt32, c13.toInt8.toInt32, c14.toInt8.toInt32, c15.toInt8.toInt32, c16.toInt8.toInt32, c17.toInt8.toInt32, c18.toInt8.toInt32, c19.toInt8.toInt32, c20.toInt8.toInt32, c21.toInt8.toInt32, c22.toInt8.toInt32, c23.toInt8.toInt32]).length))] []))
  refine own_st (fun tg_ kg_ => XS.iconst X178.here hx rfl (hb hby at_612) kg_) ?_
  show own_Gl p e below _ (T178.setTop (mkF m 613 #[.val (.long i0), .second, .val (.long i1), .second, .val (.long i2), .second, .val (.ref s0), .val (.ref w2), .val (.int (Int32.ofNat (own_enc [c0.toInt8.toInt32, c1.toInt8.toInt32, c2.toInt8.toInt32, c3.toInt8.toInt32, c4.toInt8.toInt32, c5.toInt8.toInt32, c6.toInt8.toInt32, c7.toInt8.toInt32, c8.toInt8.toInt32, c9.toInt8.toInt32, c10.toInt8.toInt32, c11.toInt8.toInt32, c12.toInt8.toInt32, c13.toInt8.toInt32, c14.toInt8.toInt32, c15.toInt8.toInt32, c16.toInt8.toInt32, c17.toInt8.toInt32, c18.toInt8.toInt32, c19.toInt8.toInt32, c20.toInt8.toInt32, c21.toInt8.toInt32, c22.toInt8.toInt32, c23.toInt8.toInt32]).length))] [(.int (1 : Int32))]))
  refine own_st (fun tg_ kg_ => XS.goto X178.here hx rfl (pc0 := 613) (pc' := 617) rfl (hb hby at_613) (by decide) (by decide) kg_) ?_
  show own_Gl p e below _ (T178.setTop (mkF m 617 #[.val (.long i0), .second, .val (.long i1), .second, .val (.long i2), .second, .val (.ref s0), .val (.ref w2), .val (.int (Int32.ofNat (own_enc [c0.toInt8.toInt32, c1.toInt8.toInt32, c2.toInt8.toInt32, c3.toInt8.toInt32, c4.toInt8.toInt32, c5.toInt8.toInt32, c6.toInt8.toInt32, c7.toInt8.toInt32, c8.toInt8.toInt32, c9.toInt8.toInt32, c10.toInt8.toInt32, c11.toInt8.toInt32, c12.toInt8.toInt32, c13.toInt8.toInt32, c14.toInt8.toInt32, c15.toInt8.toInt32, c16.toInt8.toInt32, c17.toInt8.toInt32, c18.toInt8.toInt32, c19.toInt8.toInt32, c20.toInt8.toInt32, c21.toInt8.toInt32, c22.toInt8.toInt32, c23.toInt8.toInt32]).length))] [(.int (1 : Int32))]))
  exact own_retN X178 hx Bd.notSynchronized (t := .boolean) Bd.returns (by simp) (hb hby at_617) (by decide) (by decide) e178 (⟨rfl, N178⟩)
theorem own_nz {Z : State} {args : Array Value} {t : Term} {z : Int32} (ht : t.eval args Z none [] Z = some (.int z)) (h : (Cond.not (Cond.eq t (Term.int 0))).value args Z none Z [] = some true) : ¬ z = 0 := fun e => by
  subst e; simp [Cond.value, ht, Term.eval] at h
theorem own_sameR {Z : State} {args : Array Value} {t u : Term} {a : Addr} (hu : u.eval args Z none [] Z = some (.ref a)) (h : (Cond.eq t u).value args Z none Z [] = some true) : t.eval args Z none [] Z = some (.ref a) := by
  cases ht : t.eval args Z none [] Z with
  | none => simp [Cond.value, ht] at h
  | some v => cases v <;> simp [Cond.value, ht, hu] at h; rw [h]
set_option maxRecDepth 65536 in
set_option maxHeartbeats 40000000 in
theorem comes_1 {Post : Tables → Env → Array Value → State → Outcome → State → Prop} (hpost : ∀ tb e args s v u, (limb_1_1.after args s (.returned v) u = true ∧ limb_1_2.after args s (.returned v) u = true ∧ True) → FrameEnd s (.returned v) u (Jvm.fieldLocs frame_1_writes args s ++ Jvm.arrayLocs frame_1_arrays args s ++ Jvm.staticLocs frame_1_statics s) 24 512 → Post tb e args s (.returned v) u) :
    ArmFor flags0 classFile x code maxLocals ret World_1 tables_1 room_1 Calls_1 rest_1 Pre_1 Post := by
  intro l hfl _ _ p e ha hc hk s m args below hf hA hF happ hP
  obtain ⟨hcalls, hrest, hpre⟩ := hP
  obtain ⟨-, -, -, hnamed, -, -, -, hat⟩ := (Spec.applies_iff hf).mp happ
  obtain ⟨hg, hn⟩ := and_e (Cond.before_iff.mp (show (Jvm.Cond.and given_1 narrow_1).before args s = true from hpre))
  obtain ⟨g0a, g0b⟩ := and_e hg
  obtain ⟨g1a, g1b⟩ := and_e g0b
  obtain ⟨g2a, g2b⟩ := and_e g1b
  obtain ⟨w0, w1, w2, rfl⟩ : ∃ w0 w1 w2 : Value, args = #[w0, w1, w2] := by
    have hs : args.size = 3 := by simpa [Cond.value, given_1] using g0a
    obtain ⟨L⟩ := args
    match L, hs with
    | [w0, w1, w2], _ => exact ⟨w0, w1, w2, rfl⟩
  have hw := fun d (hd : d ∈ tables_1) => atoms_spec (ws := Jvm.Cond.code x code maxLocals ret :: tables_1) hat d (List.mem_cons_of_mem _ hd)
  have hfit : Fit s := fun {y c} hc i hi => by
    obtain ⟨ha, rfl⟩ := Array.getElem?_eq_some_iff.mp hc
    have q := List.all_eq_true.mp ((Array.all_eq_true_iff_forall_mem.mp hF) _ (Array.getElem_mem ha)) i (List.mem_range.mpr hi)
    simpa [Array.getElem?_eq_getElem hi] using q
  obtain ⟨hsets, hown0⟩ := atoms_of _ (rest_1_c_eq ▸ (show rest_1_c.before _ s = true from hrest))
  have hr0 := Cond.before_iff.mp hown0
  obtain ⟨i0, ei0⟩ := isL_v g1a
  obtain rfl : w0 = (.long i0) := Option.some.inj ei0
  obtain ⟨i1, ei1⟩ := isL_v g2a
  obtain rfl : w1 = (.long i1) := Option.some.inj ei1
  obtain ⟨i2, ei2⟩ := isL_v g2b
  obtain rfl : w2 = (.long i2) := Option.some.inj ei2
  obtain ⟨zc, ev_C⟩ := is_v (Cond.before_iff.mp (hsets _ (List.mem_of_getElem? (i := 1) rfl)))
  have S_C := Sta.start ev_C (Or.inl (hsets _ (List.mem_of_getElem? (i := 0) rfl)))
  have hzc : ¬ zc = 0 := own_nz ev_C (Cond.before_iff.mp (hsets _ (List.mem_of_getElem? (i := 2) rfl)))
  obtain ⟨u, ev_I⟩ := exa_v (Cond.before_iff.mp (hsets _ (List.mem_of_getElem? (i := 17) rfl)))
  have S_I := Sta.start ev_I (Or.inl (hsets _ (List.mem_of_getElem? (i := 12) rfl)))
  have S_8 := Sta.start (own_sameR ev_I (Cond.before_iff.mp (hsets _ (List.mem_of_getElem? (i := 13) rfl)))) (Or.inl (hsets _ (List.mem_of_getElem? (i := 10) rfl)))
  obtain ⟨n, o, h1, h2, h3, _, L, rfl, ⟨rfl, N⟩, hq⟩ := own_rm_law l s _ hw tables_1 i0 i1 i2 u zc s.heap s.heap.size (Nat.le_refl _) S_C hzc S_I S_8 p e ha hc hk s m _ below hf ((Spec.applies_iff_loose hf).mp happ).1 ⟨rfl, State.Warmed39.refl s, rfl⟩ trivial
  refine ⟨n, _, h1, h2, h3, hpost _ _ _ _ _ _ ⟨Cond.after_iff.mpr rfl, Cond.after_iff.mpr (eq_i res_at (Term.int_eval (1)) rfl), trivial⟩ ⟨hq.1, hq.2.1, (hq.2.2.sift fun y hy => Or.inr (N y hy)).mono (by decide) (by decide)⟩⟩
theorem main_1_1 : Claimed_1_1 := comes_1 fun _ _ _ _ _ _ h hF => ⟨h.1, hF⟩
theorem main_1_2 : Claimed_1_2 := comes_1 fun _ _ _ _ _ _ h hF => ⟨h.2.1, hF⟩
end Jvm.Pilot.@@N@@
namespace Jvm.Pilot.@@N@@
open Jvm Jvm.ClassFile Sem Op Lib Jvm.Free Jvm.Stand Jvm.Pilot.@@N@@.Jvm.D
/-! MADE BY PROGRAM (witnessworld.py) out of the Statement's table words and the real class files: 29 classes; the members and pool entries that the words name. The judged class is class 1, her method 1. -/
namespace start1
open Jvm.ClassFile
def u (s : String) : CpInfo := .utf8 (stringToUtf16 s)
/-- a pool by its gaps: so many unusable entries, then the entry; so many at the end -/
def gap : Nat → List CpInfo → List CpInfo
  | 0, r => r
  | n + 1, r => .unusable :: gap n r
def poolList (es : List (Nat × CpInfo)) (last : Nat) : List CpInfo := es.foldr (fun e r => gap e.1 (e.2 :: r)) (gap last [])
def pool (es : List (Nat × CpInfo)) (last : Nat) : Array CpInfo := ⟨poolList es last⟩
def fileOf (pool : Array CpInfo) (this : Nat) (attrs : Array Attribute := #[]) (ms : Array MethodInfo := #[]) (fl : Nat := 33) (sup : Nat := 0) (ifs : Array Nat := #[]) (fds : Array FieldInfo := #[]) : ClassFile where
  minorVersion := 0
  majorVersion := 65
  constantPool := pool
  accessFlags := fl
  thisClass := this
  superClass := sup
  interfaces := ifs
  fields := fds
  methods := ms
  attributes := attrs
def plain (name : String) (sup : Option ClassId) : Class where
  name := name
  kind := .ordinary
  loader := none
  accessFlags := 33
  super := sup
  interfaces := #[]
  cf := none
  fields := #[]
  methods := #[]
  instanceTypes := #[]
  staticTypes := #[]
  resolved := #[]
  callSites := []
  init := .initialized
  statics := none
  mirror := none

def pool0 : Array CpInfo := pool [(5, u "<init>"), (0, u "()V"), (1, .class_ 10), (1, u "java/lang/Object"), (85, u "clone"), (0, u "()Ljava/lang/Object;")] 26

def k0c0 : Code := { maxStack := 0, maxLocals := 1, code := object_method_1_code, exceptionTable := #[], attributes := #[] }
def k0m0 : Method := { name := "<init>", desc := "()V", sig := { parameters := [], returnType := none }, accessFlags := 1, code := some k0c0 }
def k0m1 : Method := { name := "clone", desc := "()Ljava/lang/Object;", sig := { parameters := [], returnType := some (.object "java/lang/Object") }, accessFlags := 260, code := none }
/-- java/lang/Object -/
def k0 : Class := { plain "java/lang/Object" none with
  accessFlags := 33
  interfaces := #[]
  cf := some (fileOf pool0 8 #[] #[{ accessFlags := 1, nameIndex := 5, descriptorIndex := 6, attributes := #[] }, { accessFlags := 260, nameIndex := 96, descriptorIndex := 97, attributes := #[] }] 33 0 #[] #[])
  fields := #[]
  methods := #[k0m0, k0m1]
  instanceTypes := #[]
  staticTypes := #[]
  resolved := Array.replicate 124 none
  statics := none }

def pool1 : Array CpInfo := pool [(2, .class_ 4), (1, u "java/lang/Object"), (0, u "<init>"), (0, u "()V"), (0, .methodref 8 9), (0, .class_ 10), (0, .nameAndType 11 12), (0, u "com/example/highwater/highwater/config/TokenSecretFromTextPinLaw"), (0, u "hi"), (0, u "(JI)C"), (0, .methodref 8 14), (0, .nameAndType 15 12), (0, u "lo"), (0, .class_ 17), (0, u "java/lang/String"), (0, .methodref 16 19), (0, .nameAndType 5 20), (0, u "([C)V"), (0, .methodref 22 23), (0, .class_ 24), (0, .nameAndType 25 26), (0, u "com/example/highwater/highwater/config/TokenSecret"), (0, u "fromText"), (0, u "(Ljava/lang/String;)Lcom/example/highwater/highwater/config/TokenSecret;"), (0, .methodref 22 28), (0, .nameAndType 29 30), (0, u "bytes"), (0, u "()[B"), (0, .methodref 8 32), (0, .nameAndType 33 34), (0, u "step"), (0, u "([BIC)I"), (0, .long 127), (1, .long 255), (3, u "law"), (0, u "(JJJ)Z")] 7

def k1m0 : Method := { name := "<init>", desc := "()V", sig := { parameters := [], returnType := none }, accessFlags := 1, code := none }
def k1c1 : Code := { maxStack := 5, maxLocals := 9, code := code, exceptionTable := #[], attributes := #[] }
def k1m1 : Method := { name := "law", desc := "(JJJ)Z", sig := { parameters := [.long, .long, .long], returnType := some .boolean }, accessFlags := 9, code := some k1c1 }
def k1c2 : Code := { maxStack := 5, maxLocals := 3, code := method_3_code, exceptionTable := #[], attributes := #[] }
def k1m2 : Method := { name := "hi", desc := "(JI)C", sig := { parameters := [.long, .int], returnType := some .char }, accessFlags := 10, code := some k1c2 }
def k1c3 : Code := { maxStack := 4, maxLocals := 3, code := method_4_code, exceptionTable := #[], attributes := #[] }
def k1m3 : Method := { name := "lo", desc := "(JI)C", sig := { parameters := [.long, .int], returnType := some .char }, accessFlags := 10, code := some k1c3 }
def k1c4 : Code := { maxStack := 4, maxLocals := 3, code := method_5_code, exceptionTable := #[], attributes := #[] }
def k1m4 : Method := { name := "step", desc := "([BIC)I", sig := { parameters := [(.array .byte), .int, .char], returnType := some .int }, accessFlags := 10, code := some k1c4 }
/-- com/example/highwater/highwater/config/TokenSecretFromTextPinLaw -/
def k1 : Class := { plain "com/example/highwater/highwater/config/TokenSecretFromTextPinLaw" (some 0) with
  accessFlags := 49
  interfaces := #[]
  cf := some (fileOf pool1 8 #[] #[{ accessFlags := 1, nameIndex := 5, descriptorIndex := 6, attributes := #[] }, { accessFlags := 9, nameIndex := 41, descriptorIndex := 42, attributes := #[] }, { accessFlags := 10, nameIndex := 11, descriptorIndex := 12, attributes := #[] }, { accessFlags := 10, nameIndex := 15, descriptorIndex := 12, attributes := #[] }, { accessFlags := 10, nameIndex := 33, descriptorIndex := 34, attributes := #[] }] 49 2 #[] #[])
  fields := #[]
  methods := #[k1m0, k1m1, k1m2, k1m3, k1m4]
  instanceTypes := #[]
  staticTypes := #[]
  resolved := Array.replicate 50 none
  statics := none }

def pool2 : Array CpInfo := pool [(1, .class_ 2), (0, u "java/io/Serializable"), (0, .class_ 4), (0, u "java/lang/Object")] 2

/-- java/io/Serializable -/
def k2 : Class := { plain "java/io/Serializable" (some 0) with
  accessFlags := 1537
  interfaces := #[]
  cf := some (fileOf pool2 1 #[] #[] 1537 3 #[] #[])
  fields := #[]
  methods := #[]
  instanceTypes := #[]
  staticTypes := #[]
  resolved := Array.replicate 7 none
  statics := none }

def pool3 : Array CpInfo := pool [(1, .class_ 2), (0, u "java/lang/Comparable"), (0, .class_ 4), (0, u "java/lang/Object")] 7

/-- java/lang/Comparable -/
def k3 : Class := { plain "java/lang/Comparable" (some 0) with
  accessFlags := 1537
  interfaces := #[]
  cf := some (fileOf pool3 1 #[] #[] 1537 3 #[] #[])
  fields := #[]
  methods := #[]
  instanceTypes := #[]
  staticTypes := #[]
  resolved := Array.replicate 12 none
  statics := none }

def pool4 : Array CpInfo := pool [(2, .class_ 4), (1, u "java/lang/CharSequence"), (42, .class_ 48), (0, u "java/lang/CharSequence$1CodePointIterator"), (10, .class_ 60), (0, u "java/lang/CharSequence$1CharIterator"), (5, .class_ 67), (0, u "java/lang/Object")] 63

/-- java/lang/CharSequence -/
def k4 : Class := { plain "java/lang/CharSequence" (some 0) with
  accessFlags := 1537
  interfaces := #[]
  cf := some (fileOf pool4 2 #[.nestMembers #[47, 59]] #[] 1537 66 #[] #[])
  fields := #[]
  methods := #[]
  instanceTypes := #[]
  staticTypes := #[]
  resolved := Array.replicate 131 none
  statics := none }

def pool5 : Array CpInfo := pool [(1, .class_ 2), (0, u "java/lang/constant/Constable"), (0, .class_ 4), (0, u "java/lang/Object")] 6

/-- java/lang/constant/Constable -/
def k5 : Class := { plain "java/lang/constant/Constable" (some 0) with
  accessFlags := 1537
  interfaces := #[]
  cf := some (fileOf pool5 1 #[] #[] 1537 3 #[] #[])
  fields := #[]
  methods := #[]
  instanceTypes := #[]
  staticTypes := #[]
  resolved := Array.replicate 11 none
  statics := none }

def pool6 : Array CpInfo := pool [(1, .class_ 2), (0, u "java/lang/constant/ConstantDesc"), (0, .class_ 4), (0, u "java/lang/Object")] 32

/-- java/lang/constant/ConstantDesc -/
def k6 : Class := { plain "java/lang/constant/ConstantDesc" (some 0) with
  accessFlags := 1537
  interfaces := #[]
  cf := some (fileOf pool6 1 #[] #[] 1537 3 #[] #[])
  fields := #[]
  methods := #[]
  instanceTypes := #[]
  staticTypes := #[]
  resolved := Array.replicate 37 none
  statics := none }

def pool7 : Array CpInfo := pool [(1, .methodref 2 3), (0, .class_ 4), (0, .nameAndType 5 6), (0, u "java/lang/Object"), (0, u "<init>"), (0, u "()V"), (2, .fieldref 10 11), (0, .class_ 12), (0, .nameAndType 13 14), (0, u "java/lang/String"), (0, u "value"), (0, u "[B"), (0, .fieldref 10 16), (0, .nameAndType 17 18), (0, u "coder"), (0, u "B"), (2, u "hash"), (0, u "I"), (2, u "hashIsZero"), (0, u "Z"), (0, .methodref 10 28), (0, .nameAndType 5 29), (0, u "([CIILjava/lang/Void;)V"), (8, .fieldref 10 39), (0, .nameAndType 40 26), (0, u "COMPACT_STRINGS"), (1, .class_ 44), (1, u "java/lang/StringUTF16"), (0, u "compress"), (1, .methodref 42 48), (0, .nameAndType 49 50), (0, u "coderFromArrayLen"), (0, u "([BI)B"), (4, .class_ 57), (1, u "java/util/Arrays"), (2, .methodref 42 61), (0, .nameAndType 62 63), (0, u "newBytesFor"), (0, u "(I)[B"), (22, .fieldref 87 88), (0, .class_ 89), (0, .nameAndType 90 91), (0, u "sun/nio/cs/UTF_8"), (0, u "INSTANCE"), (0, u "Lsun/nio/cs/UTF_8;"), (1, .class_ 95), (1, u "java/lang/StringCoding"), (6, .methodref 55 103), (0, .nameAndType 104 105), (0, u "copyOf"), (0, u "([BI)[B"), (22, .methodref 93 129), (0, .nameAndType 130 131), (0, u "hasNegatives"), (0, u "([BII)Z"), (45, .methodref 42 178), (0, .nameAndType 45 179), (0, u "([CII)[B"), (72, .methodref 10 253), (0, .nameAndType 254 255), (0, u "encodeUTF8"), (0, u "(B[BZ)[B"), (61, u "encode"), (17, .methodref 10 336), (0, .nameAndType 17 337), (0, u "()B"), (194, u "getBytes"), (2, .methodref 10 536), (0, .nameAndType 317 537), (0, u "(Ljava/nio/charset/Charset;B[B)[B"), (37, .class_ 576), (0, u "java/lang/CharSequence"), (22, u "CASE_INSENSITIVE_ORDER"), (0, u "Ljava/util/Comparator;"), (409, u "([C)V"), (90, u "serialPersistentFields"), (0, u "[Ljava/io/ObjectStreamField;"), (0, .class_ 1104), (0, u "java/lang/String$CaseInsensitiveComparator"), (1, .class_ 1107), (0, u "java/io/Serializable"), (0, .class_ 1109), (0, u "java/lang/Comparable"), (0, .class_ 1111), (0, u "java/lang/constant/Constable"), (0, .class_ 1113), (0, u "java/lang/constant/ConstantDesc"), (2, u "serialVersionUID"), (0, u "J"), (3, u "REPL"), (0, u "C"), (2, u "LATIN1"), (1, u "UTF16"), (117, u "(Ljava/nio/charset/Charset;)[B")] 205

def k7m0 : Method := { name := "<init>", desc := "()V", sig := { parameters := [], returnType := none }, accessFlags := 1, code := none }
def k7c1 : Code := { maxStack := 5, maxLocals := 2, code := jdk_42_method_3_code, exceptionTable := #[], attributes := #[] }
def k7m1 : Method := { name := "<init>", desc := "([C)V", sig := { parameters := [(.array .char)], returnType := none }, accessFlags := 1, code := some k7c1 }
def k7c2 : Code := { maxStack := 4, maxLocals := 3, code := jdk_42_method_18_code, exceptionTable := #[], attributes := #[] }
def k7m2 : Method := { name := "encode", desc := "(Ljava/nio/charset/Charset;B[B)[B", sig := { parameters := [(.object "java/nio/charset/Charset"), .byte, (.array .byte)], returnType := some (.array .byte) }, accessFlags := 10, code := some k7c2 }
def k7c3 : Code := { maxStack := 5, maxLocals := 9, code := jdk_42_method_46_code, exceptionTable := #[], attributes := #[] }
def k7m3 : Method := { name := "encodeUTF8", desc := "(B[BZ)[B", sig := { parameters := [.byte, (.array .byte), .boolean], returnType := some (.array .byte) }, accessFlags := 10, code := some k7c3 }
def k7c4 : Code := { maxStack := 3, maxLocals := 2, code := jdk_42_method_64_code, exceptionTable := #[], attributes := #[] }
def k7m4 : Method := { name := "getBytes", desc := "(Ljava/nio/charset/Charset;)[B", sig := { parameters := [(.object "java/nio/charset/Charset")], returnType := some (.array .byte) }, accessFlags := 1, code := some k7c4 }
def k7c5 : Code := { maxStack := 4, maxLocals := 6, code := jdk_42_method_149_code, exceptionTable := #[], attributes := #[] }
def k7m5 : Method := { name := "<init>", desc := "([CIILjava/lang/Void;)V", sig := { parameters := [(.array .char), .int, .int, (.object "java/lang/Void")], returnType := none }, accessFlags := 2, code := some k7c5 }
def k7c6 : Code := { maxStack := 1, maxLocals := 1, code := jdk_42_method_152_code, exceptionTable := #[], attributes := #[] }
def k7m6 : Method := { name := "coder", desc := "()B", sig := { parameters := [], returnType := some .byte }, accessFlags := 0, code := some k7c6 }
/-- java/lang/String -/
def k7 : Class := { plain "java/lang/String" (some 0) with
  accessFlags := 49
  interfaces := #[2, 3, 4, 5, 6]
  cf := some (fileOf pool7 10 #[.nestMembers #[1103]] #[{ accessFlags := 1, nameIndex := 5, descriptorIndex := 6, attributes := #[] }, { accessFlags := 1, nameIndex := 5, descriptorIndex := 1010, attributes := #[] }, { accessFlags := 10, nameIndex := 317, descriptorIndex := 537, attributes := #[] }, { accessFlags := 10, nameIndex := 254, descriptorIndex := 255, attributes := #[] }, { accessFlags := 1, nameIndex := 532, descriptorIndex := 1245, attributes := #[] }, { accessFlags := 2, nameIndex := 5, descriptorIndex := 29, attributes := #[] }, { accessFlags := 0, nameIndex := 17, descriptorIndex := 337, attributes := #[] }] 49 2 #[1106, 1108, 575, 1110, 1112] #[{ accessFlags := 18, nameIndex := 13, descriptorIndex := 14, attributes := #[] }, { accessFlags := 18, nameIndex := 17, descriptorIndex := 18, attributes := #[] }, { accessFlags := 2, nameIndex := 21, descriptorIndex := 22, attributes := #[] }, { accessFlags := 2, nameIndex := 25, descriptorIndex := 26, attributes := #[] }, { accessFlags := 26, nameIndex := 1116, descriptorIndex := 1117, attributes := #[] }, { accessFlags := 24, nameIndex := 40, descriptorIndex := 26, attributes := #[] }, { accessFlags := 26, nameIndex := 1101, descriptorIndex := 1102, attributes := #[] }, { accessFlags := 26, nameIndex := 1121, descriptorIndex := 1122, attributes := #[] }, { accessFlags := 25, nameIndex := 599, descriptorIndex := 600, attributes := #[] }, { accessFlags := 24, nameIndex := 1125, descriptorIndex := 18, attributes := #[] }, { accessFlags := 24, nameIndex := 1127, descriptorIndex := 18, attributes := #[] }])
  fields := #[{ name := "value", type := (.array .byte), accessFlags := 18, slot := 0, constantValue := 0 }, { name := "coder", type := .byte, accessFlags := 18, slot := 1, constantValue := 0 }, { name := "hash", type := .int, accessFlags := 2, slot := 2, constantValue := 0 }, { name := "hashIsZero", type := .boolean, accessFlags := 2, slot := 3, constantValue := 0 }, { name := "serialVersionUID", type := .long, accessFlags := 26, slot := 0, constantValue := 0 }, { name := "COMPACT_STRINGS", type := .boolean, accessFlags := 24, slot := 1, constantValue := 0 }, { name := "serialPersistentFields", type := (.array (.object "java/io/ObjectStreamField")), accessFlags := 26, slot := 2, constantValue := 0 }, { name := "REPL", type := .char, accessFlags := 26, slot := 3, constantValue := 0 }, { name := "CASE_INSENSITIVE_ORDER", type := (.object "java/util/Comparator"), accessFlags := 25, slot := 4, constantValue := 0 }, { name := "LATIN1", type := .byte, accessFlags := 24, slot := 5, constantValue := 0 }, { name := "UTF16", type := .byte, accessFlags := 24, slot := 6, constantValue := 0 }]
  methods := #[k7m0, k7m1, k7m2, k7m3, k7m4, k7m5, k7m6]
  instanceTypes := #[(.array .byte), .byte, .int, .boolean]
  staticTypes := #[.long, .boolean, (.array (.object "java/io/ObjectStreamField")), .char, (.object "java/util/Comparator"), .byte, .byte]
  resolved := Array.replicate 1451 none
  statics := some 0 }

def pool8 : Array CpInfo := pool [(6, .class_ 8), (1, u "java/lang/Object"), (0, u "<init>"), (0, u "()V"), (0, .methodref 12 13), (0, .class_ 14), (0, .nameAndType 15 16), (0, u "java/lang/StringUTF16"), (0, u "newBytesLength"), (0, u "(I)I"), (3, .integer 1073741823), (25, u "$assertionsDisabled"), (0, u "Z"), (13, u "HI_BYTE_SHIFT"), (0, u "I"), (2, u "LO_BYTE_SHIFT"), (43, u "newBytesFor"), (0, u "(I)[B"), (4, .methodref 12 116), (0, .nameAndType 117 118), (0, u "compress"), (0, u "([CI[BII)I"), (3, u "([CII)[B"), (138, u "coderFromArrayLen"), (0, u "([BI)B"), (106, .class_ 371), (1, u "java/lang/StringUTF16$LinesSpliterator"), (58, u "MAX_LENGTH"), (196, .class_ 628), (0, u "java/lang/StringUTF16$CodePointsSpliterator"), (0, .class_ 630), (0, u "java/lang/StringUTF16$CharsSpliterator")] 4

def k8m0 : Method := { name := "<init>", desc := "()V", sig := { parameters := [], returnType := none }, accessFlags := 0, code := none }
def k8c1 : Code := { maxStack := 1, maxLocals := 1, code := jdk_52_method_2_code, exceptionTable := #[], attributes := #[] }
def k8m1 : Method := { name := "newBytesFor", desc := "(I)[B", sig := { parameters := [.int], returnType := some (.array .byte) }, accessFlags := 9, code := some k8c1 }
def k8c2 : Code := { maxStack := 4, maxLocals := 1, code := jdk_52_method_3_code, exceptionTable := #[], attributes := #[] }
def k8m2 : Method := { name := "newBytesLength", desc := "(I)I", sig := { parameters := [.int], returnType := some .int }, accessFlags := 9, code := some k8c2 }
def k8c3 : Code := { maxStack := 2, maxLocals := 2, code := jdk_52_method_15_code, exceptionTable := #[], attributes := #[] }
def k8m3 : Method := { name := "coderFromArrayLen", desc := "([BI)B", sig := { parameters := [(.array .byte), .int], returnType := some .byte }, accessFlags := 8, code := some k8c3 }
def k8c4 : Code := { maxStack := 5, maxLocals := 6, code := jdk_52_method_16_code, exceptionTable := #[], attributes := #[] }
def k8m4 : Method := { name := "compress", desc := "([CII)[B", sig := { parameters := [(.array .char), .int, .int], returnType := some (.array .byte) }, accessFlags := 9, code := some k8c4 }
def k8c5 : Code := { maxStack := 3, maxLocals := 7, code := jdk_52_method_21_code, exceptionTable := #[], attributes := #[] }
def k8m5 : Method := { name := "compress", desc := "([CI[BII)I", sig := { parameters := [(.array .char), .int, (.array .byte), .int, .int], returnType := some .int }, accessFlags := 9, code := some k8c5 }
/-- java/lang/StringUTF16 -/
def k8 : Class := { plain "java/lang/StringUTF16" (some 0) with
  accessFlags := 48
  interfaces := #[]
  cf := some (fileOf pool8 12 #[.nestMembers #[627, 629, 369]] #[{ accessFlags := 0, nameIndex := 9, descriptorIndex := 10, attributes := #[] }, { accessFlags := 9, nameIndex := 109, descriptorIndex := 110, attributes := #[] }, { accessFlags := 9, nameIndex := 15, descriptorIndex := 16, attributes := #[] }, { accessFlags := 8, nameIndex := 261, descriptorIndex := 262, attributes := #[] }, { accessFlags := 9, nameIndex := 117, descriptorIndex := 122, attributes := #[] }, { accessFlags := 9, nameIndex := 117, descriptorIndex := 118, attributes := #[] }] 48 6 #[] #[{ accessFlags := 26, nameIndex := 61, descriptorIndex := 62, attributes := #[] }, { accessFlags := 26, nameIndex := 65, descriptorIndex := 62, attributes := #[] }, { accessFlags := 24, nameIndex := 430, descriptorIndex := 62, attributes := #[] }, { accessFlags := 4120, nameIndex := 46, descriptorIndex := 47, attributes := #[] }])
  fields := #[{ name := "HI_BYTE_SHIFT", type := .int, accessFlags := 26, slot := 0, constantValue := 0 }, { name := "LO_BYTE_SHIFT", type := .int, accessFlags := 26, slot := 1, constantValue := 0 }, { name := "MAX_LENGTH", type := .int, accessFlags := 24, slot := 2, constantValue := 0 }, { name := "$assertionsDisabled", type := .boolean, accessFlags := 4120, slot := 3, constantValue := 0 }]
  methods := #[k8m0, k8m1, k8m2, k8m3, k8m4, k8m5]
  instanceTypes := #[]
  staticTypes := #[.int, .int, .int, .boolean]
  resolved := Array.replicate 635 none
  statics := none }

def pool9 : Array CpInfo := pool [(1, .methodref 2 3), (0, .class_ 4), (0, .nameAndType 5 6), (0, u "java/lang/Object"), (0, u "<init>"), (0, u "()V"), (0, .fieldref 8 9), (0, .class_ 10), (0, .nameAndType 11 12), (0, u "com/example/highwater/highwater/config/TokenSecret"), (0, u "key"), (0, u "[B"), (0, .fieldref 14 15), (0, .class_ 16), (0, .nameAndType 17 18), (0, u "java/nio/charset/StandardCharsets"), (0, u "UTF_8"), (0, u "Ljava/nio/charset/Charset;"), (0, .methodref 20 21), (0, .class_ 22), (0, .nameAndType 23 24), (0, u "java/lang/String"), (0, u "getBytes"), (0, u "(Ljava/nio/charset/Charset;)[B"), (9, .methodref 8 35), (0, .nameAndType 5 36), (0, u "([B)V"), (0, .methodref 38 39), (0, .class_ 40), (0, .nameAndType 41 42), (0, u "java/util/Arrays"), (0, u "copyOf"), (0, u "([BI)[B"), (1, u "MIN_BYTES"), (0, u "I"), (4, u "fromText"), (0, u "(Ljava/lang/String;)Lcom/example/highwater/highwater/config/TokenSecret;"), (2, u "bytes"), (0, u "()[B")] 21

def k9c0 : Code := { maxStack := 2, maxLocals := 2, code := prog_8_method_1_code, exceptionTable := #[], attributes := #[] }
def k9m0 : Method := { name := "<init>", desc := "([B)V", sig := { parameters := [(.array .byte)], returnType := none }, accessFlags := 2, code := some k9c0 }
def k9c1 : Code := { maxStack := 3, maxLocals := 2, code := prog_8_method_2_code, exceptionTable := #[], attributes := #[] }
def k9m1 : Method := { name := "fromText", desc := "(Ljava/lang/String;)Lcom/example/highwater/highwater/config/TokenSecret;", sig := { parameters := [(.object "java/lang/String")], returnType := some (.object "com/example/highwater/highwater/config/TokenSecret") }, accessFlags := 9, code := some k9c1 }
def k9c2 : Code := { maxStack := 2, maxLocals := 1, code := prog_8_method_3_code, exceptionTable := #[], attributes := #[] }
def k9m2 : Method := { name := "bytes", desc := "()[B", sig := { parameters := [], returnType := some (.array .byte) }, accessFlags := 1, code := some k9c2 }
/-- com/example/highwater/highwater/config/TokenSecret -/
def k9 : Class := { plain "com/example/highwater/highwater/config/TokenSecret" (some 0) with
  accessFlags := 49
  interfaces := #[]
  cf := some (fileOf pool9 8 #[] #[{ accessFlags := 2, nameIndex := 5, descriptorIndex := 36, attributes := #[] }, { accessFlags := 9, nameIndex := 50, descriptorIndex := 51, attributes := #[] }, { accessFlags := 1, nameIndex := 54, descriptorIndex := 55, attributes := #[] }] 49 2 #[] #[{ accessFlags := 25, nameIndex := 44, descriptorIndex := 45, attributes := #[] }, { accessFlags := 18, nameIndex := 11, descriptorIndex := 12, attributes := #[] }])
  fields := #[{ name := "MIN_BYTES", type := .int, accessFlags := 25, slot := 0, constantValue := 0 }, { name := "key", type := (.array .byte), accessFlags := 18, slot := 0, constantValue := 0 }]
  methods := #[k9m0, k9m1, k9m2]
  instanceTypes := #[(.array .byte)]
  staticTypes := #[.int]
  resolved := Array.replicate 77 none
  statics := none }

def pool10 : Array CpInfo := pool [(2, .class_ 4), (1, u "java/lang/Object"), (0, u "<init>"), (0, u "()V"), (14, .class_ 23), (1, u "java/nio/charset/StandardCharsets"), (0, u "US_ASCII"), (0, u "Ljava/nio/charset/Charset;"), (7, u "ISO_8859_1"), (7, u "UTF_8"), (5, u "UTF_16BE"), (5, u "UTF_16LE"), (5, u "UTF_16")] 8

def k10m0 : Method := { name := "<init>", desc := "()V", sig := { parameters := [], returnType := none }, accessFlags := 2, code := none }
/-- java/nio/charset/StandardCharsets -/
def k10 : Class := { plain "java/nio/charset/StandardCharsets" (some 0) with
  accessFlags := 49
  interfaces := #[]
  cf := some (fileOf pool10 21 #[] #[{ accessFlags := 2, nameIndex := 5, descriptorIndex := 6, attributes := #[] }] 49 2 #[] #[{ accessFlags := 25, nameIndex := 24, descriptorIndex := 25, attributes := #[] }, { accessFlags := 25, nameIndex := 33, descriptorIndex := 25, attributes := #[] }, { accessFlags := 25, nameIndex := 41, descriptorIndex := 25, attributes := #[] }, { accessFlags := 25, nameIndex := 47, descriptorIndex := 25, attributes := #[] }, { accessFlags := 25, nameIndex := 53, descriptorIndex := 25, attributes := #[] }, { accessFlags := 25, nameIndex := 59, descriptorIndex := 25, attributes := #[] }])
  fields := #[{ name := "US_ASCII", type := (.object "java/nio/charset/Charset"), accessFlags := 25, slot := 0, constantValue := 0 }, { name := "ISO_8859_1", type := (.object "java/nio/charset/Charset"), accessFlags := 25, slot := 1, constantValue := 0 }, { name := "UTF_8", type := (.object "java/nio/charset/Charset"), accessFlags := 25, slot := 2, constantValue := 0 }, { name := "UTF_16BE", type := (.object "java/nio/charset/Charset"), accessFlags := 25, slot := 3, constantValue := 0 }, { name := "UTF_16LE", type := (.object "java/nio/charset/Charset"), accessFlags := 25, slot := 4, constantValue := 0 }, { name := "UTF_16", type := (.object "java/nio/charset/Charset"), accessFlags := 25, slot := 5, constantValue := 0 }]
  methods := #[k10m0]
  instanceTypes := #[]
  staticTypes := #[(.object "java/nio/charset/Charset"), (.object "java/nio/charset/Charset"), (.object "java/nio/charset/Charset"), (.object "java/nio/charset/Charset"), (.object "java/nio/charset/Charset"), (.object "java/nio/charset/Charset")]
  resolved := Array.replicate 68 none
  statics := some 1 }

def pool11 : Array CpInfo := pool [(18, .class_ 20), (1, u "java/nio/charset/Charset"), (0, u "cache1"), (0, u "[Ljava/lang/Object;"), (2, u "cache2"), (0, .class_ 27), (0, u "java/lang/Object"), (0, .class_ 29), (0, u "java/nio/charset/Charset$1"), (4, .class_ 36), (1, u "java/nio/charset/Charset$ThreadTrackHolder"), (21, .class_ 59), (0, u "java/nio/charset/Charset$2"), (11, .class_ 73), (1, u "java/nio/charset/Charset$ExtendedProviderHolder"), (22, u "standardProvider"), (0, u "Ljava/nio/charset/spi/CharsetProvider;"), (29, u "name"), (7, .class_ 136), (0, u "java/nio/charset/Charset$3"), (5, u "defaultCharset"), (0, u "Ljava/nio/charset/Charset;"), (14, u "zeroAliases"), (0, u "[Ljava/lang/String;"), (29, u "Ljava/lang/String;"), (2, u "aliases"), (2, u "aliasSet"), (0, u "Ljava/util/Set;"), (82, .class_ 280), (0, u "java/lang/Comparable"), (84, .class_ 366), (0, u "java/nio/charset/Charset$ExtendedProviderHolder$1")] 3

/-- java/nio/charset/Charset -/
def k11 : Class := { plain "java/nio/charset/Charset" (some 0) with
  accessFlags := 1057
  interfaces := #[3]
  cf := some (fileOf pool11 18 #[.nestMembers #[71, 365, 34, 135, 58, 28]] #[] 1057 26 #[279] #[{ accessFlags := 26, nameIndex := 96, descriptorIndex := 97, attributes := #[] }, { accessFlags := 26, nameIndex := 158, descriptorIndex := 159, attributes := #[] }, { accessFlags := 74, nameIndex := 21, descriptorIndex := 22, attributes := #[] }, { accessFlags := 74, nameIndex := 25, descriptorIndex := 22, attributes := #[] }, { accessFlags := 10, nameIndex := 142, descriptorIndex := 143, attributes := #[] }, { accessFlags := 18, nameIndex := 127, descriptorIndex := 189, attributes := #[] }, { accessFlags := 18, nameIndex := 192, descriptorIndex := 159, attributes := #[] }, { accessFlags := 2, nameIndex := 195, descriptorIndex := 196, attributes := #[] }])
  fields := #[{ name := "standardProvider", type := (.object "java/nio/charset/spi/CharsetProvider"), accessFlags := 26, slot := 0, constantValue := 0 }, { name := "zeroAliases", type := (.array (.object "java/lang/String")), accessFlags := 26, slot := 1, constantValue := 0 }, { name := "cache1", type := (.array (.object "java/lang/Object")), accessFlags := 74, slot := 2, constantValue := 0 }, { name := "cache2", type := (.array (.object "java/lang/Object")), accessFlags := 74, slot := 3, constantValue := 0 }, { name := "defaultCharset", type := (.object "java/nio/charset/Charset"), accessFlags := 10, slot := 4, constantValue := 0 }, { name := "name", type := (.object "java/lang/String"), accessFlags := 18, slot := 0, constantValue := 0 }, { name := "aliases", type := (.array (.object "java/lang/String")), accessFlags := 18, slot := 1, constantValue := 0 }, { name := "aliasSet", type := (.object "java/util/Set"), accessFlags := 2, slot := 2, constantValue := 0 }]
  methods := #[]
  instanceTypes := #[(.object "java/lang/String"), (.array (.object "java/lang/String")), (.object "java/util/Set")]
  staticTypes := #[(.object "java/nio/charset/spi/CharsetProvider"), (.array (.object "java/lang/String")), (.array (.object "java/lang/Object")), (.array (.object "java/lang/Object")), (.object "java/nio/charset/Charset")]
  resolved := Array.replicate 370 none
  statics := none }

def pool12 : Array CpInfo := pool [(1, .class_ 2), (0, u "sun/nio/cs/HistoricallyNamedCharset"), (0, .class_ 4), (0, u "java/lang/Object")] 4

/-- sun/nio/cs/HistoricallyNamedCharset -/
def k12 : Class := { plain "sun/nio/cs/HistoricallyNamedCharset" (some 0) with
  accessFlags := 1537
  interfaces := #[]
  cf := some (fileOf pool12 1 #[] #[] 1537 3 #[] #[])
  fields := #[]
  methods := #[]
  instanceTypes := #[]
  staticTypes := #[]
  resolved := Array.replicate 9 none
  statics := none }

def pool13 : Array CpInfo := pool [(2, .class_ 4), (1, u "java/nio/charset/Charset"), (130, .class_ 136), (0, u "sun/nio/cs/Unicode"), (0, .class_ 138), (0, u "sun/nio/cs/HistoricallyNamedCharset")] 15

/-- sun/nio/cs/Unicode -/
def k13 : Class := { plain "sun/nio/cs/Unicode" (some 11) with
  accessFlags := 1056
  interfaces := #[12]
  cf := some (fileOf pool13 135 #[] #[] 1056 2 #[137] #[])
  fields := #[]
  methods := #[]
  instanceTypes := #[(.object "java/lang/String"), (.array (.object "java/lang/String")), (.object "java/util/Set")]
  staticTypes := #[]
  resolved := Array.replicate 154 none
  statics := none }

def pool14 : Array CpInfo := pool [(10, .class_ 12), (1, u "sun/nio/cs/Unicode"), (0, u "<init>"), (3, .class_ 18), (0, u "sun/nio/cs/UTF_8$Decoder"), (3, .class_ 23), (0, u "sun/nio/cs/UTF_8$Encoder"), (15, .class_ 40), (0, u "sun/nio/cs/UTF_8"), (2, u "()V"), (2, u "INSTANCE"), (0, u "Lsun/nio/cs/UTF_8;"), (8, u "JLA"), (0, u "Ljdk/internal/access/JavaLangAccess;")] 26

def k14m0 : Method := { name := "<init>", desc := "()V", sig := { parameters := [], returnType := none }, accessFlags := 1, code := none }
/-- sun/nio/cs/UTF_8 -/
def k14 : Class := { plain "sun/nio/cs/UTF_8" (some 13) with
  accessFlags := 49
  interfaces := #[]
  cf := some (fileOf pool14 39 #[.nestMembers #[22, 17]] #[{ accessFlags := 1, nameIndex := 13, descriptorIndex := 43, attributes := #[] }] 49 10 #[] #[{ accessFlags := 25, nameIndex := 46, descriptorIndex := 47, attributes := #[] }, { accessFlags := 26, nameIndex := 56, descriptorIndex := 57, attributes := #[] }])
  fields := #[{ name := "INSTANCE", type := (.object "sun/nio/cs/UTF_8"), accessFlags := 25, slot := 0, constantValue := 0 }, { name := "JLA", type := (.object "jdk/internal/access/JavaLangAccess"), accessFlags := 26, slot := 1, constantValue := 0 }]
  methods := #[k14m0]
  instanceTypes := #[(.object "java/lang/String"), (.array (.object "java/lang/String")), (.object "java/util/Set")]
  staticTypes := #[(.object "sun/nio/cs/UTF_8"), (.object "jdk/internal/access/JavaLangAccess")]
  resolved := Array.replicate 84 none
  statics := some 2 }

def pool15 : Array CpInfo := pool [(2, .class_ 4), (1, u "java/lang/Object"), (0, u "<init>"), (0, u "()V"), (0, .methodref 8 9), (0, .class_ 10), (0, .nameAndType 11 12), (0, u "java/lang/StringCoding"), (0, u "countPositives"), (0, u "([BII)I"), (11, u "hasNegatives"), (0, u "([BII)Z")] 23

def k15m0 : Method := { name := "<init>", desc := "()V", sig := { parameters := [], returnType := none }, accessFlags := 2, code := none }
def k15c1 : Code := { maxStack := 3, maxLocals := 3, code := jdk_123_method_2_code, exceptionTable := #[], attributes := #[] }
def k15m1 : Method := { name := "hasNegatives", desc := "([BII)Z", sig := { parameters := [(.array .byte), .int, .int], returnType := some .boolean }, accessFlags := 9, code := some k15c1 }
def k15c2 : Code := { maxStack := 2, maxLocals := 5, code := jdk_123_method_3_code, exceptionTable := #[], attributes := #[] }
def k15m2 : Method := { name := "countPositives", desc := "([BII)I", sig := { parameters := [(.array .byte), .int, .int], returnType := some .int }, accessFlags := 9, code := some k15c2 }
/-- java/lang/StringCoding -/
def k15 : Class := { plain "java/lang/StringCoding" (some 0) with
  accessFlags := 32
  interfaces := #[]
  cf := some (fileOf pool15 8 #[] #[{ accessFlags := 2, nameIndex := 5, descriptorIndex := 6, attributes := #[] }, { accessFlags := 9, nameIndex := 24, descriptorIndex := 25, attributes := #[] }, { accessFlags := 9, nameIndex := 11, descriptorIndex := 12, attributes := #[] }] 32 2 #[] #[])
  fields := #[]
  methods := #[k15m0, k15m1, k15m2]
  instanceTypes := #[]
  staticTypes := #[]
  resolved := Array.replicate 49 none
  statics := none }

def pool16 : Array CpInfo := pool [(2, .class_ 4), (1, u "java/lang/Object"), (0, u "<init>"), (0, u "()V"), (7, .class_ 16), (1, u "java/util/Arrays"), (57, .class_ 76), (1, u "java/util/Arrays$NaturalOrder"), (32, u "()Ljava/lang/Object;"), (3, .class_ 115), (1, u "java/util/Arrays$LegacyMergeSort"), (1, u "Z"), (10, .nameAndType 129 109), (0, u "clone"), (20, .methodref 151 152), (0, .class_ 153), (0, .nameAndType 154 155), (0, u "java/lang/System"), (0, u "arraycopy"), (0, u "(Ljava/lang/Object;ILjava/lang/Object;II)V"), (146, u "copyOf"), (1, .methodref 305 306), (0, .class_ 307), (0, .nameAndType 308 309), (0, u "java/lang/Math"), (0, u "min"), (0, u "(II)I"), (0, .methodref 311 128), (0, .class_ 312), (0, u "[B"), (62, .class_ 376), (0, u "java/util/Arrays$ArrayList"), (68, u "$assertionsDisabled"), (269, u "MIN_ARRAY_SORT_GRAN"), (0, u "I"), (2, u "INSERTIONSORT_THRESHOLD"), (149, u "([BI)[B"), (105, .class_ 976), (0, u "java/util/Arrays$ArrayItr")] 52

def k16m0 : Method := { name := "<init>", desc := "()V", sig := { parameters := [], returnType := none }, accessFlags := 2, code := none }
def k16c1 : Code := { maxStack := 6, maxLocals := 3, code := jdk_65_method_121_code, exceptionTable := #[], attributes := #[] }
def k16m1 : Method := { name := "copyOf", desc := "([BI)[B", sig := { parameters := [(.array .byte), .int], returnType := some (.array .byte) }, accessFlags := 9, code := some k16c1 }
/-- java/util/Arrays -/
def k16 : Class := { plain "java/util/Arrays" (some 0) with
  accessFlags := 49
  interfaces := #[]
  cf := some (fileOf pool16 14 #[.nestMembers #[975, 375, 113, 74]] #[{ accessFlags := 2, nameIndex := 5, descriptorIndex := 6, attributes := #[] }, { accessFlags := 9, nameIndex := 302, descriptorIndex := 869, attributes := #[] }] 49 2 #[] #[{ accessFlags := 26, nameIndex := 715, descriptorIndex := 716, attributes := #[] }, { accessFlags := 26, nameIndex := 719, descriptorIndex := 716, attributes := #[] }, { accessFlags := 4120, nameIndex := 445, descriptorIndex := 117, attributes := #[] }])
  fields := #[{ name := "MIN_ARRAY_SORT_GRAN", type := .int, accessFlags := 26, slot := 0, constantValue := 0 }, { name := "INSERTIONSORT_THRESHOLD", type := .int, accessFlags := 26, slot := 1, constantValue := 0 }, { name := "$assertionsDisabled", type := .boolean, accessFlags := 4120, slot := 2, constantValue := 0 }]
  methods := #[k16m0, k16m1]
  instanceTypes := #[]
  staticTypes := #[.int, .int, .boolean]
  resolved := Array.replicate 1029 none
  statics := none }

def pool17 : Array CpInfo := pool [(1, .class_ 2), (0, u "java/lang/Math"), (1, .class_ 6), (1, u "java/lang/Object"), (0, u "<init>"), (0, u "()V"), (89, .class_ 100), (1, u "java/lang/Math$RandomNumberGeneratorHolder"), (71, u "negativeZeroFloatBits"), (0, u "J"), (2, u "negativeZeroDoubleBits"), (24, u "min"), (43, u "$assertionsDisabled"), (0, u "Z"), (88, u "(II)I"), (2, u "twoToTheDoubleScaleDown"), (0, u "D"), (4, u "twoToTheDoubleScaleUp"), (9, u "E"), (3, u "PI"), (2, u "TAU"), (2, u "DEGREES_TO_RADIANS"), (0, u "RADIANS_TO_DEGREES")] 94

def k17m0 : Method := { name := "<init>", desc := "()V", sig := { parameters := [], returnType := none }, accessFlags := 2, code := none }
def k17c1 : Code := { maxStack := 2, maxLocals := 2, code := jdk_29_method_69_code, exceptionTable := #[], attributes := #[] }
def k17m1 : Method := { name := "min", desc := "(II)I", sig := { parameters := [.int, .int], returnType := some .int }, accessFlags := 9, code := some k17c1 }
/-- java/lang/Math -/
def k17 : Class := { plain "java/lang/Math" (some 0) with
  accessFlags := 49
  interfaces := #[]
  cf := some (fileOf pool17 1 #[.nestMembers #[98]] #[{ accessFlags := 2, nameIndex := 7, descriptorIndex := 8, attributes := #[] }, { accessFlags := 9, nameIndex := 201, descriptorIndex := 335, attributes := #[] }] 49 4 #[] #[{ accessFlags := 25, nameIndex := 354, descriptorIndex := 339, attributes := #[] }, { accessFlags := 25, nameIndex := 358, descriptorIndex := 339, attributes := #[] }, { accessFlags := 25, nameIndex := 361, descriptorIndex := 339, attributes := #[] }, { accessFlags := 26, nameIndex := 364, descriptorIndex := 339, attributes := #[] }, { accessFlags := 26, nameIndex := 365, descriptorIndex := 339, attributes := #[] }, { accessFlags := 26, nameIndex := 172, descriptorIndex := 173, attributes := #[] }, { accessFlags := 26, nameIndex := 176, descriptorIndex := 173, attributes := #[] }, { accessFlags := 8, nameIndex := 344, descriptorIndex := 339, attributes := #[] }, { accessFlags := 8, nameIndex := 338, descriptorIndex := 339, attributes := #[] }, { accessFlags := 4120, nameIndex := 245, descriptorIndex := 246, attributes := #[] }])
  fields := #[{ name := "E", type := .double, accessFlags := 25, slot := 0, constantValue := 0 }, { name := "PI", type := .double, accessFlags := 25, slot := 1, constantValue := 0 }, { name := "TAU", type := .double, accessFlags := 25, slot := 2, constantValue := 0 }, { name := "DEGREES_TO_RADIANS", type := .double, accessFlags := 26, slot := 3, constantValue := 0 }, { name := "RADIANS_TO_DEGREES", type := .double, accessFlags := 26, slot := 4, constantValue := 0 }, { name := "negativeZeroFloatBits", type := .long, accessFlags := 26, slot := 5, constantValue := 0 }, { name := "negativeZeroDoubleBits", type := .long, accessFlags := 26, slot := 6, constantValue := 0 }, { name := "twoToTheDoubleScaleUp", type := .double, accessFlags := 8, slot := 7, constantValue := 0 }, { name := "twoToTheDoubleScaleDown", type := .double, accessFlags := 8, slot := 8, constantValue := 0 }, { name := "$assertionsDisabled", type := .boolean, accessFlags := 4120, slot := 9, constantValue := 0 }]
  methods := #[k17m0, k17m1]
  instanceTypes := #[]
  staticTypes := #[.double, .double, .double, .double, .double, .long, .long, .double, .double, .boolean]
  resolved := Array.replicate 460 none
  statics := none }

def pool18 : Array CpInfo := pool [(2, .class_ 4), (1, u "java/lang/Object"), (0, u "<init>"), (0, u "()V"), (1, .class_ 10), (1, u "java/lang/System"), (0, u "allowSecurityManager"), (0, u "I"), (16, u "cons"), (0, u "Ljava/io/Console;"), (77, .class_ 110), (1, u "java/lang/System$CallersHolder"), (43, u "initialErrStream"), (0, u "Ljava/io/PrintStream;"), (19, u "security"), (0, u "Ljava/lang/SecurityManager;"), (31, .class_ 209), (0, u "java/lang/System$1"), (7, u "props"), (0, u "Ljava/util/Properties;"), (2, u "lineSeparator"), (0, u "Ljava/lang/String;"), (96, .class_ 321), (1, u "java/lang/System$LoggerFinder"), (5, .class_ 328), (0, u "java/lang/System$Logger"), (67, u "err"), (2, u "out"), (91, u "notSupportedJnuEncoding"), (15, u "in"), (17, u "initialIn"), (0, u "Ljava/io/InputStream;"), (35, u "bootLayer"), (0, u "Ljava/lang/ModuleLayer;"), (99, .class_ 664), (0, u "java/lang/System$2"), (9, u "NEVER"), (2, u "MAYBE"), (49, u "arraycopy"), (0, u "(Ljava/lang/Object;ILjava/lang/Object;II)V"), (72, .class_ 802), (0, u "java/lang/System$Logger$Level")] 31

def k18m0 : Method := { name := "<init>", desc := "()V", sig := { parameters := [], returnType := none }, accessFlags := 2, code := none }
def k18m1 : Method := { name := "arraycopy", desc := "(Ljava/lang/Object;ILjava/lang/Object;II)V", sig := { parameters := [(.object "java/lang/Object"), .int, (.object "java/lang/Object"), .int, .int], returnType := none }, accessFlags := 265, code := none }
/-- java/lang/System -/
def k18 : Class := { plain "java/lang/System" (some 0) with
  accessFlags := 49
  interfaces := #[]
  cf := some (fileOf pool18 8 #[.nestMembers #[319, 327, 801, 108, 663, 208]] #[{ accessFlags := 2, nameIndex := 5, descriptorIndex := 6, attributes := #[] }, { accessFlags := 265, nameIndex := 727, descriptorIndex := 728, attributes := #[] }] 49 2 #[] #[{ accessFlags := 25, nameIndex := 507, descriptorIndex := 526, attributes := #[] }, { accessFlags := 25, nameIndex := 399, descriptorIndex := 155, attributes := #[] }, { accessFlags := 25, nameIndex := 396, descriptorIndex := 155, attributes := #[] }, { accessFlags := 10, nameIndex := 525, descriptorIndex := 526, attributes := #[] }, { accessFlags := 26, nameIndex := 674, descriptorIndex := 12, attributes := #[] }, { accessFlags := 26, nameIndex := 677, descriptorIndex := 12, attributes := #[] }, { accessFlags := 10, nameIndex := 11, descriptorIndex := 12, attributes := #[] }, { accessFlags := 74, nameIndex := 175, descriptorIndex := 176, attributes := #[] }, { accessFlags := 10, nameIndex := 491, descriptorIndex := 222, attributes := #[] }, { accessFlags := 74, nameIndex := 29, descriptorIndex := 30, attributes := #[] }, { accessFlags := 74, nameIndex := 154, descriptorIndex := 155, attributes := #[] }, { accessFlags := 10, nameIndex := 217, descriptorIndex := 218, attributes := #[] }, { accessFlags := 10, nameIndex := 221, descriptorIndex := 222, attributes := #[] }, { accessFlags := 8, nameIndex := 562, descriptorIndex := 563, attributes := #[] }])
  fields := #[{ name := "in", type := (.object "java/io/InputStream"), accessFlags := 25, slot := 0, constantValue := 0 }, { name := "out", type := (.object "java/io/PrintStream"), accessFlags := 25, slot := 1, constantValue := 0 }, { name := "err", type := (.object "java/io/PrintStream"), accessFlags := 25, slot := 2, constantValue := 0 }, { name := "initialIn", type := (.object "java/io/InputStream"), accessFlags := 10, slot := 3, constantValue := 0 }, { name := "NEVER", type := .int, accessFlags := 26, slot := 4, constantValue := 0 }, { name := "MAYBE", type := .int, accessFlags := 26, slot := 5, constantValue := 0 }, { name := "allowSecurityManager", type := .int, accessFlags := 10, slot := 6, constantValue := 0 }, { name := "security", type := (.object "java/lang/SecurityManager"), accessFlags := 74, slot := 7, constantValue := 0 }, { name := "notSupportedJnuEncoding", type := (.object "java/lang/String"), accessFlags := 10, slot := 8, constantValue := 0 }, { name := "cons", type := (.object "java/io/Console"), accessFlags := 74, slot := 9, constantValue := 0 }, { name := "initialErrStream", type := (.object "java/io/PrintStream"), accessFlags := 74, slot := 10, constantValue := 0 }, { name := "props", type := (.object "java/util/Properties"), accessFlags := 10, slot := 11, constantValue := 0 }, { name := "lineSeparator", type := (.object "java/lang/String"), accessFlags := 10, slot := 12, constantValue := 0 }, { name := "bootLayer", type := (.object "java/lang/ModuleLayer"), accessFlags := 8, slot := 13, constantValue := 0 }]
  methods := #[k18m0, k18m1]
  instanceTypes := #[]
  staticTypes := #[(.object "java/io/InputStream"), (.object "java/io/PrintStream"), (.object "java/io/PrintStream"), (.object "java/io/InputStream"), .int, .int, .int, (.object "java/lang/SecurityManager"), (.object "java/lang/String"), (.object "java/io/Console"), (.object "java/io/PrintStream"), (.object "java/util/Properties"), (.object "java/lang/String"), (.object "java/lang/ModuleLayer")]
  resolved := Array.replicate 834 none
  statics := none }

def pool19 : Array CpInfo := pool [(1, .class_ 2), (0, u "java/lang/Cloneable"), (0, .class_ 4), (0, u "java/lang/Object")] 2

/-- java/lang/Cloneable -/
def k19 : Class := { plain "java/lang/Cloneable" (some 0) with
  accessFlags := 1537
  interfaces := #[]
  cf := some (fileOf pool19 1 #[] #[] 1537 3 #[] #[])
  fields := #[]
  methods := #[]
  instanceTypes := #[]
  staticTypes := #[]
  resolved := Array.replicate 7 none
  statics := none }

def pool20 : Array CpInfo := pool [(4, .class_ 6), (1, u "java/lang/Object"), (0, u "<init>"), (0, u "()V"), (5, .class_ 16), (1, u "java/lang/StringLatin1"), (104, u "$assertionsDisabled"), (0, u "Z"), (98, .class_ 223), (1, u "java/lang/StringLatin1$LinesSpliterator"), (166, .class_ 391), (0, u "java/lang/StringLatin1$CharsSpliterator")] 3

def k20m0 : Method := { name := "<init>", desc := "()V", sig := { parameters := [], returnType := none }, accessFlags := 0, code := none }
/-- java/lang/StringLatin1 -/
def k20 : Class := { plain "java/lang/StringLatin1" (some 0) with
  accessFlags := 48
  interfaces := #[]
  cf := some (fileOf pool20 14 #[.nestMembers #[390, 221]] #[{ accessFlags := 0, nameIndex := 7, descriptorIndex := 8, attributes := #[] }] 48 4 #[] #[{ accessFlags := 4120, nameIndex := 121, descriptorIndex := 122, attributes := #[] }])
  fields := #[{ name := "$assertionsDisabled", type := .boolean, accessFlags := 4120, slot := 0, constantValue := 0 }]
  methods := #[k20m0]
  instanceTypes := #[]
  staticTypes := #[.boolean]
  resolved := Array.replicate 395 none
  statics := none }

def pool21 : Array CpInfo := pool [(2, .class_ 4), (1, u "java/lang/Object"), (0, u "<init>"), (0, u "()V"), (17, .class_ 26), (1, u "jdk/internal/util/Preconditions"), (28, .class_ 56), (0, u "jdk/internal/util/Preconditions$4"), (57, .class_ 115), (0, u "jdk/internal/util/Preconditions$1"), (7, u "SIOOBE_FORMATTER"), (0, u "Ljava/util/function/BiFunction;"), (0, .class_ 126), (0, u "jdk/internal/util/Preconditions$2"), (3, u "AIOOBE_FORMATTER"), (0, .class_ 132), (0, u "jdk/internal/util/Preconditions$3"), (3, u "IOOBE_FORMATTER")] 57

def k21m0 : Method := { name := "<init>", desc := "()V", sig := { parameters := [], returnType := none }, accessFlags := 1, code := none }
/-- jdk/internal/util/Preconditions -/
def k21 : Class := { plain "jdk/internal/util/Preconditions" (some 0) with
  accessFlags := 33
  interfaces := #[]
  cf := some (fileOf pool21 24 #[.nestMembers #[55, 131, 125, 114]] #[{ accessFlags := 1, nameIndex := 5, descriptorIndex := 6, attributes := #[] }] 33 2 #[] #[{ accessFlags := 25, nameIndex := 123, descriptorIndex := 124, attributes := #[] }, { accessFlags := 25, nameIndex := 130, descriptorIndex := 124, attributes := #[] }, { accessFlags := 25, nameIndex := 136, descriptorIndex := 124, attributes := #[] }])
  fields := #[{ name := "SIOOBE_FORMATTER", type := (.object "java/util/function/BiFunction"), accessFlags := 25, slot := 0, constantValue := 0 }, { name := "AIOOBE_FORMATTER", type := (.object "java/util/function/BiFunction"), accessFlags := 25, slot := 1, constantValue := 0 }, { name := "IOOBE_FORMATTER", type := (.object "java/util/function/BiFunction"), accessFlags := 25, slot := 2, constantValue := 0 }]
  methods := #[k21m0]
  instanceTypes := #[]
  staticTypes := #[(.object "java/util/function/BiFunction"), (.object "java/util/function/BiFunction"), (.object "java/util/function/BiFunction")]
  resolved := Array.replicate 194 none
  statics := some 3 }

def pool22 : Array CpInfo := pool [(9, u "<init>"), (6, .class_ 18), (1, u "java/lang/Object"), (0, u "()V"), (1, .class_ 23), (1, u "jdk/internal/util/ArraysSupport"), (0, u "LOG2_ARRAY_LONG_INDEX_SCALE"), (0, u "I"), (2, u "U"), (0, u "Ljdk/internal/misc/Unsafe;"), (8, u "BIG_ENDIAN"), (0, u "Z"), (8, u "LOG2_BYTE_BIT_SIZE"), (4, u "LOG2_ARRAY_INT_INDEX_SCALE"), (54, u "JLA"), (0, u "Ljdk/internal/access/JavaLangAccess;"), (11, u "LOG2_ARRAY_BOOLEAN_INDEX_SCALE"), (9, u "LOG2_ARRAY_BYTE_INDEX_SCALE"), (5, u "LOG2_ARRAY_CHAR_INDEX_SCALE"), (5, u "LOG2_ARRAY_SHORT_INDEX_SCALE"), (18, u "LOG2_ARRAY_FLOAT_INDEX_SCALE"), (24, u "LOG2_ARRAY_DOUBLE_INDEX_SCALE"), (89, u "T_BOOLEAN"), (2, u "T_CHAR"), (1, u "T_FLOAT"), (1, u "T_DOUBLE"), (1, u "T_BYTE"), (1, u "T_SHORT"), (1, u "T_INT"), (1, u "T_LONG"), (1, u "SOFT_MAX_ARRAY_LENGTH")] 83

def k22m0 : Method := { name := "<init>", desc := "()V", sig := { parameters := [], returnType := none }, accessFlags := 2, code := none }
/-- jdk/internal/util/ArraysSupport -/
def k22 : Class := { plain "jdk/internal/util/ArraysSupport" (some 0) with
  accessFlags := 33
  interfaces := #[]
  cf := some (fileOf pool22 21 #[] #[{ accessFlags := 2, nameIndex := 9, descriptorIndex := 19, attributes := #[] }] 33 16 #[] #[{ accessFlags := 24, nameIndex := 28, descriptorIndex := 29, attributes := #[] }, { accessFlags := 26, nameIndex := 38, descriptorIndex := 39, attributes := #[] }, { accessFlags := 25, nameIndex := 121, descriptorIndex := 25, attributes := #[] }, { accessFlags := 25, nameIndex := 131, descriptorIndex := 25, attributes := #[] }, { accessFlags := 25, nameIndex := 137, descriptorIndex := 25, attributes := #[] }, { accessFlags := 25, nameIndex := 143, descriptorIndex := 25, attributes := #[] }, { accessFlags := 25, nameIndex := 53, descriptorIndex := 25, attributes := #[] }, { accessFlags := 25, nameIndex := 24, descriptorIndex := 25, attributes := #[] }, { accessFlags := 25, nameIndex := 162, descriptorIndex := 25, attributes := #[] }, { accessFlags := 25, nameIndex := 187, descriptorIndex := 25, attributes := #[] }, { accessFlags := 26, nameIndex := 48, descriptorIndex := 25, attributes := #[] }, { accessFlags := 25, nameIndex := 277, descriptorIndex := 25, attributes := #[] }, { accessFlags := 25, nameIndex := 280, descriptorIndex := 25, attributes := #[] }, { accessFlags := 25, nameIndex := 282, descriptorIndex := 25, attributes := #[] }, { accessFlags := 25, nameIndex := 284, descriptorIndex := 25, attributes := #[] }, { accessFlags := 25, nameIndex := 286, descriptorIndex := 25, attributes := #[] }, { accessFlags := 25, nameIndex := 288, descriptorIndex := 25, attributes := #[] }, { accessFlags := 25, nameIndex := 290, descriptorIndex := 25, attributes := #[] }, { accessFlags := 25, nameIndex := 292, descriptorIndex := 25, attributes := #[] }, { accessFlags := 26, nameIndex := 108, descriptorIndex := 109, attributes := #[] }, { accessFlags := 25, nameIndex := 294, descriptorIndex := 25, attributes := #[] }])
  fields := #[{ name := "U", type := (.object "jdk/internal/misc/Unsafe"), accessFlags := 24, slot := 0, constantValue := 0 }, { name := "BIG_ENDIAN", type := .boolean, accessFlags := 26, slot := 1, constantValue := 0 }, { name := "LOG2_ARRAY_BOOLEAN_INDEX_SCALE", type := .int, accessFlags := 25, slot := 2, constantValue := 0 }, { name := "LOG2_ARRAY_BYTE_INDEX_SCALE", type := .int, accessFlags := 25, slot := 3, constantValue := 0 }, { name := "LOG2_ARRAY_CHAR_INDEX_SCALE", type := .int, accessFlags := 25, slot := 4, constantValue := 0 }, { name := "LOG2_ARRAY_SHORT_INDEX_SCALE", type := .int, accessFlags := 25, slot := 5, constantValue := 0 }, { name := "LOG2_ARRAY_INT_INDEX_SCALE", type := .int, accessFlags := 25, slot := 6, constantValue := 0 }, { name := "LOG2_ARRAY_LONG_INDEX_SCALE", type := .int, accessFlags := 25, slot := 7, constantValue := 0 }, { name := "LOG2_ARRAY_FLOAT_INDEX_SCALE", type := .int, accessFlags := 25, slot := 8, constantValue := 0 }, { name := "LOG2_ARRAY_DOUBLE_INDEX_SCALE", type := .int, accessFlags := 25, slot := 9, constantValue := 0 }, { name := "LOG2_BYTE_BIT_SIZE", type := .int, accessFlags := 26, slot := 10, constantValue := 0 }, { name := "T_BOOLEAN", type := .int, accessFlags := 25, slot := 11, constantValue := 0 }, { name := "T_CHAR", type := .int, accessFlags := 25, slot := 12, constantValue := 0 }, { name := "T_FLOAT", type := .int, accessFlags := 25, slot := 13, constantValue := 0 }, { name := "T_DOUBLE", type := .int, accessFlags := 25, slot := 14, constantValue := 0 }, { name := "T_BYTE", type := .int, accessFlags := 25, slot := 15, constantValue := 0 }, { name := "T_SHORT", type := .int, accessFlags := 25, slot := 16, constantValue := 0 }, { name := "T_INT", type := .int, accessFlags := 25, slot := 17, constantValue := 0 }, { name := "T_LONG", type := .int, accessFlags := 25, slot := 18, constantValue := 0 }, { name := "JLA", type := (.object "jdk/internal/access/JavaLangAccess"), accessFlags := 26, slot := 19, constantValue := 0 }, { name := "SOFT_MAX_ARRAY_LENGTH", type := .int, accessFlags := 25, slot := 20, constantValue := 0 }]
  methods := #[k22m0]
  instanceTypes := #[]
  staticTypes := #[(.object "jdk/internal/misc/Unsafe"), .boolean, .int, .int, .int, .int, .int, .int, .int, .int, .int, .int, .int, .int, .int, .int, .int, .int, .int, (.object "jdk/internal/access/JavaLangAccess"), .int]
  resolved := Array.replicate 378 none
  statics := none }

/-- the primitive byte -/
def k23 : Class := { plain "byte" none with kind := .primitive 'B', accessFlags := 0x411 }
/-- [B -/
def k24 : Class := { plain "[B" (some 0) with kind := .array 23 .byte, interfaces := #[19, 2], accessFlags := 1041 }

/-- the primitive char -/
def k25 : Class := { plain "char" none with kind := .primitive 'C', accessFlags := 0x411 }
/-- [C -/
def k26 : Class := { plain "[C" (some 0) with kind := .array 25 .char, interfaces := #[19, 2], accessFlags := 1041 }

/-- the primitive int -/
def k27 : Class := { plain "int" none with kind := .primitive 'I', accessFlags := 0x411 }
/-- [I -/
def k28 : Class := { plain "[I" (some 0) with kind := .array 27 .int, interfaces := #[19, 2], accessFlags := 1041 }

def heap : Heap := #[{ cls := 7, slots := #[.long 0, .int 1, .null, .int 0, .null, .int 0, .int 0], vm := .statics 7 },
  { cls := 10, slots := #[.null, .null, .ref 4, .null, .null, .null], vm := .statics 10 },
  { cls := 14, slots := #[.ref 4, .null], vm := .statics 14 },
  { cls := 21, slots := #[.null, .null, .null], vm := .statics 21 },
  { cls := 14, slots := #[.null, .null, .null], vm := .none }]
def classes : Array Class := #[k0, k1, k2, k3, k4, k5, k6, k7, k8, k9, k10, k11, k12, k13, k14, k15, k16, k17, k18, k19, k20, k21, k22, k23, k24, k25, k26, k27, k28]
def interned : List (Array UInt16 × Addr) := []
def slotsUsed : Nat := 21
def theMethod : MethodId := ⟨1, 1⟩
def args0 : Array Value := #[.long 5, .long 8, .long 3]
def aboutOver (below : List Frame) : State where
  vm := { classes := classes, interned := interned.toArray }
  heap := heap
  slotsUsed := slotsUsed
  threads := #[{ frames := .invoking theMethod args0 :: below }]
def below0 : List Frame := [.native { method := ⟨0, 0⟩, args := #[] }]
def about1 : State := aboutOver below0
def p0 : Program := .bare "" "" ""
def e0 : Env := launch0.env 0 0 0
theorem w_frames : about1.frames = Frame.invoking theMethod args0 :: below0 := rfl
set_option maxRecDepth 65536 in
theorem w_args : argsFit about1.vm theMethod args0 = true := by decide +kernel
set_option maxRecDepth 65536 in
theorem w_heap : heapFits about1 = true := by decide +kernel
set_option maxRecDepth 65536 in
theorem w_runnable : about1.curStatus? = some .runnable := by decide +kernel
set_option maxRecDepth 65536 in
theorem w_alone : about1.alone = true := by decide +kernel
set_option maxRecDepth 65536 in
theorem w_named : about1.methodNamed? x = some theMethod := by decide +kernel
set_option maxRecDepth 65536 in
theorem w_hears : about1.hears theMethod below0 = true := by decide +kernel
set_option maxRecDepth 65536 in
theorem w_ripe : about1.ripe theMethod args0 below0 = true := by decide +kernel
theorem w_running : about1.status = .running := rfl
set_option maxRecDepth 65536 in
theorem w_room : about1.hasRoom e0.platform room_1 = true :=
  launch0.hasRoom_least _ room_1 (by decide +kernel) (by decide +kernel) (by decide +kernel) (by decide +kernel) (by decide +kernel) (by decide +kernel)
theorem allAtoms_all (ts : List Jvm.Cond) (a : Array Jvm.Value) (st : Jvm.State) : (allAtoms ts).before a st = ts.all (fun c => c.before a st) := by
  induction ts with
  | nil => rfl
  | cons c t ih =>
    show (Jvm.Cond.and c (allAtoms t)).before a st = _
    rw [Jvm.Cond.before_and, ih, List.all_cons]
def words1 : List Jvm.Cond := Jvm.Cond.code x code maxLocals ret :: tables_1
/-- a 'code' word, met by the world's own term for the bytes: nothing is compared byte by byte -/
theorem code_word {y : MethodName} {bytes : ByteArray} {mx : Nat} {rt : Option FieldType} {a : Array Value} {s : State} {m : MethodId} {meth : Method} {c : Code} (h1 : s.methodNamed? y = some m) (h2 : s.vm.method? m = some meth) (h3 : meth.code = some c) (h4 : c.code = bytes)
    (h5 : (c.maxLocals == mx && c.exceptionTable.isEmpty && decide (c.maxStack ≤ mostOperands) && decide (meth.sig.returnType = rt) && !meth.locks && decide (parseMethodDescriptor y.desc = some meth.sig)) = true) : (Jvm.Cond.code y bytes mx rt).before a s = true := by
  simp only [Bool.and_eq_true, beq_iff_eq, Bool.not_eq_true', decide_eq_true_eq] at h5
  obtain ⟨⟨⟨⟨⟨g1, g2⟩, g3⟩, g4⟩, g5⟩, g6⟩ := h5
  simp [Cond.before, Cond.holds, Cond.value, h1, h2, h3, h4, g1, g2, g3, g4, g5, g6]
def isCode : Jvm.Cond → Bool
  | .code _ _ _ _ => true
  | _ => false
theorem all_split {L : List Jvm.Cond} {P : Jvm.Cond → Bool} (h1 : L.all (fun c => isCode c || P c) = true) (h2 : ∀ c ∈ L.filter isCode, P c = true) : L.all P = true := by
  refine List.all_eq_true.mpr fun c hc => ?_
  have h := List.all_eq_true.mp h1 c hc
  rcases Bool.eq_false_or_eq_true (isCode c) with hi | hi
  · exact h2 c (List.mem_filter.mpr ⟨hc, hi⟩)
  · simpa [hi] using h
set_option maxRecDepth 65536 in
theorem w_c0 : (Jvm.Cond.code x code maxLocals ret).before args0 about1 = true := code_word (m := ⟨1, 1⟩) (meth := k1m1) (c := k1c1) (by decide +kernel) rfl rfl rfl (by decide +kernel)
set_option maxRecDepth 65536 in
theorem w_c1 : (Jvm.Cond.code ({ cls := "com/example/highwater/highwater/config/TokenSecretFromTextPinLaw", name := "hi", desc := "(JI)C" } : Jvm.MethodName) method_3_code (3 : Nat) (Option.some Jvm.ClassFile.FieldType.char)).before args0 about1 = true := code_word (m := ⟨1, 2⟩) (meth := k1m2) (c := k1c2) (by decide +kernel) rfl rfl rfl (by decide +kernel)
set_option maxRecDepth 65536 in
theorem w_c2 : (Jvm.Cond.code ({ cls := "com/example/highwater/highwater/config/TokenSecretFromTextPinLaw", name := "lo", desc := "(JI)C" } : Jvm.MethodName) method_4_code (3 : Nat) (Option.some Jvm.ClassFile.FieldType.char)).before args0 about1 = true := code_word (m := ⟨1, 3⟩) (meth := k1m3) (c := k1c3) (by decide +kernel) rfl rfl rfl (by decide +kernel)
set_option maxRecDepth 65536 in
theorem w_c3 : (Jvm.Cond.code ({ cls := "java/lang/String", name := "<init>", desc := "([C)V" } : Jvm.MethodName) jdk_42_method_3_code (2 : Nat) (Option.none : Option Jvm.ClassFile.FieldType)).before args0 about1 = true := code_word (m := ⟨7, 1⟩) (meth := k7m1) (c := k7c1) (by decide +kernel) rfl rfl rfl (by decide +kernel)
set_option maxRecDepth 65536 in
theorem w_c4 : (Jvm.Cond.code ({ cls := "java/lang/String", name := "<init>", desc := "([CIILjava/lang/Void;)V" } : Jvm.MethodName) jdk_42_method_149_code (6 : Nat) (Option.none : Option Jvm.ClassFile.FieldType)).before args0 about1 = true := code_word (m := ⟨7, 5⟩) (meth := k7m5) (c := k7c5) (by decide +kernel) rfl rfl rfl (by decide +kernel)
set_option maxRecDepth 65536 in
theorem w_c5 : (Jvm.Cond.code ({ cls := "java/lang/Object", name := "<init>", desc := "()V" } : Jvm.MethodName) object_method_1_code (1 : Nat) (Option.none : Option Jvm.ClassFile.FieldType)).before args0 about1 = true := code_word (m := ⟨0, 0⟩) (meth := k0m0) (c := k0c0) (by decide +kernel) rfl rfl rfl (by decide +kernel)
set_option maxRecDepth 65536 in
theorem w_c6 : (Jvm.Cond.code ({ cls := "java/lang/StringUTF16", name := "compress", desc := "([CII)[B" } : Jvm.MethodName) jdk_52_method_16_code (6 : Nat) (Option.some (Jvm.ClassFile.FieldType.array Jvm.ClassFile.FieldType.byte))).before args0 about1 = true := code_word (m := ⟨8, 4⟩) (meth := k8m4) (c := k8c4) (by decide +kernel) rfl rfl rfl (by decide +kernel)
set_option maxRecDepth 65536 in
theorem w_c7 : (Jvm.Cond.code ({ cls := "java/lang/StringUTF16", name := "compress", desc := "([CI[BII)I" } : Jvm.MethodName) jdk_52_method_21_code (7 : Nat) (Option.some Jvm.ClassFile.FieldType.int)).before args0 about1 = true := code_word (m := ⟨8, 5⟩) (meth := k8m5) (c := k8c5) (by decide +kernel) rfl rfl rfl (by decide +kernel)
set_option maxRecDepth 65536 in
theorem w_c8 : (Jvm.Cond.code ({ cls := "java/lang/StringUTF16", name := "coderFromArrayLen", desc := "([BI)B" } : Jvm.MethodName) jdk_52_method_15_code (2 : Nat) (Option.some Jvm.ClassFile.FieldType.byte)).before args0 about1 = true := code_word (m := ⟨8, 3⟩) (meth := k8m3) (c := k8c3) (by decide +kernel) rfl rfl rfl (by decide +kernel)
set_option maxRecDepth 65536 in
theorem w_c9 : (Jvm.Cond.code ({ cls := "com/example/highwater/highwater/config/TokenSecret", name := "fromText", desc := "(Ljava/lang/String;)Lcom/example/highwater/highwater/config/TokenSecret;" } : Jvm.MethodName) prog_8_method_2_code (2 : Nat) (Option.some (Jvm.ClassFile.FieldType.object "com/example/highwater/highwater/config/TokenSecret"))).before args0 about1 = true := code_word (m := ⟨9, 1⟩) (meth := k9m1) (c := k9c1) (by decide +kernel) rfl rfl rfl (by decide +kernel)
set_option maxRecDepth 65536 in
theorem w_c10 : (Jvm.Cond.code ({ cls := "java/lang/String", name := "getBytes", desc := "(Ljava/nio/charset/Charset;)[B" } : Jvm.MethodName) jdk_42_method_64_code (2 : Nat) (Option.some (Jvm.ClassFile.FieldType.array Jvm.ClassFile.FieldType.byte))).before args0 about1 = true := code_word (m := ⟨7, 4⟩) (meth := k7m4) (c := k7c4) (by decide +kernel) rfl rfl rfl (by decide +kernel)
set_option maxRecDepth 65536 in
theorem w_c11 : (Jvm.Cond.code ({ cls := "java/lang/String", name := "coder", desc := "()B" } : Jvm.MethodName) jdk_42_method_152_code (1 : Nat) (Option.some Jvm.ClassFile.FieldType.byte)).before args0 about1 = true := code_word (m := ⟨7, 6⟩) (meth := k7m6) (c := k7c6) (by decide +kernel) rfl rfl rfl (by decide +kernel)
set_option maxRecDepth 65536 in
theorem w_c12 : (Jvm.Cond.code ({ cls := "java/lang/String", name := "encode", desc := "(Ljava/nio/charset/Charset;B[B)[B" } : Jvm.MethodName) jdk_42_method_18_code (3 : Nat) (Option.some (Jvm.ClassFile.FieldType.array Jvm.ClassFile.FieldType.byte))).before args0 about1 = true := code_word (m := ⟨7, 2⟩) (meth := k7m2) (c := k7c2) (by decide +kernel) rfl rfl rfl (by decide +kernel)
set_option maxRecDepth 65536 in
theorem w_c13 : (Jvm.Cond.code ({ cls := "java/lang/String", name := "encodeUTF8", desc := "(B[BZ)[B" } : Jvm.MethodName) jdk_42_method_46_code (9 : Nat) (Option.some (Jvm.ClassFile.FieldType.array Jvm.ClassFile.FieldType.byte))).before args0 about1 = true := code_word (m := ⟨7, 3⟩) (meth := k7m3) (c := k7c3) (by decide +kernel) rfl rfl rfl (by decide +kernel)
set_option maxRecDepth 65536 in
theorem w_c14 : (Jvm.Cond.code ({ cls := "java/lang/StringCoding", name := "hasNegatives", desc := "([BII)Z" } : Jvm.MethodName) jdk_123_method_2_code (3 : Nat) (Option.some Jvm.ClassFile.FieldType.boolean)).before args0 about1 = true := code_word (m := ⟨15, 1⟩) (meth := k15m1) (c := k15c1) (by decide +kernel) rfl rfl rfl (by decide +kernel)
set_option maxRecDepth 65536 in
theorem w_c15 : (Jvm.Cond.code ({ cls := "java/lang/StringCoding", name := "countPositives", desc := "([BII)I" } : Jvm.MethodName) jdk_123_method_3_code (5 : Nat) (Option.some Jvm.ClassFile.FieldType.int)).before args0 about1 = true := code_word (m := ⟨15, 2⟩) (meth := k15m2) (c := k15c2) (by decide +kernel) rfl rfl rfl (by decide +kernel)
set_option maxRecDepth 65536 in
theorem w_c16 : (Jvm.Cond.code ({ cls := "java/lang/StringUTF16", name := "newBytesFor", desc := "(I)[B" } : Jvm.MethodName) jdk_52_method_2_code (1 : Nat) (Option.some (Jvm.ClassFile.FieldType.array Jvm.ClassFile.FieldType.byte))).before args0 about1 = true := code_word (m := ⟨8, 1⟩) (meth := k8m1) (c := k8c1) (by decide +kernel) rfl rfl rfl (by decide +kernel)
set_option maxRecDepth 65536 in
theorem w_c17 : (Jvm.Cond.code ({ cls := "java/lang/StringUTF16", name := "newBytesLength", desc := "(I)I" } : Jvm.MethodName) jdk_52_method_3_code (1 : Nat) (Option.some Jvm.ClassFile.FieldType.int)).before args0 about1 = true := code_word (m := ⟨8, 2⟩) (meth := k8m2) (c := k8c2) (by decide +kernel) rfl rfl rfl (by decide +kernel)
set_option maxRecDepth 65536 in
theorem w_c18 : (Jvm.Cond.code ({ cls := "java/util/Arrays", name := "copyOf", desc := "([BI)[B" } : Jvm.MethodName) jdk_65_method_121_code (3 : Nat) (Option.some (Jvm.ClassFile.FieldType.array Jvm.ClassFile.FieldType.byte))).before args0 about1 = true := code_word (m := ⟨16, 1⟩) (meth := k16m1) (c := k16c1) (by decide +kernel) rfl rfl rfl (by decide +kernel)
set_option maxRecDepth 65536 in
theorem w_c19 : (Jvm.Cond.code ({ cls := "java/lang/Math", name := "min", desc := "(II)I" } : Jvm.MethodName) jdk_29_method_69_code (2 : Nat) (Option.some Jvm.ClassFile.FieldType.int)).before args0 about1 = true := code_word (m := ⟨17, 1⟩) (meth := k17m1) (c := k17c1) (by decide +kernel) rfl rfl rfl (by decide +kernel)
set_option maxRecDepth 65536 in
theorem w_c20 : (Jvm.Cond.code ({ cls := "com/example/highwater/highwater/config/TokenSecret", name := "<init>", desc := "([B)V" } : Jvm.MethodName) prog_8_method_1_code (2 : Nat) (Option.none : Option Jvm.ClassFile.FieldType)).before args0 about1 = true := code_word (m := ⟨9, 0⟩) (meth := k9m0) (c := k9c0) (by decide +kernel) rfl rfl rfl (by decide +kernel)
set_option maxRecDepth 65536 in
theorem w_c21 : (Jvm.Cond.code ({ cls := "com/example/highwater/highwater/config/TokenSecret", name := "bytes", desc := "()[B" } : Jvm.MethodName) prog_8_method_3_code (1 : Nat) (Option.some (Jvm.ClassFile.FieldType.array Jvm.ClassFile.FieldType.byte))).before args0 about1 = true := code_word (m := ⟨9, 2⟩) (meth := k9m2) (c := k9c2) (by decide +kernel) rfl rfl rfl (by decide +kernel)
set_option maxRecDepth 65536 in
theorem w_c22 : (Jvm.Cond.code ({ cls := "com/example/highwater/highwater/config/TokenSecretFromTextPinLaw", name := "step", desc := "([BIC)I" } : Jvm.MethodName) method_5_code (3 : Nat) (Option.some Jvm.ClassFile.FieldType.int)).before args0 about1 = true := code_word (m := ⟨1, 4⟩) (meth := k1m4) (c := k1c4) (by decide +kernel) rfl rfl rfl (by decide +kernel)
def codes1 : List Jvm.Cond := [Jvm.Cond.code x code maxLocals ret, Jvm.Cond.code ({ cls := "com/example/highwater/highwater/config/TokenSecretFromTextPinLaw", name := "hi", desc := "(JI)C" } : Jvm.MethodName) method_3_code (3 : Nat) (Option.some Jvm.ClassFile.FieldType.char), Jvm.Cond.code ({ cls := "com/example/highwater/highwater/config/TokenSecretFromTextPinLaw", name := "lo", desc := "(JI)C" } : Jvm.MethodName) method_4_code (3 : Nat) (Option.some Jvm.ClassFile.FieldType.char), Jvm.Cond.code ({ cls := "java/lang/String", name := "<init>", desc := "([C)V" } : Jvm.MethodName) jdk_42_method_3_code (2 : Nat) (Option.none : Option Jvm.ClassFile.FieldType), Jvm.Cond.code ({ cls := "java/lang/String", name := "<init>", desc := "([CIILjava/lang/Void;)V" } : Jvm.MethodName) jdk_42_method_149_code (6 : Nat) (Option.none : Option Jvm.ClassFile.FieldType), Jvm.Cond.code ({ cls := "java/lang/Object", name := "<init>", desc := "()V" } : Jvm.MethodName) object_method_1_code (1 : Nat) (Option.none : Option Jvm.ClassFile.FieldType), Jvm.Cond.code ({ cls := "java/lang/StringUTF16", name := "compress", desc := "([CII)[B" } : Jvm.MethodName) jdk_52_method_16_code (6 : Nat) (Option.some (Jvm.ClassFile.FieldType.array Jvm.ClassFile.FieldType.byte)), Jvm.Cond.code ({ cls := "java/lang/StringUTF16", name := "compress", desc := "([CI[BII)I" } : Jvm.MethodName) jdk_52_method_21_code (7 : Nat) (Option.some Jvm.ClassFile.FieldType.int), Jvm.Cond.code ({ cls := "java/lang/StringUTF16", name := "coderFromArrayLen", desc := "([BI)B" } : Jvm.MethodName) jdk_52_method_15_code (2 : Nat) (Option.some Jvm.ClassFile.FieldType.byte), Jvm.Cond.code ({ cls := "com/example/highwater/highwater/config/TokenSecret", name := "fromText", desc := "(Ljava/lang/String;)Lcom/example/highwater/highwater/config/TokenSecret;" } : Jvm.MethodName) prog_8_method_2_code (2 : Nat) (Option.some (Jvm.ClassFile.FieldType.object "com/example/highwater/highwater/config/TokenSecret")), Jvm.Cond.code ({ cls := "java/lang/String", name := "getBytes", desc := "(Ljava/nio/charset/Charset;)[B" } : Jvm.MethodName) jdk_42_method_64_code (2 : Nat) (Option.some (Jvm.ClassFile.FieldType.array Jvm.ClassFile.FieldType.byte)), Jvm.Cond.code ({ cls := "java/lang/String", name := "coder", desc := "()B" } : Jvm.MethodName) jdk_42_method_152_code (1 : Nat) (Option.some Jvm.ClassFile.FieldType.byte), Jvm.Cond.code ({ cls := "java/lang/String", name := "encode", desc := "(Ljava/nio/charset/Charset;B[B)[B" } : Jvm.MethodName) jdk_42_method_18_code (3 : Nat) (Option.some (Jvm.ClassFile.FieldType.array Jvm.ClassFile.FieldType.byte)), Jvm.Cond.code ({ cls := "java/lang/String", name := "encodeUTF8", desc := "(B[BZ)[B" } : Jvm.MethodName) jdk_42_method_46_code (9 : Nat) (Option.some (Jvm.ClassFile.FieldType.array Jvm.ClassFile.FieldType.byte)), Jvm.Cond.code ({ cls := "java/lang/StringCoding", name := "hasNegatives", desc := "([BII)Z" } : Jvm.MethodName) jdk_123_method_2_code (3 : Nat) (Option.some Jvm.ClassFile.FieldType.boolean), Jvm.Cond.code ({ cls := "java/lang/StringCoding", name := "countPositives", desc := "([BII)I" } : Jvm.MethodName) jdk_123_method_3_code (5 : Nat) (Option.some Jvm.ClassFile.FieldType.int), Jvm.Cond.code ({ cls := "java/lang/StringUTF16", name := "newBytesFor", desc := "(I)[B" } : Jvm.MethodName) jdk_52_method_2_code (1 : Nat) (Option.some (Jvm.ClassFile.FieldType.array Jvm.ClassFile.FieldType.byte)), Jvm.Cond.code ({ cls := "java/lang/StringUTF16", name := "newBytesLength", desc := "(I)I" } : Jvm.MethodName) jdk_52_method_3_code (1 : Nat) (Option.some Jvm.ClassFile.FieldType.int), Jvm.Cond.code ({ cls := "java/util/Arrays", name := "copyOf", desc := "([BI)[B" } : Jvm.MethodName) jdk_65_method_121_code (3 : Nat) (Option.some (Jvm.ClassFile.FieldType.array Jvm.ClassFile.FieldType.byte)), Jvm.Cond.code ({ cls := "java/lang/Math", name := "min", desc := "(II)I" } : Jvm.MethodName) jdk_29_method_69_code (2 : Nat) (Option.some Jvm.ClassFile.FieldType.int), Jvm.Cond.code ({ cls := "com/example/highwater/highwater/config/TokenSecret", name := "<init>", desc := "([B)V" } : Jvm.MethodName) prog_8_method_1_code (2 : Nat) (Option.none : Option Jvm.ClassFile.FieldType), Jvm.Cond.code ({ cls := "com/example/highwater/highwater/config/TokenSecret", name := "bytes", desc := "()[B" } : Jvm.MethodName) prog_8_method_3_code (1 : Nat) (Option.some (Jvm.ClassFile.FieldType.array Jvm.ClassFile.FieldType.byte)), Jvm.Cond.code ({ cls := "com/example/highwater/highwater/config/TokenSecretFromTextPinLaw", name := "step", desc := "([BIC)I" } : Jvm.MethodName) method_5_code (3 : Nat) (Option.some Jvm.ClassFile.FieldType.int)]
set_option maxRecDepth 65536 in
theorem codes_eq : words1.filter isCode = codes1 := rfl
theorem w_codes : ∀ c ∈ words1.filter isCode, c.before args0 about1 = true := by
  rw [codes_eq]
  intro c hc
  simp only [codes1, List.mem_cons, List.not_mem_nil, or_false] at hc
  rcases hc with rfl | rfl | rfl | rfl | rfl | rfl | rfl | rfl | rfl | rfl | rfl | rfl | rfl | rfl | rfl | rfl | rfl | rfl | rfl | rfl | rfl | rfl | rfl
  · exact w_c0
  · exact w_c1
  · exact w_c2
  · exact w_c3
  · exact w_c4
  · exact w_c5
  · exact w_c6
  · exact w_c7
  · exact w_c8
  · exact w_c9
  · exact w_c10
  · exact w_c11
  · exact w_c12
  · exact w_c13
  · exact w_c14
  · exact w_c15
  · exact w_c16
  · exact w_c17
  · exact w_c18
  · exact w_c19
  · exact w_c20
  · exact w_c21
  · exact w_c22
set_option maxRecDepth 65536 in
theorem w_t1 : (words1.take 24).all (fun c => isCode c || c.before args0 about1) = true := by decide +kernel
set_option maxRecDepth 65536 in
theorem w_t2 : ((words1.drop 24).take 24).all (fun c => isCode c || c.before args0 about1) = true := by decide +kernel
set_option maxRecDepth 65536 in
theorem w_t3 : (((words1.drop 24).drop 24).take 24).all (fun c => isCode c || c.before args0 about1) = true := by decide +kernel
set_option maxRecDepth 65536 in
theorem w_t4 : ((((words1.drop 24).drop 24).drop 24).take 24).all (fun c => isCode c || c.before args0 about1) = true := by decide +kernel
set_option maxRecDepth 65536 in
theorem w_t5 : ((((words1.drop 24).drop 24).drop 24).drop 24).all (fun c => isCode c || c.before args0 about1) = true := by decide +kernel
theorem w_tables : (allAtoms (Jvm.Cond.code x code maxLocals ret :: tables_1)).before args0 about1 = true := by
  rw [allAtoms_all]
  show words1.all (fun c => c.before args0 about1) = true
  refine all_split ?_ w_codes
  rw [← List.take_append_drop 24 words1, List.all_append, w_t1, ← List.take_append_drop 24 (words1.drop 24), List.all_append, w_t2, ← List.take_append_drop 24 ((words1.drop 24).drop 24), List.all_append, w_t3, ← List.take_append_drop 24 (((words1.drop 24).drop 24).drop 24), List.all_append, w_t4, w_t5]
  rfl
set_option maxRecDepth 65536 in
theorem w_rest : rest_1_c.before args0 about1 = true := by decide +kernel
set_option maxRecDepth 65536 in
theorem w_case : (Jvm.Cond.and given_1 narrow_1).before args0 about1 = true := by decide +kernel
theorem w_applies : (headSpec (Jvm.Cond.code x code maxLocals ret :: tables_1) room_1).applies x e0.platform about1 = true :=
  (Spec.applies_iff w_frames).mpr ⟨w_running, w_runnable, w_alone, w_named, w_hears, w_ripe, w_room, w_tables⟩
theorem atStart : AtStart classFile x code maxLocals ret World_1 tables_1 room_1 Calls_1 rest_1 Pre_1 launch0 p0 e0 about1 theMethod args0 below0 :=
  ⟨lists_1, trivial, launch0.admits_env _ _ _, launch0.least_env, fairChoices_fair.cas, fairChoices_fair.clock, w_frames, w_args, w_heap, w_applies, trivial, w_rest, w_case⟩
end start1
theorem witness_1 : WitnessClaimed_1 := ⟨start1.p0, start1.e0, start1.about1, start1.theMethod, start1.args0, start1.below0, start1.atStart⟩
end Jvm.Pilot.@@N@@
