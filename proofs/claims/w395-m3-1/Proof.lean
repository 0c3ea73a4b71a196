import JvmDerived
import JvmDerived.Pilot.@@N@@Statement
import JvmDerived.Pilot.@@N@@Code
set_option linter.unusedVariables false
set_option linter.unusedSimpArgs false
namespace Jvm.Pilot.@@N@@
open Jvm Jvm.ClassFile Sem Op Lib Jvm.Free Jvm.Stand Jvm.LawKit Jvm.RoadKit Bundle Jvm.Pilot.@@N@@.Jvm.D
/-! the goal form of a walk: from S the run ends in Q -/
def own_Gl (p : Program) (e : Env) (below : List Frame) (Q : Outcome → State → Prop) (S : State) : Prop := ∃ s₂ o, Steps p.tables e below S s₂ ∧ s₂.status = .running ∧ Ended s₂ below o ∧ Q o s₂
def own_Post (s : State) (Q : Option Value → Heap → List Loc → Prop) (C N : Nat) : Outcome → State → Prop := fun o U' => ∃ v L, o = .returned v ∧ Q v U'.heap L ∧ FrameEnd s o U' L C N
section Own
variable {p : Program} {l : Launch} {e : Env} {R : Room} {s : State} {m : MethodId} {args : Array Value} {below : List Frame} {meth : Method} {c : Code} {T : State} {locs : List Loc} {cells slots : Nat} {Q : Outcome → State → Prop} {QQ : Option Value → Heap → List Loc → Prop} {S S' : State} {C N : Nat} {h : Heap}
theorem own_st (st : ∀ t, Steps p.tables e below S' t → Steps p.tables e below S t) (g : own_Gl p e below Q S') : own_Gl p e below Q S := by
  obtain ⟨s₂, o, h1, h2⟩ := g; exact ⟨s₂, o, st _ h1, h2⟩
theorem own_tr (st : Steps p.tables e below S S') (g : own_Gl p e below Q S') : own_Gl p e below Q S := by
  obtain ⟨s₂, o, h1, h2⟩ := g; exact ⟨s₂, o, st.trans h1, h2⟩
theorem own_retO (X : Stand p l e R s m args below meth c T locs cells slots) (hx : p.tables.exec = Jvm.exec) (hlk : meth.locks = false) {pc : Nat} {Ls : Array Slot} {w : Value} {t : FieldType} {i : Instr} {rest : List Value} (hret : meth.sig.returnType = some t) (hn : narrow t w = w)
    (hi : (i = .ireturn ∧ (t = .int ∨ t = .boolean ∨ t = .byte ∨ t = .char ∨ t = .short) ∧ ∃ z, w = .int z) ∨ (i = .lreturn ∧ t = .long ∧ ∃ z, w = .long z) ∨ (i = .dreturn ∧ t = .double ∧ ∃ z, w = .double z) ∨ (i = .freturn ∧ t = .float ∧ ∃ z, w = .float z) ∨ (i = .areturn ∧ t.isReference = true ∧ w.isRef = true))
    (hd : decode c.code pc = .ok (i, 1)) (hc : cells ≤ C) (hs : slots ≤ N) (eT : T.heap = h) (hq : QQ (some w) h locs) : own_Gl p e below (own_Post s QQ C N) (T.setTop (mkF m pc Ls (w :: rest))) := by
  obtain ⟨fs, hr, hrun, hended, hW, hsame⟩ := X.leave (v := some w) (fun h => by rw [hret] at h; cases h) hlk
  subst eT
  exact ⟨_, _, retOut X hx hret hn hi hd hr, hrun, hended, _, _, rfl, hq, ⟨_, rfl⟩, hW, hsame.mono hc hs⟩
theorem own_retI (X : Stand p l e R s m args below meth c T locs cells slots) (hx : p.tables.exec = Jvm.exec) (hlk : meth.locks = false) {pc : Nat} {Ls : Array Slot} {z : Int32} {rest : List Value} (hret : meth.sig.returnType = some .int)
    (hd : decode c.code pc = .ok (.ireturn, 1)) (hc : cells ≤ C) (hs : slots ≤ N) (eT : T.heap = h) (hq : QQ (some (.int z)) h locs) : own_Gl p e below (own_Post s QQ C N) (T.setTop (mkF m pc Ls (.int z :: rest))) :=
  own_retO X hx hlk hret rfl (Or.inl ⟨rfl, Or.inl rfl, z, rfl⟩) hd hc hs eT hq
theorem own_retL (X : Stand p l e R s m args below meth c T locs cells slots) (hx : p.tables.exec = Jvm.exec) (hlk : meth.locks = false) {pc : Nat} {Ls : Array Slot} {z : Int64} {rest : List Value} (hret : meth.sig.returnType = some .long)
    (hd : decode c.code pc = .ok (.lreturn, 1)) (hc : cells ≤ C) (hs : slots ≤ N) (eT : T.heap = h) (hq : QQ (some (.long z)) h locs) : own_Gl p e below (own_Post s QQ C N) (T.setTop (mkF m pc Ls (.long z :: rest))) :=
  own_retO X hx hlk hret rfl (Or.inr (Or.inl ⟨rfl, rfl, z, rfl⟩)) hd hc hs eT hq
theorem own_nref {t : FieldType} {w : Value} (h : w.isRef = true) : narrow t w = w := by cases t <;> cases w <;> first | rfl | simp [Value.isRef] at h
theorem own_retA (X : Stand p l e R s m args below meth c T locs cells slots) (hx : p.tables.exec = Jvm.exec) (hlk : meth.locks = false) {pc : Nat} {Ls : Array Slot} {w : Value} {t : FieldType} {rest : List Value} (hret : meth.sig.returnType = some t) (ht : t.isReference = true) (hw : w.isRef = true)
    (hd : decode c.code pc = .ok (.areturn, 1)) (hc : cells ≤ C) (hs : slots ≤ N) (eT : T.heap = h) (hq : QQ (some w) h locs) : own_Gl p e below (own_Post s QQ C N) (T.setTop (mkF m pc Ls (w :: rest))) :=
  own_retO X hx hlk hret (own_nref hw) (Or.inr (Or.inr (Or.inr (Or.inr ⟨rfl, ht, hw⟩)))) hd hc hs eT hq
theorem own_retN (X : Stand p l e R s m args below meth c T locs cells slots) (hx : p.tables.exec = Jvm.exec) (hlk : meth.locks = false) {pc : Nat} {Ls : Array Slot} {z : Int32} {t : FieldType} {rest : List Value} (hret : meth.sig.returnType = some t) (ht : t = .boolean ∨ t = .byte ∨ t = .char ∨ t = .short)
    (hd : decode c.code pc = .ok (.ireturn, 1)) (hc : cells ≤ C) (hs : slots ≤ N) (eT : T.heap = h) (hq : QQ (some (.int (nar t z))) h locs) : own_Gl p e below (own_Post s QQ C N) (T.setTop (mkF m pc Ls (.int z :: rest))) := by
  obtain ⟨fs, hr, hrun, hended, hW, hsame⟩ := X.leave (v := some (.int (nar t z))) (fun h => by rw [hret] at h; cases h) hlk
  subst eT
  exact ⟨_, _, retN X hx hret ht hd hr, hrun, hended, _, _, rfl, hq, ⟨_, rfl⟩, hW, hsame.mono hc hs⟩
theorem own_retV (X : Stand p l e R s m args below meth c T locs cells slots) (hx : p.tables.exec = Jvm.exec) (hlk : meth.locks = false) {pc : Nat} {Ls : Array Slot} (hret : meth.sig.returnType = none)
    (hd : decode c.code pc = .ok (.return_, 1)) (hc : cells ≤ C) (hs : slots ≤ N) (eT : T.heap = h) (hq : QQ none h locs) : own_Gl p e below (own_Post s QQ C N) (T.setTop (mkF m pc Ls [])) := by
  obtain ⟨fs, hr, hrun, hended, hW, hsame⟩ := X.leave (v := none) (fun _ => rfl) hlk
  subst eT
  exact ⟨_, _, X.returnOut hx hret hd hr, hrun, hended, _, _, rfl, hq, ⟨_, rfl⟩, hW, hsame.mono hc hs⟩
theorem own_ext_refl (h : Heap) : Ext h h := ⟨Nat.le_refl _, fun _ _ q => q⟩
theorem own_ext_tr {h0 h h' : Heap} (A : Ext h0 h) (B : Ext h h') : Ext h0 h' := ⟨Nat.le_trans A.1 B.1, fun x c q => B.2 x c (A.2 x c q)⟩
theorem own_ext_keep {h0 h h' : Heap} {ws : List Addr} (A : Ext h0 h) (K : Keep h h' ws) (q : ∀ x ∈ ws, h0.size ≤ x) : Ext h0 h' := ⟨Nat.le_trans A.1 K.1, fun x c r => K.2.1 x c (A.2 x c r) fun z => absurd (Array.getElem?_eq_some_iff.mp r).1 (Nat.not_lt.mpr (q x z))⟩
theorem own_ext_wr {h0 h h' : Heap} {a : Addr} {sl : Nat} {v : Value} (A : Ext h0 h) (W : Wr h h' a sl v) (q : h0.size ≤ a) : Ext h0 h' := own_ext_keep A (Keep.of_wr W) (allS q all0)
theorem own_sta_keep {Z : State} {h h' : Heap} {ws : List Addr} {C n d : String} {v : Value} (F : Sta Z h C n d v) (K : Keep h h' ws) (q : ∀ x ∈ ws, ∀ cell : Cell, h[x]? = some cell → cell.vm.isStatics = false) : Sta Z h' C n d v := by
  obtain ⟨cf, i, k, f, st, cell, h1, h2, h3, h4, h5, h6, h7⟩ := F
  exact ⟨cf, i, k, f, st, cell, h1, h2, h3, h4, K.2.1 _ _ h5 (fun z => by rw [q _ z _ h5] at h6; cases h6), h6, h7⟩
end Own
section Words
variable {Z : State} {args : Array Value} {t u : Term} {a : Addr} {cl : Cell} {ty : FieldType}
theorem own_fldI {C n d : String} {k : Int32} (ht : t.eval args Z none [] Z = some (.ref a)) (h : (Cond.eq (Term.field t C n d) (Term.int k)).value args Z none Z [] = some true) : Fld Z Z.heap a C n d (.int k) := by
  refine Fld.start ?_
  have e := fld_at (C := C) (n := n) (dd := d) ht
  cases hv : Z.fieldOf? a C n d with
  | none => rw [hv] at e; simp [Cond.value, e] at h
  | some v => rw [hv] at e; have ek := Term.int_eval (args := args) (first := Z) (o := none) (idx := []) (s := Z) k; cases v <;> simp only [Cond.value, e, ek] at h <;> first | (cases h; done) | (simp at h; rw [h])
theorem own_fldL {C n d : String} {k : Int64} (ht : t.eval args Z none [] Z = some (.ref a)) (h : (Cond.eq (Term.field t C n d) (Term.long k)).value args Z none Z [] = some true) : Fld Z Z.heap a C n d (.long k) := by
  refine Fld.start ?_
  have e := fld_at (C := C) (n := n) (dd := d) ht
  cases hv : Z.fieldOf? a C n d with
  | none => rw [hv] at e; simp [Cond.value, e] at h
  | some v => rw [hv] at e; have ek : (Term.long k).eval args Z none [] Z = some (.long k) := rfl; cases v <;> simp only [Cond.value, e, ek] at h <;> first | (cases h; done) | (simp at h; rw [h])
theorem own_fldR {C n d : String} {b : Addr} (ht : t.eval args Z none [] Z = some (.ref a)) (h : (Term.field t C n d).eval args Z none [] Z = some (.ref b)) : Fld Z Z.heap a C n d (.ref b) := Fld.start ((fld_at ht).symm.trans h)
theorem own_len {n : Int32} (ht : t.eval args Z none [] Z = some (.ref a)) (A : Arr Z Z.heap a cl ty) (h : (Cond.eq (Term.length t) (Term.int n)).value args Z none Z [] = some true) : cl.slots.size < 2 ^ 31 ∧ cl.slots.size.toInt32 = n := by
  have ha := A.fin (Vm.Alike.refl _)
  have ek : (Term.int n).eval args Z none [] Z = some (.int n) := rfl
  by_cases hl : cl.slots.size < 2 ^ 31
  · have e := len_f ht ha hl
    simp only [Cond.value, e, ek] at h
    exact ⟨hl, by simpa using h⟩
  · exfalso
    have e : (Term.length t).eval args Z none [] Z = none := by simp [Term.eval, ht, ha, hl]
    simp [Cond.value, e] at h
theorem own_elemI {j k : Int32} (ht : t.eval args Z none [] Z = some (.ref a)) (A : Arr Z Z.heap a cl ty) (h : (Cond.eq (Term.elem t (Term.int j)) (Term.int k)).value args Z none Z [] = some true) : cl.slots[j.toNatClampNeg]? = some (.int k) := by
  have ek : (Term.int k).eval args Z none [] Z = some (.int k) := rfl
  cases hv : (Term.elem t (Term.int j)).eval args Z none [] Z with
  | none => simp [Cond.value, hv] at h
  | some v =>
    have q := (elem_in hv ht (Term.int_eval j) A.1).2
    rw [q]
    cases v <;> simp only [Cond.value, hv, ek] at h <;> first | (cases h; done) | (simp at h; rw [h])
theorem own_elemR {j : Int32} {b : Addr} (ht : t.eval args Z none [] Z = some (.ref a)) (A : Arr Z Z.heap a cl ty) (hu : u.eval args Z none [] Z = some (.ref b)) (h : (Cond.eq (Term.elem t (Term.int j)) u).value args Z none Z [] = some true) : cl.slots[j.toNatClampNeg]? = some (.ref b) := by
  cases hv : (Term.elem t (Term.int j)).eval args Z none [] Z with
  | none => simp [Cond.value, hv] at h
  | some v =>
    have q := (elem_in hv ht (Term.int_eval j) A.1).2
    rw [q]
    cases v <;> simp only [Cond.value, hv, hu] at h <;> first | (cases h; done) | (simp at h; rw [h])
end Words
def own_per (Z : State) (h : Heap) (r : Addr) (k : Int32) : Prop := Exa Z h r "com/example/tranche/tranche/notice/InterestPeriod" ∧ ∃ b, Fld Z h r "com/example/tranche/tranche/notice/InterestPeriod" "length" "Ljava/time/Period;" (.ref b) ∧ Exa Z h b "java/time/Period" ∧ Fld Z h b "java/time/Period" "years" "I" (.int 0) ∧ Fld Z h b "java/time/Period" "months" "I" (.int k)
theorem own_pos (k : Int32) : (0 : Int64) < ((0 : Int32).toInt64 * (12 : Int64)) + k.toInt64 ↔ (0 : Int32) < k := by
  have e : ((0 : Int32).toInt64 * (12 : Int64)) + k.toInt64 = k.toInt64 := by
    have : ((0 : Int32).toInt64 * (12 : Int64)) = 0 := by decide
    rw [this]; simp
  rw [e, Int64.lt_iff_toInt_lt, Int32.lt_iff_toInt_lt, Int32.toInt_toInt64]; rfl
def own_b (P : Prop) [Decidable P] : Int32 := if P then 1 else 0
theorem own_law {i k : Int32} (h : 0 < k ↔ ¬ i = 0) : (¬ i = 0 → own_b (0 < k) = 1) ∧ (i = 0 → own_b (0 < k) = 0) := ⟨fun q => if_pos (h.mpr q), fun q => if_neg fun z => h.mp z q⟩
theorem own_nb (P : Prop) [Decidable P] : nar .boolean (own_b P) = own_b P := by unfold own_b; split <;> decide
theorem own_pn0 : plainName "com/example/tranche/tranche/notice/InterestPeriodIsMonthsPinLaw" = true := by first | (simp [plainName, overriddenIn]; done) | decide +kernel
theorem own_d_method_3_code_0 : decode method_3_code 0 = .ok (.iload_n 0, 1) := by decide +kernel
theorem own_d_method_3_code_1 : decode method_3_code 1 = .ok (.ifCond .ne 7, 3) := by decide +kernel
theorem own_d_method_3_code_4 : decode method_3_code 4 = .ok (.getstatic 20, 3) := by decide +kernel
theorem own_d_method_3_code_7 : decode method_3_code 7 = .ok (.areturn, 1) := by decide +kernel
theorem own_d_method_3_code_8 : decode method_3_code 8 = .ok (.iload_n 0, 1) := by decide +kernel
theorem own_d_method_3_code_9 : decode method_3_code 9 = .ok (.iconst 1, 1) := by decide +kernel
theorem own_d_method_3_code_10 : decode method_3_code 10 = .ok (.if_icmp .ne 7, 3) := by decide +kernel
theorem own_d_method_3_code_13 : decode method_3_code 13 = .ok (.getstatic 24, 3) := by decide +kernel
theorem own_d_method_3_code_16 : decode method_3_code 16 = .ok (.areturn, 1) := by decide +kernel
theorem own_d_method_3_code_17 : decode method_3_code 17 = .ok (.iload_n 0, 1) := by decide +kernel
theorem own_d_method_3_code_18 : decode method_3_code 18 = .ok (.iconst 2, 1) := by decide +kernel
theorem own_d_method_3_code_19 : decode method_3_code 19 = .ok (.if_icmp .ne 7, 3) := by decide +kernel
theorem own_d_method_3_code_22 : decode method_3_code 22 = .ok (.getstatic 27, 3) := by decide +kernel
theorem own_d_method_3_code_25 : decode method_3_code 25 = .ok (.areturn, 1) := by decide +kernel
theorem own_d_method_3_code_26 : decode method_3_code 26 = .ok (.iload_n 0, 1) := by decide +kernel
theorem own_d_method_3_code_27 : decode method_3_code 27 = .ok (.iconst 3, 1) := by decide +kernel
theorem own_d_method_3_code_28 : decode method_3_code 28 = .ok (.if_icmp .ne 7, 3) := by decide +kernel
theorem own_d_method_3_code_31 : decode method_3_code 31 = .ok (.getstatic 30, 3) := by decide +kernel
theorem own_d_method_3_code_34 : decode method_3_code 34 = .ok (.areturn, 1) := by decide +kernel
theorem own_d_method_3_code_35 : decode method_3_code 35 = .ok (.iload_n 0, 1) := by decide +kernel
theorem own_d_method_3_code_36 : decode method_3_code 36 = .ok (.iconst 4, 1) := by decide +kernel
theorem own_d_method_3_code_37 : decode method_3_code 37 = .ok (.if_icmp .ne 7, 3) := by decide +kernel
theorem own_d_method_3_code_40 : decode method_3_code 40 = .ok (.getstatic 33, 3) := by decide +kernel
theorem own_d_method_3_code_43 : decode method_3_code 43 = .ok (.areturn, 1) := by decide +kernel
theorem own_d_method_3_code_44 : decode method_3_code 44 = .ok (.iload_n 0, 1) := by decide +kernel
theorem own_d_method_3_code_45 : decode method_3_code 45 = .ok (.iconst 5, 1) := by decide +kernel
theorem own_d_method_3_code_46 : decode method_3_code 46 = .ok (.if_icmp .ne 7, 3) := by decide +kernel
theorem own_d_method_3_code_49 : decode method_3_code 49 = .ok (.getstatic 36, 3) := by decide +kernel
theorem own_d_method_3_code_52 : decode method_3_code 52 = .ok (.areturn, 1) := by decide +kernel
theorem own_d_method_3_code_53 : decode method_3_code 53 = .ok (.getstatic 39, 3) := by decide +kernel
theorem own_d_method_3_code_56 : decode method_3_code 56 = .ok (.areturn, 1) := by decide +kernel
theorem own_ef_pick (m : MethodId) (x0 : Int32) : entryFrame m #[(.int x0)] 1 = mkF m 0 #[.val (.int x0)] [] := by first | (simp [entryFrame, mkF, argsToLocals, Value.category]; done) | rfl
def own_Q_pick (Z : State) (p1 : Int32) (ad0 ad1 ad2 ad3 ad4 ad5 ad6 : Addr) (h0 : Heap) (n0 : Nat) (v : Option Value) (h : Heap) (L : List Loc) : Prop := (∃ r k, v = some (.ref r) ∧ own_per Z h0 r k ∧ (0 < k ↔ ¬ p1 = 0)) ∧ Fr n0 L ∧ h = h0
set_option maxRecDepth 65536 in
set_option maxHeartbeats 40000000 in
theorem own_rm_pick (l : Launch) (Z : State) (a0 : Array Value) (hw : ∀ d ∈ tables_1, d.before a0 Z = true) (ws : List Jvm.Cond) (p1 : Int32) (ad0 ad1 ad2 ad3 ad4 ad5 ad6 : Addr) (h0 : Heap) (n0 : Nat) (Z0 : n0 ≤ h0.size) (S_ad0 : Sta Z h0 "com/example/tranche/tranche/notice/InterestPeriod" "ONE_WEEK" "Lcom/example/tranche/tranche/notice/InterestPeriod;" (.ref ad0)) (S_ad1 : Sta Z h0 "com/example/tranche/tranche/notice/InterestPeriod" "ONE_MONTH" "Lcom/example/tranche/tranche/notice/InterestPeriod;" (.ref ad1)) (S_ad2 : Sta Z h0 "com/example/tranche/tranche/notice/InterestPeriod" "TWO_MONTHS" "Lcom/example/tranche/tranche/notice/InterestPeriod;" (.ref ad2)) (S_ad3 : Sta Z h0 "com/example/tranche/tranche/notice/InterestPeriod" "THREE_MONTHS" "Lcom/example/tranche/tranche/notice/InterestPeriod;" (.ref ad3)) (S_ad4 : Sta Z h0 "com/example/tranche/tranche/notice/InterestPeriod" "SIX_MONTHS" "Lcom/example/tranche/tranche/notice/InterestPeriod;" (.ref ad4)) (S_ad5 : Sta Z h0 "com/example/tranche/tranche/notice/InterestPeriod" "NINE_MONTHS" "Lcom/example/tranche/tranche/notice/InterestPeriod;" (.ref ad5)) (S_ad6 : Sta Z h0 "com/example/tranche/tranche/notice/InterestPeriod" "TWELVE_MONTHS" "Lcom/example/tranche/tranche/notice/InterestPeriod;" (.ref ad6)) (P_ad0 : own_per Z h0 ad0 0) (P_ad1 : own_per Z h0 ad1 1) (P_ad2 : own_per Z h0 ad2 2) (P_ad3 : own_per Z h0 ad3 3) (P_ad4 : own_per Z h0 ad4 6) (P_ad5 : own_per Z h0 ad5 9) (P_ad6 : own_per Z h0 ad6 12) :
    MetFree l (⟨"com/example/tranche/tranche/notice/InterestPeriodIsMonthsPinLaw", "pick", "(I)Lcom/example/tranche/tranche/notice/InterestPeriod;"⟩ : MethodName) (head1 (Jvm.Cond.code (⟨"com/example/tranche/tranche/notice/InterestPeriodIsMonthsPinLaw", "pick", "(I)Lcom/example/tranche/tranche/notice/InterestPeriod;"⟩ : MethodName) method_3_code 1 (some (.object "com/example/tranche/tranche/notice/InterestPeriod")) :: ws) ({ frames := 0, cells := 0, slots := 0, locals := 0 } : Room)) (fun a U => a = #[(.int p1)] ∧ Z.Warmed39 U.vm ∧ U.heap = h0) (fun _ _ _ _ _ => True) (fun _ U o U' => ∃ v L, o = .returned v ∧ own_Q_pick Z p1 ad0 ad1 ad2 ad3 ad4 ad5 ad6 h0 n0 v U'.heap L ∧ FrameEnd U o U' L ({ frames := 0, cells := 0, slots := 0, locals := 0 } : Room).cells ({ frames := 0, cells := 0, slots := 0, locals := 0 } : Room).slots) := by
  refine MetFree.of_bodySF (plainFor_of_name own_pn0) hisR ?_
  intro p e s m args below meth c s₁ Bd hml0 hP hK
  obtain ⟨rfl, hZ, hh⟩ := hP
  have hx := Bd.exec
  have hby := Bd.bytes
  have hml : c.maxLocals = 1 := hml0
  have hown : s.vm.findClass "com/example/tranche/tranche/notice/InterestPeriodIsMonthsPinLaw" = some m.cls := findClass_of_methodNamed Bd.named
  have hnm := (name_of_methodNamed Bd.named Bd.method).1
  have X0 : Stand p l e ({ frames := 0, cells := 0, slots := 0, locals := 0 } : Room) s m #[(.int p1)] below meth c s₁ [] 0 0 := Stand.of_body Bd
  have e0 : s₁.heap = h0 := by rw [← hh, Bd.state]; rfl
  have N0 := Fr.nil n0
  show own_Gl p e below (own_Post s (own_Q_pick Z p1 ad0 ad1 ad2 ad3 ad4 ad5 ad6 h0 n0) ({ frames := 0, cells := 0, slots := 0, locals := 0 } : Room).cells ({ frames := 0, cells := 0, slots := 0, locals := 0 } : Room).slots) _
  refine own_st (fun t k => castTop (own_ef_pick m p1) k) ?_
  show own_Gl p e below _ (s₁.setTop (mkF m 0 #[.val (.int p1)] []))
  refine own_st (fun t k => XS.iloadN X0.here hx rfl (hb hby own_d_method_3_code_0) rfl k) ?_
  show own_Gl p e below _ (s₁.setTop (mkF m 1 #[.val (.int p1)] [(.int p1)]))
  by_cases hc1_1 : p1 = (0 : Int32)
  ·
    show own_Gl p e below _ (s₁.setTop (mkF m 1 #[.val (.int p1)] [(.int p1)]))
    refine own_st (fun t k => XS.ifNo X0.here hx rfl (hb hby own_d_method_3_code_1) rfl ((if0 _ _).trans (teq (hc1_1)).2) k) ?_
    show own_Gl p e below _ (s₁.setTop (mkF m 4 #[.val (.int p1)] []))
    obtain ⟨T2, X2, e2, st2⟩ := getS2 X0 hx hZ hown (host := "") (Or.inl (hw _ (List.mem_of_getElem? (i := 5) rfl))) Via.refl e0 S_ad0 (g := (mkF m 4 #[.val (.int p1)] [])) rfl (hb hby own_d_method_3_code_4)
    refine own_st st2 ?_
    show own_Gl p e below _ (T2.setTop (mkF m 7 #[.val (.int p1)] [(.ref ad0)]))
    exact own_retA X2 hx Bd.notSynchronized Bd.returns rfl rfl (hb hby own_d_method_3_code_7) (by decide) (by decide) e2 (⟨⟨_, _, rfl, P_ad0, ⟨fun q => absurd q (by decide), fun q => absurd hc1_1 q⟩⟩, N0, rfl⟩)
  ·
    show own_Gl p e below _ (s₁.setTop (mkF m 1 #[.val (.int p1)] [(.int p1)]))
    refine own_st (fun t k => XS.ifYes X0.here hx rfl (pc0 := 1) (pc' := 8) rfl (hb hby own_d_method_3_code_1) rfl ((if0 _ _).trans (feq (hc1_1)).2) (by decide) (by decide) k) ?_
    show own_Gl p e below _ (s₁.setTop (mkF m 8 #[.val (.int p1)] []))
    refine own_st (fun t k => XS.iloadN X0.here hx rfl (hb hby own_d_method_3_code_8) rfl k) ?_
    show own_Gl p e below _ (s₁.setTop (mkF m 9 #[.val (.int p1)] [(.int p1)]))
    refine own_st (fun t k => XS.iconst X0.here hx rfl (hb hby own_d_method_3_code_9) k) ?_
    show own_Gl p e below _ (s₁.setTop (mkF m 10 #[.val (.int p1)] [(.int (1 : Int32)), (.int p1)]))
    by_cases hc10_3 : p1 = (1 : Int32)
    ·
      show own_Gl p e below _ (s₁.setTop (mkF m 10 #[.val (.int p1)] [(.int (1 : Int32)), (.int p1)]))
      refine own_st (fun t k => XS.icmpNo X0.here hx rfl (hb hby own_d_method_3_code_10) rfl (teq (hc10_3)).2 k) ?_
      show own_Gl p e below _ (s₁.setTop (mkF m 13 #[.val (.int p1)] []))
      obtain ⟨T4, X4, e4, st4⟩ := getS2 X0 hx hZ hown (host := "") (Or.inl (hw _ (List.mem_of_getElem? (i := 36) rfl))) Via.refl e0 S_ad1 (g := (mkF m 13 #[.val (.int p1)] [])) rfl (hb hby own_d_method_3_code_13)
      refine own_st st4 ?_
      show own_Gl p e below _ (T4.setTop (mkF m 16 #[.val (.int p1)] [(.ref ad1)]))
      exact own_retA X4 hx Bd.notSynchronized Bd.returns rfl rfl (hb hby own_d_method_3_code_16) (by decide) (by decide) e4 (⟨⟨_, _, rfl, P_ad1, ⟨fun _ => hc1_1, fun _ => by decide⟩⟩, N0, rfl⟩)
    ·
      show own_Gl p e below _ (s₁.setTop (mkF m 10 #[.val (.int p1)] [(.int (1 : Int32)), (.int p1)]))
      refine own_st (fun t k => XS.icmpYes X0.here hx rfl (pc0 := 10) (pc' := 17) rfl (hb hby own_d_method_3_code_10) rfl (feq (hc10_3)).2 (by decide) (by decide) k) ?_
      show own_Gl p e below _ (s₁.setTop (mkF m 17 #[.val (.int p1)] []))
      refine own_st (fun t k => XS.iloadN X0.here hx rfl (hb hby own_d_method_3_code_17) rfl k) ?_
      show own_Gl p e below _ (s₁.setTop (mkF m 18 #[.val (.int p1)] [(.int p1)]))
      refine own_st (fun t k => XS.iconst X0.here hx rfl (hb hby own_d_method_3_code_18) k) ?_
      show own_Gl p e below _ (s₁.setTop (mkF m 19 #[.val (.int p1)] [(.int (2 : Int32)), (.int p1)]))
      by_cases hc19_5 : p1 = (2 : Int32)
      ·
        show own_Gl p e below _ (s₁.setTop (mkF m 19 #[.val (.int p1)] [(.int (2 : Int32)), (.int p1)]))
        refine own_st (fun t k => XS.icmpNo X0.here hx rfl (hb hby own_d_method_3_code_19) rfl (teq (hc19_5)).2 k) ?_
        show own_Gl p e below _ (s₁.setTop (mkF m 22 #[.val (.int p1)] []))
        obtain ⟨T6, X6, e6, st6⟩ := getS2 X0 hx hZ hown (host := "") (Or.inl (hw _ (List.mem_of_getElem? (i := 34) rfl))) Via.refl e0 S_ad2 (g := (mkF m 22 #[.val (.int p1)] [])) rfl (hb hby own_d_method_3_code_22)
        refine own_st st6 ?_
        show own_Gl p e below _ (T6.setTop (mkF m 25 #[.val (.int p1)] [(.ref ad2)]))
        exact own_retA X6 hx Bd.notSynchronized Bd.returns rfl rfl (hb hby own_d_method_3_code_25) (by decide) (by decide) e6 (⟨⟨_, _, rfl, P_ad2, ⟨fun _ => hc1_1, fun _ => by decide⟩⟩, N0, rfl⟩)
      ·
        show own_Gl p e below _ (s₁.setTop (mkF m 19 #[.val (.int p1)] [(.int (2 : Int32)), (.int p1)]))
        refine own_st (fun t k => XS.icmpYes X0.here hx rfl (pc0 := 19) (pc' := 26) rfl (hb hby own_d_method_3_code_19) rfl (feq (hc19_5)).2 (by decide) (by decide) k) ?_
        show own_Gl p e below _ (s₁.setTop (mkF m 26 #[.val (.int p1)] []))
        refine own_st (fun t k => XS.iloadN X0.here hx rfl (hb hby own_d_method_3_code_26) rfl k) ?_
        show own_Gl p e below _ (s₁.setTop (mkF m 27 #[.val (.int p1)] [(.int p1)]))
        refine own_st (fun t k => XS.iconst X0.here hx rfl (hb hby own_d_method_3_code_27) k) ?_
        show own_Gl p e below _ (s₁.setTop (mkF m 28 #[.val (.int p1)] [(.int (3 : Int32)), (.int p1)]))
        by_cases hc28_7 : p1 = (3 : Int32)
        ·
          show own_Gl p e below _ (s₁.setTop (mkF m 28 #[.val (.int p1)] [(.int (3 : Int32)), (.int p1)]))
          refine own_st (fun t k => XS.icmpNo X0.here hx rfl (hb hby own_d_method_3_code_28) rfl (teq (hc28_7)).2 k) ?_
          show own_Gl p e below _ (s₁.setTop (mkF m 31 #[.val (.int p1)] []))
          obtain ⟨T8, X8, e8, st8⟩ := getS2 X0 hx hZ hown (host := "") (Or.inl (hw _ (List.mem_of_getElem? (i := 26) rfl))) Via.refl e0 S_ad3 (g := (mkF m 31 #[.val (.int p1)] [])) rfl (hb hby own_d_method_3_code_31)
          refine own_st st8 ?_
          show own_Gl p e below _ (T8.setTop (mkF m 34 #[.val (.int p1)] [(.ref ad3)]))
          exact own_retA X8 hx Bd.notSynchronized Bd.returns rfl rfl (hb hby own_d_method_3_code_34) (by decide) (by decide) e8 (⟨⟨_, _, rfl, P_ad3, ⟨fun _ => hc1_1, fun _ => by decide⟩⟩, N0, rfl⟩)
        ·
          show own_Gl p e below _ (s₁.setTop (mkF m 28 #[.val (.int p1)] [(.int (3 : Int32)), (.int p1)]))
          refine own_st (fun t k => XS.icmpYes X0.here hx rfl (pc0 := 28) (pc' := 35) rfl (hb hby own_d_method_3_code_28) rfl (feq (hc28_7)).2 (by decide) (by decide) k) ?_
          show own_Gl p e below _ (s₁.setTop (mkF m 35 #[.val (.int p1)] []))
          refine own_st (fun t k => XS.iloadN X0.here hx rfl (hb hby own_d_method_3_code_35) rfl k) ?_
          show own_Gl p e below _ (s₁.setTop (mkF m 36 #[.val (.int p1)] [(.int p1)]))
          refine own_st (fun t k => XS.iconst X0.here hx rfl (hb hby own_d_method_3_code_36) k) ?_
          show own_Gl p e below _ (s₁.setTop (mkF m 37 #[.val (.int p1)] [(.int (4 : Int32)), (.int p1)]))
          by_cases hc37_9 : p1 = (4 : Int32)
          ·
            show own_Gl p e below _ (s₁.setTop (mkF m 37 #[.val (.int p1)] [(.int (4 : Int32)), (.int p1)]))
            refine own_st (fun t k => XS.icmpNo X0.here hx rfl (hb hby own_d_method_3_code_37) rfl (teq (hc37_9)).2 k) ?_
            show own_Gl p e below _ (s₁.setTop (mkF m 40 #[.val (.int p1)] []))
            obtain ⟨T10, X10, e10, st10⟩ := getS2 X0 hx hZ hown (host := "") (Or.inl (hw _ (List.mem_of_getElem? (i := 32) rfl))) Via.refl e0 S_ad4 (g := (mkF m 40 #[.val (.int p1)] [])) rfl (hb hby own_d_method_3_code_40)
            refine own_st st10 ?_
            show own_Gl p e below _ (T10.setTop (mkF m 43 #[.val (.int p1)] [(.ref ad4)]))
            exact own_retA X10 hx Bd.notSynchronized Bd.returns rfl rfl (hb hby own_d_method_3_code_43) (by decide) (by decide) e10 (⟨⟨_, _, rfl, P_ad4, ⟨fun _ => hc1_1, fun _ => by decide⟩⟩, N0, rfl⟩)
          ·
            show own_Gl p e below _ (s₁.setTop (mkF m 37 #[.val (.int p1)] [(.int (4 : Int32)), (.int p1)]))
            refine own_st (fun t k => XS.icmpYes X0.here hx rfl (pc0 := 37) (pc' := 44) rfl (hb hby own_d_method_3_code_37) rfl (feq (hc37_9)).2 (by decide) (by decide) k) ?_
            show own_Gl p e below _ (s₁.setTop (mkF m 44 #[.val (.int p1)] []))
            refine own_st (fun t k => XS.iloadN X0.here hx rfl (hb hby own_d_method_3_code_44) rfl k) ?_
            show own_Gl p e below _ (s₁.setTop (mkF m 45 #[.val (.int p1)] [(.int p1)]))
            refine own_st (fun t k => XS.iconst X0.here hx rfl (hb hby own_d_method_3_code_45) k) ?_
            show own_Gl p e below _ (s₁.setTop (mkF m 46 #[.val (.int p1)] [(.int (5 : Int32)), (.int p1)]))
            by_cases hc46_11 : p1 = (5 : Int32)
            ·
              show own_Gl p e below _ (s₁.setTop (mkF m 46 #[.val (.int p1)] [(.int (5 : Int32)), (.int p1)]))
              refine own_st (fun t k => XS.icmpNo X0.here hx rfl (hb hby own_d_method_3_code_46) rfl (teq (hc46_11)).2 k) ?_
              show own_Gl p e below _ (s₁.setTop (mkF m 49 #[.val (.int p1)] []))
              obtain ⟨T12, X12, e12, st12⟩ := getS2 X0 hx hZ hown (host := "") (Or.inl (hw _ (List.mem_of_getElem? (i := 28) rfl))) Via.refl e0 S_ad5 (g := (mkF m 49 #[.val (.int p1)] [])) rfl (hb hby own_d_method_3_code_49)
              refine own_st st12 ?_
              show own_Gl p e below _ (T12.setTop (mkF m 52 #[.val (.int p1)] [(.ref ad5)]))
              exact own_retA X12 hx Bd.notSynchronized Bd.returns rfl rfl (hb hby own_d_method_3_code_52) (by decide) (by decide) e12 (⟨⟨_, _, rfl, P_ad5, ⟨fun _ => hc1_1, fun _ => by decide⟩⟩, N0, rfl⟩)
            ·
              show own_Gl p e below _ (s₁.setTop (mkF m 46 #[.val (.int p1)] [(.int (5 : Int32)), (.int p1)]))
              refine own_st (fun t k => XS.icmpYes X0.here hx rfl (pc0 := 46) (pc' := 53) rfl (hb hby own_d_method_3_code_46) rfl (feq (hc46_11)).2 (by decide) (by decide) k) ?_
              show own_Gl p e below _ (s₁.setTop (mkF m 53 #[.val (.int p1)] []))
              obtain ⟨T13, X13, e13, st13⟩ := getS2 X0 hx hZ hown (host := "") (Or.inl (hw _ (List.mem_of_getElem? (i := 30) rfl))) Via.refl e0 S_ad6 (g := (mkF m 53 #[.val (.int p1)] [])) rfl (hb hby own_d_method_3_code_53)
              refine own_st st13 ?_
              show own_Gl p e below _ (T13.setTop (mkF m 56 #[.val (.int p1)] [(.ref ad6)]))
              exact own_retA X13 hx Bd.notSynchronized Bd.returns rfl rfl (hb hby own_d_method_3_code_56) (by decide) (by decide) e13 (⟨⟨_, _, rfl, P_ad6, ⟨fun _ => hc1_1, fun _ => by decide⟩⟩, N0, rfl⟩)
theorem own_pn1 : plainName "java/time/Period" = true := by first | (simp [plainName, overriddenIn]; done) | decide +kernel
theorem own_d_jdk_2336_method_35_code_0 : decode jdk_2336_method_35_code 0 = .ok (.aload_n 0, 1) := by decide +kernel
theorem own_d_jdk_2336_method_35_code_1 : decode jdk_2336_method_35_code 1 = .ok (.getfield 183, 3) := by decide +kernel
theorem own_d_jdk_2336_method_35_code_4 : decode jdk_2336_method_35_code 4 = .ok (.i2l, 1) := by decide +kernel
theorem own_d_jdk_2336_method_35_code_5 : decode jdk_2336_method_35_code 5 = .ok (.ldc2_w 246, 3) := by decide +kernel
theorem own_d_jdk_2336_method_35_code_8 : decode jdk_2336_method_35_code 8 = .ok (.lmul, 1) := by decide +kernel
theorem own_d_jdk_2336_method_35_code_9 : decode jdk_2336_method_35_code 9 = .ok (.aload_n 0, 1) := by decide +kernel
theorem own_d_jdk_2336_method_35_code_10 : decode jdk_2336_method_35_code 10 = .ok (.getfield 187, 3) := by decide +kernel
theorem own_d_jdk_2336_method_35_code_13 : decode jdk_2336_method_35_code 13 = .ok (.i2l, 1) := by decide +kernel
theorem own_d_jdk_2336_method_35_code_14 : decode jdk_2336_method_35_code 14 = .ok (.ladd, 1) := by decide +kernel
theorem own_d_jdk_2336_method_35_code_15 : decode jdk_2336_method_35_code 15 = .ok (.lreturn, 1) := by decide +kernel
theorem own_ef_tot (m : MethodId) (x0 : Addr) : entryFrame m #[(.ref x0)] 1 = mkF m 0 #[.val (.ref x0)] [] := by first | (simp [entryFrame, mkF, argsToLocals, Value.category]; done) | rfl
def own_Q_tot (Z : State) (b : Addr) (k : Int32) (h0 : Heap) (n0 : Nat) (v : Option Value) (h : Heap) (L : List Loc) : Prop := v = some (.long ((0 : Int32).toInt64 * (12 : Int64) + k.toInt64)) ∧ Fr n0 L ∧ h = h0
set_option maxRecDepth 65536 in
set_option maxHeartbeats 40000000 in
theorem own_rm_tot (l : Launch) (Z : State) (a0 : Array Value) (hw : ∀ d ∈ tables_1, d.before a0 Z = true) (ws : List Jvm.Cond) (b : Addr) (k : Int32) (h0 : Heap) (n0 : Nat) (Z0 : n0 ≤ h0.size) (Fy : Fld Z h0 b "java/time/Period" "years" "I" (.int 0)) (Fm : Fld Z h0 b "java/time/Period" "months" "I" (.int k)) :
    MetFree l (⟨"java/time/Period", "toTotalMonths", "()J"⟩ : MethodName) (head1 (Jvm.Cond.code (⟨"java/time/Period", "toTotalMonths", "()J"⟩ : MethodName) jdk_2336_method_35_code 1 (some .long) :: ws) ({ frames := 0, cells := 0, slots := 0, locals := 0 } : Room)) (fun a U => a = #[(.ref b)] ∧ Z.Warmed39 U.vm ∧ U.heap = h0) (fun _ _ _ _ _ => True) (fun _ U o U' => ∃ v L, o = .returned v ∧ own_Q_tot Z b k h0 n0 v U'.heap L ∧ FrameEnd U o U' L ({ frames := 0, cells := 0, slots := 0, locals := 0 } : Room).cells ({ frames := 0, cells := 0, slots := 0, locals := 0 } : Room).slots) := by
  refine MetFree.of_bodySF (plainFor_of_name own_pn1) hisR ?_
  intro p e s m args below meth c s₁ Bd hml0 hP hK
  obtain ⟨rfl, hZ, hh⟩ := hP
  have hx := Bd.exec
  have hby := Bd.bytes
  have hml : c.maxLocals = 1 := hml0
  have hown : s.vm.findClass "java/time/Period" = some m.cls := findClass_of_methodNamed Bd.named
  have hnm := (name_of_methodNamed Bd.named Bd.method).1
  have X0 : Stand p l e ({ frames := 0, cells := 0, slots := 0, locals := 0 } : Room) s m #[(.ref b)] below meth c s₁ [] 0 0 := Stand.of_body Bd
  have e0 : s₁.heap = h0 := by rw [← hh, Bd.state]; rfl
  have N0 := Fr.nil n0
  show own_Gl p e below (own_Post s (own_Q_tot Z b k h0 n0) ({ frames := 0, cells := 0, slots := 0, locals := 0 } : Room).cells ({ frames := 0, cells := 0, slots := 0, locals := 0 } : Room).slots) _
  refine own_st (fun t k => castTop (own_ef_tot m b) k) ?_
  show own_Gl p e below _ (s₁.setTop (mkF m 0 #[.val (.ref b)] []))
  refine own_st (fun t k => XS.aloadN X0.here hx rfl (hb hby own_d_jdk_2336_method_35_code_0) rfl rfl k) ?_
  show own_Gl p e below _ (s₁.setTop (mkF m 1 #[.val (.ref b)] [(.ref b)]))
  obtain ⟨T1, X1, e1, st1⟩ := getF X0 hx hZ hown (host := "") (Or.inl (hw _ (List.mem_of_getElem? (i := 21) rfl))) Via.refl e0 Fy (g := (mkF m 1 #[.val (.ref b)] [(.ref b)])) rfl rfl (hb hby own_d_jdk_2336_method_35_code_1)
  refine own_st st1 ?_
  show own_Gl p e below _ (T1.setTop (mkF m 4 #[.val (.ref b)] [(.int (0 : Int32))]))
  refine own_st (fun t k => XS.i2l X1.here hx rfl (hb hby own_d_jdk_2336_method_35_code_4) rfl k) ?_
  show own_Gl p e below _ (T1.setTop (mkF m 5 #[.val (.ref b)] [(.long ((0 : Int32).toInt64))]))
  refine own_st (fun t k => X1.ldc2Long hx hown (mvT hZ (hw _ (List.mem_of_getElem? (i := 23) rfl))) (g := (mkF m 5 #[.val (.ref b)] [(.long ((0 : Int32).toInt64))])) rfl (hb hby own_d_jdk_2336_method_35_code_5) _ k) ?_
  show own_Gl p e below _ (T1.setTop (mkF m 8 #[.val (.ref b)] [(.long (12 : Int64)), (.long ((0 : Int32).toInt64))]))
  refine own_st (fun t k => XS.lmul X1.here hx rfl (hb hby own_d_jdk_2336_method_35_code_8) rfl k) ?_
  show own_Gl p e below _ (T1.setTop (mkF m 9 #[.val (.ref b)] [(.long (((0 : Int32).toInt64) * (12 : Int64)))]))
  refine own_st (fun t k => XS.aloadN X1.here hx rfl (hb hby own_d_jdk_2336_method_35_code_9) rfl rfl k) ?_
  show own_Gl p e below _ (T1.setTop (mkF m 10 #[.val (.ref b)] [(.ref b), (.long (((0 : Int32).toInt64) * (12 : Int64)))]))
  obtain ⟨T2, X2, e2, st2⟩ := getF X1 hx hZ hown (host := "") (Or.inl (hw _ (List.mem_of_getElem? (i := 24) rfl))) Via.refl e1 Fm (g := (mkF m 10 #[.val (.ref b)] [(.ref b), (.long (((0 : Int32).toInt64) * (12 : Int64)))])) rfl rfl (hb hby own_d_jdk_2336_method_35_code_10)
  refine own_st st2 ?_
  show own_Gl p e below _ (T2.setTop (mkF m 13 #[.val (.ref b)] [(.int k), (.long (((0 : Int32).toInt64) * (12 : Int64)))]))
  refine own_st (fun t k => XS.i2l X2.here hx rfl (hb hby own_d_jdk_2336_method_35_code_13) rfl k) ?_
  show own_Gl p e below _ (T2.setTop (mkF m 14 #[.val (.ref b)] [(.long (k.toInt64)), (.long (((0 : Int32).toInt64) * (12 : Int64)))]))
  refine own_st (fun t k => XS.ladd X2.here hx rfl (hb hby own_d_jdk_2336_method_35_code_14) rfl k) ?_
  show own_Gl p e below _ (T2.setTop (mkF m 15 #[.val (.ref b)] [(.long ((((0 : Int32).toInt64) * (12 : Int64)) + (k.toInt64)))]))
  exact own_retL X2 hx Bd.notSynchronized Bd.returns (hb hby own_d_jdk_2336_method_35_code_15) (by decide) (by decide) e2 (⟨rfl, N0, rfl⟩)
theorem own_pd0 : parseMethodDescriptor "()J" = some ⟨[], some .long⟩ := by decide +kernel
theorem own_pn2 : plainName "com/example/tranche/tranche/notice/InterestPeriod" = true := by first | (simp [plainName, overriddenIn]; done) | decide +kernel
theorem own_d_prog_110_method_6_code_0 : decode prog_110_method_6_code 0 = .ok (.aload_n 0, 1) := by decide +kernel
theorem own_d_prog_110_method_6_code_1 : decode prog_110_method_6_code 1 = .ok (.getfield 48, 3) := by decide +kernel
theorem own_d_prog_110_method_6_code_4 : decode prog_110_method_6_code 4 = .ok (.invokevirtual 52, 3) := by decide +kernel
theorem own_d_prog_110_method_6_code_7 : decode prog_110_method_6_code 7 = .ok (.lconst 0, 1) := by decide +kernel
theorem own_d_prog_110_method_6_code_8 : decode prog_110_method_6_code 8 = .ok (.lcmp, 1) := by decide +kernel
theorem own_d_prog_110_method_6_code_9 : decode prog_110_method_6_code 9 = .ok (.ifCond .le 7, 3) := by decide +kernel
theorem own_d_prog_110_method_6_code_12 : decode prog_110_method_6_code 12 = .ok (.iconst 1, 1) := by decide +kernel
theorem own_d_prog_110_method_6_code_13 : decode prog_110_method_6_code 13 = .ok (.goto 4, 3) := by decide +kernel
theorem own_d_prog_110_method_6_code_16 : decode prog_110_method_6_code 16 = .ok (.iconst 0, 1) := by decide +kernel
theorem own_d_prog_110_method_6_code_17 : decode prog_110_method_6_code 17 = .ok (.ireturn, 1) := by decide +kernel
theorem own_ef_ism (m : MethodId) (x0 : Addr) : entryFrame m #[(.ref x0)] 1 = mkF m 0 #[.val (.ref x0)] [] := by first | (simp [entryFrame, mkF, argsToLocals, Value.category]; done) | rfl
def own_Q_ism (Z : State) (r : Addr) (k : Int32) (h0 : Heap) (n0 : Nat) (v : Option Value) (h : Heap) (L : List Loc) : Prop := v = some (.int (own_b (0 < k))) ∧ Fr n0 L ∧ h = h0
set_option maxRecDepth 65536 in
set_option maxHeartbeats 40000000 in
theorem own_rm_ism (l : Launch) (Z : State) (a0 : Array Value) (hw : ∀ d ∈ tables_1, d.before a0 Z = true) (ws : List Jvm.Cond) (r : Addr) (k : Int32) (h0 : Heap) (n0 : Nat) (Z0 : n0 ≤ h0.size) (Pr : own_per Z h0 r k) :
    MetFree l (⟨"com/example/tranche/tranche/notice/InterestPeriod", "isMonths", "()Z"⟩ : MethodName) (head1 (Jvm.Cond.code (⟨"com/example/tranche/tranche/notice/InterestPeriod", "isMonths", "()Z"⟩ : MethodName) prog_110_method_6_code 1 (some .boolean) :: ws) ({ frames := 1, cells := 0, slots := 0, locals := 12 } : Room)) (fun a U => a = #[(.ref r)] ∧ Z.Warmed39 U.vm ∧ U.heap = h0) (fun _ _ _ _ _ => True) (fun _ U o U' => ∃ v L, o = .returned v ∧ own_Q_ism Z r k h0 n0 v U'.heap L ∧ FrameEnd U o U' L ({ frames := 1, cells := 0, slots := 0, locals := 12 } : Room).cells ({ frames := 1, cells := 0, slots := 0, locals := 12 } : Room).slots) := by
  refine MetFree.of_bodySF (plainFor_of_name own_pn2) hisR ?_
  intro p e s m args below meth c s₁ Bd hml0 hP hK
  obtain ⟨rfl, hZ, hh⟩ := hP
  have hx := Bd.exec
  have hby := Bd.bytes
  have hml : c.maxLocals = 1 := hml0
  have hown : s.vm.findClass "com/example/tranche/tranche/notice/InterestPeriod" = some m.cls := findClass_of_methodNamed Bd.named
  have hnm := (name_of_methodNamed Bd.named Bd.method).1
  have X0 : Stand p l e ({ frames := 1, cells := 0, slots := 0, locals := 12 } : Room) s m #[(.ref r)] below meth c s₁ [] 0 0 := Stand.of_body Bd
  have e0 : s₁.heap = h0 := by rw [← hh, Bd.state]; rfl
  have N0 := Fr.nil n0
  show own_Gl p e below (own_Post s (own_Q_ism Z r k h0 n0) ({ frames := 1, cells := 0, slots := 0, locals := 12 } : Room).cells ({ frames := 1, cells := 0, slots := 0, locals := 12 } : Room).slots) _
  refine own_st (fun t k => castTop (own_ef_ism m r) k) ?_
  show own_Gl p e below _ (s₁.setTop (mkF m 0 #[.val (.ref r)] []))
  obtain ⟨Er, b, Fl, Eb, Fy, Fm⟩ := Pr
  refine own_st (fun t k => XS.aloadN X0.here hx rfl (hb hby own_d_prog_110_method_6_code_0) rfl rfl k) ?_
  show own_Gl p e below _ (s₁.setTop (mkF m 1 #[.val (.ref r)] [(.ref r)]))
  obtain ⟨T1, X1, e1, st1⟩ := getF X0 hx hZ hown (host := "") (Or.inl (hw _ (List.mem_of_getElem? (i := 13) rfl))) Via.refl e0 Fl (g := (mkF m 1 #[.val (.ref r)] [(.ref r)])) rfl rfl (hb hby own_d_prog_110_method_6_code_1)
  refine own_st st1 ?_
  show own_Gl p e below _ (T1.setTop (mkF m 4 #[.val (.ref r)] [(.ref b)]))
  obtain ⟨cq2, kq2, q2a, q2b, q2c⟩ := isOf hZ e1 Eb
  obtain ⟨_, _, ⟨T2, L2, k2, n2⟩, -, X2, ⟨Lc2, hQ2, l2, y2, z2⟩, st2⟩ := X1.virtualBack hx (y := (⟨"java/time/Period", "toTotalMonths", "()J"⟩ : MethodName)) (z := (⟨"java/time/Period", "toTotalMonths", "()J"⟩ : MethodName)) hown (mvT hZ (hw _ (List.mem_of_getElem? (i := 15) rfl))) (mvT hZ (hw _ (List.mem_of_getElem? (i := 16) rfl))) (notFace_of_selects (args := #[]) (mvT hZ (hw _ (List.mem_of_getElem? (i := 18) rfl)))) (mvT hZ (hw _ (List.mem_of_getElem? (i := 18) rfl))) (mvT hZ (hw _ (List.mem_of_getElem? (i := 17) rfl))) (by decide) (backOf (W := 0) (own_rm_tot l Z a0 hw [] b k h0 n0 Z0 Fy Fm) hZ (hw _ (List.mem_of_getElem? (i := 20) rfl)) (hw _ (List.mem_of_getElem? (i := 19) rfl)) (by decide) (by decide)) q2a q2c (g := (mkF m 4 #[.val (.ref r)] [(.ref b)])) rfl (by rw [hml]; rfl) (Steps.refl _) (argsL := []) (rest := []) (lenOf own_pd0 rfl) rfl (by show 2 * 0 + _ ≤ _; exact Nat.le_of_eq rfl) (hb hby own_d_prog_110_method_6_code_4) (fun _ _ => ⟨rfl, e1, (by decide : 0 + 0 ≤ _), (by decide : 0 + 0 ≤ _)⟩)
  dsimp only [Pt.U, Pt.locs, Pt.cells, Pt.slots] at X2 l2 y2 z2 st2 hQ2
  subst l2 y2 z2
  obtain ⟨rfl, N2q, e2⟩ := hQ2
  have N2 := Fr.app N0 N2q
  refine own_tr st2 ?_
  show own_Gl p e below _ (T2.setTop (mkF m 7 #[.val (.ref r)] [(.long ((0 : Int32).toInt64 * (12 : Int64) + k.toInt64))]))
  refine own_st (fun t k => XS.lconst X2.here hx rfl (hb hby own_d_prog_110_method_6_code_7) k) ?_
  show own_Gl p e below _ (T2.setTop (mkF m 8 #[.val (.ref r)] [(.long (0 : Int64)), (.long ((0 : Int32).toInt64 * (12 : Int64) + k.toInt64))]))
  refine own_st (fun t k => XS.lcmp X2.here hx rfl (hb hby own_d_prog_110_method_6_code_8) rfl k) ?_
  show own_Gl p e below _ (T2.setTop (mkF m 9 #[.val (.ref r)] [(.int (lcmpW ((0 : Int32).toInt64 * (12 : Int64) + k.toInt64) (0 : Int64)))]))
  by_cases hc9_3 : (0 : Int32) < (lcmpW ((0 : Int32).toInt64 * (12 : Int64) + k.toInt64) (0 : Int64))
  ·
    show own_Gl p e below _ (T2.setTop (mkF m 9 #[.val (.ref r)] [(.int (lcmpW ((0 : Int32).toInt64 * (12 : Int64) + k.toInt64) (0 : Int64)))]))
    refine own_st (fun t k => XS.ifNo X2.here hx rfl (hb hby own_d_prog_110_method_6_code_9) rfl ((if0 _ _).trans (tlt (hc9_3)).2.2.2) k) ?_
    show own_Gl p e below _ (T2.setTop (mkF m 12 #[.val (.ref r)] []))
    refine own_st (fun t k => XS.iconst X2.here hx rfl (hb hby own_d_prog_110_method_6_code_12) k) ?_
    show own_Gl p e below _ (T2.setTop (mkF m 13 #[.val (.ref r)] [(.int (1 : Int32))]))
    refine own_st (fun t k => XS.goto X2.here hx rfl (pc0 := 13) (pc' := 17) rfl (hb hby own_d_prog_110_method_6_code_13) (by decide) (by decide) k) ?_
    show own_Gl p e below _ (T2.setTop (mkF m 17 #[.val (.ref r)] [(.int (1 : Int32))]))
    exact own_retN X2 hx Bd.notSynchronized (t := .boolean) Bd.returns (by simp) (hb hby own_d_prog_110_method_6_code_17) (by decide) (by decide) e2 (⟨by rw [lw_gt, own_pos] at hc9_3; simp only [own_b, hc9_3, if_true, if_false]; rfl, N2, rfl⟩)
  ·
    show own_Gl p e below _ (T2.setTop (mkF m 9 #[.val (.ref r)] [(.int (lcmpW ((0 : Int32).toInt64 * (12 : Int64) + k.toInt64) (0 : Int64)))]))
    refine own_st (fun t k => XS.ifYes X2.here hx rfl (pc0 := 9) (pc' := 16) rfl (hb hby own_d_prog_110_method_6_code_9) rfl ((if0 _ _).trans (flt (hc9_3)).2.2.2) (by decide) (by decide) k) ?_
    show own_Gl p e below _ (T2.setTop (mkF m 16 #[.val (.ref r)] []))
    refine own_st (fun t k => XS.iconst X2.here hx rfl (hb hby own_d_prog_110_method_6_code_16) k) ?_
    show own_Gl p e below _ (T2.setTop (mkF m 17 #[.val (.ref r)] [(.int (0 : Int32))]))
    exact own_retN X2 hx Bd.notSynchronized (t := .boolean) Bd.returns (by simp) (hb hby own_d_prog_110_method_6_code_17) (by decide) (by decide) e2 (⟨by rw [lw_gt, own_pos] at hc9_3; simp only [own_b, hc9_3, if_true, if_false]; rfl, N2, rfl⟩)
theorem own_pd1 : parseMethodDescriptor "(I)Lcom/example/tranche/tranche/notice/InterestPeriod;" = some ⟨[.int], some (.object "com/example/tranche/tranche/notice/InterestPeriod")⟩ := by decide +kernel
theorem own_pd2 : parseMethodDescriptor "()Z" = some ⟨[], some .boolean⟩ := by decide +kernel
theorem own_ef_law (m : MethodId) (x0 : Int32) : entryFrame m #[(.int x0)] maxLocals = mkF m 0 #[.val (.int x0), .unset, .unset, .unset] [] := by first | (simp [entryFrame, mkF, argsToLocals, Value.category, maxLocals]; done) | rfl
def own_Q_law (Z : State) (i0 : Int32) (ad0 ad1 ad2 ad3 ad4 ad5 ad6 : Addr) (h0 : Heap) (n0 : Nat) (v : Option Value) (h : Heap) (L : List Loc) : Prop := v = some (.int 1) ∧ Fr n0 L
set_option maxRecDepth 65536 in
set_option maxHeartbeats 40000000 in
theorem own_rm_law (l : Launch) (Z : State) (a0 : Array Value) (hw : ∀ d ∈ tables_1, d.before a0 Z = true) (ws : List Jvm.Cond) (i0 : Int32) (ad0 ad1 ad2 ad3 ad4 ad5 ad6 : Addr) (h0 : Heap) (n0 : Nat) (Z0 : n0 ≤ h0.size) (S_ad0 : Sta Z h0 "com/example/tranche/tranche/notice/InterestPeriod" "ONE_WEEK" "Lcom/example/tranche/tranche/notice/InterestPeriod;" (.ref ad0)) (S_ad1 : Sta Z h0 "com/example/tranche/tranche/notice/InterestPeriod" "ONE_MONTH" "Lcom/example/tranche/tranche/notice/InterestPeriod;" (.ref ad1)) (S_ad2 : Sta Z h0 "com/example/tranche/tranche/notice/InterestPeriod" "TWO_MONTHS" "Lcom/example/tranche/tranche/notice/InterestPeriod;" (.ref ad2)) (S_ad3 : Sta Z h0 "com/example/tranche/tranche/notice/InterestPeriod" "THREE_MONTHS" "Lcom/example/tranche/tranche/notice/InterestPeriod;" (.ref ad3)) (S_ad4 : Sta Z h0 "com/example/tranche/tranche/notice/InterestPeriod" "SIX_MONTHS" "Lcom/example/tranche/tranche/notice/InterestPeriod;" (.ref ad4)) (S_ad5 : Sta Z h0 "com/example/tranche/tranche/notice/InterestPeriod" "NINE_MONTHS" "Lcom/example/tranche/tranche/notice/InterestPeriod;" (.ref ad5)) (S_ad6 : Sta Z h0 "com/example/tranche/tranche/notice/InterestPeriod" "TWELVE_MONTHS" "Lcom/example/tranche/tranche/notice/InterestPeriod;" (.ref ad6)) (P_ad0 : own_per Z h0 ad0 0) (P_ad1 : own_per Z h0 ad1 1) (P_ad2 : own_per Z h0 ad2 2) (P_ad3 : own_per Z h0 ad3 3) (P_ad4 : own_per Z h0 ad4 6) (P_ad5 : own_per Z h0 ad5 9) (P_ad6 : own_per Z h0 ad6 12) :
    MetFree l x (head1 (Jvm.Cond.code x code maxLocals ret :: ws) room_1) (fun a U => a = #[(.int i0)] ∧ Z.Warmed39 U.vm ∧ U.heap = h0) (fun _ _ _ _ _ => True) (fun _ U o U' => ∃ v L, o = .returned v ∧ own_Q_law Z i0 ad0 ad1 ad2 ad3 ad4 ad5 ad6 h0 n0 v U'.heap L ∧ FrameEnd U o U' L room_1.cells room_1.slots) := by
  refine MetFree.of_bodySF (plainFor_of_name own_pn0) hisR ?_
  intro p e s m args below meth c s₁ Bd hml0 hP hK
  obtain ⟨rfl, hZ, hh⟩ := hP
  have hx := Bd.exec
  have hby := Bd.bytes
  have hml : c.maxLocals = 4 := hml0
  have hown : s.vm.findClass "com/example/tranche/tranche/notice/InterestPeriodIsMonthsPinLaw" = some m.cls := findClass_of_methodNamed Bd.named
  have hnm := (name_of_methodNamed Bd.named Bd.method).1
  have X0 : Stand p l e room_1 s m #[(.int i0)] below meth c s₁ [] 0 0 := Stand.of_body Bd
  have e0 : s₁.heap = h0 := by rw [← hh, Bd.state]; rfl
  have N0 := Fr.nil n0
  show own_Gl p e below (own_Post s (own_Q_law Z i0 ad0 ad1 ad2 ad3 ad4 ad5 ad6 h0 n0) room_1.cells room_1.slots) _
  refine own_st (fun t k => castTop (own_ef_law m i0) k) ?_
  show own_Gl p e below _ (s₁.setTop (mkF m 0 #[.val (.int i0), .unset, .unset, .unset] []))
  refine own_st (fun t k => XS.iloadN X0.here hx rfl (hb hby at_0) rfl k) ?_
  show own_Gl p e below _ (s₁.setTop (mkF m 1 #[.val (.int i0), .unset, .unset, .unset] [(.int i0)]))
  refine own_st (fun t k => X0.ldcInt hx hown (mvT hZ (hw _ (List.mem_of_getElem? (i := 0) rfl))) (g := (mkF m 1 #[.val (.int i0), .unset, .unset, .unset] [(.int i0)])) rfl (hb hby at_1) _ k) ?_
  show own_Gl p e below _ (s₁.setTop (mkF m 3 #[.val (.int i0), .unset, .unset, .unset] [(.int (2147483647 : Int32)), (.int i0)]))
  refine own_st (fun t k => XS.iand X0.here hx rfl (hb hby at_3) rfl k) ?_
  show own_Gl p e below _ (s₁.setTop (mkF m 4 #[.val (.int i0), .unset, .unset, .unset] [(.int (i0 &&& (2147483647 : Int32)))]))
  refine own_st (fun t k => XS.bipush X0.here hx rfl (hb hby at_4) k) ?_
  show own_Gl p e below _ (s₁.setTop (mkF m 6 #[.val (.int i0), .unset, .unset, .unset] [(.int (7 : Int32)), (.int (i0 &&& (2147483647 : Int32)))]))
  refine own_st (fun t k => iremM X0 hx (g := (mkF m 6 #[.val (.int i0), .unset, .unset, .unset] [(.int (7 : Int32)), (.int (i0 &&& (2147483647 : Int32)))])) rfl (hb hby at_6) rfl (by decide) k) ?_
  show own_Gl p e below _ (s₁.setTop (mkF m 7 #[.val (.int i0), .unset, .unset, .unset] [(.int ((i0 &&& (2147483647 : Int32)) % (7 : Int32)))]))
  refine own_st (fun t k => XS.istoreN X0.here hx rfl (hb hby at_7) rfl (l' := #[.val (.int i0), .val (.int ((i0 &&& (2147483647 : Int32)) % (7 : Int32))), .unset, .unset]) rfl k) ?_
  show own_Gl p e below _ (s₁.setTop (mkF m 8 #[.val (.int i0), .val (.int ((i0 &&& (2147483647 : Int32)) % (7 : Int32))), .unset, .unset] []))
  refine own_st (fun t k => XS.iloadN X0.here hx rfl (hb hby at_8) rfl k) ?_
  show own_Gl p e below _ (s₁.setTop (mkF m 9 #[.val (.int i0), .val (.int ((i0 &&& (2147483647 : Int32)) % (7 : Int32))), .unset, .unset] [(.int ((i0 &&& (2147483647 : Int32)) % (7 : Int32)))]))
  obtain ⟨_, _, ⟨T1, L1, k1, n1⟩, -, X1, ⟨Lc1, hQ1, l1, y1, z1⟩, st1⟩ := Jvm.LawKit.callS X0 hx (y := (⟨"com/example/tranche/tranche/notice/InterestPeriodIsMonthsPinLaw", "pick", "(I)Lcom/example/tranche/tranche/notice/InterestPeriod;"⟩ : MethodName)) hown (mvT hZ (hw _ (List.mem_of_getElem? (i := 1) rfl))) (mvT hZ (hw _ (List.mem_of_getElem? (i := 2) rfl))) (mvT hZ (hw _ (List.mem_of_getElem? (i := 3) rfl))) (mvT hZ (hw _ (List.mem_of_getElem? (i := 4) rfl))) (by decide) (backOf (W := 0) (own_rm_pick l Z a0 hw [] ((i0 &&& (2147483647 : Int32)) % (7 : Int32)) ad0 ad1 ad2 ad3 ad4 ad5 ad6 h0 n0 Z0 S_ad0 S_ad1 S_ad2 S_ad3 S_ad4 S_ad5 S_ad6 P_ad0 P_ad1 P_ad2 P_ad3 P_ad4 P_ad5 P_ad6) hZ (hw _ (List.mem_of_getElem? (i := 4) rfl)) (hw _ (List.mem_of_getElem? (i := 3) rfl)) (by decide) (by decide)) (g := (mkF m 9 #[.val (.int i0), .val (.int ((i0 &&& (2147483647 : Int32)) % (7 : Int32))), .unset, .unset] [(.int ((i0 &&& (2147483647 : Int32)) % (7 : Int32)))])) rfl (by rw [hml]; rfl) (argsL := [(.int ((i0 &&& (2147483647 : Int32)) % (7 : Int32)))]) (rest := []) (lenOf own_pd1 rfl) rfl (by show 2 * 0 + _ ≤ _; exact Nat.le_of_eq rfl) (hb hby at_9) (fun _ _ => ⟨rfl, e0, (by decide : 0 + 0 ≤ _), (by decide : 0 + 0 ≤ _)⟩)
  dsimp only [Pt.U, Pt.locs, Pt.cells, Pt.slots] at X1 l1 y1 z1 st1 hQ1
  subst l1 y1 z1
  obtain ⟨⟨r, k, rfl, Pr, hk2⟩, N1q, e1⟩ := hQ1
  have N1 := Fr.app N0 N1q
  refine own_st st1 ?_
  show own_Gl p e below _ (T1.setTop (mkF m 12 #[.val (.int i0), .val (.int ((i0 &&& (2147483647 : Int32)) % (7 : Int32))), .unset, .unset] [(.ref r)]))
  have Er := Pr.1
  refine own_st (fun t k => XS.astoreN X1.here hx rfl (hb hby at_12) rfl rfl (l' := #[.val (.int i0), .val (.int ((i0 &&& (2147483647 : Int32)) % (7 : Int32))), .val (.ref r), .unset]) rfl k) ?_
  show own_Gl p e below _ (T1.setTop (mkF m 13 #[.val (.int i0), .val (.int ((i0 &&& (2147483647 : Int32)) % (7 : Int32))), .val (.ref r), .unset] []))
  refine own_st (fun t k => XS.iloadN X1.here hx rfl (hb hby at_13) rfl k) ?_
  show own_Gl p e below _ (T1.setTop (mkF m 14 #[.val (.int i0), .val (.int ((i0 &&& (2147483647 : Int32)) % (7 : Int32))), .val (.ref r), .unset] [(.int ((i0 &&& (2147483647 : Int32)) % (7 : Int32)))]))
  by_cases hc14_2 : ((i0 &&& (2147483647 : Int32)) % (7 : Int32)) = (0 : Int32)
  ·
    show own_Gl p e below _ (T1.setTop (mkF m 14 #[.val (.int i0), .val (.int ((i0 &&& (2147483647 : Int32)) % (7 : Int32))), .val (.ref r), .unset] [(.int ((i0 &&& (2147483647 : Int32)) % (7 : Int32)))]))
    refine own_st (fun t k => XS.ifYes X1.here hx rfl (pc0 := 14) (pc' := 21) rfl (hb hby at_14) rfl ((if0 _ _).trans (teq (hc14_2)).1) (by decide) (by decide) k) ?_
    show own_Gl p e below _ (T1.setTop (mkF m 21 #[.val (.int i0), .val (.int ((i0 &&& (2147483647 : Int32)) % (7 : Int32))), .val (.ref r), .unset] []))
    refine own_st (fun t k => XS.iconst X1.here hx rfl (hb hby at_21) k) ?_
    show own_Gl p e below _ (T1.setTop (mkF m 22 #[.val (.int i0), .val (.int ((i0 &&& (2147483647 : Int32)) % (7 : Int32))), .val (.ref r), .unset] [(.int (0 : Int32))]))
    refine own_st (fun t k => XS.istoreN X1.here hx rfl (hb hby at_22) rfl (l' := #[.val (.int i0), .val (.int ((i0 &&& (2147483647 : Int32)) % (7 : Int32))), .val (.ref r), .val (.int (0 : Int32))]) rfl k) ?_
    show own_Gl p e below _ (T1.setTop (mkF m 23 #[.val (.int i0), .val (.int ((i0 &&& (2147483647 : Int32)) % (7 : Int32))), .val (.ref r), .val (.int (0 : Int32))] []))
    refine own_st (fun t k => XS.aloadN X1.here hx rfl (hb hby at_23) rfl rfl k) ?_
    show own_Gl p e below _ (T1.setTop (mkF m 24 #[.val (.int i0), .val (.int ((i0 &&& (2147483647 : Int32)) % (7 : Int32))), .val (.ref r), .val (.int (0 : Int32))] [(.ref r)]))
    obtain ⟨cq3, kq3, q3a, q3b, q3c⟩ := isOf hZ e1 Er
    obtain ⟨_, _, ⟨T3, L3, k3, n3⟩, -, X3, ⟨Lc3, hQ3, l3, y3, z3⟩, st3⟩ := X1.virtualBack hx (y := (⟨"com/example/tranche/tranche/notice/InterestPeriod", "isMonths", "()Z"⟩ : MethodName)) (z := (⟨"com/example/tranche/tranche/notice/InterestPeriod", "isMonths", "()Z"⟩ : MethodName)) hown (mvT hZ (hw _ (List.mem_of_getElem? (i := 8) rfl))) (mvT hZ (hw _ (List.mem_of_getElem? (i := 9) rfl))) (notFace_of_selects (args := #[]) (mvT hZ (hw _ (List.mem_of_getElem? (i := 11) rfl)))) (mvT hZ (hw _ (List.mem_of_getElem? (i := 11) rfl))) (mvT hZ (hw _ (List.mem_of_getElem? (i := 10) rfl))) (by decide) (backOf (W := 0) (own_rm_ism l Z a0 hw [] r k h0 n0 Z0 Pr) hZ (hw _ (List.mem_of_getElem? (i := 12) rfl)) (hw _ (List.mem_of_getElem? (i := 6) rfl)) (by decide) (by decide)) q3a q3c (g := (mkF m 24 #[.val (.int i0), .val (.int ((i0 &&& (2147483647 : Int32)) % (7 : Int32))), .val (.ref r), .val (.int (0 : Int32))] [(.ref r)])) rfl (by rw [hml]; rfl) (Steps.refl _) (argsL := []) (rest := []) (lenOf own_pd2 rfl) rfl (by show 2 * 0 + _ ≤ _; exact Nat.le_of_eq rfl) (hb hby at_24) (fun _ _ => ⟨rfl, e1, (by decide : 0 + 0 ≤ _), (by decide : 0 + 0 ≤ _)⟩)
    dsimp only [Pt.U, Pt.locs, Pt.cells, Pt.slots] at X3 l3 y3 z3 st3 hQ3
    subst l3 y3 z3
    obtain ⟨rfl, N3q, e3⟩ := hQ3
    have N3 := Fr.app N1 N3q
    refine own_tr st3 ?_
    show own_Gl p e below _ (T3.setTop (mkF m 27 #[.val (.int i0), .val (.int ((i0 &&& (2147483647 : Int32)) % (7 : Int32))), .val (.ref r), .val (.int (0 : Int32))] [(.int (own_b (0 < k)))]))
    refine own_st (fun t k => XS.iloadN X3.here hx rfl (hb hby at_27) rfl k) ?_
    show own_Gl p e below _ (T3.setTop (mkF m 28 #[.val (.int i0), .val (.int ((i0 &&& (2147483647 : Int32)) % (7 : Int32))), .val (.ref r), .val (.int (0 : Int32))] [(.int (0 : Int32)), (.int (own_b (0 < k)))]))
    refine own_st (fun t k => XS.icmpNo X3.here hx rfl (hb hby at_28) rfl (teq ((own_law hk2).2 hc14_2)).2 k) ?_
    show own_Gl p e below _ (T3.setTop (mkF m 31 #[.val (.int i0), .val (.int ((i0 &&& (2147483647 : Int32)) % (7 : Int32))), .val (.ref r), .val (.int (0 : Int32))] []))
    refine own_st (fun t k => XS.iconst X3.here hx rfl (hb hby at_31) k) ?_
    show own_Gl p e below _ (T3.setTop (mkF m 32 #[.val (.int i0), .val (.int ((i0 &&& (2147483647 : Int32)) % (7 : Int32))), .val (.ref r), .val (.int (0 : Int32))] [(.int (1 : Int32))]))
    refine own_st (fun t k => XS.goto X3.here hx rfl (pc0 := 32) (pc' := 36) rfl (hb hby at_32) (by decide) (by decide) k) ?_
    show own_Gl p e below _ (T3.setTop (mkF m 36 #[.val (.int i0), .val (.int ((i0 &&& (2147483647 : Int32)) % (7 : Int32))), .val (.ref r), .val (.int (0 : Int32))] [(.int (1 : Int32))]))
    exact own_retN X3 hx Bd.notSynchronized (t := .boolean) Bd.returns (by simp) (hb hby at_36) (by decide) (by decide) e3 (⟨rfl, N3⟩)
  ·
    show own_Gl p e below _ (T1.setTop (mkF m 14 #[.val (.int i0), .val (.int ((i0 &&& (2147483647 : Int32)) % (7 : Int32))), .val (.ref r), .unset] [(.int ((i0 &&& (2147483647 : Int32)) % (7 : Int32)))]))
    refine own_st (fun t k => XS.ifNo X1.here hx rfl (hb hby at_14) rfl ((if0 _ _).trans (feq (hc14_2)).1) k) ?_
    show own_Gl p e below _ (T1.setTop (mkF m 17 #[.val (.int i0), .val (.int ((i0 &&& (2147483647 : Int32)) % (7 : Int32))), .val (.ref r), .unset] []))
    refine own_st (fun t k => XS.iconst X1.here hx rfl (hb hby at_17) k) ?_
    show own_Gl p e below _ (T1.setTop (mkF m 18 #[.val (.int i0), .val (.int ((i0 &&& (2147483647 : Int32)) % (7 : Int32))), .val (.ref r), .unset] [(.int (1 : Int32))]))
    refine own_st (fun t k => XS.goto X1.here hx rfl (pc0 := 18) (pc' := 22) rfl (hb hby at_18) (by decide) (by decide) k) ?_
    show own_Gl p e below _ (T1.setTop (mkF m 22 #[.val (.int i0), .val (.int ((i0 &&& (2147483647 : Int32)) % (7 : Int32))), .val (.ref r), .unset] [(.int (1 : Int32))]))
    refine own_st (fun t k => XS.istoreN X1.here hx rfl (hb hby at_22) rfl (l' := #[.val (.int i0), .val (.int ((i0 &&& (2147483647 : Int32)) % (7 : Int32))), .val (.ref r), .val (.int (1 : Int32))]) rfl k) ?_
    show own_Gl p e below _ (T1.setTop (mkF m 23 #[.val (.int i0), .val (.int ((i0 &&& (2147483647 : Int32)) % (7 : Int32))), .val (.ref r), .val (.int (1 : Int32))] []))
    refine own_st (fun t k => XS.aloadN X1.here hx rfl (hb hby at_23) rfl rfl k) ?_
    show own_Gl p e below _ (T1.setTop (mkF m 24 #[.val (.int i0), .val (.int ((i0 &&& (2147483647 : Int32)) % (7 : Int32))), .val (.ref r), .val (.int (1 : Int32))] [(.ref r)]))
    obtain ⟨cq4, kq4, q4a, q4b, q4c⟩ := isOf hZ e1 Er
    obtain ⟨_, _, ⟨T4, L4, k4, n4⟩, -, X4, ⟨Lc4, hQ4, l4, y4, z4⟩, st4⟩ := X1.virtualBack hx (y := (⟨"com/example/tranche/tranche/notice/InterestPeriod", "isMonths", "()Z"⟩ : MethodName)) (z := (⟨"com/example/tranche/tranche/notice/InterestPeriod", "isMonths", "()Z"⟩ : MethodName)) hown (mvT hZ (hw _ (List.mem_of_getElem? (i := 8) rfl))) (mvT hZ (hw _ (List.mem_of_getElem? (i := 9) rfl))) (notFace_of_selects (args := #[]) (mvT hZ (hw _ (List.mem_of_getElem? (i := 11) rfl)))) (mvT hZ (hw _ (List.mem_of_getElem? (i := 11) rfl))) (mvT hZ (hw _ (List.mem_of_getElem? (i := 10) rfl))) (by decide) (backOf (W := 0) (own_rm_ism l Z a0 hw [] r k h0 n0 Z0 Pr) hZ (hw _ (List.mem_of_getElem? (i := 12) rfl)) (hw _ (List.mem_of_getElem? (i := 6) rfl)) (by decide) (by decide)) q4a q4c (g := (mkF m 24 #[.val (.int i0), .val (.int ((i0 &&& (2147483647 : Int32)) % (7 : Int32))), .val (.ref r), .val (.int (1 : Int32))] [(.ref r)])) rfl (by rw [hml]; rfl) (Steps.refl _) (argsL := []) (rest := []) (lenOf own_pd2 rfl) rfl (by show 2 * 0 + _ ≤ _; exact Nat.le_of_eq rfl) (hb hby at_24) (fun _ _ => ⟨rfl, e1, (by decide : 0 + 0 ≤ _), (by decide : 0 + 0 ≤ _)⟩)
    dsimp only [Pt.U, Pt.locs, Pt.cells, Pt.slots] at X4 l4 y4 z4 st4 hQ4
    subst l4 y4 z4
    obtain ⟨rfl, N4q, e4⟩ := hQ4
    have N4 := Fr.app N1 N4q
    refine own_tr st4 ?_
    show own_Gl p e below _ (T4.setTop (mkF m 27 #[.val (.int i0), .val (.int ((i0 &&& (2147483647 : Int32)) % (7 : Int32))), .val (.ref r), .val (.int (1 : Int32))] [(.int (own_b (0 < k)))]))
    refine own_st (fun t k => XS.iloadN X4.here hx rfl (hb hby at_27) rfl k) ?_
    show own_Gl p e below _ (T4.setTop (mkF m 28 #[.val (.int i0), .val (.int ((i0 &&& (2147483647 : Int32)) % (7 : Int32))), .val (.ref r), .val (.int (1 : Int32))] [(.int (1 : Int32)), (.int (own_b (0 < k)))]))
    refine own_st (fun t k => XS.icmpNo X4.here hx rfl (hb hby at_28) rfl (teq ((own_law hk2).1 hc14_2)).2 k) ?_
    show own_Gl p e below _ (T4.setTop (mkF m 31 #[.val (.int i0), .val (.int ((i0 &&& (2147483647 : Int32)) % (7 : Int32))), .val (.ref r), .val (.int (1 : Int32))] []))
    refine own_st (fun t k => XS.iconst X4.here hx rfl (hb hby at_31) k) ?_
    show own_Gl p e below _ (T4.setTop (mkF m 32 #[.val (.int i0), .val (.int ((i0 &&& (2147483647 : Int32)) % (7 : Int32))), .val (.ref r), .val (.int (1 : Int32))] [(.int (1 : Int32))]))
    refine own_st (fun t k => XS.goto X4.here hx rfl (pc0 := 32) (pc' := 36) rfl (hb hby at_32) (by decide) (by decide) k) ?_
    show own_Gl p e below _ (T4.setTop (mkF m 36 #[.val (.int i0), .val (.int ((i0 &&& (2147483647 : Int32)) % (7 : Int32))), .val (.ref r), .val (.int (1 : Int32))] [(.int (1 : Int32))]))
    exact own_retN X4 hx Bd.notSynchronized (t := .boolean) Bd.returns (by simp) (hb hby at_36) (by decide) (by decide) e4 (⟨rfl, N4⟩)
set_option maxRecDepth 65536 in
set_option maxHeartbeats 40000000 in
theorem comes_1 {Post : Tables → Env → Array Value → State → Outcome → State → Prop} (hpost : ∀ tb e args s v u, (limb_1_1.after args s (.returned v) u = true ∧ limb_1_2.after args s (.returned v) u = true ∧ True) → FrameEnd s (.returned v) u (Jvm.fieldLocs frame_1_writes args s ++ Jvm.arrayLocs frame_1_arrays args s ++ Jvm.staticLocs frame_1_statics s) 0 0 → Post tb e args s (.returned v) u) :
    ArmFor flags0 classFile x code maxLocals ret World_1 tables_1 room_1 Calls_1 rest_1 Pre_1 Post := by
  intro l hfl _ _ p e ha hc hk s m args below hf hA hF happ hP
  obtain ⟨hcalls, hrest, hpre⟩ := hP
  obtain ⟨-, -, -, hnamed, -, -, -, hat⟩ := (Spec.applies_iff hf).mp happ
  obtain ⟨hg, hn⟩ := and_e (Cond.before_iff.mp (show (Jvm.Cond.and given_1 narrow_1).before args s = true from hpre))
  obtain ⟨g0a, g0b⟩ := and_e hg
  obtain ⟨w0, rfl⟩ : ∃ w0 : Value, args = #[w0] := by
    have hs : args.size = 1 := by simpa [Cond.value, given_1] using g0a
    obtain ⟨L⟩ := args
    match L, hs with
    | [w0], _ => exact ⟨w0, rfl⟩
  have hw := fun d (hd : d ∈ tables_1) => atoms_spec (ws := Jvm.Cond.code x code maxLocals ret :: tables_1) hat d (List.mem_cons_of_mem _ hd)
  have hfit : Fit s := fun {y c} hc i hi => by
    obtain ⟨ha, rfl⟩ := Array.getElem?_eq_some_iff.mp hc
    have q := List.all_eq_true.mp ((Array.all_eq_true_iff_forall_mem.mp hF) _ (Array.getElem_mem ha)) i (List.mem_range.mpr hi)
    simpa [Array.getElem?_eq_getElem hi] using q
  obtain ⟨i0, ei0⟩ := is_v g0b
  obtain rfl : w0 = (.int i0) := Option.some.inj ei0
  obtain ⟨w_0a, w_0b⟩ := and_e hn
  obtain ⟨w_1a, w_1b⟩ := and_e w_0b
  obtain ⟨w_2a, w_2b⟩ := and_e w_1b
  obtain ⟨w_3a, w_3b⟩ := and_e w_2b
  obtain ⟨w_4a, w_4b⟩ := and_e w_3b
  obtain ⟨w_5a, w_5b⟩ := and_e w_4b
  obtain ⟨w_6a, w_6b⟩ := and_e w_5b
  obtain ⟨w_7a, w_7b⟩ := and_e w_6b
  obtain ⟨w_8a, w_8b⟩ := and_e w_7b
  obtain ⟨w_9a, w_9b⟩ := and_e w_8b
  obtain ⟨w_10a, w_10b⟩ := and_e w_9b
  obtain ⟨w_11a, w_11b⟩ := and_e w_10b
  obtain ⟨w_12a, w_12b⟩ := and_e w_11b
  obtain ⟨w_13a, w_13b⟩ := and_e w_12b
  obtain ⟨w_14a, w_14b⟩ := and_e w_13b
  obtain ⟨w_15a, w_15b⟩ := and_e w_14b
  obtain ⟨w_16a, w_16b⟩ := and_e w_15b
  obtain ⟨w_17a, w_17b⟩ := and_e w_16b
  obtain ⟨w_18a, w_18b⟩ := and_e w_17b
  obtain ⟨w_19a, w_19b⟩ := and_e w_18b
  obtain ⟨w_20a, w_20b⟩ := and_e w_19b
  obtain ⟨w_21a, w_21b⟩ := and_e w_20b
  obtain ⟨w_22a, w_22b⟩ := and_e w_21b
  obtain ⟨w_23a, w_23b⟩ := and_e w_22b
  obtain ⟨w_24a, w_24b⟩ := and_e w_23b
  obtain ⟨w_25a, w_25b⟩ := and_e w_24b
  obtain ⟨w_26a, w_26b⟩ := and_e w_25b
  obtain ⟨ad0, ev_ad0⟩ := exa_v w_0a
  have S_ad0 := Sta.start ev_ad0 (Or.inr ⟨(hw _ (List.mem_of_getElem? (i := 6) rfl)), (hw _ (List.mem_of_getElem? (i := 7) rfl))⟩)
  obtain ⟨b_ad0, ew_ad0⟩ := exa_v w_1a
  have P_ad0 : own_per s s.heap ad0 0 := ⟨Exa.start ev_ad0 w_0a, b_ad0, own_fldR ev_ad0 ew_ad0, Exa.start ew_ad0 w_1a, own_fldI ew_ad0 w_2a, own_fldI ew_ad0 w_3a⟩
  obtain ⟨ad1, ev_ad1⟩ := exa_v w_24a
  have S_ad1 := Sta.start ev_ad1 (Or.inr ⟨(hw _ (List.mem_of_getElem? (i := 6) rfl)), (hw _ (List.mem_of_getElem? (i := 37) rfl))⟩)
  obtain ⟨b_ad1, ew_ad1⟩ := exa_v w_25a
  have P_ad1 : own_per s s.heap ad1 1 := ⟨Exa.start ev_ad1 w_24a, b_ad1, own_fldR ev_ad1 ew_ad1, Exa.start ew_ad1 w_25a, own_fldI ew_ad1 w_26a, own_fldI ew_ad1 w_26b⟩
  obtain ⟨ad2, ev_ad2⟩ := exa_v w_20a
  have S_ad2 := Sta.start ev_ad2 (Or.inr ⟨(hw _ (List.mem_of_getElem? (i := 6) rfl)), (hw _ (List.mem_of_getElem? (i := 35) rfl))⟩)
  obtain ⟨b_ad2, ew_ad2⟩ := exa_v w_21a
  have P_ad2 : own_per s s.heap ad2 2 := ⟨Exa.start ev_ad2 w_20a, b_ad2, own_fldR ev_ad2 ew_ad2, Exa.start ew_ad2 w_21a, own_fldI ew_ad2 w_22a, own_fldI ew_ad2 w_23a⟩
  obtain ⟨ad3, ev_ad3⟩ := exa_v w_4a
  have S_ad3 := Sta.start ev_ad3 (Or.inr ⟨(hw _ (List.mem_of_getElem? (i := 6) rfl)), (hw _ (List.mem_of_getElem? (i := 27) rfl))⟩)
  obtain ⟨b_ad3, ew_ad3⟩ := exa_v w_5a
  have P_ad3 : own_per s s.heap ad3 3 := ⟨Exa.start ev_ad3 w_4a, b_ad3, own_fldR ev_ad3 ew_ad3, Exa.start ew_ad3 w_5a, own_fldI ew_ad3 w_6a, own_fldI ew_ad3 w_7a⟩
  obtain ⟨ad4, ev_ad4⟩ := exa_v w_16a
  have S_ad4 := Sta.start ev_ad4 (Or.inr ⟨(hw _ (List.mem_of_getElem? (i := 6) rfl)), (hw _ (List.mem_of_getElem? (i := 33) rfl))⟩)
  obtain ⟨b_ad4, ew_ad4⟩ := exa_v w_17a
  have P_ad4 : own_per s s.heap ad4 6 := ⟨Exa.start ev_ad4 w_16a, b_ad4, own_fldR ev_ad4 ew_ad4, Exa.start ew_ad4 w_17a, own_fldI ew_ad4 w_18a, own_fldI ew_ad4 w_19a⟩
  obtain ⟨ad5, ev_ad5⟩ := exa_v w_8a
  have S_ad5 := Sta.start ev_ad5 (Or.inr ⟨(hw _ (List.mem_of_getElem? (i := 6) rfl)), (hw _ (List.mem_of_getElem? (i := 29) rfl))⟩)
  obtain ⟨b_ad5, ew_ad5⟩ := exa_v w_9a
  have P_ad5 : own_per s s.heap ad5 9 := ⟨Exa.start ev_ad5 w_8a, b_ad5, own_fldR ev_ad5 ew_ad5, Exa.start ew_ad5 w_9a, own_fldI ew_ad5 w_10a, own_fldI ew_ad5 w_11a⟩
  obtain ⟨ad6, ev_ad6⟩ := exa_v w_12a
  have S_ad6 := Sta.start ev_ad6 (Or.inr ⟨(hw _ (List.mem_of_getElem? (i := 6) rfl)), (hw _ (List.mem_of_getElem? (i := 31) rfl))⟩)
  obtain ⟨b_ad6, ew_ad6⟩ := exa_v w_13a
  have P_ad6 : own_per s s.heap ad6 12 := ⟨Exa.start ev_ad6 w_12a, b_ad6, own_fldR ev_ad6 ew_ad6, Exa.start ew_ad6 w_13a, own_fldI ew_ad6 w_14a, own_fldI ew_ad6 w_15a⟩
  obtain ⟨n, o, h1, h2, h3, _, L, rfl, ⟨rfl, N⟩, hq⟩ := own_rm_law l s _ hw tables_1 i0 ad0 ad1 ad2 ad3 ad4 ad5 ad6 s.heap s.heap.size (Nat.le_refl _) S_ad0 S_ad1 S_ad2 S_ad3 S_ad4 S_ad5 S_ad6 P_ad0 P_ad1 P_ad2 P_ad3 P_ad4 P_ad5 P_ad6 p e ha hc hk s m _ below hf ((Spec.applies_iff_loose hf).mp happ).1 ⟨rfl, State.Warmed39.refl s, rfl⟩ trivial
  refine ⟨n, _, h1, h2, h3, hpost _ _ _ _ _ _ ⟨Cond.after_iff.mpr rfl, Cond.after_iff.mpr (eq_i res_at (Term.int_eval (1)) rfl), trivial⟩ ⟨hq.1, hq.2.1, (hq.2.2.sift fun y hy => Or.inr (N y hy)).mono (by decide) (by decide)⟩⟩
theorem main_1_1 : Claimed_1_1 := comes_1 fun _ _ _ _ _ _ h hF => ⟨h.1, hF⟩
theorem main_1_2 : Claimed_1_2 := comes_1 fun _ _ _ _ _ _ h hF => ⟨h.2.1, hF⟩
end Jvm.Pilot.@@N@@
namespace Jvm.Pilot.@@N@@
open Jvm Jvm.ClassFile Sem Op Lib Jvm.Free Jvm.Stand Jvm.Pilot.@@N@@.Jvm.D
/-! MADE BY PROGRAM (witnessworld.py) out of the Statement's table words and the real class files: 16 classes; the members and pool entries that the words name. The judged class is class 1, her method 1. -/
namespace start1
open Jvm.ClassFile
def u (s : String) : CpInfo := .utf8 (stringToUtf16 s)
/-- a pool by its gaps: so many unusable entries, then the entry; so many at the end -/
def gap : Nat → List CpInfo → List CpInfo
  | 0, r => r
  | n + 1, r => .unusable :: gap n r
def poolList (es : List (Nat × CpInfo)) (last : Nat) : List CpInfo := es.foldr (fun e r => gap e.1 (e.2 :: r)) (gap last [])
def pool (es : List (Nat × CpInfo)) (last : Nat) : Array CpInfo := ⟨poolList es last⟩
def fileOf (pool : Array CpInfo) (this : Nat) (attrs : Array Attribute := #[]) (ms : Array MethodInfo := #[]) (fl : Nat := 33) (sup : Nat := 0) (ifs : Array Nat := #[]) (fds : Array FieldInfo := #[]) : ClassFile where
  minorVersion := 0
  majorVersion := 65
  constantPool := pool
  accessFlags := fl
  thisClass := this
  superClass := sup
  interfaces := ifs
  fields := fds
  methods := ms
  attributes := attrs
def plain (name : String) (sup : Option ClassId) : Class where
  name := name
  kind := .ordinary
  loader := none
  accessFlags := 33
  super := sup
  interfaces := #[]
  cf := none
  fields := #[]
  methods := #[]
  instanceTypes := #[]
  staticTypes := #[]
  resolved := #[]
  callSites := []
  init := .initialized
  statics := none
  mirror := none

def pool0 : Array CpInfo := pool [(5, u "<init>"), (0, u "()V"), (1, .class_ 10), (1, u "java/lang/Object")] 113

def k0m0 : Method := { name := "<init>", desc := "()V", sig := { parameters := [], returnType := none }, accessFlags := 1, code := none }
/-- java/lang/Object -/
def k0 : Class := { plain "java/lang/Object" none with
  accessFlags := 33
  interfaces := #[]
  cf := some (fileOf pool0 8 #[] #[{ accessFlags := 1, nameIndex := 5, descriptorIndex := 6, attributes := #[] }] 33 0 #[] #[])
  fields := #[]
  methods := #[k0m0]
  instanceTypes := #[]
  staticTypes := #[]
  resolved := Array.replicate 124 none
  statics := none }

def pool1 : Array CpInfo := pool [(2, .class_ 4), (1, u "java/lang/Object"), (0, u "<init>"), (0, u "()V"), (0, .integer 2147483647), (0, .methodref 9 10), (0, .class_ 11), (0, .nameAndType 12 13), (0, u "com/example/tranche/tranche/notice/InterestPeriodIsMonthsPinLaw"), (0, u "pick"), (0, u "(I)Lcom/example/tranche/tranche/notice/InterestPeriod;"), (0, .methodref 15 16), (0, .class_ 17), (0, .nameAndType 18 19), (0, u "com/example/tranche/tranche/notice/InterestPeriod"), (0, u "isMonths"), (0, u "()Z"), (0, .fieldref 15 21), (0, .nameAndType 22 23), (0, u "ONE_WEEK"), (0, u "Lcom/example/tranche/tranche/notice/InterestPeriod;"), (0, .fieldref 15 25), (0, .nameAndType 26 23), (0, u "ONE_MONTH"), (0, .fieldref 15 28), (0, .nameAndType 29 23), (0, u "TWO_MONTHS"), (0, .fieldref 15 31), (0, .nameAndType 32 23), (0, u "THREE_MONTHS"), (0, .fieldref 15 34), (0, .nameAndType 35 23), (0, u "SIX_MONTHS"), (0, .fieldref 15 37), (0, .nameAndType 38 23), (0, u "NINE_MONTHS"), (0, .fieldref 15 40), (0, .nameAndType 41 23), (0, u "TWELVE_MONTHS"), (2, u "law"), (0, u "(I)Z")] 3

def k1m0 : Method := { name := "<init>", desc := "()V", sig := { parameters := [], returnType := none }, accessFlags := 1, code := none }
def k1c1 : Code := { maxStack := 2, maxLocals := 4, code := code, exceptionTable := #[], attributes := #[] }
def k1m1 : Method := { name := "law", desc := "(I)Z", sig := { parameters := [.int], returnType := some .boolean }, accessFlags := 9, code := some k1c1 }
def k1c2 : Code := { maxStack := 2, maxLocals := 1, code := method_3_code, exceptionTable := #[], attributes := #[] }
def k1m2 : Method := { name := "pick", desc := "(I)Lcom/example/tranche/tranche/notice/InterestPeriod;", sig := { parameters := [.int], returnType := some (.object "com/example/tranche/tranche/notice/InterestPeriod") }, accessFlags := 10, code := some k1c2 }
/-- com/example/tranche/tranche/notice/InterestPeriodIsMonthsPinLaw -/
def k1 : Class := { plain "com/example/tranche/tranche/notice/InterestPeriodIsMonthsPinLaw" (some 0) with
  accessFlags := 49
  interfaces := #[]
  cf := some (fileOf pool1 9 #[] #[{ accessFlags := 1, nameIndex := 5, descriptorIndex := 6, attributes := #[] }, { accessFlags := 9, nameIndex := 44, descriptorIndex := 45, attributes := #[] }, { accessFlags := 10, nameIndex := 12, descriptorIndex := 13, attributes := #[] }] 49 2 #[] #[])
  fields := #[]
  methods := #[k1m0, k1m1, k1m2]
  instanceTypes := #[]
  staticTypes := #[]
  resolved := Array.replicate 49 none
  statics := none }

def pool2 : Array CpInfo := pool [(1, .class_ 2), (0, u "java/lang/constant/Constable"), (0, .class_ 4), (0, u "java/lang/Object")] 6

/-- java/lang/constant/Constable -/
def k2 : Class := { plain "java/lang/constant/Constable" (some 0) with
  accessFlags := 1537
  interfaces := #[]
  cf := some (fileOf pool2 1 #[] #[] 1537 3 #[] #[])
  fields := #[]
  methods := #[]
  instanceTypes := #[]
  staticTypes := #[]
  resolved := Array.replicate 11 none
  statics := none }

def pool3 : Array CpInfo := pool [(1, .class_ 2), (0, u "java/lang/Comparable"), (0, .class_ 4), (0, u "java/lang/Object")] 7

/-- java/lang/Comparable -/
def k3 : Class := { plain "java/lang/Comparable" (some 0) with
  accessFlags := 1537
  interfaces := #[]
  cf := some (fileOf pool3 1 #[] #[] 1537 3 #[] #[])
  fields := #[]
  methods := #[]
  instanceTypes := #[]
  staticTypes := #[]
  resolved := Array.replicate 12 none
  statics := none }

def pool4 : Array CpInfo := pool [(1, .class_ 2), (0, u "java/io/Serializable"), (0, .class_ 4), (0, u "java/lang/Object")] 2

/-- java/io/Serializable -/
def k4 : Class := { plain "java/io/Serializable" (some 0) with
  accessFlags := 1537
  interfaces := #[]
  cf := some (fileOf pool4 1 #[] #[] 1537 3 #[] #[])
  fields := #[]
  methods := #[]
  instanceTypes := #[]
  staticTypes := #[]
  resolved := Array.replicate 7 none
  statics := none }

def pool5 : Array CpInfo := pool [(2, .class_ 4), (1, u "java/lang/Enum"), (0, u "name"), (0, u "Ljava/lang/String;"), (2, u "ordinal"), (0, u "I"), (1, .class_ 14), (1, u "java/lang/Object"), (4, u "hash"), (86, .class_ 108), (1, u "java/lang/Enum$EnumDesc"), (2, .class_ 112), (0, u "java/lang/constant/Constable"), (0, .class_ 114), (0, u "java/lang/Comparable"), (0, .class_ 116), (0, u "java/io/Serializable")] 87

/-- java/lang/Enum -/
def k5 : Class := { plain "java/lang/Enum" (some 0) with
  accessFlags := 1057
  interfaces := #[2, 3, 4]
  cf := some (fileOf pool5 2 #[.nestMembers #[106]] #[] 1057 12 #[111, 113, 115] #[{ accessFlags := 18, nameIndex := 5, descriptorIndex := 6, attributes := #[] }, { accessFlags := 18, nameIndex := 9, descriptorIndex := 10, attributes := #[] }, { accessFlags := 2, nameIndex := 19, descriptorIndex := 10, attributes := #[] }])
  fields := #[{ name := "name", type := (.object "java/lang/String"), accessFlags := 18, slot := 0, constantValue := 0 }, { name := "ordinal", type := .int, accessFlags := 18, slot := 1, constantValue := 0 }, { name := "hash", type := .int, accessFlags := 2, slot := 2, constantValue := 0 }]
  methods := #[]
  instanceTypes := #[(.object "java/lang/String"), .int, .int]
  staticTypes := #[]
  resolved := Array.replicate 204 none
  statics := none }

def pool6 : Array CpInfo := pool [(9, .class_ 10), (0, u "com/example/tranche/tranche/file/Labelled"), (48, .class_ 60), (0, u "java/lang/Object")] 40

/-- com/example/tranche/tranche/file/Labelled -/
def k6 : Class := { plain "com/example/tranche/tranche/file/Labelled" (some 0) with
  accessFlags := 1537
  interfaces := #[]
  cf := some (fileOf pool6 9 #[] #[] 1537 59 #[] #[])
  fields := #[]
  methods := #[]
  instanceTypes := #[]
  staticTypes := #[]
  resolved := Array.replicate 101 none
  statics := none }

def pool7 : Array CpInfo := pool [(1, .class_ 2), (0, u "com/example/tranche/tranche/notice/InterestPeriod"), (2, u "ONE_WEEK"), (0, u "Lcom/example/tranche/tranche/notice/InterestPeriod;"), (2, u "ONE_MONTH"), (2, u "TWO_MONTHS"), (2, u "THREE_MONTHS"), (2, u "SIX_MONTHS"), (2, u "NINE_MONTHS"), (2, u "TWELVE_MONTHS"), (2, u "$VALUES"), (0, u "[Lcom/example/tranche/tranche/notice/InterestPeriod;"), (6, .class_ 37), (1, u "java/lang/Enum"), (8, u "label"), (0, u "Ljava/lang/String;"), (0, .fieldref 1 49), (0, .nameAndType 50 51), (0, u "length"), (0, u "Ljava/time/Period;"), (0, .methodref 53 54), (0, .class_ 55), (0, .nameAndType 56 57), (0, u "java/time/Period"), (0, u "toTotalMonths"), (0, u "()J"), (3, .class_ 63), (1, u "com/example/tranche/tranche/file/Labelled"), (46, u "isMonths"), (0, u "()Z")] 6

def k7c0 : Code := { maxStack := 4, maxLocals := 1, code := prog_110_method_6_code, exceptionTable := #[], attributes := #[] }
def k7m0 : Method := { name := "isMonths", desc := "()Z", sig := { parameters := [], returnType := some .boolean }, accessFlags := 1, code := some k7c0 }
/-- com/example/tranche/tranche/notice/InterestPeriod -/
def k7 : Class := { plain "com/example/tranche/tranche/notice/InterestPeriod" (some 5) with
  accessFlags := 16433
  interfaces := #[6]
  cf := some (fileOf pool7 1 #[] #[{ accessFlags := 1, nameIndex := 110, descriptorIndex := 111, attributes := #[] }] 16433 35 #[61] #[{ accessFlags := 16409, nameIndex := 5, descriptorIndex := 6, attributes := #[] }, { accessFlags := 16409, nameIndex := 9, descriptorIndex := 6, attributes := #[] }, { accessFlags := 16409, nameIndex := 12, descriptorIndex := 6, attributes := #[] }, { accessFlags := 16409, nameIndex := 15, descriptorIndex := 6, attributes := #[] }, { accessFlags := 16409, nameIndex := 18, descriptorIndex := 6, attributes := #[] }, { accessFlags := 16409, nameIndex := 21, descriptorIndex := 6, attributes := #[] }, { accessFlags := 16409, nameIndex := 24, descriptorIndex := 6, attributes := #[] }, { accessFlags := 18, nameIndex := 46, descriptorIndex := 47, attributes := #[] }, { accessFlags := 18, nameIndex := 50, descriptorIndex := 51, attributes := #[] }, { accessFlags := 4122, nameIndex := 27, descriptorIndex := 28, attributes := #[] }])
  fields := #[{ name := "ONE_WEEK", type := (.object "com/example/tranche/tranche/notice/InterestPeriod"), accessFlags := 16409, slot := 0, constantValue := 0 }, { name := "ONE_MONTH", type := (.object "com/example/tranche/tranche/notice/InterestPeriod"), accessFlags := 16409, slot := 1, constantValue := 0 }, { name := "TWO_MONTHS", type := (.object "com/example/tranche/tranche/notice/InterestPeriod"), accessFlags := 16409, slot := 2, constantValue := 0 }, { name := "THREE_MONTHS", type := (.object "com/example/tranche/tranche/notice/InterestPeriod"), accessFlags := 16409, slot := 3, constantValue := 0 }, { name := "SIX_MONTHS", type := (.object "com/example/tranche/tranche/notice/InterestPeriod"), accessFlags := 16409, slot := 4, constantValue := 0 }, { name := "NINE_MONTHS", type := (.object "com/example/tranche/tranche/notice/InterestPeriod"), accessFlags := 16409, slot := 5, constantValue := 0 }, { name := "TWELVE_MONTHS", type := (.object "com/example/tranche/tranche/notice/InterestPeriod"), accessFlags := 16409, slot := 6, constantValue := 0 }, { name := "label", type := (.object "java/lang/String"), accessFlags := 18, slot := 3, constantValue := 0 }, { name := "length", type := (.object "java/time/Period"), accessFlags := 18, slot := 4, constantValue := 0 }, { name := "$VALUES", type := (.array (.object "com/example/tranche/tranche/notice/InterestPeriod")), accessFlags := 4122, slot := 7, constantValue := 0 }]
  methods := #[k7m0]
  instanceTypes := #[(.object "java/lang/String"), .int, .int, (.object "java/lang/String"), (.object "java/time/Period")]
  staticTypes := #[(.object "com/example/tranche/tranche/notice/InterestPeriod"), (.object "com/example/tranche/tranche/notice/InterestPeriod"), (.object "com/example/tranche/tranche/notice/InterestPeriod"), (.object "com/example/tranche/tranche/notice/InterestPeriod"), (.object "com/example/tranche/tranche/notice/InterestPeriod"), (.object "com/example/tranche/tranche/notice/InterestPeriod"), (.object "com/example/tranche/tranche/notice/InterestPeriod"), (.array (.object "com/example/tranche/tranche/notice/InterestPeriod"))]
  resolved := Array.replicate 118 none
  statics := some 0 }

def pool8 : Array CpInfo := pool [(1, .class_ 2), (0, u "java/time/temporal/TemporalAmount"), (0, .class_ 4), (0, u "java/lang/Object")] 11

/-- java/time/temporal/TemporalAmount -/
def k8 : Class := { plain "java/time/temporal/TemporalAmount" (some 0) with
  accessFlags := 1537
  interfaces := #[]
  cf := some (fileOf pool8 1 #[] #[] 1537 3 #[] #[])
  fields := #[]
  methods := #[]
  instanceTypes := #[]
  staticTypes := #[]
  resolved := Array.replicate 16 none
  statics := none }

def pool9 : Array CpInfo := pool [(18, .class_ 20), (1, u "java/time/chrono/ChronoPeriod"), (28, .class_ 50), (0, u "java/lang/Object"), (0, .class_ 52), (0, u "java/time/temporal/TemporalAmount")] 34

/-- java/time/chrono/ChronoPeriod -/
def k9 : Class := { plain "java/time/chrono/ChronoPeriod" (some 0) with
  accessFlags := 1537
  interfaces := #[8]
  cf := some (fileOf pool9 18 #[] #[] 1537 49 #[51] #[])
  fields := #[]
  methods := #[]
  instanceTypes := #[]
  staticTypes := #[]
  resolved := Array.replicate 87 none
  statics := none }

def pool10 : Array CpInfo := pool [(2, .class_ 4), (1, u "java/time/Period"), (8, .class_ 14), (0, u "java/time/chrono/ChronoPeriod"), (96, u "PATTERN"), (0, u "Ljava/util/regex/Pattern;"), (62, u "ZERO"), (0, u "Ljava/time/Period;"), (4, .class_ 182), (0, u "java/lang/Object"), (0, .fieldref 2 184), (0, .nameAndType 185 186), (0, u "years"), (0, u "I"), (0, .fieldref 2 188), (0, .nameAndType 189 186), (0, u "months"), (2, u "days"), (17, u "SUPPORTED_UNITS"), (0, u "Ljava/util/List;"), (32, u "toTotalMonths"), (0, u "()J"), (0, .long 12), (93, .class_ 341), (0, u "java/io/Serializable"), (0, u "serialVersionUID"), (0, u "J")] 103

def k10c0 : Code := { maxStack := 4, maxLocals := 1, code := jdk_2336_method_35_code, exceptionTable := #[], attributes := #[] }
def k10m0 : Method := { name := "toTotalMonths", desc := "()J", sig := { parameters := [], returnType := some .long }, accessFlags := 1, code := some k10c0 }
/-- java/time/Period -/
def k10 : Class := { plain "java/time/Period" (some 0) with
  accessFlags := 49
  interfaces := #[9, 4]
  cf := some (fileOf pool10 2 #[] #[{ accessFlags := 1, nameIndex := 244, descriptorIndex := 245, attributes := #[] }] 49 181 #[13, 340] #[{ accessFlags := 25, nameIndex := 175, descriptorIndex := 176, attributes := #[] }, { accessFlags := 26, nameIndex := 342, descriptorIndex := 343, attributes := #[] }, { accessFlags := 26, nameIndex := 111, descriptorIndex := 112, attributes := #[] }, { accessFlags := 26, nameIndex := 210, descriptorIndex := 211, attributes := #[] }, { accessFlags := 18, nameIndex := 185, descriptorIndex := 186, attributes := #[] }, { accessFlags := 18, nameIndex := 189, descriptorIndex := 186, attributes := #[] }, { accessFlags := 18, nameIndex := 192, descriptorIndex := 186, attributes := #[] }])
  fields := #[{ name := "ZERO", type := (.object "java/time/Period"), accessFlags := 25, slot := 0, constantValue := 0 }, { name := "serialVersionUID", type := .long, accessFlags := 26, slot := 1, constantValue := 0 }, { name := "PATTERN", type := (.object "java/util/regex/Pattern"), accessFlags := 26, slot := 2, constantValue := 0 }, { name := "SUPPORTED_UNITS", type := (.object "java/util/List"), accessFlags := 26, slot := 3, constantValue := 0 }, { name := "years", type := .int, accessFlags := 18, slot := 0, constantValue := 0 }, { name := "months", type := .int, accessFlags := 18, slot := 1, constantValue := 0 }, { name := "days", type := .int, accessFlags := 18, slot := 2, constantValue := 0 }]
  methods := #[k10m0]
  instanceTypes := #[.int, .int, .int]
  staticTypes := #[(.object "java/time/Period"), .long, (.object "java/util/regex/Pattern"), (.object "java/util/List")]
  resolved := Array.replicate 447 none
  statics := none }

def pool11 : Array CpInfo := pool [(1, u "java/lang/Cloneable"), (0, .class_ 1), (0, u "java/lang/Object"), (0, .class_ 3)] 3

/-- java/lang/Cloneable -/
def k11 : Class := { plain "java/lang/Cloneable" (some 0) with
  accessFlags := 1537
  interfaces := #[]
  cf := some (fileOf pool11 2 #[] #[] 1537 4 #[] #[])
  fields := #[]
  methods := #[]
  instanceTypes := #[]
  staticTypes := #[]
  resolved := Array.replicate 8 none
  statics := none }

/-- the primitive byte -/
def k12 : Class := { plain "byte" none with kind := .primitive 'B', accessFlags := 0x411 }
/-- [B -/
def k13 : Class := { plain "[B" (some 0) with kind := .array 12 .byte, interfaces := #[11, 4], accessFlags := 1041 }

/-- the primitive int -/
def k14 : Class := { plain "int" none with kind := .primitive 'I', accessFlags := 0x411 }
/-- [I -/
def k15 : Class := { plain "[I" (some 0) with kind := .array 14 .int, interfaces := #[11, 4], accessFlags := 1041 }

def heap : Heap := #[{ cls := 7, slots := #[.ref 8, .ref 9, .ref 10, .ref 11, .ref 12, .ref 13, .ref 14, .null], vm := .statics 7 },
  { cls := 10, slots := #[.int 0, .int 0, .int 0], vm := .none },
  { cls := 10, slots := #[.int 0, .int 1, .int 0], vm := .none },
  { cls := 10, slots := #[.int 0, .int 2, .int 0], vm := .none },
  { cls := 10, slots := #[.int 0, .int 3, .int 0], vm := .none },
  { cls := 10, slots := #[.int 0, .int 6, .int 0], vm := .none },
  { cls := 10, slots := #[.int 0, .int 9, .int 0], vm := .none },
  { cls := 10, slots := #[.int 0, .int 12, .int 0], vm := .none },
  { cls := 7, slots := #[.null, .int 0, .int 0, .null, .ref 1], vm := .none },
  { cls := 7, slots := #[.null, .int 1, .int 0, .null, .ref 2], vm := .none },
  { cls := 7, slots := #[.null, .int 2, .int 0, .null, .ref 3], vm := .none },
  { cls := 7, slots := #[.null, .int 3, .int 0, .null, .ref 4], vm := .none },
  { cls := 7, slots := #[.null, .int 4, .int 0, .null, .ref 5], vm := .none },
  { cls := 7, slots := #[.null, .int 5, .int 0, .null, .ref 6], vm := .none },
  { cls := 7, slots := #[.null, .int 6, .int 0, .null, .ref 7], vm := .none }]
def classes : Array Class := #[k0, k1, k2, k3, k4, k5, k6, k7, k8, k9, k10, k11, k12, k13, k14, k15]
def interned : List (Array UInt16 × Addr) := []
def slotsUsed : Nat := 64
def theMethod : MethodId := ⟨1, 1⟩
def args0 : Array Value := #[.int 5]
def aboutOver (below : List Frame) : State where
  vm := { classes := classes, interned := interned.toArray }
  heap := heap
  slotsUsed := slotsUsed
  threads := #[{ frames := .invoking theMethod args0 :: below }]
def below0 : List Frame := [.native { method := ⟨0, 0⟩, args := #[] }]
def about1 : State := aboutOver below0
def p0 : Program := .bare "" "" ""
def e0 : Env := launch0.env 0 0 0
theorem w_frames : about1.frames = Frame.invoking theMethod args0 :: below0 := rfl
set_option maxRecDepth 65536 in
theorem w_args : argsFit about1.vm theMethod args0 = true := by decide +kernel
set_option maxRecDepth 65536 in
theorem w_heap : heapFits about1 = true := by decide +kernel
set_option maxRecDepth 65536 in
theorem w_runnable : about1.curStatus? = some .runnable := by decide +kernel
set_option maxRecDepth 65536 in
theorem w_alone : about1.alone = true := by decide +kernel
set_option maxRecDepth 65536 in
theorem w_named : about1.methodNamed? x = some theMethod := by decide +kernel
set_option maxRecDepth 65536 in
theorem w_hears : about1.hears theMethod below0 = true := by decide +kernel
set_option maxRecDepth 65536 in
theorem w_ripe : about1.ripe theMethod args0 below0 = true := by decide +kernel
theorem w_running : about1.status = .running := rfl
set_option maxRecDepth 65536 in
theorem w_room : about1.hasRoom e0.platform room_1 = true :=
  launch0.hasRoom_least _ room_1 (by decide +kernel) (by decide +kernel) (by decide +kernel) (by decide +kernel) (by decide +kernel) (by decide +kernel)
theorem allAtoms_all (ts : List Jvm.Cond) (a : Array Jvm.Value) (st : Jvm.State) : (allAtoms ts).before a st = ts.all (fun c => c.before a st) := by
  induction ts with
  | nil => rfl
  | cons c t ih =>
    show (Jvm.Cond.and c (allAtoms t)).before a st = _
    rw [Jvm.Cond.before_and, ih, List.all_cons]
def words1 : List Jvm.Cond := Jvm.Cond.code x code maxLocals ret :: tables_1
/-- a 'code' word, met by the world's own term for the bytes: nothing is compared byte by byte -/
theorem code_word {y : MethodName} {bytes : ByteArray} {mx : Nat} {rt : Option FieldType} {a : Array Value} {s : State} {m : MethodId} {meth : Method} {c : Code} (h1 : s.methodNamed? y = some m) (h2 : s.vm.method? m = some meth) (h3 : meth.code = some c) (h4 : c.code = bytes)
    (h5 : (c.maxLocals == mx && c.exceptionTable.isEmpty && decide (c.maxStack ≤ mostOperands) && decide (meth.sig.returnType = rt) && !meth.locks && decide (parseMethodDescriptor y.desc = some meth.sig)) = true) : (Jvm.Cond.code y bytes mx rt).before a s = true := by
  simp only [Bool.and_eq_true, beq_iff_eq, Bool.not_eq_true', decide_eq_true_eq] at h5
  obtain ⟨⟨⟨⟨⟨g1, g2⟩, g3⟩, g4⟩, g5⟩, g6⟩ := h5
  simp [Cond.before, Cond.holds, Cond.value, h1, h2, h3, h4, g1, g2, g3, g4, g5, g6]
def isCode : Jvm.Cond → Bool
  | .code _ _ _ _ => true
  | _ => false
theorem all_split {L : List Jvm.Cond} {P : Jvm.Cond → Bool} (h1 : L.all (fun c => isCode c || P c) = true) (h2 : ∀ c ∈ L.filter isCode, P c = true) : L.all P = true := by
  refine List.all_eq_true.mpr fun c hc => ?_
  have h := List.all_eq_true.mp h1 c hc
  rcases Bool.eq_false_or_eq_true (isCode c) with hi | hi
  · exact h2 c (List.mem_filter.mpr ⟨hc, hi⟩)
  · simpa [hi] using h
set_option maxRecDepth 65536 in
theorem w_c0 : (Jvm.Cond.code x code maxLocals ret).before args0 about1 = true := code_word (m := ⟨1, 1⟩) (meth := k1m1) (c := k1c1) (by decide +kernel) rfl rfl rfl (by decide +kernel)
set_option maxRecDepth 65536 in
theorem w_c1 : (Jvm.Cond.code ({ cls := "com/example/tranche/tranche/notice/InterestPeriodIsMonthsPinLaw", name := "pick", desc := "(I)Lcom/example/tranche/tranche/notice/InterestPeriod;" } : Jvm.MethodName) method_3_code (1 : Nat) (Option.some (Jvm.ClassFile.FieldType.object "com/example/tranche/tranche/notice/InterestPeriod"))).before args0 about1 = true := code_word (m := ⟨1, 2⟩) (meth := k1m2) (c := k1c2) (by decide +kernel) rfl rfl rfl (by decide +kernel)
set_option maxRecDepth 65536 in
theorem w_c2 : (Jvm.Cond.code ({ cls := "com/example/tranche/tranche/notice/InterestPeriod", name := "isMonths", desc := "()Z" } : Jvm.MethodName) prog_110_method_6_code (1 : Nat) (Option.some Jvm.ClassFile.FieldType.boolean)).before args0 about1 = true := code_word (m := ⟨7, 0⟩) (meth := k7m0) (c := k7c0) (by decide +kernel) rfl rfl rfl (by decide +kernel)
set_option maxRecDepth 65536 in
theorem w_c3 : (Jvm.Cond.code ({ cls := "java/time/Period", name := "toTotalMonths", desc := "()J" } : Jvm.MethodName) jdk_2336_method_35_code (1 : Nat) (Option.some Jvm.ClassFile.FieldType.long)).before args0 about1 = true := code_word (m := ⟨10, 0⟩) (meth := k10m0) (c := k10c0) (by decide +kernel) rfl rfl rfl (by decide +kernel)
def codes1 : List Jvm.Cond := [Jvm.Cond.code x code maxLocals ret, Jvm.Cond.code ({ cls := "com/example/tranche/tranche/notice/InterestPeriodIsMonthsPinLaw", name := "pick", desc := "(I)Lcom/example/tranche/tranche/notice/InterestPeriod;" } : Jvm.MethodName) method_3_code (1 : Nat) (Option.some (Jvm.ClassFile.FieldType.object "com/example/tranche/tranche/notice/InterestPeriod")), Jvm.Cond.code ({ cls := "com/example/tranche/tranche/notice/InterestPeriod", name := "isMonths", desc := "()Z" } : Jvm.MethodName) prog_110_method_6_code (1 : Nat) (Option.some Jvm.ClassFile.FieldType.boolean), Jvm.Cond.code ({ cls := "java/time/Period", name := "toTotalMonths", desc := "()J" } : Jvm.MethodName) jdk_2336_method_35_code (1 : Nat) (Option.some Jvm.ClassFile.FieldType.long)]
set_option maxRecDepth 65536 in
theorem codes_eq : words1.filter isCode = codes1 := rfl
theorem w_codes : ∀ c ∈ words1.filter isCode, c.before args0 about1 = true := by
  rw [codes_eq]
  intro c hc
  simp only [codes1, List.mem_cons, List.not_mem_nil, or_false] at hc
  rcases hc with rfl | rfl | rfl | rfl
  · exact w_c0
  · exact w_c1
  · exact w_c2
  · exact w_c3
set_option maxRecDepth 65536 in
theorem w_t1 : (words1.take 24).all (fun c => isCode c || c.before args0 about1) = true := by decide +kernel
set_option maxRecDepth 65536 in
theorem w_t2 : (words1.drop 24).all (fun c => isCode c || c.before args0 about1) = true := by decide +kernel
theorem w_tables : (allAtoms (Jvm.Cond.code x code maxLocals ret :: tables_1)).before args0 about1 = true := by
  rw [allAtoms_all]
  show words1.all (fun c => c.before args0 about1) = true
  refine all_split ?_ w_codes
  rw [← List.take_append_drop 24 words1, List.all_append, w_t1, w_t2]
  rfl
set_option maxRecDepth 65536 in
theorem w_case : (Jvm.Cond.and given_1 narrow_1).before args0 about1 = true := by decide +kernel
theorem w_applies : (headSpec (Jvm.Cond.code x code maxLocals ret :: tables_1) room_1).applies x e0.platform about1 = true :=
  (Spec.applies_iff w_frames).mpr ⟨w_running, w_runnable, w_alone, w_named, w_hears, w_ripe, w_room, w_tables⟩
theorem atStart : AtStart classFile x code maxLocals ret World_1 tables_1 room_1 Calls_1 rest_1 Pre_1 launch0 p0 e0 about1 theMethod args0 below0 :=
  ⟨lists_1, trivial, launch0.admits_env _ _ _, launch0.least_env, fairChoices_fair.cas, fairChoices_fair.clock, w_frames, w_args, w_heap, w_applies, trivial, trivial, w_case⟩
end start1
theorem witness_1 : WitnessClaimed_1 := ⟨start1.p0, start1.e0, start1.about1, start1.theMethod, start1.args0, start1.below0, start1.atStart⟩
end Jvm.Pilot.@@N@@
