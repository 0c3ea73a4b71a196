import JvmDerived
import JvmDerived.Pilot.@@N@@Statement
import JvmDerived.Pilot.@@N@@Code
set_option linter.unusedVariables false
set_option linter.unusedSimpArgs false
namespace Jvm.Pilot.@@N@@
open Jvm Jvm.ClassFile Sem Op Lib Jvm.Free Jvm.Stand Jvm.LawKit Jvm.RoadKit Bundle Jvm.Pilot.@@N@@.Jvm.D
/-! the goal form of a walk: from S the run ends in Q -/
def own_Gl (p : Program) (e : Env) (below : List Frame) (Q : Outcome → State → Prop) (S : State) : Prop := ∃ s₂ o, Steps p.tables e below S s₂ ∧ s₂.status = .running ∧ Ended s₂ below o ∧ Q o s₂
def own_Post (s : State) (Q : Option Value → Heap → List Loc → Prop) (C N : Nat) : Outcome → State → Prop := fun o U' => ∃ v L, o = .returned v ∧ Q v U'.heap L ∧ FrameEnd s o U' L C N
section Own
variable {p : Program} {l : Launch} {e : Env} {R : Room} {s : State} {m : MethodId} {args : Array Value} {below : List Frame} {meth : Method} {c : Code} {T : State} {locs : List Loc} {cells slots : Nat} {Q : Outcome → State → Prop} {QQ : Option Value → Heap → List Loc → Prop} {S S' : State} {C N : Nat} {h : Heap}
theorem own_st (st : ∀ t, Steps p.tables e below S' t → Steps p.tables e below S t) (g : own_Gl p e below Q S') : own_Gl p e below Q S := by
  obtain ⟨s₂, o, h1, h2⟩ := g; exact ⟨s₂, o, st _ h1, h2⟩
theorem own_tr (st : Steps p.tables e below S S') (g : own_Gl p e below Q S') : own_Gl p e below Q S := by
  obtain ⟨s₂, o, h1, h2⟩ := g; exact ⟨s₂, o, st.trans h1, h2⟩
theorem own_retO (X : Stand p l e R s m args below meth c T locs cells slots) (hx : p.tables.exec = Jvm.exec) (hlk : meth.locks = false) {pc : Nat} {Ls : Array Slot} {w : Value} {t : FieldType} {i : Instr} {rest : List Value} (hret : meth.sig.returnType = some t) (hn : narrow t w = w)
    (hi : (i = .ireturn ∧ (t = .int ∨ t = .boolean ∨ t = .byte ∨ t = .char ∨ t = .short) ∧ ∃ z, w = .int z) ∨ (i = .lreturn ∧ t = .long ∧ ∃ z, w = .long z) ∨ (i = .dreturn ∧ t = .double ∧ ∃ z, w = .double z) ∨ (i = .freturn ∧ t = .float ∧ ∃ z, w = .float z) ∨ (i = .areturn ∧ t.isReference = true ∧ w.isRef = true))
    (hd : decode c.code pc = .ok (i, 1)) (hc : cells ≤ C) (hs : slots ≤ N) (eT : T.heap = h) (hq : QQ (some w) h locs) : own_Gl p e below (own_Post s QQ C N) (T.setTop (mkF m pc Ls (w :: rest))) := by
  obtain ⟨fs, hr, hrun, hended, hW, hsame⟩ := X.leave (v := some w) (fun h => by rw [hret] at h; cases h) hlk
  subst eT
  exact ⟨_, _, retOut X hx hret hn hi hd hr, hrun, hended, _, _, rfl, hq, ⟨_, rfl⟩, hW, hsame.mono hc hs⟩
theorem own_retI (X : Stand p l e R s m args below meth c T locs cells slots) (hx : p.tables.exec = Jvm.exec) (hlk : meth.locks = false) {pc : Nat} {Ls : Array Slot} {z : Int32} {rest : List Value} (hret : meth.sig.returnType = some .int)
    (hd : decode c.code pc = .ok (.ireturn, 1)) (hc : cells ≤ C) (hs : slots ≤ N) (eT : T.heap = h) (hq : QQ (some (.int z)) h locs) : own_Gl p e below (own_Post s QQ C N) (T.setTop (mkF m pc Ls (.int z :: rest))) :=
  own_retO X hx hlk hret rfl (Or.inl ⟨rfl, Or.inl rfl, z, rfl⟩) hd hc hs eT hq
theorem own_retL (X : Stand p l e R s m args below meth c T locs cells slots) (hx : p.tables.exec = Jvm.exec) (hlk : meth.locks = false) {pc : Nat} {Ls : Array Slot} {z : Int64} {rest : List Value} (hret : meth.sig.returnType = some .long)
    (hd : decode c.code pc = .ok (.lreturn, 1)) (hc : cells ≤ C) (hs : slots ≤ N) (eT : T.heap = h) (hq : QQ (some (.long z)) h locs) : own_Gl p e below (own_Post s QQ C N) (T.setTop (mkF m pc Ls (.long z :: rest))) :=
  own_retO X hx hlk hret rfl (Or.inr (Or.inl ⟨rfl, rfl, z, rfl⟩)) hd hc hs eT hq
theorem own_nref {t : FieldType} {w : Value} (h : w.isRef = true) : narrow t w = w := by cases t <;> cases w <;> first | rfl | simp [Value.isRef] at h
theorem own_retA (X : Stand p l e R s m args below meth c T locs cells slots) (hx : p.tables.exec = Jvm.exec) (hlk : meth.locks = false) {pc : Nat} {Ls : Array Slot} {w : Value} {t : FieldType} {rest : List Value} (hret : meth.sig.returnType = some t) (ht : t.isReference = true) (hw : w.isRef = true)
    (hd : decode c.code pc = .ok (.areturn, 1)) (hc : cells ≤ C) (hs : slots ≤ N) (eT : T.heap = h) (hq : QQ (some w) h locs) : own_Gl p e below (own_Post s QQ C N) (T.setTop (mkF m pc Ls (w :: rest))) :=
  own_retO X hx hlk hret (own_nref hw) (Or.inr (Or.inr (Or.inr (Or.inr ⟨rfl, ht, hw⟩)))) hd hc hs eT hq
theorem own_retN (X : Stand p l e R s m args below meth c T locs cells slots) (hx : p.tables.exec = Jvm.exec) (hlk : meth.locks = false) {pc : Nat} {Ls : Array Slot} {z : Int32} {t : FieldType} {rest : List Value} (hret : meth.sig.returnType = some t) (ht : t = .boolean ∨ t = .byte ∨ t = .char ∨ t = .short)
    (hd : decode c.code pc = .ok (.ireturn, 1)) (hc : cells ≤ C) (hs : slots ≤ N) (eT : T.heap = h) (hq : QQ (some (.int (nar t z))) h locs) : own_Gl p e below (own_Post s QQ C N) (T.setTop (mkF m pc Ls (.int z :: rest))) := by
  obtain ⟨fs, hr, hrun, hended, hW, hsame⟩ := X.leave (v := some (.int (nar t z))) (fun h => by rw [hret] at h; cases h) hlk
  subst eT
  exact ⟨_, _, retN X hx hret ht hd hr, hrun, hended, _, _, rfl, hq, ⟨_, rfl⟩, hW, hsame.mono hc hs⟩
theorem own_retV (X : Stand p l e R s m args below meth c T locs cells slots) (hx : p.tables.exec = Jvm.exec) (hlk : meth.locks = false) {pc : Nat} {Ls : Array Slot} (hret : meth.sig.returnType = none)
    (hd : decode c.code pc = .ok (.return_, 1)) (hc : cells ≤ C) (hs : slots ≤ N) (eT : T.heap = h) (hq : QQ none h locs) : own_Gl p e below (own_Post s QQ C N) (T.setTop (mkF m pc Ls [])) := by
  obtain ⟨fs, hr, hrun, hended, hW, hsame⟩ := X.leave (v := none) (fun _ => rfl) hlk
  subst eT
  exact ⟨_, _, X.returnOut hx hret hd hr, hrun, hended, _, _, rfl, hq, ⟨_, rfl⟩, hW, hsame.mono hc hs⟩
theorem own_ext_refl (h : Heap) : Ext h h := ⟨Nat.le_refl _, fun _ _ q => q⟩
theorem own_ext_tr {h0 h h' : Heap} (A : Ext h0 h) (B : Ext h h') : Ext h0 h' := ⟨Nat.le_trans A.1 B.1, fun x c q => B.2 x c (A.2 x c q)⟩
theorem own_ext_keep {h0 h h' : Heap} {ws : List Addr} (A : Ext h0 h) (K : Keep h h' ws) (q : ∀ x ∈ ws, h0.size ≤ x) : Ext h0 h' := ⟨Nat.le_trans A.1 K.1, fun x c r => K.2.1 x c (A.2 x c r) fun z => absurd (Array.getElem?_eq_some_iff.mp r).1 (Nat.not_lt.mpr (q x z))⟩
theorem own_ext_wr {h0 h h' : Heap} {a : Addr} {sl : Nat} {v : Value} (A : Ext h0 h) (W : Wr h h' a sl v) (q : h0.size ≤ a) : Ext h0 h' := own_ext_keep A (Keep.of_wr W) (allS q all0)
theorem own_sta_keep {Z : State} {h h' : Heap} {ws : List Addr} {C n d : String} {v : Value} (F : Sta Z h C n d v) (K : Keep h h' ws) (q : ∀ x ∈ ws, ∀ cell : Cell, h[x]? = some cell → cell.vm.isStatics = false) : Sta Z h' C n d v := by
  obtain ⟨cf, i, k, f, st, cell, h1, h2, h3, h4, h5, h6, h7⟩ := F
  exact ⟨cf, i, k, f, st, cell, h1, h2, h3, h4, K.2.1 _ _ h5 (fun z => by rw [q _ z _ h5] at h6; cases h6), h6, h7⟩
end Own
section Words
variable {Z : State} {args : Array Value} {t u : Term} {a : Addr} {cl : Cell} {ty : FieldType}
theorem own_fldI {C n d : String} {k : Int32} (ht : t.eval args Z none [] Z = some (.ref a)) (h : (Cond.eq (Term.field t C n d) (Term.int k)).value args Z none Z [] = some true) : Fld Z Z.heap a C n d (.int k) := by
  refine Fld.start ?_
  have e := fld_at (C := C) (n := n) (dd := d) ht
  cases hv : Z.fieldOf? a C n d with
  | none => rw [hv] at e; simp [Cond.value, e] at h
  | some v => rw [hv] at e; have ek := Term.int_eval (args := args) (first := Z) (o := none) (idx := []) (s := Z) k; cases v <;> simp only [Cond.value, e, ek] at h <;> first | (cases h; done) | (simp at h; rw [h])
theorem own_fldL {C n d : String} {k : Int64} (ht : t.eval args Z none [] Z = some (.ref a)) (h : (Cond.eq (Term.field t C n d) (Term.long k)).value args Z none Z [] = some true) : Fld Z Z.heap a C n d (.long k) := by
  refine Fld.start ?_
  have e := fld_at (C := C) (n := n) (dd := d) ht
  cases hv : Z.fieldOf? a C n d with
  | none => rw [hv] at e; simp [Cond.value, e] at h
  | some v => rw [hv] at e; have ek : (Term.long k).eval args Z none [] Z = some (.long k) := rfl; cases v <;> simp only [Cond.value, e, ek] at h <;> first | (cases h; done) | (simp at h; rw [h])
theorem own_fldR {C n d : String} {b : Addr} (ht : t.eval args Z none [] Z = some (.ref a)) (h : (Term.field t C n d).eval args Z none [] Z = some (.ref b)) : Fld Z Z.heap a C n d (.ref b) := Fld.start ((fld_at ht).symm.trans h)
theorem own_len {n : Int32} (ht : t.eval args Z none [] Z = some (.ref a)) (A : Arr Z Z.heap a cl ty) (h : (Cond.eq (Term.length t) (Term.int n)).value args Z none Z [] = some true) : cl.slots.size < 2 ^ 31 ∧ cl.slots.size.toInt32 = n := by
  have ha := A.fin (Vm.Alike.refl _)
  have ek : (Term.int n).eval args Z none [] Z = some (.int n) := rfl
  by_cases hl : cl.slots.size < 2 ^ 31
  · have e := len_f ht ha hl
    simp only [Cond.value, e, ek] at h
    exact ⟨hl, by simpa using h⟩
  · exfalso
    have e : (Term.length t).eval args Z none [] Z = none := by simp [Term.eval, ht, ha, hl]
    simp [Cond.value, e] at h
theorem own_elemI {j k : Int32} (ht : t.eval args Z none [] Z = some (.ref a)) (A : Arr Z Z.heap a cl ty) (h : (Cond.eq (Term.elem t (Term.int j)) (Term.int k)).value args Z none Z [] = some true) : cl.slots[j.toNatClampNeg]? = some (.int k) := by
  have ek : (Term.int k).eval args Z none [] Z = some (.int k) := rfl
  cases hv : (Term.elem t (Term.int j)).eval args Z none [] Z with
  | none => simp [Cond.value, hv] at h
  | some v =>
    have q := (elem_in hv ht (Term.int_eval j) A.1).2
    rw [q]
    cases v <;> simp only [Cond.value, hv, ek] at h <;> first | (cases h; done) | (simp at h; rw [h])
theorem own_elemR {j : Int32} {b : Addr} (ht : t.eval args Z none [] Z = some (.ref a)) (A : Arr Z Z.heap a cl ty) (hu : u.eval args Z none [] Z = some (.ref b)) (h : (Cond.eq (Term.elem t (Term.int j)) u).value args Z none Z [] = some true) : cl.slots[j.toNatClampNeg]? = some (.ref b) := by
  cases hv : (Term.elem t (Term.int j)).eval args Z none [] Z with
  | none => simp [Cond.value, hv] at h
  | some v =>
    have q := (elem_in hv ht (Term.int_eval j) A.1).2
    rw [q]
    cases v <;> simp only [Cond.value, hv, hu] at h <;> first | (cases h; done) | (simp at h; rw [h])
end Words
def own_codes (w : Int32) : List Int32 := if w = 0 then ([1, 12] : List Int32) else if w = 1 then ([(-5)] : List Int32) else if w = 2 then ([4] : List Int32) else if w = 3 then ([5] : List Int32) else if w = 4 then ([16, (-7)] : List Int32) else if w = 5 then ([8, 6] : List Int32) else if w = 6 then ([7] : List Int32) else ([2, 3] : List Int32)
def own_get (Z : State) (h : Heap) (r : Addr) (K : List Int32) : Prop := Exa Z h r "com/example/bare_session/baresession/mapping/BasicType$Getter" ∧ ∃ b k, Fld Z h r "com/example/bare_session/baresession/mapping/BasicType$Getter" "columnTypes" "[I" (.ref b) ∧ Arv Z h b k .int (Int32.ofNat K.length) (K.map .int) (.int 0)
theorem own_get.ext {Z : State} {h h' : Heap} {r : Addr} {K : List Int32} (P : own_get Z h r K) (E : Ext h h') : own_get Z h' r K := by
  obtain ⟨a, b, k, f, v⟩ := P; exact ⟨a.ext E, b, k, f.ext E, v.ext E⟩
def own_b (P : Prop) [Decidable P] : Int32 := if P then 1 else 0
theorem own_two (w : Int32) : (∃ x, own_codes w = [x]) ∨ (∃ x y, own_codes w = [x, y]) := by
  unfold own_codes
  repeat' split
  all_goals first | exact Or.inl ⟨_, rfl⟩ | exact Or.inr ⟨_, _, rfl⟩
theorem own_idx (x : Int32) : ¬ (((x.toUInt32 >>> ((1 : Int32) &&& 31).toUInt32).toInt32) &&& (15 : Int32)) < 0 ∧ (((x.toUInt32 >>> ((1 : Int32) &&& 31).toUInt32).toInt32) &&& (15 : Int32)) < 16 := by
  have h := c_and ((x.toUInt32 >>> ((1 : Int32) &&& 31).toUInt32).toInt32) (15 : Int32) (by decide)
  have e : (15 : Int32).toInt = 15 := by decide
  rw [Int32.lt_iff_toInt_lt, Int32.lt_iff_toInt_lt]
  have e0 : (0 : Int32).toInt = 0 := by decide
  have e1 : (16 : Int32).toInt = 16 := by decide
  omega
theorem own_isint {v : Value} (h : fits .int v = true) : ∃ z, v = .int z := by cases v <;> simp [fits] at h ⊢
theorem own_pn0 : plainName "com/example/bare_session/baresession/mapping/GetterReadsPinLaw" = true := by first | (simp [plainName, overriddenIn]; done) | decide +kernel
theorem own_d_method_3_code_0 : decode method_3_code 0 = .ok (.iload_n 0, 1) := by decide +kernel
theorem own_d_method_3_code_1 : decode method_3_code 1 = .ok (.ifCond .ne 7, 3) := by decide +kernel
theorem own_d_method_3_code_4 : decode method_3_code 4 = .ok (.getstatic 23, 3) := by decide +kernel
theorem own_d_method_3_code_7 : decode method_3_code 7 = .ok (.areturn, 1) := by decide +kernel
theorem own_d_method_3_code_8 : decode method_3_code 8 = .ok (.iload_n 0, 1) := by decide +kernel
theorem own_d_method_3_code_9 : decode method_3_code 9 = .ok (.iconst 1, 1) := by decide +kernel
theorem own_d_method_3_code_10 : decode method_3_code 10 = .ok (.if_icmp .ne 7, 3) := by decide +kernel
theorem own_d_method_3_code_13 : decode method_3_code 13 = .ok (.getstatic 27, 3) := by decide +kernel
theorem own_d_method_3_code_16 : decode method_3_code 16 = .ok (.areturn, 1) := by decide +kernel
theorem own_d_method_3_code_17 : decode method_3_code 17 = .ok (.iload_n 0, 1) := by decide +kernel
theorem own_d_method_3_code_18 : decode method_3_code 18 = .ok (.iconst 2, 1) := by decide +kernel
theorem own_d_method_3_code_19 : decode method_3_code 19 = .ok (.if_icmp .ne 7, 3) := by decide +kernel
theorem own_d_method_3_code_22 : decode method_3_code 22 = .ok (.getstatic 30, 3) := by decide +kernel
theorem own_d_method_3_code_25 : decode method_3_code 25 = .ok (.areturn, 1) := by decide +kernel
theorem own_d_method_3_code_26 : decode method_3_code 26 = .ok (.iload_n 0, 1) := by decide +kernel
theorem own_d_method_3_code_27 : decode method_3_code 27 = .ok (.iconst 3, 1) := by decide +kernel
theorem own_d_method_3_code_28 : decode method_3_code 28 = .ok (.if_icmp .ne 7, 3) := by decide +kernel
theorem own_d_method_3_code_31 : decode method_3_code 31 = .ok (.getstatic 33, 3) := by decide +kernel
theorem own_d_method_3_code_34 : decode method_3_code 34 = .ok (.areturn, 1) := by decide +kernel
theorem own_d_method_3_code_35 : decode method_3_code 35 = .ok (.iload_n 0, 1) := by decide +kernel
theorem own_d_method_3_code_36 : decode method_3_code 36 = .ok (.iconst 4, 1) := by decide +kernel
theorem own_d_method_3_code_37 : decode method_3_code 37 = .ok (.if_icmp .ne 7, 3) := by decide +kernel
theorem own_d_method_3_code_40 : decode method_3_code 40 = .ok (.getstatic 36, 3) := by decide +kernel
theorem own_d_method_3_code_43 : decode method_3_code 43 = .ok (.areturn, 1) := by decide +kernel
theorem own_d_method_3_code_44 : decode method_3_code 44 = .ok (.iload_n 0, 1) := by decide +kernel
theorem own_d_method_3_code_45 : decode method_3_code 45 = .ok (.iconst 5, 1) := by decide +kernel
theorem own_d_method_3_code_46 : decode method_3_code 46 = .ok (.if_icmp .ne 7, 3) := by decide +kernel
theorem own_d_method_3_code_49 : decode method_3_code 49 = .ok (.getstatic 39, 3) := by decide +kernel
theorem own_d_method_3_code_52 : decode method_3_code 52 = .ok (.areturn, 1) := by decide +kernel
theorem own_d_method_3_code_53 : decode method_3_code 53 = .ok (.iload_n 0, 1) := by decide +kernel
theorem own_d_method_3_code_54 : decode method_3_code 54 = .ok (.bipush 6, 2) := by decide +kernel
theorem own_d_method_3_code_56 : decode method_3_code 56 = .ok (.if_icmp .ne 7, 3) := by decide +kernel
theorem own_d_method_3_code_59 : decode method_3_code 59 = .ok (.getstatic 42, 3) := by decide +kernel
theorem own_d_method_3_code_62 : decode method_3_code 62 = .ok (.areturn, 1) := by decide +kernel
theorem own_d_method_3_code_63 : decode method_3_code 63 = .ok (.getstatic 45, 3) := by decide +kernel
theorem own_d_method_3_code_66 : decode method_3_code 66 = .ok (.areturn, 1) := by decide +kernel
theorem own_ef_get (m : MethodId) (x0 : Int32) : entryFrame m #[(.int x0)] 1 = mkF m 0 #[.val (.int x0)] [] := by first | (simp [entryFrame, mkF, argsToLocals, Value.category]; done) | rfl
def own_Q_get (Z : State) (p1 : Int32) (ad0 ad1 ad2 ad3 ad4 ad5 ad6 ad7 : Addr) (h0 : Heap) (n0 : Nat) (v : Option Value) (h : Heap) (L : List Loc) : Prop := (∃ r, v = some (.ref r) ∧ own_get Z h0 r (own_codes p1)) ∧ Fr n0 L ∧ h = h0
set_option maxRecDepth 65536 in
set_option maxHeartbeats 40000000 in
theorem own_rm_get (l : Launch) (Z : State) (a0 : Array Value) (hw : ∀ d ∈ tables_1, d.before a0 Z = true) (ws : List Jvm.Cond) (p1 : Int32) (ad0 ad1 ad2 ad3 ad4 ad5 ad6 ad7 : Addr) (h0 : Heap) (n0 : Nat) (Z0 : n0 ≤ h0.size) (S_ad0 : Sta Z h0 "com/example/bare_session/baresession/mapping/BasicType$Getter" "STRING" "Lcom/example/bare_session/baresession/mapping/BasicType$Getter;" (.ref ad0)) (S_ad1 : Sta Z h0 "com/example/bare_session/baresession/mapping/BasicType$Getter" "LONG" "Lcom/example/bare_session/baresession/mapping/BasicType$Getter;" (.ref ad1)) (S_ad2 : Sta Z h0 "com/example/bare_session/baresession/mapping/BasicType$Getter" "INTEGER" "Lcom/example/bare_session/baresession/mapping/BasicType$Getter;" (.ref ad2)) (S_ad3 : Sta Z h0 "com/example/bare_session/baresession/mapping/BasicType$Getter" "SHORT" "Lcom/example/bare_session/baresession/mapping/BasicType$Getter;" (.ref ad3)) (S_ad4 : Sta Z h0 "com/example/bare_session/baresession/mapping/BasicType$Getter" "BOOLEAN" "Lcom/example/bare_session/baresession/mapping/BasicType$Getter;" (.ref ad4)) (S_ad5 : Sta Z h0 "com/example/bare_session/baresession/mapping/BasicType$Getter" "DOUBLE" "Lcom/example/bare_session/baresession/mapping/BasicType$Getter;" (.ref ad5)) (S_ad6 : Sta Z h0 "com/example/bare_session/baresession/mapping/BasicType$Getter" "FLOAT" "Lcom/example/bare_session/baresession/mapping/BasicType$Getter;" (.ref ad6)) (S_ad7 : Sta Z h0 "com/example/bare_session/baresession/mapping/BasicType$Getter" "DECIMAL" "Lcom/example/bare_session/baresession/mapping/BasicType$Getter;" (.ref ad7)) (P_ad0 : own_get Z h0 ad0 [1, 12]) (P_ad1 : own_get Z h0 ad1 [(-5)]) (P_ad2 : own_get Z h0 ad2 [4]) (P_ad3 : own_get Z h0 ad3 [5]) (P_ad4 : own_get Z h0 ad4 [16, (-7)]) (P_ad5 : own_get Z h0 ad5 [8, 6]) (P_ad6 : own_get Z h0 ad6 [7]) (P_ad7 : own_get Z h0 ad7 [2, 3]) :
    MetFree l (⟨"com/example/bare_session/baresession/mapping/GetterReadsPinLaw", "getterOf", "(I)Lcom/example/bare_session/baresession/mapping/BasicType$Getter;"⟩ : MethodName) (head1 (Jvm.Cond.code (⟨"com/example/bare_session/baresession/mapping/GetterReadsPinLaw", "getterOf", "(I)Lcom/example/bare_session/baresession/mapping/BasicType$Getter;"⟩ : MethodName) method_3_code 1 (some (.object "com/example/bare_session/baresession/mapping/BasicType$Getter")) :: ws) ({ frames := 0, cells := 0, slots := 0, locals := 0 } : Room)) (fun a U => a = #[(.int p1)] ∧ Z.Warmed39 U.vm ∧ U.heap = h0) (fun _ _ _ _ _ => True) (fun _ U o U' => ∃ v L, o = .returned v ∧ own_Q_get Z p1 ad0 ad1 ad2 ad3 ad4 ad5 ad6 ad7 h0 n0 v U'.heap L ∧ FrameEnd U o U' L ({ frames := 0, cells := 0, slots := 0, locals := 0 } : Room).cells ({ frames := 0, cells := 0, slots := 0, locals := 0 } : Room).slots) := by
  refine MetFree.of_bodySF (plainFor_of_name own_pn0) hisR ?_
  intro p e s m args below meth c s₁ Bd hml0 hP hK
  obtain ⟨rfl, hZ, hh⟩ := hP
  have hx := Bd.exec
  have hby := Bd.bytes
  have hml : c.maxLocals = 1 := hml0
  have hown : s.vm.findClass "com/example/bare_session/baresession/mapping/GetterReadsPinLaw" = some m.cls := findClass_of_methodNamed Bd.named
  have hnm := (name_of_methodNamed Bd.named Bd.method).1
  have X0 : Stand p l e ({ frames := 0, cells := 0, slots := 0, locals := 0 } : Room) s m #[(.int p1)] below meth c s₁ [] 0 0 := Stand.of_body Bd
  have e0 : s₁.heap = h0 := by rw [← hh, Bd.state]; rfl
  have N0 := Fr.nil n0
  show own_Gl p e below (own_Post s (own_Q_get Z p1 ad0 ad1 ad2 ad3 ad4 ad5 ad6 ad7 h0 n0) ({ frames := 0, cells := 0, slots := 0, locals := 0 } : Room).cells ({ frames := 0, cells := 0, slots := 0, locals := 0 } : Room).slots) _
  refine own_st (fun t k => castTop (own_ef_get m p1) k) ?_
  show own_Gl p e below _ (s₁.setTop (mkF m 0 #[.val (.int p1)] []))
  refine own_st (fun t k => XS.iloadN X0.here hx rfl (hb hby own_d_method_3_code_0) rfl k) ?_
  show own_Gl p e below _ (s₁.setTop (mkF m 1 #[.val (.int p1)] [(.int p1)]))
  by_cases hc1_1 : p1 = (0 : Int32)
  ·
    show own_Gl p e below _ (s₁.setTop (mkF m 1 #[.val (.int p1)] [(.int p1)]))
    refine own_st (fun t k => XS.ifNo X0.here hx rfl (hb hby own_d_method_3_code_1) rfl ((if0 _ _).trans (teq (hc1_1)).2) k) ?_
    show own_Gl p e below _ (s₁.setTop (mkF m 4 #[.val (.int p1)] []))
    obtain ⟨T2, X2, e2, st2⟩ := getS2 X0 hx hZ hown (host := "") (Or.inl (hw _ (List.mem_of_getElem? (i := 4) rfl))) Via.refl e0 S_ad0 (g := (mkF m 4 #[.val (.int p1)] [])) rfl (hb hby own_d_method_3_code_4)
    refine own_st st2 ?_
    show own_Gl p e below _ (T2.setTop (mkF m 7 #[.val (.int p1)] [(.ref ad0)]))
    exact own_retA X2 hx Bd.notSynchronized Bd.returns rfl rfl (hb hby own_d_method_3_code_7) (by decide) (by decide) e2 (⟨⟨_, rfl, by simpa [own_codes, eq_true hc1_1] using P_ad0⟩, N0, rfl⟩)
  ·
    show own_Gl p e below _ (s₁.setTop (mkF m 1 #[.val (.int p1)] [(.int p1)]))
    refine own_st (fun t k => XS.ifYes X0.here hx rfl (pc0 := 1) (pc' := 8) rfl (hb hby own_d_method_3_code_1) rfl ((if0 _ _).trans (feq (hc1_1)).2) (by decide) (by decide) k) ?_
    show own_Gl p e below _ (s₁.setTop (mkF m 8 #[.val (.int p1)] []))
    refine own_st (fun t k => XS.iloadN X0.here hx rfl (hb hby own_d_method_3_code_8) rfl k) ?_
    show own_Gl p e below _ (s₁.setTop (mkF m 9 #[.val (.int p1)] [(.int p1)]))
    refine own_st (fun t k => XS.iconst X0.here hx rfl (hb hby own_d_method_3_code_9) k) ?_
    show own_Gl p e below _ (s₁.setTop (mkF m 10 #[.val (.int p1)] [(.int (1 : Int32)), (.int p1)]))
    by_cases hc10_3 : p1 = (1 : Int32)
    ·
      show own_Gl p e below _ (s₁.setTop (mkF m 10 #[.val (.int p1)] [(.int (1 : Int32)), (.int p1)]))
      refine own_st (fun t k => XS.icmpNo X0.here hx rfl (hb hby own_d_method_3_code_10) rfl (teq (hc10_3)).2 k) ?_
      show own_Gl p e below _ (s₁.setTop (mkF m 13 #[.val (.int p1)] []))
      obtain ⟨T4, X4, e4, st4⟩ := getS2 X0 hx hZ hown (host := "") (Or.inl (hw _ (List.mem_of_getElem? (i := 18) rfl))) Via.refl e0 S_ad1 (g := (mkF m 13 #[.val (.int p1)] [])) rfl (hb hby own_d_method_3_code_13)
      refine own_st st4 ?_
      show own_Gl p e below _ (T4.setTop (mkF m 16 #[.val (.int p1)] [(.ref ad1)]))
      exact own_retA X4 hx Bd.notSynchronized Bd.returns rfl rfl (hb hby own_d_method_3_code_16) (by decide) (by decide) e4 (⟨⟨_, rfl, by simpa [own_codes, eq_false hc1_1, eq_true hc10_3] using P_ad1⟩, N0, rfl⟩)
    ·
      show own_Gl p e below _ (s₁.setTop (mkF m 10 #[.val (.int p1)] [(.int (1 : Int32)), (.int p1)]))
      refine own_st (fun t k => XS.icmpYes X0.here hx rfl (pc0 := 10) (pc' := 17) rfl (hb hby own_d_method_3_code_10) rfl (feq (hc10_3)).2 (by decide) (by decide) k) ?_
      show own_Gl p e below _ (s₁.setTop (mkF m 17 #[.val (.int p1)] []))
      refine own_st (fun t k => XS.iloadN X0.here hx rfl (hb hby own_d_method_3_code_17) rfl k) ?_
      show own_Gl p e below _ (s₁.setTop (mkF m 18 #[.val (.int p1)] [(.int p1)]))
      refine own_st (fun t k => XS.iconst X0.here hx rfl (hb hby own_d_method_3_code_18) k) ?_
      show own_Gl p e below _ (s₁.setTop (mkF m 19 #[.val (.int p1)] [(.int (2 : Int32)), (.int p1)]))
      by_cases hc19_5 : p1 = (2 : Int32)
      ·
        show own_Gl p e below _ (s₁.setTop (mkF m 19 #[.val (.int p1)] [(.int (2 : Int32)), (.int p1)]))
        refine own_st (fun t k => XS.icmpNo X0.here hx rfl (hb hby own_d_method_3_code_19) rfl (teq (hc19_5)).2 k) ?_
        show own_Gl p e below _ (s₁.setTop (mkF m 22 #[.val (.int p1)] []))
        obtain ⟨T6, X6, e6, st6⟩ := getS2 X0 hx hZ hown (host := "") (Or.inl (hw _ (List.mem_of_getElem? (i := 24) rfl))) Via.refl e0 S_ad2 (g := (mkF m 22 #[.val (.int p1)] [])) rfl (hb hby own_d_method_3_code_22)
        refine own_st st6 ?_
        show own_Gl p e below _ (T6.setTop (mkF m 25 #[.val (.int p1)] [(.ref ad2)]))
        exact own_retA X6 hx Bd.notSynchronized Bd.returns rfl rfl (hb hby own_d_method_3_code_25) (by decide) (by decide) e6 (⟨⟨_, rfl, by simpa [own_codes, eq_false hc1_1, eq_false hc10_3, eq_true hc19_5] using P_ad2⟩, N0, rfl⟩)
      ·
        show own_Gl p e below _ (s₁.setTop (mkF m 19 #[.val (.int p1)] [(.int (2 : Int32)), (.int p1)]))
        refine own_st (fun t k => XS.icmpYes X0.here hx rfl (pc0 := 19) (pc' := 26) rfl (hb hby own_d_method_3_code_19) rfl (feq (hc19_5)).2 (by decide) (by decide) k) ?_
        show own_Gl p e below _ (s₁.setTop (mkF m 26 #[.val (.int p1)] []))
        refine own_st (fun t k => XS.iloadN X0.here hx rfl (hb hby own_d_method_3_code_26) rfl k) ?_
        show own_Gl p e below _ (s₁.setTop (mkF m 27 #[.val (.int p1)] [(.int p1)]))
        refine own_st (fun t k => XS.iconst X0.here hx rfl (hb hby own_d_method_3_code_27) k) ?_
        show own_Gl p e below _ (s₁.setTop (mkF m 28 #[.val (.int p1)] [(.int (3 : Int32)), (.int p1)]))
        by_cases hc28_7 : p1 = (3 : Int32)
        ·
          show own_Gl p e below _ (s₁.setTop (mkF m 28 #[.val (.int p1)] [(.int (3 : Int32)), (.int p1)]))
          refine own_st (fun t k => XS.icmpNo X0.here hx rfl (hb hby own_d_method_3_code_28) rfl (teq (hc28_7)).2 k) ?_
          show own_Gl p e below _ (s₁.setTop (mkF m 31 #[.val (.int p1)] []))
          obtain ⟨T8, X8, e8, st8⟩ := getS2 X0 hx hZ hown (host := "") (Or.inl (hw _ (List.mem_of_getElem? (i := 26) rfl))) Via.refl e0 S_ad3 (g := (mkF m 31 #[.val (.int p1)] [])) rfl (hb hby own_d_method_3_code_31)
          refine own_st st8 ?_
          show own_Gl p e below _ (T8.setTop (mkF m 34 #[.val (.int p1)] [(.ref ad3)]))
          exact own_retA X8 hx Bd.notSynchronized Bd.returns rfl rfl (hb hby own_d_method_3_code_34) (by decide) (by decide) e8 (⟨⟨_, rfl, by simpa [own_codes, eq_false hc1_1, eq_false hc10_3, eq_false hc19_5, eq_true hc28_7] using P_ad3⟩, N0, rfl⟩)
        ·
          show own_Gl p e below _ (s₁.setTop (mkF m 28 #[.val (.int p1)] [(.int (3 : Int32)), (.int p1)]))
          refine own_st (fun t k => XS.icmpYes X0.here hx rfl (pc0 := 28) (pc' := 35) rfl (hb hby own_d_method_3_code_28) rfl (feq (hc28_7)).2 (by decide) (by decide) k) ?_
          show own_Gl p e below _ (s₁.setTop (mkF m 35 #[.val (.int p1)] []))
          refine own_st (fun t k => XS.iloadN X0.here hx rfl (hb hby own_d_method_3_code_35) rfl k) ?_
          show own_Gl p e below _ (s₁.setTop (mkF m 36 #[.val (.int p1)] [(.int p1)]))
          refine own_st (fun t k => XS.iconst X0.here hx rfl (hb hby own_d_method_3_code_36) k) ?_
          show own_Gl p e below _ (s₁.setTop (mkF m 37 #[.val (.int p1)] [(.int (4 : Int32)), (.int p1)]))
          by_cases hc37_9 : p1 = (4 : Int32)
          ·
            show own_Gl p e below _ (s₁.setTop (mkF m 37 #[.val (.int p1)] [(.int (4 : Int32)), (.int p1)]))
            refine own_st (fun t k => XS.icmpNo X0.here hx rfl (hb hby own_d_method_3_code_37) rfl (teq (hc37_9)).2 k) ?_
            show own_Gl p e below _ (s₁.setTop (mkF m 40 #[.val (.int p1)] []))
            obtain ⟨T10, X10, e10, st10⟩ := getS2 X0 hx hZ hown (host := "") (Or.inl (hw _ (List.mem_of_getElem? (i := 20) rfl))) Via.refl e0 S_ad4 (g := (mkF m 40 #[.val (.int p1)] [])) rfl (hb hby own_d_method_3_code_40)
            refine own_st st10 ?_
            show own_Gl p e below _ (T10.setTop (mkF m 43 #[.val (.int p1)] [(.ref ad4)]))
            exact own_retA X10 hx Bd.notSynchronized Bd.returns rfl rfl (hb hby own_d_method_3_code_43) (by decide) (by decide) e10 (⟨⟨_, rfl, by simpa [own_codes, eq_false hc1_1, eq_false hc10_3, eq_false hc19_5, eq_false hc28_7, eq_true hc37_9] using P_ad4⟩, N0, rfl⟩)
          ·
            show own_Gl p e below _ (s₁.setTop (mkF m 37 #[.val (.int p1)] [(.int (4 : Int32)), (.int p1)]))
            refine own_st (fun t k => XS.icmpYes X0.here hx rfl (pc0 := 37) (pc' := 44) rfl (hb hby own_d_method_3_code_37) rfl (feq (hc37_9)).2 (by decide) (by decide) k) ?_
            show own_Gl p e below _ (s₁.setTop (mkF m 44 #[.val (.int p1)] []))
            refine own_st (fun t k => XS.iloadN X0.here hx rfl (hb hby own_d_method_3_code_44) rfl k) ?_
            show own_Gl p e below _ (s₁.setTop (mkF m 45 #[.val (.int p1)] [(.int p1)]))
            refine own_st (fun t k => XS.iconst X0.here hx rfl (hb hby own_d_method_3_code_45) k) ?_
            show own_Gl p e below _ (s₁.setTop (mkF m 46 #[.val (.int p1)] [(.int (5 : Int32)), (.int p1)]))
            by_cases hc46_11 : p1 = (5 : Int32)
            ·
              show own_Gl p e below _ (s₁.setTop (mkF m 46 #[.val (.int p1)] [(.int (5 : Int32)), (.int p1)]))
              refine own_st (fun t k => XS.icmpNo X0.here hx rfl (hb hby own_d_method_3_code_46) rfl (teq (hc46_11)).2 k) ?_
              show own_Gl p e below _ (s₁.setTop (mkF m 49 #[.val (.int p1)] []))
              obtain ⟨T12, X12, e12, st12⟩ := getS2 X0 hx hZ hown (host := "") (Or.inl (hw _ (List.mem_of_getElem? (i := 28) rfl))) Via.refl e0 S_ad5 (g := (mkF m 49 #[.val (.int p1)] [])) rfl (hb hby own_d_method_3_code_49)
              refine own_st st12 ?_
              show own_Gl p e below _ (T12.setTop (mkF m 52 #[.val (.int p1)] [(.ref ad5)]))
              exact own_retA X12 hx Bd.notSynchronized Bd.returns rfl rfl (hb hby own_d_method_3_code_52) (by decide) (by decide) e12 (⟨⟨_, rfl, by simpa [own_codes, eq_false hc1_1, eq_false hc10_3, eq_false hc19_5, eq_false hc28_7, eq_false hc37_9, eq_true hc46_11] using P_ad5⟩, N0, rfl⟩)
            ·
              show own_Gl p e below _ (s₁.setTop (mkF m 46 #[.val (.int p1)] [(.int (5 : Int32)), (.int p1)]))
              refine own_st (fun t k => XS.icmpYes X0.here hx rfl (pc0 := 46) (pc' := 53) rfl (hb hby own_d_method_3_code_46) rfl (feq (hc46_11)).2 (by decide) (by decide) k) ?_
              show own_Gl p e below _ (s₁.setTop (mkF m 53 #[.val (.int p1)] []))
              refine own_st (fun t k => XS.iloadN X0.here hx rfl (hb hby own_d_method_3_code_53) rfl k) ?_
              show own_Gl p e below _ (s₁.setTop (mkF m 54 #[.val (.int p1)] [(.int p1)]))
              refine own_st (fun t k => XS.bipush X0.here hx rfl (hb hby own_d_method_3_code_54) k) ?_
              show own_Gl p e below _ (s₁.setTop (mkF m 56 #[.val (.int p1)] [(.int (6 : Int32)), (.int p1)]))
              by_cases hc56_13 : p1 = (6 : Int32)
              ·
                show own_Gl p e below _ (s₁.setTop (mkF m 56 #[.val (.int p1)] [(.int (6 : Int32)), (.int p1)]))
                refine own_st (fun t k => XS.icmpNo X0.here hx rfl (hb hby own_d_method_3_code_56) rfl (teq (hc56_13)).2 k) ?_
                show own_Gl p e below _ (s₁.setTop (mkF m 59 #[.val (.int p1)] []))
                obtain ⟨T14, X14, e14, st14⟩ := getS2 X0 hx hZ hown (host := "") (Or.inl (hw _ (List.mem_of_getElem? (i := 30) rfl))) Via.refl e0 S_ad6 (g := (mkF m 59 #[.val (.int p1)] [])) rfl (hb hby own_d_method_3_code_59)
                refine own_st st14 ?_
                show own_Gl p e below _ (T14.setTop (mkF m 62 #[.val (.int p1)] [(.ref ad6)]))
                exact own_retA X14 hx Bd.notSynchronized Bd.returns rfl rfl (hb hby own_d_method_3_code_62) (by decide) (by decide) e14 (⟨⟨_, rfl, by simpa [own_codes, eq_false hc1_1, eq_false hc10_3, eq_false hc19_5, eq_false hc28_7, eq_false hc37_9, eq_false hc46_11, eq_true hc56_13] using P_ad6⟩, N0, rfl⟩)
              ·
                show own_Gl p e below _ (s₁.setTop (mkF m 56 #[.val (.int p1)] [(.int (6 : Int32)), (.int p1)]))
                refine own_st (fun t k => XS.icmpYes X0.here hx rfl (pc0 := 56) (pc' := 63) rfl (hb hby own_d_method_3_code_56) rfl (feq (hc56_13)).2 (by decide) (by decide) k) ?_
                show own_Gl p e below _ (s₁.setTop (mkF m 63 #[.val (.int p1)] []))
                obtain ⟨T15, X15, e15, st15⟩ := getS2 X0 hx hZ hown (host := "") (Or.inl (hw _ (List.mem_of_getElem? (i := 22) rfl))) Via.refl e0 S_ad7 (g := (mkF m 63 #[.val (.int p1)] [])) rfl (hb hby own_d_method_3_code_63)
                refine own_st st15 ?_
                show own_Gl p e below _ (T15.setTop (mkF m 66 #[.val (.int p1)] [(.ref ad7)]))
                exact own_retA X15 hx Bd.notSynchronized Bd.returns rfl rfl (hb hby own_d_method_3_code_66) (by decide) (by decide) e15 (⟨⟨_, rfl, by simpa [own_codes, eq_false hc1_1, eq_false hc10_3, eq_false hc19_5, eq_false hc28_7, eq_false hc37_9, eq_false hc46_11, eq_false hc56_13] using P_ad7⟩, N0, rfl⟩)
theorem own_pn1 : plainName "com/example/bare_session/baresession/mapping/BasicType$Getter" = true := by first | (simp [plainName, overriddenIn]; done) | decide +kernel
theorem own_d_prog_5_method_4_code_0 : decode prog_5_method_4_code 0 = .ok (.iconst 0, 1) := by decide +kernel
theorem own_d_prog_5_method_4_code_1 : decode prog_5_method_4_code 1 = .ok (.istore_n 2, 1) := by decide +kernel
theorem own_d_prog_5_method_4_code_2 : decode prog_5_method_4_code 2 = .ok (.aload_n 0, 1) := by decide +kernel
theorem own_d_prog_5_method_4_code_3 : decode prog_5_method_4_code 3 = .ok (.getfield 47, 3) := by decide +kernel
theorem own_d_prog_5_method_4_code_6 : decode prog_5_method_4_code 6 = .ok (.astore_n 3, 1) := by decide +kernel
theorem own_d_prog_5_method_4_code_7 : decode prog_5_method_4_code 7 = .ok (.aload_n 3, 1) := by decide +kernel
theorem own_d_prog_5_method_4_code_8 : decode prog_5_method_4_code 8 = .ok (.arraylength, 1) := by decide +kernel
theorem own_d_prog_5_method_4_code_9 : decode prog_5_method_4_code 9 = .ok (.istore 4, 2) := by decide +kernel
theorem own_d_prog_5_method_4_code_11 : decode prog_5_method_4_code 11 = .ok (.iconst 0, 1) := by decide +kernel
theorem own_d_prog_5_method_4_code_12 : decode prog_5_method_4_code 12 = .ok (.istore 5, 2) := by decide +kernel
theorem own_d_prog_5_method_4_code_14 : decode prog_5_method_4_code 14 = .ok (.iload 5, 2) := by decide +kernel
theorem own_d_prog_5_method_4_code_16 : decode prog_5_method_4_code 16 = .ok (.iload 4, 2) := by decide +kernel
theorem own_d_prog_5_method_4_code_18 : decode prog_5_method_4_code 18 = .ok (.if_icmp .ge 29, 3) := by decide +kernel
theorem own_d_prog_5_method_4_code_21 : decode prog_5_method_4_code 21 = .ok (.aload_n 3, 1) := by decide +kernel
theorem own_d_prog_5_method_4_code_22 : decode prog_5_method_4_code 22 = .ok (.iload 5, 2) := by decide +kernel
theorem own_d_prog_5_method_4_code_24 : decode prog_5_method_4_code 24 = .ok (.iaload, 1) := by decide +kernel
theorem own_d_prog_5_method_4_code_25 : decode prog_5_method_4_code 25 = .ok (.istore 6, 2) := by decide +kernel
theorem own_d_prog_5_method_4_code_27 : decode prog_5_method_4_code 27 = .ok (.iload_n 2, 1) := by decide +kernel
theorem own_d_prog_5_method_4_code_28 : decode prog_5_method_4_code 28 = .ok (.iload 6, 2) := by decide +kernel
theorem own_d_prog_5_method_4_code_30 : decode prog_5_method_4_code 30 = .ok (.iload_n 1, 1) := by decide +kernel
theorem own_d_prog_5_method_4_code_31 : decode prog_5_method_4_code 31 = .ok (.if_icmp .ne 7, 3) := by decide +kernel
theorem own_d_prog_5_method_4_code_34 : decode prog_5_method_4_code 34 = .ok (.iconst 1, 1) := by decide +kernel
theorem own_d_prog_5_method_4_code_35 : decode prog_5_method_4_code 35 = .ok (.goto 4, 3) := by decide +kernel
theorem own_d_prog_5_method_4_code_38 : decode prog_5_method_4_code 38 = .ok (.iconst 0, 1) := by decide +kernel
theorem own_d_prog_5_method_4_code_39 : decode prog_5_method_4_code 39 = .ok (.ior, 1) := by decide +kernel
theorem own_d_prog_5_method_4_code_40 : decode prog_5_method_4_code 40 = .ok (.istore_n 2, 1) := by decide +kernel
theorem own_d_prog_5_method_4_code_41 : decode prog_5_method_4_code 41 = .ok (.iinc 5 1, 3) := by decide +kernel
theorem own_d_prog_5_method_4_code_44 : decode prog_5_method_4_code 44 = .ok (.goto (-30), 3) := by decide +kernel
theorem own_d_prog_5_method_4_code_47 : decode prog_5_method_4_code 47 = .ok (.iload_n 2, 1) := by decide +kernel
theorem own_d_prog_5_method_4_code_48 : decode prog_5_method_4_code 48 = .ok (.ireturn, 1) := by decide +kernel
theorem own_ef_rd1 (m : MethodId) (x0 : Addr) (x1 : Int32) : entryFrame m #[(.ref x0), (.int x1)] 7 = mkF m 0 #[.val (.ref x0), .val (.int x1), .unset, .unset, .unset, .unset, .unset] [] := by first | (simp [entryFrame, mkF, argsToLocals, Value.category]; done) | rfl
def own_Q_rd1 (Z : State) (r : Addr) (q : Int32) (x : Int32) (h0 : Heap) (n0 : Nat) (v : Option Value) (h : Heap) (L : List Loc) : Prop := v = some (.int (own_b (q ∈ [x]))) ∧ Fr n0 L ∧ h = h0
set_option maxRecDepth 65536 in
set_option maxHeartbeats 40000000 in
theorem own_rm_rd1 (l : Launch) (Z : State) (a0 : Array Value) (hw : ∀ d ∈ tables_1, d.before a0 Z = true) (ws : List Jvm.Cond) (r : Addr) (q : Int32) (x : Int32) (h0 : Heap) (n0 : Nat) (Z0 : n0 ≤ h0.size) (Pr : own_get Z h0 r [x]) :
    MetFree l (⟨"com/example/bare_session/baresession/mapping/BasicType$Getter", "reads", "(I)Z"⟩ : MethodName) (head1 (Jvm.Cond.code (⟨"com/example/bare_session/baresession/mapping/BasicType$Getter", "reads", "(I)Z"⟩ : MethodName) prog_5_method_4_code 7 (some .boolean) :: ws) ({ frames := 0, cells := 0, slots := 0, locals := 0 } : Room)) (fun a U => a = #[(.ref r), (.int q)] ∧ Z.Warmed39 U.vm ∧ U.heap = h0) (fun _ _ _ _ _ => True) (fun _ U o U' => ∃ v L, o = .returned v ∧ own_Q_rd1 Z r q x h0 n0 v U'.heap L ∧ FrameEnd U o U' L ({ frames := 0, cells := 0, slots := 0, locals := 0 } : Room).cells ({ frames := 0, cells := 0, slots := 0, locals := 0 } : Room).slots) := by
  refine MetFree.of_bodySF (plainFor_of_name own_pn1) hisR ?_
  intro p e s m args below meth c s₁ Bd hml0 hP hK
  obtain ⟨rfl, hZ, hh⟩ := hP
  have hx := Bd.exec
  have hby := Bd.bytes
  have hml : c.maxLocals = 7 := hml0
  have hown : s.vm.findClass "com/example/bare_session/baresession/mapping/BasicType$Getter" = some m.cls := findClass_of_methodNamed Bd.named
  have hnm := (name_of_methodNamed Bd.named Bd.method).1
  have X0 : Stand p l e ({ frames := 0, cells := 0, slots := 0, locals := 0 } : Room) s m #[(.ref r), (.int q)] below meth c s₁ [] 0 0 := Stand.of_body Bd
  have e0 : s₁.heap = h0 := by rw [← hh, Bd.state]; rfl
  have N0 := Fr.nil n0
  show own_Gl p e below (own_Post s (own_Q_rd1 Z r q x h0 n0) ({ frames := 0, cells := 0, slots := 0, locals := 0 } : Room).cells ({ frames := 0, cells := 0, slots := 0, locals := 0 } : Room).slots) _
  refine own_st (fun t k => castTop (own_ef_rd1 m r q) k) ?_
  show own_Gl p e below _ (s₁.setTop (mkF m 0 #[.val (.ref r), .val (.int q), .unset, .unset, .unset, .unset, .unset] []))
  obtain ⟨Er, b, kb, Fb, Vb⟩ := Pr
  have V_b : Arv Z h0 b kb .int (1 : Int32) [(.int x)] (.int 0) := Vb
  refine own_st (fun t k => XS.iconst X0.here hx rfl (hb hby own_d_prog_5_method_4_code_0) k) ?_
  show own_Gl p e below _ (s₁.setTop (mkF m 1 #[.val (.ref r), .val (.int q), .unset, .unset, .unset, .unset, .unset] [(.int (0 : Int32))]))
  refine own_st (fun t k => XS.istoreN X0.here hx rfl (hb hby own_d_prog_5_method_4_code_1) rfl (l' := #[.val (.ref r), .val (.int q), .val (.int (0 : Int32)), .unset, .unset, .unset, .unset]) rfl k) ?_
  show own_Gl p e below _ (s₁.setTop (mkF m 2 #[.val (.ref r), .val (.int q), .val (.int (0 : Int32)), .unset, .unset, .unset, .unset] []))
  refine own_st (fun t k => XS.aloadN X0.here hx rfl (hb hby own_d_prog_5_method_4_code_2) rfl rfl k) ?_
  show own_Gl p e below _ (s₁.setTop (mkF m 3 #[.val (.ref r), .val (.int q), .val (.int (0 : Int32)), .unset, .unset, .unset, .unset] [(.ref r)]))
  obtain ⟨T1, X1, e1, st1⟩ := getF X0 hx hZ hown (host := "") (Or.inl (hw _ (List.mem_of_getElem? (i := 12) rfl))) Via.refl e0 Fb (g := (mkF m 3 #[.val (.ref r), .val (.int q), .val (.int (0 : Int32)), .unset, .unset, .unset, .unset] [(.ref r)])) rfl rfl (hb hby own_d_prog_5_method_4_code_3)
  refine own_st st1 ?_
  show own_Gl p e below _ (T1.setTop (mkF m 6 #[.val (.ref r), .val (.int q), .val (.int (0 : Int32)), .unset, .unset, .unset, .unset] [(.ref b)]))
  refine own_st (fun t k => XS.astoreN X1.here hx rfl (hb hby own_d_prog_5_method_4_code_6) rfl rfl (l' := #[.val (.ref r), .val (.int q), .val (.int (0 : Int32)), .val (.ref b), .unset, .unset, .unset]) rfl k) ?_
  show own_Gl p e below _ (T1.setTop (mkF m 7 #[.val (.ref r), .val (.int q), .val (.int (0 : Int32)), .val (.ref b), .unset, .unset, .unset] []))
  refine own_st (fun t k => XS.aloadN X1.here hx rfl (hb hby own_d_prog_5_method_4_code_7) rfl rfl k) ?_
  show own_Gl p e below _ (T1.setTop (mkF m 8 #[.val (.ref r), .val (.int q), .val (.int (0 : Int32)), .val (.ref b), .unset, .unset, .unset] [(.ref b)]))
  obtain ⟨cl2, Ar2, qa2, Sa2, Na2, Ha2, Ga2⟩ := id V_b
  refine own_st (fun t k => X1.arraylength hx (by rw [e1]; exact Ar2.1) (State.isArrayOf_alike hZ.alike Ar2.2.1) (g := (mkF m 8 #[.val (.ref r), .val (.int q), .val (.int (0 : Int32)), .val (.ref b), .unset, .unset, .unset] [(.ref b)])) rfl rfl (hb hby own_d_prog_5_method_4_code_8) _ k) ?_
  rw [len_of Sa2 Na2]
  show own_Gl p e below _ (T1.setTop (mkF m 9 #[.val (.ref r), .val (.int q), .val (.int (0 : Int32)), .val (.ref b), .unset, .unset, .unset] [(.int (1 : Int32))]))
  refine own_st (fun t k => XS.istore X1.here hx rfl (hb hby own_d_prog_5_method_4_code_9) rfl (l' := #[.val (.ref r), .val (.int q), .val (.int (0 : Int32)), .val (.ref b), .val (.int (1 : Int32)), .unset, .unset]) rfl k) ?_
  show own_Gl p e below _ (T1.setTop (mkF m 11 #[.val (.ref r), .val (.int q), .val (.int (0 : Int32)), .val (.ref b), .val (.int (1 : Int32)), .unset, .unset] []))
  refine own_st (fun t k => XS.iconst X1.here hx rfl (hb hby own_d_prog_5_method_4_code_11) k) ?_
  show own_Gl p e below _ (T1.setTop (mkF m 12 #[.val (.ref r), .val (.int q), .val (.int (0 : Int32)), .val (.ref b), .val (.int (1 : Int32)), .unset, .unset] [(.int (0 : Int32))]))
  refine own_st (fun t k => XS.istore X1.here hx rfl (hb hby own_d_prog_5_method_4_code_12) rfl (l' := #[.val (.ref r), .val (.int q), .val (.int (0 : Int32)), .val (.ref b), .val (.int (1 : Int32)), .val (.int (0 : Int32)), .unset]) rfl k) ?_
  show own_Gl p e below _ (T1.setTop (mkF m 14 #[.val (.ref r), .val (.int q), .val (.int (0 : Int32)), .val (.ref b), .val (.int (1 : Int32)), .val (.int (0 : Int32)), .unset] []))
  refine own_st (fun t k => XS.iload X1.here hx rfl (hb hby own_d_prog_5_method_4_code_14) rfl k) ?_
  show own_Gl p e below _ (T1.setTop (mkF m 16 #[.val (.ref r), .val (.int q), .val (.int (0 : Int32)), .val (.ref b), .val (.int (1 : Int32)), .val (.int (0 : Int32)), .unset] [(.int (0 : Int32))]))
  refine own_st (fun t k => XS.iload X1.here hx rfl (hb hby own_d_prog_5_method_4_code_16) rfl k) ?_
  show own_Gl p e below _ (T1.setTop (mkF m 18 #[.val (.ref r), .val (.int q), .val (.int (0 : Int32)), .val (.ref b), .val (.int (1 : Int32)), .val (.int (0 : Int32)), .unset] [(.int (1 : Int32)), (.int (0 : Int32))]))
  refine own_st (fun t k => XS.icmpNo X1.here hx rfl (hb hby own_d_prog_5_method_4_code_18) rfl (tlt ((by decide : (0 : Int32) < (1 : Int32)))).2.1 k) ?_
  show own_Gl p e below _ (T1.setTop (mkF m 21 #[.val (.ref r), .val (.int q), .val (.int (0 : Int32)), .val (.ref b), .val (.int (1 : Int32)), .val (.int (0 : Int32)), .unset] []))
  refine own_st (fun t k => XS.aloadN X1.here hx rfl (hb hby own_d_prog_5_method_4_code_21) rfl rfl k) ?_
  show own_Gl p e below _ (T1.setTop (mkF m 22 #[.val (.ref r), .val (.int q), .val (.int (0 : Int32)), .val (.ref b), .val (.int (1 : Int32)), .val (.int (0 : Int32)), .unset] [(.ref b)]))
  refine own_st (fun t k => XS.iload X1.here hx rfl (hb hby own_d_prog_5_method_4_code_22) rfl k) ?_
  show own_Gl p e below _ (T1.setTop (mkF m 24 #[.val (.ref r), .val (.int q), .val (.int (0 : Int32)), .val (.ref b), .val (.int (1 : Int32)), .val (.int (0 : Int32)), .unset] [(.int (0 : Int32)), (.ref b)]))
  obtain ⟨cl3, Ar3, qa3, Sa3, Na3, Ha3, Ga3⟩ := id V_b
  have hin4 : ¬ ((0 : Int32) < 0 ∨ cl3.slots.size ≤ ((0 : Int32)).toNatClampNeg) := inb_of Sa3 ⟨by decide, by decide⟩
  have hat4 : cl3.slots[((0 : Int32)).toNatClampNeg]? = some (.int x) := Has.at Ha3 hin4 rfl
  refine own_st (fun t k => X1.iaload hx (j := (0 : Int32)) (v := (.int x)) (by rw [e1]; exact Ar3.1) (State.isArrayOf_alike hZ.alike Ar3.2.1) Ar3.2.2 hin4 hat4 (g := (mkF m 24 #[.val (.ref r), .val (.int q), .val (.int (0 : Int32)), .val (.ref b), .val (.int (1 : Int32)), .val (.int (0 : Int32)), .unset] [(.int (0 : Int32)), (.ref b)])) rfl rfl (hb hby own_d_prog_5_method_4_code_24) _ k) ?_
  show own_Gl p e below _ (T1.setTop (mkF m 25 #[.val (.ref r), .val (.int q), .val (.int (0 : Int32)), .val (.ref b), .val (.int (1 : Int32)), .val (.int (0 : Int32)), .unset] [(.int x)]))
  refine own_st (fun t k => XS.istore X1.here hx rfl (hb hby own_d_prog_5_method_4_code_25) rfl (l' := #[.val (.ref r), .val (.int q), .val (.int (0 : Int32)), .val (.ref b), .val (.int (1 : Int32)), .val (.int (0 : Int32)), .val (.int x)]) rfl k) ?_
  show own_Gl p e below _ (T1.setTop (mkF m 27 #[.val (.ref r), .val (.int q), .val (.int (0 : Int32)), .val (.ref b), .val (.int (1 : Int32)), .val (.int (0 : Int32)), .val (.int x)] []))
  refine own_st (fun t k => XS.iloadN X1.here hx rfl (hb hby own_d_prog_5_method_4_code_27) rfl k) ?_
  show own_Gl p e below _ (T1.setTop (mkF m 28 #[.val (.ref r), .val (.int q), .val (.int (0 : Int32)), .val (.ref b), .val (.int (1 : Int32)), .val (.int (0 : Int32)), .val (.int x)] [(.int (0 : Int32))]))
  refine own_st (fun t k => XS.iload X1.here hx rfl (hb hby own_d_prog_5_method_4_code_28) rfl k) ?_
  show own_Gl p e below _ (T1.setTop (mkF m 30 #[.val (.ref r), .val (.int q), .val (.int (0 : Int32)), .val (.ref b), .val (.int (1 : Int32)), .val (.int (0 : Int32)), .val (.int x)] [(.int x), (.int (0 : Int32))]))
  refine own_st (fun t k => XS.iloadN X1.here hx rfl (hb hby own_d_prog_5_method_4_code_30) rfl k) ?_
  show own_Gl p e below _ (T1.setTop (mkF m 31 #[.val (.ref r), .val (.int q), .val (.int (0 : Int32)), .val (.ref b), .val (.int (1 : Int32)), .val (.int (0 : Int32)), .val (.int x)] [(.int q), (.int x), (.int (0 : Int32))]))
  by_cases hc31_5 : x = q
  ·
    show own_Gl p e below _ (T1.setTop (mkF m 31 #[.val (.ref r), .val (.int q), .val (.int (0 : Int32)), .val (.ref b), .val (.int (1 : Int32)), .val (.int (0 : Int32)), .val (.int x)] [(.int q), (.int x), (.int (0 : Int32))]))
    refine own_st (fun t k => XS.icmpNo X1.here hx rfl (hb hby own_d_prog_5_method_4_code_31) rfl (teq (hc31_5)).2 k) ?_
    show own_Gl p e below _ (T1.setTop (mkF m 34 #[.val (.ref r), .val (.int q), .val (.int (0 : Int32)), .val (.ref b), .val (.int (1 : Int32)), .val (.int (0 : Int32)), .val (.int x)] [(.int (0 : Int32))]))
    refine own_st (fun t k => XS.iconst X1.here hx rfl (hb hby own_d_prog_5_method_4_code_34) k) ?_
    show own_Gl p e below _ (T1.setTop (mkF m 35 #[.val (.ref r), .val (.int q), .val (.int (0 : Int32)), .val (.ref b), .val (.int (1 : Int32)), .val (.int (0 : Int32)), .val (.int x)] [(.int (1 : Int32)), (.int (0 : Int32))]))
    refine own_st (fun t k => XS.goto X1.here hx rfl (pc0 := 35) (pc' := 39) rfl (hb hby own_d_prog_5_method_4_code_35) (by decide) (by decide) k) ?_
    show own_Gl p e below _ (T1.setTop (mkF m 39 #[.val (.ref r), .val (.int q), .val (.int (0 : Int32)), .val (.ref b), .val (.int (1 : Int32)), .val (.int (0 : Int32)), .val (.int x)] [(.int (1 : Int32)), (.int (0 : Int32))]))
    refine own_st (fun t k => XS.ior X1.here hx rfl (hb hby own_d_prog_5_method_4_code_39) rfl k) ?_
    show own_Gl p e below _ (T1.setTop (mkF m 40 #[.val (.ref r), .val (.int q), .val (.int (0 : Int32)), .val (.ref b), .val (.int (1 : Int32)), .val (.int (0 : Int32)), .val (.int x)] [(.int ((0 : Int32) ||| (1 : Int32)))]))
    refine own_st (fun t k => XS.istoreN X1.here hx rfl (hb hby own_d_prog_5_method_4_code_40) rfl (l' := #[.val (.ref r), .val (.int q), .val (.int ((0 : Int32) ||| (1 : Int32))), .val (.ref b), .val (.int (1 : Int32)), .val (.int (0 : Int32)), .val (.int x)]) rfl k) ?_
    show own_Gl p e below _ (T1.setTop (mkF m 41 #[.val (.ref r), .val (.int q), .val (.int ((0 : Int32) ||| (1 : Int32))), .val (.ref b), .val (.int (1 : Int32)), .val (.int (0 : Int32)), .val (.int x)] []))
    refine own_st (fun t k => XS.iinc X1.here hx rfl (hb hby own_d_prog_5_method_4_code_41) rfl (l' := #[.val (.ref r), .val (.int q), .val (.int ((0 : Int32) ||| (1 : Int32))), .val (.ref b), .val (.int (1 : Int32)), .val (.int (1 : Int32)), .val (.int x)]) rfl k) ?_
    show own_Gl p e below _ (T1.setTop (mkF m 44 #[.val (.ref r), .val (.int q), .val (.int ((0 : Int32) ||| (1 : Int32))), .val (.ref b), .val (.int (1 : Int32)), .val (.int (1 : Int32)), .val (.int x)] []))
    refine own_st (fun t k => XS.goto X1.here hx rfl (pc0 := 44) (pc' := 14) rfl (hb hby own_d_prog_5_method_4_code_44) (by decide) (by decide) k) ?_
    show own_Gl p e below _ (T1.setTop (mkF m 14 #[.val (.ref r), .val (.int q), .val (.int ((0 : Int32) ||| (1 : Int32))), .val (.ref b), .val (.int (1 : Int32)), .val (.int (1 : Int32)), .val (.int x)] []))
    refine own_st (fun t k => XS.iload X1.here hx rfl (hb hby own_d_prog_5_method_4_code_14) rfl k) ?_
    show own_Gl p e below _ (T1.setTop (mkF m 16 #[.val (.ref r), .val (.int q), .val (.int ((0 : Int32) ||| (1 : Int32))), .val (.ref b), .val (.int (1 : Int32)), .val (.int (1 : Int32)), .val (.int x)] [(.int (1 : Int32))]))
    refine own_st (fun t k => XS.iload X1.here hx rfl (hb hby own_d_prog_5_method_4_code_16) rfl k) ?_
    show own_Gl p e below _ (T1.setTop (mkF m 18 #[.val (.ref r), .val (.int q), .val (.int ((0 : Int32) ||| (1 : Int32))), .val (.ref b), .val (.int (1 : Int32)), .val (.int (1 : Int32)), .val (.int x)] [(.int (1 : Int32)), (.int (1 : Int32))]))
    refine own_st (fun t k => XS.icmpYes X1.here hx rfl (pc0 := 18) (pc' := 47) rfl (hb hby own_d_prog_5_method_4_code_18) rfl (flt ((by decide : ¬ ((1 : Int32) < (1 : Int32))))).2.1 (by decide) (by decide) k) ?_
    show own_Gl p e below _ (T1.setTop (mkF m 47 #[.val (.ref r), .val (.int q), .val (.int ((0 : Int32) ||| (1 : Int32))), .val (.ref b), .val (.int (1 : Int32)), .val (.int (1 : Int32)), .val (.int x)] []))
    refine own_st (fun t k => XS.iloadN X1.here hx rfl (hb hby own_d_prog_5_method_4_code_47) rfl k) ?_
    show own_Gl p e below _ (T1.setTop (mkF m 48 #[.val (.ref r), .val (.int q), .val (.int ((0 : Int32) ||| (1 : Int32))), .val (.ref b), .val (.int (1 : Int32)), .val (.int (1 : Int32)), .val (.int x)] [(.int ((0 : Int32) ||| (1 : Int32)))]))
    exact own_retN X1 hx Bd.notSynchronized (t := .boolean) Bd.returns (by simp) (hb hby own_d_prog_5_method_4_code_48) (by decide) (by decide) e1 (⟨by simp [own_b, eq_comm (a := q), eq_true hc31_5] <;> first | rfl | decide, N0, rfl⟩)
  ·
    show own_Gl p e below _ (T1.setTop (mkF m 31 #[.val (.ref r), .val (.int q), .val (.int (0 : Int32)), .val (.ref b), .val (.int (1 : Int32)), .val (.int (0 : Int32)), .val (.int x)] [(.int q), (.int x), (.int (0 : Int32))]))
    refine own_st (fun t k => XS.icmpYes X1.here hx rfl (pc0 := 31) (pc' := 38) rfl (hb hby own_d_prog_5_method_4_code_31) rfl (feq (hc31_5)).2 (by decide) (by decide) k) ?_
    show own_Gl p e below _ (T1.setTop (mkF m 38 #[.val (.ref r), .val (.int q), .val (.int (0 : Int32)), .val (.ref b), .val (.int (1 : Int32)), .val (.int (0 : Int32)), .val (.int x)] [(.int (0 : Int32))]))
    refine own_st (fun t k => XS.iconst X1.here hx rfl (hb hby own_d_prog_5_method_4_code_38) k) ?_
    show own_Gl p e below _ (T1.setTop (mkF m 39 #[.val (.ref r), .val (.int q), .val (.int (0 : Int32)), .val (.ref b), .val (.int (1 : Int32)), .val (.int (0 : Int32)), .val (.int x)] [(.int (0 : Int32)), (.int (0 : Int32))]))
    refine own_st (fun t k => XS.ior X1.here hx rfl (hb hby own_d_prog_5_method_4_code_39) rfl k) ?_
    show own_Gl p e below _ (T1.setTop (mkF m 40 #[.val (.ref r), .val (.int q), .val (.int (0 : Int32)), .val (.ref b), .val (.int (1 : Int32)), .val (.int (0 : Int32)), .val (.int x)] [(.int ((0 : Int32) ||| (0 : Int32)))]))
    refine own_st (fun t k => XS.istoreN X1.here hx rfl (hb hby own_d_prog_5_method_4_code_40) rfl (l' := #[.val (.ref r), .val (.int q), .val (.int ((0 : Int32) ||| (0 : Int32))), .val (.ref b), .val (.int (1 : Int32)), .val (.int (0 : Int32)), .val (.int x)]) rfl k) ?_
    show own_Gl p e below _ (T1.setTop (mkF m 41 #[.val (.ref r), .val (.int q), .val (.int ((0 : Int32) ||| (0 : Int32))), .val (.ref b), .val (.int (1 : Int32)), .val (.int (0 : Int32)), .val (.int x)] []))
    refine own_st (fun t k => XS.iinc X1.here hx rfl (hb hby own_d_prog_5_method_4_code_41) rfl (l' := #[.val (.ref r), .val (.int q), .val (.int ((0 : Int32) ||| (0 : Int32))), .val (.ref b), .val (.int (1 : Int32)), .val (.int (1 : Int32)), .val (.int x)]) rfl k) ?_
    show own_Gl p e below _ (T1.setTop (mkF m 44 #[.val (.ref r), .val (.int q), .val (.int ((0 : Int32) ||| (0 : Int32))), .val (.ref b), .val (.int (1 : Int32)), .val (.int (1 : Int32)), .val (.int x)] []))
    refine own_st (fun t k => XS.goto X1.here hx rfl (pc0 := 44) (pc' := 14) rfl (hb hby own_d_prog_5_method_4_code_44) (by decide) (by decide) k) ?_
    show own_Gl p e below _ (T1.setTop (mkF m 14 #[.val (.ref r), .val (.int q), .val (.int ((0 : Int32) ||| (0 : Int32))), .val (.ref b), .val (.int (1 : Int32)), .val (.int (1 : Int32)), .val (.int x)] []))
    refine own_st (fun t k => XS.iload X1.here hx rfl (hb hby own_d_prog_5_method_4_code_14) rfl k) ?_
    show own_Gl p e below _ (T1.setTop (mkF m 16 #[.val (.ref r), .val (.int q), .val (.int ((0 : Int32) ||| (0 : Int32))), .val (.ref b), .val (.int (1 : Int32)), .val (.int (1 : Int32)), .val (.int x)] [(.int (1 : Int32))]))
    refine own_st (fun t k => XS.iload X1.here hx rfl (hb hby own_d_prog_5_method_4_code_16) rfl k) ?_
    show own_Gl p e below _ (T1.setTop (mkF m 18 #[.val (.ref r), .val (.int q), .val (.int ((0 : Int32) ||| (0 : Int32))), .val (.ref b), .val (.int (1 : Int32)), .val (.int (1 : Int32)), .val (.int x)] [(.int (1 : Int32)), (.int (1 : Int32))]))
    refine own_st (fun t k => XS.icmpYes X1.here hx rfl (pc0 := 18) (pc' := 47) rfl (hb hby own_d_prog_5_method_4_code_18) rfl (flt ((by decide : ¬ ((1 : Int32) < (1 : Int32))))).2.1 (by decide) (by decide) k) ?_
    show own_Gl p e below _ (T1.setTop (mkF m 47 #[.val (.ref r), .val (.int q), .val (.int ((0 : Int32) ||| (0 : Int32))), .val (.ref b), .val (.int (1 : Int32)), .val (.int (1 : Int32)), .val (.int x)] []))
    refine own_st (fun t k => XS.iloadN X1.here hx rfl (hb hby own_d_prog_5_method_4_code_47) rfl k) ?_
    show own_Gl p e below _ (T1.setTop (mkF m 48 #[.val (.ref r), .val (.int q), .val (.int ((0 : Int32) ||| (0 : Int32))), .val (.ref b), .val (.int (1 : Int32)), .val (.int (1 : Int32)), .val (.int x)] [(.int ((0 : Int32) ||| (0 : Int32)))]))
    exact own_retN X1 hx Bd.notSynchronized (t := .boolean) Bd.returns (by simp) (hb hby own_d_prog_5_method_4_code_48) (by decide) (by decide) e1 (⟨by simp [own_b, eq_comm (a := q), eq_false hc31_5] <;> first | rfl | decide, N0, rfl⟩)
theorem own_ef_rd2 (m : MethodId) (x0 : Addr) (x1 : Int32) : entryFrame m #[(.ref x0), (.int x1)] 7 = mkF m 0 #[.val (.ref x0), .val (.int x1), .unset, .unset, .unset, .unset, .unset] [] := by first | (simp [entryFrame, mkF, argsToLocals, Value.category]; done) | rfl
def own_Q_rd2 (Z : State) (r : Addr) (q : Int32) (x y : Int32) (h0 : Heap) (n0 : Nat) (v : Option Value) (h : Heap) (L : List Loc) : Prop := v = some (.int (own_b (q ∈ [x, y]))) ∧ Fr n0 L ∧ h = h0
set_option maxRecDepth 65536 in
set_option maxHeartbeats 40000000 in
theorem own_rm_rd2 (l : Launch) (Z : State) (a0 : Array Value) (hw : ∀ d ∈ tables_1, d.before a0 Z = true) (ws : List Jvm.Cond) (r : Addr) (q : Int32) (x y : Int32) (h0 : Heap) (n0 : Nat) (Z0 : n0 ≤ h0.size) (Pr : own_get Z h0 r [x, y]) :
    MetFree l (⟨"com/example/bare_session/baresession/mapping/BasicType$Getter", "reads", "(I)Z"⟩ : MethodName) (head1 (Jvm.Cond.code (⟨"com/example/bare_session/baresession/mapping/BasicType$Getter", "reads", "(I)Z"⟩ : MethodName) prog_5_method_4_code 7 (some .boolean) :: ws) ({ frames := 0, cells := 0, slots := 0, locals := 0 } : Room)) (fun a U => a = #[(.ref r), (.int q)] ∧ Z.Warmed39 U.vm ∧ U.heap = h0) (fun _ _ _ _ _ => True) (fun _ U o U' => ∃ v L, o = .returned v ∧ own_Q_rd2 Z r q x y h0 n0 v U'.heap L ∧ FrameEnd U o U' L ({ frames := 0, cells := 0, slots := 0, locals := 0 } : Room).cells ({ frames := 0, cells := 0, slots := 0, locals := 0 } : Room).slots) := by
  refine MetFree.of_bodySF (plainFor_of_name own_pn1) hisR ?_
  intro p e s m args below meth c s₁ Bd hml0 hP hK
  obtain ⟨rfl, hZ, hh⟩ := hP
  have hx := Bd.exec
  have hby := Bd.bytes
  have hml : c.maxLocals = 7 := hml0
  have hown : s.vm.findClass "com/example/bare_session/baresession/mapping/BasicType$Getter" = some m.cls := findClass_of_methodNamed Bd.named
  have hnm := (name_of_methodNamed Bd.named Bd.method).1
  have X0 : Stand p l e ({ frames := 0, cells := 0, slots := 0, locals := 0 } : Room) s m #[(.ref r), (.int q)] below meth c s₁ [] 0 0 := Stand.of_body Bd
  have e0 : s₁.heap = h0 := by rw [← hh, Bd.state]; rfl
  have N0 := Fr.nil n0
  show own_Gl p e below (own_Post s (own_Q_rd2 Z r q x y h0 n0) ({ frames := 0, cells := 0, slots := 0, locals := 0 } : Room).cells ({ frames := 0, cells := 0, slots := 0, locals := 0 } : Room).slots) _
  refine own_st (fun t k => castTop (own_ef_rd2 m r q) k) ?_
  show own_Gl p e below _ (s₁.setTop (mkF m 0 #[.val (.ref r), .val (.int q), .unset, .unset, .unset, .unset, .unset] []))
  obtain ⟨Er, b, kb, Fb, Vb⟩ := Pr
  have V_b : Arv Z h0 b kb .int (2 : Int32) [(.int x), (.int y)] (.int 0) := Vb
  refine own_st (fun t k => XS.iconst X0.here hx rfl (hb hby own_d_prog_5_method_4_code_0) k) ?_
  show own_Gl p e below _ (s₁.setTop (mkF m 1 #[.val (.ref r), .val (.int q), .unset, .unset, .unset, .unset, .unset] [(.int (0 : Int32))]))
  refine own_st (fun t k => XS.istoreN X0.here hx rfl (hb hby own_d_prog_5_method_4_code_1) rfl (l' := #[.val (.ref r), .val (.int q), .val (.int (0 : Int32)), .unset, .unset, .unset, .unset]) rfl k) ?_
  show own_Gl p e below _ (s₁.setTop (mkF m 2 #[.val (.ref r), .val (.int q), .val (.int (0 : Int32)), .unset, .unset, .unset, .unset] []))
  refine own_st (fun t k => XS.aloadN X0.here hx rfl (hb hby own_d_prog_5_method_4_code_2) rfl rfl k) ?_
  show own_Gl p e below _ (s₁.setTop (mkF m 3 #[.val (.ref r), .val (.int q), .val (.int (0 : Int32)), .unset, .unset, .unset, .unset] [(.ref r)]))
  obtain ⟨T1, X1, e1, st1⟩ := getF X0 hx hZ hown (host := "") (Or.inl (hw _ (List.mem_of_getElem? (i := 12) rfl))) Via.refl e0 Fb (g := (mkF m 3 #[.val (.ref r), .val (.int q), .val (.int (0 : Int32)), .unset, .unset, .unset, .unset] [(.ref r)])) rfl rfl (hb hby own_d_prog_5_method_4_code_3)
  refine own_st st1 ?_
  show own_Gl p e below _ (T1.setTop (mkF m 6 #[.val (.ref r), .val (.int q), .val (.int (0 : Int32)), .unset, .unset, .unset, .unset] [(.ref b)]))
  refine own_st (fun t k => XS.astoreN X1.here hx rfl (hb hby own_d_prog_5_method_4_code_6) rfl rfl (l' := #[.val (.ref r), .val (.int q), .val (.int (0 : Int32)), .val (.ref b), .unset, .unset, .unset]) rfl k) ?_
  show own_Gl p e below _ (T1.setTop (mkF m 7 #[.val (.ref r), .val (.int q), .val (.int (0 : Int32)), .val (.ref b), .unset, .unset, .unset] []))
  refine own_st (fun t k => XS.aloadN X1.here hx rfl (hb hby own_d_prog_5_method_4_code_7) rfl rfl k) ?_
  show own_Gl p e below _ (T1.setTop (mkF m 8 #[.val (.ref r), .val (.int q), .val (.int (0 : Int32)), .val (.ref b), .unset, .unset, .unset] [(.ref b)]))
  obtain ⟨cl2, Ar2, qa2, Sa2, Na2, Ha2, Ga2⟩ := id V_b
  refine own_st (fun t k => X1.arraylength hx (by rw [e1]; exact Ar2.1) (State.isArrayOf_alike hZ.alike Ar2.2.1) (g := (mkF m 8 #[.val (.ref r), .val (.int q), .val (.int (0 : Int32)), .val (.ref b), .unset, .unset, .unset] [(.ref b)])) rfl rfl (hb hby own_d_prog_5_method_4_code_8) _ k) ?_
  rw [len_of Sa2 Na2]
  show own_Gl p e below _ (T1.setTop (mkF m 9 #[.val (.ref r), .val (.int q), .val (.int (0 : Int32)), .val (.ref b), .unset, .unset, .unset] [(.int (2 : Int32))]))
  refine own_st (fun t k => XS.istore X1.here hx rfl (hb hby own_d_prog_5_method_4_code_9) rfl (l' := #[.val (.ref r), .val (.int q), .val (.int (0 : Int32)), .val (.ref b), .val (.int (2 : Int32)), .unset, .unset]) rfl k) ?_
  show own_Gl p e below _ (T1.setTop (mkF m 11 #[.val (.ref r), .val (.int q), .val (.int (0 : Int32)), .val (.ref b), .val (.int (2 : Int32)), .unset, .unset] []))
  refine own_st (fun t k => XS.iconst X1.here hx rfl (hb hby own_d_prog_5_method_4_code_11) k) ?_
  show own_Gl p e below _ (T1.setTop (mkF m 12 #[.val (.ref r), .val (.int q), .val (.int (0 : Int32)), .val (.ref b), .val (.int (2 : Int32)), .unset, .unset] [(.int (0 : Int32))]))
  refine own_st (fun t k => XS.istore X1.here hx rfl (hb hby own_d_prog_5_method_4_code_12) rfl (l' := #[.val (.ref r), .val (.int q), .val (.int (0 : Int32)), .val (.ref b), .val (.int (2 : Int32)), .val (.int (0 : Int32)), .unset]) rfl k) ?_
  show own_Gl p e below _ (T1.setTop (mkF m 14 #[.val (.ref r), .val (.int q), .val (.int (0 : Int32)), .val (.ref b), .val (.int (2 : Int32)), .val (.int (0 : Int32)), .unset] []))
  refine own_st (fun t k => XS.iload X1.here hx rfl (hb hby own_d_prog_5_method_4_code_14) rfl k) ?_
  show own_Gl p e below _ (T1.setTop (mkF m 16 #[.val (.ref r), .val (.int q), .val (.int (0 : Int32)), .val (.ref b), .val (.int (2 : Int32)), .val (.int (0 : Int32)), .unset] [(.int (0 : Int32))]))
  refine own_st (fun t k => XS.iload X1.here hx rfl (hb hby own_d_prog_5_method_4_code_16) rfl k) ?_
  show own_Gl p e below _ (T1.setTop (mkF m 18 #[.val (.ref r), .val (.int q), .val (.int (0 : Int32)), .val (.ref b), .val (.int (2 : Int32)), .val (.int (0 : Int32)), .unset] [(.int (2 : Int32)), (.int (0 : Int32))]))
  refine own_st (fun t k => XS.icmpNo X1.here hx rfl (hb hby own_d_prog_5_method_4_code_18) rfl (tlt ((by decide : (0 : Int32) < (2 : Int32)))).2.1 k) ?_
  show own_Gl p e below _ (T1.setTop (mkF m 21 #[.val (.ref r), .val (.int q), .val (.int (0 : Int32)), .val (.ref b), .val (.int (2 : Int32)), .val (.int (0 : Int32)), .unset] []))
  refine own_st (fun t k => XS.aloadN X1.here hx rfl (hb hby own_d_prog_5_method_4_code_21) rfl rfl k) ?_
  show own_Gl p e below _ (T1.setTop (mkF m 22 #[.val (.ref r), .val (.int q), .val (.int (0 : Int32)), .val (.ref b), .val (.int (2 : Int32)), .val (.int (0 : Int32)), .unset] [(.ref b)]))
  refine own_st (fun t k => XS.iload X1.here hx rfl (hb hby own_d_prog_5_method_4_code_22) rfl k) ?_
  show own_Gl p e below _ (T1.setTop (mkF m 24 #[.val (.ref r), .val (.int q), .val (.int (0 : Int32)), .val (.ref b), .val (.int (2 : Int32)), .val (.int (0 : Int32)), .unset] [(.int (0 : Int32)), (.ref b)]))
  obtain ⟨cl3, Ar3, qa3, Sa3, Na3, Ha3, Ga3⟩ := id V_b
  have hin4 : ¬ ((0 : Int32) < 0 ∨ cl3.slots.size ≤ ((0 : Int32)).toNatClampNeg) := inb_of Sa3 ⟨by decide, by decide⟩
  have hat4 : cl3.slots[((0 : Int32)).toNatClampNeg]? = some (.int x) := Has.at Ha3 hin4 rfl
  refine own_st (fun t k => X1.iaload hx (j := (0 : Int32)) (v := (.int x)) (by rw [e1]; exact Ar3.1) (State.isArrayOf_alike hZ.alike Ar3.2.1) Ar3.2.2 hin4 hat4 (g := (mkF m 24 #[.val (.ref r), .val (.int q), .val (.int (0 : Int32)), .val (.ref b), .val (.int (2 : Int32)), .val (.int (0 : Int32)), .unset] [(.int (0 : Int32)), (.ref b)])) rfl rfl (hb hby own_d_prog_5_method_4_code_24) _ k) ?_
  show own_Gl p e below _ (T1.setTop (mkF m 25 #[.val (.ref r), .val (.int q), .val (.int (0 : Int32)), .val (.ref b), .val (.int (2 : Int32)), .val (.int (0 : Int32)), .unset] [(.int x)]))
  refine own_st (fun t k => XS.istore X1.here hx rfl (hb hby own_d_prog_5_method_4_code_25) rfl (l' := #[.val (.ref r), .val (.int q), .val (.int (0 : Int32)), .val (.ref b), .val (.int (2 : Int32)), .val (.int (0 : Int32)), .val (.int x)]) rfl k) ?_
  show own_Gl p e below _ (T1.setTop (mkF m 27 #[.val (.ref r), .val (.int q), .val (.int (0 : Int32)), .val (.ref b), .val (.int (2 : Int32)), .val (.int (0 : Int32)), .val (.int x)] []))
  refine own_st (fun t k => XS.iloadN X1.here hx rfl (hb hby own_d_prog_5_method_4_code_27) rfl k) ?_
  show own_Gl p e below _ (T1.setTop (mkF m 28 #[.val (.ref r), .val (.int q), .val (.int (0 : Int32)), .val (.ref b), .val (.int (2 : Int32)), .val (.int (0 : Int32)), .val (.int x)] [(.int (0 : Int32))]))
  refine own_st (fun t k => XS.iload X1.here hx rfl (hb hby own_d_prog_5_method_4_code_28) rfl k) ?_
  show own_Gl p e below _ (T1.setTop (mkF m 30 #[.val (.ref r), .val (.int q), .val (.int (0 : Int32)), .val (.ref b), .val (.int (2 : Int32)), .val (.int (0 : Int32)), .val (.int x)] [(.int x), (.int (0 : Int32))]))
  refine own_st (fun t k => XS.iloadN X1.here hx rfl (hb hby own_d_prog_5_method_4_code_30) rfl k) ?_
  show own_Gl p e below _ (T1.setTop (mkF m 31 #[.val (.ref r), .val (.int q), .val (.int (0 : Int32)), .val (.ref b), .val (.int (2 : Int32)), .val (.int (0 : Int32)), .val (.int x)] [(.int q), (.int x), (.int (0 : Int32))]))
  by_cases hc31_5 : x = q
  ·
    show own_Gl p e below _ (T1.setTop (mkF m 31 #[.val (.ref r), .val (.int q), .val (.int (0 : Int32)), .val (.ref b), .val (.int (2 : Int32)), .val (.int (0 : Int32)), .val (.int x)] [(.int q), (.int x), (.int (0 : Int32))]))
    refine own_st (fun t k => XS.icmpNo X1.here hx rfl (hb hby own_d_prog_5_method_4_code_31) rfl (teq (hc31_5)).2 k) ?_
    show own_Gl p e below _ (T1.setTop (mkF m 34 #[.val (.ref r), .val (.int q), .val (.int (0 : Int32)), .val (.ref b), .val (.int (2 : Int32)), .val (.int (0 : Int32)), .val (.int x)] [(.int (0 : Int32))]))
    refine own_st (fun t k => XS.iconst X1.here hx rfl (hb hby own_d_prog_5_method_4_code_34) k) ?_
    show own_Gl p e below _ (T1.setTop (mkF m 35 #[.val (.ref r), .val (.int q), .val (.int (0 : Int32)), .val (.ref b), .val (.int (2 : Int32)), .val (.int (0 : Int32)), .val (.int x)] [(.int (1 : Int32)), (.int (0 : Int32))]))
    refine own_st (fun t k => XS.goto X1.here hx rfl (pc0 := 35) (pc' := 39) rfl (hb hby own_d_prog_5_method_4_code_35) (by decide) (by decide) k) ?_
    show own_Gl p e below _ (T1.setTop (mkF m 39 #[.val (.ref r), .val (.int q), .val (.int (0 : Int32)), .val (.ref b), .val (.int (2 : Int32)), .val (.int (0 : Int32)), .val (.int x)] [(.int (1 : Int32)), (.int (0 : Int32))]))
    refine own_st (fun t k => XS.ior X1.here hx rfl (hb hby own_d_prog_5_method_4_code_39) rfl k) ?_
    show own_Gl p e below _ (T1.setTop (mkF m 40 #[.val (.ref r), .val (.int q), .val (.int (0 : Int32)), .val (.ref b), .val (.int (2 : Int32)), .val (.int (0 : Int32)), .val (.int x)] [(.int ((0 : Int32) ||| (1 : Int32)))]))
    refine own_st (fun t k => XS.istoreN X1.here hx rfl (hb hby own_d_prog_5_method_4_code_40) rfl (l' := #[.val (.ref r), .val (.int q), .val (.int ((0 : Int32) ||| (1 : Int32))), .val (.ref b), .val (.int (2 : Int32)), .val (.int (0 : Int32)), .val (.int x)]) rfl k) ?_
    show own_Gl p e below _ (T1.setTop (mkF m 41 #[.val (.ref r), .val (.int q), .val (.int ((0 : Int32) ||| (1 : Int32))), .val (.ref b), .val (.int (2 : Int32)), .val (.int (0 : Int32)), .val (.int x)] []))
    refine own_st (fun t k => XS.iinc X1.here hx rfl (hb hby own_d_prog_5_method_4_code_41) rfl (l' := #[.val (.ref r), .val (.int q), .val (.int ((0 : Int32) ||| (1 : Int32))), .val (.ref b), .val (.int (2 : Int32)), .val (.int (1 : Int32)), .val (.int x)]) rfl k) ?_
    show own_Gl p e below _ (T1.setTop (mkF m 44 #[.val (.ref r), .val (.int q), .val (.int ((0 : Int32) ||| (1 : Int32))), .val (.ref b), .val (.int (2 : Int32)), .val (.int (1 : Int32)), .val (.int x)] []))
    refine own_st (fun t k => XS.goto X1.here hx rfl (pc0 := 44) (pc' := 14) rfl (hb hby own_d_prog_5_method_4_code_44) (by decide) (by decide) k) ?_
    show own_Gl p e below _ (T1.setTop (mkF m 14 #[.val (.ref r), .val (.int q), .val (.int ((0 : Int32) ||| (1 : Int32))), .val (.ref b), .val (.int (2 : Int32)), .val (.int (1 : Int32)), .val (.int x)] []))
    refine own_st (fun t k => XS.iload X1.here hx rfl (hb hby own_d_prog_5_method_4_code_14) rfl k) ?_
    show own_Gl p e below _ (T1.setTop (mkF m 16 #[.val (.ref r), .val (.int q), .val (.int ((0 : Int32) ||| (1 : Int32))), .val (.ref b), .val (.int (2 : Int32)), .val (.int (1 : Int32)), .val (.int x)] [(.int (1 : Int32))]))
    refine own_st (fun t k => XS.iload X1.here hx rfl (hb hby own_d_prog_5_method_4_code_16) rfl k) ?_
    show own_Gl p e below _ (T1.setTop (mkF m 18 #[.val (.ref r), .val (.int q), .val (.int ((0 : Int32) ||| (1 : Int32))), .val (.ref b), .val (.int (2 : Int32)), .val (.int (1 : Int32)), .val (.int x)] [(.int (2 : Int32)), (.int (1 : Int32))]))
    refine own_st (fun t k => XS.icmpNo X1.here hx rfl (hb hby own_d_prog_5_method_4_code_18) rfl (tlt ((by decide : (1 : Int32) < (2 : Int32)))).2.1 k) ?_
    show own_Gl p e below _ (T1.setTop (mkF m 21 #[.val (.ref r), .val (.int q), .val (.int ((0 : Int32) ||| (1 : Int32))), .val (.ref b), .val (.int (2 : Int32)), .val (.int (1 : Int32)), .val (.int x)] []))
    refine own_st (fun t k => XS.aloadN X1.here hx rfl (hb hby own_d_prog_5_method_4_code_21) rfl rfl k) ?_
    show own_Gl p e below _ (T1.setTop (mkF m 22 #[.val (.ref r), .val (.int q), .val (.int ((0 : Int32) ||| (1 : Int32))), .val (.ref b), .val (.int (2 : Int32)), .val (.int (1 : Int32)), .val (.int x)] [(.ref b)]))
    refine own_st (fun t k => XS.iload X1.here hx rfl (hb hby own_d_prog_5_method_4_code_22) rfl k) ?_
    show own_Gl p e below _ (T1.setTop (mkF m 24 #[.val (.ref r), .val (.int q), .val (.int ((0 : Int32) ||| (1 : Int32))), .val (.ref b), .val (.int (2 : Int32)), .val (.int (1 : Int32)), .val (.int x)] [(.int (1 : Int32)), (.ref b)]))
    obtain ⟨cl6, Ar6, qa6, Sa6, Na6, Ha6, Ga6⟩ := id V_b
    have hin7 : ¬ ((1 : Int32) < 0 ∨ cl6.slots.size ≤ ((1 : Int32)).toNatClampNeg) := inb_of Sa6 ⟨by decide, by decide⟩
    have hat7 : cl6.slots[((1 : Int32)).toNatClampNeg]? = some (.int y) := Has.at Ha6 hin7 rfl
    refine own_st (fun t k => X1.iaload hx (j := (1 : Int32)) (v := (.int y)) (by rw [e1]; exact Ar6.1) (State.isArrayOf_alike hZ.alike Ar6.2.1) Ar6.2.2 hin7 hat7 (g := (mkF m 24 #[.val (.ref r), .val (.int q), .val (.int ((0 : Int32) ||| (1 : Int32))), .val (.ref b), .val (.int (2 : Int32)), .val (.int (1 : Int32)), .val (.int x)] [(.int (1 : Int32)), (.ref b)])) rfl rfl (hb hby own_d_prog_5_method_4_code_24) _ k) ?_
    show own_Gl p e below _ (T1.setTop (mkF m 25 #[.val (.ref r), .val (.int q), .val (.int ((0 : Int32) ||| (1 : Int32))), .val (.ref b), .val (.int (2 : Int32)), .val (.int (1 : Int32)), .val (.int x)] [(.int y)]))
    refine own_st (fun t k => XS.istore X1.here hx rfl (hb hby own_d_prog_5_method_4_code_25) rfl (l' := #[.val (.ref r), .val (.int q), .val (.int ((0 : Int32) ||| (1 : Int32))), .val (.ref b), .val (.int (2 : Int32)), .val (.int (1 : Int32)), .val (.int y)]) rfl k) ?_
    show own_Gl p e below _ (T1.setTop (mkF m 27 #[.val (.ref r), .val (.int q), .val (.int ((0 : Int32) ||| (1 : Int32))), .val (.ref b), .val (.int (2 : Int32)), .val (.int (1 : Int32)), .val (.int y)] []))
    refine own_st (fun t k => XS.iloadN X1.here hx rfl (hb hby own_d_prog_5_method_4_code_27) rfl k) ?_
    show own_Gl p e below _ (T1.setTop (mkF m 28 #[.val (.ref r), .val (.int q), .val (.int ((0 : Int32) ||| (1 : Int32))), .val (.ref b), .val (.int (2 : Int32)), .val (.int (1 : Int32)), .val (.int y)] [(.int ((0 : Int32) ||| (1 : Int32)))]))
    refine own_st (fun t k => XS.iload X1.here hx rfl (hb hby own_d_prog_5_method_4_code_28) rfl k) ?_
    show own_Gl p e below _ (T1.setTop (mkF m 30 #[.val (.ref r), .val (.int q), .val (.int ((0 : Int32) ||| (1 : Int32))), .val (.ref b), .val (.int (2 : Int32)), .val (.int (1 : Int32)), .val (.int y)] [(.int y), (.int ((0 : Int32) ||| (1 : Int32)))]))
    refine own_st (fun t k => XS.iloadN X1.here hx rfl (hb hby own_d_prog_5_method_4_code_30) rfl k) ?_
    show own_Gl p e below _ (T1.setTop (mkF m 31 #[.val (.ref r), .val (.int q), .val (.int ((0 : Int32) ||| (1 : Int32))), .val (.ref b), .val (.int (2 : Int32)), .val (.int (1 : Int32)), .val (.int y)] [(.int q), (.int y), (.int ((0 : Int32) ||| (1 : Int32)))]))
    by_cases hc31_8 : y = q
    ·
      show own_Gl p e below _ (T1.setTop (mkF m 31 #[.val (.ref r), .val (.int q), .val (.int ((0 : Int32) ||| (1 : Int32))), .val (.ref b), .val (.int (2 : Int32)), .val (.int (1 : Int32)), .val (.int y)] [(.int q), (.int y), (.int ((0 : Int32) ||| (1 : Int32)))]))
      refine own_st (fun t k => XS.icmpNo X1.here hx rfl (hb hby own_d_prog_5_method_4_code_31) rfl (teq (hc31_8)).2 k) ?_
      show own_Gl p e below _ (T1.setTop (mkF m 34 #[.val (.ref r), .val (.int q), .val (.int ((0 : Int32) ||| (1 : Int32))), .val (.ref b), .val (.int (2 : Int32)), .val (.int (1 : Int32)), .val (.int y)] [(.int ((0 : Int32) ||| (1 : Int32)))]))
      refine own_st (fun t k => XS.iconst X1.here hx rfl (hb hby own_d_prog_5_method_4_code_34) k) ?_
      show own_Gl p e below _ (T1.setTop (mkF m 35 #[.val (.ref r), .val (.int q), .val (.int ((0 : Int32) ||| (1 : Int32))), .val (.ref b), .val (.int (2 : Int32)), .val (.int (1 : Int32)), .val (.int y)] [(.int (1 : Int32)), (.int ((0 : Int32) ||| (1 : Int32)))]))
      refine own_st (fun t k => XS.goto X1.here hx rfl (pc0 := 35) (pc' := 39) rfl (hb hby own_d_prog_5_method_4_code_35) (by decide) (by decide) k) ?_
      show own_Gl p e below _ (T1.setTop (mkF m 39 #[.val (.ref r), .val (.int q), .val (.int ((0 : Int32) ||| (1 : Int32))), .val (.ref b), .val (.int (2 : Int32)), .val (.int (1 : Int32)), .val (.int y)] [(.int (1 : Int32)), (.int ((0 : Int32) ||| (1 : Int32)))]))
      refine own_st (fun t k => XS.ior X1.here hx rfl (hb hby own_d_prog_5_method_4_code_39) rfl k) ?_
      show own_Gl p e below _ (T1.setTop (mkF m 40 #[.val (.ref r), .val (.int q), .val (.int ((0 : Int32) ||| (1 : Int32))), .val (.ref b), .val (.int (2 : Int32)), .val (.int (1 : Int32)), .val (.int y)] [(.int (((0 : Int32) ||| (1 : Int32)) ||| (1 : Int32)))]))
      refine own_st (fun t k => XS.istoreN X1.here hx rfl (hb hby own_d_prog_5_method_4_code_40) rfl (l' := #[.val (.ref r), .val (.int q), .val (.int (((0 : Int32) ||| (1 : Int32)) ||| (1 : Int32))), .val (.ref b), .val (.int (2 : Int32)), .val (.int (1 : Int32)), .val (.int y)]) rfl k) ?_
      show own_Gl p e below _ (T1.setTop (mkF m 41 #[.val (.ref r), .val (.int q), .val (.int (((0 : Int32) ||| (1 : Int32)) ||| (1 : Int32))), .val (.ref b), .val (.int (2 : Int32)), .val (.int (1 : Int32)), .val (.int y)] []))
      refine own_st (fun t k => XS.iinc X1.here hx rfl (hb hby own_d_prog_5_method_4_code_41) rfl (l' := #[.val (.ref r), .val (.int q), .val (.int (((0 : Int32) ||| (1 : Int32)) ||| (1 : Int32))), .val (.ref b), .val (.int (2 : Int32)), .val (.int (2 : Int32)), .val (.int y)]) rfl k) ?_
      show own_Gl p e below _ (T1.setTop (mkF m 44 #[.val (.ref r), .val (.int q), .val (.int (((0 : Int32) ||| (1 : Int32)) ||| (1 : Int32))), .val (.ref b), .val (.int (2 : Int32)), .val (.int (2 : Int32)), .val (.int y)] []))
      refine own_st (fun t k => XS.goto X1.here hx rfl (pc0 := 44) (pc' := 14) rfl (hb hby own_d_prog_5_method_4_code_44) (by decide) (by decide) k) ?_
      show own_Gl p e below _ (T1.setTop (mkF m 14 #[.val (.ref r), .val (.int q), .val (.int (((0 : Int32) ||| (1 : Int32)) ||| (1 : Int32))), .val (.ref b), .val (.int (2 : Int32)), .val (.int (2 : Int32)), .val (.int y)] []))
      refine own_st (fun t k => XS.iload X1.here hx rfl (hb hby own_d_prog_5_method_4_code_14) rfl k) ?_
      show own_Gl p e below _ (T1.setTop (mkF m 16 #[.val (.ref r), .val (.int q), .val (.int (((0 : Int32) ||| (1 : Int32)) ||| (1 : Int32))), .val (.ref b), .val (.int (2 : Int32)), .val (.int (2 : Int32)), .val (.int y)] [(.int (2 : Int32))]))
      refine own_st (fun t k => XS.iload X1.here hx rfl (hb hby own_d_prog_5_method_4_code_16) rfl k) ?_
      show own_Gl p e below _ (T1.setTop (mkF m 18 #[.val (.ref r), .val (.int q), .val (.int (((0 : Int32) ||| (1 : Int32)) ||| (1 : Int32))), .val (.ref b), .val (.int (2 : Int32)), .val (.int (2 : Int32)), .val (.int y)] [(.int (2 : Int32)), (.int (2 : Int32))]))
      refine own_st (fun t k => XS.icmpYes X1.here hx rfl (pc0 := 18) (pc' := 47) rfl (hb hby own_d_prog_5_method_4_code_18) rfl (flt ((by decide : ¬ ((2 : Int32) < (2 : Int32))))).2.1 (by decide) (by decide) k) ?_
      show own_Gl p e below _ (T1.setTop (mkF m 47 #[.val (.ref r), .val (.int q), .val (.int (((0 : Int32) ||| (1 : Int32)) ||| (1 : Int32))), .val (.ref b), .val (.int (2 : Int32)), .val (.int (2 : Int32)), .val (.int y)] []))
      refine own_st (fun t k => XS.iloadN X1.here hx rfl (hb hby own_d_prog_5_method_4_code_47) rfl k) ?_
      show own_Gl p e below _ (T1.setTop (mkF m 48 #[.val (.ref r), .val (.int q), .val (.int (((0 : Int32) ||| (1 : Int32)) ||| (1 : Int32))), .val (.ref b), .val (.int (2 : Int32)), .val (.int (2 : Int32)), .val (.int y)] [(.int (((0 : Int32) ||| (1 : Int32)) ||| (1 : Int32)))]))
      exact own_retN X1 hx Bd.notSynchronized (t := .boolean) Bd.returns (by simp) (hb hby own_d_prog_5_method_4_code_48) (by decide) (by decide) e1 (⟨by simp [own_b, eq_comm (a := q), eq_true hc31_5, eq_true hc31_8] <;> first | rfl | decide, N0, rfl⟩)
    ·
      show own_Gl p e below _ (T1.setTop (mkF m 31 #[.val (.ref r), .val (.int q), .val (.int ((0 : Int32) ||| (1 : Int32))), .val (.ref b), .val (.int (2 : Int32)), .val (.int (1 : Int32)), .val (.int y)] [(.int q), (.int y), (.int ((0 : Int32) ||| (1 : Int32)))]))
      refine own_st (fun t k => XS.icmpYes X1.here hx rfl (pc0 := 31) (pc' := 38) rfl (hb hby own_d_prog_5_method_4_code_31) rfl (feq (hc31_8)).2 (by decide) (by decide) k) ?_
      show own_Gl p e below _ (T1.setTop (mkF m 38 #[.val (.ref r), .val (.int q), .val (.int ((0 : Int32) ||| (1 : Int32))), .val (.ref b), .val (.int (2 : Int32)), .val (.int (1 : Int32)), .val (.int y)] [(.int ((0 : Int32) ||| (1 : Int32)))]))
      refine own_st (fun t k => XS.iconst X1.here hx rfl (hb hby own_d_prog_5_method_4_code_38) k) ?_
      show own_Gl p e below _ (T1.setTop (mkF m 39 #[.val (.ref r), .val (.int q), .val (.int ((0 : Int32) ||| (1 : Int32))), .val (.ref b), .val (.int (2 : Int32)), .val (.int (1 : Int32)), .val (.int y)] [(.int (0 : Int32)), (.int ((0 : Int32) ||| (1 : Int32)))]))
      refine own_st (fun t k => XS.ior X1.here hx rfl (hb hby own_d_prog_5_method_4_code_39) rfl k) ?_
      show own_Gl p e below _ (T1.setTop (mkF m 40 #[.val (.ref r), .val (.int q), .val (.int ((0 : Int32) ||| (1 : Int32))), .val (.ref b), .val (.int (2 : Int32)), .val (.int (1 : Int32)), .val (.int y)] [(.int (((0 : Int32) ||| (1 : Int32)) ||| (0 : Int32)))]))
      refine own_st (fun t k => XS.istoreN X1.here hx rfl (hb hby own_d_prog_5_method_4_code_40) rfl (l' := #[.val (.ref r), .val (.int q), .val (.int (((0 : Int32) ||| (1 : Int32)) ||| (0 : Int32))), .val (.ref b), .val (.int (2 : Int32)), .val (.int (1 : Int32)), .val (.int y)]) rfl k) ?_
      show own_Gl p e below _ (T1.setTop (mkF m 41 #[.val (.ref r), .val (.int q), .val (.int (((0 : Int32) ||| (1 : Int32)) ||| (0 : Int32))), .val (.ref b), .val (.int (2 : Int32)), .val (.int (1 : Int32)), .val (.int y)] []))
      refine own_st (fun t k => XS.iinc X1.here hx rfl (hb hby own_d_prog_5_method_4_code_41) rfl (l' := #[.val (.ref r), .val (.int q), .val (.int (((0 : Int32) ||| (1 : Int32)) ||| (0 : Int32))), .val (.ref b), .val (.int (2 : Int32)), .val (.int (2 : Int32)), .val (.int y)]) rfl k) ?_
      show own_Gl p e below _ (T1.setTop (mkF m 44 #[.val (.ref r), .val (.int q), .val (.int (((0 : Int32) ||| (1 : Int32)) ||| (0 : Int32))), .val (.ref b), .val (.int (2 : Int32)), .val (.int (2 : Int32)), .val (.int y)] []))
      refine own_st (fun t k => XS.goto X1.here hx rfl (pc0 := 44) (pc' := 14) rfl (hb hby own_d_prog_5_method_4_code_44) (by decide) (by decide) k) ?_
      show own_Gl p e below _ (T1.setTop (mkF m 14 #[.val (.ref r), .val (.int q), .val (.int (((0 : Int32) ||| (1 : Int32)) ||| (0 : Int32))), .val (.ref b), .val (.int (2 : Int32)), .val (.int (2 : Int32)), .val (.int y)] []))
      refine own_st (fun t k => XS.iload X1.here hx rfl (hb hby own_d_prog_5_method_4_code_14) rfl k) ?_
      show own_Gl p e below _ (T1.setTop (mkF m 16 #[.val (.ref r), .val (.int q), .val (.int (((0 : Int32) ||| (1 : Int32)) ||| (0 : Int32))), .val (.ref b), .val (.int (2 : Int32)), .val (.int (2 : Int32)), .val (.int y)] [(.int (2 : Int32))]))
      refine own_st (fun t k => XS.iload X1.here hx rfl (hb hby own_d_prog_5_method_4_code_16) rfl k) ?_
      show own_Gl p e below _ (T1.setTop (mkF m 18 #[.val (.ref r), .val (.int q), .val (.int (((0 : Int32) ||| (1 : Int32)) ||| (0 : Int32))), .val (.ref b), .val (.int (2 : Int32)), .val (.int (2 : Int32)), .val (.int y)] [(.int (2 : Int32)), (.int (2 : Int32))]))
      refine own_st (fun t k => XS.icmpYes X1.here hx rfl (pc0 := 18) (pc' := 47) rfl (hb hby own_d_prog_5_method_4_code_18) rfl (flt ((by decide : ¬ ((2 : Int32) < (2 : Int32))))).2.1 (by decide) (by decide) k) ?_
      show own_Gl p e below _ (T1.setTop (mkF m 47 #[.val (.ref r), .val (.int q), .val (.int (((0 : Int32) ||| (1 : Int32)) ||| (0 : Int32))), .val (.ref b), .val (.int (2 : Int32)), .val (.int (2 : Int32)), .val (.int y)] []))
      refine own_st (fun t k => XS.iloadN X1.here hx rfl (hb hby own_d_prog_5_method_4_code_47) rfl k) ?_
      show own_Gl p e below _ (T1.setTop (mkF m 48 #[.val (.ref r), .val (.int q), .val (.int (((0 : Int32) ||| (1 : Int32)) ||| (0 : Int32))), .val (.ref b), .val (.int (2 : Int32)), .val (.int (2 : Int32)), .val (.int y)] [(.int (((0 : Int32) ||| (1 : Int32)) ||| (0 : Int32)))]))
      exact own_retN X1 hx Bd.notSynchronized (t := .boolean) Bd.returns (by simp) (hb hby own_d_prog_5_method_4_code_48) (by decide) (by decide) e1 (⟨by simp [own_b, eq_comm (a := q), eq_true hc31_5, eq_false hc31_8] <;> first | rfl | decide, N0, rfl⟩)
  ·
    show own_Gl p e below _ (T1.setTop (mkF m 31 #[.val (.ref r), .val (.int q), .val (.int (0 : Int32)), .val (.ref b), .val (.int (2 : Int32)), .val (.int (0 : Int32)), .val (.int x)] [(.int q), (.int x), (.int (0 : Int32))]))
    refine own_st (fun t k => XS.icmpYes X1.here hx rfl (pc0 := 31) (pc' := 38) rfl (hb hby own_d_prog_5_method_4_code_31) rfl (feq (hc31_5)).2 (by decide) (by decide) k) ?_
    show own_Gl p e below _ (T1.setTop (mkF m 38 #[.val (.ref r), .val (.int q), .val (.int (0 : Int32)), .val (.ref b), .val (.int (2 : Int32)), .val (.int (0 : Int32)), .val (.int x)] [(.int (0 : Int32))]))
    refine own_st (fun t k => XS.iconst X1.here hx rfl (hb hby own_d_prog_5_method_4_code_38) k) ?_
    show own_Gl p e below _ (T1.setTop (mkF m 39 #[.val (.ref r), .val (.int q), .val (.int (0 : Int32)), .val (.ref b), .val (.int (2 : Int32)), .val (.int (0 : Int32)), .val (.int x)] [(.int (0 : Int32)), (.int (0 : Int32))]))
    refine own_st (fun t k => XS.ior X1.here hx rfl (hb hby own_d_prog_5_method_4_code_39) rfl k) ?_
    show own_Gl p e below _ (T1.setTop (mkF m 40 #[.val (.ref r), .val (.int q), .val (.int (0 : Int32)), .val (.ref b), .val (.int (2 : Int32)), .val (.int (0 : Int32)), .val (.int x)] [(.int ((0 : Int32) ||| (0 : Int32)))]))
    refine own_st (fun t k => XS.istoreN X1.here hx rfl (hb hby own_d_prog_5_method_4_code_40) rfl (l' := #[.val (.ref r), .val (.int q), .val (.int ((0 : Int32) ||| (0 : Int32))), .val (.ref b), .val (.int (2 : Int32)), .val (.int (0 : Int32)), .val (.int x)]) rfl k) ?_
    show own_Gl p e below _ (T1.setTop (mkF m 41 #[.val (.ref r), .val (.int q), .val (.int ((0 : Int32) ||| (0 : Int32))), .val (.ref b), .val (.int (2 : Int32)), .val (.int (0 : Int32)), .val (.int x)] []))
    refine own_st (fun t k => XS.iinc X1.here hx rfl (hb hby own_d_prog_5_method_4_code_41) rfl (l' := #[.val (.ref r), .val (.int q), .val (.int ((0 : Int32) ||| (0 : Int32))), .val (.ref b), .val (.int (2 : Int32)), .val (.int (1 : Int32)), .val (.int x)]) rfl k) ?_
    show own_Gl p e below _ (T1.setTop (mkF m 44 #[.val (.ref r), .val (.int q), .val (.int ((0 : Int32) ||| (0 : Int32))), .val (.ref b), .val (.int (2 : Int32)), .val (.int (1 : Int32)), .val (.int x)] []))
    refine own_st (fun t k => XS.goto X1.here hx rfl (pc0 := 44) (pc' := 14) rfl (hb hby own_d_prog_5_method_4_code_44) (by decide) (by decide) k) ?_
    show own_Gl p e below _ (T1.setTop (mkF m 14 #[.val (.ref r), .val (.int q), .val (.int ((0 : Int32) ||| (0 : Int32))), .val (.ref b), .val (.int (2 : Int32)), .val (.int (1 : Int32)), .val (.int x)] []))
    refine own_st (fun t k => XS.iload X1.here hx rfl (hb hby own_d_prog_5_method_4_code_14) rfl k) ?_
    show own_Gl p e below _ (T1.setTop (mkF m 16 #[.val (.ref r), .val (.int q), .val (.int ((0 : Int32) ||| (0 : Int32))), .val (.ref b), .val (.int (2 : Int32)), .val (.int (1 : Int32)), .val (.int x)] [(.int (1 : Int32))]))
    refine own_st (fun t k => XS.iload X1.here hx rfl (hb hby own_d_prog_5_method_4_code_16) rfl k) ?_
    show own_Gl p e below _ (T1.setTop (mkF m 18 #[.val (.ref r), .val (.int q), .val (.int ((0 : Int32) ||| (0 : Int32))), .val (.ref b), .val (.int (2 : Int32)), .val (.int (1 : Int32)), .val (.int x)] [(.int (2 : Int32)), (.int (1 : Int32))]))
    refine own_st (fun t k => XS.icmpNo X1.here hx rfl (hb hby own_d_prog_5_method_4_code_18) rfl (tlt ((by decide : (1 : Int32) < (2 : Int32)))).2.1 k) ?_
    show own_Gl p e below _ (T1.setTop (mkF m 21 #[.val (.ref r), .val (.int q), .val (.int ((0 : Int32) ||| (0 : Int32))), .val (.ref b), .val (.int (2 : Int32)), .val (.int (1 : Int32)), .val (.int x)] []))
    refine own_st (fun t k => XS.aloadN X1.here hx rfl (hb hby own_d_prog_5_method_4_code_21) rfl rfl k) ?_
    show own_Gl p e below _ (T1.setTop (mkF m 22 #[.val (.ref r), .val (.int q), .val (.int ((0 : Int32) ||| (0 : Int32))), .val (.ref b), .val (.int (2 : Int32)), .val (.int (1 : Int32)), .val (.int x)] [(.ref b)]))
    refine own_st (fun t k => XS.iload X1.here hx rfl (hb hby own_d_prog_5_method_4_code_22) rfl k) ?_
    show own_Gl p e below _ (T1.setTop (mkF m 24 #[.val (.ref r), .val (.int q), .val (.int ((0 : Int32) ||| (0 : Int32))), .val (.ref b), .val (.int (2 : Int32)), .val (.int (1 : Int32)), .val (.int x)] [(.int (1 : Int32)), (.ref b)]))
    obtain ⟨cl9, Ar9, qa9, Sa9, Na9, Ha9, Ga9⟩ := id V_b
    have hin10 : ¬ ((1 : Int32) < 0 ∨ cl9.slots.size ≤ ((1 : Int32)).toNatClampNeg) := inb_of Sa9 ⟨by decide, by decide⟩
    have hat10 : cl9.slots[((1 : Int32)).toNatClampNeg]? = some (.int y) := Has.at Ha9 hin10 rfl
    refine own_st (fun t k => X1.iaload hx (j := (1 : Int32)) (v := (.int y)) (by rw [e1]; exact Ar9.1) (State.isArrayOf_alike hZ.alike Ar9.2.1) Ar9.2.2 hin10 hat10 (g := (mkF m 24 #[.val (.ref r), .val (.int q), .val (.int ((0 : Int32) ||| (0 : Int32))), .val (.ref b), .val (.int (2 : Int32)), .val (.int (1 : Int32)), .val (.int x)] [(.int (1 : Int32)), (.ref b)])) rfl rfl (hb hby own_d_prog_5_method_4_code_24) _ k) ?_
    show own_Gl p e below _ (T1.setTop (mkF m 25 #[.val (.ref r), .val (.int q), .val (.int ((0 : Int32) ||| (0 : Int32))), .val (.ref b), .val (.int (2 : Int32)), .val (.int (1 : Int32)), .val (.int x)] [(.int y)]))
    refine own_st (fun t k => XS.istore X1.here hx rfl (hb hby own_d_prog_5_method_4_code_25) rfl (l' := #[.val (.ref r), .val (.int q), .val (.int ((0 : Int32) ||| (0 : Int32))), .val (.ref b), .val (.int (2 : Int32)), .val (.int (1 : Int32)), .val (.int y)]) rfl k) ?_
    show own_Gl p e below _ (T1.setTop (mkF m 27 #[.val (.ref r), .val (.int q), .val (.int ((0 : Int32) ||| (0 : Int32))), .val (.ref b), .val (.int (2 : Int32)), .val (.int (1 : Int32)), .val (.int y)] []))
    refine own_st (fun t k => XS.iloadN X1.here hx rfl (hb hby own_d_prog_5_method_4_code_27) rfl k) ?_
    show own_Gl p e below _ (T1.setTop (mkF m 28 #[.val (.ref r), .val (.int q), .val (.int ((0 : Int32) ||| (0 : Int32))), .val (.ref b), .val (.int (2 : Int32)), .val (.int (1 : Int32)), .val (.int y)] [(.int ((0 : Int32) ||| (0 : Int32)))]))
    refine own_st (fun t k => XS.iload X1.here hx rfl (hb hby own_d_prog_5_method_4_code_28) rfl k) ?_
    show own_Gl p e below _ (T1.setTop (mkF m 30 #[.val (.ref r), .val (.int q), .val (.int ((0 : Int32) ||| (0 : Int32))), .val (.ref b), .val (.int (2 : Int32)), .val (.int (1 : Int32)), .val (.int y)] [(.int y), (.int ((0 : Int32) ||| (0 : Int32)))]))
    refine own_st (fun t k => XS.iloadN X1.here hx rfl (hb hby own_d_prog_5_method_4_code_30) rfl k) ?_
    show own_Gl p e below _ (T1.setTop (mkF m 31 #[.val (.ref r), .val (.int q), .val (.int ((0 : Int32) ||| (0 : Int32))), .val (.ref b), .val (.int (2 : Int32)), .val (.int (1 : Int32)), .val (.int y)] [(.int q), (.int y), (.int ((0 : Int32) ||| (0 : Int32)))]))
    by_cases hc31_11 : y = q
    ·
      show own_Gl p e below _ (T1.setTop (mkF m 31 #[.val (.ref r), .val (.int q), .val (.int ((0 : Int32) ||| (0 : Int32))), .val (.ref b), .val (.int (2 : Int32)), .val (.int (1 : Int32)), .val (.int y)] [(.int q), (.int y), (.int ((0 : Int32) ||| (0 : Int32)))]))
      refine own_st (fun t k => XS.icmpNo X1.here hx rfl (hb hby own_d_prog_5_method_4_code_31) rfl (teq (hc31_11)).2 k) ?_
      show own_Gl p e below _ (T1.setTop (mkF m 34 #[.val (.ref r), .val (.int q), .val (.int ((0 : Int32) ||| (0 : Int32))), .val (.ref b), .val (.int (2 : Int32)), .val (.int (1 : Int32)), .val (.int y)] [(.int ((0 : Int32) ||| (0 : Int32)))]))
      refine own_st (fun t k => XS.iconst X1.here hx rfl (hb hby own_d_prog_5_method_4_code_34) k) ?_
      show own_Gl p e below _ (T1.setTop (mkF m 35 #[.val (.ref r), .val (.int q), .val (.int ((0 : Int32) ||| (0 : Int32))), .val (.ref b), .val (.int (2 : Int32)), .val (.int (1 : Int32)), .val (.int y)] [(.int (1 : Int32)), (.int ((0 : Int32) ||| (0 : Int32)))]))
      refine own_st (fun t k => XS.goto X1.here hx rfl (pc0 := 35) (pc' := 39) rfl (hb hby own_d_prog_5_method_4_code_35) (by decide) (by decide) k) ?_
      show own_Gl p e below _ (T1.setTop (mkF m 39 #[.val (.ref r), .val (.int q), .val (.int ((0 : Int32) ||| (0 : Int32))), .val (.ref b), .val (.int (2 : Int32)), .val (.int (1 : Int32)), .val (.int y)] [(.int (1 : Int32)), (.int ((0 : Int32) ||| (0 : Int32)))]))
      refine own_st (fun t k => XS.ior X1.here hx rfl (hb hby own_d_prog_5_method_4_code_39) rfl k) ?_
      show own_Gl p e below _ (T1.setTop (mkF m 40 #[.val (.ref r), .val (.int q), .val (.int ((0 : Int32) ||| (0 : Int32))), .val (.ref b), .val (.int (2 : Int32)), .val (.int (1 : Int32)), .val (.int y)] [(.int (((0 : Int32) ||| (0 : Int32)) ||| (1 : Int32)))]))
      refine own_st (fun t k => XS.istoreN X1.here hx rfl (hb hby own_d_prog_5_method_4_code_40) rfl (l' := #[.val (.ref r), .val (.int q), .val (.int (((0 : Int32) ||| (0 : Int32)) ||| (1 : Int32))), .val (.ref b), .val (.int (2 : Int32)), .val (.int (1 : Int32)), .val (.int y)]) rfl k) ?_
      show own_Gl p e below _ (T1.setTop (mkF m 41 #[.val (.ref r), .val (.int q), .val (.int (((0 : Int32) ||| (0 : Int32)) ||| (1 : Int32))), .val (.ref b), .val (.int (2 : Int32)), .val (.int (1 : Int32)), .val (.int y)] []))
      refine own_st (fun t k => XS.iinc X1.here hx rfl (hb hby own_d_prog_5_method_4_code_41) rfl (l' := #[.val (.ref r), .val (.int q), .val (.int (((0 : Int32) ||| (0 : Int32)) ||| (1 : Int32))), .val (.ref b), .val (.int (2 : Int32)), .val (.int (2 : Int32)), .val (.int y)]) rfl k) ?_
      show own_Gl p e below _ (T1.setTop (mkF m 44 #[.val (.ref r), .val (.int q), .val (.int (((0 : Int32) ||| (0 : Int32)) ||| (1 : Int32))), .val (.ref b), .val (.int (2 : Int32)), .val (.int (2 : Int32)), .val (.int y)] []))
      refine own_st (fun t k => XS.goto X1.here hx rfl (pc0 := 44) (pc' := 14) rfl (hb hby own_d_prog_5_method_4_code_44) (by decide) (by decide) k) ?_
      show own_Gl p e below _ (T1.setTop (mkF m 14 #[.val (.ref r), .val (.int q), .val (.int (((0 : Int32) ||| (0 : Int32)) ||| (1 : Int32))), .val (.ref b), .val (.int (2 : Int32)), .val (.int (2 : Int32)), .val (.int y)] []))
      refine own_st (fun t k => XS.iload X1.here hx rfl (hb hby own_d_prog_5_method_4_code_14) rfl k) ?_
      show own_Gl p e below _ (T1.setTop (mkF m 16 #[.val (.ref r), .val (.int q), .val (.int (((0 : Int32) ||| (0 : Int32)) ||| (1 : Int32))), .val (.ref b), .val (.int (2 : Int32)), .val (.int (2 : Int32)), .val (.int y)] [(.int (2 : Int32))]))
      refine own_st (fun t k => XS.iload X1.here hx rfl (hb hby own_d_prog_5_method_4_code_16) rfl k) ?_
      show own_Gl p e below _ (T1.setTop (mkF m 18 #[.val (.ref r), .val (.int q), .val (.int (((0 : Int32) ||| (0 : Int32)) ||| (1 : Int32))), .val (.ref b), .val (.int (2 : Int32)), .val (.int (2 : Int32)), .val (.int y)] [(.int (2 : Int32)), (.int (2 : Int32))]))
      refine own_st (fun t k => XS.icmpYes X1.here hx rfl (pc0 := 18) (pc' := 47) rfl (hb hby own_d_prog_5_method_4_code_18) rfl (flt ((by decide : ¬ ((2 : Int32) < (2 : Int32))))).2.1 (by decide) (by decide) k) ?_
      show own_Gl p e below _ (T1.setTop (mkF m 47 #[.val (.ref r), .val (.int q), .val (.int (((0 : Int32) ||| (0 : Int32)) ||| (1 : Int32))), .val (.ref b), .val (.int (2 : Int32)), .val (.int (2 : Int32)), .val (.int y)] []))
      refine own_st (fun t k => XS.iloadN X1.here hx rfl (hb hby own_d_prog_5_method_4_code_47) rfl k) ?_
      show own_Gl p e below _ (T1.setTop (mkF m 48 #[.val (.ref r), .val (.int q), .val (.int (((0 : Int32) ||| (0 : Int32)) ||| (1 : Int32))), .val (.ref b), .val (.int (2 : Int32)), .val (.int (2 : Int32)), .val (.int y)] [(.int (((0 : Int32) ||| (0 : Int32)) ||| (1 : Int32)))]))
      exact own_retN X1 hx Bd.notSynchronized (t := .boolean) Bd.returns (by simp) (hb hby own_d_prog_5_method_4_code_48) (by decide) (by decide) e1 (⟨by simp [own_b, eq_comm (a := q), eq_false hc31_5, eq_true hc31_11] <;> first | rfl | decide, N0, rfl⟩)
    ·
      show own_Gl p e below _ (T1.setTop (mkF m 31 #[.val (.ref r), .val (.int q), .val (.int ((0 : Int32) ||| (0 : Int32))), .val (.ref b), .val (.int (2 : Int32)), .val (.int (1 : Int32)), .val (.int y)] [(.int q), (.int y), (.int ((0 : Int32) ||| (0 : Int32)))]))
      refine own_st (fun t k => XS.icmpYes X1.here hx rfl (pc0 := 31) (pc' := 38) rfl (hb hby own_d_prog_5_method_4_code_31) rfl (feq (hc31_11)).2 (by decide) (by decide) k) ?_
      show own_Gl p e below _ (T1.setTop (mkF m 38 #[.val (.ref r), .val (.int q), .val (.int ((0 : Int32) ||| (0 : Int32))), .val (.ref b), .val (.int (2 : Int32)), .val (.int (1 : Int32)), .val (.int y)] [(.int ((0 : Int32) ||| (0 : Int32)))]))
      refine own_st (fun t k => XS.iconst X1.here hx rfl (hb hby own_d_prog_5_method_4_code_38) k) ?_
      show own_Gl p e below _ (T1.setTop (mkF m 39 #[.val (.ref r), .val (.int q), .val (.int ((0 : Int32) ||| (0 : Int32))), .val (.ref b), .val (.int (2 : Int32)), .val (.int (1 : Int32)), .val (.int y)] [(.int (0 : Int32)), (.int ((0 : Int32) ||| (0 : Int32)))]))
      refine own_st (fun t k => XS.ior X1.here hx rfl (hb hby own_d_prog_5_method_4_code_39) rfl k) ?_
      show own_Gl p e below _ (T1.setTop (mkF m 40 #[.val (.ref r), .val (.int q), .val (.int ((0 : Int32) ||| (0 : Int32))), .val (.ref b), .val (.int (2 : Int32)), .val (.int (1 : Int32)), .val (.int y)] [(.int (((0 : Int32) ||| (0 : Int32)) ||| (0 : Int32)))]))
      refine own_st (fun t k => XS.istoreN X1.here hx rfl (hb hby own_d_prog_5_method_4_code_40) rfl (l' := #[.val (.ref r), .val (.int q), .val (.int (((0 : Int32) ||| (0 : Int32)) ||| (0 : Int32))), .val (.ref b), .val (.int (2 : Int32)), .val (.int (1 : Int32)), .val (.int y)]) rfl k) ?_
      show own_Gl p e below _ (T1.setTop (mkF m 41 #[.val (.ref r), .val (.int q), .val (.int (((0 : Int32) ||| (0 : Int32)) ||| (0 : Int32))), .val (.ref b), .val (.int (2 : Int32)), .val (.int (1 : Int32)), .val (.int y)] []))
      refine own_st (fun t k => XS.iinc X1.here hx rfl (hb hby own_d_prog_5_method_4_code_41) rfl (l' := #[.val (.ref r), .val (.int q), .val (.int (((0 : Int32) ||| (0 : Int32)) ||| (0 : Int32))), .val (.ref b), .val (.int (2 : Int32)), .val (.int (2 : Int32)), .val (.int y)]) rfl k) ?_
      show own_Gl p e below _ (T1.setTop (mkF m 44 #[.val (.ref r), .val (.int q), .val (.int (((0 : Int32) ||| (0 : Int32)) ||| (0 : Int32))), .val (.ref b), .val (.int (2 : Int32)), .val (.int (2 : Int32)), .val (.int y)] []))
      refine own_st (fun t k => XS.goto X1.here hx rfl (pc0 := 44) (pc' := 14) rfl (hb hby own_d_prog_5_method_4_code_44) (by decide) (by decide) k) ?_
      show own_Gl p e below _ (T1.setTop (mkF m 14 #[.val (.ref r), .val (.int q), .val (.int (((0 : Int32) ||| (0 : Int32)) ||| (0 : Int32))), .val (.ref b), .val (.int (2 : Int32)), .val (.int (2 : Int32)), .val (.int y)] []))
      refine own_st (fun t k => XS.iload X1.here hx rfl (hb hby own_d_prog_5_method_4_code_14) rfl k) ?_
      show own_Gl p e below _ (T1.setTop (mkF m 16 #[.val (.ref r), .val (.int q), .val (.int (((0 : Int32) ||| (0 : Int32)) ||| (0 : Int32))), .val (.ref b), .val (.int (2 : Int32)), .val (.int (2 : Int32)), .val (.int y)] [(.int (2 : Int32))]))
      refine own_st (fun t k => XS.iload X1.here hx rfl (hb hby own_d_prog_5_method_4_code_16) rfl k) ?_
      show own_Gl p e below _ (T1.setTop (mkF m 18 #[.val (.ref r), .val (.int q), .val (.int (((0 : Int32) ||| (0 : Int32)) ||| (0 : Int32))), .val (.ref b), .val (.int (2 : Int32)), .val (.int (2 : Int32)), .val (.int y)] [(.int (2 : Int32)), (.int (2 : Int32))]))
      refine own_st (fun t k => XS.icmpYes X1.here hx rfl (pc0 := 18) (pc' := 47) rfl (hb hby own_d_prog_5_method_4_code_18) rfl (flt ((by decide : ¬ ((2 : Int32) < (2 : Int32))))).2.1 (by decide) (by decide) k) ?_
      show own_Gl p e below _ (T1.setTop (mkF m 47 #[.val (.ref r), .val (.int q), .val (.int (((0 : Int32) ||| (0 : Int32)) ||| (0 : Int32))), .val (.ref b), .val (.int (2 : Int32)), .val (.int (2 : Int32)), .val (.int y)] []))
      refine own_st (fun t k => XS.iloadN X1.here hx rfl (hb hby own_d_prog_5_method_4_code_47) rfl k) ?_
      show own_Gl p e below _ (T1.setTop (mkF m 48 #[.val (.ref r), .val (.int q), .val (.int (((0 : Int32) ||| (0 : Int32)) ||| (0 : Int32))), .val (.ref b), .val (.int (2 : Int32)), .val (.int (2 : Int32)), .val (.int y)] [(.int (((0 : Int32) ||| (0 : Int32)) ||| (0 : Int32)))]))
      exact own_retN X1 hx Bd.notSynchronized (t := .boolean) Bd.returns (by simp) (hb hby own_d_prog_5_method_4_code_48) (by decide) (by decide) e1 (⟨by simp [own_b, eq_comm (a := q), eq_false hc31_5, eq_false hc31_11] <;> first | rfl | decide, N0, rfl⟩)
theorem own_d_method_4_code_0 : decode method_4_code 0 = .ok (.iload_n 0, 1) := by decide +kernel
theorem own_d_method_4_code_1 : decode method_4_code 1 = .ok (.ifCond .ne 20, 3) := by decide +kernel
theorem own_d_method_4_code_4 : decode method_4_code 4 = .ok (.iload_n 1, 1) := by decide +kernel
theorem own_d_method_4_code_5 : decode method_4_code 5 = .ok (.iconst 1, 1) := by decide +kernel
theorem own_d_method_4_code_6 : decode method_4_code 6 = .ok (.if_icmp .eq 9, 3) := by decide +kernel
theorem own_d_method_4_code_9 : decode method_4_code 9 = .ok (.iload_n 1, 1) := by decide +kernel
theorem own_d_method_4_code_10 : decode method_4_code 10 = .ok (.bipush 12, 2) := by decide +kernel
theorem own_d_method_4_code_12 : decode method_4_code 12 = .ok (.if_icmp .ne 7, 3) := by decide +kernel
theorem own_d_method_4_code_15 : decode method_4_code 15 = .ok (.iconst 1, 1) := by decide +kernel
theorem own_d_method_4_code_16 : decode method_4_code 16 = .ok (.goto 4, 3) := by decide +kernel
theorem own_d_method_4_code_19 : decode method_4_code 19 = .ok (.iconst 0, 1) := by decide +kernel
theorem own_d_method_4_code_20 : decode method_4_code 20 = .ok (.ireturn, 1) := by decide +kernel
theorem own_d_method_4_code_21 : decode method_4_code 21 = .ok (.iload_n 0, 1) := by decide +kernel
theorem own_d_method_4_code_22 : decode method_4_code 22 = .ok (.iconst 1, 1) := by decide +kernel
theorem own_d_method_4_code_23 : decode method_4_code 23 = .ok (.if_icmp .ne 15, 3) := by decide +kernel
theorem own_d_method_4_code_26 : decode method_4_code 26 = .ok (.iload_n 1, 1) := by decide +kernel
theorem own_d_method_4_code_27 : decode method_4_code 27 = .ok (.bipush (-5), 2) := by decide +kernel
theorem own_d_method_4_code_29 : decode method_4_code 29 = .ok (.if_icmp .ne 7, 3) := by decide +kernel
theorem own_d_method_4_code_32 : decode method_4_code 32 = .ok (.iconst 1, 1) := by decide +kernel
theorem own_d_method_4_code_33 : decode method_4_code 33 = .ok (.goto 4, 3) := by decide +kernel
theorem own_d_method_4_code_36 : decode method_4_code 36 = .ok (.iconst 0, 1) := by decide +kernel
theorem own_d_method_4_code_37 : decode method_4_code 37 = .ok (.ireturn, 1) := by decide +kernel
theorem own_d_method_4_code_38 : decode method_4_code 38 = .ok (.iload_n 0, 1) := by decide +kernel
theorem own_d_method_4_code_39 : decode method_4_code 39 = .ok (.iconst 2, 1) := by decide +kernel
theorem own_d_method_4_code_40 : decode method_4_code 40 = .ok (.if_icmp .ne 14, 3) := by decide +kernel
theorem own_d_method_4_code_43 : decode method_4_code 43 = .ok (.iload_n 1, 1) := by decide +kernel
theorem own_d_method_4_code_44 : decode method_4_code 44 = .ok (.iconst 4, 1) := by decide +kernel
theorem own_d_method_4_code_45 : decode method_4_code 45 = .ok (.if_icmp .ne 7, 3) := by decide +kernel
theorem own_d_method_4_code_48 : decode method_4_code 48 = .ok (.iconst 1, 1) := by decide +kernel
theorem own_d_method_4_code_49 : decode method_4_code 49 = .ok (.goto 4, 3) := by decide +kernel
theorem own_d_method_4_code_52 : decode method_4_code 52 = .ok (.iconst 0, 1) := by decide +kernel
theorem own_d_method_4_code_53 : decode method_4_code 53 = .ok (.ireturn, 1) := by decide +kernel
theorem own_d_method_4_code_54 : decode method_4_code 54 = .ok (.iload_n 0, 1) := by decide +kernel
theorem own_d_method_4_code_55 : decode method_4_code 55 = .ok (.iconst 3, 1) := by decide +kernel
theorem own_d_method_4_code_56 : decode method_4_code 56 = .ok (.if_icmp .ne 14, 3) := by decide +kernel
theorem own_d_method_4_code_59 : decode method_4_code 59 = .ok (.iload_n 1, 1) := by decide +kernel
theorem own_d_method_4_code_60 : decode method_4_code 60 = .ok (.iconst 5, 1) := by decide +kernel
theorem own_d_method_4_code_61 : decode method_4_code 61 = .ok (.if_icmp .ne 7, 3) := by decide +kernel
theorem own_d_method_4_code_64 : decode method_4_code 64 = .ok (.iconst 1, 1) := by decide +kernel
theorem own_d_method_4_code_65 : decode method_4_code 65 = .ok (.goto 4, 3) := by decide +kernel
theorem own_d_method_4_code_68 : decode method_4_code 68 = .ok (.iconst 0, 1) := by decide +kernel
theorem own_d_method_4_code_69 : decode method_4_code 69 = .ok (.ireturn, 1) := by decide +kernel
theorem own_d_method_4_code_70 : decode method_4_code 70 = .ok (.iload_n 0, 1) := by decide +kernel
theorem own_d_method_4_code_71 : decode method_4_code 71 = .ok (.iconst 4, 1) := by decide +kernel
theorem own_d_method_4_code_72 : decode method_4_code 72 = .ok (.if_icmp .ne 21, 3) := by decide +kernel
theorem own_d_method_4_code_75 : decode method_4_code 75 = .ok (.iload_n 1, 1) := by decide +kernel
theorem own_d_method_4_code_76 : decode method_4_code 76 = .ok (.bipush 16, 2) := by decide +kernel
theorem own_d_method_4_code_78 : decode method_4_code 78 = .ok (.if_icmp .eq 9, 3) := by decide +kernel
theorem own_d_method_4_code_81 : decode method_4_code 81 = .ok (.iload_n 1, 1) := by decide +kernel
theorem own_d_method_4_code_82 : decode method_4_code 82 = .ok (.bipush (-7), 2) := by decide +kernel
theorem own_d_method_4_code_84 : decode method_4_code 84 = .ok (.if_icmp .ne 7, 3) := by decide +kernel
theorem own_d_method_4_code_87 : decode method_4_code 87 = .ok (.iconst 1, 1) := by decide +kernel
theorem own_d_method_4_code_88 : decode method_4_code 88 = .ok (.goto 4, 3) := by decide +kernel
theorem own_d_method_4_code_91 : decode method_4_code 91 = .ok (.iconst 0, 1) := by decide +kernel
theorem own_d_method_4_code_92 : decode method_4_code 92 = .ok (.ireturn, 1) := by decide +kernel
theorem own_d_method_4_code_93 : decode method_4_code 93 = .ok (.iload_n 0, 1) := by decide +kernel
theorem own_d_method_4_code_94 : decode method_4_code 94 = .ok (.iconst 5, 1) := by decide +kernel
theorem own_d_method_4_code_95 : decode method_4_code 95 = .ok (.if_icmp .ne 21, 3) := by decide +kernel
theorem own_d_method_4_code_98 : decode method_4_code 98 = .ok (.iload_n 1, 1) := by decide +kernel
theorem own_d_method_4_code_99 : decode method_4_code 99 = .ok (.bipush 8, 2) := by decide +kernel
theorem own_d_method_4_code_101 : decode method_4_code 101 = .ok (.if_icmp .eq 9, 3) := by decide +kernel
theorem own_d_method_4_code_104 : decode method_4_code 104 = .ok (.iload_n 1, 1) := by decide +kernel
theorem own_d_method_4_code_105 : decode method_4_code 105 = .ok (.bipush 6, 2) := by decide +kernel
theorem own_d_method_4_code_107 : decode method_4_code 107 = .ok (.if_icmp .ne 7, 3) := by decide +kernel
theorem own_d_method_4_code_110 : decode method_4_code 110 = .ok (.iconst 1, 1) := by decide +kernel
theorem own_d_method_4_code_111 : decode method_4_code 111 = .ok (.goto 4, 3) := by decide +kernel
theorem own_d_method_4_code_114 : decode method_4_code 114 = .ok (.iconst 0, 1) := by decide +kernel
theorem own_d_method_4_code_115 : decode method_4_code 115 = .ok (.ireturn, 1) := by decide +kernel
theorem own_d_method_4_code_116 : decode method_4_code 116 = .ok (.iload_n 0, 1) := by decide +kernel
theorem own_d_method_4_code_117 : decode method_4_code 117 = .ok (.bipush 6, 2) := by decide +kernel
theorem own_d_method_4_code_119 : decode method_4_code 119 = .ok (.if_icmp .ne 15, 3) := by decide +kernel
theorem own_d_method_4_code_122 : decode method_4_code 122 = .ok (.iload_n 1, 1) := by decide +kernel
theorem own_d_method_4_code_123 : decode method_4_code 123 = .ok (.bipush 7, 2) := by decide +kernel
theorem own_d_method_4_code_125 : decode method_4_code 125 = .ok (.if_icmp .ne 7, 3) := by decide +kernel
theorem own_d_method_4_code_128 : decode method_4_code 128 = .ok (.iconst 1, 1) := by decide +kernel
theorem own_d_method_4_code_129 : decode method_4_code 129 = .ok (.goto 4, 3) := by decide +kernel
theorem own_d_method_4_code_132 : decode method_4_code 132 = .ok (.iconst 0, 1) := by decide +kernel
theorem own_d_method_4_code_133 : decode method_4_code 133 = .ok (.ireturn, 1) := by decide +kernel
theorem own_d_method_4_code_134 : decode method_4_code 134 = .ok (.iload_n 1, 1) := by decide +kernel
theorem own_d_method_4_code_135 : decode method_4_code 135 = .ok (.iconst 2, 1) := by decide +kernel
theorem own_d_method_4_code_136 : decode method_4_code 136 = .ok (.if_icmp .eq 8, 3) := by decide +kernel
theorem own_d_method_4_code_139 : decode method_4_code 139 = .ok (.iload_n 1, 1) := by decide +kernel
theorem own_d_method_4_code_140 : decode method_4_code 140 = .ok (.iconst 3, 1) := by decide +kernel
theorem own_d_method_4_code_141 : decode method_4_code 141 = .ok (.if_icmp .ne 7, 3) := by decide +kernel
theorem own_d_method_4_code_144 : decode method_4_code 144 = .ok (.iconst 1, 1) := by decide +kernel
theorem own_d_method_4_code_145 : decode method_4_code 145 = .ok (.goto 4, 3) := by decide +kernel
theorem own_d_method_4_code_148 : decode method_4_code 148 = .ok (.iconst 0, 1) := by decide +kernel
theorem own_d_method_4_code_149 : decode method_4_code 149 = .ok (.ireturn, 1) := by decide +kernel
theorem own_ef_exp (m : MethodId) (x0 : Int32) (x1 : Int32) : entryFrame m #[(.int x0), (.int x1)] 2 = mkF m 0 #[.val (.int x0), .val (.int x1)] [] := by first | (simp [entryFrame, mkF, argsToLocals, Value.category]; done) | rfl
def own_Q_exp (Z : State) (p1 q : Int32) (h0 : Heap) (n0 : Nat) (v : Option Value) (h : Heap) (L : List Loc) : Prop := v = some (.int (own_b (q ∈ own_codes p1))) ∧ Fr n0 L ∧ h = h0
set_option maxRecDepth 65536 in
set_option maxHeartbeats 40000000 in
theorem own_rm_exp (l : Launch) (Z : State) (a0 : Array Value) (hw : ∀ d ∈ tables_1, d.before a0 Z = true) (ws : List Jvm.Cond) (p1 q : Int32) (h0 : Heap) (n0 : Nat) (Z0 : n0 ≤ h0.size)  :
    MetFree l (⟨"com/example/bare_session/baresession/mapping/GetterReadsPinLaw", "expected", "(II)Z"⟩ : MethodName) (head1 (Jvm.Cond.code (⟨"com/example/bare_session/baresession/mapping/GetterReadsPinLaw", "expected", "(II)Z"⟩ : MethodName) method_4_code 2 (some .boolean) :: ws) ({ frames := 0, cells := 0, slots := 0, locals := 0 } : Room)) (fun a U => a = #[(.int p1), (.int q)] ∧ Z.Warmed39 U.vm ∧ U.heap = h0) (fun _ _ _ _ _ => True) (fun _ U o U' => ∃ v L, o = .returned v ∧ own_Q_exp Z p1 q h0 n0 v U'.heap L ∧ FrameEnd U o U' L ({ frames := 0, cells := 0, slots := 0, locals := 0 } : Room).cells ({ frames := 0, cells := 0, slots := 0, locals := 0 } : Room).slots) := by
  refine MetFree.of_bodySF (plainFor_of_name own_pn0) hisR ?_
  intro p e s m args below meth c s₁ Bd hml0 hP hK
  obtain ⟨rfl, hZ, hh⟩ := hP
  have hx := Bd.exec
  have hby := Bd.bytes
  have hml : c.maxLocals = 2 := hml0
  have hown : s.vm.findClass "com/example/bare_session/baresession/mapping/GetterReadsPinLaw" = some m.cls := findClass_of_methodNamed Bd.named
  have hnm := (name_of_methodNamed Bd.named Bd.method).1
  have X0 : Stand p l e ({ frames := 0, cells := 0, slots := 0, locals := 0 } : Room) s m #[(.int p1), (.int q)] below meth c s₁ [] 0 0 := Stand.of_body Bd
  have e0 : s₁.heap = h0 := by rw [← hh, Bd.state]; rfl
  have N0 := Fr.nil n0
  show own_Gl p e below (own_Post s (own_Q_exp Z p1 q h0 n0) ({ frames := 0, cells := 0, slots := 0, locals := 0 } : Room).cells ({ frames := 0, cells := 0, slots := 0, locals := 0 } : Room).slots) _
  refine own_st (fun t k => castTop (own_ef_exp m p1 q) k) ?_
  show own_Gl p e below _ (s₁.setTop (mkF m 0 #[.val (.int p1), .val (.int q)] []))
  refine own_st (fun t k => XS.iloadN X0.here hx rfl (hb hby own_d_method_4_code_0) rfl k) ?_
  show own_Gl p e below _ (s₁.setTop (mkF m 1 #[.val (.int p1), .val (.int q)] [(.int p1)]))
  by_cases hc1_1 : p1 = (0 : Int32)
  ·
    show own_Gl p e below _ (s₁.setTop (mkF m 1 #[.val (.int p1), .val (.int q)] [(.int p1)]))
    refine own_st (fun t k => XS.ifNo X0.here hx rfl (hb hby own_d_method_4_code_1) rfl ((if0 _ _).trans (teq (hc1_1)).2) k) ?_
    show own_Gl p e below _ (s₁.setTop (mkF m 4 #[.val (.int p1), .val (.int q)] []))
    refine own_st (fun t k => XS.iloadN X0.here hx rfl (hb hby own_d_method_4_code_4) rfl k) ?_
    show own_Gl p e below _ (s₁.setTop (mkF m 5 #[.val (.int p1), .val (.int q)] [(.int q)]))
    refine own_st (fun t k => XS.iconst X0.here hx rfl (hb hby own_d_method_4_code_5) k) ?_
    show own_Gl p e below _ (s₁.setTop (mkF m 6 #[.val (.int p1), .val (.int q)] [(.int (1 : Int32)), (.int q)]))
    by_cases hc6_2 : q = (1 : Int32)
    ·
      show own_Gl p e below _ (s₁.setTop (mkF m 6 #[.val (.int p1), .val (.int q)] [(.int (1 : Int32)), (.int q)]))
      refine own_st (fun t k => XS.icmpYes X0.here hx rfl (pc0 := 6) (pc' := 15) rfl (hb hby own_d_method_4_code_6) rfl (teq (hc6_2)).1 (by decide) (by decide) k) ?_
      show own_Gl p e below _ (s₁.setTop (mkF m 15 #[.val (.int p1), .val (.int q)] []))
      refine own_st (fun t k => XS.iconst X0.here hx rfl (hb hby own_d_method_4_code_15) k) ?_
      show own_Gl p e below _ (s₁.setTop (mkF m 16 #[.val (.int p1), .val (.int q)] [(.int (1 : Int32))]))
      refine own_st (fun t k => XS.goto X0.here hx rfl (pc0 := 16) (pc' := 20) rfl (hb hby own_d_method_4_code_16) (by decide) (by decide) k) ?_
      show own_Gl p e below _ (s₁.setTop (mkF m 20 #[.val (.int p1), .val (.int q)] [(.int (1 : Int32))]))
      exact own_retN X0 hx Bd.notSynchronized (t := .boolean) Bd.returns (by simp) (hb hby own_d_method_4_code_20) (by decide) (by decide) e0 (⟨by simp [own_b, own_codes, eq_true hc1_1, eq_true hc6_2] <;> first | rfl | decide, N0, rfl⟩)
    ·
      show own_Gl p e below _ (s₁.setTop (mkF m 6 #[.val (.int p1), .val (.int q)] [(.int (1 : Int32)), (.int q)]))
      refine own_st (fun t k => XS.icmpNo X0.here hx rfl (hb hby own_d_method_4_code_6) rfl (feq (hc6_2)).1 k) ?_
      show own_Gl p e below _ (s₁.setTop (mkF m 9 #[.val (.int p1), .val (.int q)] []))
      refine own_st (fun t k => XS.iloadN X0.here hx rfl (hb hby own_d_method_4_code_9) rfl k) ?_
      show own_Gl p e below _ (s₁.setTop (mkF m 10 #[.val (.int p1), .val (.int q)] [(.int q)]))
      refine own_st (fun t k => XS.bipush X0.here hx rfl (hb hby own_d_method_4_code_10) k) ?_
      show own_Gl p e below _ (s₁.setTop (mkF m 12 #[.val (.int p1), .val (.int q)] [(.int (12 : Int32)), (.int q)]))
      by_cases hc12_3 : q = (12 : Int32)
      ·
        show own_Gl p e below _ (s₁.setTop (mkF m 12 #[.val (.int p1), .val (.int q)] [(.int (12 : Int32)), (.int q)]))
        refine own_st (fun t k => XS.icmpNo X0.here hx rfl (hb hby own_d_method_4_code_12) rfl (teq (hc12_3)).2 k) ?_
        show own_Gl p e below _ (s₁.setTop (mkF m 15 #[.val (.int p1), .val (.int q)] []))
        refine own_st (fun t k => XS.iconst X0.here hx rfl (hb hby own_d_method_4_code_15) k) ?_
        show own_Gl p e below _ (s₁.setTop (mkF m 16 #[.val (.int p1), .val (.int q)] [(.int (1 : Int32))]))
        refine own_st (fun t k => XS.goto X0.here hx rfl (pc0 := 16) (pc' := 20) rfl (hb hby own_d_method_4_code_16) (by decide) (by decide) k) ?_
        show own_Gl p e below _ (s₁.setTop (mkF m 20 #[.val (.int p1), .val (.int q)] [(.int (1 : Int32))]))
        exact own_retN X0 hx Bd.notSynchronized (t := .boolean) Bd.returns (by simp) (hb hby own_d_method_4_code_20) (by decide) (by decide) e0 (⟨by simp [own_b, own_codes, eq_true hc1_1, eq_false hc6_2, eq_true hc12_3] <;> first | rfl | decide, N0, rfl⟩)
      ·
        show own_Gl p e below _ (s₁.setTop (mkF m 12 #[.val (.int p1), .val (.int q)] [(.int (12 : Int32)), (.int q)]))
        refine own_st (fun t k => XS.icmpYes X0.here hx rfl (pc0 := 12) (pc' := 19) rfl (hb hby own_d_method_4_code_12) rfl (feq (hc12_3)).2 (by decide) (by decide) k) ?_
        show own_Gl p e below _ (s₁.setTop (mkF m 19 #[.val (.int p1), .val (.int q)] []))
        refine own_st (fun t k => XS.iconst X0.here hx rfl (hb hby own_d_method_4_code_19) k) ?_
        show own_Gl p e below _ (s₁.setTop (mkF m 20 #[.val (.int p1), .val (.int q)] [(.int (0 : Int32))]))
        exact own_retN X0 hx Bd.notSynchronized (t := .boolean) Bd.returns (by simp) (hb hby own_d_method_4_code_20) (by decide) (by decide) e0 (⟨by simp [own_b, own_codes, eq_true hc1_1, eq_false hc6_2, eq_false hc12_3] <;> first | rfl | decide, N0, rfl⟩)
  ·
    show own_Gl p e below _ (s₁.setTop (mkF m 1 #[.val (.int p1), .val (.int q)] [(.int p1)]))
    refine own_st (fun t k => XS.ifYes X0.here hx rfl (pc0 := 1) (pc' := 21) rfl (hb hby own_d_method_4_code_1) rfl ((if0 _ _).trans (feq (hc1_1)).2) (by decide) (by decide) k) ?_
    show own_Gl p e below _ (s₁.setTop (mkF m 21 #[.val (.int p1), .val (.int q)] []))
    refine own_st (fun t k => XS.iloadN X0.here hx rfl (hb hby own_d_method_4_code_21) rfl k) ?_
    show own_Gl p e below _ (s₁.setTop (mkF m 22 #[.val (.int p1), .val (.int q)] [(.int p1)]))
    refine own_st (fun t k => XS.iconst X0.here hx rfl (hb hby own_d_method_4_code_22) k) ?_
    show own_Gl p e below _ (s₁.setTop (mkF m 23 #[.val (.int p1), .val (.int q)] [(.int (1 : Int32)), (.int p1)]))
    by_cases hc23_4 : p1 = (1 : Int32)
    ·
      show own_Gl p e below _ (s₁.setTop (mkF m 23 #[.val (.int p1), .val (.int q)] [(.int (1 : Int32)), (.int p1)]))
      refine own_st (fun t k => XS.icmpNo X0.here hx rfl (hb hby own_d_method_4_code_23) rfl (teq (hc23_4)).2 k) ?_
      show own_Gl p e below _ (s₁.setTop (mkF m 26 #[.val (.int p1), .val (.int q)] []))
      refine own_st (fun t k => XS.iloadN X0.here hx rfl (hb hby own_d_method_4_code_26) rfl k) ?_
      show own_Gl p e below _ (s₁.setTop (mkF m 27 #[.val (.int p1), .val (.int q)] [(.int q)]))
      refine own_st (fun t k => XS.bipush X0.here hx rfl (hb hby own_d_method_4_code_27) k) ?_
      show own_Gl p e below _ (s₁.setTop (mkF m 29 #[.val (.int p1), .val (.int q)] [(.int (-5 : Int32)), (.int q)]))
      by_cases hc29_5 : q = (-5 : Int32)
      ·
        show own_Gl p e below _ (s₁.setTop (mkF m 29 #[.val (.int p1), .val (.int q)] [(.int (-5 : Int32)), (.int q)]))
        refine own_st (fun t k => XS.icmpNo X0.here hx rfl (hb hby own_d_method_4_code_29) rfl (teq (hc29_5)).2 k) ?_
        show own_Gl p e below _ (s₁.setTop (mkF m 32 #[.val (.int p1), .val (.int q)] []))
        refine own_st (fun t k => XS.iconst X0.here hx rfl (hb hby own_d_method_4_code_32) k) ?_
        show own_Gl p e below _ (s₁.setTop (mkF m 33 #[.val (.int p1), .val (.int q)] [(.int (1 : Int32))]))
        refine own_st (fun t k => XS.goto X0.here hx rfl (pc0 := 33) (pc' := 37) rfl (hb hby own_d_method_4_code_33) (by decide) (by decide) k) ?_
        show own_Gl p e below _ (s₁.setTop (mkF m 37 #[.val (.int p1), .val (.int q)] [(.int (1 : Int32))]))
        exact own_retN X0 hx Bd.notSynchronized (t := .boolean) Bd.returns (by simp) (hb hby own_d_method_4_code_37) (by decide) (by decide) e0 (⟨by simp [own_b, own_codes, eq_false hc1_1, eq_true hc23_4, eq_true hc29_5] <;> first | rfl | decide, N0, rfl⟩)
      ·
        show own_Gl p e below _ (s₁.setTop (mkF m 29 #[.val (.int p1), .val (.int q)] [(.int (-5 : Int32)), (.int q)]))
        refine own_st (fun t k => XS.icmpYes X0.here hx rfl (pc0 := 29) (pc' := 36) rfl (hb hby own_d_method_4_code_29) rfl (feq (hc29_5)).2 (by decide) (by decide) k) ?_
        show own_Gl p e below _ (s₁.setTop (mkF m 36 #[.val (.int p1), .val (.int q)] []))
        refine own_st (fun t k => XS.iconst X0.here hx rfl (hb hby own_d_method_4_code_36) k) ?_
        show own_Gl p e below _ (s₁.setTop (mkF m 37 #[.val (.int p1), .val (.int q)] [(.int (0 : Int32))]))
        exact own_retN X0 hx Bd.notSynchronized (t := .boolean) Bd.returns (by simp) (hb hby own_d_method_4_code_37) (by decide) (by decide) e0 (⟨by simp [own_b, own_codes, eq_false hc1_1, eq_true hc23_4, eq_false hc29_5] <;> first | rfl | decide, N0, rfl⟩)
    ·
      show own_Gl p e below _ (s₁.setTop (mkF m 23 #[.val (.int p1), .val (.int q)] [(.int (1 : Int32)), (.int p1)]))
      refine own_st (fun t k => XS.icmpYes X0.here hx rfl (pc0 := 23) (pc' := 38) rfl (hb hby own_d_method_4_code_23) rfl (feq (hc23_4)).2 (by decide) (by decide) k) ?_
      show own_Gl p e below _ (s₁.setTop (mkF m 38 #[.val (.int p1), .val (.int q)] []))
      refine own_st (fun t k => XS.iloadN X0.here hx rfl (hb hby own_d_method_4_code_38) rfl k) ?_
      show own_Gl p e below _ (s₁.setTop (mkF m 39 #[.val (.int p1), .val (.int q)] [(.int p1)]))
      refine own_st (fun t k => XS.iconst X0.here hx rfl (hb hby own_d_method_4_code_39) k) ?_
      show own_Gl p e below _ (s₁.setTop (mkF m 40 #[.val (.int p1), .val (.int q)] [(.int (2 : Int32)), (.int p1)]))
      by_cases hc40_6 : p1 = (2 : Int32)
      ·
        show own_Gl p e below _ (s₁.setTop (mkF m 40 #[.val (.int p1), .val (.int q)] [(.int (2 : Int32)), (.int p1)]))
        refine own_st (fun t k => XS.icmpNo X0.here hx rfl (hb hby own_d_method_4_code_40) rfl (teq (hc40_6)).2 k) ?_
        show own_Gl p e below _ (s₁.setTop (mkF m 43 #[.val (.int p1), .val (.int q)] []))
        refine own_st (fun t k => XS.iloadN X0.here hx rfl (hb hby own_d_method_4_code_43) rfl k) ?_
        show own_Gl p e below _ (s₁.setTop (mkF m 44 #[.val (.int p1), .val (.int q)] [(.int q)]))
        refine own_st (fun t k => XS.iconst X0.here hx rfl (hb hby own_d_method_4_code_44) k) ?_
        show own_Gl p e below _ (s₁.setTop (mkF m 45 #[.val (.int p1), .val (.int q)] [(.int (4 : Int32)), (.int q)]))
        by_cases hc45_7 : q = (4 : Int32)
        ·
          show own_Gl p e below _ (s₁.setTop (mkF m 45 #[.val (.int p1), .val (.int q)] [(.int (4 : Int32)), (.int q)]))
          refine own_st (fun t k => XS.icmpNo X0.here hx rfl (hb hby own_d_method_4_code_45) rfl (teq (hc45_7)).2 k) ?_
          show own_Gl p e below _ (s₁.setTop (mkF m 48 #[.val (.int p1), .val (.int q)] []))
          refine own_st (fun t k => XS.iconst X0.here hx rfl (hb hby own_d_method_4_code_48) k) ?_
          show own_Gl p e below _ (s₁.setTop (mkF m 49 #[.val (.int p1), .val (.int q)] [(.int (1 : Int32))]))
          refine own_st (fun t k => XS.goto X0.here hx rfl (pc0 := 49) (pc' := 53) rfl (hb hby own_d_method_4_code_49) (by decide) (by decide) k) ?_
          show own_Gl p e below _ (s₁.setTop (mkF m 53 #[.val (.int p1), .val (.int q)] [(.int (1 : Int32))]))
          exact own_retN X0 hx Bd.notSynchronized (t := .boolean) Bd.returns (by simp) (hb hby own_d_method_4_code_53) (by decide) (by decide) e0 (⟨by simp [own_b, own_codes, eq_false hc1_1, eq_false hc23_4, eq_true hc40_6, eq_true hc45_7] <;> first | rfl | decide, N0, rfl⟩)
        ·
          show own_Gl p e below _ (s₁.setTop (mkF m 45 #[.val (.int p1), .val (.int q)] [(.int (4 : Int32)), (.int q)]))
          refine own_st (fun t k => XS.icmpYes X0.here hx rfl (pc0 := 45) (pc' := 52) rfl (hb hby own_d_method_4_code_45) rfl (feq (hc45_7)).2 (by decide) (by decide) k) ?_
          show own_Gl p e below _ (s₁.setTop (mkF m 52 #[.val (.int p1), .val (.int q)] []))
          refine own_st (fun t k => XS.iconst X0.here hx rfl (hb hby own_d_method_4_code_52) k) ?_
          show own_Gl p e below _ (s₁.setTop (mkF m 53 #[.val (.int p1), .val (.int q)] [(.int (0 : Int32))]))
          exact own_retN X0 hx Bd.notSynchronized (t := .boolean) Bd.returns (by simp) (hb hby own_d_method_4_code_53) (by decide) (by decide) e0 (⟨by simp [own_b, own_codes, eq_false hc1_1, eq_false hc23_4, eq_true hc40_6, eq_false hc45_7] <;> first | rfl | decide, N0, rfl⟩)
      ·
        show own_Gl p e below _ (s₁.setTop (mkF m 40 #[.val (.int p1), .val (.int q)] [(.int (2 : Int32)), (.int p1)]))
        refine own_st (fun t k => XS.icmpYes X0.here hx rfl (pc0 := 40) (pc' := 54) rfl (hb hby own_d_method_4_code_40) rfl (feq (hc40_6)).2 (by decide) (by decide) k) ?_
        show own_Gl p e below _ (s₁.setTop (mkF m 54 #[.val (.int p1), .val (.int q)] []))
        refine own_st (fun t k => XS.iloadN X0.here hx rfl (hb hby own_d_method_4_code_54) rfl k) ?_
        show own_Gl p e below _ (s₁.setTop (mkF m 55 #[.val (.int p1), .val (.int q)] [(.int p1)]))
        refine own_st (fun t k => XS.iconst X0.here hx rfl (hb hby own_d_method_4_code_55) k) ?_
        show own_Gl p e below _ (s₁.setTop (mkF m 56 #[.val (.int p1), .val (.int q)] [(.int (3 : Int32)), (.int p1)]))
        by_cases hc56_8 : p1 = (3 : Int32)
        ·
          show own_Gl p e below _ (s₁.setTop (mkF m 56 #[.val (.int p1), .val (.int q)] [(.int (3 : Int32)), (.int p1)]))
          refine own_st (fun t k => XS.icmpNo X0.here hx rfl (hb hby own_d_method_4_code_56) rfl (teq (hc56_8)).2 k) ?_
          show own_Gl p e below _ (s₁.setTop (mkF m 59 #[.val (.int p1), .val (.int q)] []))
          refine own_st (fun t k => XS.iloadN X0.here hx rfl (hb hby own_d_method_4_code_59) rfl k) ?_
          show own_Gl p e below _ (s₁.setTop (mkF m 60 #[.val (.int p1), .val (.int q)] [(.int q)]))
          refine own_st (fun t k => XS.iconst X0.here hx rfl (hb hby own_d_method_4_code_60) k) ?_
          show own_Gl p e below _ (s₁.setTop (mkF m 61 #[.val (.int p1), .val (.int q)] [(.int (5 : Int32)), (.int q)]))
          by_cases hc61_9 : q = (5 : Int32)
          ·
            show own_Gl p e below _ (s₁.setTop (mkF m 61 #[.val (.int p1), .val (.int q)] [(.int (5 : Int32)), (.int q)]))
            refine own_st (fun t k => XS.icmpNo X0.here hx rfl (hb hby own_d_method_4_code_61) rfl (teq (hc61_9)).2 k) ?_
            show own_Gl p e below _ (s₁.setTop (mkF m 64 #[.val (.int p1), .val (.int q)] []))
            refine own_st (fun t k => XS.iconst X0.here hx rfl (hb hby own_d_method_4_code_64) k) ?_
            show own_Gl p e below _ (s₁.setTop (mkF m 65 #[.val (.int p1), .val (.int q)] [(.int (1 : Int32))]))
            refine own_st (fun t k => XS.goto X0.here hx rfl (pc0 := 65) (pc' := 69) rfl (hb hby own_d_method_4_code_65) (by decide) (by decide) k) ?_
            show own_Gl p e below _ (s₁.setTop (mkF m 69 #[.val (.int p1), .val (.int q)] [(.int (1 : Int32))]))
            exact own_retN X0 hx Bd.notSynchronized (t := .boolean) Bd.returns (by simp) (hb hby own_d_method_4_code_69) (by decide) (by decide) e0 (⟨by simp [own_b, own_codes, eq_false hc1_1, eq_false hc23_4, eq_false hc40_6, eq_true hc56_8, eq_true hc61_9] <;> first | rfl | decide, N0, rfl⟩)
          ·
            show own_Gl p e below _ (s₁.setTop (mkF m 61 #[.val (.int p1), .val (.int q)] [(.int (5 : Int32)), (.int q)]))
            refine own_st (fun t k => XS.icmpYes X0.here hx rfl (pc0 := 61) (pc' := 68) rfl (hb hby own_d_method_4_code_61) rfl (feq (hc61_9)).2 (by decide) (by decide) k) ?_
            show own_Gl p e below _ (s₁.setTop (mkF m 68 #[.val (.int p1), .val (.int q)] []))
            refine own_st (fun t k => XS.iconst X0.here hx rfl (hb hby own_d_method_4_code_68) k) ?_
            show own_Gl p e below _ (s₁.setTop (mkF m 69 #[.val (.int p1), .val (.int q)] [(.int (0 : Int32))]))
            exact own_retN X0 hx Bd.notSynchronized (t := .boolean) Bd.returns (by simp) (hb hby own_d_method_4_code_69) (by decide) (by decide) e0 (⟨by simp [own_b, own_codes, eq_false hc1_1, eq_false hc23_4, eq_false hc40_6, eq_true hc56_8, eq_false hc61_9] <;> first | rfl | decide, N0, rfl⟩)
        ·
          show own_Gl p e below _ (s₁.setTop (mkF m 56 #[.val (.int p1), .val (.int q)] [(.int (3 : Int32)), (.int p1)]))
          refine own_st (fun t k => XS.icmpYes X0.here hx rfl (pc0 := 56) (pc' := 70) rfl (hb hby own_d_method_4_code_56) rfl (feq (hc56_8)).2 (by decide) (by decide) k) ?_
          show own_Gl p e below _ (s₁.setTop (mkF m 70 #[.val (.int p1), .val (.int q)] []))
          refine own_st (fun t k => XS.iloadN X0.here hx rfl (hb hby own_d_method_4_code_70) rfl k) ?_
          show own_Gl p e below _ (s₁.setTop (mkF m 71 #[.val (.int p1), .val (.int q)] [(.int p1)]))
          refine own_st (fun t k => XS.iconst X0.here hx rfl (hb hby own_d_method_4_code_71) k) ?_
          show own_Gl p e below _ (s₁.setTop (mkF m 72 #[.val (.int p1), .val (.int q)] [(.int (4 : Int32)), (.int p1)]))
          by_cases hc72_10 : p1 = (4 : Int32)
          ·
            show own_Gl p e below _ (s₁.setTop (mkF m 72 #[.val (.int p1), .val (.int q)] [(.int (4 : Int32)), (.int p1)]))
            refine own_st (fun t k => XS.icmpNo X0.here hx rfl (hb hby own_d_method_4_code_72) rfl (teq (hc72_10)).2 k) ?_
            show own_Gl p e below _ (s₁.setTop (mkF m 75 #[.val (.int p1), .val (.int q)] []))
            refine own_st (fun t k => XS.iloadN X0.here hx rfl (hb hby own_d_method_4_code_75) rfl k) ?_
            show own_Gl p e below _ (s₁.setTop (mkF m 76 #[.val (.int p1), .val (.int q)] [(.int q)]))
            refine own_st (fun t k => XS.bipush X0.here hx rfl (hb hby own_d_method_4_code_76) k) ?_
            show own_Gl p e below _ (s₁.setTop (mkF m 78 #[.val (.int p1), .val (.int q)] [(.int (16 : Int32)), (.int q)]))
            by_cases hc78_11 : q = (16 : Int32)
            ·
              show own_Gl p e below _ (s₁.setTop (mkF m 78 #[.val (.int p1), .val (.int q)] [(.int (16 : Int32)), (.int q)]))
              refine own_st (fun t k => XS.icmpYes X0.here hx rfl (pc0 := 78) (pc' := 87) rfl (hb hby own_d_method_4_code_78) rfl (teq (hc78_11)).1 (by decide) (by decide) k) ?_
              show own_Gl p e below _ (s₁.setTop (mkF m 87 #[.val (.int p1), .val (.int q)] []))
              refine own_st (fun t k => XS.iconst X0.here hx rfl (hb hby own_d_method_4_code_87) k) ?_
              show own_Gl p e below _ (s₁.setTop (mkF m 88 #[.val (.int p1), .val (.int q)] [(.int (1 : Int32))]))
              refine own_st (fun t k => XS.goto X0.here hx rfl (pc0 := 88) (pc' := 92) rfl (hb hby own_d_method_4_code_88) (by decide) (by decide) k) ?_
              show own_Gl p e below _ (s₁.setTop (mkF m 92 #[.val (.int p1), .val (.int q)] [(.int (1 : Int32))]))
              exact own_retN X0 hx Bd.notSynchronized (t := .boolean) Bd.returns (by simp) (hb hby own_d_method_4_code_92) (by decide) (by decide) e0 (⟨by simp [own_b, own_codes, eq_false hc1_1, eq_false hc23_4, eq_false hc40_6, eq_false hc56_8, eq_true hc72_10, eq_true hc78_11] <;> first | rfl | decide, N0, rfl⟩)
            ·
              show own_Gl p e below _ (s₁.setTop (mkF m 78 #[.val (.int p1), .val (.int q)] [(.int (16 : Int32)), (.int q)]))
              refine own_st (fun t k => XS.icmpNo X0.here hx rfl (hb hby own_d_method_4_code_78) rfl (feq (hc78_11)).1 k) ?_
              show own_Gl p e below _ (s₁.setTop (mkF m 81 #[.val (.int p1), .val (.int q)] []))
              refine own_st (fun t k => XS.iloadN X0.here hx rfl (hb hby own_d_method_4_code_81) rfl k) ?_
              show own_Gl p e below _ (s₁.setTop (mkF m 82 #[.val (.int p1), .val (.int q)] [(.int q)]))
              refine own_st (fun t k => XS.bipush X0.here hx rfl (hb hby own_d_method_4_code_82) k) ?_
              show own_Gl p e below _ (s₁.setTop (mkF m 84 #[.val (.int p1), .val (.int q)] [(.int (-7 : Int32)), (.int q)]))
              by_cases hc84_12 : q = (-7 : Int32)
              ·
                show own_Gl p e below _ (s₁.setTop (mkF m 84 #[.val (.int p1), .val (.int q)] [(.int (-7 : Int32)), (.int q)]))
                refine own_st (fun t k => XS.icmpNo X0.here hx rfl (hb hby own_d_method_4_code_84) rfl (teq (hc84_12)).2 k) ?_
                show own_Gl p e below _ (s₁.setTop (mkF m 87 #[.val (.int p1), .val (.int q)] []))
                refine own_st (fun t k => XS.iconst X0.here hx rfl (hb hby own_d_method_4_code_87) k) ?_
                show own_Gl p e below _ (s₁.setTop (mkF m 88 #[.val (.int p1), .val (.int q)] [(.int (1 : Int32))]))
                refine own_st (fun t k => XS.goto X0.here hx rfl (pc0 := 88) (pc' := 92) rfl (hb hby own_d_method_4_code_88) (by decide) (by decide) k) ?_
                show own_Gl p e below _ (s₁.setTop (mkF m 92 #[.val (.int p1), .val (.int q)] [(.int (1 : Int32))]))
                exact own_retN X0 hx Bd.notSynchronized (t := .boolean) Bd.returns (by simp) (hb hby own_d_method_4_code_92) (by decide) (by decide) e0 (⟨by simp [own_b, own_codes, eq_false hc1_1, eq_false hc23_4, eq_false hc40_6, eq_false hc56_8, eq_true hc72_10, eq_false hc78_11, eq_true hc84_12] <;> first | rfl | decide, N0, rfl⟩)
              ·
                show own_Gl p e below _ (s₁.setTop (mkF m 84 #[.val (.int p1), .val (.int q)] [(.int (-7 : Int32)), (.int q)]))
                refine own_st (fun t k => XS.icmpYes X0.here hx rfl (pc0 := 84) (pc' := 91) rfl (hb hby own_d_method_4_code_84) rfl (feq (hc84_12)).2 (by decide) (by decide) k) ?_
                show own_Gl p e below _ (s₁.setTop (mkF m 91 #[.val (.int p1), .val (.int q)] []))
                refine own_st (fun t k => XS.iconst X0.here hx rfl (hb hby own_d_method_4_code_91) k) ?_
                show own_Gl p e below _ (s₁.setTop (mkF m 92 #[.val (.int p1), .val (.int q)] [(.int (0 : Int32))]))
                exact own_retN X0 hx Bd.notSynchronized (t := .boolean) Bd.returns (by simp) (hb hby own_d_method_4_code_92) (by decide) (by decide) e0 (⟨by simp [own_b, own_codes, eq_false hc1_1, eq_false hc23_4, eq_false hc40_6, eq_false hc56_8, eq_true hc72_10, eq_false hc78_11, eq_false hc84_12] <;> first | rfl | decide, N0, rfl⟩)
          ·
            show own_Gl p e below _ (s₁.setTop (mkF m 72 #[.val (.int p1), .val (.int q)] [(.int (4 : Int32)), (.int p1)]))
            refine own_st (fun t k => XS.icmpYes X0.here hx rfl (pc0 := 72) (pc' := 93) rfl (hb hby own_d_method_4_code_72) rfl (feq (hc72_10)).2 (by decide) (by decide) k) ?_
            show own_Gl p e below _ (s₁.setTop (mkF m 93 #[.val (.int p1), .val (.int q)] []))
            refine own_st (fun t k => XS.iloadN X0.here hx rfl (hb hby own_d_method_4_code_93) rfl k) ?_
            show own_Gl p e below _ (s₁.setTop (mkF m 94 #[.val (.int p1), .val (.int q)] [(.int p1)]))
            refine own_st (fun t k => XS.iconst X0.here hx rfl (hb hby own_d_method_4_code_94) k) ?_
            show own_Gl p e below _ (s₁.setTop (mkF m 95 #[.val (.int p1), .val (.int q)] [(.int (5 : Int32)), (.int p1)]))
            by_cases hc95_13 : p1 = (5 : Int32)
            ·
              show own_Gl p e below _ (s₁.setTop (mkF m 95 #[.val (.int p1), .val (.int q)] [(.int (5 : Int32)), (.int p1)]))
              refine own_st (fun t k => XS.icmpNo X0.here hx rfl (hb hby own_d_method_4_code_95) rfl (teq (hc95_13)).2 k) ?_
              show own_Gl p e below _ (s₁.setTop (mkF m 98 #[.val (.int p1), .val (.int q)] []))
              refine own_st (fun t k => XS.iloadN X0.here hx rfl (hb hby own_d_method_4_code_98) rfl k) ?_
              show own_Gl p e below _ (s₁.setTop (mkF m 99 #[.val (.int p1), .val (.int q)] [(.int q)]))
              refine own_st (fun t k => XS.bipush X0.here hx rfl (hb hby own_d_method_4_code_99) k) ?_
              show own_Gl p e below _ (s₁.setTop (mkF m 101 #[.val (.int p1), .val (.int q)] [(.int (8 : Int32)), (.int q)]))
              by_cases hc101_14 : q = (8 : Int32)
              ·
                show own_Gl p e below _ (s₁.setTop (mkF m 101 #[.val (.int p1), .val (.int q)] [(.int (8 : Int32)), (.int q)]))
                refine own_st (fun t k => XS.icmpYes X0.here hx rfl (pc0 := 101) (pc' := 110) rfl (hb hby own_d_method_4_code_101) rfl (teq (hc101_14)).1 (by decide) (by decide) k) ?_
                show own_Gl p e below _ (s₁.setTop (mkF m 110 #[.val (.int p1), .val (.int q)] []))
                refine own_st (fun t k => XS.iconst X0.here hx rfl (hb hby own_d_method_4_code_110) k) ?_
                show own_Gl p e below _ (s₁.setTop (mkF m 111 #[.val (.int p1), .val (.int q)] [(.int (1 : Int32))]))
                refine own_st (fun t k => XS.goto X0.here hx rfl (pc0 := 111) (pc' := 115) rfl (hb hby own_d_method_4_code_111) (by decide) (by decide) k) ?_
                show own_Gl p e below _ (s₁.setTop (mkF m 115 #[.val (.int p1), .val (.int q)] [(.int (1 : Int32))]))
                exact own_retN X0 hx Bd.notSynchronized (t := .boolean) Bd.returns (by simp) (hb hby own_d_method_4_code_115) (by decide) (by decide) e0 (⟨by simp [own_b, own_codes, eq_false hc1_1, eq_false hc23_4, eq_false hc40_6, eq_false hc56_8, eq_false hc72_10, eq_true hc95_13, eq_true hc101_14] <;> first | rfl | decide, N0, rfl⟩)
              ·
                show own_Gl p e below _ (s₁.setTop (mkF m 101 #[.val (.int p1), .val (.int q)] [(.int (8 : Int32)), (.int q)]))
                refine own_st (fun t k => XS.icmpNo X0.here hx rfl (hb hby own_d_method_4_code_101) rfl (feq (hc101_14)).1 k) ?_
                show own_Gl p e below _ (s₁.setTop (mkF m 104 #[.val (.int p1), .val (.int q)] []))
                refine own_st (fun t k => XS.iloadN X0.here hx rfl (hb hby own_d_method_4_code_104) rfl k) ?_
                show own_Gl p e below _ (s₁.setTop (mkF m 105 #[.val (.int p1), .val (.int q)] [(.int q)]))
                refine own_st (fun t k => XS.bipush X0.here hx rfl (hb hby own_d_method_4_code_105) k) ?_
                show own_Gl p e below _ (s₁.setTop (mkF m 107 #[.val (.int p1), .val (.int q)] [(.int (6 : Int32)), (.int q)]))
                by_cases hc107_15 : q = (6 : Int32)
                ·
                  show own_Gl p e below _ (s₁.setTop (mkF m 107 #[.val (.int p1), .val (.int q)] [(.int (6 : Int32)), (.int q)]))
                  refine own_st (fun t k => XS.icmpNo X0.here hx rfl (hb hby own_d_method_4_code_107) rfl (teq (hc107_15)).2 k) ?_
                  show own_Gl p e below _ (s₁.setTop (mkF m 110 #[.val (.int p1), .val (.int q)] []))
                  refine own_st (fun t k => XS.iconst X0.here hx rfl (hb hby own_d_method_4_code_110) k) ?_
                  show own_Gl p e below _ (s₁.setTop (mkF m 111 #[.val (.int p1), .val (.int q)] [(.int (1 : Int32))]))
                  refine own_st (fun t k => XS.goto X0.here hx rfl (pc0 := 111) (pc' := 115) rfl (hb hby own_d_method_4_code_111) (by decide) (by decide) k) ?_
                  show own_Gl p e below _ (s₁.setTop (mkF m 115 #[.val (.int p1), .val (.int q)] [(.int (1 : Int32))]))
                  exact own_retN X0 hx Bd.notSynchronized (t := .boolean) Bd.returns (by simp) (hb hby own_d_method_4_code_115) (by decide) (by decide) e0 (⟨by simp [own_b, own_codes, eq_false hc1_1, eq_false hc23_4, eq_false hc40_6, eq_false hc56_8, eq_false hc72_10, eq_true hc95_13, eq_false hc101_14, eq_true hc107_15] <;> first | rfl | decide, N0, rfl⟩)
                ·
                  show own_Gl p e below _ (s₁.setTop (mkF m 107 #[.val (.int p1), .val (.int q)] [(.int (6 : Int32)), (.int q)]))
                  refine own_st (fun t k => XS.icmpYes X0.here hx rfl (pc0 := 107) (pc' := 114) rfl (hb hby own_d_method_4_code_107) rfl (feq (hc107_15)).2 (by decide) (by decide) k) ?_
                  show own_Gl p e below _ (s₁.setTop (mkF m 114 #[.val (.int p1), .val (.int q)] []))
                  refine own_st (fun t k => XS.iconst X0.here hx rfl (hb hby own_d_method_4_code_114) k) ?_
                  show own_Gl p e below _ (s₁.setTop (mkF m 115 #[.val (.int p1), .val (.int q)] [(.int (0 : Int32))]))
                  exact own_retN X0 hx Bd.notSynchronized (t := .boolean) Bd.returns (by simp) (hb hby own_d_method_4_code_115) (by decide) (by decide) e0 (⟨by simp [own_b, own_codes, eq_false hc1_1, eq_false hc23_4, eq_false hc40_6, eq_false hc56_8, eq_false hc72_10, eq_true hc95_13, eq_false hc101_14, eq_false hc107_15] <;> first | rfl | decide, N0, rfl⟩)
            ·
              show own_Gl p e below _ (s₁.setTop (mkF m 95 #[.val (.int p1), .val (.int q)] [(.int (5 : Int32)), (.int p1)]))
              refine own_st (fun t k => XS.icmpYes X0.here hx rfl (pc0 := 95) (pc' := 116) rfl (hb hby own_d_method_4_code_95) rfl (feq (hc95_13)).2 (by decide) (by decide) k) ?_
              show own_Gl p e below _ (s₁.setTop (mkF m 116 #[.val (.int p1), .val (.int q)] []))
              refine own_st (fun t k => XS.iloadN X0.here hx rfl (hb hby own_d_method_4_code_116) rfl k) ?_
              show own_Gl p e below _ (s₁.setTop (mkF m 117 #[.val (.int p1), .val (.int q)] [(.int p1)]))
              refine own_st (fun t k => XS.bipush X0.here hx rfl (hb hby own_d_method_4_code_117) k) ?_
              show own_Gl p e below _ (s₁.setTop (mkF m 119 #[.val (.int p1), .val (.int q)] [(.int (6 : Int32)), (.int p1)]))
              by_cases hc119_16 : p1 = (6 : Int32)
              ·
                show own_Gl p e below _ (s₁.setTop (mkF m 119 #[.val (.int p1), .val (.int q)] [(.int (6 : Int32)), (.int p1)]))
                refine own_st (fun t k => XS.icmpNo X0.here hx rfl (hb hby own_d_method_4_code_119) rfl (teq (hc119_16)).2 k) ?_
                show own_Gl p e below _ (s₁.setTop (mkF m 122 #[.val (.int p1), .val (.int q)] []))
                refine own_st (fun t k => XS.iloadN X0.here hx rfl (hb hby own_d_method_4_code_122) rfl k) ?_
                show own_Gl p e below _ (s₁.setTop (mkF m 123 #[.val (.int p1), .val (.int q)] [(.int q)]))
                refine own_st (fun t k => XS.bipush X0.here hx rfl (hb hby own_d_method_4_code_123) k) ?_
                show own_Gl p e below _ (s₁.setTop (mkF m 125 #[.val (.int p1), .val (.int q)] [(.int (7 : Int32)), (.int q)]))
                by_cases hc125_17 : q = (7 : Int32)
                ·
                  show own_Gl p e below _ (s₁.setTop (mkF m 125 #[.val (.int p1), .val (.int q)] [(.int (7 : Int32)), (.int q)]))
                  refine own_st (fun t k => XS.icmpNo X0.here hx rfl (hb hby own_d_method_4_code_125) rfl (teq (hc125_17)).2 k) ?_
                  show own_Gl p e below _ (s₁.setTop (mkF m 128 #[.val (.int p1), .val (.int q)] []))
                  refine own_st (fun t k => XS.iconst X0.here hx rfl (hb hby own_d_method_4_code_128) k) ?_
                  show own_Gl p e below _ (s₁.setTop (mkF m 129 #[.val (.int p1), .val (.int q)] [(.int (1 : Int32))]))
                  refine own_st (fun t k => XS.goto X0.here hx rfl (pc0 := 129) (pc' := 133) rfl (hb hby own_d_method_4_code_129) (by decide) (by decide) k) ?_
                  show own_Gl p e below _ (s₁.setTop (mkF m 133 #[.val (.int p1), .val (.int q)] [(.int (1 : Int32))]))
                  exact own_retN X0 hx Bd.notSynchronized (t := .boolean) Bd.returns (by simp) (hb hby own_d_method_4_code_133) (by decide) (by decide) e0 (⟨by simp [own_b, own_codes, eq_false hc1_1, eq_false hc23_4, eq_false hc40_6, eq_false hc56_8, eq_false hc72_10, eq_false hc95_13, eq_true hc119_16, eq_true hc125_17] <;> first | rfl | decide, N0, rfl⟩)
                ·
                  show own_Gl p e below _ (s₁.setTop (mkF m 125 #[.val (.int p1), .val (.int q)] [(.int (7 : Int32)), (.int q)]))
                  refine own_st (fun t k => XS.icmpYes X0.here hx rfl (pc0 := 125) (pc' := 132) rfl (hb hby own_d_method_4_code_125) rfl (feq (hc125_17)).2 (by decide) (by decide) k) ?_
                  show own_Gl p e below _ (s₁.setTop (mkF m 132 #[.val (.int p1), .val (.int q)] []))
                  refine own_st (fun t k => XS.iconst X0.here hx rfl (hb hby own_d_method_4_code_132) k) ?_
                  show own_Gl p e below _ (s₁.setTop (mkF m 133 #[.val (.int p1), .val (.int q)] [(.int (0 : Int32))]))
                  exact own_retN X0 hx Bd.notSynchronized (t := .boolean) Bd.returns (by simp) (hb hby own_d_method_4_code_133) (by decide) (by decide) e0 (⟨by simp [own_b, own_codes, eq_false hc1_1, eq_false hc23_4, eq_false hc40_6, eq_false hc56_8, eq_false hc72_10, eq_false hc95_13, eq_true hc119_16, eq_false hc125_17] <;> first | rfl | decide, N0, rfl⟩)
              ·
                show own_Gl p e below _ (s₁.setTop (mkF m 119 #[.val (.int p1), .val (.int q)] [(.int (6 : Int32)), (.int p1)]))
                refine own_st (fun t k => XS.icmpYes X0.here hx rfl (pc0 := 119) (pc' := 134) rfl (hb hby own_d_method_4_code_119) rfl (feq (hc119_16)).2 (by decide) (by decide) k) ?_
                show own_Gl p e below _ (s₁.setTop (mkF m 134 #[.val (.int p1), .val (.int q)] []))
                refine own_st (fun t k => XS.iloadN X0.here hx rfl (hb hby own_d_method_4_code_134) rfl k) ?_
                show own_Gl p e below _ (s₁.setTop (mkF m 135 #[.val (.int p1), .val (.int q)] [(.int q)]))
                refine own_st (fun t k => XS.iconst X0.here hx rfl (hb hby own_d_method_4_code_135) k) ?_
                show own_Gl p e below _ (s₁.setTop (mkF m 136 #[.val (.int p1), .val (.int q)] [(.int (2 : Int32)), (.int q)]))
                by_cases hc136_18 : q = (2 : Int32)
                ·
                  show own_Gl p e below _ (s₁.setTop (mkF m 136 #[.val (.int p1), .val (.int q)] [(.int (2 : Int32)), (.int q)]))
                  refine own_st (fun t k => XS.icmpYes X0.here hx rfl (pc0 := 136) (pc' := 144) rfl (hb hby own_d_method_4_code_136) rfl (teq (hc136_18)).1 (by decide) (by decide) k) ?_
                  show own_Gl p e below _ (s₁.setTop (mkF m 144 #[.val (.int p1), .val (.int q)] []))
                  refine own_st (fun t k => XS.iconst X0.here hx rfl (hb hby own_d_method_4_code_144) k) ?_
                  show own_Gl p e below _ (s₁.setTop (mkF m 145 #[.val (.int p1), .val (.int q)] [(.int (1 : Int32))]))
                  refine own_st (fun t k => XS.goto X0.here hx rfl (pc0 := 145) (pc' := 149) rfl (hb hby own_d_method_4_code_145) (by decide) (by decide) k) ?_
                  show own_Gl p e below _ (s₁.setTop (mkF m 149 #[.val (.int p1), .val (.int q)] [(.int (1 : Int32))]))
                  exact own_retN X0 hx Bd.notSynchronized (t := .boolean) Bd.returns (by simp) (hb hby own_d_method_4_code_149) (by decide) (by decide) e0 (⟨by simp [own_b, own_codes, eq_false hc1_1, eq_false hc23_4, eq_false hc40_6, eq_false hc56_8, eq_false hc72_10, eq_false hc95_13, eq_false hc119_16, eq_true hc136_18] <;> first | rfl | decide, N0, rfl⟩)
                ·
                  show own_Gl p e below _ (s₁.setTop (mkF m 136 #[.val (.int p1), .val (.int q)] [(.int (2 : Int32)), (.int q)]))
                  refine own_st (fun t k => XS.icmpNo X0.here hx rfl (hb hby own_d_method_4_code_136) rfl (feq (hc136_18)).1 k) ?_
                  show own_Gl p e below _ (s₁.setTop (mkF m 139 #[.val (.int p1), .val (.int q)] []))
                  refine own_st (fun t k => XS.iloadN X0.here hx rfl (hb hby own_d_method_4_code_139) rfl k) ?_
                  show own_Gl p e below _ (s₁.setTop (mkF m 140 #[.val (.int p1), .val (.int q)] [(.int q)]))
                  refine own_st (fun t k => XS.iconst X0.here hx rfl (hb hby own_d_method_4_code_140) k) ?_
                  show own_Gl p e below _ (s₁.setTop (mkF m 141 #[.val (.int p1), .val (.int q)] [(.int (3 : Int32)), (.int q)]))
                  by_cases hc141_19 : q = (3 : Int32)
                  ·
                    show own_Gl p e below _ (s₁.setTop (mkF m 141 #[.val (.int p1), .val (.int q)] [(.int (3 : Int32)), (.int q)]))
                    refine own_st (fun t k => XS.icmpNo X0.here hx rfl (hb hby own_d_method_4_code_141) rfl (teq (hc141_19)).2 k) ?_
                    show own_Gl p e below _ (s₁.setTop (mkF m 144 #[.val (.int p1), .val (.int q)] []))
                    refine own_st (fun t k => XS.iconst X0.here hx rfl (hb hby own_d_method_4_code_144) k) ?_
                    show own_Gl p e below _ (s₁.setTop (mkF m 145 #[.val (.int p1), .val (.int q)] [(.int (1 : Int32))]))
                    refine own_st (fun t k => XS.goto X0.here hx rfl (pc0 := 145) (pc' := 149) rfl (hb hby own_d_method_4_code_145) (by decide) (by decide) k) ?_
                    show own_Gl p e below _ (s₁.setTop (mkF m 149 #[.val (.int p1), .val (.int q)] [(.int (1 : Int32))]))
                    exact own_retN X0 hx Bd.notSynchronized (t := .boolean) Bd.returns (by simp) (hb hby own_d_method_4_code_149) (by decide) (by decide) e0 (⟨by simp [own_b, own_codes, eq_false hc1_1, eq_false hc23_4, eq_false hc40_6, eq_false hc56_8, eq_false hc72_10, eq_false hc95_13, eq_false hc119_16, eq_false hc136_18, eq_true hc141_19] <;> first | rfl | decide, N0, rfl⟩)
                  ·
                    show own_Gl p e below _ (s₁.setTop (mkF m 141 #[.val (.int p1), .val (.int q)] [(.int (3 : Int32)), (.int q)]))
                    refine own_st (fun t k => XS.icmpYes X0.here hx rfl (pc0 := 141) (pc' := 148) rfl (hb hby own_d_method_4_code_141) rfl (feq (hc141_19)).2 (by decide) (by decide) k) ?_
                    show own_Gl p e below _ (s₁.setTop (mkF m 148 #[.val (.int p1), .val (.int q)] []))
                    refine own_st (fun t k => XS.iconst X0.here hx rfl (hb hby own_d_method_4_code_148) k) ?_
                    show own_Gl p e below _ (s₁.setTop (mkF m 149 #[.val (.int p1), .val (.int q)] [(.int (0 : Int32))]))
                    exact own_retN X0 hx Bd.notSynchronized (t := .boolean) Bd.returns (by simp) (hb hby own_d_method_4_code_149) (by decide) (by decide) e0 (⟨by simp [own_b, own_codes, eq_false hc1_1, eq_false hc23_4, eq_false hc40_6, eq_false hc56_8, eq_false hc72_10, eq_false hc95_13, eq_false hc119_16, eq_false hc136_18, eq_false hc141_19] <;> first | rfl | decide, N0, rfl⟩)
theorem own_pd0 : parseMethodDescriptor "(I)Lcom/example/bare_session/baresession/mapping/BasicType$Getter;" = some ⟨[.int], some (.object "com/example/bare_session/baresession/mapping/BasicType$Getter")⟩ := by decide +kernel
theorem own_pd1 : parseMethodDescriptor "(I)Z" = some ⟨[.int], some .boolean⟩ := by decide +kernel
theorem own_pd2 : parseMethodDescriptor "(II)Z" = some ⟨[.int, .int], some .boolean⟩ := by decide +kernel
theorem own_ef_law (m : MethodId) (x0 : Int32) (x1 : Int32) (x2 : Int32) : entryFrame m #[(.int x0), (.int x1), (.int x2)] maxLocals = mkF m 0 #[.val (.int x0), .val (.int x1), .val (.int x2), .unset, .unset, .unset] [] := by first | (simp [entryFrame, mkF, argsToLocals, Value.category, maxLocals]; done) | rfl
def own_Q_law (Z : State) (i0 i1 i2 : Int32) (ad0 ad1 ad2 ad3 ad4 ad5 ad6 ad7 : Addr) (h0 : Heap) (n0 : Nat) (v : Option Value) (h : Heap) (L : List Loc) : Prop := v = some (.int 1) ∧ Fr n0 L
set_option maxRecDepth 65536 in
set_option maxHeartbeats 40000000 in
theorem own_rm_law (l : Launch) (Z : State) (a0 : Array Value) (hw : ∀ d ∈ tables_1, d.before a0 Z = true) (ws : List Jvm.Cond) (i0 i1 i2 : Int32) (ad0 ad1 ad2 ad3 ad4 ad5 ad6 ad7 : Addr) (h0 : Heap) (n0 : Nat) (Z0 : n0 ≤ h0.size) (S_ad0 : Sta Z h0 "com/example/bare_session/baresession/mapping/BasicType$Getter" "STRING" "Lcom/example/bare_session/baresession/mapping/BasicType$Getter;" (.ref ad0)) (S_ad1 : Sta Z h0 "com/example/bare_session/baresession/mapping/BasicType$Getter" "LONG" "Lcom/example/bare_session/baresession/mapping/BasicType$Getter;" (.ref ad1)) (S_ad2 : Sta Z h0 "com/example/bare_session/baresession/mapping/BasicType$Getter" "INTEGER" "Lcom/example/bare_session/baresession/mapping/BasicType$Getter;" (.ref ad2)) (S_ad3 : Sta Z h0 "com/example/bare_session/baresession/mapping/BasicType$Getter" "SHORT" "Lcom/example/bare_session/baresession/mapping/BasicType$Getter;" (.ref ad3)) (S_ad4 : Sta Z h0 "com/example/bare_session/baresession/mapping/BasicType$Getter" "BOOLEAN" "Lcom/example/bare_session/baresession/mapping/BasicType$Getter;" (.ref ad4)) (S_ad5 : Sta Z h0 "com/example/bare_session/baresession/mapping/BasicType$Getter" "DOUBLE" "Lcom/example/bare_session/baresession/mapping/BasicType$Getter;" (.ref ad5)) (S_ad6 : Sta Z h0 "com/example/bare_session/baresession/mapping/BasicType$Getter" "FLOAT" "Lcom/example/bare_session/baresession/mapping/BasicType$Getter;" (.ref ad6)) (S_ad7 : Sta Z h0 "com/example/bare_session/baresession/mapping/BasicType$Getter" "DECIMAL" "Lcom/example/bare_session/baresession/mapping/BasicType$Getter;" (.ref ad7)) (P_ad0 : own_get Z h0 ad0 [1, 12]) (P_ad1 : own_get Z h0 ad1 [(-5)]) (P_ad2 : own_get Z h0 ad2 [4]) (P_ad3 : own_get Z h0 ad3 [5]) (P_ad4 : own_get Z h0 ad4 [16, (-7)]) (P_ad5 : own_get Z h0 ad5 [8, 6]) (P_ad6 : own_get Z h0 ad6 [7]) (P_ad7 : own_get Z h0 ad7 [2, 3]) :
    MetFree l x (head1 (Jvm.Cond.code x code maxLocals ret :: ws) room_1) (fun a U => a = #[(.int i0), (.int i1), (.int i2)] ∧ Z.Warmed39 U.vm ∧ U.heap = h0) (fun _ _ _ _ _ => True) (fun _ U o U' => ∃ v L, o = .returned v ∧ own_Q_law Z i0 i1 i2 ad0 ad1 ad2 ad3 ad4 ad5 ad6 ad7 h0 n0 v U'.heap L ∧ FrameEnd U o U' L room_1.cells room_1.slots) := by
  refine MetFree.of_bodySF (plainFor_of_name own_pn0) hisR ?_
  intro p e s m args below meth c s₁ Bd hml0 hP hK
  obtain ⟨rfl, hZ, hh⟩ := hP
  have hx := Bd.exec
  have hby := Bd.bytes
  have hml : c.maxLocals = 6 := hml0
  have hown : s.vm.findClass "com/example/bare_session/baresession/mapping/GetterReadsPinLaw" = some m.cls := findClass_of_methodNamed Bd.named
  have hnm := (name_of_methodNamed Bd.named Bd.method).1
  have X0 : Stand p l e room_1 s m #[(.int i0), (.int i1), (.int i2)] below meth c s₁ [] 0 0 := Stand.of_body Bd
  have e0 : s₁.heap = h0 := by rw [← hh, Bd.state]; rfl
  have N0 := Fr.nil n0
  show own_Gl p e below (own_Post s (own_Q_law Z i0 i1 i2 ad0 ad1 ad2 ad3 ad4 ad5 ad6 ad7 h0 n0) room_1.cells room_1.slots) _
  refine own_st (fun t k => castTop (own_ef_law m i0 i1 i2) k) ?_
  show own_Gl p e below _ (s₁.setTop (mkF m 0 #[.val (.int i0), .val (.int i1), .val (.int i2), .unset, .unset, .unset] []))
  refine own_st (fun t k => XS.iloadN X0.here hx rfl (hb hby at_0) rfl k) ?_
  show own_Gl p e below _ (s₁.setTop (mkF m 1 #[.val (.int i0), .val (.int i1), .val (.int i2), .unset, .unset, .unset] [(.int i0)]))
  refine own_st (fun t k => XS.bipush X0.here hx rfl (hb hby at_1) k) ?_
  show own_Gl p e below _ (s₁.setTop (mkF m 3 #[.val (.int i0), .val (.int i1), .val (.int i2), .unset, .unset, .unset] [(.int (7 : Int32)), (.int i0)]))
  refine own_st (fun t k => XS.iand X0.here hx rfl (hb hby at_3) rfl k) ?_
  show own_Gl p e below _ (s₁.setTop (mkF m 4 #[.val (.int i0), .val (.int i1), .val (.int i2), .unset, .unset, .unset] [(.int (i0 &&& (7 : Int32)))]))
  refine own_st (fun t k => XS.istoreN X0.here hx rfl (hb hby at_4) rfl (l' := #[.val (.int i0), .val (.int i1), .val (.int i2), .val (.int (i0 &&& (7 : Int32))), .unset, .unset]) rfl k) ?_
  show own_Gl p e below _ (s₁.setTop (mkF m 5 #[.val (.int i0), .val (.int i1), .val (.int i2), .val (.int (i0 &&& (7 : Int32))), .unset, .unset] []))
  refine own_st (fun t k => XS.iloadN X0.here hx rfl (hb hby at_5) rfl k) ?_
  show own_Gl p e below _ (s₁.setTop (mkF m 6 #[.val (.int i0), .val (.int i1), .val (.int i2), .val (.int (i0 &&& (7 : Int32))), .unset, .unset] [(.int i1)]))
  refine own_st (fun t k => XS.istore X0.here hx rfl (hb hby at_6) rfl (l' := #[.val (.int i0), .val (.int i1), .val (.int i2), .val (.int (i0 &&& (7 : Int32))), .val (.int i1), .unset]) rfl k) ?_
  show own_Gl p e below _ (s₁.setTop (mkF m 8 #[.val (.int i0), .val (.int i1), .val (.int i2), .val (.int (i0 &&& (7 : Int32))), .val (.int i1), .unset] []))
  refine own_st (fun t k => XS.iloadN X0.here hx rfl (hb hby at_8) rfl k) ?_
  show own_Gl p e below _ (s₁.setTop (mkF m 9 #[.val (.int i0), .val (.int i1), .val (.int i2), .val (.int (i0 &&& (7 : Int32))), .val (.int i1), .unset] [(.int i2)]))
  refine own_st (fun t k => XS.iconst X0.here hx rfl (hb hby at_9) k) ?_
  show own_Gl p e below _ (s₁.setTop (mkF m 10 #[.val (.int i0), .val (.int i1), .val (.int i2), .val (.int (i0 &&& (7 : Int32))), .val (.int i1), .unset] [(.int (1 : Int32)), (.int i2)]))
  refine own_st (fun t k => XS.iand X0.here hx rfl (hb hby at_10) rfl k) ?_
  show own_Gl p e below _ (s₁.setTop (mkF m 11 #[.val (.int i0), .val (.int i1), .val (.int i2), .val (.int (i0 &&& (7 : Int32))), .val (.int i1), .unset] [(.int (i2 &&& (1 : Int32)))]))
  by_cases hc11_1 : (i2 &&& (1 : Int32)) = (0 : Int32)
  ·
    show own_Gl p e below _ (s₁.setTop (mkF m 11 #[.val (.int i0), .val (.int i1), .val (.int i2), .val (.int (i0 &&& (7 : Int32))), .val (.int i1), .unset] [(.int (i2 &&& (1 : Int32)))]))
    refine own_st (fun t k => XS.ifYes X0.here hx rfl (pc0 := 11) (pc' := 115) rfl (hb hby at_11) rfl ((if0 _ _).trans (teq (hc11_1)).1) (by decide) (by decide) k) ?_
    show own_Gl p e below _ (s₁.setTop (mkF m 115 #[.val (.int i0), .val (.int i1), .val (.int i2), .val (.int (i0 &&& (7 : Int32))), .val (.int i1), .unset] []))
    refine own_st (fun t k => XS.iloadN X0.here hx rfl (hb hby at_115) rfl k) ?_
    show own_Gl p e below _ (s₁.setTop (mkF m 116 #[.val (.int i0), .val (.int i1), .val (.int i2), .val (.int (i0 &&& (7 : Int32))), .val (.int i1), .unset] [(.int (i0 &&& (7 : Int32)))]))
    obtain ⟨_, _, ⟨T2, L2, k2, n2⟩, -, X2, ⟨Lc2, hQ2, l2, y2, z2⟩, st2⟩ := Jvm.LawKit.callS X0 hx (y := (⟨"com/example/bare_session/baresession/mapping/GetterReadsPinLaw", "getterOf", "(I)Lcom/example/bare_session/baresession/mapping/BasicType$Getter;"⟩ : MethodName)) hown (mvT hZ (hw _ (List.mem_of_getElem? (i := 0) rfl))) (mvT hZ (hw _ (List.mem_of_getElem? (i := 1) rfl))) (mvT hZ (hw _ (List.mem_of_getElem? (i := 2) rfl))) (mvT hZ (hw _ (List.mem_of_getElem? (i := 3) rfl))) (by decide) (backOf (W := 0) (own_rm_get l Z a0 hw [] (i0 &&& (7 : Int32)) ad0 ad1 ad2 ad3 ad4 ad5 ad6 ad7 h0 n0 Z0 S_ad0 S_ad1 S_ad2 S_ad3 S_ad4 S_ad5 S_ad6 S_ad7 P_ad0 P_ad1 P_ad2 P_ad3 P_ad4 P_ad5 P_ad6 P_ad7) hZ (hw _ (List.mem_of_getElem? (i := 3) rfl)) (hw _ (List.mem_of_getElem? (i := 2) rfl)) (by decide) (by decide)) (g := (mkF m 116 #[.val (.int i0), .val (.int i1), .val (.int i2), .val (.int (i0 &&& (7 : Int32))), .val (.int i1), .unset] [(.int (i0 &&& (7 : Int32)))])) rfl (by rw [hml]; rfl) (argsL := [(.int (i0 &&& (7 : Int32)))]) (rest := []) (lenOf own_pd0 rfl) rfl (by show 2 * 0 + _ ≤ _; exact Nat.le_of_eq rfl) (hb hby at_116) (fun _ _ => ⟨rfl, e0, (by decide : 0 + 0 ≤ _), (by decide : 0 + 0 ≤ _)⟩)
    dsimp only [Pt.U, Pt.locs, Pt.cells, Pt.slots] at X2 l2 y2 z2 st2 hQ2
    subst l2 y2 z2
    obtain ⟨⟨r, rfl, Pr⟩, N2q, e2⟩ := hQ2
    have N2 := Fr.app N0 N2q
    refine own_st st2 ?_
    show own_Gl p e below _ (T2.setTop (mkF m 119 #[.val (.int i0), .val (.int i1), .val (.int i2), .val (.int (i0 &&& (7 : Int32))), .val (.int i1), .unset] [(.ref r)]))
    have E_r := Pr.1
    refine own_st (fun t k => XS.astore X2.here hx rfl (hb hby at_119) rfl rfl (l' := #[.val (.int i0), .val (.int i1), .val (.int i2), .val (.int (i0 &&& (7 : Int32))), .val (.int i1), .val (.ref r)]) rfl k) ?_
    show own_Gl p e below _ (T2.setTop (mkF m 121 #[.val (.int i0), .val (.int i1), .val (.int i2), .val (.int (i0 &&& (7 : Int32))), .val (.int i1), .val (.ref r)] []))
    refine own_st (fun t k => XS.aload X2.here hx rfl (hb hby at_121) rfl rfl k) ?_
    show own_Gl p e below _ (T2.setTop (mkF m 123 #[.val (.int i0), .val (.int i1), .val (.int i2), .val (.int (i0 &&& (7 : Int32))), .val (.int i1), .val (.ref r)] [(.ref r)]))
    refine own_st (fun t k => XS.iload X2.here hx rfl (hb hby at_123) rfl k) ?_
    show own_Gl p e below _ (T2.setTop (mkF m 125 #[.val (.int i0), .val (.int i1), .val (.int i2), .val (.int (i0 &&& (7 : Int32))), .val (.int i1), .val (.ref r)] [(.int i1), (.ref r)]))
    have hcd := own_two (i0 &&& (7 : Int32))
    rcases hcd with ⟨x, hcd⟩ | ⟨x, y, hcd⟩
    ·
      rw [hcd] at Pr
      show own_Gl p e below _ (T2.setTop (mkF m 125 #[.val (.int i0), .val (.int i1), .val (.int i2), .val (.int (i0 &&& (7 : Int32))), .val (.int i1), .val (.ref r)] [(.int i1), (.ref r)]))
      obtain ⟨cq3, kq3, q3a, q3b, q3c⟩ := isOf hZ e2 E_r
      obtain ⟨_, _, ⟨T3, L3, k3, n3⟩, -, X3, ⟨Lc3, hQ3, l3, y3, z3⟩, st3⟩ := X2.virtualBack hx (y := (⟨"com/example/bare_session/baresession/mapping/BasicType$Getter", "reads", "(I)Z"⟩ : MethodName)) (z := (⟨"com/example/bare_session/baresession/mapping/BasicType$Getter", "reads", "(I)Z"⟩ : MethodName)) hown (mvT hZ (hw _ (List.mem_of_getElem? (i := 7) rfl))) (mvT hZ (hw _ (List.mem_of_getElem? (i := 8) rfl))) (notFace_of_selects (args := #[]) (mvT hZ (hw _ (List.mem_of_getElem? (i := 10) rfl)))) (mvT hZ (hw _ (List.mem_of_getElem? (i := 10) rfl))) (mvT hZ (hw _ (List.mem_of_getElem? (i := 9) rfl))) (by decide) (backOf (W := 0) (own_rm_rd1 l Z a0 hw [] r i1 x h0 n0 Z0 Pr) hZ (hw _ (List.mem_of_getElem? (i := 11) rfl)) (hw _ (List.mem_of_getElem? (i := 5) rfl)) (by decide) (by decide)) q3a q3c (g := (mkF m 125 #[.val (.int i0), .val (.int i1), .val (.int i2), .val (.int (i0 &&& (7 : Int32))), .val (.int i1), .val (.ref r)] [(.int i1), (.ref r)])) rfl (by rw [hml]; rfl) (Steps.refl _) (argsL := [(.int i1)]) (rest := []) (lenOf own_pd1 rfl) rfl (by show 2 * 0 + _ ≤ _; exact Nat.le_of_eq rfl) (hb hby at_125) (fun _ _ => ⟨rfl, e2, (by decide : 0 + 0 ≤ _), (by decide : 0 + 0 ≤ _)⟩)
      dsimp only [Pt.U, Pt.locs, Pt.cells, Pt.slots] at X3 l3 y3 z3 st3 hQ3
      subst l3 y3 z3
      obtain ⟨rfl, N3q, e3⟩ := hQ3
      have N3 := Fr.app N2 N3q
      refine own_tr st3 ?_
      show own_Gl p e below _ (T3.setTop (mkF m 128 #[.val (.int i0), .val (.int i1), .val (.int i2), .val (.int (i0 &&& (7 : Int32))), .val (.int i1), .val (.ref r)] [(.int (own_b (i1 ∈ [x])))]))
      refine own_st (fun t k => XS.iloadN X3.here hx rfl (hb hby at_128) rfl k) ?_
      show own_Gl p e below _ (T3.setTop (mkF m 129 #[.val (.int i0), .val (.int i1), .val (.int i2), .val (.int (i0 &&& (7 : Int32))), .val (.int i1), .val (.ref r)] [(.int (i0 &&& (7 : Int32))), (.int (own_b (i1 ∈ [x])))]))
      refine own_st (fun t k => XS.iload X3.here hx rfl (hb hby at_129) rfl k) ?_
      show own_Gl p e below _ (T3.setTop (mkF m 131 #[.val (.int i0), .val (.int i1), .val (.int i2), .val (.int (i0 &&& (7 : Int32))), .val (.int i1), .val (.ref r)] [(.int i1), (.int (i0 &&& (7 : Int32))), (.int (own_b (i1 ∈ [x])))]))
      obtain ⟨_, _, ⟨T4, L4, k4, n4⟩, -, X4, ⟨Lc4, hQ4, l4, y4, z4⟩, st4⟩ := Jvm.LawKit.callS X3 hx (y := (⟨"com/example/bare_session/baresession/mapping/GetterReadsPinLaw", "expected", "(II)Z"⟩ : MethodName)) hown (mvT hZ (hw _ (List.mem_of_getElem? (i := 14) rfl))) (mvT hZ (hw _ (List.mem_of_getElem? (i := 15) rfl))) (mvT hZ (hw _ (List.mem_of_getElem? (i := 2) rfl))) (mvT hZ (hw _ (List.mem_of_getElem? (i := 16) rfl))) (by decide) (backOf (W := 1) (own_rm_exp l Z a0 hw [] (i0 &&& (7 : Int32)) i1 h0 n0 Z0) hZ (hw _ (List.mem_of_getElem? (i := 16) rfl)) (hw _ (List.mem_of_getElem? (i := 2) rfl)) (by decide) (by decide)) (g := (mkF m 131 #[.val (.int i0), .val (.int i1), .val (.int i2), .val (.int (i0 &&& (7 : Int32))), .val (.int i1), .val (.ref r)] [(.int i1), (.int (i0 &&& (7 : Int32))), (.int (own_b (i1 ∈ [x])))])) rfl (by rw [hml]; rfl) (argsL := [(.int (i0 &&& (7 : Int32))), (.int i1)]) (rest := [(.int (own_b (i1 ∈ [x])))]) (lenOf own_pd2 rfl) rfl (by show 2 * 0 + _ ≤ _; exact Nat.le_of_eq rfl) (hb hby at_131) (fun _ _ => ⟨rfl, e3, (by decide : 0 + 0 ≤ _), (by decide : 0 + 0 ≤ _)⟩)
      dsimp only [Pt.U, Pt.locs, Pt.cells, Pt.slots] at X4 l4 y4 z4 st4 hQ4
      subst l4 y4 z4
      obtain ⟨rfl, N4q, e4⟩ := hQ4
      have N4 := Fr.app N3 N4q
      refine own_st st4 ?_
      show own_Gl p e below _ (T4.setTop (mkF m 134 #[.val (.int i0), .val (.int i1), .val (.int i2), .val (.int (i0 &&& (7 : Int32))), .val (.int i1), .val (.ref r)] [(.int (own_b (i1 ∈ own_codes (i0 &&& (7 : Int32))))), (.int (own_b (i1 ∈ [x])))]))
      refine own_st (fun t k => XS.icmpNo X4.here hx rfl (hb hby at_134) rfl (teq (by simp only [hcd])).2 k) ?_
      show own_Gl p e below _ (T4.setTop (mkF m 137 #[.val (.int i0), .val (.int i1), .val (.int i2), .val (.int (i0 &&& (7 : Int32))), .val (.int i1), .val (.ref r)] []))
      refine own_st (fun t k => XS.iconst X4.here hx rfl (hb hby at_137) k) ?_
      show own_Gl p e below _ (T4.setTop (mkF m 138 #[.val (.int i0), .val (.int i1), .val (.int i2), .val (.int (i0 &&& (7 : Int32))), .val (.int i1), .val (.ref r)] [(.int (1 : Int32))]))
      refine own_st (fun t k => XS.goto X4.here hx rfl (pc0 := 138) (pc' := 142) rfl (hb hby at_138) (by decide) (by decide) k) ?_
      show own_Gl p e below _ (T4.setTop (mkF m 142 #[.val (.int i0), .val (.int i1), .val (.int i2), .val (.int (i0 &&& (7 : Int32))), .val (.int i1), .val (.ref r)] [(.int (1 : Int32))]))
      exact own_retN X4 hx Bd.notSynchronized (t := .boolean) Bd.returns (by simp) (hb hby at_142) (by decide) (by decide) e4 (⟨rfl, N4⟩)
    ·
      rw [hcd] at Pr
      show own_Gl p e below _ (T2.setTop (mkF m 125 #[.val (.int i0), .val (.int i1), .val (.int i2), .val (.int (i0 &&& (7 : Int32))), .val (.int i1), .val (.ref r)] [(.int i1), (.ref r)]))
      obtain ⟨cq5, kq5, q5a, q5b, q5c⟩ := isOf hZ e2 E_r
      obtain ⟨_, _, ⟨T5, L5, k5, n5⟩, -, X5, ⟨Lc5, hQ5, l5, y5, z5⟩, st5⟩ := X2.virtualBack hx (y := (⟨"com/example/bare_session/baresession/mapping/BasicType$Getter", "reads", "(I)Z"⟩ : MethodName)) (z := (⟨"com/example/bare_session/baresession/mapping/BasicType$Getter", "reads", "(I)Z"⟩ : MethodName)) hown (mvT hZ (hw _ (List.mem_of_getElem? (i := 7) rfl))) (mvT hZ (hw _ (List.mem_of_getElem? (i := 8) rfl))) (notFace_of_selects (args := #[]) (mvT hZ (hw _ (List.mem_of_getElem? (i := 10) rfl)))) (mvT hZ (hw _ (List.mem_of_getElem? (i := 10) rfl))) (mvT hZ (hw _ (List.mem_of_getElem? (i := 9) rfl))) (by decide) (backOf (W := 0) (own_rm_rd2 l Z a0 hw [] r i1 x y h0 n0 Z0 Pr) hZ (hw _ (List.mem_of_getElem? (i := 11) rfl)) (hw _ (List.mem_of_getElem? (i := 5) rfl)) (by decide) (by decide)) q5a q5c (g := (mkF m 125 #[.val (.int i0), .val (.int i1), .val (.int i2), .val (.int (i0 &&& (7 : Int32))), .val (.int i1), .val (.ref r)] [(.int i1), (.ref r)])) rfl (by rw [hml]; rfl) (Steps.refl _) (argsL := [(.int i1)]) (rest := []) (lenOf own_pd1 rfl) rfl (by show 2 * 0 + _ ≤ _; exact Nat.le_of_eq rfl) (hb hby at_125) (fun _ _ => ⟨rfl, e2, (by decide : 0 + 0 ≤ _), (by decide : 0 + 0 ≤ _)⟩)
      dsimp only [Pt.U, Pt.locs, Pt.cells, Pt.slots] at X5 l5 y5 z5 st5 hQ5
      subst l5 y5 z5
      obtain ⟨rfl, N5q, e5⟩ := hQ5
      have N5 := Fr.app N2 N5q
      refine own_tr st5 ?_
      show own_Gl p e below _ (T5.setTop (mkF m 128 #[.val (.int i0), .val (.int i1), .val (.int i2), .val (.int (i0 &&& (7 : Int32))), .val (.int i1), .val (.ref r)] [(.int (own_b (i1 ∈ [x, y])))]))
      refine own_st (fun t k => XS.iloadN X5.here hx rfl (hb hby at_128) rfl k) ?_
      show own_Gl p e below _ (T5.setTop (mkF m 129 #[.val (.int i0), .val (.int i1), .val (.int i2), .val (.int (i0 &&& (7 : Int32))), .val (.int i1), .val (.ref r)] [(.int (i0 &&& (7 : Int32))), (.int (own_b (i1 ∈ [x, y])))]))
      refine own_st (fun t k => XS.iload X5.here hx rfl (hb hby at_129) rfl k) ?_
      show own_Gl p e below _ (T5.setTop (mkF m 131 #[.val (.int i0), .val (.int i1), .val (.int i2), .val (.int (i0 &&& (7 : Int32))), .val (.int i1), .val (.ref r)] [(.int i1), (.int (i0 &&& (7 : Int32))), (.int (own_b (i1 ∈ [x, y])))]))
      obtain ⟨_, _, ⟨T6, L6, k6, n6⟩, -, X6, ⟨Lc6, hQ6, l6, y6, z6⟩, st6⟩ := Jvm.LawKit.callS X5 hx (y := (⟨"com/example/bare_session/baresession/mapping/GetterReadsPinLaw", "expected", "(II)Z"⟩ : MethodName)) hown (mvT hZ (hw _ (List.mem_of_getElem? (i := 14) rfl))) (mvT hZ (hw _ (List.mem_of_getElem? (i := 15) rfl))) (mvT hZ (hw _ (List.mem_of_getElem? (i := 2) rfl))) (mvT hZ (hw _ (List.mem_of_getElem? (i := 16) rfl))) (by decide) (backOf (W := 1) (own_rm_exp l Z a0 hw [] (i0 &&& (7 : Int32)) i1 h0 n0 Z0) hZ (hw _ (List.mem_of_getElem? (i := 16) rfl)) (hw _ (List.mem_of_getElem? (i := 2) rfl)) (by decide) (by decide)) (g := (mkF m 131 #[.val (.int i0), .val (.int i1), .val (.int i2), .val (.int (i0 &&& (7 : Int32))), .val (.int i1), .val (.ref r)] [(.int i1), (.int (i0 &&& (7 : Int32))), (.int (own_b (i1 ∈ [x, y])))])) rfl (by rw [hml]; rfl) (argsL := [(.int (i0 &&& (7 : Int32))), (.int i1)]) (rest := [(.int (own_b (i1 ∈ [x, y])))]) (lenOf own_pd2 rfl) rfl (by show 2 * 0 + _ ≤ _; exact Nat.le_of_eq rfl) (hb hby at_131) (fun _ _ => ⟨rfl, e5, (by decide : 0 + 0 ≤ _), (by decide : 0 + 0 ≤ _)⟩)
      dsimp only [Pt.U, Pt.locs, Pt.cells, Pt.slots] at X6 l6 y6 z6 st6 hQ6
      subst l6 y6 z6
      obtain ⟨rfl, N6q, e6⟩ := hQ6
      have N6 := Fr.app N5 N6q
      refine own_st st6 ?_
      show own_Gl p e below _ (T6.setTop (mkF m 134 #[.val (.int i0), .val (.int i1), .val (.int i2), .val (.int (i0 &&& (7 : Int32))), .val (.int i1), .val (.ref r)] [(.int (own_b (i1 ∈ own_codes (i0 &&& (7 : Int32))))), (.int (own_b (i1 ∈ [x, y])))]))
      refine own_st (fun t k => XS.icmpNo X6.here hx rfl (hb hby at_134) rfl (teq (by simp only [hcd])).2 k) ?_
      show own_Gl p e below _ (T6.setTop (mkF m 137 #[.val (.int i0), .val (.int i1), .val (.int i2), .val (.int (i0 &&& (7 : Int32))), .val (.int i1), .val (.ref r)] []))
      refine own_st (fun t k => XS.iconst X6.here hx rfl (hb hby at_137) k) ?_
      show own_Gl p e below _ (T6.setTop (mkF m 138 #[.val (.int i0), .val (.int i1), .val (.int i2), .val (.int (i0 &&& (7 : Int32))), .val (.int i1), .val (.ref r)] [(.int (1 : Int32))]))
      refine own_st (fun t k => XS.goto X6.here hx rfl (pc0 := 138) (pc' := 142) rfl (hb hby at_138) (by decide) (by decide) k) ?_
      show own_Gl p e below _ (T6.setTop (mkF m 142 #[.val (.int i0), .val (.int i1), .val (.int i2), .val (.int (i0 &&& (7 : Int32))), .val (.int i1), .val (.ref r)] [(.int (1 : Int32))]))
      exact own_retN X6 hx Bd.notSynchronized (t := .boolean) Bd.returns (by simp) (hb hby at_142) (by decide) (by decide) e6 (⟨rfl, N6⟩)
  ·
    show own_Gl p e below _ (s₁.setTop (mkF m 11 #[.val (.int i0), .val (.int i1), .val (.int i2), .val (.int (i0 &&& (7 : Int32))), .val (.int i1), .unset] [(.int (i2 &&& (1 : Int32)))]))
    refine own_st (fun t k => XS.ifNo X0.here hx rfl (hb hby at_11) rfl ((if0 _ _).trans (feq (hc11_1)).1) k) ?_
    show own_Gl p e below _ (s₁.setTop (mkF m 14 #[.val (.int i0), .val (.int i1), .val (.int i2), .val (.int (i0 &&& (7 : Int32))), .val (.int i1), .unset] []))
    refine own_st (fun t k => XS.bipush X0.here hx rfl (hb hby at_14) k) ?_
    show own_Gl p e below _ (s₁.setTop (mkF m 16 #[.val (.int i0), .val (.int i1), .val (.int i2), .val (.int (i0 &&& (7 : Int32))), .val (.int i1), .unset] [(.int (16 : Int32))]))
    obtain ⟨T7, h7, k7, X7, e7, E7, A7, st7⟩ := newP X0 hx hZ (hw _ (List.mem_of_getElem? (i := 17) rfl)) e0 (g := (mkF m 16 #[.val (.int i0), .val (.int i1), .val (.int i2), .val (.int (i0 &&& (7 : Int32))), .val (.int i1), .unset] [(.int (16 : Int32))])) rfl (hb hby at_16) rfl (by decide) (cap := 16) (by decide) (by decide) (by decide) (by decide)
    obtain ⟨b7, g7⟩ : ∃ z, z = h0.size := ⟨_, rfl⟩
    have sz_b7 : h0.size ≤ b7 := Nat.le_of_eq g7.symm
    have g_b7 : n0 ≤ b7 := Nat.le_trans Z0 sz_b7
    rw [← g7] at A7 st7
    have V_b7 : Arv Z h7 b7 k7 .int (16 : Int32) [(.int (0 : Int32)), (.int (0 : Int32)), (.int (0 : Int32)), (.int (0 : Int32)), (.int (0 : Int32)), (.int (0 : Int32)), (.int (0 : Int32)), (.int (0 : Int32)), (.int (0 : Int32)), (.int (0 : Int32)), (.int (0 : Int32)), (.int (0 : Int32)), (.int (0 : Int32)), (.int (0 : Int32)), (.int (0 : Int32)), (.int (0 : Int32))] (.int (0 : Int32)) := (Arv.new A7 (by decide)).pad (pad_rep [] (.int (0 : Int32)) 16)
    refine own_st st7 ?_
    show own_Gl p e below _ (T7.setTop (mkF m 18 #[.val (.int i0), .val (.int i1), .val (.int i2), .val (.int (i0 &&& (7 : Int32))), .val (.int i1), .unset] [(.ref b7)]))
    refine own_st (fun t k => XS.dup X7.here hx rfl (hb hby at_18) rfl rfl k) ?_
    show own_Gl p e below _ (T7.setTop (mkF m 19 #[.val (.int i0), .val (.int i1), .val (.int i2), .val (.int (i0 &&& (7 : Int32))), .val (.int i1), .unset] [(.ref b7), (.ref b7)]))
    refine own_st (fun t k => XS.iconst X7.here hx rfl (hb hby at_19) k) ?_
    show own_Gl p e below _ (T7.setTop (mkF m 20 #[.val (.int i0), .val (.int i1), .val (.int i2), .val (.int (i0 &&& (7 : Int32))), .val (.int i1), .unset] [(.int (0 : Int32)), (.ref b7), (.ref b7)]))
    refine own_st (fun t k => XS.iconst X7.here hx rfl (hb hby at_20) k) ?_
    show own_Gl p e below _ (T7.setTop (mkF m 21 #[.val (.int i0), .val (.int i1), .val (.int i2), .val (.int (i0 &&& (7 : Int32))), .val (.int i1), .unset] [(.int (1 : Int32)), (.int (0 : Int32)), (.ref b7), (.ref b7)]))
    obtain ⟨cl9, Ar9, qa9, Sa9, Na9, Ha9, Ga9⟩ := id V_b7
    have hin10 : ¬ ((0 : Int32) < 0 ∨ cl9.slots.size ≤ ((0 : Int32)).toNatClampNeg) := inb_of Sa9 ⟨by decide, by decide⟩
    obtain ⟨T10, h10, X10, e10, W10, st10⟩ := stI X7 hx hZ e7 Ar9 (j := (0 : Int32)) hin10 (g := (mkF m 21 #[.val (.int i0), .val (.int i1), .val (.int i2), .val (.int (i0 &&& (7 : Int32))), .val (.int i1), .unset] [(.int (1 : Int32)), (.int (0 : Int32)), (.ref b7), (.ref b7)])) rfl rfl (hb hby at_21)
    have N10 := Fr.snoc X10 N0 g_b7
    have K11 := own_ext_wr E7 W10 sz_b7
    have V_b7 : Arv Z h10 b7 k7 .int (16 : Int32) [(.int (1 : Int32)), (.int (0 : Int32)), (.int (0 : Int32)), (.int (0 : Int32)), (.int (0 : Int32)), (.int (0 : Int32)), (.int (0 : Int32)), (.int (0 : Int32)), (.int (0 : Int32)), (.int (0 : Int32)), (.int (0 : Int32)), (.int (0 : Int32)), (.int (0 : Int32)), (.int (0 : Int32)), (.int (0 : Int32)), (.int (0 : Int32))] (.int (0 : Int32)) := Arv.set Ar9 qa9 Sa9 Na9 Ha9 Ga9 rfl W10 0 rfl (Nat.le_of_ble_eq_true rfl)
    refine own_st st10 ?_
    show own_Gl p e below _ (T10.setTop (mkF m 22 #[.val (.int i0), .val (.int i1), .val (.int i2), .val (.int (i0 &&& (7 : Int32))), .val (.int i1), .unset] [(.ref b7)]))
    refine own_st (fun t k => XS.dup X10.here hx rfl (hb hby at_22) rfl rfl k) ?_
    show own_Gl p e below _ (T10.setTop (mkF m 23 #[.val (.int i0), .val (.int i1), .val (.int i2), .val (.int (i0 &&& (7 : Int32))), .val (.int i1), .unset] [(.ref b7), (.ref b7)]))
    refine own_st (fun t k => XS.iconst X10.here hx rfl (hb hby at_23) k) ?_
    show own_Gl p e below _ (T10.setTop (mkF m 24 #[.val (.int i0), .val (.int i1), .val (.int i2), .val (.int (i0 &&& (7 : Int32))), .val (.int i1), .unset] [(.int (1 : Int32)), (.ref b7), (.ref b7)]))
    refine own_st (fun t k => XS.bipush X10.here hx rfl (hb hby at_24) k) ?_
    show own_Gl p e below _ (T10.setTop (mkF m 26 #[.val (.int i0), .val (.int i1), .val (.int i2), .val (.int (i0 &&& (7 : Int32))), .val (.int i1), .unset] [(.int (12 : Int32)), (.int (1 : Int32)), (.ref b7), (.ref b7)]))
    obtain ⟨cl12, Ar12, qa12, Sa12, Na12, Ha12, Ga12⟩ := id V_b7
    have hin13 : ¬ ((1 : Int32) < 0 ∨ cl12.slots.size ≤ ((1 : Int32)).toNatClampNeg) := inb_of Sa12 ⟨by decide, by decide⟩
    obtain ⟨T13, h13, X13, e13, W13, st13⟩ := stI X10 hx hZ e10 Ar12 (j := (1 : Int32)) hin13 (g := (mkF m 26 #[.val (.int i0), .val (.int i1), .val (.int i2), .val (.int (i0 &&& (7 : Int32))), .val (.int i1), .unset] [(.int (12 : Int32)), (.int (1 : Int32)), (.ref b7), (.ref b7)])) rfl rfl (hb hby at_26)
    have N13 := Fr.snoc X13 N10 g_b7
    have K14 := own_ext_wr K11 W13 sz_b7
    have V_b7 : Arv Z h13 b7 k7 .int (16 : Int32) [(.int (1 : Int32)), (.int (12 : Int32)), (.int (0 : Int32)), (.int (0 : Int32)), (.int (0 : Int32)), (.int (0 : Int32)), (.int (0 : Int32)), (.int (0 : Int32)), (.int (0 : Int32)), (.int (0 : Int32)), (.int (0 : Int32)), (.int (0 : Int32)), (.int (0 : Int32)), (.int (0 : Int32)), (.int (0 : Int32)), (.int (0 : Int32))] (.int (0 : Int32)) := Arv.set Ar12 qa12 Sa12 Na12 Ha12 Ga12 rfl W13 1 rfl (Nat.le_of_ble_eq_true rfl)
    refine own_st st13 ?_
    show own_Gl p e below _ (T13.setTop (mkF m 27 #[.val (.int i0), .val (.int i1), .val (.int i2), .val (.int (i0 &&& (7 : Int32))), .val (.int i1), .unset] [(.ref b7)]))
    refine own_st (fun t k => XS.dup X13.here hx rfl (hb hby at_27) rfl rfl k) ?_
    show own_Gl p e below _ (T13.setTop (mkF m 28 #[.val (.int i0), .val (.int i1), .val (.int i2), .val (.int (i0 &&& (7 : Int32))), .val (.int i1), .unset] [(.ref b7), (.ref b7)]))
    refine own_st (fun t k => XS.iconst X13.here hx rfl (hb hby at_28) k) ?_
    show own_Gl p e below _ (T13.setTop (mkF m 29 #[.val (.int i0), .val (.int i1), .val (.int i2), .val (.int (i0 &&& (7 : Int32))), .val (.int i1), .unset] [(.int (2 : Int32)), (.ref b7), (.ref b7)]))
    refine own_st (fun t k => XS.bipush X13.here hx rfl (hb hby at_29) k) ?_
    show own_Gl p e below _ (T13.setTop (mkF m 31 #[.val (.int i0), .val (.int i1), .val (.int i2), .val (.int (i0 &&& (7 : Int32))), .val (.int i1), .unset] [(.int (-5 : Int32)), (.int (2 : Int32)), (.ref b7), (.ref b7)]))
    obtain ⟨cl15, Ar15, qa15, Sa15, Na15, Ha15, Ga15⟩ := id V_b7
    have hin16 : ¬ ((2 : Int32) < 0 ∨ cl15.slots.size ≤ ((2 : Int32)).toNatClampNeg) := inb_of Sa15 ⟨by decide, by decide⟩
    obtain ⟨T16, h16, X16, e16, W16, st16⟩ := stI X13 hx hZ e13 Ar15 (j := (2 : Int32)) hin16 (g := (mkF m 31 #[.val (.int i0), .val (.int i1), .val (.int i2), .val (.int (i0 &&& (7 : Int32))), .val (.int i1), .unset] [(.int (-5 : Int32)), (.int (2 : Int32)), (.ref b7), (.ref b7)])) rfl rfl (hb hby at_31)
    have N16 := Fr.snoc X16 N13 g_b7
    have K17 := own_ext_wr K14 W16 sz_b7
    have V_b7 : Arv Z h16 b7 k7 .int (16 : Int32) [(.int (1 : Int32)), (.int (12 : Int32)), (.int (-5 : Int32)), (.int (0 : Int32)), (.int (0 : Int32)), (.int (0 : Int32)), (.int (0 : Int32)), (.int (0 : Int32)), (.int (0 : Int32)), (.int (0 : Int32)), (.int (0 : Int32)), (.int (0 : Int32)), (.int (0 : Int32)), (.int (0 : Int32)), (.int (0 : Int32)), (.int (0 : Int32))] (.int (0 : Int32)) := Arv.set Ar15 qa15 Sa15 Na15 Ha15 Ga15 rfl W16 2 rfl (Nat.le_of_ble_eq_true rfl)
    refine own_st st16 ?_
    show own_Gl p e below _ (T16.setTop (mkF m 32 #[.val (.int i0), .val (.int i1), .val (.int i2), .val (.int (i0 &&& (7 : Int32))), .val (.int i1), .unset] [(.ref b7)]))
    refine own_st (fun t k => XS.dup X16.here hx rfl (hb hby at_32) rfl rfl k) ?_
    show own_Gl p e below _ (T16.setTop (mkF m 33 #[.val (.int i0), .val (.int i1), .val (.int i2), .val (.int (i0 &&& (7 : Int32))), .val (.int i1), .unset] [(.ref b7), (.ref b7)]))
    refine own_st (fun t k => XS.iconst X16.here hx rfl (hb hby at_33) k) ?_
    show own_Gl p e below _ (T16.setTop (mkF m 34 #[.val (.int i0), .val (.int i1), .val (.int i2), .val (.int (i0 &&& (7 : Int32))), .val (.int i1), .unset] [(.int (3 : Int32)), (.ref b7), (.ref b7)]))
    refine own_st (fun t k => XS.iconst X16.here hx rfl (hb hby at_34) k) ?_
    show own_Gl p e below _ (T16.setTop (mkF m 35 #[.val (.int i0), .val (.int i1), .val (.int i2), .val (.int (i0 &&& (7 : Int32))), .val (.int i1), .unset] [(.int (4 : Int32)), (.int (3 : Int32)), (.ref b7), (.ref b7)]))
    obtain ⟨cl18, Ar18, qa18, Sa18, Na18, Ha18, Ga18⟩ := id V_b7
    have hin19 : ¬ ((3 : Int32) < 0 ∨ cl18.slots.size ≤ ((3 : Int32)).toNatClampNeg) := inb_of Sa18 ⟨by decide, by decide⟩
    obtain ⟨T19, h19, X19, e19, W19, st19⟩ := stI X16 hx hZ e16 Ar18 (j := (3 : Int32)) hin19 (g := (mkF m 35 #[.val (.int i0), .val (.int i1), .val (.int i2), .val (.int (i0 &&& (7 : Int32))), .val (.int i1), .unset] [(.int (4 : Int32)), (.int (3 : Int32)), (.ref b7), (.ref b7)])) rfl rfl (hb hby at_35)
    have N19 := Fr.snoc X19 N16 g_b7
    have K20 := own_ext_wr K17 W19 sz_b7
    have V_b7 : Arv Z h19 b7 k7 .int (16 : Int32) [(.int (1 : Int32)), (.int (12 : Int32)), (.int (-5 : Int32)), (.int (4 : Int32)), (.int (0 : Int32)), (.int (0 : Int32)), (.int (0 : Int32)), (.int (0 : Int32)), (.int (0 : Int32)), (.int (0 : Int32)), (.int (0 : Int32)), (.int (0 : Int32)), (.int (0 : Int32)), (.int (0 : Int32)), (.int (0 : Int32)), (.int (0 : Int32))] (.int (0 : Int32)) := Arv.set Ar18 qa18 Sa18 Na18 Ha18 Ga18 rfl W19 3 rfl (Nat.le_of_ble_eq_true rfl)
    refine own_st st19 ?_
    show own_Gl p e below _ (T19.setTop (mkF m 36 #[.val (.int i0), .val (.int i1), .val (.int i2), .val (.int (i0 &&& (7 : Int32))), .val (.int i1), .unset] [(.ref b7)]))
    refine own_st (fun t k => XS.dup X19.here hx rfl (hb hby at_36) rfl rfl k) ?_
    show own_Gl p e below _ (T19.setTop (mkF m 37 #[.val (.int i0), .val (.int i1), .val (.int i2), .val (.int (i0 &&& (7 : Int32))), .val (.int i1), .unset] [(.ref b7), (.ref b7)]))
    refine own_st (fun t k => XS.iconst X19.here hx rfl (hb hby at_37) k) ?_
    show own_Gl p e below _ (T19.setTop (mkF m 38 #[.val (.int i0), .val (.int i1), .val (.int i2), .val (.int (i0 &&& (7 : Int32))), .val (.int i1), .unset] [(.int (4 : Int32)), (.ref b7), (.ref b7)]))
    refine own_st (fun t k => XS.iconst X19.here hx rfl (hb hby at_38) k) ?_
    show own_Gl p e below _ (T19.setTop (mkF m 39 #[.val (.int i0), .val (.int i1), .val (.int i2), .val (.int (i0 &&& (7 : Int32))), .val (.int i1), .unset] [(.int (5 : Int32)), (.int (4 : Int32)), (.ref b7), (.ref b7)]))
    obtain ⟨cl21, Ar21, qa21, Sa21, Na21, Ha21, Ga21⟩ := id V_b7
    have hin22 : ¬ ((4 : Int32) < 0 ∨ cl21.slots.size ≤ ((4 : Int32)).toNatClampNeg) := inb_of Sa21 ⟨by decide, by decide⟩
    obtain ⟨T22, h22, X22, e22, W22, st22⟩ := stI X19 hx hZ e19 Ar21 (j := (4 : Int32)) hin22 (g := (mkF m 39 #[.val (.int i0), .val (.int i1), .val (.int i2), .val (.int (i0 &&& (7 : Int32))), .val (.int i1), .unset] [(.int (5 : Int32)), (.int (4 : Int32)), (.ref b7), (.ref b7)])) rfl rfl (hb hby at_39)
    have N22 := Fr.snoc X22 N19 g_b7
    have K23 := own_ext_wr K20 W22 sz_b7
    have V_b7 : Arv Z h22 b7 k7 .int (16 : Int32) [(.int (1 : Int32)), (.int (12 : Int32)), (.int (-5 : Int32)), (.int (4 : Int32)), (.int (5 : Int32)), (.int (0 : Int32)), (.int (0 : Int32)), (.int (0 : Int32)), (.int (0 : Int32)), (.int (0 : Int32)), (.int (0 : Int32)), (.int (0 : Int32)), (.int (0 : Int32)), (.int (0 : Int32)), (.int (0 : Int32)), (.int (0 : Int32))] (.int (0 : Int32)) := Arv.set Ar21 qa21 Sa21 Na21 Ha21 Ga21 rfl W22 4 rfl (Nat.le_of_ble_eq_true rfl)
    refine own_st st22 ?_
    show own_Gl p e below _ (T22.setTop (mkF m 40 #[.val (.int i0), .val (.int i1), .val (.int i2), .val (.int (i0 &&& (7 : Int32))), .val (.int i1), .unset] [(.ref b7)]))
    refine own_st (fun t k => XS.dup X22.here hx rfl (hb hby at_40) rfl rfl k) ?_
    show own_Gl p e below _ (T22.setTop (mkF m 41 #[.val (.int i0), .val (.int i1), .val (.int i2), .val (.int (i0 &&& (7 : Int32))), .val (.int i1), .unset] [(.ref b7), (.ref b7)]))
    refine own_st (fun t k => XS.iconst X22.here hx rfl (hb hby at_41) k) ?_
    show own_Gl p e below _ (T22.setTop (mkF m 42 #[.val (.int i0), .val (.int i1), .val (.int i2), .val (.int (i0 &&& (7 : Int32))), .val (.int i1), .unset] [(.int (5 : Int32)), (.ref b7), (.ref b7)]))
    refine own_st (fun t k => XS.bipush X22.here hx rfl (hb hby at_42) k) ?_
    show own_Gl p e below _ (T22.setTop (mkF m 44 #[.val (.int i0), .val (.int i1), .val (.int i2), .val (.int (i0 &&& (7 : Int32))), .val (.int i1), .unset] [(.int (16 : Int32)), (.int (5 : Int32)), (.ref b7), (.ref b7)]))
    obtain ⟨cl24, Ar24, qa24, Sa24, Na24, Ha24, Ga24⟩ := id V_b7
    have hin25 : ¬ ((5 : Int32) < 0 ∨ cl24.slots.size ≤ ((5 : Int32)).toNatClampNeg) := inb_of Sa24 ⟨by decide, by decide⟩
    obtain ⟨T25, h25, X25, e25, W25, st25⟩ := stI X22 hx hZ e22 Ar24 (j := (5 : Int32)) hin25 (g := (mkF m 44 #[.val (.int i0), .val (.int i1), .val (.int i2), .val (.int (i0 &&& (7 : Int32))), .val (.int i1), .unset] [(.int (16 : Int32)), (.int (5 : Int32)), (.ref b7), (.ref b7)])) rfl rfl (hb hby at_44)
    have N25 := Fr.snoc X25 N22 g_b7
    have K26 := own_ext_wr K23 W25 sz_b7
    have V_b7 : Arv Z h25 b7 k7 .int (16 : Int32) [(.int (1 : Int32)), (.int (12 : Int32)), (.int (-5 : Int32)), (.int (4 : Int32)), (.int (5 : Int32)), (.int (16 : Int32)), (.int (0 : Int32)), (.int (0 : Int32)), (.int (0 : Int32)), (.int (0 : Int32)), (.int (0 : Int32)), (.int (0 : Int32)), (.int (0 : Int32)), (.int (0 : Int32)), (.int (0 : Int32)), (.int (0 : Int32))] (.int (0 : Int32)) := Arv.set Ar24 qa24 Sa24 Na24 Ha24 Ga24 rfl W25 5 rfl (Nat.le_of_ble_eq_true rfl)
    refine own_st st25 ?_
    show own_Gl p e below _ (T25.setTop (mkF m 45 #[.val (.int i0), .val (.int i1), .val (.int i2), .val (.int (i0 &&& (7 : Int32))), .val (.int i1), .unset] [(.ref b7)]))
    refine own_st (fun t k => XS.dup X25.here hx rfl (hb hby at_45) rfl rfl k) ?_
    show own_Gl p e below _ (T25.setTop (mkF m 46 #[.val (.int i0), .val (.int i1), .val (.int i2), .val (.int (i0 &&& (7 : Int32))), .val (.int i1), .unset] [(.ref b7), (.ref b7)]))
    refine own_st (fun t k => XS.bipush X25.here hx rfl (hb hby at_46) k) ?_
    show own_Gl p e below _ (T25.setTop (mkF m 48 #[.val (.int i0), .val (.int i1), .val (.int i2), .val (.int (i0 &&& (7 : Int32))), .val (.int i1), .unset] [(.int (6 : Int32)), (.ref b7), (.ref b7)]))
    refine own_st (fun t k => XS.bipush X25.here hx rfl (hb hby at_48) k) ?_
    show own_Gl p e below _ (T25.setTop (mkF m 50 #[.val (.int i0), .val (.int i1), .val (.int i2), .val (.int (i0 &&& (7 : Int32))), .val (.int i1), .unset] [(.int (-7 : Int32)), (.int (6 : Int32)), (.ref b7), (.ref b7)]))
    obtain ⟨cl27, Ar27, qa27, Sa27, Na27, Ha27, Ga27⟩ := id V_b7
    have hin28 : ¬ ((6 : Int32) < 0 ∨ cl27.slots.size ≤ ((6 : Int32)).toNatClampNeg) := inb_of Sa27 ⟨by decide, by decide⟩
    obtain ⟨T28, h28, X28, e28, W28, st28⟩ := stI X25 hx hZ e25 Ar27 (j := (6 : Int32)) hin28 (g := (mkF m 50 #[.val (.int i0), .val (.int i1), .val (.int i2), .val (.int (i0 &&& (7 : Int32))), .val (.int i1), .unset] [(.int (-7 : Int32)), (.int (6 : Int32)), (.ref b7), (.ref b7)])) rfl rfl (hb hby at_50)
    have N28 := Fr.snoc X28 N25 g_b7
    have K29 := own_ext_wr K26 W28 sz_b7
    have V_b7 : Arv Z h28 b7 k7 .int (16 : Int32) [(.int (1 : Int32)), (.int (12 : Int32)), (.int (-5 : Int32)), (.int (4 : Int32)), (.int (5 : Int32)), (.int (16 : Int32)), (.int (-7 : Int32)), (.int (0 : Int32)), (.int (0 : Int32)), (.int (0 : Int32)), (.int (0 : Int32)), (.int (0 : Int32)), (.int (0 : Int32)), (.int (0 : Int32)), (.int (0 : Int32)), (.int (0 : Int32))] (.int (0 : Int32)) := Arv.set Ar27 qa27 Sa27 Na27 Ha27 Ga27 rfl W28 6 rfl (Nat.le_of_ble_eq_true rfl)
    refine own_st st28 ?_
    show own_Gl p e below _ (T28.setTop (mkF m 51 #[.val (.int i0), .val (.int i1), .val (.int i2), .val (.int (i0 &&& (7 : Int32))), .val (.int i1), .unset] [(.ref b7)]))
    refine own_st (fun t k => XS.dup X28.here hx rfl (hb hby at_51) rfl rfl k) ?_
    show own_Gl p e below _ (T28.setTop (mkF m 52 #[.val (.int i0), .val (.int i1), .val (.int i2), .val (.int (i0 &&& (7 : Int32))), .val (.int i1), .unset] [(.ref b7), (.ref b7)]))
    refine own_st (fun t k => XS.bipush X28.here hx rfl (hb hby at_52) k) ?_
    show own_Gl p e below _ (T28.setTop (mkF m 54 #[.val (.int i0), .val (.int i1), .val (.int i2), .val (.int (i0 &&& (7 : Int32))), .val (.int i1), .unset] [(.int (7 : Int32)), (.ref b7), (.ref b7)]))
    refine own_st (fun t k => XS.bipush X28.here hx rfl (hb hby at_54) k) ?_
    show own_Gl p e below _ (T28.setTop (mkF m 56 #[.val (.int i0), .val (.int i1), .val (.int i2), .val (.int (i0 &&& (7 : Int32))), .val (.int i1), .unset] [(.int (8 : Int32)), (.int (7 : Int32)), (.ref b7), (.ref b7)]))
    obtain ⟨cl30, Ar30, qa30, Sa30, Na30, Ha30, Ga30⟩ := id V_b7
    have hin31 : ¬ ((7 : Int32) < 0 ∨ cl30.slots.size ≤ ((7 : Int32)).toNatClampNeg) := inb_of Sa30 ⟨by decide, by decide⟩
    obtain ⟨T31, h31, X31, e31, W31, st31⟩ := stI X28 hx hZ e28 Ar30 (j := (7 : Int32)) hin31 (g := (mkF m 56 #[.val (.int i0), .val (.int i1), .val (.int i2), .val (.int (i0 &&& (7 : Int32))), .val (.int i1), .unset] [(.int (8 : Int32)), (.int (7 : Int32)), (.ref b7), (.ref b7)])) rfl rfl (hb hby at_56)
    have N31 := Fr.snoc X31 N28 g_b7
    have K32 := own_ext_wr K29 W31 sz_b7
    have V_b7 : Arv Z h31 b7 k7 .int (16 : Int32) [(.int (1 : Int32)), (.int (12 : Int32)), (.int (-5 : Int32)), (.int (4 : Int32)), (.int (5 : Int32)), (.int (16 : Int32)), (.int (-7 : Int32)), (.int (8 : Int32)), (.int (0 : Int32)), (.int (0 : Int32)), (.int (0 : Int32)), (.int (0 : Int32)), (.int (0 : Int32)), (.int (0 : Int32)), (.int (0 : Int32)), (.int (0 : Int32))] (.int (0 : Int32)) := Arv.set Ar30 qa30 Sa30 Na30 Ha30 Ga30 rfl W31 7 rfl (Nat.le_of_ble_eq_true rfl)
    refine own_st st31 ?_
    show own_Gl p e below _ (T31.setTop (mkF m 57 #[.val (.int i0), .val (.int i1), .val (.int i2), .val (.int (i0 &&& (7 : Int32))), .val (.int i1), .unset] [(.ref b7)]))
    refine own_st (fun t k => XS.dup X31.here hx rfl (hb hby at_57) rfl rfl k) ?_
    show own_Gl p e below _ (T31.setTop (mkF m 58 #[.val (.int i0), .val (.int i1), .val (.int i2), .val (.int (i0 &&& (7 : Int32))), .val (.int i1), .unset] [(.ref b7), (.ref b7)]))
    refine own_st (fun t k => XS.bipush X31.here hx rfl (hb hby at_58) k) ?_
    show own_Gl p e below _ (T31.setTop (mkF m 60 #[.val (.int i0), .val (.int i1), .val (.int i2), .val (.int (i0 &&& (7 : Int32))), .val (.int i1), .unset] [(.int (8 : Int32)), (.ref b7), (.ref b7)]))
    refine own_st (fun t k => XS.bipush X31.here hx rfl (hb hby at_60) k) ?_
    show own_Gl p e below _ (T31.setTop (mkF m 62 #[.val (.int i0), .val (.int i1), .val (.int i2), .val (.int (i0 &&& (7 : Int32))), .val (.int i1), .unset] [(.int (6 : Int32)), (.int (8 : Int32)), (.ref b7), (.ref b7)]))
    obtain ⟨cl33, Ar33, qa33, Sa33, Na33, Ha33, Ga33⟩ := id V_b7
    have hin34 : ¬ ((8 : Int32) < 0 ∨ cl33.slots.size ≤ ((8 : Int32)).toNatClampNeg) := inb_of Sa33 ⟨by decide, by decide⟩
    obtain ⟨T34, h34, X34, e34, W34, st34⟩ := stI X31 hx hZ e31 Ar33 (j := (8 : Int32)) hin34 (g := (mkF m 62 #[.val (.int i0), .val (.int i1), .val (.int i2), .val (.int (i0 &&& (7 : Int32))), .val (.int i1), .unset] [(.int (6 : Int32)), (.int (8 : Int32)), (.ref b7), (.ref b7)])) rfl rfl (hb hby at_62)
    have N34 := Fr.snoc X34 N31 g_b7
    have K35 := own_ext_wr K32 W34 sz_b7
    have V_b7 : Arv Z h34 b7 k7 .int (16 : Int32) [(.int (1 : Int32)), (.int (12 : Int32)), (.int (-5 : Int32)), (.int (4 : Int32)), (.int (5 : Int32)), (.int (16 : Int32)), (.int (-7 : Int32)), (.int (8 : Int32)), (.int (6 : Int32)), (.int (0 : Int32)), (.int (0 : Int32)), (.int (0 : Int32)), (.int (0 : Int32)), (.int (0 : Int32)), (.int (0 : Int32)), (.int (0 : Int32))] (.int (0 : Int32)) := Arv.set Ar33 qa33 Sa33 Na33 Ha33 Ga33 rfl W34 8 rfl (Nat.le_of_ble_eq_true rfl)
    refine own_st st34 ?_
    show own_Gl p e below _ (T34.setTop (mkF m 63 #[.val (.int i0), .val (.int i1), .val (.int i2), .val (.int (i0 &&& (7 : Int32))), .val (.int i1), .unset] [(.ref b7)]))
    refine own_st (fun t k => XS.dup X34.here hx rfl (hb hby at_63) rfl rfl k) ?_
    show own_Gl p e below _ (T34.setTop (mkF m 64 #[.val (.int i0), .val (.int i1), .val (.int i2), .val (.int (i0 &&& (7 : Int32))), .val (.int i1), .unset] [(.ref b7), (.ref b7)]))
    refine own_st (fun t k => XS.bipush X34.here hx rfl (hb hby at_64) k) ?_
    show own_Gl p e below _ (T34.setTop (mkF m 66 #[.val (.int i0), .val (.int i1), .val (.int i2), .val (.int (i0 &&& (7 : Int32))), .val (.int i1), .unset] [(.int (9 : Int32)), (.ref b7), (.ref b7)]))
    refine own_st (fun t k => XS.bipush X34.here hx rfl (hb hby at_66) k) ?_
    show own_Gl p e below _ (T34.setTop (mkF m 68 #[.val (.int i0), .val (.int i1), .val (.int i2), .val (.int (i0 &&& (7 : Int32))), .val (.int i1), .unset] [(.int (7 : Int32)), (.int (9 : Int32)), (.ref b7), (.ref b7)]))
    obtain ⟨cl36, Ar36, qa36, Sa36, Na36, Ha36, Ga36⟩ := id V_b7
    have hin37 : ¬ ((9 : Int32) < 0 ∨ cl36.slots.size ≤ ((9 : Int32)).toNatClampNeg) := inb_of Sa36 ⟨by decide, by decide⟩
    obtain ⟨T37, h37, X37, e37, W37, st37⟩ := stI X34 hx hZ e34 Ar36 (j := (9 : Int32)) hin37 (g := (mkF m 68 #[.val (.int i0), .val (.int i1), .val (.int i2), .val (.int (i0 &&& (7 : Int32))), .val (.int i1), .unset] [(.int (7 : Int32)), (.int (9 : Int32)), (.ref b7), (.ref b7)])) rfl rfl (hb hby at_68)
    have N37 := Fr.snoc X37 N34 g_b7
    have K38 := own_ext_wr K35 W37 sz_b7
    have V_b7 : Arv Z h37 b7 k7 .int (16 : Int32) [(.int (1 : Int32)), (.int (12 : Int32)), (.int (-5 : Int32)), (.int (4 : Int32)), (.int (5 : Int32)), (.int (16 : Int32)), (.int (-7 : Int32)), (.int (8 : Int32)), (.int (6 : Int32)), (.int (7 : Int32)), (.int (0 : Int32)), (.int (0 : Int32)), (.int (0 : Int32)), (.int (0 : Int32)), (.int (0 : Int32)), (.int (0 : Int32))] (.int (0 : Int32)) := Arv.set Ar36 qa36 Sa36 Na36 Ha36 Ga36 rfl W37 9 rfl (Nat.le_of_ble_eq_true rfl)
    refine own_st st37 ?_
    show own_Gl p e below _ (T37.setTop (mkF m 69 #[.val (.int i0), .val (.int i1), .val (.int i2), .val (.int (i0 &&& (7 : Int32))), .val (.int i1), .unset] [(.ref b7)]))
    refine own_st (fun t k => XS.dup X37.here hx rfl (hb hby at_69) rfl rfl k) ?_
    show own_Gl p e below _ (T37.setTop (mkF m 70 #[.val (.int i0), .val (.int i1), .val (.int i2), .val (.int (i0 &&& (7 : Int32))), .val (.int i1), .unset] [(.ref b7), (.ref b7)]))
    refine own_st (fun t k => XS.bipush X37.here hx rfl (hb hby at_70) k) ?_
    show own_Gl p e below _ (T37.setTop (mkF m 72 #[.val (.int i0), .val (.int i1), .val (.int i2), .val (.int (i0 &&& (7 : Int32))), .val (.int i1), .unset] [(.int (10 : Int32)), (.ref b7), (.ref b7)]))
    refine own_st (fun t k => XS.iconst X37.here hx rfl (hb hby at_72) k) ?_
    show own_Gl p e below _ (T37.setTop (mkF m 73 #[.val (.int i0), .val (.int i1), .val (.int i2), .val (.int (i0 &&& (7 : Int32))), .val (.int i1), .unset] [(.int (2 : Int32)), (.int (10 : Int32)), (.ref b7), (.ref b7)]))
    obtain ⟨cl39, Ar39, qa39, Sa39, Na39, Ha39, Ga39⟩ := id V_b7
    have hin40 : ¬ ((10 : Int32) < 0 ∨ cl39.slots.size ≤ ((10 : Int32)).toNatClampNeg) := inb_of Sa39 ⟨by decide, by decide⟩
    obtain ⟨T40, h40, X40, e40, W40, st40⟩ := stI X37 hx hZ e37 Ar39 (j := (10 : Int32)) hin40 (g := (mkF m 73 #[.val (.int i0), .val (.int i1), .val (.int i2), .val (.int (i0 &&& (7 : Int32))), .val (.int i1), .unset] [(.int (2 : Int32)), (.int (10 : Int32)), (.ref b7), (.ref b7)])) rfl rfl (hb hby at_73)
    have N40 := Fr.snoc X40 N37 g_b7
    have K41 := own_ext_wr K38 W40 sz_b7
    have V_b7 : Arv Z h40 b7 k7 .int (16 : Int32) [(.int (1 : Int32)), (.int (12 : Int32)), (.int (-5 : Int32)), (.int (4 : Int32)), (.int (5 : Int32)), (.int (16 : Int32)), (.int (-7 : Int32)), (.int (8 : Int32)), (.int (6 : Int32)), (.int (7 : Int32)), (.int (2 : Int32)), (.int (0 : Int32)), (.int (0 : Int32)), (.int (0 : Int32)), (.int (0 : Int32)), (.int (0 : Int32))] (.int (0 : Int32)) := Arv.set Ar39 qa39 Sa39 Na39 Ha39 Ga39 rfl W40 10 rfl (Nat.le_of_ble_eq_true rfl)
    refine own_st st40 ?_
    show own_Gl p e below _ (T40.setTop (mkF m 74 #[.val (.int i0), .val (.int i1), .val (.int i2), .val (.int (i0 &&& (7 : Int32))), .val (.int i1), .unset] [(.ref b7)]))
    refine own_st (fun t k => XS.dup X40.here hx rfl (hb hby at_74) rfl rfl k) ?_
    show own_Gl p e below _ (T40.setTop (mkF m 75 #[.val (.int i0), .val (.int i1), .val (.int i2), .val (.int (i0 &&& (7 : Int32))), .val (.int i1), .unset] [(.ref b7), (.ref b7)]))
    refine own_st (fun t k => XS.bipush X40.here hx rfl (hb hby at_75) k) ?_
    show own_Gl p e below _ (T40.setTop (mkF m 77 #[.val (.int i0), .val (.int i1), .val (.int i2), .val (.int (i0 &&& (7 : Int32))), .val (.int i1), .unset] [(.int (11 : Int32)), (.ref b7), (.ref b7)]))
    refine own_st (fun t k => XS.iconst X40.here hx rfl (hb hby at_77) k) ?_
    show own_Gl p e below _ (T40.setTop (mkF m 78 #[.val (.int i0), .val (.int i1), .val (.int i2), .val (.int (i0 &&& (7 : Int32))), .val (.int i1), .unset] [(.int (3 : Int32)), (.int (11 : Int32)), (.ref b7), (.ref b7)]))
    obtain ⟨cl42, Ar42, qa42, Sa42, Na42, Ha42, Ga42⟩ := id V_b7
    have hin43 : ¬ ((11 : Int32) < 0 ∨ cl42.slots.size ≤ ((11 : Int32)).toNatClampNeg) := inb_of Sa42 ⟨by decide, by decide⟩
    obtain ⟨T43, h43, X43, e43, W43, st43⟩ := stI X40 hx hZ e40 Ar42 (j := (11 : Int32)) hin43 (g := (mkF m 78 #[.val (.int i0), .val (.int i1), .val (.int i2), .val (.int (i0 &&& (7 : Int32))), .val (.int i1), .unset] [(.int (3 : Int32)), (.int (11 : Int32)), (.ref b7), (.ref b7)])) rfl rfl (hb hby at_78)
    have N43 := Fr.snoc X43 N40 g_b7
    have K44 := own_ext_wr K41 W43 sz_b7
    have V_b7 : Arv Z h43 b7 k7 .int (16 : Int32) [(.int (1 : Int32)), (.int (12 : Int32)), (.int (-5 : Int32)), (.int (4 : Int32)), (.int (5 : Int32)), (.int (16 : Int32)), (.int (-7 : Int32)), (.int (8 : Int32)), (.int (6 : Int32)), (.int (7 : Int32)), (.int (2 : Int32)), (.int (3 : Int32)), (.int (0 : Int32)), (.int (0 : Int32)), (.int (0 : Int32)), (.int (0 : Int32))] (.int (0 : Int32)) := Arv.set Ar42 qa42 Sa42 Na42 Ha42 Ga42 rfl W43 11 rfl (Nat.le_of_ble_eq_true rfl)
    refine own_st st43 ?_
    show own_Gl p e below _ (T43.setTop (mkF m 79 #[.val (.int i0), .val (.int i1), .val (.int i2), .val (.int (i0 &&& (7 : Int32))), .val (.int i1), .unset] [(.ref b7)]))
    refine own_st (fun t k => XS.dup X43.here hx rfl (hb hby at_79) rfl rfl k) ?_
    show own_Gl p e below _ (T43.setTop (mkF m 80 #[.val (.int i0), .val (.int i1), .val (.int i2), .val (.int (i0 &&& (7 : Int32))), .val (.int i1), .unset] [(.ref b7), (.ref b7)]))
    refine own_st (fun t k => XS.bipush X43.here hx rfl (hb hby at_80) k) ?_
    show own_Gl p e below _ (T43.setTop (mkF m 82 #[.val (.int i0), .val (.int i1), .val (.int i2), .val (.int (i0 &&& (7 : Int32))), .val (.int i1), .unset] [(.int (12 : Int32)), (.ref b7), (.ref b7)]))
    refine own_st (fun t k => XS.bipush X43.here hx rfl (hb hby at_82) k) ?_
    show own_Gl p e below _ (T43.setTop (mkF m 84 #[.val (.int i0), .val (.int i1), .val (.int i2), .val (.int (i0 &&& (7 : Int32))), .val (.int i1), .unset] [(.int (-6 : Int32)), (.int (12 : Int32)), (.ref b7), (.ref b7)]))
    obtain ⟨cl45, Ar45, qa45, Sa45, Na45, Ha45, Ga45⟩ := id V_b7
    have hin46 : ¬ ((12 : Int32) < 0 ∨ cl45.slots.size ≤ ((12 : Int32)).toNatClampNeg) := inb_of Sa45 ⟨by decide, by decide⟩
    obtain ⟨T46, h46, X46, e46, W46, st46⟩ := stI X43 hx hZ e43 Ar45 (j := (12 : Int32)) hin46 (g := (mkF m 84 #[.val (.int i0), .val (.int i1), .val (.int i2), .val (.int (i0 &&& (7 : Int32))), .val (.int i1), .unset] [(.int (-6 : Int32)), (.int (12 : Int32)), (.ref b7), (.ref b7)])) rfl rfl (hb hby at_84)
    have N46 := Fr.snoc X46 N43 g_b7
    have K47 := own_ext_wr K44 W46 sz_b7
    have V_b7 : Arv Z h46 b7 k7 .int (16 : Int32) [(.int (1 : Int32)), (.int (12 : Int32)), (.int (-5 : Int32)), (.int (4 : Int32)), (.int (5 : Int32)), (.int (16 : Int32)), (.int (-7 : Int32)), (.int (8 : Int32)), (.int (6 : Int32)), (.int (7 : Int32)), (.int (2 : Int32)), (.int (3 : Int32)), (.int (-6 : Int32)), (.int (0 : Int32)), (.int (0 : Int32)), (.int (0 : Int32))] (.int (0 : Int32)) := Arv.set Ar45 qa45 Sa45 Na45 Ha45 Ga45 rfl W46 12 rfl (Nat.le_of_ble_eq_true rfl)
    refine own_st st46 ?_
    show own_Gl p e below _ (T46.setTop (mkF m 85 #[.val (.int i0), .val (.int i1), .val (.int i2), .val (.int (i0 &&& (7 : Int32))), .val (.int i1), .unset] [(.ref b7)]))
    refine own_st (fun t k => XS.dup X46.here hx rfl (hb hby at_85) rfl rfl k) ?_
    show own_Gl p e below _ (T46.setTop (mkF m 86 #[.val (.int i0), .val (.int i1), .val (.int i2), .val (.int (i0 &&& (7 : Int32))), .val (.int i1), .unset] [(.ref b7), (.ref b7)]))
    refine own_st (fun t k => XS.bipush X46.here hx rfl (hb hby at_86) k) ?_
    show own_Gl p e below _ (T46.setTop (mkF m 88 #[.val (.int i0), .val (.int i1), .val (.int i2), .val (.int (i0 &&& (7 : Int32))), .val (.int i1), .unset] [(.int (13 : Int32)), (.ref b7), (.ref b7)]))
    refine own_st (fun t k => XS.iconst X46.here hx rfl (hb hby at_88) k) ?_
    show own_Gl p e below _ (T46.setTop (mkF m 89 #[.val (.int i0), .val (.int i1), .val (.int i2), .val (.int (i0 &&& (7 : Int32))), .val (.int i1), .unset] [(.int (0 : Int32)), (.int (13 : Int32)), (.ref b7), (.ref b7)]))
    obtain ⟨cl48, Ar48, qa48, Sa48, Na48, Ha48, Ga48⟩ := id V_b7
    have hin49 : ¬ ((13 : Int32) < 0 ∨ cl48.slots.size ≤ ((13 : Int32)).toNatClampNeg) := inb_of Sa48 ⟨by decide, by decide⟩
    obtain ⟨T49, h49, X49, e49, W49, st49⟩ := stI X46 hx hZ e46 Ar48 (j := (13 : Int32)) hin49 (g := (mkF m 89 #[.val (.int i0), .val (.int i1), .val (.int i2), .val (.int (i0 &&& (7 : Int32))), .val (.int i1), .unset] [(.int (0 : Int32)), (.int (13 : Int32)), (.ref b7), (.ref b7)])) rfl rfl (hb hby at_89)
    have N49 := Fr.snoc X49 N46 g_b7
    have K50 := own_ext_wr K47 W49 sz_b7
    have V_b7 : Arv Z h49 b7 k7 .int (16 : Int32) [(.int (1 : Int32)), (.int (12 : Int32)), (.int (-5 : Int32)), (.int (4 : Int32)), (.int (5 : Int32)), (.int (16 : Int32)), (.int (-7 : Int32)), (.int (8 : Int32)), (.int (6 : Int32)), (.int (7 : Int32)), (.int (2 : Int32)), (.int (3 : Int32)), (.int (-6 : Int32)), (.int (0 : Int32)), (.int (0 : Int32)), (.int (0 : Int32))] (.int (0 : Int32)) := Arv.set Ar48 qa48 Sa48 Na48 Ha48 Ga48 rfl W49 13 rfl (Nat.le_of_ble_eq_true rfl)
    refine own_st st49 ?_
    show own_Gl p e below _ (T49.setTop (mkF m 90 #[.val (.int i0), .val (.int i1), .val (.int i2), .val (.int (i0 &&& (7 : Int32))), .val (.int i1), .unset] [(.ref b7)]))
    refine own_st (fun t k => XS.dup X49.here hx rfl (hb hby at_90) rfl rfl k) ?_
    show own_Gl p e below _ (T49.setTop (mkF m 91 #[.val (.int i0), .val (.int i1), .val (.int i2), .val (.int (i0 &&& (7 : Int32))), .val (.int i1), .unset] [(.ref b7), (.ref b7)]))
    refine own_st (fun t k => XS.bipush X49.here hx rfl (hb hby at_91) k) ?_
    show own_Gl p e below _ (T49.setTop (mkF m 93 #[.val (.int i0), .val (.int i1), .val (.int i2), .val (.int (i0 &&& (7 : Int32))), .val (.int i1), .unset] [(.int (14 : Int32)), (.ref b7), (.ref b7)]))
    refine own_st (fun t k => XS.bipush X49.here hx rfl (hb hby at_93) k) ?_
    show own_Gl p e below _ (T49.setTop (mkF m 95 #[.val (.int i0), .val (.int i1), .val (.int i2), .val (.int (i0 &&& (7 : Int32))), .val (.int i1), .unset] [(.int (91 : Int32)), (.int (14 : Int32)), (.ref b7), (.ref b7)]))
    obtain ⟨cl51, Ar51, qa51, Sa51, Na51, Ha51, Ga51⟩ := id V_b7
    have hin52 : ¬ ((14 : Int32) < 0 ∨ cl51.slots.size ≤ ((14 : Int32)).toNatClampNeg) := inb_of Sa51 ⟨by decide, by decide⟩
    obtain ⟨T52, h52, X52, e52, W52, st52⟩ := stI X49 hx hZ e49 Ar51 (j := (14 : Int32)) hin52 (g := (mkF m 95 #[.val (.int i0), .val (.int i1), .val (.int i2), .val (.int (i0 &&& (7 : Int32))), .val (.int i1), .unset] [(.int (91 : Int32)), (.int (14 : Int32)), (.ref b7), (.ref b7)])) rfl rfl (hb hby at_95)
    have N52 := Fr.snoc X52 N49 g_b7
    have K53 := own_ext_wr K50 W52 sz_b7
    have V_b7 : Arv Z h52 b7 k7 .int (16 : Int32) [(.int (1 : Int32)), (.int (12 : Int32)), (.int (-5 : Int32)), (.int (4 : Int32)), (.int (5 : Int32)), (.int (16 : Int32)), (.int (-7 : Int32)), (.int (8 : Int32)), (.int (6 : Int32)), (.int (7 : Int32)), (.int (2 : Int32)), (.int (3 : Int32)), (.int (-6 : Int32)), (.int (0 : Int32)), (.int (91 : Int32)), (.int (0 : Int32))] (.int (0 : Int32)) := Arv.set Ar51 qa51 Sa51 Na51 Ha51 Ga51 rfl W52 14 rfl (Nat.le_of_ble_eq_true rfl)
    refine own_st st52 ?_
    show own_Gl p e below _ (T52.setTop (mkF m 96 #[.val (.int i0), .val (.int i1), .val (.int i2), .val (.int (i0 &&& (7 : Int32))), .val (.int i1), .unset] [(.ref b7)]))
    refine own_st (fun t k => XS.dup X52.here hx rfl (hb hby at_96) rfl rfl k) ?_
    show own_Gl p e below _ (T52.setTop (mkF m 97 #[.val (.int i0), .val (.int i1), .val (.int i2), .val (.int (i0 &&& (7 : Int32))), .val (.int i1), .unset] [(.ref b7), (.ref b7)]))
    refine own_st (fun t k => XS.bipush X52.here hx rfl (hb hby at_97) k) ?_
    show own_Gl p e below _ (T52.setTop (mkF m 99 #[.val (.int i0), .val (.int i1), .val (.int i2), .val (.int (i0 &&& (7 : Int32))), .val (.int i1), .unset] [(.int (15 : Int32)), (.ref b7), (.ref b7)]))
    refine own_st (fun t k => XS.bipush X52.here hx rfl (hb hby at_99) k) ?_
    show own_Gl p e below _ (T52.setTop (mkF m 101 #[.val (.int i0), .val (.int i1), .val (.int i2), .val (.int (i0 &&& (7 : Int32))), .val (.int i1), .unset] [(.int (93 : Int32)), (.int (15 : Int32)), (.ref b7), (.ref b7)]))
    obtain ⟨cl54, Ar54, qa54, Sa54, Na54, Ha54, Ga54⟩ := id V_b7
    have hin55 : ¬ ((15 : Int32) < 0 ∨ cl54.slots.size ≤ ((15 : Int32)).toNatClampNeg) := inb_of Sa54 ⟨by decide, by decide⟩
    obtain ⟨T55, h55, X55, e55, W55, st55⟩ := stI X52 hx hZ e52 Ar54 (j := (15 : Int32)) hin55 (g := (mkF m 101 #[.val (.int i0), .val (.int i1), .val (.int i2), .val (.int (i0 &&& (7 : Int32))), .val (.int i1), .unset] [(.int (93 : Int32)), (.int (15 : Int32)), (.ref b7), (.ref b7)])) rfl rfl (hb hby at_101)
    have N55 := Fr.snoc X55 N52 g_b7
    have K56 := own_ext_wr K53 W55 sz_b7
    have V_b7 : Arv Z h55 b7 k7 .int (16 : Int32) [(.int (1 : Int32)), (.int (12 : Int32)), (.int (-5 : Int32)), (.int (4 : Int32)), (.int (5 : Int32)), (.int (16 : Int32)), (.int (-7 : Int32)), (.int (8 : Int32)), (.int (6 : Int32)), (.int (7 : Int32)), (.int (2 : Int32)), (.int (3 : Int32)), (.int (-6 : Int32)), (.int (0 : Int32)), (.int (91 : Int32)), (.int (93 : Int32))] (.int (0 : Int32)) := Arv.set Ar54 qa54 Sa54 Na54 Ha54 Ga54 rfl W55 15 rfl (Nat.le_of_ble_eq_true rfl)
    refine own_st st55 ?_
    show own_Gl p e below _ (T55.setTop (mkF m 102 #[.val (.int i0), .val (.int i1), .val (.int i2), .val (.int (i0 &&& (7 : Int32))), .val (.int i1), .unset] [(.ref b7)]))
    refine own_st (fun t k => XS.astore X55.here hx rfl (hb hby at_102) rfl rfl (l' := #[.val (.int i0), .val (.int i1), .val (.int i2), .val (.int (i0 &&& (7 : Int32))), .val (.int i1), .val (.ref b7)]) rfl k) ?_
    show own_Gl p e below _ (T55.setTop (mkF m 104 #[.val (.int i0), .val (.int i1), .val (.int i2), .val (.int (i0 &&& (7 : Int32))), .val (.int i1), .val (.ref b7)] []))
    refine own_st (fun t k => XS.aload X55.here hx rfl (hb hby at_104) rfl rfl k) ?_
    show own_Gl p e below _ (T55.setTop (mkF m 106 #[.val (.int i0), .val (.int i1), .val (.int i2), .val (.int (i0 &&& (7 : Int32))), .val (.int i1), .val (.ref b7)] [(.ref b7)]))
    refine own_st (fun t k => XS.iloadN X55.here hx rfl (hb hby at_106) rfl k) ?_
    show own_Gl p e below _ (T55.setTop (mkF m 107 #[.val (.int i0), .val (.int i1), .val (.int i2), .val (.int (i0 &&& (7 : Int32))), .val (.int i1), .val (.ref b7)] [(.int i2), (.ref b7)]))
    refine own_st (fun t k => XS.iconst X55.here hx rfl (hb hby at_107) k) ?_
    show own_Gl p e below _ (T55.setTop (mkF m 108 #[.val (.int i0), .val (.int i1), .val (.int i2), .val (.int (i0 &&& (7 : Int32))), .val (.int i1), .val (.ref b7)] [(.int (1 : Int32)), (.int i2), (.ref b7)]))
    refine own_st (fun t k => XS.iushr X55.here hx rfl (hb hby at_108) rfl k) ?_
    show own_Gl p e below _ (T55.setTop (mkF m 109 #[.val (.int i0), .val (.int i1), .val (.int i2), .val (.int (i0 &&& (7 : Int32))), .val (.int i1), .val (.ref b7)] [(.int ((i2.toUInt32 >>> ((1 : Int32) &&& 31).toUInt32).toInt32)), (.ref b7)]))
    refine own_st (fun t k => XS.bipush X55.here hx rfl (hb hby at_109) k) ?_
    show own_Gl p e below _ (T55.setTop (mkF m 111 #[.val (.int i0), .val (.int i1), .val (.int i2), .val (.int (i0 &&& (7 : Int32))), .val (.int i1), .val (.ref b7)] [(.int (15 : Int32)), (.int ((i2.toUInt32 >>> ((1 : Int32) &&& 31).toUInt32).toInt32)), (.ref b7)]))
    refine own_st (fun t k => XS.iand X55.here hx rfl (hb hby at_111) rfl k) ?_
    show own_Gl p e below _ (T55.setTop (mkF m 112 #[.val (.int i0), .val (.int i1), .val (.int i2), .val (.int (i0 &&& (7 : Int32))), .val (.int i1), .val (.ref b7)] [(.int (((i2.toUInt32 >>> ((1 : Int32) &&& 31).toUInt32).toInt32) &&& (15 : Int32))), (.ref b7)]))
    obtain ⟨c', hc'⟩ : ∃ z : Int32, ([(.int (1 : Int32)), (.int (12 : Int32)), (.int (-5 : Int32)), (.int (4 : Int32)), (.int (5 : Int32)), (.int (16 : Int32)), (.int (-7 : Int32)), (.int (8 : Int32)), (.int (6 : Int32)), (.int (7 : Int32)), (.int (2 : Int32)), (.int (3 : Int32)), (.int (-6 : Int32)), (.int (0 : Int32)), (.int (91 : Int32)), (.int (93 : Int32))] : List Value).getD ((((i2.toUInt32 >>> ((1 : Int32) &&& 31).toUInt32).toInt32) &&& (15 : Int32))).toNatClampNeg (.int (0 : Int32)) = .int z := by
      obtain ⟨cc, Ac, -, Sc, Nc, Hc, Gc⟩ := id V_b7
      exact own_isint (Gc _ (Nat.lt_of_not_le fun y => inb_of Sc (own_idx i2) (Or.inr y)))
    obtain ⟨cl57, Ar57, qa57, Sa57, Na57, Ha57, Ga57⟩ := id V_b7
    have hin58 : ¬ ((((i2.toUInt32 >>> ((1 : Int32) &&& 31).toUInt32).toInt32) &&& (15 : Int32)) < 0 ∨ cl57.slots.size ≤ ((((i2.toUInt32 >>> ((1 : Int32) &&& 31).toUInt32).toInt32) &&& (15 : Int32))).toNatClampNeg) := inb_of Sa57 (own_idx i2)
    have hat58 : cl57.slots[((((i2.toUInt32 >>> ((1 : Int32) &&& 31).toUInt32).toInt32) &&& (15 : Int32))).toNatClampNeg]? = some (.int c') := Has.at Ha57 hin58 hc'
    refine own_st (fun t k => X55.iaload hx (j := (((i2.toUInt32 >>> ((1 : Int32) &&& 31).toUInt32).toInt32) &&& (15 : Int32))) (v := (.int c')) (by rw [e55]; exact Ar57.1) (State.isArrayOf_alike hZ.alike Ar57.2.1) Ar57.2.2 hin58 hat58 (g := (mkF m 112 #[.val (.int i0), .val (.int i1), .val (.int i2), .val (.int (i0 &&& (7 : Int32))), .val (.int i1), .val (.ref b7)] [(.int (((i2.toUInt32 >>> ((1 : Int32) &&& 31).toUInt32).toInt32) &&& (15 : Int32))), (.ref b7)])) rfl rfl (hb hby at_112) _ k) ?_
    show own_Gl p e below _ (T55.setTop (mkF m 113 #[.val (.int i0), .val (.int i1), .val (.int i2), .val (.int (i0 &&& (7 : Int32))), .val (.int i1), .val (.ref b7)] [(.int c')]))
    refine own_st (fun t k => XS.istore X55.here hx rfl (hb hby at_113) rfl (l' := #[.val (.int i0), .val (.int i1), .val (.int i2), .val (.int (i0 &&& (7 : Int32))), .val (.int c'), .val (.ref b7)]) rfl k) ?_
    show own_Gl p e below _ (T55.setTop (mkF m 115 #[.val (.int i0), .val (.int i1), .val (.int i2), .val (.int (i0 &&& (7 : Int32))), .val (.int c'), .val (.ref b7)] []))
    refine own_st (fun t k => XS.iloadN X55.here hx rfl (hb hby at_115) rfl k) ?_
    show own_Gl p e below _ (T55.setTop (mkF m 116 #[.val (.int i0), .val (.int i1), .val (.int i2), .val (.int (i0 &&& (7 : Int32))), .val (.int c'), .val (.ref b7)] [(.int (i0 &&& (7 : Int32)))]))
    obtain ⟨_, _, ⟨T59, L59, k59, n59⟩, -, X59, ⟨Lc59, hQ59, l59, y59, z59⟩, st59⟩ := Jvm.LawKit.callS X55 hx (y := (⟨"com/example/bare_session/baresession/mapping/GetterReadsPinLaw", "getterOf", "(I)Lcom/example/bare_session/baresession/mapping/BasicType$Getter;"⟩ : MethodName)) hown (mvT hZ (hw _ (List.mem_of_getElem? (i := 0) rfl))) (mvT hZ (hw _ (List.mem_of_getElem? (i := 1) rfl))) (mvT hZ (hw _ (List.mem_of_getElem? (i := 2) rfl))) (mvT hZ (hw _ (List.mem_of_getElem? (i := 3) rfl))) (by decide) (backOf (W := 0) (own_rm_get l Z a0 hw [] (i0 &&& (7 : Int32)) ad0 ad1 ad2 ad3 ad4 ad5 ad6 ad7 h55 n0 (Nat.le_trans Z0 K56.1) (S_ad0.ext K56) (S_ad1.ext K56) (S_ad2.ext K56) (S_ad3.ext K56) (S_ad4.ext K56) (S_ad5.ext K56) (S_ad6.ext K56) (S_ad7.ext K56) (P_ad0.ext K56) (P_ad1.ext K56) (P_ad2.ext K56) (P_ad3.ext K56) (P_ad4.ext K56) (P_ad5.ext K56) (P_ad6.ext K56) (P_ad7.ext K56)) hZ (hw _ (List.mem_of_getElem? (i := 3) rfl)) (hw _ (List.mem_of_getElem? (i := 2) rfl)) (by decide) (by decide)) (g := (mkF m 116 #[.val (.int i0), .val (.int i1), .val (.int i2), .val (.int (i0 &&& (7 : Int32))), .val (.int c'), .val (.ref b7)] [(.int (i0 &&& (7 : Int32)))])) rfl (by rw [hml]; rfl) (argsL := [(.int (i0 &&& (7 : Int32)))]) (rest := []) (lenOf own_pd0 rfl) rfl (by show 2 * 0 + _ ≤ _; exact Nat.le_of_eq rfl) (hb hby at_116) (fun _ _ => ⟨rfl, e55, (by decide : 1 + 0 ≤ _), (by decide : 16 + 0 ≤ _)⟩)
    dsimp only [Pt.U, Pt.locs, Pt.cells, Pt.slots] at X59 l59 y59 z59 st59 hQ59
    subst l59 y59 z59
    obtain ⟨⟨r, rfl, Pr⟩, N59q, e59⟩ := hQ59
    have N59 := Fr.app N55 N59q
    refine own_st st59 ?_
    show own_Gl p e below _ (T59.setTop (mkF m 119 #[.val (.int i0), .val (.int i1), .val (.int i2), .val (.int (i0 &&& (7 : Int32))), .val (.int c'), .val (.ref b7)] [(.ref r)]))
    have E_r := Pr.1
    refine own_st (fun t k => XS.astore X59.here hx rfl (hb hby at_119) rfl rfl (l' := #[.val (.int i0), .val (.int i1), .val (.int i2), .val (.int (i0 &&& (7 : Int32))), .val (.int c'), .val (.ref r)]) rfl k) ?_
    show own_Gl p e below _ (T59.setTop (mkF m 121 #[.val (.int i0), .val (.int i1), .val (.int i2), .val (.int (i0 &&& (7 : Int32))), .val (.int c'), .val (.ref r)] []))
    refine own_st (fun t k => XS.aload X59.here hx rfl (hb hby at_121) rfl rfl k) ?_
    show own_Gl p e below _ (T59.setTop (mkF m 123 #[.val (.int i0), .val (.int i1), .val (.int i2), .val (.int (i0 &&& (7 : Int32))), .val (.int c'), .val (.ref r)] [(.ref r)]))
    refine own_st (fun t k => XS.iload X59.here hx rfl (hb hby at_123) rfl k) ?_
    show own_Gl p e below _ (T59.setTop (mkF m 125 #[.val (.int i0), .val (.int i1), .val (.int i2), .val (.int (i0 &&& (7 : Int32))), .val (.int c'), .val (.ref r)] [(.int c'), (.ref r)]))
    have hcd := own_two (i0 &&& (7 : Int32))
    rcases hcd with ⟨x, hcd⟩ | ⟨x, y, hcd⟩
    ·
      rw [hcd] at Pr
      show own_Gl p e below _ (T59.setTop (mkF m 125 #[.val (.int i0), .val (.int i1), .val (.int i2), .val (.int (i0 &&& (7 : Int32))), .val (.int c'), .val (.ref r)] [(.int c'), (.ref r)]))
      obtain ⟨cq60, kq60, q60a, q60b, q60c⟩ := isOf hZ e59 E_r
      obtain ⟨_, _, ⟨T60, L60, k60, n60⟩, -, X60, ⟨Lc60, hQ60, l60, y60, z60⟩, st60⟩ := X59.virtualBack hx (y := (⟨"com/example/bare_session/baresession/mapping/BasicType$Getter", "reads", "(I)Z"⟩ : MethodName)) (z := (⟨"com/example/bare_session/baresession/mapping/BasicType$Getter", "reads", "(I)Z"⟩ : MethodName)) hown (mvT hZ (hw _ (List.mem_of_getElem? (i := 7) rfl))) (mvT hZ (hw _ (List.mem_of_getElem? (i := 8) rfl))) (notFace_of_selects (args := #[]) (mvT hZ (hw _ (List.mem_of_getElem? (i := 10) rfl)))) (mvT hZ (hw _ (List.mem_of_getElem? (i := 10) rfl))) (mvT hZ (hw _ (List.mem_of_getElem? (i := 9) rfl))) (by decide) (backOf (W := 0) (own_rm_rd1 l Z a0 hw [] r c' x h55 n0 (Nat.le_trans Z0 K56.1) Pr) hZ (hw _ (List.mem_of_getElem? (i := 11) rfl)) (hw _ (List.mem_of_getElem? (i := 5) rfl)) (by decide) (by decide)) q60a q60c (g := (mkF m 125 #[.val (.int i0), .val (.int i1), .val (.int i2), .val (.int (i0 &&& (7 : Int32))), .val (.int c'), .val (.ref r)] [(.int c'), (.ref r)])) rfl (by rw [hml]; rfl) (Steps.refl _) (argsL := [(.int c')]) (rest := []) (lenOf own_pd1 rfl) rfl (by show 2 * 0 + _ ≤ _; exact Nat.le_of_eq rfl) (hb hby at_125) (fun _ _ => ⟨rfl, e59, (by decide : 1 + 0 ≤ _), (by decide : 16 + 0 ≤ _)⟩)
      dsimp only [Pt.U, Pt.locs, Pt.cells, Pt.slots] at X60 l60 y60 z60 st60 hQ60
      subst l60 y60 z60
      obtain ⟨rfl, N60q, e60⟩ := hQ60
      have N60 := Fr.app N59 N60q
      refine own_tr st60 ?_
      show own_Gl p e below _ (T60.setTop (mkF m 128 #[.val (.int i0), .val (.int i1), .val (.int i2), .val (.int (i0 &&& (7 : Int32))), .val (.int c'), .val (.ref r)] [(.int (own_b (c' ∈ [x])))]))
      refine own_st (fun t k => XS.iloadN X60.here hx rfl (hb hby at_128) rfl k) ?_
      show own_Gl p e below _ (T60.setTop (mkF m 129 #[.val (.int i0), .val (.int i1), .val (.int i2), .val (.int (i0 &&& (7 : Int32))), .val (.int c'), .val (.ref r)] [(.int (i0 &&& (7 : Int32))), (.int (own_b (c' ∈ [x])))]))
      refine own_st (fun t k => XS.iload X60.here hx rfl (hb hby at_129) rfl k) ?_
      show own_Gl p e below _ (T60.setTop (mkF m 131 #[.val (.int i0), .val (.int i1), .val (.int i2), .val (.int (i0 &&& (7 : Int32))), .val (.int c'), .val (.ref r)] [(.int c'), (.int (i0 &&& (7 : Int32))), (.int (own_b (c' ∈ [x])))]))
      obtain ⟨_, _, ⟨T61, L61, k61, n61⟩, -, X61, ⟨Lc61, hQ61, l61, y61, z61⟩, st61⟩ := Jvm.LawKit.callS X60 hx (y := (⟨"com/example/bare_session/baresession/mapping/GetterReadsPinLaw", "expected", "(II)Z"⟩ : MethodName)) hown (mvT hZ (hw _ (List.mem_of_getElem? (i := 14) rfl))) (mvT hZ (hw _ (List.mem_of_getElem? (i := 15) rfl))) (mvT hZ (hw _ (List.mem_of_getElem? (i := 2) rfl))) (mvT hZ (hw _ (List.mem_of_getElem? (i := 16) rfl))) (by decide) (backOf (W := 1) (own_rm_exp l Z a0 hw [] (i0 &&& (7 : Int32)) c' h55 n0 (Nat.le_trans Z0 K56.1)) hZ (hw _ (List.mem_of_getElem? (i := 16) rfl)) (hw _ (List.mem_of_getElem? (i := 2) rfl)) (by decide) (by decide)) (g := (mkF m 131 #[.val (.int i0), .val (.int i1), .val (.int i2), .val (.int (i0 &&& (7 : Int32))), .val (.int c'), .val (.ref r)] [(.int c'), (.int (i0 &&& (7 : Int32))), (.int (own_b (c' ∈ [x])))])) rfl (by rw [hml]; rfl) (argsL := [(.int (i0 &&& (7 : Int32))), (.int c')]) (rest := [(.int (own_b (c' ∈ [x])))]) (lenOf own_pd2 rfl) rfl (by show 2 * 0 + _ ≤ _; exact Nat.le_of_eq rfl) (hb hby at_131) (fun _ _ => ⟨rfl, e60, (by decide : 1 + 0 ≤ _), (by decide : 16 + 0 ≤ _)⟩)
      dsimp only [Pt.U, Pt.locs, Pt.cells, Pt.slots] at X61 l61 y61 z61 st61 hQ61
      subst l61 y61 z61
      obtain ⟨rfl, N61q, e61⟩ := hQ61
      have N61 := Fr.app N60 N61q
      refine own_st st61 ?_
      show own_Gl p e below _ (T61.setTop (mkF m 134 #[.val (.int i0), .val (.int i1), .val (.int i2), .val (.int (i0 &&& (7 : Int32))), .val (.int c'), .val (.ref r)] [(.int (own_b (c' ∈ own_codes (i0 &&& (7 : Int32))))), (.int (own_b (c' ∈ [x])))]))
      refine own_st (fun t k => XS.icmpNo X61.here hx rfl (hb hby at_134) rfl (teq (by simp only [hcd])).2 k) ?_
      show own_Gl p e below _ (T61.setTop (mkF m 137 #[.val (.int i0), .val (.int i1), .val (.int i2), .val (.int (i0 &&& (7 : Int32))), .val (.int c'), .val (.ref r)] []))
      refine own_st (fun t k => XS.iconst X61.here hx rfl (hb hby at_137) k) ?_
      show own_Gl p e below _ (T61.setTop (mkF m 138 #[.val (.int i0), .val (.int i1), .val (.int i2), .val (.int (i0 &&& (7 : Int32))), .val (.int c'), .val (.ref r)] [(.int (1 : Int32))]))
      refine own_st (fun t k => XS.goto X61.here hx rfl (pc0 := 138) (pc' := 142) rfl (hb hby at_138) (by decide) (by decide) k) ?_
      show own_Gl p e below _ (T61.setTop (mkF m 142 #[.val (.int i0), .val (.int i1), .val (.int i2), .val (.int (i0 &&& (7 : Int32))), .val (.int c'), .val (.ref r)] [(.int (1 : Int32))]))
      exact own_retN X61 hx Bd.notSynchronized (t := .boolean) Bd.returns (by simp) (hb hby at_142) (by decide) (by decide) e61 (⟨rfl, N61⟩)
    ·
      rw [hcd] at Pr
      show own_Gl p e below _ (T59.setTop (mkF m 125 #[.val (.int i0), .val (.int i1), .val (.int i2), .val (.int (i0 &&& (7 : Int32))), .val (.int c'), .val (.ref r)] [(.int c'), (.ref r)]))
      obtain ⟨cq62, kq62, q62a, q62b, q62c⟩ := isOf hZ e59 E_r
      obtain ⟨_, _, ⟨T62, L62, k62, n62⟩, -, X62, ⟨Lc62, hQ62, l62, y62, z62⟩, st62⟩ := X59.virtualBack hx (y := (⟨"com/example/bare_session/baresession/mapping/BasicType$Getter", "reads", "(I)Z"⟩ : MethodName)) (z := (⟨"com/example/bare_session/baresession/mapping/BasicType$Getter", "reads", "(I)Z"⟩ : MethodName)) hown (mvT hZ (hw _ (List.mem_of_getElem? (i := 7) rfl))) (mvT hZ (hw _ (List.mem_of_getElem? (i := 8) rfl))) (notFace_of_selects (args := #[]) (mvT hZ (hw _ (List.mem_of_getElem? (i := 10) rfl)))) (mvT hZ (hw _ (List.mem_of_getElem? (i := 10) rfl))) (mvT hZ (hw _ (List.mem_of_getElem? (i := 9) rfl))) (by decide) (backOf (W := 0) (own_rm_rd2 l Z a0 hw [] r c' x y h55 n0 (Nat.le_trans Z0 K56.1) Pr) hZ (hw _ (List.mem_of_getElem? (i := 11) rfl)) (hw _ (List.mem_of_getElem? (i := 5) rfl)) (by decide) (by decide)) q62a q62c (g := (mkF m 125 #[.val (.int i0), .val (.int i1), .val (.int i2), .val (.int (i0 &&& (7 : Int32))), .val (.int c'), .val (.ref r)] [(.int c'), (.ref r)])) rfl (by rw [hml]; rfl) (Steps.refl _) (argsL := [(.int c')]) (rest := []) (lenOf own_pd1 rfl) rfl (by show 2 * 0 + _ ≤ _; exact Nat.le_of_eq rfl) (hb hby at_125) (fun _ _ => ⟨rfl, e59, (by decide : 1 + 0 ≤ _), (by decide : 16 + 0 ≤ _)⟩)
      dsimp only [Pt.U, Pt.locs, Pt.cells, Pt.slots] at X62 l62 y62 z62 st62 hQ62
      subst l62 y62 z62
      obtain ⟨rfl, N62q, e62⟩ := hQ62
      have N62 := Fr.app N59 N62q
      refine own_tr st62 ?_
      show own_Gl p e below _ (T62.setTop (mkF m 128 #[.val (.int i0), .val (.int i1), .val (.int i2), .val (.int (i0 &&& (7 : Int32))), .val (.int c'), .val (.ref r)] [(.int (own_b (c' ∈ [x, y])))]))
      refine own_st (fun t k => XS.iloadN X62.here hx rfl (hb hby at_128) rfl k) ?_
      show own_Gl p e below _ (T62.setTop (mkF m 129 #[.val (.int i0), .val (.int i1), .val (.int i2), .val (.int (i0 &&& (7 : Int32))), .val (.int c'), .val (.ref r)] [(.int (i0 &&& (7 : Int32))), (.int (own_b (c' ∈ [x, y])))]))
      refine own_st (fun t k => XS.iload X62.here hx rfl (hb hby at_129) rfl k) ?_
      show own_Gl p e below _ (T62.setTop (mkF m 131 #[.val (.int i0), .val (.int i1), .val (.int i2), .val (.int (i0 &&& (7 : Int32))), .val (.int c'), .val (.ref r)] [(.int c'), (.int (i0 &&& (7 : Int32))), (.int (own_b (c' ∈ [x, y])))]))
      obtain ⟨_, _, ⟨T63, L63, k63, n63⟩, -, X63, ⟨Lc63, hQ63, l63, y63, z63⟩, st63⟩ := Jvm.LawKit.callS X62 hx (y := (⟨"com/example/bare_session/baresession/mapping/GetterReadsPinLaw", "expected", "(II)Z"⟩ : MethodName)) hown (mvT hZ (hw _ (List.mem_of_getElem? (i := 14) rfl))) (mvT hZ (hw _ (List.mem_of_getElem? (i := 15) rfl))) (mvT hZ (hw _ (List.mem_of_getElem? (i := 2) rfl))) (mvT hZ (hw _ (List.mem_of_getElem? (i := 16) rfl))) (by decide) (backOf (W := 1) (own_rm_exp l Z a0 hw [] (i0 &&& (7 : Int32)) c' h55 n0 (Nat.le_trans Z0 K56.1)) hZ (hw _ (List.mem_of_getElem? (i := 16) rfl)) (hw _ (List.mem_of_getElem? (i := 2) rfl)) (by decide) (by decide)) (g := (mkF m 131 #[.val (.int i0), .val (.int i1), .val (.int i2), .val (.int (i0 &&& (7 : Int32))), .val (.int c'), .val (.ref r)] [(.int c'), (.int (i0 &&& (7 : Int32))), (.int (own_b (c' ∈ [x, y])))])) rfl (by rw [hml]; rfl) (argsL := [(.int (i0 &&& (7 : Int32))), (.int c')]) (rest := [(.int (own_b (c' ∈ [x, y])))]) (lenOf own_pd2 rfl) rfl (by show 2 * 0 + _ ≤ _; exact Nat.le_of_eq rfl) (hb hby at_131) (fun _ _ => ⟨rfl, e62, (by decide : 1 + 0 ≤ _), (by decide : 16 + 0 ≤ _)⟩)
      dsimp only [Pt.U, Pt.locs, Pt.cells, Pt.slots] at X63 l63 y63 z63 st63 hQ63
      subst l63 y63 z63
      obtain ⟨rfl, N63q, e63⟩ := hQ63
      have N63 := Fr.app N62 N63q
      refine own_st st63 ?_
      show own_Gl p e below _ (T63.setTop (mkF m 134 #[.val (.int i0), .val (.int i1), .val (.int i2), .val (.int (i0 &&& (7 : Int32))), .val (.int c'), .val (.ref r)] [(.int (own_b (c' ∈ own_codes (i0 &&& (7 : Int32))))), (.int (own_b (c' ∈ [x, y])))]))
      refine own_st (fun t k => XS.icmpNo X63.here hx rfl (hb hby at_134) rfl (teq (by simp only [hcd])).2 k) ?_
      show own_Gl p e below _ (T63.setTop (mkF m 137 #[.val (.int i0), .val (.int i1), .val (.int i2), .val (.int (i0 &&& (7 : Int32))), .val (.int c'), .val (.ref r)] []))
      refine own_st (fun t k => XS.iconst X63.here hx rfl (hb hby at_137) k) ?_
      show own_Gl p e below _ (T63.setTop (mkF m 138 #[.val (.int i0), .val (.int i1), .val (.int i2), .val (.int (i0 &&& (7 : Int32))), .val (.int c'), .val (.ref r)] [(.int (1 : Int32))]))
      refine own_st (fun t k => XS.goto X63.here hx rfl (pc0 := 138) (pc' := 142) rfl (hb hby at_138) (by decide) (by decide) k) ?_
      show own_Gl p e below _ (T63.setTop (mkF m 142 #[.val (.int i0), .val (.int i1), .val (.int i2), .val (.int (i0 &&& (7 : Int32))), .val (.int c'), .val (.ref r)] [(.int (1 : Int32))]))
      exact own_retN X63 hx Bd.notSynchronized (t := .boolean) Bd.returns (by simp) (hb hby at_142) (by decide) (by decide) e63 (⟨rfl, N63⟩)
set_option maxRecDepth 65536 in
set_option maxHeartbeats 40000000 in
theorem comes_1 {Post : Tables → Env → Array Value → State → Outcome → State → Prop} (hpost : ∀ tb e args s v u, (limb_1_1.after args s (.returned v) u = true ∧ limb_1_2.after args s (.returned v) u = true ∧ True) → FrameEnd s (.returned v) u (Jvm.fieldLocs frame_1_writes args s ++ Jvm.arrayLocs frame_1_arrays args s ++ Jvm.staticLocs frame_1_statics s) 16 128 → Post tb e args s (.returned v) u) :
    ArmFor flags0 classFile x code maxLocals ret World_1 tables_1 room_1 Calls_1 rest_1 Pre_1 Post := by
  intro l hfl _ _ p e ha hc hk s m args below hf hA hF happ hP
  obtain ⟨hcalls, hrest, hpre⟩ := hP
  obtain ⟨-, -, -, hnamed, -, -, -, hat⟩ := (Spec.applies_iff hf).mp happ
  obtain ⟨hg, hn⟩ := and_e (Cond.before_iff.mp (show (Jvm.Cond.and given_1 narrow_1).before args s = true from hpre))
  obtain ⟨g0a, g0b⟩ := and_e hg
  obtain ⟨g1a, g1b⟩ := and_e g0b
  obtain ⟨g2a, g2b⟩ := and_e g1b
  obtain ⟨w0, w1, w2, rfl⟩ : ∃ w0 w1 w2 : Value, args = #[w0, w1, w2] := by
    have hs : args.size = 3 := by simpa [Cond.value, given_1] using g0a
    obtain ⟨L⟩ := args
    match L, hs with
    | [w0, w1, w2], _ => exact ⟨w0, w1, w2, rfl⟩
  have hw := fun d (hd : d ∈ tables_1) => atoms_spec (ws := Jvm.Cond.code x code maxLocals ret :: tables_1) hat d (List.mem_cons_of_mem _ hd)
  have hfit : Fit s := fun {y c} hc i hi => by
    obtain ⟨ha, rfl⟩ := Array.getElem?_eq_some_iff.mp hc
    have q := List.all_eq_true.mp ((Array.all_eq_true_iff_forall_mem.mp hF) _ (Array.getElem_mem ha)) i (List.mem_range.mpr hi)
    simpa [Array.getElem?_eq_getElem hi] using q
  obtain ⟨i0, ei0⟩ := is_v g1a
  obtain rfl : w0 = (.int i0) := Option.some.inj ei0
  obtain ⟨i1, ei1⟩ := is_v g2a
  obtain rfl : w1 = (.int i1) := Option.some.inj ei1
  obtain ⟨i2, ei2⟩ := is_v g2b
  obtain rfl : w2 = (.int i2) := Option.some.inj ei2
  obtain ⟨w_0a, w_0b⟩ := and_e hn
  obtain ⟨w_1a, w_1b⟩ := and_e w_0b
  obtain ⟨w_2a, w_2b⟩ := and_e w_1b
  obtain ⟨w_3a, w_3b⟩ := and_e w_2b
  obtain ⟨w_4a, w_4b⟩ := and_e w_3b
  obtain ⟨w_5a, w_5b⟩ := and_e w_4b
  obtain ⟨w_6a, w_6b⟩ := and_e w_5b
  obtain ⟨w_7a, w_7b⟩ := and_e w_6b
  obtain ⟨w_8a, w_8b⟩ := and_e w_7b
  obtain ⟨w_9a, w_9b⟩ := and_e w_8b
  obtain ⟨w_10a, w_10b⟩ := and_e w_9b
  obtain ⟨w_11a, w_11b⟩ := and_e w_10b
  obtain ⟨w_12a, w_12b⟩ := and_e w_11b
  obtain ⟨w_13a, w_13b⟩ := and_e w_12b
  obtain ⟨w_14a, w_14b⟩ := and_e w_13b
  obtain ⟨w_15a, w_15b⟩ := and_e w_14b
  obtain ⟨w_16a, w_16b⟩ := and_e w_15b
  obtain ⟨w_17a, w_17b⟩ := and_e w_16b
  obtain ⟨w_18a, w_18b⟩ := and_e w_17b
  obtain ⟨w_19a, w_19b⟩ := and_e w_18b
  obtain ⟨w_20a, w_20b⟩ := and_e w_19b
  obtain ⟨w_21a, w_21b⟩ := and_e w_20b
  obtain ⟨w_22a, w_22b⟩ := and_e w_21b
  obtain ⟨w_23a, w_23b⟩ := and_e w_22b
  obtain ⟨w_24a, w_24b⟩ := and_e w_23b
  obtain ⟨w_25a, w_25b⟩ := and_e w_24b
  obtain ⟨w_26a, w_26b⟩ := and_e w_25b
  obtain ⟨w_27a, w_27b⟩ := and_e w_26b
  obtain ⟨w_28a, w_28b⟩ := and_e w_27b
  obtain ⟨w_29a, w_29b⟩ := and_e w_28b
  obtain ⟨w_30a, w_30b⟩ := and_e w_29b
  obtain ⟨w_31a, w_31b⟩ := and_e w_30b
  obtain ⟨w_32a, w_32b⟩ := and_e w_31b
  obtain ⟨w_33a, w_33b⟩ := and_e w_32b
  obtain ⟨w_34a, w_34b⟩ := and_e w_33b
  obtain ⟨ad0, ev_ad0⟩ := exa_v w_0a
  have S_ad0 := Sta.start ev_ad0 (Or.inr ⟨(hw _ (List.mem_of_getElem? (i := 5) rfl)), (hw _ (List.mem_of_getElem? (i := 6) rfl))⟩)
  obtain ⟨b_ad0, ew_ad0⟩ := arr_v w_1a
  obtain ⟨c_ad0, A_ad0⟩ := Arr.start ew_ad0 w_1a
  obtain ⟨l_ad0, m_ad0⟩ := own_len ew_ad0 A_ad0 w_2a
  have P_ad0 : own_get s s.heap ad0 [1, 12] := ⟨Exa.start ev_ad0 w_0a, b_ad0, _, own_fldR ev_ad0 ew_ad0, Arv.start hfit A_ad0 l_ad0 m_ad0 (by decide) rfl ⟨own_elemI ew_ad0 A_ad0 w_3a, own_elemI ew_ad0 A_ad0 w_4a, trivial⟩⟩
  obtain ⟨ad1, ev_ad1⟩ := exa_v w_5a
  have S_ad1 := Sta.start ev_ad1 (Or.inr ⟨(hw _ (List.mem_of_getElem? (i := 5) rfl)), (hw _ (List.mem_of_getElem? (i := 19) rfl))⟩)
  obtain ⟨b_ad1, ew_ad1⟩ := arr_v w_6a
  obtain ⟨c_ad1, A_ad1⟩ := Arr.start ew_ad1 w_6a
  obtain ⟨l_ad1, m_ad1⟩ := own_len ew_ad1 A_ad1 w_7a
  have P_ad1 : own_get s s.heap ad1 [(-5)] := ⟨Exa.start ev_ad1 w_5a, b_ad1, _, own_fldR ev_ad1 ew_ad1, Arv.start hfit A_ad1 l_ad1 m_ad1 (by decide) rfl ⟨own_elemI ew_ad1 A_ad1 w_8a, trivial⟩⟩
  obtain ⟨ad2, ev_ad2⟩ := exa_v w_19a
  have S_ad2 := Sta.start ev_ad2 (Or.inr ⟨(hw _ (List.mem_of_getElem? (i := 5) rfl)), (hw _ (List.mem_of_getElem? (i := 25) rfl))⟩)
  obtain ⟨b_ad2, ew_ad2⟩ := arr_v w_20a
  obtain ⟨c_ad2, A_ad2⟩ := Arr.start ew_ad2 w_20a
  obtain ⟨l_ad2, m_ad2⟩ := own_len ew_ad2 A_ad2 w_21a
  have P_ad2 : own_get s s.heap ad2 [4] := ⟨Exa.start ev_ad2 w_19a, b_ad2, _, own_fldR ev_ad2 ew_ad2, Arv.start hfit A_ad2 l_ad2 m_ad2 (by decide) rfl ⟨own_elemI ew_ad2 A_ad2 w_22a, trivial⟩⟩
  obtain ⟨ad3, ev_ad3⟩ := exa_v w_23a
  have S_ad3 := Sta.start ev_ad3 (Or.inr ⟨(hw _ (List.mem_of_getElem? (i := 5) rfl)), (hw _ (List.mem_of_getElem? (i := 27) rfl))⟩)
  obtain ⟨b_ad3, ew_ad3⟩ := arr_v w_24a
  obtain ⟨c_ad3, A_ad3⟩ := Arr.start ew_ad3 w_24a
  obtain ⟨l_ad3, m_ad3⟩ := own_len ew_ad3 A_ad3 w_25a
  have P_ad3 : own_get s s.heap ad3 [5] := ⟨Exa.start ev_ad3 w_23a, b_ad3, _, own_fldR ev_ad3 ew_ad3, Arv.start hfit A_ad3 l_ad3 m_ad3 (by decide) rfl ⟨own_elemI ew_ad3 A_ad3 w_26a, trivial⟩⟩
  obtain ⟨ad4, ev_ad4⟩ := exa_v w_9a
  have S_ad4 := Sta.start ev_ad4 (Or.inr ⟨(hw _ (List.mem_of_getElem? (i := 5) rfl)), (hw _ (List.mem_of_getElem? (i := 21) rfl))⟩)
  obtain ⟨b_ad4, ew_ad4⟩ := arr_v w_10a
  obtain ⟨c_ad4, A_ad4⟩ := Arr.start ew_ad4 w_10a
  obtain ⟨l_ad4, m_ad4⟩ := own_len ew_ad4 A_ad4 w_11a
  have P_ad4 : own_get s s.heap ad4 [16, (-7)] := ⟨Exa.start ev_ad4 w_9a, b_ad4, _, own_fldR ev_ad4 ew_ad4, Arv.start hfit A_ad4 l_ad4 m_ad4 (by decide) rfl ⟨own_elemI ew_ad4 A_ad4 w_12a, own_elemI ew_ad4 A_ad4 w_13a, trivial⟩⟩
  obtain ⟨ad5, ev_ad5⟩ := exa_v w_27a
  have S_ad5 := Sta.start ev_ad5 (Or.inr ⟨(hw _ (List.mem_of_getElem? (i := 5) rfl)), (hw _ (List.mem_of_getElem? (i := 29) rfl))⟩)
  obtain ⟨b_ad5, ew_ad5⟩ := arr_v w_28a
  obtain ⟨c_ad5, A_ad5⟩ := Arr.start ew_ad5 w_28a
  obtain ⟨l_ad5, m_ad5⟩ := own_len ew_ad5 A_ad5 w_29a
  have P_ad5 : own_get s s.heap ad5 [8, 6] := ⟨Exa.start ev_ad5 w_27a, b_ad5, _, own_fldR ev_ad5 ew_ad5, Arv.start hfit A_ad5 l_ad5 m_ad5 (by decide) rfl ⟨own_elemI ew_ad5 A_ad5 w_30a, own_elemI ew_ad5 A_ad5 w_31a, trivial⟩⟩
  obtain ⟨ad6, ev_ad6⟩ := exa_v w_32a
  have S_ad6 := Sta.start ev_ad6 (Or.inr ⟨(hw _ (List.mem_of_getElem? (i := 5) rfl)), (hw _ (List.mem_of_getElem? (i := 31) rfl))⟩)
  obtain ⟨b_ad6, ew_ad6⟩ := arr_v w_33a
  obtain ⟨c_ad6, A_ad6⟩ := Arr.start ew_ad6 w_33a
  obtain ⟨l_ad6, m_ad6⟩ := own_len ew_ad6 A_ad6 w_34a
  have P_ad6 : own_get s s.heap ad6 [7] := ⟨Exa.start ev_ad6 w_32a, b_ad6, _, own_fldR ev_ad6 ew_ad6, Arv.start hfit A_ad6 l_ad6 m_ad6 (by decide) rfl ⟨own_elemI ew_ad6 A_ad6 w_34b, trivial⟩⟩
  obtain ⟨ad7, ev_ad7⟩ := exa_v w_14a
  have S_ad7 := Sta.start ev_ad7 (Or.inr ⟨(hw _ (List.mem_of_getElem? (i := 5) rfl)), (hw _ (List.mem_of_getElem? (i := 23) rfl))⟩)
  obtain ⟨b_ad7, ew_ad7⟩ := arr_v w_15a
  obtain ⟨c_ad7, A_ad7⟩ := Arr.start ew_ad7 w_15a
  obtain ⟨l_ad7, m_ad7⟩ := own_len ew_ad7 A_ad7 w_16a
  have P_ad7 : own_get s s.heap ad7 [2, 3] := ⟨Exa.start ev_ad7 w_14a, b_ad7, _, own_fldR ev_ad7 ew_ad7, Arv.start hfit A_ad7 l_ad7 m_ad7 (by decide) rfl ⟨own_elemI ew_ad7 A_ad7 w_17a, own_elemI ew_ad7 A_ad7 w_18a, trivial⟩⟩
  obtain ⟨n, o, h1, h2, h3, _, L, rfl, ⟨rfl, N⟩, hq⟩ := own_rm_law l s _ hw tables_1 i0 i1 i2 ad0 ad1 ad2 ad3 ad4 ad5 ad6 ad7 s.heap s.heap.size (Nat.le_refl _) S_ad0 S_ad1 S_ad2 S_ad3 S_ad4 S_ad5 S_ad6 S_ad7 P_ad0 P_ad1 P_ad2 P_ad3 P_ad4 P_ad5 P_ad6 P_ad7 p e ha hc hk s m _ below hf ((Spec.applies_iff_loose hf).mp happ).1 ⟨rfl, State.Warmed39.refl s, rfl⟩ trivial
  refine ⟨n, _, h1, h2, h3, hpost _ _ _ _ _ _ ⟨Cond.after_iff.mpr rfl, Cond.after_iff.mpr (eq_i res_at (Term.int_eval (1)) rfl), trivial⟩ ⟨hq.1, hq.2.1, (hq.2.2.sift fun y hy => Or.inr (N y hy)).mono (by decide) (by decide)⟩⟩
theorem main_1_1 : Claimed_1_1 := comes_1 fun _ _ _ _ _ _ h hF => ⟨h.1, hF⟩
theorem main_1_2 : Claimed_1_2 := comes_1 fun _ _ _ _ _ _ h hF => ⟨h.2.1, hF⟩
end Jvm.Pilot.@@N@@
namespace Jvm.Pilot.@@N@@
open Jvm Jvm.ClassFile Sem Op Lib Jvm.Free Jvm.Stand Jvm.Pilot.@@N@@.Jvm.D
/-! MADE BY PROGRAM (witnessworld.py) out of the Statement's table words and the real class files: 12 classes; the members and pool entries that the words name. The judged class is class 1, her method 1. -/
namespace start1
open Jvm.ClassFile
def u (s : String) : CpInfo := .utf8 (stringToUtf16 s)
/-- a pool by its gaps: so many unusable entries, then the entry; so many at the end -/
def gap : Nat → List CpInfo → List CpInfo
  | 0, r => r
  | n + 1, r => .unusable :: gap n r
def poolList (es : List (Nat × CpInfo)) (last : Nat) : List CpInfo := es.foldr (fun e r => gap e.1 (e.2 :: r)) (gap last [])
def pool (es : List (Nat × CpInfo)) (last : Nat) : Array CpInfo := ⟨poolList es last⟩
def fileOf (pool : Array CpInfo) (this : Nat) (attrs : Array Attribute := #[]) (ms : Array MethodInfo := #[]) (fl : Nat := 33) (sup : Nat := 0) (ifs : Array Nat := #[]) (fds : Array FieldInfo := #[]) : ClassFile where
  minorVersion := 0
  majorVersion := 65
  constantPool := pool
  accessFlags := fl
  thisClass := this
  superClass := sup
  interfaces := ifs
  fields := fds
  methods := ms
  attributes := attrs
def plain (name : String) (sup : Option ClassId) : Class where
  name := name
  kind := .ordinary
  loader := none
  accessFlags := 33
  super := sup
  interfaces := #[]
  cf := none
  fields := #[]
  methods := #[]
  instanceTypes := #[]
  staticTypes := #[]
  resolved := #[]
  callSites := []
  init := .initialized
  statics := none
  mirror := none

def pool0 : Array CpInfo := pool [(5, u "<init>"), (0, u "()V"), (1, .class_ 10), (1, u "java/lang/Object")] 113

def k0m0 : Method := { name := "<init>", desc := "()V", sig := { parameters := [], returnType := none }, accessFlags := 1, code := none }
/-- java/lang/Object -/
def k0 : Class := { plain "java/lang/Object" none with
  accessFlags := 33
  interfaces := #[]
  cf := some (fileOf pool0 8 #[] #[{ accessFlags := 1, nameIndex := 5, descriptorIndex := 6, attributes := #[] }] 33 0 #[] #[])
  fields := #[]
  methods := #[k0m0]
  instanceTypes := #[]
  staticTypes := #[]
  resolved := Array.replicate 124 none
  statics := none }

def pool1 : Array CpInfo := pool [(2, .class_ 4), (1, u "java/lang/Object"), (0, u "<init>"), (0, u "()V"), (0, .methodref 8 9), (0, .class_ 10), (0, .nameAndType 11 12), (0, u "com/example/bare_session/baresession/mapping/GetterReadsPinLaw"), (0, u "getterOf"), (0, u "(I)Lcom/example/bare_session/baresession/mapping/BasicType$Getter;"), (0, .methodref 14 15), (0, .class_ 16), (0, .nameAndType 17 18), (0, u "com/example/bare_session/baresession/mapping/BasicType$Getter"), (0, u "reads"), (0, u "(I)Z"), (0, .methodref 8 20), (0, .nameAndType 21 22), (0, u "expected"), (0, u "(II)Z"), (0, .fieldref 14 24), (0, .nameAndType 25 26), (0, u "STRING"), (0, u "Lcom/example/bare_session/baresession/mapping/BasicType$Getter;"), (0, .fieldref 14 28), (0, .nameAndType 29 26), (0, u "LONG"), (0, .fieldref 14 31), (0, .nameAndType 32 26), (0, u "INTEGER"), (0, .fieldref 14 34), (0, .nameAndType 35 26), (0, u "SHORT"), (0, .fieldref 14 37), (0, .nameAndType 38 26), (0, u "BOOLEAN"), (0, .fieldref 14 40), (0, .nameAndType 41 26), (0, u "DOUBLE"), (0, .fieldref 14 43), (0, .nameAndType 44 26), (0, u "FLOAT"), (0, .fieldref 14 46), (0, .nameAndType 47 26), (0, u "DECIMAL"), (2, u "law"), (0, u "(III)Z")] 7

def k1m0 : Method := { name := "<init>", desc := "()V", sig := { parameters := [], returnType := none }, accessFlags := 1, code := none }
def k1c1 : Code := { maxStack := 4, maxLocals := 6, code := code, exceptionTable := #[], attributes := #[] }
def k1m1 : Method := { name := "law", desc := "(III)Z", sig := { parameters := [.int, .int, .int], returnType := some .boolean }, accessFlags := 9, code := some k1c1 }
def k1c2 : Code := { maxStack := 2, maxLocals := 1, code := method_3_code, exceptionTable := #[], attributes := #[] }
def k1m2 : Method := { name := "getterOf", desc := "(I)Lcom/example/bare_session/baresession/mapping/BasicType$Getter;", sig := { parameters := [.int], returnType := some (.object "com/example/bare_session/baresession/mapping/BasicType$Getter") }, accessFlags := 10, code := some k1c2 }
def k1c3 : Code := { maxStack := 2, maxLocals := 2, code := method_4_code, exceptionTable := #[], attributes := #[] }
def k1m3 : Method := { name := "expected", desc := "(II)Z", sig := { parameters := [.int, .int], returnType := some .boolean }, accessFlags := 10, code := some k1c3 }
/-- com/example/bare_session/baresession/mapping/GetterReadsPinLaw -/
def k1 : Class := { plain "com/example/bare_session/baresession/mapping/GetterReadsPinLaw" (some 0) with
  accessFlags := 49
  interfaces := #[]
  cf := some (fileOf pool1 8 #[] #[{ accessFlags := 1, nameIndex := 5, descriptorIndex := 6, attributes := #[] }, { accessFlags := 9, nameIndex := 50, descriptorIndex := 51, attributes := #[] }, { accessFlags := 10, nameIndex := 11, descriptorIndex := 12, attributes := #[] }, { accessFlags := 10, nameIndex := 21, descriptorIndex := 22, attributes := #[] }] 49 2 #[] #[])
  fields := #[]
  methods := #[k1m0, k1m1, k1m2, k1m3]
  instanceTypes := #[]
  staticTypes := #[]
  resolved := Array.replicate 59 none
  statics := none }

def pool2 : Array CpInfo := pool [(1, .class_ 2), (0, u "java/lang/constant/Constable"), (0, .class_ 4), (0, u "java/lang/Object")] 6

/-- java/lang/constant/Constable -/
def k2 : Class := { plain "java/lang/constant/Constable" (some 0) with
  accessFlags := 1537
  interfaces := #[]
  cf := some (fileOf pool2 1 #[] #[] 1537 3 #[] #[])
  fields := #[]
  methods := #[]
  instanceTypes := #[]
  staticTypes := #[]
  resolved := Array.replicate 11 none
  statics := none }

def pool3 : Array CpInfo := pool [(1, .class_ 2), (0, u "java/lang/Comparable"), (0, .class_ 4), (0, u "java/lang/Object")] 7

/-- java/lang/Comparable -/
def k3 : Class := { plain "java/lang/Comparable" (some 0) with
  accessFlags := 1537
  interfaces := #[]
  cf := some (fileOf pool3 1 #[] #[] 1537 3 #[] #[])
  fields := #[]
  methods := #[]
  instanceTypes := #[]
  staticTypes := #[]
  resolved := Array.replicate 12 none
  statics := none }

def pool4 : Array CpInfo := pool [(1, .class_ 2), (0, u "java/io/Serializable"), (0, .class_ 4), (0, u "java/lang/Object")] 2

/-- java/io/Serializable -/
def k4 : Class := { plain "java/io/Serializable" (some 0) with
  accessFlags := 1537
  interfaces := #[]
  cf := some (fileOf pool4 1 #[] #[] 1537 3 #[] #[])
  fields := #[]
  methods := #[]
  instanceTypes := #[]
  staticTypes := #[]
  resolved := Array.replicate 7 none
  statics := none }

def pool5 : Array CpInfo := pool [(2, .class_ 4), (1, u "java/lang/Enum"), (0, u "name"), (0, u "Ljava/lang/String;"), (2, u "ordinal"), (0, u "I"), (1, .class_ 14), (1, u "java/lang/Object"), (4, u "hash"), (86, .class_ 108), (1, u "java/lang/Enum$EnumDesc"), (2, .class_ 112), (0, u "java/lang/constant/Constable"), (0, .class_ 114), (0, u "java/lang/Comparable"), (0, .class_ 116), (0, u "java/io/Serializable")] 87

/-- java/lang/Enum -/
def k5 : Class := { plain "java/lang/Enum" (some 0) with
  accessFlags := 1057
  interfaces := #[2, 3, 4]
  cf := some (fileOf pool5 2 #[.nestMembers #[106]] #[] 1057 12 #[111, 113, 115] #[{ accessFlags := 18, nameIndex := 5, descriptorIndex := 6, attributes := #[] }, { accessFlags := 18, nameIndex := 9, descriptorIndex := 10, attributes := #[] }, { accessFlags := 2, nameIndex := 19, descriptorIndex := 10, attributes := #[] }])
  fields := #[{ name := "name", type := (.object "java/lang/String"), accessFlags := 18, slot := 0, constantValue := 0 }, { name := "ordinal", type := .int, accessFlags := 18, slot := 1, constantValue := 0 }, { name := "hash", type := .int, accessFlags := 2, slot := 2, constantValue := 0 }]
  methods := #[]
  instanceTypes := #[(.object "java/lang/String"), .int, .int]
  staticTypes := #[]
  resolved := Array.replicate 204 none
  statics := none }

def pool6 : Array CpInfo := pool [(1, .class_ 2), (0, u "com/example/bare_session/baresession/mapping/BasicType$Getter"), (2, u "STRING"), (0, u "Lcom/example/bare_session/baresession/mapping/BasicType$Getter;"), (2, u "LONG"), (2, u "INTEGER"), (2, u "SHORT"), (2, u "BOOLEAN"), (2, u "DOUBLE"), (2, u "FLOAT"), (2, u "DECIMAL"), (2, u "$VALUES"), (0, u "[Lcom/example/bare_session/baresession/mapping/BasicType$Getter;"), (6, .class_ 40), (1, u "java/lang/Enum"), (6, .fieldref 1 48), (0, .nameAndType 49 50), (0, u "columnTypes"), (0, u "[I"), (24, u "reads"), (0, u "(I)Z"), (8, .class_ 86), (0, u "com/example/bare_session/baresession/mapping/BasicType")] 2

def k6c0 : Code := { maxStack := 3, maxLocals := 7, code := prog_5_method_4_code, exceptionTable := #[], attributes := #[] }
def k6m0 : Method := { name := "reads", desc := "(I)Z", sig := { parameters := [.int], returnType := some .boolean }, accessFlags := 0, code := some k6c0 }
/-- com/example/bare_session/baresession/mapping/BasicType$Getter -/
def k6 : Class := { plain "com/example/bare_session/baresession/mapping/BasicType$Getter" (some 5) with
  accessFlags := 16432
  interfaces := #[]
  cf := some (fileOf pool6 1 #[.nestHost 85] #[{ accessFlags := 0, nameIndex := 75, descriptorIndex := 76, attributes := #[] }] 16432 38 #[] #[{ accessFlags := 16409, nameIndex := 5, descriptorIndex := 6, attributes := #[] }, { accessFlags := 16409, nameIndex := 9, descriptorIndex := 6, attributes := #[] }, { accessFlags := 16409, nameIndex := 12, descriptorIndex := 6, attributes := #[] }, { accessFlags := 16409, nameIndex := 15, descriptorIndex := 6, attributes := #[] }, { accessFlags := 16409, nameIndex := 18, descriptorIndex := 6, attributes := #[] }, { accessFlags := 16409, nameIndex := 21, descriptorIndex := 6, attributes := #[] }, { accessFlags := 16409, nameIndex := 24, descriptorIndex := 6, attributes := #[] }, { accessFlags := 16409, nameIndex := 27, descriptorIndex := 6, attributes := #[] }, { accessFlags := 18, nameIndex := 49, descriptorIndex := 50, attributes := #[] }, { accessFlags := 4122, nameIndex := 30, descriptorIndex := 31, attributes := #[] }])
  fields := #[{ name := "STRING", type := (.object "com/example/bare_session/baresession/mapping/BasicType$Getter"), accessFlags := 16409, slot := 0, constantValue := 0 }, { name := "LONG", type := (.object "com/example/bare_session/baresession/mapping/BasicType$Getter"), accessFlags := 16409, slot := 1, constantValue := 0 }, { name := "INTEGER", type := (.object "com/example/bare_session/baresession/mapping/BasicType$Getter"), accessFlags := 16409, slot := 2, constantValue := 0 }, { name := "SHORT", type := (.object "com/example/bare_session/baresession/mapping/BasicType$Getter"), accessFlags := 16409, slot := 3, constantValue := 0 }, { name := "BOOLEAN", type := (.object "com/example/bare_session/baresession/mapping/BasicType$Getter"), accessFlags := 16409, slot := 4, constantValue := 0 }, { name := "DOUBLE", type := (.object "com/example/bare_session/baresession/mapping/BasicType$Getter"), accessFlags := 16409, slot := 5, constantValue := 0 }, { name := "FLOAT", type := (.object "com/example/bare_session/baresession/mapping/BasicType$Getter"), accessFlags := 16409, slot := 6, constantValue := 0 }, { name := "DECIMAL", type := (.object "com/example/bare_session/baresession/mapping/BasicType$Getter"), accessFlags := 16409, slot := 7, constantValue := 0 }, { name := "columnTypes", type := (.array .int), accessFlags := 18, slot := 3, constantValue := 0 }, { name := "$VALUES", type := (.array (.object "com/example/bare_session/baresession/mapping/BasicType$Getter")), accessFlags := 4122, slot := 8, constantValue := 0 }]
  methods := #[k6m0]
  instanceTypes := #[(.object "java/lang/String"), .int, .int, (.array .int)]
  staticTypes := #[(.object "com/example/bare_session/baresession/mapping/BasicType$Getter"), (.object "com/example/bare_session/baresession/mapping/BasicType$Getter"), (.object "com/example/bare_session/baresession/mapping/BasicType$Getter"), (.object "com/example/bare_session/baresession/mapping/BasicType$Getter"), (.object "com/example/bare_session/baresession/mapping/BasicType$Getter"), (.object "com/example/bare_session/baresession/mapping/BasicType$Getter"), (.object "com/example/bare_session/baresession/mapping/BasicType$Getter"), (.object "com/example/bare_session/baresession/mapping/BasicType$Getter"), (.array (.object "com/example/bare_session/baresession/mapping/BasicType$Getter"))]
  resolved := Array.replicate 89 none
  statics := some 0 }

def pool7 : Array CpInfo := pool [(1, u "java/lang/Cloneable"), (0, .class_ 1), (0, u "java/lang/Object"), (0, .class_ 3)] 3

/-- java/lang/Cloneable -/
def k7 : Class := { plain "java/lang/Cloneable" (some 0) with
  accessFlags := 1537
  interfaces := #[]
  cf := some (fileOf pool7 2 #[] #[] 1537 4 #[] #[])
  fields := #[]
  methods := #[]
  instanceTypes := #[]
  staticTypes := #[]
  resolved := Array.replicate 8 none
  statics := none }

/-- the primitive byte -/
def k8 : Class := { plain "byte" none with kind := .primitive 'B', accessFlags := 0x411 }
/-- [B -/
def k9 : Class := { plain "[B" (some 0) with kind := .array 8 .byte, interfaces := #[7, 4], accessFlags := 1041 }

/-- the primitive int -/
def k10 : Class := { plain "int" none with kind := .primitive 'I', accessFlags := 0x411 }
/-- [I -/
def k11 : Class := { plain "[I" (some 0) with kind := .array 10 .int, interfaces := #[7, 4], accessFlags := 1041 }

def heap : Heap := #[{ cls := 6, slots := #[.ref 9, .ref 10, .ref 11, .ref 12, .ref 13, .ref 14, .ref 15, .ref 16, .null], vm := .statics 6 },
  { cls := 11, slots := #[.int 1, .int 12], vm := .none },
  { cls := 11, slots := #[.int (-5)], vm := .none },
  { cls := 11, slots := #[.int 4], vm := .none },
  { cls := 11, slots := #[.int 5], vm := .none },
  { cls := 11, slots := #[.int 16, .int (-7)], vm := .none },
  { cls := 11, slots := #[.int 8, .int 6], vm := .none },
  { cls := 11, slots := #[.int 7], vm := .none },
  { cls := 11, slots := #[.int 2, .int 3], vm := .none },
  { cls := 6, slots := #[.null, .int 0, .int 0, .ref 1], vm := .none },
  { cls := 6, slots := #[.null, .int 1, .int 0, .ref 2], vm := .none },
  { cls := 6, slots := #[.null, .int 2, .int 0, .ref 3], vm := .none },
  { cls := 6, slots := #[.null, .int 3, .int 0, .ref 4], vm := .none },
  { cls := 6, slots := #[.null, .int 4, .int 0, .ref 5], vm := .none },
  { cls := 6, slots := #[.null, .int 5, .int 0, .ref 6], vm := .none },
  { cls := 6, slots := #[.null, .int 6, .int 0, .ref 7], vm := .none },
  { cls := 6, slots := #[.null, .int 7, .int 0, .ref 8], vm := .none }]
def classes : Array Class := #[k0, k1, k2, k3, k4, k5, k6, k7, k8, k9, k10, k11]
def interned : List (Array UInt16 × Addr) := []
def slotsUsed : Nat := 53
def theMethod : MethodId := ⟨1, 1⟩
def args0 : Array Value := #[.int 5, .int 8, .int 3]
def aboutOver (below : List Frame) : State where
  vm := { classes := classes, interned := interned.toArray }
  heap := heap
  slotsUsed := slotsUsed
  threads := #[{ frames := .invoking theMethod args0 :: below }]
def below0 : List Frame := [.native { method := ⟨0, 0⟩, args := #[] }]
def about1 : State := aboutOver below0
def p0 : Program := .bare "" "" ""
def e0 : Env := launch0.env 0 0 0
theorem w_frames : about1.frames = Frame.invoking theMethod args0 :: below0 := rfl
set_option maxRecDepth 65536 in
theorem w_args : argsFit about1.vm theMethod args0 = true := by decide +kernel
set_option maxRecDepth 65536 in
theorem w_heap : heapFits about1 = true := by decide +kernel
set_option maxRecDepth 65536 in
theorem w_runnable : about1.curStatus? = some .runnable := by decide +kernel
set_option maxRecDepth 65536 in
theorem w_alone : about1.alone = true := by decide +kernel
set_option maxRecDepth 65536 in
theorem w_named : about1.methodNamed? x = some theMethod := by decide +kernel
set_option maxRecDepth 65536 in
theorem w_hears : about1.hears theMethod below0 = true := by decide +kernel
set_option maxRecDepth 65536 in
theorem w_ripe : about1.ripe theMethod args0 below0 = true := by decide +kernel
theorem w_running : about1.status = .running := rfl
set_option maxRecDepth 65536 in
theorem w_room : about1.hasRoom e0.platform room_1 = true :=
  launch0.hasRoom_least _ room_1 (by decide +kernel) (by decide +kernel) (by decide +kernel) (by decide +kernel) (by decide +kernel) (by decide +kernel)
theorem allAtoms_all (ts : List Jvm.Cond) (a : Array Jvm.Value) (st : Jvm.State) : (allAtoms ts).before a st = ts.all (fun c => c.before a st) := by
  induction ts with
  | nil => rfl
  | cons c t ih =>
    show (Jvm.Cond.and c (allAtoms t)).before a st = _
    rw [Jvm.Cond.before_and, ih, List.all_cons]
def words1 : List Jvm.Cond := Jvm.Cond.code x code maxLocals ret :: tables_1
/-- a 'code' word, met by the world's own term for the bytes: nothing is compared byte by byte -/
theorem code_word {y : MethodName} {bytes : ByteArray} {mx : Nat} {rt : Option FieldType} {a : Array Value} {s : State} {m : MethodId} {meth : Method} {c : Code} (h1 : s.methodNamed? y = some m) (h2 : s.vm.method? m = some meth) (h3 : meth.code = some c) (h4 : c.code = bytes)
    (h5 : (c.maxLocals == mx && c.exceptionTable.isEmpty && decide (c.maxStack ≤ mostOperands) && decide (meth.sig.returnType = rt) && !meth.locks && decide (parseMethodDescriptor y.desc = some meth.sig)) = true) : (Jvm.Cond.code y bytes mx rt).before a s = true := by
  simp only [Bool.and_eq_true, beq_iff_eq, Bool.not_eq_true', decide_eq_true_eq] at h5
  obtain ⟨⟨⟨⟨⟨g1, g2⟩, g3⟩, g4⟩, g5⟩, g6⟩ := h5
  simp [Cond.before, Cond.holds, Cond.value, h1, h2, h3, h4, g1, g2, g3, g4, g5, g6]
def isCode : Jvm.Cond → Bool
  | .code _ _ _ _ => true
  | _ => false
theorem all_split {L : List Jvm.Cond} {P : Jvm.Cond → Bool} (h1 : L.all (fun c => isCode c || P c) = true) (h2 : ∀ c ∈ L.filter isCode, P c = true) : L.all P = true := by
  refine List.all_eq_true.mpr fun c hc => ?_
  have h := List.all_eq_true.mp h1 c hc
  rcases Bool.eq_false_or_eq_true (isCode c) with hi | hi
  · exact h2 c (List.mem_filter.mpr ⟨hc, hi⟩)
  · simpa [hi] using h
set_option maxRecDepth 65536 in
theorem w_c0 : (Jvm.Cond.code x code maxLocals ret).before args0 about1 = true := code_word (m := ⟨1, 1⟩) (meth := k1m1) (c := k1c1) (by decide +kernel) rfl rfl rfl (by decide +kernel)
set_option maxRecDepth 65536 in
theorem w_c1 : (Jvm.Cond.code ({ cls := "com/example/bare_session/baresession/mapping/GetterReadsPinLaw", name := "getterOf", desc := "(I)Lcom/example/bare_session/baresession/mapping/BasicType$Getter;" } : Jvm.MethodName) method_3_code (1 : Nat) (Option.some (Jvm.ClassFile.FieldType.object "com/example/bare_session/baresession/mapping/BasicType$Getter"))).before args0 about1 = true := code_word (m := ⟨1, 2⟩) (meth := k1m2) (c := k1c2) (by decide +kernel) rfl rfl rfl (by decide +kernel)
set_option maxRecDepth 65536 in
theorem w_c2 : (Jvm.Cond.code ({ cls := "com/example/bare_session/baresession/mapping/BasicType$Getter", name := "reads", desc := "(I)Z" } : Jvm.MethodName) prog_5_method_4_code (7 : Nat) (Option.some Jvm.ClassFile.FieldType.boolean)).before args0 about1 = true := code_word (m := ⟨6, 0⟩) (meth := k6m0) (c := k6c0) (by decide +kernel) rfl rfl rfl (by decide +kernel)
set_option maxRecDepth 65536 in
theorem w_c3 : (Jvm.Cond.code ({ cls := "com/example/bare_session/baresession/mapping/GetterReadsPinLaw", name := "expected", desc := "(II)Z" } : Jvm.MethodName) method_4_code (2 : Nat) (Option.some Jvm.ClassFile.FieldType.boolean)).before args0 about1 = true := code_word (m := ⟨1, 3⟩) (meth := k1m3) (c := k1c3) (by decide +kernel) rfl rfl rfl (by decide +kernel)
def codes1 : List Jvm.Cond := [Jvm.Cond.code x code maxLocals ret, Jvm.Cond.code ({ cls := "com/example/bare_session/baresession/mapping/GetterReadsPinLaw", name := "getterOf", desc := "(I)Lcom/example/bare_session/baresession/mapping/BasicType$Getter;" } : Jvm.MethodName) method_3_code (1 : Nat) (Option.some (Jvm.ClassFile.FieldType.object "com/example/bare_session/baresession/mapping/BasicType$Getter")), Jvm.Cond.code ({ cls := "com/example/bare_session/baresession/mapping/BasicType$Getter", name := "reads", desc := "(I)Z" } : Jvm.MethodName) prog_5_method_4_code (7 : Nat) (Option.some Jvm.ClassFile.FieldType.boolean), Jvm.Cond.code ({ cls := "com/example/bare_session/baresession/mapping/GetterReadsPinLaw", name := "expected", desc := "(II)Z" } : Jvm.MethodName) method_4_code (2 : Nat) (Option.some Jvm.ClassFile.FieldType.boolean)]
set_option maxRecDepth 65536 in
theorem codes_eq : words1.filter isCode = codes1 := rfl
theorem w_codes : ∀ c ∈ words1.filter isCode, c.before args0 about1 = true := by
  rw [codes_eq]
  intro c hc
  simp only [codes1, List.mem_cons, List.not_mem_nil, or_false] at hc
  rcases hc with rfl | rfl | rfl | rfl
  · exact w_c0
  · exact w_c1
  · exact w_c2
  · exact w_c3
set_option maxRecDepth 65536 in
theorem w_t1 : (words1.take 24).all (fun c => isCode c || c.before args0 about1) = true := by decide +kernel
set_option maxRecDepth 65536 in
theorem w_t2 : (words1.drop 24).all (fun c => isCode c || c.before args0 about1) = true := by decide +kernel
theorem w_tables : (allAtoms (Jvm.Cond.code x code maxLocals ret :: tables_1)).before args0 about1 = true := by
  rw [allAtoms_all]
  show words1.all (fun c => c.before args0 about1) = true
  refine all_split ?_ w_codes
  rw [← List.take_append_drop 24 words1, List.all_append, w_t1, w_t2]
  rfl
set_option maxRecDepth 65536 in
theorem w_case : (Jvm.Cond.and given_1 narrow_1).before args0 about1 = true := by decide +kernel
theorem w_applies : (headSpec (Jvm.Cond.code x code maxLocals ret :: tables_1) room_1).applies x e0.platform about1 = true :=
  (Spec.applies_iff w_frames).mpr ⟨w_running, w_runnable, w_alone, w_named, w_hears, w_ripe, w_room, w_tables⟩
theorem atStart : AtStart classFile x code maxLocals ret World_1 tables_1 room_1 Calls_1 rest_1 Pre_1 launch0 p0 e0 about1 theMethod args0 below0 :=
  ⟨lists_1, trivial, launch0.admits_env _ _ _, launch0.least_env, fairChoices_fair.cas, fairChoices_fair.clock, w_frames, w_args, w_heap, w_applies, trivial, trivial, w_case⟩
end start1
theorem witness_1 : WitnessClaimed_1 := ⟨start1.p0, start1.e0, start1.about1, start1.theMethod, start1.args0, start1.below0, start1.atStart⟩
end Jvm.Pilot.@@N@@
