import JvmDerived
import JvmDerived.Pilot.@@N@@Statement
import JvmDerived.Pilot.@@N@@Code
set_option linter.unusedVariables false
set_option linter.unusedSimpArgs false
namespace Jvm.Pilot.@@N@@
open Jvm Jvm.ClassFile Sem Op Lib Jvm.Free Jvm.Stand Jvm.LawKit Jvm.RoadKit Bundle Jvm.Pilot.@@N@@.Jvm.D
/-! the goal form of a walk: from S the run ends in Q -/
def own_Gl (p : Program) (e : Env) (below : List Frame) (Q : Outcome → State → Prop) (S : State) : Prop := ∃ s₂ o, Steps p.tables e below S s₂ ∧ s₂.status = .running ∧ Ended s₂ below o ∧ Q o s₂
def own_Post (s : State) (Q : Option Value → Heap → List Loc → Prop) (C N : Nat) : Outcome → State → Prop := fun o U' => ∃ v L, o = .returned v ∧ Q v U'.heap L ∧ FrameEnd s o U' L C N
section Own
variable {p : Program} {l : Launch} {e : Env} {R : Room} {s : State} {m : MethodId} {args : Array Value} {below : List Frame} {meth : Method} {c : Code} {T : State} {locs : List Loc} {cells slots : Nat} {Q : Outcome → State → Prop} {QQ : Option Value → Heap → List Loc → Prop} {S S' : State} {C N : Nat} {h : Heap}
theorem own_st (st : ∀ t, Steps p.tables e below S' t → Steps p.tables e below S t) (g : own_Gl p e below Q S') : own_Gl p e below Q S := by
  obtain ⟨s₂, o, h1, h2⟩ := g; exact ⟨s₂, o, st _ h1, h2⟩
theorem own_tr (st : Steps p.tables e below S S') (g : own_Gl p e below Q S') : own_Gl p e below Q S := by
  obtain ⟨s₂, o, h1, h2⟩ := g; exact ⟨s₂, o, st.trans h1, h2⟩
theorem own_retO (X : Stand p l e R s m args below meth c T locs cells slots) (hx : p.tables.exec = Jvm.exec) (hlk : meth.locks = false) {pc : Nat} {Ls : Array Slot} {w : Value} {t : FieldType} {i : Instr} {rest : List Value} (hret : meth.sig.returnType = some t) (hn : narrow t w = w)
    (hi : (i = .ireturn ∧ (t = .int ∨ t = .boolean ∨ t = .byte ∨ t = .char ∨ t = .short) ∧ ∃ z, w = .int z) ∨ (i = .lreturn ∧ t = .long ∧ ∃ z, w = .long z) ∨ (i = .dreturn ∧ t = .double ∧ ∃ z, w = .double z) ∨ (i = .freturn ∧ t = .float ∧ ∃ z, w = .float z) ∨ (i = .areturn ∧ t.isReference = true ∧ w.isRef = true))
    (hd : decode c.code pc = .ok (i, 1)) (hc : cells ≤ C) (hs : slots ≤ N) (eT : T.heap = h) (hq : QQ (some w) h locs) : own_Gl p e below (own_Post s QQ C N) (T.setTop (mkF m pc Ls (w :: rest))) := by
  obtain ⟨fs, hr, hrun, hended, hW, hsame⟩ := X.leave (v := some w) (fun h => by rw [hret] at h; cases h) hlk
  subst eT
  exact ⟨_, _, retOut X hx hret hn hi hd hr, hrun, hended, _, _, rfl, hq, ⟨_, rfl⟩, hW, hsame.mono hc hs⟩
theorem own_retI (X : Stand p l e R s m args below meth c T locs cells slots) (hx : p.tables.exec = Jvm.exec) (hlk : meth.locks = false) {pc : Nat} {Ls : Array Slot} {z : Int32} {rest : List Value} (hret : meth.sig.returnType = some .int)
    (hd : decode c.code pc = .ok (.ireturn, 1)) (hc : cells ≤ C) (hs : slots ≤ N) (eT : T.heap = h) (hq : QQ (some (.int z)) h locs) : own_Gl p e below (own_Post s QQ C N) (T.setTop (mkF m pc Ls (.int z :: rest))) :=
  own_retO X hx hlk hret rfl (Or.inl ⟨rfl, Or.inl rfl, z, rfl⟩) hd hc hs eT hq
theorem own_retL (X : Stand p l e R s m args below meth c T locs cells slots) (hx : p.tables.exec = Jvm.exec) (hlk : meth.locks = false) {pc : Nat} {Ls : Array Slot} {z : Int64} {rest : List Value} (hret : meth.sig.returnType = some .long)
    (hd : decode c.code pc = .ok (.lreturn, 1)) (hc : cells ≤ C) (hs : slots ≤ N) (eT : T.heap = h) (hq : QQ (some (.long z)) h locs) : own_Gl p e below (own_Post s QQ C N) (T.setTop (mkF m pc Ls (.long z :: rest))) :=
  own_retO X hx hlk hret rfl (Or.inr (Or.inl ⟨rfl, rfl, z, rfl⟩)) hd hc hs eT hq
theorem own_nref {t : FieldType} {w : Value} (h : w.isRef = true) : narrow t w = w := by cases t <;> cases w <;> first | rfl | simp [Value.isRef] at h
theorem own_retA (X : Stand p l e R s m args below meth c T locs cells slots) (hx : p.tables.exec = Jvm.exec) (hlk : meth.locks = false) {pc : Nat} {Ls : Array Slot} {w : Value} {t : FieldType} {rest : List Value} (hret : meth.sig.returnType = some t) (ht : t.isReference = true) (hw : w.isRef = true)
    (hd : decode c.code pc = .ok (.areturn, 1)) (hc : cells ≤ C) (hs : slots ≤ N) (eT : T.heap = h) (hq : QQ (some w) h locs) : own_Gl p e below (own_Post s QQ C N) (T.setTop (mkF m pc Ls (w :: rest))) :=
  own_retO X hx hlk hret (own_nref hw) (Or.inr (Or.inr (Or.inr (Or.inr ⟨rfl, ht, hw⟩)))) hd hc hs eT hq
theorem own_retN (X : Stand p l e R s m args below meth c T locs cells slots) (hx : p.tables.exec = Jvm.exec) (hlk : meth.locks = false) {pc : Nat} {Ls : Array Slot} {z : Int32} {t : FieldType} {rest : List Value} (hret : meth.sig.returnType = some t) (ht : t = .boolean ∨ t = .byte ∨ t = .char ∨ t = .short)
    (hd : decode c.code pc = .ok (.ireturn, 1)) (hc : cells ≤ C) (hs : slots ≤ N) (eT : T.heap = h) (hq : QQ (some (.int (nar t z))) h locs) : own_Gl p e below (own_Post s QQ C N) (T.setTop (mkF m pc Ls (.int z :: rest))) := by
  obtain ⟨fs, hr, hrun, hended, hW, hsame⟩ := X.leave (v := some (.int (nar t z))) (fun h => by rw [hret] at h; cases h) hlk
  subst eT
  exact ⟨_, _, retN X hx hret ht hd hr, hrun, hended, _, _, rfl, hq, ⟨_, rfl⟩, hW, hsame.mono hc hs⟩
theorem own_retV (X : Stand p l e R s m args below meth c T locs cells slots) (hx : p.tables.exec = Jvm.exec) (hlk : meth.locks = false) {pc : Nat} {Ls : Array Slot} (hret : meth.sig.returnType = none)
    (hd : decode c.code pc = .ok (.return_, 1)) (hc : cells ≤ C) (hs : slots ≤ N) (eT : T.heap = h) (hq : QQ none h locs) : own_Gl p e below (own_Post s QQ C N) (T.setTop (mkF m pc Ls [])) := by
  obtain ⟨fs, hr, hrun, hended, hW, hsame⟩ := X.leave (v := none) (fun _ => rfl) hlk
  subst eT
  exact ⟨_, _, X.returnOut hx hret hd hr, hrun, hended, _, _, rfl, hq, ⟨_, rfl⟩, hW, hsame.mono hc hs⟩
theorem own_ext_refl (h : Heap) : Ext h h := ⟨Nat.le_refl _, fun _ _ q => q⟩
theorem own_ext_tr {h0 h h' : Heap} (A : Ext h0 h) (B : Ext h h') : Ext h0 h' := ⟨Nat.le_trans A.1 B.1, fun x c q => B.2 x c (A.2 x c q)⟩
theorem own_ext_keep {h0 h h' : Heap} {ws : List Addr} (A : Ext h0 h) (K : Keep h h' ws) (q : ∀ x ∈ ws, h0.size ≤ x) : Ext h0 h' := ⟨Nat.le_trans A.1 K.1, fun x c r => K.2.1 x c (A.2 x c r) fun z => absurd (Array.getElem?_eq_some_iff.mp r).1 (Nat.not_lt.mpr (q x z))⟩
theorem own_ext_wr {h0 h h' : Heap} {a : Addr} {sl : Nat} {v : Value} (A : Ext h0 h) (W : Wr h h' a sl v) (q : h0.size ≤ a) : Ext h0 h' := own_ext_keep A (Keep.of_wr W) (allS q all0)
theorem own_sta_keep {Z : State} {h h' : Heap} {ws : List Addr} {C n d : String} {v : Value} (F : Sta Z h C n d v) (K : Keep h h' ws) (q : ∀ x ∈ ws, ∀ cell : Cell, h[x]? = some cell → cell.vm.isStatics = false) : Sta Z h' C n d v := by
  obtain ⟨cf, i, k, f, st, cell, h1, h2, h3, h4, h5, h6, h7⟩ := F
  exact ⟨cf, i, k, f, st, cell, h1, h2, h3, h4, K.2.1 _ _ h5 (fun z => by rw [q _ z _ h5] at h6; cases h6), h6, h7⟩
end Own
section Words
variable {Z : State} {args : Array Value} {t u : Term} {a : Addr} {cl : Cell} {ty : FieldType}
theorem own_fldI {C n d : String} {k : Int32} (ht : t.eval args Z none [] Z = some (.ref a)) (h : (Cond.eq (Term.field t C n d) (Term.int k)).value args Z none Z [] = some true) : Fld Z Z.heap a C n d (.int k) := by
  refine Fld.start ?_
  have e := fld_at (C := C) (n := n) (dd := d) ht
  cases hv : Z.fieldOf? a C n d with
  | none => rw [hv] at e; simp [Cond.value, e] at h
  | some v => rw [hv] at e; have ek := Term.int_eval (args := args) (first := Z) (o := none) (idx := []) (s := Z) k; cases v <;> simp only [Cond.value, e, ek] at h <;> first | (cases h; done) | (simp at h; rw [h])
theorem own_fldL {C n d : String} {k : Int64} (ht : t.eval args Z none [] Z = some (.ref a)) (h : (Cond.eq (Term.field t C n d) (Term.long k)).value args Z none Z [] = some true) : Fld Z Z.heap a C n d (.long k) := by
  refine Fld.start ?_
  have e := fld_at (C := C) (n := n) (dd := d) ht
  cases hv : Z.fieldOf? a C n d with
  | none => rw [hv] at e; simp [Cond.value, e] at h
  | some v => rw [hv] at e; have ek : (Term.long k).eval args Z none [] Z = some (.long k) := rfl; cases v <;> simp only [Cond.value, e, ek] at h <;> first | (cases h; done) | (simp at h; rw [h])
theorem own_fldR {C n d : String} {b : Addr} (ht : t.eval args Z none [] Z = some (.ref a)) (h : (Term.field t C n d).eval args Z none [] Z = some (.ref b)) : Fld Z Z.heap a C n d (.ref b) := Fld.start ((fld_at ht).symm.trans h)
theorem own_len {n : Int32} (ht : t.eval args Z none [] Z = some (.ref a)) (A : Arr Z Z.heap a cl ty) (h : (Cond.eq (Term.length t) (Term.int n)).value args Z none Z [] = some true) : cl.slots.size < 2 ^ 31 ∧ cl.slots.size.toInt32 = n := by
  have ha := A.fin (Vm.Alike.refl _)
  have ek : (Term.int n).eval args Z none [] Z = some (.int n) := rfl
  by_cases hl : cl.slots.size < 2 ^ 31
  · have e := len_f ht ha hl
    simp only [Cond.value, e, ek] at h
    exact ⟨hl, by simpa using h⟩
  · exfalso
    have e : (Term.length t).eval args Z none [] Z = none := by simp [Term.eval, ht, ha, hl]
    simp [Cond.value, e] at h
theorem own_elemI {j k : Int32} (ht : t.eval args Z none [] Z = some (.ref a)) (A : Arr Z Z.heap a cl ty) (h : (Cond.eq (Term.elem t (Term.int j)) (Term.int k)).value args Z none Z [] = some true) : cl.slots[j.toNatClampNeg]? = some (.int k) := by
  have ek : (Term.int k).eval args Z none [] Z = some (.int k) := rfl
  cases hv : (Term.elem t (Term.int j)).eval args Z none [] Z with
  | none => simp [Cond.value, hv] at h
  | some v =>
    have q := (elem_in hv ht (Term.int_eval j) A.1).2
    rw [q]
    cases v <;> simp only [Cond.value, hv, ek] at h <;> first | (cases h; done) | (simp at h; rw [h])
theorem own_elemR {j : Int32} {b : Addr} (ht : t.eval args Z none [] Z = some (.ref a)) (A : Arr Z Z.heap a cl ty) (hu : u.eval args Z none [] Z = some (.ref b)) (h : (Cond.eq (Term.elem t (Term.int j)) u).value args Z none Z [] = some true) : cl.slots[j.toNatClampNeg]? = some (.ref b) := by
  cases hv : (Term.elem t (Term.int j)).eval args Z none [] Z with
  | none => simp [Cond.value, hv] at h
  | some v =>
    have q := (elem_in hv ht (Term.int_eval j) A.1).2
    rw [q]
    cases v <;> simp only [Cond.value, hv, hu] at h <;> first | (cases h; done) | (simp at h; rw [h])
end Words
def own_op (p : Int32) (a1 a2 a3 a4 a5 a6 a7 a8 : Addr) : Value := if p = 1 then .ref a1 else if p = 2 then .ref a2 else if p = 3 then .ref a3 else if p = 4 then .ref a4 else if p = 5 then .ref a5 else if p = 6 then .ref a6 else if p = 7 then .ref a7 else if p = 8 then .ref a8 else .null
theorem own_opr (p : Int32) (a1 a2 a3 a4 a5 a6 a7 a8 : Addr) : (own_op p a1 a2 a3 a4 a5 a6 a7 a8).isRef = true := by
  unfold own_op
  repeat' split
  all_goals rfl
theorem own_pn0 : plainName "com/example/stackprobe/stackprobe/model/Operator" = true := by first | (simp [plainName, overriddenIn]; done) | decide +kernel
theorem own_d_prog_35_method_1_code_0 : decode prog_35_method_1_code 0 = .ok (.getstatic 28, 3) := by decide +kernel
theorem own_d_prog_35_method_1_code_3 : decode prog_35_method_1_code 3 = .ok (.invokevirtual 32, 3) := by decide +kernel
theorem own_d_prog_35_method_1_code_6 : decode prog_35_method_1_code 6 = .ok (.checkcast 33, 3) := by decide +kernel
theorem own_d_prog_35_method_1_code_9 : decode prog_35_method_1_code 9 = .ok (.areturn, 1) := by decide +kernel
theorem own_ef_vals (m : MethodId)  : entryFrame m #[] 0 = mkF m 0 #[] [] := by first | (simp [entryFrame, mkF, argsToLocals, Value.category]; done) | rfl
def own_Q_vals (Z : State) (aV : Addr) (kV : ClassId) (a1 a2 a3 a4 a5 a6 a7 a8 : Addr) (h0 : Heap) (n0 : Nat) (v : Option Value) (h : Heap) (L : List Loc) : Prop := (∃ b, v = some (.ref b) ∧ h0.size ≤ b ∧ Arv Z h b kV (.object "com/example/stackprobe/stackprobe/model/Operator") (8 : Int32) [(.ref a1), (.ref a2), (.ref a3), (.ref a4), (.ref a5), (.ref a6), (.ref a7), (.ref a8)] .null) ∧ Fr n0 L ∧ Ext h0 h
set_option maxRecDepth 65536 in
set_option maxHeartbeats 40000000 in
theorem own_rm_vals (l : Launch) (Z : State) (a0 : Array Value) (hw : ∀ d ∈ tables_1, d.before a0 Z = true) (ws : List Jvm.Cond) (aV : Addr) (kV : ClassId) (a1 a2 a3 a4 a5 a6 a7 a8 : Addr) (h0 : Heap) (n0 : Nat) (Z0 : n0 ≤ h0.size) (S_V : Sta Z h0 "com/example/stackprobe/stackprobe/model/Operator" "$VALUES" "[Lcom/example/stackprobe/stackprobe/model/Operator;" (.ref aV)) (V_aV : Arv Z h0 aV kV (.object "com/example/stackprobe/stackprobe/model/Operator") (8 : Int32) [(.ref a1), (.ref a2), (.ref a3), (.ref a4), (.ref a5), (.ref a6), (.ref a7), (.ref a8)] .null) (E_aV : Exa Z h0 aV "[Lcom/example/stackprobe/stackprobe/model/Operator;") :
    MetFree l (⟨"com/example/stackprobe/stackprobe/model/Operator", "values", "()[Lcom/example/stackprobe/stackprobe/model/Operator;"⟩ : MethodName) (head1 (Jvm.Cond.code (⟨"com/example/stackprobe/stackprobe/model/Operator", "values", "()[Lcom/example/stackprobe/stackprobe/model/Operator;"⟩ : MethodName) prog_35_method_1_code 0 (some (.array (.object "com/example/stackprobe/stackprobe/model/Operator"))) :: ws) ({ frames := 1, cells := 1, slots := 8, locals := 14 } : Room)) (fun aa UU => aa = #[] ∧ Z.Warmed39 UU.vm ∧ UU.heap = h0) (fun _ _ _ _ _ => True) (fun _ UU oo UU' => ∃ vv LL, oo = .returned vv ∧ own_Q_vals Z aV kV a1 a2 a3 a4 a5 a6 a7 a8 h0 n0 vv UU'.heap LL ∧ FrameEnd UU oo UU' LL ({ frames := 1, cells := 1, slots := 8, locals := 14 } : Room).cells ({ frames := 1, cells := 1, slots := 8, locals := 14 } : Room).slots) := by
  refine MetFree.of_bodySF (plainFor_of_name own_pn0) hisR ?_
  intro p e s m args below meth c s₁ Bd hml0 hP hK
  obtain ⟨rfl, hZ, hh⟩ := hP
  have hx := Bd.exec
  have hby := Bd.bytes
  have hml : c.maxLocals = 0 := hml0
  have hown : s.vm.findClass "com/example/stackprobe/stackprobe/model/Operator" = some m.cls := findClass_of_methodNamed Bd.named
  have hnm := (name_of_methodNamed Bd.named Bd.method).1
  have X0 : Stand p l e ({ frames := 1, cells := 1, slots := 8, locals := 14 } : Room) s m #[] below meth c s₁ [] 0 0 := Stand.of_body Bd
  have e0 : s₁.heap = h0 := by rw [← hh, Bd.state]; rfl
  have N0 := Fr.nil n0
  show own_Gl p e below (own_Post s (own_Q_vals Z aV kV a1 a2 a3 a4 a5 a6 a7 a8 h0 n0) ({ frames := 1, cells := 1, slots := 8, locals := 14 } : Room).cells ({ frames := 1, cells := 1, slots := 8, locals := 14 } : Room).slots) _
  refine own_st (fun tg_ kg_ => castTop (own_ef_vals m ) kg_) ?_
  show own_Gl p e below _ (s₁.setTop (mkF m 0 #[] []))
  obtain ⟨T1, X1, e1, st1⟩ := getS2 X0 hx hZ hown (host := "") (Or.inl (hw _ (List.mem_of_getElem? (i := 11) rfl))) Via.refl e0 S_V (g := (mkF m 0 #[] [])) rfl (hb hby own_d_prog_35_method_1_code_0)
  refine own_st st1 ?_
  show own_Gl p e below _ (T1.setTop (mkF m 3 #[] [(.ref aV)]))
  obtain ⟨T2, h2, X2, e2, E2, A2, B2, st2⟩ := cloneH X1 hx hZ hown (hw _ (List.mem_of_getElem? (i := 13) rfl)) (hw _ (List.mem_of_getElem? (i := 14) rfl)) (hw _ (List.mem_of_getElem? (i := 18) rfl)) (hw _ (List.mem_of_getElem? (i := 16) rfl)) (hw _ (List.mem_of_getElem? (i := 17) rfl)) (hw _ (List.mem_of_getElem? (i := 19) rfl)) e1 V_aV.arh E_aV (g := (mkF m 3 #[] [(.ref aV)])) rfl (by rw [hml]; rfl) rfl (hb hby own_d_prog_35_method_1_code_3) (by decide) (W := 0) (cap := 8) (by show 2 * 0 + _ ≤ _; exact Nat.le_of_eq rfl) (by decide) (by decide) (by decide) (by decide)
  obtain ⟨b, g2⟩ : ∃ z, z = h0.size := ⟨_, rfl⟩
  have ne_aV_b : aV ≠ b := Nat.ne_of_lt (Nat.lt_of_lt_of_le V_aV.lt (Nat.le_of_eq g2.symm))
  have sz_b : h0.size ≤ b := Nat.le_of_eq g2.symm
  have g_b : n0 ≤ b := Nat.le_trans Z0 sz_b
  rw [← g2] at A2 B2 st2
  have V_b : Arv Z h2 b kV (.object "com/example/stackprobe/stackprobe/model/Operator") (8 : Int32) [(.ref a1), (.ref a2), (.ref a3), (.ref a4), (.ref a5), (.ref a6), (.ref a7), (.ref a8)] .null := A2
  have E_b := B2
  refine own_st st2 ?_
  show own_Gl p e below _ (T2.setTop (mkF m 6 #[] [(.ref b)]))
  obtain ⟨T4, X4, e4, st4⟩ := castY X2 hx hZ hown (hw _ (List.mem_of_getElem? (i := 29) rfl)) e2 (Ins.self E_b) (g := (mkF m 6 #[] [(.ref b)])) rfl rfl (hb hby own_d_prog_35_method_1_code_6)
  refine own_st st4 ?_
  show own_Gl p e below _ (T4.setTop (mkF m 9 #[] [(.ref b)]))
  exact own_retA X4 hx Bd.notSynchronized Bd.returns rfl rfl (hb hby own_d_prog_35_method_1_code_9) (by decide) (by decide) e4 (⟨⟨_, rfl, sz_b, V_b⟩, N0, E2⟩)
theorem own_pd0 : parseMethodDescriptor "()[Lcom/example/stackprobe/stackprobe/model/Operator;" = some ⟨[], some (.array (.object "com/example/stackprobe/stackprobe/model/Operator"))⟩ := by decide +kernel
theorem own_d_prog_35_method_8_code_0 : decode prog_35_method_8_code 0 = .ok (.invokestatic 103, 3) := by decide +kernel
theorem own_d_prog_35_method_8_code_3 : decode prog_35_method_8_code 3 = .ok (.astore_n 1, 1) := by decide +kernel
theorem own_d_prog_35_method_8_code_4 : decode prog_35_method_8_code 4 = .ok (.aload_n 1, 1) := by decide +kernel
theorem own_d_prog_35_method_8_code_5 : decode prog_35_method_8_code 5 = .ok (.arraylength, 1) := by decide +kernel
theorem own_d_prog_35_method_8_code_6 : decode prog_35_method_8_code 6 = .ok (.istore_n 2, 1) := by decide +kernel
theorem own_d_prog_35_method_8_code_7 : decode prog_35_method_8_code 7 = .ok (.iconst 0, 1) := by decide +kernel
theorem own_d_prog_35_method_8_code_8 : decode prog_35_method_8_code 8 = .ok (.istore_n 3, 1) := by decide +kernel
theorem own_d_prog_35_method_8_code_9 : decode prog_35_method_8_code 9 = .ok (.iload_n 3, 1) := by decide +kernel
theorem own_d_prog_35_method_8_code_10 : decode prog_35_method_8_code 10 = .ok (.iload_n 2, 1) := by decide +kernel
theorem own_d_prog_35_method_8_code_11 : decode prog_35_method_8_code 11 = .ok (.if_icmp .ge 26, 3) := by decide +kernel
theorem own_d_prog_35_method_8_code_14 : decode prog_35_method_8_code 14 = .ok (.aload_n 1, 1) := by decide +kernel
theorem own_d_prog_35_method_8_code_15 : decode prog_35_method_8_code 15 = .ok (.iload_n 3, 1) := by decide +kernel
theorem own_d_prog_35_method_8_code_16 : decode prog_35_method_8_code 16 = .ok (.aaload, 1) := by decide +kernel
theorem own_d_prog_35_method_8_code_17 : decode prog_35_method_8_code 17 = .ok (.astore 4, 2) := by decide +kernel
theorem own_d_prog_35_method_8_code_19 : decode prog_35_method_8_code 19 = .ok (.aload 4, 2) := by decide +kernel
theorem own_d_prog_35_method_8_code_21 : decode prog_35_method_8_code 21 = .ok (.getfield 47, 3) := by decide +kernel
theorem own_d_prog_35_method_8_code_24 : decode prog_35_method_8_code 24 = .ok (.iload_n 0, 1) := by decide +kernel
theorem own_d_prog_35_method_8_code_25 : decode prog_35_method_8_code 25 = .ok (.if_icmp .ne 6, 3) := by decide +kernel
theorem own_d_prog_35_method_8_code_28 : decode prog_35_method_8_code 28 = .ok (.aload 4, 2) := by decide +kernel
theorem own_d_prog_35_method_8_code_30 : decode prog_35_method_8_code 30 = .ok (.areturn, 1) := by decide +kernel
theorem own_d_prog_35_method_8_code_31 : decode prog_35_method_8_code 31 = .ok (.iinc 3 1, 3) := by decide +kernel
theorem own_d_prog_35_method_8_code_34 : decode prog_35_method_8_code 34 = .ok (.goto (-25), 3) := by decide +kernel
theorem own_d_prog_35_method_8_code_37 : decode prog_35_method_8_code 37 = .ok (.aconst_null, 1) := by decide +kernel
theorem own_d_prog_35_method_8_code_38 : decode prog_35_method_8_code 38 = .ok (.areturn, 1) := by decide +kernel
theorem own_ef_ofc (m : MethodId) (x0 : Int32) : entryFrame m #[(.int x0)] 5 = mkF m 0 #[.val (.int x0), .unset, .unset, .unset, .unset] [] := by first | (simp [entryFrame, mkF, argsToLocals, Value.category]; done) | rfl
def own_Q_ofc (Z : State) (p1 : Int32) (aV : Addr) (kV : ClassId) (a1 a2 a3 a4 a5 a6 a7 a8 : Addr) (h0 : Heap) (n0 : Nat) (v : Option Value) (h : Heap) (L : List Loc) : Prop := v = some (own_op p1 a1 a2 a3 a4 a5 a6 a7 a8) ∧ Fr n0 L ∧ Ext h0 h
set_option maxRecDepth 65536 in
set_option maxHeartbeats 40000000 in
theorem own_rm_ofc (l : Launch) (Z : State) (a0 : Array Value) (hw : ∀ d ∈ tables_1, d.before a0 Z = true) (ws : List Jvm.Cond) (p1 : Int32) (aV : Addr) (kV : ClassId) (a1 a2 a3 a4 a5 a6 a7 a8 : Addr) (h0 : Heap) (n0 : Nat) (Z0 : n0 ≤ h0.size) (S_V : Sta Z h0 "com/example/stackprobe/stackprobe/model/Operator" "$VALUES" "[Lcom/example/stackprobe/stackprobe/model/Operator;" (.ref aV)) (V_aV : Arv Z h0 aV kV (.object "com/example/stackprobe/stackprobe/model/Operator") (8 : Int32) [(.ref a1), (.ref a2), (.ref a3), (.ref a4), (.ref a5), (.ref a6), (.ref a7), (.ref a8)] .null) (E_aV : Exa Z h0 aV "[Lcom/example/stackprobe/stackprobe/model/Operator;") (F_a1 : Fld Z h0 a1 "com/example/stackprobe/stackprobe/model/Operator" "code" "I" (.int 1)) (F_a2 : Fld Z h0 a2 "com/example/stackprobe/stackprobe/model/Operator" "code" "I" (.int 2)) (F_a3 : Fld Z h0 a3 "com/example/stackprobe/stackprobe/model/Operator" "code" "I" (.int 3)) (F_a4 : Fld Z h0 a4 "com/example/stackprobe/stackprobe/model/Operator" "code" "I" (.int 4)) (F_a5 : Fld Z h0 a5 "com/example/stackprobe/stackprobe/model/Operator" "code" "I" (.int 5)) (F_a6 : Fld Z h0 a6 "com/example/stackprobe/stackprobe/model/Operator" "code" "I" (.int 6)) (F_a7 : Fld Z h0 a7 "com/example/stackprobe/stackprobe/model/Operator" "code" "I" (.int 7)) (F_a8 : Fld Z h0 a8 "com/example/stackprobe/stackprobe/model/Operator" "code" "I" (.int 8)) :
    MetFree l (⟨"com/example/stackprobe/stackprobe/model/Operator", "ofCode", "(I)Lcom/example/stackprobe/stackprobe/model/Operator;"⟩ : MethodName) (head1 (Jvm.Cond.code (⟨"com/example/stackprobe/stackprobe/model/Operator", "ofCode", "(I)Lcom/example/stackprobe/stackprobe/model/Operator;"⟩ : MethodName) prog_35_method_8_code 5 (some (.object "com/example/stackprobe/stackprobe/model/Operator")) :: ws) ({ frames := 2, cells := 1, slots := 8, locals := 25 } : Room)) (fun aa UU => aa = #[(.int p1)] ∧ Z.Warmed39 UU.vm ∧ UU.heap = h0) (fun _ _ _ _ _ => True) (fun _ UU oo UU' => ∃ vv LL, oo = .returned vv ∧ own_Q_ofc Z p1 aV kV a1 a2 a3 a4 a5 a6 a7 a8 h0 n0 vv UU'.heap LL ∧ FrameEnd UU oo UU' LL ({ frames := 2, cells := 1, slots := 8, locals := 25 } : Room).cells ({ frames := 2, cells := 1, slots := 8, locals := 25 } : Room).slots) := by
  refine MetFree.of_bodySF (plainFor_of_name own_pn0) hisR ?_
  intro p e s m args below meth c s₁ Bd hml0 hP hK
  obtain ⟨rfl, hZ, hh⟩ := hP
  have hx := Bd.exec
  have hby := Bd.bytes
  have hml : c.maxLocals = 5 := hml0
  have hown : s.vm.findClass "com/example/stackprobe/stackprobe/model/Operator" = some m.cls := findClass_of_methodNamed Bd.named
  have hnm := (name_of_methodNamed Bd.named Bd.method).1
  have X0 : Stand p l e ({ frames := 2, cells := 1, slots := 8, locals := 25 } : Room) s m #[(.int p1)] below meth c s₁ [] 0 0 := Stand.of_body Bd
  have e0 : s₁.heap = h0 := by rw [← hh, Bd.state]; rfl
  have N0 := Fr.nil n0
  show own_Gl p e below (own_Post s (own_Q_ofc Z p1 aV kV a1 a2 a3 a4 a5 a6 a7 a8 h0 n0) ({ frames := 2, cells := 1, slots := 8, locals := 25 } : Room).cells ({ frames := 2, cells := 1, slots := 8, locals := 25 } : Room).slots) _
  refine own_st (fun tg_ kg_ => castTop (own_ef_ofc m p1) kg_) ?_
  show own_Gl p e below _ (s₁.setTop (mkF m 0 #[.val (.int p1), .unset, .unset, .unset, .unset] []))
  obtain ⟨_, _, ⟨T1, L1, k1, n1⟩, -, X1, ⟨Lc1, hQ1, l1, y1, z1⟩, st1⟩ := Jvm.LawKit.callS X0 hx (y := (⟨"com/example/stackprobe/stackprobe/model/Operator", "values", "()[Lcom/example/stackprobe/stackprobe/model/Operator;"⟩ : MethodName)) hown (mvT hZ (hw _ (List.mem_of_getElem? (i := 8) rfl))) (mvT hZ (hw _ (List.mem_of_getElem? (i := 9) rfl))) (mvT hZ (hw _ (List.mem_of_getElem? (i := 6) rfl))) (mvT hZ (hw _ (List.mem_of_getElem? (i := 10) rfl))) (by decide) (backOf (W := 0) (own_rm_vals l Z a0 hw [] aV kV a1 a2 a3 a4 a5 a6 a7 a8 h0 n0 Z0 S_V V_aV E_aV) hZ (hw _ (List.mem_of_getElem? (i := 10) rfl)) (hw _ (List.mem_of_getElem? (i := 6) rfl)) (by decide) (by decide)) (g := (mkF m 0 #[.val (.int p1), .unset, .unset, .unset, .unset] [])) rfl (by rw [hml]; rfl) (argsL := []) (rest := []) (lenOf own_pd0 rfl) rfl (by show 2 * 0 + _ ≤ _; exact Nat.le_of_eq rfl) (hb hby own_d_prog_35_method_8_code_0) (fun _ _ => ⟨rfl, e0, (by decide : 0 + 1 ≤ _), (by decide : 0 + 8 ≤ _)⟩)
  dsimp only [Pt.U, Pt.locs, Pt.cells, Pt.slots] at X1 l1 y1 z1 st1 hQ1
  subst l1 y1 z1
  obtain ⟨⟨b, rfl, szb, V_b⟩, N1q, Kc1⟩ := hQ1
  have N1 := Fr.app N0 N1q
  refine own_st st1 ?_
  show own_Gl p e below _ (T1.setTop (mkF m 3 #[.val (.int p1), .unset, .unset, .unset, .unset] [(.ref b)]))
  refine own_st (fun tg_ kg_ => XS.astoreN X1.here hx rfl (hb hby own_d_prog_35_method_8_code_3) rfl rfl (l' := #[.val (.int p1), .val (.ref b), .unset, .unset, .unset]) rfl kg_) ?_
  show own_Gl p e below _ (T1.setTop (mkF m 4 #[.val (.int p1), .val (.ref b), .unset, .unset, .unset] []))
  refine own_st (fun tg_ kg_ => XS.aloadN X1.here hx rfl (hb hby own_d_prog_35_method_8_code_4) rfl rfl kg_) ?_
  show own_Gl p e below _ (T1.setTop (mkF m 5 #[.val (.int p1), .val (.ref b), .unset, .unset, .unset] [(.ref b)]))
  obtain ⟨cl3, Ar3, qa3, Sa3, Na3, Ha3, Ga3⟩ := id V_b
  refine own_st (fun tg_ kg_ => X1.arraylength hx Ar3.1 (State.isArrayOf_alike hZ.alike Ar3.2.1) (g := (mkF m 5 #[.val (.int p1), .val (.ref b), .unset, .unset, .unset] [(.ref b)])) rfl rfl (hb hby own_d_prog_35_method_8_code_5) _ kg_) ?_
  rw [len_of Sa3 Na3]
  show own_Gl p e below _ (T1.setTop (mkF m 6 #[.val (.int p1), .val (.ref b), .unset, .unset, .unset] [(.int (8 : Int32))]))
  refine own_st (fun tg_ kg_ => XS.istoreN X1.here hx rfl (hb hby own_d_prog_35_method_8_code_6) rfl (l' := #[.val (.int p1), .val (.ref b), .val (.int (8 : Int32)), .unset, .unset]) rfl kg_) ?_
  show own_Gl p e below _ (T1.setTop (mkF m 7 #[.val (.int p1), .val (.ref b), .val (.int (8 : Int32)), .unset, .unset] []))
  refine own_st (fun tg_ kg_ => XS.iconst X1.here hx rfl (hb hby own_d_prog_35_method_8_code_7) kg_) ?_
  show own_Gl p e below _ (T1.setTop (mkF m 8 #[.val (.int p1), .val (.ref b), .val (.int (8 : Int32)), .unset, .unset] [(.int (0 : Int32))]))
  refine own_st (fun tg_ kg_ => XS.istoreN X1.here hx rfl (hb hby own_d_prog_35_method_8_code_8) rfl (l' := #[.val (.int p1), .val (.ref b), .val (.int (8 : Int32)), .val (.int (0 : Int32)), .unset]) rfl kg_) ?_
  show own_Gl p e below _ (T1.setTop (mkF m 9 #[.val (.int p1), .val (.ref b), .val (.int (8 : Int32)), .val (.int (0 : Int32)), .unset] []))
  refine own_st (fun tg_ kg_ => XS.iloadN X1.here hx rfl (hb hby own_d_prog_35_method_8_code_9) rfl kg_) ?_
  show own_Gl p e below _ (T1.setTop (mkF m 10 #[.val (.int p1), .val (.ref b), .val (.int (8 : Int32)), .val (.int (0 : Int32)), .unset] [(.int (0 : Int32))]))
  refine own_st (fun tg_ kg_ => XS.iloadN X1.here hx rfl (hb hby own_d_prog_35_method_8_code_10) rfl kg_) ?_
  show own_Gl p e below _ (T1.setTop (mkF m 11 #[.val (.int p1), .val (.ref b), .val (.int (8 : Int32)), .val (.int (0 : Int32)), .unset] [(.int (8 : Int32)), (.int (0 : Int32))]))
  refine own_st (fun tg_ kg_ => XS.icmpNo X1.here hx rfl (hb hby own_d_prog_35_method_8_code_11) rfl (tlt ((by decide : (0 : Int32) < (8 : Int32)))).2.1 kg_) ?_
  show own_Gl p e below _ (T1.setTop (mkF m 14 #[.val (.int p1), .val (.ref b), .val (.int (8 : Int32)), .val (.int (0 : Int32)), .unset] []))
  refine own_st (fun tg_ kg_ => XS.aloadN X1.here hx rfl (hb hby own_d_prog_35_method_8_code_14) rfl rfl kg_) ?_
  show own_Gl p e below _ (T1.setTop (mkF m 15 #[.val (.int p1), .val (.ref b), .val (.int (8 : Int32)), .val (.int (0 : Int32)), .unset] [(.ref b)]))
  refine own_st (fun tg_ kg_ => XS.iloadN X1.here hx rfl (hb hby own_d_prog_35_method_8_code_15) rfl kg_) ?_
  show own_Gl p e below _ (T1.setTop (mkF m 16 #[.val (.int p1), .val (.ref b), .val (.int (8 : Int32)), .val (.int (0 : Int32)), .unset] [(.int (0 : Int32)), (.ref b)]))
  obtain ⟨cl4, Ar4, qa4, Sa4, Na4, Ha4, Ga4⟩ := id V_b
  have hin5 : ¬ ((0 : Int32) < 0 ∨ cl4.slots.size ≤ ((0 : Int32)).toNatClampNeg) := inb_of Sa4 ⟨by decide, by decide⟩
  have hat5 : cl4.slots[((0 : Int32)).toNatClampNeg]? = some (.ref a1) := Has.at Ha4 hin5 rfl
  refine own_st (fun tg_ kg_ => X1.aaload hx (j := (0 : Int32)) (v := (.ref a1)) Ar4.1 (State.isArrayOf_alike hZ.alike Ar4.2.1) rfl Ar4.2.2 hin5 hat5 (g := (mkF m 16 #[.val (.int p1), .val (.ref b), .val (.int (8 : Int32)), .val (.int (0 : Int32)), .unset] [(.int (0 : Int32)), (.ref b)])) rfl rfl (hb hby own_d_prog_35_method_8_code_16) _ kg_) ?_
  show own_Gl p e below _ (T1.setTop (mkF m 17 #[.val (.int p1), .val (.ref b), .val (.int (8 : Int32)), .val (.int (0 : Int32)), .unset] [(.ref a1)]))
  refine own_st (fun tg_ kg_ => XS.astore X1.here hx rfl (hb hby own_d_prog_35_method_8_code_17) rfl rfl (l' := #[.val (.int p1), .val (.ref b), .val (.int (8 : Int32)), .val (.int (0 : Int32)), .val (.ref a1)]) rfl kg_) ?_
  show own_Gl p e below _ (T1.setTop (mkF m 19 #[.val (.int p1), .val (.ref b), .val (.int (8 : Int32)), .val (.int (0 : Int32)), .val (.ref a1)] []))
  refine own_st (fun tg_ kg_ => XS.aload X1.here hx rfl (hb hby own_d_prog_35_method_8_code_19) rfl rfl kg_) ?_
  show own_Gl p e below _ (T1.setTop (mkF m 21 #[.val (.int p1), .val (.ref b), .val (.int (8 : Int32)), .val (.int (0 : Int32)), .val (.ref a1)] [(.ref a1)]))
  obtain ⟨T6, X6, e6, st6⟩ := getF X1 hx hZ hown (host := "") (Or.inl (hw _ (List.mem_of_getElem? (i := 31) rfl))) Via.refl rfl (F_a1.ext Kc1) (g := (mkF m 21 #[.val (.int p1), .val (.ref b), .val (.int (8 : Int32)), .val (.int (0 : Int32)), .val (.ref a1)] [(.ref a1)])) rfl rfl (hb hby own_d_prog_35_method_8_code_21)
  refine own_st st6 ?_
  show own_Gl p e below _ (T6.setTop (mkF m 24 #[.val (.int p1), .val (.ref b), .val (.int (8 : Int32)), .val (.int (0 : Int32)), .val (.ref a1)] [(.int (1 : Int32))]))
  refine own_st (fun tg_ kg_ => XS.iloadN X6.here hx rfl (hb hby own_d_prog_35_method_8_code_24) rfl kg_) ?_
  show own_Gl p e below _ (T6.setTop (mkF m 25 #[.val (.int p1), .val (.ref b), .val (.int (8 : Int32)), .val (.int (0 : Int32)), .val (.ref a1)] [(.int p1), (.int (1 : Int32))]))
  by_cases hc25_7 : p1 = (1 : Int32)
  ·
    show own_Gl p e below _ (T6.setTop (mkF m 25 #[.val (.int p1), .val (.ref b), .val (.int (8 : Int32)), .val (.int (0 : Int32)), .val (.ref a1)] [(.int p1), (.int (1 : Int32))]))
    refine own_st (fun tg_ kg_ => XS.icmpNo X6.here hx rfl (hb hby own_d_prog_35_method_8_code_25) rfl (teq (hc25_7.symm)).2 kg_) ?_
    show own_Gl p e below _ (T6.setTop (mkF m 28 #[.val (.int p1), .val (.ref b), .val (.int (8 : Int32)), .val (.int (0 : Int32)), .val (.ref a1)] []))
    refine own_st (fun tg_ kg_ => XS.aload X6.here hx rfl (hb hby own_d_prog_35_method_8_code_28) rfl rfl kg_) ?_
    show own_Gl p e below _ (T6.setTop (mkF m 30 #[.val (.int p1), .val (.ref b), .val (.int (8 : Int32)), .val (.int (0 : Int32)), .val (.ref a1)] [(.ref a1)]))
    exact own_retA X6 hx Bd.notSynchronized Bd.returns rfl rfl (hb hby own_d_prog_35_method_8_code_30) (by decide) (by decide) e6 (⟨by simp [own_op, eq_true hc25_7], N1, Kc1⟩)
  ·
    show own_Gl p e below _ (T6.setTop (mkF m 25 #[.val (.int p1), .val (.ref b), .val (.int (8 : Int32)), .val (.int (0 : Int32)), .val (.ref a1)] [(.int p1), (.int (1 : Int32))]))
    refine own_st (fun tg_ kg_ => XS.icmpYes X6.here hx rfl (pc0 := 25) (pc' := 31) rfl (hb hby own_d_prog_35_method_8_code_25) rfl (feq (fun q => hc25_7 q.symm)).2 (by decide) (by decide) kg_) ?_
    show own_Gl p e below _ (T6.setTop (mkF m 31 #[.val (.int p1), .val (.ref b), .val (.int (8 : Int32)), .val (.int (0 : Int32)), .val (.ref a1)] []))
    refine own_st (fun tg_ kg_ => XS.iinc X6.here hx rfl (hb hby own_d_prog_35_method_8_code_31) rfl (l' := #[.val (.int p1), .val (.ref b), .val (.int (8 : Int32)), .val (.int (1 : Int32)), .val (.ref a1)]) rfl kg_) ?_
    show own_Gl p e below _ (T6.setTop (mkF m 34 #[.val (.int p1), .val (.ref b), .val (.int (8 : Int32)), .val (.int (1 : Int32)), .val (.ref a1)] []))
    refine own_st (fun tg_ kg_ => XS.goto X6.here hx rfl (pc0 := 34) (pc' := 9) rfl (hb hby own_d_prog_35_method_8_code_34) (by decide) (by decide) kg_) ?_
    show own_Gl p e below _ (T6.setTop (mkF m 9 #[.val (.int p1), .val (.ref b), .val (.int (8 : Int32)), .val (.int (1 : Int32)), .val (.ref a1)] []))
    refine own_st (fun tg_ kg_ => XS.iloadN X6.here hx rfl (hb hby own_d_prog_35_method_8_code_9) rfl kg_) ?_
    show own_Gl p e below _ (T6.setTop (mkF m 10 #[.val (.int p1), .val (.ref b), .val (.int (8 : Int32)), .val (.int (1 : Int32)), .val (.ref a1)] [(.int (1 : Int32))]))
    refine own_st (fun tg_ kg_ => XS.iloadN X6.here hx rfl (hb hby own_d_prog_35_method_8_code_10) rfl kg_) ?_
    show own_Gl p e below _ (T6.setTop (mkF m 11 #[.val (.int p1), .val (.ref b), .val (.int (8 : Int32)), .val (.int (1 : Int32)), .val (.ref a1)] [(.int (8 : Int32)), (.int (1 : Int32))]))
    refine own_st (fun tg_ kg_ => XS.icmpNo X6.here hx rfl (hb hby own_d_prog_35_method_8_code_11) rfl (tlt ((by decide : (1 : Int32) < (8 : Int32)))).2.1 kg_) ?_
    show own_Gl p e below _ (T6.setTop (mkF m 14 #[.val (.int p1), .val (.ref b), .val (.int (8 : Int32)), .val (.int (1 : Int32)), .val (.ref a1)] []))
    refine own_st (fun tg_ kg_ => XS.aloadN X6.here hx rfl (hb hby own_d_prog_35_method_8_code_14) rfl rfl kg_) ?_
    show own_Gl p e below _ (T6.setTop (mkF m 15 #[.val (.int p1), .val (.ref b), .val (.int (8 : Int32)), .val (.int (1 : Int32)), .val (.ref a1)] [(.ref b)]))
    refine own_st (fun tg_ kg_ => XS.iloadN X6.here hx rfl (hb hby own_d_prog_35_method_8_code_15) rfl kg_) ?_
    show own_Gl p e below _ (T6.setTop (mkF m 16 #[.val (.int p1), .val (.ref b), .val (.int (8 : Int32)), .val (.int (1 : Int32)), .val (.ref a1)] [(.int (1 : Int32)), (.ref b)]))
    obtain ⟨cl8, Ar8, qa8, Sa8, Na8, Ha8, Ga8⟩ := id V_b
    have hin9 : ¬ ((1 : Int32) < 0 ∨ cl8.slots.size ≤ ((1 : Int32)).toNatClampNeg) := inb_of Sa8 ⟨by decide, by decide⟩
    have hat9 : cl8.slots[((1 : Int32)).toNatClampNeg]? = some (.ref a2) := Has.at Ha8 hin9 rfl
    refine own_st (fun tg_ kg_ => X6.aaload hx (j := (1 : Int32)) (v := (.ref a2)) (by rw [e6]; exact Ar8.1) (State.isArrayOf_alike hZ.alike Ar8.2.1) rfl Ar8.2.2 hin9 hat9 (g := (mkF m 16 #[.val (.int p1), .val (.ref b), .val (.int (8 : Int32)), .val (.int (1 : Int32)), .val (.ref a1)] [(.int (1 : Int32)), (.ref b)])) rfl rfl (hb hby own_d_prog_35_method_8_code_16) _ kg_) ?_
    show own_Gl p e below _ (T6.setTop (mkF m 17 #[.val (.int p1), .val (.ref b), .val (.int (8 : Int32)), .val (.int (1 : Int32)), .val (.ref a1)] [(.ref a2)]))
    refine own_st (fun tg_ kg_ => XS.astore X6.here hx rfl (hb hby own_d_prog_35_method_8_code_17) rfl rfl (l' := #[.val (.int p1), .val (.ref b), .val (.int (8 : Int32)), .val (.int (1 : Int32)), .val (.ref a2)]) rfl kg_) ?_
    show own_Gl p e below _ (T6.setTop (mkF m 19 #[.val (.int p1), .val (.ref b), .val (.int (8 : Int32)), .val (.int (1 : Int32)), .val (.ref a2)] []))
    refine own_st (fun tg_ kg_ => XS.aload X6.here hx rfl (hb hby own_d_prog_35_method_8_code_19) rfl rfl kg_) ?_
    show own_Gl p e below _ (T6.setTop (mkF m 21 #[.val (.int p1), .val (.ref b), .val (.int (8 : Int32)), .val (.int (1 : Int32)), .val (.ref a2)] [(.ref a2)]))
    obtain ⟨T10, X10, e10, st10⟩ := getF X6 hx hZ hown (host := "") (Or.inl (hw _ (List.mem_of_getElem? (i := 31) rfl))) Via.refl e6 (F_a2.ext Kc1) (g := (mkF m 21 #[.val (.int p1), .val (.ref b), .val (.int (8 : Int32)), .val (.int (1 : Int32)), .val (.ref a2)] [(.ref a2)])) rfl rfl (hb hby own_d_prog_35_method_8_code_21)
    refine own_st st10 ?_
    show own_Gl p e below _ (T10.setTop (mkF m 24 #[.val (.int p1), .val (.ref b), .val (.int (8 : Int32)), .val (.int (1 : Int32)), .val (.ref a2)] [(.int (2 : Int32))]))
    refine own_st (fun tg_ kg_ => XS.iloadN X10.here hx rfl (hb hby own_d_prog_35_method_8_code_24) rfl kg_) ?_
    show own_Gl p e below _ (T10.setTop (mkF m 25 #[.val (.int p1), .val (.ref b), .val (.int (8 : Int32)), .val (.int (1 : Int32)), .val (.ref a2)] [(.int p1), (.int (2 : Int32))]))
    by_cases hc25_11 : p1 = (2 : Int32)
    ·
      show own_Gl p e below _ (T10.setTop (mkF m 25 #[.val (.int p1), .val (.ref b), .val (.int (8 : Int32)), .val (.int (1 : Int32)), .val (.ref a2)] [(.int p1), (.int (2 : Int32))]))
      refine own_st (fun tg_ kg_ => XS.icmpNo X10.here hx rfl (hb hby own_d_prog_35_method_8_code_25) rfl (teq (hc25_11.symm)).2 kg_) ?_
      show own_Gl p e below _ (T10.setTop (mkF m 28 #[.val (.int p1), .val (.ref b), .val (.int (8 : Int32)), .val (.int (1 : Int32)), .val (.ref a2)] []))
      refine own_st (fun tg_ kg_ => XS.aload X10.here hx rfl (hb hby own_d_prog_35_method_8_code_28) rfl rfl kg_) ?_
      show own_Gl p e below _ (T10.setTop (mkF m 30 #[.val (.int p1), .val (.ref b), .val (.int (8 : Int32)), .val (.int (1 : Int32)), .val (.ref a2)] [(.ref a2)]))
      exact own_retA X10 hx Bd.notSynchronized Bd.returns rfl rfl (hb hby own_d_prog_35_method_8_code_30) (by decide) (by decide) e10 (⟨by simp [own_op, eq_false hc25_7, eq_true hc25_11], N1, Kc1⟩)
    ·
      show own_Gl p e below _ (T10.setTop (mkF m 25 #[.val (.int p1), .val (.ref b), .val (.int (8 : Int32)), .val (.int (1 : Int32)), .val (.ref a2)] [(.int p1), (.int (2 : Int32))]))
      refine own_st (fun tg_ kg_ => XS.icmpYes X10.here hx rfl (pc0 := 25) (pc' := 31) rfl (hb hby own_d_prog_35_method_8_code_25) rfl (feq (fun q => hc25_11 q.symm)).2 (by decide) (by decide) kg_) ?_
      show own_Gl p e below _ (T10.setTop (mkF m 31 #[.val (.int p1), .val (.ref b), .val (.int (8 : Int32)), .val (.int (1 : Int32)), .val (.ref a2)] []))
      refine own_st (fun tg_ kg_ => XS.iinc X10.here hx rfl (hb hby own_d_prog_35_method_8_code_31) rfl (l' := #[.val (.int p1), .val (.ref b), .val (.int (8 : Int32)), .val (.int (2 : Int32)), .val (.ref a2)]) rfl kg_) ?_
      show own_Gl p e below _ (T10.setTop (mkF m 34 #[.val (.int p1), .val (.ref b), .val (.int (8 : Int32)), .val (.int (2 : Int32)), .val (.ref a2)] []))
      refine own_st (fun tg_ kg_ => XS.goto X10.here hx rfl (pc0 := 34) (pc' := 9) rfl (hb hby own_d_prog_35_method_8_code_34) (by decide) (by decide) kg_) ?_
      show own_Gl p e below _ (T10.setTop (mkF m 9 #[.val (.int p1), .val (.ref b), .val (.int (8 : Int32)), .val (.int (2 : Int32)), .val (.ref a2)] []))
      refine own_st (fun tg_ kg_ => XS.iloadN X10.here hx rfl (hb hby own_d_prog_35_method_8_code_9) rfl kg_) ?_
      show own_Gl p e below _ (T10.setTop (mkF m 10 #[.val (.int p1), .val (.ref b), .val (.int (8 : Int32)), .val (.int (2 : Int32)), .val (.ref a2)] [(.int (2 : Int32))]))
      refine own_st (fun tg_ kg_ => XS.iloadN X10.here hx rfl (hb hby own_d_prog_35_method_8_code_10) rfl kg_) ?_
      show own_Gl p e below _ (T10.setTop (mkF m 11 #[.val (.int p1), .val (.ref b), .val (.int (8 : Int32)), .val (.int (2 : Int32)), .val (.ref a2)] [(.int (8 : Int32)), (.int (2 : Int32))]))
      refine own_st (fun tg_ kg_ => XS.icmpNo X10.here hx rfl (hb hby own_d_prog_35_method_8_code_11) rfl (tlt ((by decide : (2 : Int32) < (8 : Int32)))).2.1 kg_) ?_
      show own_Gl p e below _ (T10.setTop (mkF m 14 #[.val (.int p1), .val (.ref b), .val (.int (8 : Int32)), .val (.int (2 : Int32)), .val (.ref a2)] []))
      refine own_st (fun tg_ kg_ => XS.aloadN X10.here hx rfl (hb hby own_d_prog_35_method_8_code_14) rfl rfl kg_) ?_
      show own_Gl p e below _ (T10.setTop (mkF m 15 #[.val (.int p1), .val (.ref b), .val (.int (8 : Int32)), .val (.int (2 : Int32)), .val (.ref a2)] [(.ref b)]))
      refine own_st (fun tg_ kg_ => XS.iloadN X10.here hx rfl (hb hby own_d_prog_35_method_8_code_15) rfl kg_) ?_
      show own_Gl p e below _ (T10.setTop (mkF m 16 #[.val (.int p1), .val (.ref b), .val (.int (8 : Int32)), .val (.int (2 : Int32)), .val (.ref a2)] [(.int (2 : Int32)), (.ref b)]))
      obtain ⟨cl12, Ar12, qa12, Sa12, Na12, Ha12, Ga12⟩ := id V_b
      have hin13 : ¬ ((2 : Int32) < 0 ∨ cl12.slots.size ≤ ((2 : Int32)).toNatClampNeg) := inb_of Sa12 ⟨by decide, by decide⟩
      have hat13 : cl12.slots[((2 : Int32)).toNatClampNeg]? = some (.ref a3) := Has.at Ha12 hin13 rfl
      refine own_st (fun tg_ kg_ => X10.aaload hx (j := (2 : Int32)) (v := (.ref a3)) (by rw [e10]; exact Ar12.1) (State.isArrayOf_alike hZ.alike Ar12.2.1) rfl Ar12.2.2 hin13 hat13 (g := (mkF m 16 #[.val (.int p1), .val (.ref b), .val (.int (8 : Int32)), .val (.int (2 : Int32)), .val (.ref a2)] [(.int (2 : Int32)), (.ref b)])) rfl rfl (hb hby own_d_prog_35_method_8_code_16) _ kg_) ?_
      show own_Gl p e below _ (T10.setTop (mkF m 17 #[.val (.int p1), .val (.ref b), .val (.int (8 : Int32)), .val (.int (2 : Int32)), .val (.ref a2)] [(.ref a3)]))
      refine own_st (fun tg_ kg_ => XS.astore X10.here hx rfl (hb hby own_d_prog_35_method_8_code_17) rfl rfl (l' := #[.val (.int p1), .val (.ref b), .val (.int (8 : Int32)), .val (.int (2 : Int32)), .val (.ref a3)]) rfl kg_) ?_
      show own_Gl p e below _ (T10.setTop (mkF m 19 #[.val (.int p1), .val (.ref b), .val (.int (8 : Int32)), .val (.int (2 : Int32)), .val (.ref a3)] []))
      refine own_st (fun tg_ kg_ => XS.aload X10.here hx rfl (hb hby own_d_prog_35_method_8_code_19) rfl rfl kg_) ?_
      show own_Gl p e below _ (T10.setTop (mkF m 21 #[.val (.int p1), .val (.ref b), .val (.int (8 : Int32)), .val (.int (2 : Int32)), .val (.ref a3)] [(.ref a3)]))
      obtain ⟨T14, X14, e14, st14⟩ := getF X10 hx hZ hown (host := "") (Or.inl (hw _ (List.mem_of_getElem? (i := 31) rfl))) Via.refl e10 (F_a3.ext Kc1) (g := (mkF m 21 #[.val (.int p1), .val (.ref b), .val (.int (8 : Int32)), .val (.int (2 : Int32)), .val (.ref a3)] [(.ref a3)])) rfl rfl (hb hby own_d_prog_35_method_8_code_21)
      refine own_st st14 ?_
      show own_Gl p e below _ (T14.setTop (mkF m 24 #[.val (.int p1), .val (.ref b), .val (.int (8 : Int32)), .val (.int (2 : Int32)), .val (.ref a3)] [(.int (3 : Int32))]))
      refine own_st (fun tg_ kg_ => XS.iloadN X14.here hx rfl (hb hby own_d_prog_35_method_8_code_24) rfl kg_) ?_
      show own_Gl p e below _ (T14.setTop (mkF m 25 #[.val (.int p1), .val (.ref b), .val (.int (8 : Int32)), .val (.int (2 : Int32)), .val (.ref a3)] [(.int p1), (.int (3 : Int32))]))
      by_cases hc25_15 : p1 = (3 : Int32)
      ·
        show own_Gl p e below _ (T14.setTop (mkF m 25 #[.val (.int p1), .val (.ref b), .val (.int (8 : Int32)), .val (.int (2 : Int32)), .val (.ref a3)] [(.int p1), (.int (3 : Int32))]))
        refine own_st (fun tg_ kg_ => XS.icmpNo X14.here hx rfl (hb hby own_d_prog_35_method_8_code_25) rfl (teq (hc25_15.symm)).2 kg_) ?_
        show own_Gl p e below _ (T14.setTop (mkF m 28 #[.val (.int p1), .val (.ref b), .val (.int (8 : Int32)), .val (.int (2 : Int32)), .val (.ref a3)] []))
        refine own_st (fun tg_ kg_ => XS.aload X14.here hx rfl (hb hby own_d_prog_35_method_8_code_28) rfl rfl kg_) ?_
        show own_Gl p e below _ (T14.setTop (mkF m 30 #[.val (.int p1), .val (.ref b), .val (.int (8 : Int32)), .val (.int (2 : Int32)), .val (.ref a3)] [(.ref a3)]))
        exact own_retA X14 hx Bd.notSynchronized Bd.returns rfl rfl (hb hby own_d_prog_35_method_8_code_30) (by decide) (by decide) e14 (⟨by simp [own_op, eq_false hc25_7, eq_false hc25_11, eq_true hc25_15], N1, Kc1⟩)
      ·
        show own_Gl p e below _ (T14.setTop (mkF m 25 #[.val (.int p1), .val (.ref b), .val (.int (8 : Int32)), .val (.int (2 : Int32)), .val (.ref a3)] [(.int p1), (.int (3 : Int32))]))
        refine own_st (fun tg_ kg_ => XS.icmpYes X14.here hx rfl (pc0 := 25) (pc' := 31) rfl (hb hby own_d_prog_35_method_8_code_25) rfl (feq (fun q => hc25_15 q.symm)).2 (by decide) (by decide) kg_) ?_
        show own_Gl p e below _ (T14.setTop (mkF m 31 #[.val (.int p1), .val (.ref b), .val (.int (8 : Int32)), .val (.int (2 : Int32)), .val (.ref a3)] []))
        refine own_st (fun tg_ kg_ => XS.iinc X14.here hx rfl (hb hby own_d_prog_35_method_8_code_31) rfl (l' := #[.val (.int p1), .val (.ref b), .val (.int (8 : Int32)), .val (.int (3 : Int32)), .val (.ref a3)]) rfl kg_) ?_
        show own_Gl p e below _ (T14.setTop (mkF m 34 #[.val (.int p1), .val (.ref b), .val (.int (8 : Int32)), .val (.int (3 : Int32)), .val (.ref a3)] []))
        refine own_st (fun tg_ kg_ => XS.goto X14.here hx rfl (pc0 := 34) (pc' := 9) rfl (hb hby own_d_prog_35_method_8_code_34) (by decide) (by decide) kg_) ?_
        show own_Gl p e below _ (T14.setTop (mkF m 9 #[.val (.int p1), .val (.ref b), .val (.int (8 : Int32)), .val (.int (3 : Int32)), .val (.ref a3)] []))
        refine own_st (fun tg_ kg_ => XS.iloadN X14.here hx rfl (hb hby own_d_prog_35_method_8_code_9) rfl kg_) ?_
        show own_Gl p e below _ (T14.setTop (mkF m 10 #[.val (.int p1), .val (.ref b), .val (.int (8 : Int32)), .val (.int (3 : Int32)), .val (.ref a3)] [(.int (3 : Int32))]))
        refine own_st (fun tg_ kg_ => XS.iloadN X14.here hx rfl (hb hby own_d_prog_35_method_8_code_10) rfl kg_) ?_
        show own_Gl p e below _ (T14.setTop (mkF m 11 #[.val (.int p1), .val (.ref b), .val (.int (8 : Int32)), .val (.int (3 : Int32)), .val (.ref a3)] [(.int (8 : Int32)), (.int (3 : Int32))]))
        refine own_st (fun tg_ kg_ => XS.icmpNo X14.here hx rfl (hb hby own_d_prog_35_method_8_code_11) rfl (tlt ((by decide : (3 : Int32) < (8 : Int32)))).2.1 kg_) ?_
        show own_Gl p e below _ (T14.setTop (mkF m 14 #[.val (.int p1), .val (.ref b), .val (.int (8 : Int32)), .val (.int (3 : Int32)), .val (.ref a3)] []))
        refine own_st (fun tg_ kg_ => XS.aloadN X14.here hx rfl (hb hby own_d_prog_35_method_8_code_14) rfl rfl kg_) ?_
        show own_Gl p e below _ (T14.setTop (mkF m 15 #[.val (.int p1), .val (.ref b), .val (.int (8 : Int32)), .val (.int (3 : Int32)), .val (.ref a3)] [(.ref b)]))
        refine own_st (fun tg_ kg_ => XS.iloadN X14.here hx rfl (hb hby own_d_prog_35_method_8_code_15) rfl kg_) ?_
        show own_Gl p e below _ (T14.setTop (mkF m 16 #[.val (.int p1), .val (.ref b), .val (.int (8 : Int32)), .val (.int (3 : Int32)), .val (.ref a3)] [(.int (3 : Int32)), (.ref b)]))
        obtain ⟨cl16, Ar16, qa16, Sa16, Na16, Ha16, Ga16⟩ := id V_b
        have hin17 : ¬ ((3 : Int32) < 0 ∨ cl16.slots.size ≤ ((3 : Int32)).toNatClampNeg) := inb_of Sa16 ⟨by decide, by decide⟩
        have hat17 : cl16.slots[((3 : Int32)).toNatClampNeg]? = some (.ref a4) := Has.at Ha16 hin17 rfl
        refine own_st (fun tg_ kg_ => X14.aaload hx (j := (3 : Int32)) (v := (.ref a4)) (by rw [e14]; exact Ar16.1) (State.isArrayOf_alike hZ.alike Ar16.2.1) rfl Ar16.2.2 hin17 hat17 (g := (mkF m 16 #[.val (.int p1), .val (.ref b), .val (.int (8 : Int32)), .val (.int (3 : Int32)), .val (.ref a3)] [(.int (3 : Int32)), (.ref b)])) rfl rfl (hb hby own_d_prog_35_method_8_code_16) _ kg_) ?_
        show own_Gl p e below _ (T14.setTop (mkF m 17 #[.val (.int p1), .val (.ref b), .val (.int (8 : Int32)), .val (.int (3 : Int32)), .val (.ref a3)] [(.ref a4)]))
        refine own_st (fun tg_ kg_ => XS.astore X14.here hx rfl (hb hby own_d_prog_35_method_8_code_17) rfl rfl (l' := #[.val (.int p1), .val (.ref b), .val (.int (8 : Int32)), .val (.int (3 : Int32)), .val (.ref a4)]) rfl kg_) ?_
        show own_Gl p e below _ (T14.setTop (mkF m 19 #[.val (.int p1), .val (.ref b), .val (.int (8 : Int32)), .val (.int (3 : Int32)), .val (.ref a4)] []))
        refine own_st (fun tg_ kg_ => XS.aload X14.here hx rfl (hb hby own_d_prog_35_method_8_code_19) rfl rfl kg_) ?_
        show own_Gl p e below _ (T14.setTop (mkF m 21 #[.val (.int p1), .val (.ref b), .val (.int (8 : Int32)), .val (.int (3 : Int32)), .val (.ref a4)] [(.ref a4)]))
        obtain ⟨T18, X18, e18, st18⟩ := getF X14 hx hZ hown (host := "") (Or.inl (hw _ (List.mem_of_getElem? (i := 31) rfl))) Via.refl e14 (F_a4.ext Kc1) (g := (mkF m 21 #[.val (.int p1), .val (.ref b), .val (.int (8 : Int32)), .val (.int (3 : Int32)), .val (.ref a4)] [(.ref a4)])) rfl rfl (hb hby own_d_prog_35_method_8_code_21)
        refine own_st st18 ?_
        show own_Gl p e below _ (T18.setTop (mkF m 24 #[.val (.int p1), .val (.ref b), .val (.int (8 : Int32)), .val (.int (3 : Int32)), .val (.ref a4)] [(.int (4 : Int32))]))
        refine own_st (fun tg_ kg_ => XS.iloadN X18.here hx rfl (hb hby own_d_prog_35_method_8_code_24) rfl kg_) ?_
        show own_Gl p e below _ (T18.setTop (mkF m 25 #[.val (.int p1), .val (.ref b), .val (.int (8 : Int32)), .val (.int (3 : Int32)), .val (.ref a4)] [(.int p1), (.int (4 : Int32))]))
        by_cases hc25_19 : p1 = (4 : Int32)
        ·
          show own_Gl p e below _ (T18.setTop (mkF m 25 #[.val (.int p1), .val (.ref b), .val (.int (8 : Int32)), .val (.int (3 : Int32)), .val (.ref a4)] [(.int p1), (.int (4 : Int32))]))
          refine own_st (fun tg_ kg_ => XS.icmpNo X18.here hx rfl (hb hby own_d_prog_35_method_8_code_25) rfl (teq (hc25_19.symm)).2 kg_) ?_
          show own_Gl p e below _ (T18.setTop (mkF m 28 #[.val (.int p1), .val (.ref b), .val (.int (8 : Int32)), .val (.int (3 : Int32)), .val (.ref a4)] []))
          refine own_st (fun tg_ kg_ => XS.aload X18.here hx rfl (hb hby own_d_prog_35_method_8_code_28) rfl rfl kg_) ?_
          show own_Gl p e below _ (T18.setTop (mkF m 30 #[.val (.int p1), .val (.ref b), .val (.int (8 : Int32)), .val (.int (3 : Int32)), .val (.ref a4)] [(.ref a4)]))
          exact own_retA X18 hx Bd.notSynchronized Bd.returns rfl rfl (hb hby own_d_prog_35_method_8_code_30) (by decide) (by decide) e18 (⟨by simp [own_op, eq_false hc25_7, eq_false hc25_11, eq_false hc25_15, eq_true hc25_19], N1, Kc1⟩)
        ·
          show own_Gl p e below _ (T18.setTop (mkF m 25 #[.val (.int p1), .val (.ref b), .val (.int (8 : Int32)), .val (.int (3 : Int32)), .val (.ref a4)] [(.int p1), (.int (4 : Int32))]))
          refine own_st (fun tg_ kg_ => XS.icmpYes X18.here hx rfl (pc0 := 25) (pc' := 31) rfl (hb hby own_d_prog_35_method_8_code_25) rfl (feq (fun q => hc25_19 q.symm)).2 (by decide) (by decide) kg_) ?_
          show own_Gl p e below _ (T18.setTop (mkF m 31 #[.val (.int p1), .val (.ref b), .val (.int (8 : Int32)), .val (.int (3 : Int32)), .val (.ref a4)] []))
          refine own_st (fun tg_ kg_ => XS.iinc X18.here hx rfl (hb hby own_d_prog_35_method_8_code_31) rfl (l' := #[.val (.int p1), .val (.ref b), .val (.int (8 : Int32)), .val (.int (4 : Int32)), .val (.ref a4)]) rfl kg_) ?_
          show own_Gl p e below _ (T18.setTop (mkF m 34 #[.val (.int p1), .val (.ref b), .val (.int (8 : Int32)), .val (.int (4 : Int32)), .val (.ref a4)] []))
          refine own_st (fun tg_ kg_ => XS.goto X18.here hx rfl (pc0 := 34) (pc' := 9) rfl (hb hby own_d_prog_35_method_8_code_34) (by decide) (by decide) kg_) ?_
          show own_Gl p e below _ (T18.setTop (mkF m 9 #[.val (.int p1), .val (.ref b), .val (.int (8 : Int32)), .val (.int (4 : Int32)), .val (.ref a4)] []))
          refine own_st (fun tg_ kg_ => XS.iloadN X18.here hx rfl (hb hby own_d_prog_35_method_8_code_9) rfl kg_) ?_
          show own_Gl p e below _ (T18.setTop (mkF m 10 #[.val (.int p1), .val (.ref b), .val (.int (8 : Int32)), .val (.int (4 : Int32)), .val (.ref a4)] [(.int (4 : Int32))]))
          refine own_st (fun tg_ kg_ => XS.iloadN X18.here hx rfl (hb hby own_d_prog_35_method_8_code_10) rfl kg_) ?_
          show own_Gl p e below _ (T18.setTop (mkF m 11 #[.val (.int p1), .val (.ref b), .val (.int (8 : Int32)), .val (.int (4 : Int32)), .val (.ref a4)] [(.int (8 : Int32)), (.int (4 : Int32))]))
          refine own_st (fun tg_ kg_ => XS.icmpNo X18.here hx rfl (hb hby own_d_prog_35_method_8_code_11) rfl (tlt ((by decide : (4 : Int32) < (8 : Int32)))).2.1 kg_) ?_
          show own_Gl p e below _ (T18.setTop (mkF m 14 #[.val (.int p1), .val (.ref b), .val (.int (8 : Int32)), .val (.int (4 : Int32)), .val (.ref a4)] []))
          refine own_st (fun tg_ kg_ => XS.aloadN X18.here hx rfl (hb hby own_d_prog_35_method_8_code_14) rfl rfl kg_) ?_
          show own_Gl p e below _ (T18.setTop (mkF m 15 #[.val (.int p1), .val (.ref b), .val (.int (8 : Int32)), .val (.int (4 : Int32)), .val (.ref a4)] [(.ref b)]))
          refine own_st (fun tg_ kg_ => XS.iloadN X18.here hx rfl (hb hby own_d_prog_35_method_8_code_15) rfl kg_) ?_
          show own_Gl p e below _ (T18.setTop (mkF m 16 #[.val (.int p1), .val (.ref b), .val (.int (8 : Int32)), .val (.int (4 : Int32)), .val (.ref a4)] [(.int (4 : Int32)), (.ref b)]))
          obtain ⟨cl20, Ar20, qa20, Sa20, Na20, Ha20, Ga20⟩ := id V_b
          have hin21 : ¬ ((4 : Int32) < 0 ∨ cl20.slots.size ≤ ((4 : Int32)).toNatClampNeg) := inb_of Sa20 ⟨by decide, by decide⟩
          have hat21 : cl20.slots[((4 : Int32)).toNatClampNeg]? = some (.ref a5) := Has.at Ha20 hin21 rfl
          refine own_st (fun tg_ kg_ => X18.aaload hx (j := (4 : Int32)) (v := (.ref a5)) (by rw [e18]; exact Ar20.1) (State.isArrayOf_alike hZ.alike Ar20.2.1) rfl Ar20.2.2 hin21 hat21 (g := (mkF m 16 #[.val (.int p1), .val (.ref b), .val (.int (8 : Int32)), .val (.int (4 : Int32)), .val (.ref a4)] [(.int (4 : Int32)), (.ref b)])) rfl rfl (hb hby own_d_prog_35_method_8_code_16) _ kg_) ?_
          show own_Gl p e below _ (T18.setTop (mkF m 17 #[.val (.int p1), .val (.ref b), .val (.int (8 : Int32)), .val (.int (4 : Int32)), .val (.ref a4)] [(.ref a5)]))
          refine own_st (fun tg_ kg_ => XS.astore X18.here hx rfl (hb hby own_d_prog_35_method_8_code_17) rfl rfl (l' := #[.val (.int p1), .val (.ref b), .val (.int (8 : Int32)), .val (.int (4 : Int32)), .val (.ref a5)]) rfl kg_) ?_
          show own_Gl p e below _ (T18.setTop (mkF m 19 #[.val (.int p1), .val (.ref b), .val (.int (8 : Int32)), .val (.int (4 : Int32)), .val (.ref a5)] []))
          refine own_st (fun tg_ kg_ => XS.aload X18.here hx rfl (hb hby own_d_prog_35_method_8_code_19) rfl rfl kg_) ?_
          show own_Gl p e below _ (T18.setTop (mkF m 21 #[.val (.int p1), .val (.ref b), .val (.int (8 : Int32)), .val (.int (4 : Int32)), .val (.ref a5)] [(.ref a5)]))
          obtain ⟨T22, X22, e22, st22⟩ := getF X18 hx hZ hown (host := "") (Or.inl (hw _ (List.mem_of_getElem? (i := 31) rfl))) Via.refl e18 (F_a5.ext Kc1) (g := (mkF m 21 #[.val (.int p1), .val (.ref b), .val (.int (8 : Int32)), .val (.int (4 : Int32)), .val (.ref a5)] [(.ref a5)])) rfl rfl (hb hby own_d_prog_35_method_8_code_21)
          refine own_st st22 ?_
          show own_Gl p e below _ (T22.setTop (mkF m 24 #[.val (.int p1), .val (.ref b), .val (.int (8 : Int32)), .val (.int (4 : Int32)), .val (.ref a5)] [(.int (5 : Int32))]))
          refine own_st (fun tg_ kg_ => XS.iloadN X22.here hx rfl (hb hby own_d_prog_35_method_8_code_24) rfl kg_) ?_
          show own_Gl p e below _ (T22.setTop (mkF m 25 #[.val (.int p1), .val (.ref b), .val (.int (8 : Int32)), .val (.int (4 : Int32)), .val (.ref a5)] [(.int p1), (.int (5 : Int32))]))
          by_cases hc25_23 : p1 = (5 : Int32)
          ·
            show own_Gl p e below _ (T22.setTop (mkF m 25 #[.val (.int p1), .val (.ref b), .val (.int (8 : Int32)), .val (.int (4 : Int32)), .val (.ref a5)] [(.int p1), (.int (5 : Int32))]))
            refine own_st (fun tg_ kg_ => XS.icmpNo X22.here hx rfl (hb hby own_d_prog_35_method_8_code_25) rfl (teq (hc25_23.symm)).2 kg_) ?_
            show own_Gl p e below _ (T22.setTop (mkF m 28 #[.val (.int p1), .val (.ref b), .val (.int (8 : Int32)), .val (.int (4 : Int32)), .val (.ref a5)] []))
            refine own_st (fun tg_ kg_ => XS.aload X22.here hx rfl (hb hby own_d_prog_35_method_8_code_28) rfl rfl kg_) ?_
            show own_Gl p e below _ (T22.setTop (mkF m 30 #[.val (.int p1), .val (.ref b), .val (.int (8 : Int32)), .val (.int (4 : Int32)), .val (.ref a5)] [(.ref a5)]))
            exact own_retA X22 hx Bd.notSynchronized Bd.returns rfl rfl (hb hby own_d_prog_35_method_8_code_30) (by decide) (by decide) e22 (⟨by simp [own_op, eq_false hc25_7, eq_false hc25_11, eq_false hc25_15, eq_false hc25_19, eq_true hc25_23], N1, Kc1⟩)
          ·
            show own_Gl p e below _ (T22.setTop (mkF m 25 #[.val (.int p1), .val (.ref b), .val (.int (8 : Int32)), .val (.int (4 : Int32)), .val (.ref a5)] [(.int p1), (.int (5 : Int32))]))
            refine own_st (fun tg_ kg_ => XS.icmpYes X22.here hx rfl (pc0 := 25) (pc' := 31) rfl (hb hby own_d_prog_35_method_8_code_25) rfl (feq (fun q => hc25_23 q.symm)).2 (by decide) (by decide) kg_) ?_
            show own_Gl p e below _ (T22.setTop (mkF m 31 #[.val (.int p1), .val (.ref b), .val (.int (8 : Int32)), .val (.int (4 : Int32)), .val (.ref a5)] []))
            refine own_st (fun tg_ kg_ => XS.iinc X22.here hx rfl (hb hby own_d_prog_35_method_8_code_31) rfl (l' := #[.val (.int p1), .val (.ref b), .val (.int (8 : Int32)), .val (.int (5 : Int32)), .val (.ref a5)]) rfl kg_) ?_
            show own_Gl p e below _ (T22.setTop (mkF m 34 #[.val (.int p1), .val (.ref b), .val (.int (8 : Int32)), .val (.int (5 : Int32)), .val (.ref a5)] []))
            refine own_st (fun tg_ kg_ => XS.goto X22.here hx rfl (pc0 := 34) (pc' := 9) rfl (hb hby own_d_prog_35_method_8_code_34) (by decide) (by decide) kg_) ?_
            show own_Gl p e below _ (T22.setTop (mkF m 9 #[.val (.int p1), .val (.ref b), .val (.int (8 : Int32)), .val (.int (5 : Int32)), .val (.ref a5)] []))
            refine own_st (fun tg_ kg_ => XS.iloadN X22.here hx rfl (hb hby own_d_prog_35_method_8_code_9) rfl kg_) ?_
            show own_Gl p e below _ (T22.setTop (mkF m 10 #[.val (.int p1), .val (.ref b), .val (.int (8 : Int32)), .val (.int (5 : Int32)), .val (.ref a5)] [(.int (5 : Int32))]))
            refine own_st (fun tg_ kg_ => XS.iloadN X22.here hx rfl (hb hby own_d_prog_35_method_8_code_10) rfl kg_) ?_
            show own_Gl p e below _ (T22.setTop (mkF m 11 #[.val (.int p1), .val (.ref b), .val (.int (8 : Int32)), .val (.int (5 : Int32)), .val (.ref a5)] [(.int (8 : Int32)), (.int (5 : Int32))]))
            refine own_st (fun tg_ kg_ => XS.icmpNo X22.here hx rfl (hb hby own_d_prog_35_method_8_code_11) rfl (tlt ((by decide : (5 : Int32) < (8 : Int32)))).2.1 kg_) ?_
            show own_Gl p e below _ (T22.setTop (mkF m 14 #[.val (.int p1), .val (.ref b), .val (.int (8 : Int32)), .val (.int (5 : Int32)), .val (.ref a5)] []))
            refine own_st (fun tg_ kg_ => XS.aloadN X22.here hx rfl (hb hby own_d_prog_35_method_8_code_14) rfl rfl kg_) ?_
            show own_Gl p e below _ (T22.setTop (mkF m 15 #[.val (.int p1), .val (.ref b), .val (.int (8 : Int32)), .val (.int (5 : Int32)), .val (.ref a5)] [(.ref b)]))
            refine own_st (fun tg_ kg_ => XS.iloadN X22.here hx rfl (hb hby own_d_prog_35_method_8_code_15) rfl kg_) ?_
            show own_Gl p e below _ (T22.setTop (mkF m 16 #[.val (.int p1), .val (.ref b), .val (.int (8 : Int32)), .val (.int (5 : Int32)), .val (.ref a5)] [(.int (5 : Int32)), (.ref b)]))
            obtain ⟨cl24, Ar24, qa24, Sa24, Na24, Ha24, Ga24⟩ := id V_b
            have hin25 : ¬ ((5 : Int32) < 0 ∨ cl24.slots.size ≤ ((5 : Int32)).toNatClampNeg) := inb_of Sa24 ⟨by decide, by decide⟩
            have hat25 : cl24.slots[((5 : Int32)).toNatClampNeg]? = some (.ref a6) := Has.at Ha24 hin25 rfl
            refine own_st (fun tg_ kg_ => X22.aaload hx (j := (5 : Int32)) (v := (.ref a6)) (by rw [e22]; exact Ar24.1) (State.isArrayOf_alike hZ.alike Ar24.2.1) rfl Ar24.2.2 hin25 hat25 (g := (mkF m 16 #[.val (.int p1), .val (.ref b), .val (.int (8 : Int32)), .val (.int (5 : Int32)), .val (.ref a5)] [(.int (5 : Int32)), (.ref b)])) rfl rfl (hb hby own_d_prog_35_method_8_code_16) _ kg_) ?_
            show own_Gl p e below _ (T22.setTop (mkF m 17 #[.val (.int p1), .val (.ref b), .val (.int (8 : Int32)), .val (.int (5 : Int32)), .val (.ref a5)] [(.ref a6)]))
            refine own_st (fun tg_ kg_ => XS.astore X22.here hx rfl (hb hby own_d_prog_35_method_8_code_17) rfl rfl (l' := #[.val (.int p1), .val (.ref b), .val (.int (8 : Int32)), .val (.int (5 : Int32)), .val (.ref a6)]) rfl kg_) ?_
            show own_Gl p e below _ (T22.setTop (mkF m 19 #[.val (.int p1), .val (.ref b), .val (.int (8 : Int32)), .val (.int (5 : Int32)), .val (.ref a6)] []))
            refine own_st (fun tg_ kg_ => XS.aload X22.here hx rfl (hb hby own_d_prog_35_method_8_code_19) rfl rfl kg_) ?_
            show own_Gl p e below _ (T22.setTop (mkF m 21 #[.val (.int p1), .val (.ref b), .val (.int (8 : Int32)), .val (.int (5 : Int32)), .val (.ref a6)] [(.ref a6)]))
            obtain ⟨T26, X26, e26, st26⟩ := getF X22 hx hZ hown (host := "") (Or.inl (hw _ (List.mem_of_getElem? (i := 31) rfl))) Via.refl e22 (F_a6.ext Kc1) (g := (mkF m 21 #[.val (.int p1), .val (.ref b), .val (.int (8 : Int32)), .val (.int (5 : Int32)), .val (.ref a6)] [(.ref a6)])) rfl rfl (hb hby own_d_prog_35_method_8_code_21)
            refine own_st st26 ?_
            show own_Gl p e below _ (T26.setTop (mkF m 24 #[.val (.int p1), .val (.ref b), .val (.int (8 : Int32)), .val (.int (5 : Int32)), .val (.ref a6)] [(.int (6 : Int32))]))
            refine own_st (fun tg_ kg_ => XS.iloadN X26.here hx rfl (hb hby own_d_prog_35_method_8_code_24) rfl kg_) ?_
            show own_Gl p e below _ (T26.setTop (mkF m 25 #[.val (.int p1), .val (.ref b), .val (.int (8 : Int32)), .val (.int (5 : Int32)), .val (.ref a6)] [(.int p1), (.int (6 : Int32))]))
            by_cases hc25_27 : p1 = (6 : Int32)
            ·
              show own_Gl p e below _ (T26.setTop (mkF m 25 #[.val (.int p1), .val (.ref b), .val (.int (8 : Int32)), .val (.int (5 : Int32)), .val (.ref a6)] [(.int p1), (.int (6 : Int32))]))
              refine own_st (fun tg_ kg_ => XS.icmpNo X26.here hx rfl (hb hby own_d_prog_35_method_8_code_25) rfl (teq (hc25_27.symm)).2 kg_) ?_
              show own_Gl p e below _ (T26.setTop (mkF m 28 #[.val (.int p1), .val (.ref b), .val (.int (8 : Int32)), .val (.int (5 : Int32)), .val (.ref a6)] []))
              refine own_st (fun tg_ kg_ => XS.aload X26.here hx rfl (hb hby own_d_prog_35_method_8_code_28) rfl rfl kg_) ?_
              show own_Gl p e below _ (T26.setTop (mkF m 30 #[.val (.int p1), .val (.ref b), .val (.int (8 : Int32)), .val (.int (5 : Int32)), .val (.ref a6)] [(.ref a6)]))
              exact own_retA X26 hx Bd.notSynchronized Bd.returns rfl rfl (hb hby own_d_prog_35_method_8_code_30) (by decide) (by decide) e26 (⟨by simp [own_op, eq_false hc25_7, eq_false hc25_11, eq_false hc25_15, eq_false hc25_19, eq_false hc25_23, eq_true hc25_27], N1, Kc1⟩)
            ·
              show own_Gl p e below _ (T26.setTop (mkF m 25 #[.val (.int p1), .val (.ref b), .val (.int (8 : Int32)), .val (.int (5 : Int32)), .val (.ref a6)] [(.int p1), (.int (6 : Int32))]))
              refine own_st (fun tg_ kg_ => XS.icmpYes X26.here hx rfl (pc0 := 25) (pc' := 31) rfl (hb hby own_d_prog_35_method_8_code_25) rfl (feq (fun q => hc25_27 q.symm)).2 (by decide) (by decide) kg_) ?_
              show own_Gl p e below _ (T26.setTop (mkF m 31 #[.val (.int p1), .val (.ref b), .val (.int (8 : Int32)), .val (.int (5 : Int32)), .val (.ref a6)] []))
              refine own_st (fun tg_ kg_ => XS.iinc X26.here hx rfl (hb hby own_d_prog_35_method_8_code_31) rfl (l' := #[.val (.int p1), .val (.ref b), .val (.int (8 : Int32)), .val (.int (6 : Int32)), .val (.ref a6)]) rfl kg_) ?_
              show own_Gl p e below _ (T26.setTop (mkF m 34 #[.val (.int p1), .val (.ref b), .val (.int (8 : Int32)), .val (.int (6 : Int32)), .val (.ref a6)] []))
              refine own_st (fun tg_ kg_ => XS.goto X26.here hx rfl (pc0 := 34) (pc' := 9) rfl (hb hby own_d_prog_35_method_8_code_34) (by decide) (by decide) kg_) ?_
              show own_Gl p e below _ (T26.setTop (mkF m 9 #[.val (.int p1), .val (.ref b), .val (.int (8 : Int32)), .val (.int (6 : Int32)), .val (.ref a6)] []))
              refine own_st (fun tg_ kg_ => XS.iloadN X26.here hx rfl (hb hby own_d_prog_35_method_8_code_9) rfl kg_) ?_
              show own_Gl p e below _ (T26.setTop (mkF m 10 #[.val (.int p1), .val (.ref b), .val (.int (8 : Int32)), .val (.int (6 : Int32)), .val (.ref a6)] [(.int (6 : Int32))]))
              refine own_st (fun tg_ kg_ => XS.iloadN X26.here hx rfl (hb hby own_d_prog_35_method_8_code_10) rfl kg_) ?_
              show own_Gl p e below _ (T26.setTop (mkF m 11 #[.val (.int p1), .val (.ref b), .val (.int (8 : Int32)), .val (.int (6 : Int32)), .val (.ref a6)] [(.int (8 : Int32)), (.int (6 : Int32))]))
              refine own_st (fun tg_ kg_ => XS.icmpNo X26.here hx rfl (hb hby own_d_prog_35_method_8_code_11) rfl (tlt ((by decide : (6 : Int32) < (8 : Int32)))).2.1 kg_) ?_
              show own_Gl p e below _ (T26.setTop (mkF m 14 #[.val (.int p1), .val (.ref b), .val (.int (8 : Int32)), .val (.int (6 : Int32)), .val (.ref a6)] []))
              refine own_st (fun tg_ kg_ => XS.aloadN X26.here hx rfl (hb hby own_d_prog_35_method_8_code_14) rfl rfl kg_) ?_
              show own_Gl p e below _ (T26.setTop (mkF m 15 #[.val (.int p1), .val (.ref b), .val (.int (8 : Int32)), .val (.int (6 : Int32)), .val (.ref a6)] [(.ref b)]))
              refine own_st (fun tg_ kg_ => XS.iloadN X26.here hx rfl (hb hby own_d_prog_35_method_8_code_15) rfl kg_) ?_
              show own_Gl p e below _ (T26.setTop (mkF m 16 #[.val (.int p1), .val (.ref b), .val (.int (8 : Int32)), .val (.int (6 : Int32)), .val (.ref a6)] [(.int (6 : Int32)), (.ref b)]))
              obtain ⟨cl28, Ar28, qa28, Sa28, Na28, Ha28, Ga28⟩ := id V_b
              have hin29 : ¬ ((6 : Int32) < 0 ∨ cl28.slots.size ≤ ((6 : Int32)).toNatClampNeg) := inb_of Sa28 ⟨by decide, by decide⟩
              have hat29 : cl28.slots[((6 : Int32)).toNatClampNeg]? = some (.ref a7) := Has.at Ha28 hin29 rfl
              refine own_st (fun tg_ kg_ => X26.aaload hx (j := (6 : Int32)) (v := (.ref a7)) (by rw [e26]; exact Ar28.1) (State.isArrayOf_alike hZ.alike Ar28.2.1) rfl Ar28.2.2 hin29 hat29 (g := (mkF m 16 #[.val (.int p1), .val (.ref b), .val (.int (8 : Int32)), .val (.int (6 : Int32)), .val (.ref a6)] [(.int (6 : Int32)), (.ref b)])) rfl rfl (hb hby own_d_prog_35_method_8_code_16) _ kg_) ?_
              show own_Gl p e below _ (T26.setTop (mkF m 17 #[.val (.int p1), .val (.ref b), .val (.int (8 : Int32)), .val (.int (6 : Int32)), .val (.ref a6)] [(.ref a7)]))
              refine own_st (fun tg_ kg_ => XS.astore X26.here hx rfl (hb hby own_d_prog_35_method_8_code_17) rfl rfl (l' := #[.val (.int p1), .val (.ref b), .val (.int (8 : Int32)), .val (.int (6 : Int32)), .val (.ref a7)]) rfl kg_) ?_
              show own_Gl p e below _ (T26.setTop (mkF m 19 #[.val (.int p1), .val (.ref b), .val (.int (8 : Int32)), .val (.int (6 : Int32)), .val (.ref a7)] []))
              refine own_st (fun tg_ kg_ => XS.aload X26.here hx rfl (hb hby own_d_prog_35_method_8_code_19) rfl rfl kg_) ?_
              show own_Gl p e below _ (T26.setTop (mkF m 21 #[.val (.int p1), .val (.ref b), .val (.int (8 : Int32)), .val (.int (6 : Int32)), .val (.ref a7)] [(.ref a7)]))
              obtain ⟨T30, X30, e30, st30⟩ := getF X26 hx hZ hown (host := "") (Or.inl (hw _ (List.mem_of_getElem? (i := 31) rfl))) Via.refl e26 (F_a7.ext Kc1) (g := (mkF m 21 #[.val (.int p1), .val (.ref b), .val (.int (8 : Int32)), .val (.int (6 : Int32)), .val (.ref a7)] [(.ref a7)])) rfl rfl (hb hby own_d_prog_35_method_8_code_21)
              refine own_st st30 ?_
              show own_Gl p e below _ (T30.setTop (mkF m 24 #[.val (.int p1), .val (.ref b), .val (.int (8 : Int32)), .val (.int (6 : Int32)), .val (.ref a7)] [(.int (7 : Int32))]))
              refine own_st (fun tg_ kg_ => XS.iloadN X30.here hx rfl (hb hby own_d_prog_35_method_8_code_24) rfl kg_) ?_
              show own_Gl p e below _ (T30.setTop (mkF m 25 #[.val (.int p1), .val (.ref b), .val (.int (8 : Int32)), .val (.int (6 : Int32)), .val (.ref a7)] [(.int p1), (.int (7 : Int32))]))
              by_cases hc25_31 : p1 = (7 : Int32)
              ·
                show own_Gl p e below _ (T30.setTop (mkF m 25 #[.val (.int p1), .val (.ref b), .val (.int (8 : Int32)), .val (.int (6 : Int32)), .val (.ref a7)] [(.int p1), (.int (7 : Int32))]))
                refine own_st (fun tg_ kg_ => XS.icmpNo X30.here hx rfl (hb hby own_d_prog_35_method_8_code_25) rfl (teq (hc25_31.symm)).2 kg_) ?_
                show own_Gl p e below _ (T30.setTop (mkF m 28 #[.val (.int p1), .val (.ref b), .val (.int (8 : Int32)), .val (.int (6 : Int32)), .val (.ref a7)] []))
                refine own_st (fun tg_ kg_ => XS.aload X30.here hx rfl (hb hby own_d_prog_35_method_8_code_28) rfl rfl kg_) ?_
                show own_Gl p e below _ (T30.setTop (mkF m 30 #[.val (.int p1), .val (.ref b), .val (.int (8 : Int32)), .val (.int (6 : Int32)), .val (.ref a7)] [(.ref a7)]))
                exact own_retA X30 hx Bd.notSynchronized Bd.returns rfl rfl (hb hby own_d_prog_35_method_8_code_30) (by decide) (by decide) e30 (⟨by simp [own_op, eq_false hc25_7, eq_false hc25_11, eq_false hc25_15, eq_false hc25_19, eq_false hc25_23, eq_false hc25_27, eq_true hc25_31], N1, Kc1⟩)
              ·
                show own_Gl p e below _ (T30.setTop (mkF m 25 #[.val (.int p1), .val (.ref b), .val (.int (8 : Int32)), .val (.int (6 : Int32)), .val (.ref a7)] [(.int p1), (.int (7 : Int32))]))
                refine own_st (fun tg_ kg_ => XS.icmpYes X30.here hx rfl (pc0 := 25) (pc' := 31) rfl (hb hby own_d_prog_35_method_8_code_25) rfl (feq (fun q => hc25_31 q.symm)).2 (by decide) (by decide) kg_) ?_
                show own_Gl p e below _ (T30.setTop (mkF m 31 #[.val (.int p1), .val (.ref b), .val (.int (8 : Int32)), .val (.int (6 : Int32)), .val (.ref a7)] []))
                refine own_st (fun tg_ kg_ => XS.iinc X30.here hx rfl (hb hby own_d_prog_35_method_8_code_31) rfl (l' := #[.val (.int p1), .val (.ref b), .val (.int (8 : Int32)), .val (.int (7 : Int32)), .val (.ref a7)]) rfl kg_) ?_
                show own_Gl p e below _ (T30.setTop (mkF m 34 #[.val (.int p1), .val (.ref b), .val (.int (8 : Int32)), .val (.int (7 : Int32)), .val (.ref a7)] []))
                refine own_st (fun tg_ kg_ => XS.goto X30.here hx rfl (pc0 := 34) (pc' := 9) rfl (hb hby own_d_prog_35_method_8_code_34) (by decide) (by decide) kg_) ?_
                show own_Gl p e below _ (T30.setTop (mkF m 9 #[.val (.int p1), .val (.ref b), .val (.int (8 : Int32)), .val (.int (7 : Int32)), .val (.ref a7)] []))
                refine own_st (fun tg_ kg_ => XS.iloadN X30.here hx rfl (hb hby own_d_prog_35_method_8_code_9) rfl kg_) ?_
                show own_Gl p e below _ (T30.setTop (mkF m 10 #[.val (.int p1), .val (.ref b), .val (.int (8 : Int32)), .val (.int (7 : Int32)), .val (.ref a7)] [(.int (7 : Int32))]))
                refine own_st (fun tg_ kg_ => XS.iloadN X30.here hx rfl (hb hby own_d_prog_35_method_8_code_10) rfl kg_) ?_
                show own_Gl p e below _ (T30.setTop (mkF m 11 #[.val (.int p1), .val (.ref b), .val (.int (8 : Int32)), .val (.int (7 : Int32)), .val (.ref a7)] [(.int (8 : Int32)), (.int (7 : Int32))]))
                refine own_st (fun tg_ kg_ => XS.icmpNo X30.here hx rfl (hb hby own_d_prog_35_method_8_code_11) rfl (tlt ((by decide : (7 : Int32) < (8 : Int32)))).2.1 kg_) ?_
                show own_Gl p e below _ (T30.setTop (mkF m 14 #[.val (.int p1), .val (.ref b), .val (.int (8 : Int32)), .val (.int (7 : Int32)), .val (.ref a7)] []))
                refine own_st (fun tg_ kg_ => XS.aloadN X30.here hx rfl (hb hby own_d_prog_35_method_8_code_14) rfl rfl kg_) ?_
                show own_Gl p e below _ (T30.setTop (mkF m 15 #[.val (.int p1), .val (.ref b), .val (.int (8 : Int32)), .val (.int (7 : Int32)), .val (.ref a7)] [(.ref b)]))
                refine own_st (fun tg_ kg_ => XS.iloadN X30.here hx rfl (hb hby own_d_prog_35_method_8_code_15) rfl kg_) ?_
                show own_Gl p e below _ (T30.setTop (mkF m 16 #[.val (.int p1), .val (.ref b), .val (.int (8 : Int32)), .val (.int (7 : Int32)), .val (.ref a7)] [(.int (7 : Int32)), (.ref b)]))
                obtain ⟨cl32, Ar32, qa32, Sa32, Na32, Ha32, Ga32⟩ := id V_b
                have hin33 : ¬ ((7 : Int32) < 0 ∨ cl32.slots.size ≤ ((7 : Int32)).toNatClampNeg) := inb_of Sa32 ⟨by decide, by decide⟩
                have hat33 : cl32.slots[((7 : Int32)).toNatClampNeg]? = some (.ref a8) := Has.at Ha32 hin33 rfl
                refine own_st (fun tg_ kg_ => X30.aaload hx (j := (7 : Int32)) (v := (.ref a8)) (by rw [e30]; exact Ar32.1) (State.isArrayOf_alike hZ.alike Ar32.2.1) rfl Ar32.2.2 hin33 hat33 (g := (mkF m 16 #[.val (.int p1), .val (.ref b), .val (.int (8 : Int32)), .val (.int (7 : Int32)), .val (.ref a7)] [(.int (7 : Int32)), (.ref b)])) rfl rfl (hb hby own_d_prog_35_method_8_code_16) _ kg_) ?_
                show own_Gl p e below _ (T30.setTop (mkF m 17 #[.val (.int p1), .val (.ref b), .val (.int (8 : Int32)), .val (.int (7 : Int32)), .val (.ref a7)] [(.ref a8)]))
                refine own_st (fun tg_ kg_ => XS.astore X30.here hx rfl (hb hby own_d_prog_35_method_8_code_17) rfl rfl (l' := #[.val (.int p1), .val (.ref b), .val (.int (8 : Int32)), .val (.int (7 : Int32)), .val (.ref a8)]) rfl kg_) ?_
                show own_Gl p e below _ (T30.setTop (mkF m 19 #[.val (.int p1), .val (.ref b), .val (.int (8 : Int32)), .val (.int (7 : Int32)), .val (.ref a8)] []))
                refine own_st (fun tg_ kg_ => XS.aload X30.here hx rfl (hb hby own_d_prog_35_method_8_code_19) rfl rfl kg_) ?_
                show own_Gl p e below _ (T30.setTop (mkF m 21 #[.val (.int p1), .val (.ref b), .val (.int (8 : Int32)), .val (.int (7 : Int32)), .val (.ref a8)] [(.ref a8)]))
                obtain ⟨T34, X34, e34, st34⟩ := getF X30 hx hZ hown (host := "") (Or.inl (hw _ (List.mem_of_getElem? (i := 31) rfl))) Via.refl e30 (F_a8.ext Kc1) (g := (mkF m 21 #[.val (.int p1), .val (.ref b), .val (.int (8 : Int32)), .val (.int (7 : Int32)), .val (.ref a8)] [(.ref a8)])) rfl rfl (hb hby own_d_prog_35_method_8_code_21)
                refine own_st st34 ?_
                show own_Gl p e below _ (T34.setTop (mkF m 24 #[.val (.int p1), .val (.ref b), .val (.int (8 : Int32)), .val (.int (7 : Int32)), .val (.ref a8)] [(.int (8 : Int32))]))
                refine own_st (fun tg_ kg_ => XS.iloadN X34.here hx rfl (hb hby own_d_prog_35_method_8_code_24) rfl kg_) ?_
                show own_Gl p e below _ (T34.setTop (mkF m 25 #[.val (.int p1), .val (.ref b), .val (.int (8 : Int32)), .val (.int (7 : Int32)), .val (.ref a8)] [(.int p1), (.int (8 : Int32))]))
                by_cases hc25_35 : p1 = (8 : Int32)
                ·
                  show own_Gl p e below _ (T34.setTop (mkF m 25 #[.val (.int p1), .val (.ref b), .val (.int (8 : Int32)), .val (.int (7 : Int32)), .val (.ref a8)] [(.int p1), (.int (8 : Int32))]))
                  refine own_st (fun tg_ kg_ => XS.icmpNo X34.here hx rfl (hb hby own_d_prog_35_method_8_code_25) rfl (teq (hc25_35.symm)).2 kg_) ?_
                  show own_Gl p e below _ (T34.setTop (mkF m 28 #[.val (.int p1), .val (.ref b), .val (.int (8 : Int32)), .val (.int (7 : Int32)), .val (.ref a8)] []))
                  refine own_st (fun tg_ kg_ => XS.aload X34.here hx rfl (hb hby own_d_prog_35_method_8_code_28) rfl rfl kg_) ?_
                  show own_Gl p e below _ (T34.setTop (mkF m 30 #[.val (.int p1), .val (.ref b), .val (.int (8 : Int32)), .val (.int (7 : Int32)), .val (.ref a8)] [(.ref a8)]))
                  exact own_retA X34 hx Bd.notSynchronized Bd.returns rfl rfl (hb hby own_d_prog_35_method_8_code_30) (by decide) (by decide) e34 (⟨by simp [own_op, eq_false hc25_7, eq_false hc25_11, eq_false hc25_15, eq_false hc25_19, eq_false hc25_23, eq_false hc25_27, eq_false hc25_31, eq_true hc25_35], N1, Kc1⟩)
                ·
                  show own_Gl p e below _ (T34.setTop (mkF m 25 #[.val (.int p1), .val (.ref b), .val (.int (8 : Int32)), .val (.int (7 : Int32)), .val (.ref a8)] [(.int p1), (.int (8 : Int32))]))
                  refine own_st (fun tg_ kg_ => XS.icmpYes X34.here hx rfl (pc0 := 25) (pc' := 31) rfl (hb hby own_d_prog_35_method_8_code_25) rfl (feq (fun q => hc25_35 q.symm)).2 (by decide) (by decide) kg_) ?_
                  show own_Gl p e below _ (T34.setTop (mkF m 31 #[.val (.int p1), .val (.ref b), .val (.int (8 : Int32)), .val (.int (7 : Int32)), .val (.ref a8)] []))
                  refine own_st (fun tg_ kg_ => XS.iinc X34.here hx rfl (hb hby own_d_prog_35_method_8_code_31) rfl (l' := #[.val (.int p1), .val (.ref b), .val (.int (8 : Int32)), .val (.int (8 : Int32)), .val (.ref a8)]) rfl kg_) ?_
                  show own_Gl p e below _ (T34.setTop (mkF m 34 #[.val (.int p1), .val (.ref b), .val (.int (8 : Int32)), .val (.int (8 : Int32)), .val (.ref a8)] []))
                  refine own_st (fun tg_ kg_ => XS.goto X34.here hx rfl (pc0 := 34) (pc' := 9) rfl (hb hby own_d_prog_35_method_8_code_34) (by decide) (by decide) kg_) ?_
                  show own_Gl p e below _ (T34.setTop (mkF m 9 #[.val (.int p1), .val (.ref b), .val (.int (8 : Int32)), .val (.int (8 : Int32)), .val (.ref a8)] []))
                  refine own_st (fun tg_ kg_ => XS.iloadN X34.here hx rfl (hb hby own_d_prog_35_method_8_code_9) rfl kg_) ?_
                  show own_Gl p e below _ (T34.setTop (mkF m 10 #[.val (.int p1), .val (.ref b), .val (.int (8 : Int32)), .val (.int (8 : Int32)), .val (.ref a8)] [(.int (8 : Int32))]))
                  refine own_st (fun tg_ kg_ => XS.iloadN X34.here hx rfl (hb hby own_d_prog_35_method_8_code_10) rfl kg_) ?_
                  show own_Gl p e below _ (T34.setTop (mkF m 11 #[.val (.int p1), .val (.ref b), .val (.int (8 : Int32)), .val (.int (8 : Int32)), .val (.ref a8)] [(.int (8 : Int32)), (.int (8 : Int32))]))
                  refine own_st (fun tg_ kg_ => XS.icmpYes X34.here hx rfl (pc0 := 11) (pc' := 37) rfl (hb hby own_d_prog_35_method_8_code_11) rfl (flt ((by decide : ¬ ((8 : Int32) < (8 : Int32))))).2.1 (by decide) (by decide) kg_) ?_
                  show own_Gl p e below _ (T34.setTop (mkF m 37 #[.val (.int p1), .val (.ref b), .val (.int (8 : Int32)), .val (.int (8 : Int32)), .val (.ref a8)] []))
                  refine own_st (fun tg_ kg_ => XS.aconstNull X34.here hx rfl (hb hby own_d_prog_35_method_8_code_37) kg_) ?_
                  show own_Gl p e below _ (T34.setTop (mkF m 38 #[.val (.int p1), .val (.ref b), .val (.int (8 : Int32)), .val (.int (8 : Int32)), .val (.ref a8)] [.null]))
                  exact own_retA X34 hx Bd.notSynchronized Bd.returns rfl rfl (hb hby own_d_prog_35_method_8_code_38) (by decide) (by decide) e34 (⟨by simp [own_op, eq_false hc25_7, eq_false hc25_11, eq_false hc25_15, eq_false hc25_19, eq_false hc25_23, eq_false hc25_27, eq_false hc25_31, eq_false hc25_35], N1, Kc1⟩)
theorem own_pn1 : plainName "com/example/stackprobe/stackprobe/model/OperatorOfCodePinLaw" = true := by first | (simp [plainName, overriddenIn]; done) | decide +kernel
theorem own_d_method_4_code_0 : decode method_4_code 0 = .ok (.iload_n 0, 1) := by decide +kernel
theorem own_d_method_4_code_1 : decode method_4_code 1 = .ok (.iconst 1, 1) := by decide +kernel
theorem own_d_method_4_code_2 : decode method_4_code 2 = .ok (.if_icmp .ne 7, 3) := by decide +kernel
theorem own_d_method_4_code_5 : decode method_4_code 5 = .ok (.getstatic 22, 3) := by decide +kernel
theorem own_d_method_4_code_8 : decode method_4_code 8 = .ok (.areturn, 1) := by decide +kernel
theorem own_d_method_4_code_9 : decode method_4_code 9 = .ok (.iload_n 0, 1) := by decide +kernel
theorem own_d_method_4_code_10 : decode method_4_code 10 = .ok (.iconst 2, 1) := by decide +kernel
theorem own_d_method_4_code_11 : decode method_4_code 11 = .ok (.if_icmp .ne 7, 3) := by decide +kernel
theorem own_d_method_4_code_14 : decode method_4_code 14 = .ok (.getstatic 26, 3) := by decide +kernel
theorem own_d_method_4_code_17 : decode method_4_code 17 = .ok (.areturn, 1) := by decide +kernel
theorem own_d_method_4_code_18 : decode method_4_code 18 = .ok (.iload_n 0, 1) := by decide +kernel
theorem own_d_method_4_code_19 : decode method_4_code 19 = .ok (.iconst 3, 1) := by decide +kernel
theorem own_d_method_4_code_20 : decode method_4_code 20 = .ok (.if_icmp .ne 7, 3) := by decide +kernel
theorem own_d_method_4_code_23 : decode method_4_code 23 = .ok (.getstatic 29, 3) := by decide +kernel
theorem own_d_method_4_code_26 : decode method_4_code 26 = .ok (.areturn, 1) := by decide +kernel
theorem own_d_method_4_code_27 : decode method_4_code 27 = .ok (.iload_n 0, 1) := by decide +kernel
theorem own_d_method_4_code_28 : decode method_4_code 28 = .ok (.iconst 4, 1) := by decide +kernel
theorem own_d_method_4_code_29 : decode method_4_code 29 = .ok (.if_icmp .ne 7, 3) := by decide +kernel
theorem own_d_method_4_code_32 : decode method_4_code 32 = .ok (.getstatic 32, 3) := by decide +kernel
theorem own_d_method_4_code_35 : decode method_4_code 35 = .ok (.areturn, 1) := by decide +kernel
theorem own_d_method_4_code_36 : decode method_4_code 36 = .ok (.iload_n 0, 1) := by decide +kernel
theorem own_d_method_4_code_37 : decode method_4_code 37 = .ok (.iconst 5, 1) := by decide +kernel
theorem own_d_method_4_code_38 : decode method_4_code 38 = .ok (.if_icmp .ne 7, 3) := by decide +kernel
theorem own_d_method_4_code_41 : decode method_4_code 41 = .ok (.getstatic 35, 3) := by decide +kernel
theorem own_d_method_4_code_44 : decode method_4_code 44 = .ok (.areturn, 1) := by decide +kernel
theorem own_d_method_4_code_45 : decode method_4_code 45 = .ok (.iload_n 0, 1) := by decide +kernel
theorem own_d_method_4_code_46 : decode method_4_code 46 = .ok (.bipush 6, 2) := by decide +kernel
theorem own_d_method_4_code_48 : decode method_4_code 48 = .ok (.if_icmp .ne 7, 3) := by decide +kernel
theorem own_d_method_4_code_51 : decode method_4_code 51 = .ok (.getstatic 38, 3) := by decide +kernel
theorem own_d_method_4_code_54 : decode method_4_code 54 = .ok (.areturn, 1) := by decide +kernel
theorem own_d_method_4_code_55 : decode method_4_code 55 = .ok (.iload_n 0, 1) := by decide +kernel
theorem own_d_method_4_code_56 : decode method_4_code 56 = .ok (.bipush 7, 2) := by decide +kernel
theorem own_d_method_4_code_58 : decode method_4_code 58 = .ok (.if_icmp .ne 7, 3) := by decide +kernel
theorem own_d_method_4_code_61 : decode method_4_code 61 = .ok (.getstatic 41, 3) := by decide +kernel
theorem own_d_method_4_code_64 : decode method_4_code 64 = .ok (.areturn, 1) := by decide +kernel
theorem own_d_method_4_code_65 : decode method_4_code 65 = .ok (.iload_n 0, 1) := by decide +kernel
theorem own_d_method_4_code_66 : decode method_4_code 66 = .ok (.bipush 8, 2) := by decide +kernel
theorem own_d_method_4_code_68 : decode method_4_code 68 = .ok (.if_icmp .ne 7, 3) := by decide +kernel
theorem own_d_method_4_code_71 : decode method_4_code 71 = .ok (.getstatic 44, 3) := by decide +kernel
theorem own_d_method_4_code_74 : decode method_4_code 74 = .ok (.areturn, 1) := by decide +kernel
theorem own_d_method_4_code_75 : decode method_4_code 75 = .ok (.aconst_null, 1) := by decide +kernel
theorem own_d_method_4_code_76 : decode method_4_code 76 = .ok (.areturn, 1) := by decide +kernel
theorem own_ef_exp (m : MethodId) (x0 : Int32) : entryFrame m #[(.int x0)] 1 = mkF m 0 #[.val (.int x0)] [] := by first | (simp [entryFrame, mkF, argsToLocals, Value.category]; done) | rfl
def own_Q_exp (Z : State) (p1 : Int32) (a1 a2 a3 a4 a5 a6 a7 a8 : Addr) (h0 : Heap) (n0 : Nat) (v : Option Value) (h : Heap) (L : List Loc) : Prop := v = some (own_op p1 a1 a2 a3 a4 a5 a6 a7 a8) ∧ Fr n0 L ∧ h = h0
set_option maxRecDepth 65536 in
set_option maxHeartbeats 40000000 in
theorem own_rm_exp (l : Launch) (Z : State) (a0 : Array Value) (hw : ∀ d ∈ tables_1, d.before a0 Z = true) (ws : List Jvm.Cond) (p1 : Int32) (a1 a2 a3 a4 a5 a6 a7 a8 : Addr) (h0 : Heap) (n0 : Nat) (Z0 : n0 ≤ h0.size) (S_a1 : Sta Z h0 "com/example/stackprobe/stackprobe/model/Operator" "BEGIN" "Lcom/example/stackprobe/stackprobe/model/Operator;" (.ref a1)) (S_a2 : Sta Z h0 "com/example/stackprobe/stackprobe/model/Operator" "END" "Lcom/example/stackprobe/stackprobe/model/Operator;" (.ref a2)) (S_a3 : Sta Z h0 "com/example/stackprobe/stackprobe/model/Operator" "GET" "Lcom/example/stackprobe/stackprobe/model/Operator;" (.ref a3)) (S_a4 : Sta Z h0 "com/example/stackprobe/stackprobe/model/Operator" "GET_ATTRIBUTES" "Lcom/example/stackprobe/stackprobe/model/Operator;" (.ref a4)) (S_a5 : Sta Z h0 "com/example/stackprobe/stackprobe/model/Operator" "GET_RANGE" "Lcom/example/stackprobe/stackprobe/model/Operator;" (.ref a5)) (S_a6 : Sta Z h0 "com/example/stackprobe/stackprobe/model/Operator" "SET" "Lcom/example/stackprobe/stackprobe/model/Operator;" (.ref a6)) (S_a7 : Sta Z h0 "com/example/stackprobe/stackprobe/model/Operator" "CREATE" "Lcom/example/stackprobe/stackprobe/model/Operator;" (.ref a7)) (S_a8 : Sta Z h0 "com/example/stackprobe/stackprobe/model/Operator" "DELETE" "Lcom/example/stackprobe/stackprobe/model/Operator;" (.ref a8)) :
    MetFree l (⟨"com/example/stackprobe/stackprobe/model/OperatorOfCodePinLaw", "expectedFor", "(I)Lcom/example/stackprobe/stackprobe/model/Operator;"⟩ : MethodName) (head1 (Jvm.Cond.code (⟨"com/example/stackprobe/stackprobe/model/OperatorOfCodePinLaw", "expectedFor", "(I)Lcom/example/stackprobe/stackprobe/model/Operator;"⟩ : MethodName) method_4_code 1 (some (.object "com/example/stackprobe/stackprobe/model/Operator")) :: ws) ({ frames := 0, cells := 0, slots := 0, locals := 0 } : Room)) (fun aa UU => aa = #[(.int p1)] ∧ Z.Warmed39 UU.vm ∧ UU.heap = h0) (fun _ _ _ _ _ => True) (fun _ UU oo UU' => ∃ vv LL, oo = .returned vv ∧ own_Q_exp Z p1 a1 a2 a3 a4 a5 a6 a7 a8 h0 n0 vv UU'.heap LL ∧ FrameEnd UU oo UU' LL ({ frames := 0, cells := 0, slots := 0, locals := 0 } : Room).cells ({ frames := 0, cells := 0, slots := 0, locals := 0 } : Room).slots) := by
  refine MetFree.of_bodySF (plainFor_of_name own_pn1) hisR ?_
  intro p e s m args below meth c s₁ Bd hml0 hP hK
  obtain ⟨rfl, hZ, hh⟩ := hP
  have hx := Bd.exec
  have hby := Bd.bytes
  have hml : c.maxLocals = 1 := hml0
  have hown : s.vm.findClass "com/example/stackprobe/stackprobe/model/OperatorOfCodePinLaw" = some m.cls := findClass_of_methodNamed Bd.named
  have hnm := (name_of_methodNamed Bd.named Bd.method).1
  have X0 : Stand p l e ({ frames := 0, cells := 0, slots := 0, locals := 0 } : Room) s m #[(.int p1)] below meth c s₁ [] 0 0 := Stand.of_body Bd
  have e0 : s₁.heap = h0 := by rw [← hh, Bd.state]; rfl
  have N0 := Fr.nil n0
  show own_Gl p e below (own_Post s (own_Q_exp Z p1 a1 a2 a3 a4 a5 a6 a7 a8 h0 n0) ({ frames := 0, cells := 0, slots := 0, locals := 0 } : Room).cells ({ frames := 0, cells := 0, slots := 0, locals := 0 } : Room).slots) _
  refine own_st (fun tg_ kg_ => castTop (own_ef_exp m p1) kg_) ?_
  show own_Gl p e below _ (s₁.setTop (mkF m 0 #[.val (.int p1)] []))
  refine own_st (fun tg_ kg_ => XS.iloadN X0.here hx rfl (hb hby own_d_method_4_code_0) rfl kg_) ?_
  show own_Gl p e below _ (s₁.setTop (mkF m 1 #[.val (.int p1)] [(.int p1)]))
  refine own_st (fun tg_ kg_ => XS.iconst X0.here hx rfl (hb hby own_d_method_4_code_1) kg_) ?_
  show own_Gl p e below _ (s₁.setTop (mkF m 2 #[.val (.int p1)] [(.int (1 : Int32)), (.int p1)]))
  by_cases hc2_1 : p1 = (1 : Int32)
  ·
    show own_Gl p e below _ (s₁.setTop (mkF m 2 #[.val (.int p1)] [(.int (1 : Int32)), (.int p1)]))
    refine own_st (fun tg_ kg_ => XS.icmpNo X0.here hx rfl (hb hby own_d_method_4_code_2) rfl (teq (hc2_1)).2 kg_) ?_
    show own_Gl p e below _ (s₁.setTop (mkF m 5 #[.val (.int p1)] []))
    obtain ⟨T2, X2, e2, st2⟩ := getS2 X0 hx hZ hown (host := "") (Or.inl (hw _ (List.mem_of_getElem? (i := 38) rfl))) Via.refl e0 S_a1 (g := (mkF m 5 #[.val (.int p1)] [])) rfl (hb hby own_d_method_4_code_5)
    refine own_st st2 ?_
    show own_Gl p e below _ (T2.setTop (mkF m 8 #[.val (.int p1)] [(.ref a1)]))
    exact own_retA X2 hx Bd.notSynchronized Bd.returns rfl rfl (hb hby own_d_method_4_code_8) (by decide) (by decide) e2 (⟨by simp [own_op, eq_true hc2_1], N0, rfl⟩)
  ·
    show own_Gl p e below _ (s₁.setTop (mkF m 2 #[.val (.int p1)] [(.int (1 : Int32)), (.int p1)]))
    refine own_st (fun tg_ kg_ => XS.icmpYes X0.here hx rfl (pc0 := 2) (pc' := 9) rfl (hb hby own_d_method_4_code_2) rfl (feq (hc2_1)).2 (by decide) (by decide) kg_) ?_
    show own_Gl p e below _ (s₁.setTop (mkF m 9 #[.val (.int p1)] []))
    refine own_st (fun tg_ kg_ => XS.iloadN X0.here hx rfl (hb hby own_d_method_4_code_9) rfl kg_) ?_
    show own_Gl p e below _ (s₁.setTop (mkF m 10 #[.val (.int p1)] [(.int p1)]))
    refine own_st (fun tg_ kg_ => XS.iconst X0.here hx rfl (hb hby own_d_method_4_code_10) kg_) ?_
    show own_Gl p e below _ (s₁.setTop (mkF m 11 #[.val (.int p1)] [(.int (2 : Int32)), (.int p1)]))
    by_cases hc11_3 : p1 = (2 : Int32)
    ·
      show own_Gl p e below _ (s₁.setTop (mkF m 11 #[.val (.int p1)] [(.int (2 : Int32)), (.int p1)]))
      refine own_st (fun tg_ kg_ => XS.icmpNo X0.here hx rfl (hb hby own_d_method_4_code_11) rfl (teq (hc11_3)).2 kg_) ?_
      show own_Gl p e below _ (s₁.setTop (mkF m 14 #[.val (.int p1)] []))
      obtain ⟨T4, X4, e4, st4⟩ := getS2 X0 hx hZ hown (host := "") (Or.inl (hw _ (List.mem_of_getElem? (i := 41) rfl))) Via.refl e0 S_a2 (g := (mkF m 14 #[.val (.int p1)] [])) rfl (hb hby own_d_method_4_code_14)
      refine own_st st4 ?_
      show own_Gl p e below _ (T4.setTop (mkF m 17 #[.val (.int p1)] [(.ref a2)]))
      exact own_retA X4 hx Bd.notSynchronized Bd.returns rfl rfl (hb hby own_d_method_4_code_17) (by decide) (by decide) e4 (⟨by simp [own_op, eq_false hc2_1, eq_true hc11_3], N0, rfl⟩)
    ·
      show own_Gl p e below _ (s₁.setTop (mkF m 11 #[.val (.int p1)] [(.int (2 : Int32)), (.int p1)]))
      refine own_st (fun tg_ kg_ => XS.icmpYes X0.here hx rfl (pc0 := 11) (pc' := 18) rfl (hb hby own_d_method_4_code_11) rfl (feq (hc11_3)).2 (by decide) (by decide) kg_) ?_
      show own_Gl p e below _ (s₁.setTop (mkF m 18 #[.val (.int p1)] []))
      refine own_st (fun tg_ kg_ => XS.iloadN X0.here hx rfl (hb hby own_d_method_4_code_18) rfl kg_) ?_
      show own_Gl p e below _ (s₁.setTop (mkF m 19 #[.val (.int p1)] [(.int p1)]))
      refine own_st (fun tg_ kg_ => XS.iconst X0.here hx rfl (hb hby own_d_method_4_code_19) kg_) ?_
      show own_Gl p e below _ (s₁.setTop (mkF m 20 #[.val (.int p1)] [(.int (3 : Int32)), (.int p1)]))
      by_cases hc20_5 : p1 = (3 : Int32)
      ·
        show own_Gl p e below _ (s₁.setTop (mkF m 20 #[.val (.int p1)] [(.int (3 : Int32)), (.int p1)]))
        refine own_st (fun tg_ kg_ => XS.icmpNo X0.here hx rfl (hb hby own_d_method_4_code_20) rfl (teq (hc20_5)).2 kg_) ?_
        show own_Gl p e below _ (s₁.setTop (mkF m 23 #[.val (.int p1)] []))
        obtain ⟨T6, X6, e6, st6⟩ := getS2 X0 hx hZ hown (host := "") (Or.inl (hw _ (List.mem_of_getElem? (i := 39) rfl))) Via.refl e0 S_a3 (g := (mkF m 23 #[.val (.int p1)] [])) rfl (hb hby own_d_method_4_code_23)
        refine own_st st6 ?_
        show own_Gl p e below _ (T6.setTop (mkF m 26 #[.val (.int p1)] [(.ref a3)]))
        exact own_retA X6 hx Bd.notSynchronized Bd.returns rfl rfl (hb hby own_d_method_4_code_26) (by decide) (by decide) e6 (⟨by simp [own_op, eq_false hc2_1, eq_false hc11_3, eq_true hc20_5], N0, rfl⟩)
      ·
        show own_Gl p e below _ (s₁.setTop (mkF m 20 #[.val (.int p1)] [(.int (3 : Int32)), (.int p1)]))
        refine own_st (fun tg_ kg_ => XS.icmpYes X0.here hx rfl (pc0 := 20) (pc' := 27) rfl (hb hby own_d_method_4_code_20) rfl (feq (hc20_5)).2 (by decide) (by decide) kg_) ?_
        show own_Gl p e below _ (s₁.setTop (mkF m 27 #[.val (.int p1)] []))
        refine own_st (fun tg_ kg_ => XS.iloadN X0.here hx rfl (hb hby own_d_method_4_code_27) rfl kg_) ?_
        show own_Gl p e below _ (s₁.setTop (mkF m 28 #[.val (.int p1)] [(.int p1)]))
        refine own_st (fun tg_ kg_ => XS.iconst X0.here hx rfl (hb hby own_d_method_4_code_28) kg_) ?_
        show own_Gl p e below _ (s₁.setTop (mkF m 29 #[.val (.int p1)] [(.int (4 : Int32)), (.int p1)]))
        by_cases hc29_7 : p1 = (4 : Int32)
        ·
          show own_Gl p e below _ (s₁.setTop (mkF m 29 #[.val (.int p1)] [(.int (4 : Int32)), (.int p1)]))
          refine own_st (fun tg_ kg_ => XS.icmpNo X0.here hx rfl (hb hby own_d_method_4_code_29) rfl (teq (hc29_7)).2 kg_) ?_
          show own_Gl p e below _ (s₁.setTop (mkF m 32 #[.val (.int p1)] []))
          obtain ⟨T8, X8, e8, st8⟩ := getS2 X0 hx hZ hown (host := "") (Or.inl (hw _ (List.mem_of_getElem? (i := 42) rfl))) Via.refl e0 S_a4 (g := (mkF m 32 #[.val (.int p1)] [])) rfl (hb hby own_d_method_4_code_32)
          refine own_st st8 ?_
          show own_Gl p e below _ (T8.setTop (mkF m 35 #[.val (.int p1)] [(.ref a4)]))
          exact own_retA X8 hx Bd.notSynchronized Bd.returns rfl rfl (hb hby own_d_method_4_code_35) (by decide) (by decide) e8 (⟨by simp [own_op, eq_false hc2_1, eq_false hc11_3, eq_false hc20_5, eq_true hc29_7], N0, rfl⟩)
        ·
          show own_Gl p e below _ (s₁.setTop (mkF m 29 #[.val (.int p1)] [(.int (4 : Int32)), (.int p1)]))
          refine own_st (fun tg_ kg_ => XS.icmpYes X0.here hx rfl (pc0 := 29) (pc' := 36) rfl (hb hby own_d_method_4_code_29) rfl (feq (hc29_7)).2 (by decide) (by decide) kg_) ?_
          show own_Gl p e below _ (s₁.setTop (mkF m 36 #[.val (.int p1)] []))
          refine own_st (fun tg_ kg_ => XS.iloadN X0.here hx rfl (hb hby own_d_method_4_code_36) rfl kg_) ?_
          show own_Gl p e below _ (s₁.setTop (mkF m 37 #[.val (.int p1)] [(.int p1)]))
          refine own_st (fun tg_ kg_ => XS.iconst X0.here hx rfl (hb hby own_d_method_4_code_37) kg_) ?_
          show own_Gl p e below _ (s₁.setTop (mkF m 38 #[.val (.int p1)] [(.int (5 : Int32)), (.int p1)]))
          by_cases hc38_9 : p1 = (5 : Int32)
          ·
            show own_Gl p e below _ (s₁.setTop (mkF m 38 #[.val (.int p1)] [(.int (5 : Int32)), (.int p1)]))
            refine own_st (fun tg_ kg_ => XS.icmpNo X0.here hx rfl (hb hby own_d_method_4_code_38) rfl (teq (hc38_9)).2 kg_) ?_
            show own_Gl p e below _ (s₁.setTop (mkF m 41 #[.val (.int p1)] []))
            obtain ⟨T10, X10, e10, st10⟩ := getS2 X0 hx hZ hown (host := "") (Or.inl (hw _ (List.mem_of_getElem? (i := 40) rfl))) Via.refl e0 S_a5 (g := (mkF m 41 #[.val (.int p1)] [])) rfl (hb hby own_d_method_4_code_41)
            refine own_st st10 ?_
            show own_Gl p e below _ (T10.setTop (mkF m 44 #[.val (.int p1)] [(.ref a5)]))
            exact own_retA X10 hx Bd.notSynchronized Bd.returns rfl rfl (hb hby own_d_method_4_code_44) (by decide) (by decide) e10 (⟨by simp [own_op, eq_false hc2_1, eq_false hc11_3, eq_false hc20_5, eq_false hc29_7, eq_true hc38_9], N0, rfl⟩)
          ·
            show own_Gl p e below _ (s₁.setTop (mkF m 38 #[.val (.int p1)] [(.int (5 : Int32)), (.int p1)]))
            refine own_st (fun tg_ kg_ => XS.icmpYes X0.here hx rfl (pc0 := 38) (pc' := 45) rfl (hb hby own_d_method_4_code_38) rfl (feq (hc38_9)).2 (by decide) (by decide) kg_) ?_
            show own_Gl p e below _ (s₁.setTop (mkF m 45 #[.val (.int p1)] []))
            refine own_st (fun tg_ kg_ => XS.iloadN X0.here hx rfl (hb hby own_d_method_4_code_45) rfl kg_) ?_
            show own_Gl p e below _ (s₁.setTop (mkF m 46 #[.val (.int p1)] [(.int p1)]))
            refine own_st (fun tg_ kg_ => XS.bipush X0.here hx rfl (hb hby own_d_method_4_code_46) kg_) ?_
            show own_Gl p e below _ (s₁.setTop (mkF m 48 #[.val (.int p1)] [(.int (6 : Int32)), (.int p1)]))
            by_cases hc48_11 : p1 = (6 : Int32)
            ·
              show own_Gl p e below _ (s₁.setTop (mkF m 48 #[.val (.int p1)] [(.int (6 : Int32)), (.int p1)]))
              refine own_st (fun tg_ kg_ => XS.icmpNo X0.here hx rfl (hb hby own_d_method_4_code_48) rfl (teq (hc48_11)).2 kg_) ?_
              show own_Gl p e below _ (s₁.setTop (mkF m 51 #[.val (.int p1)] []))
              obtain ⟨T12, X12, e12, st12⟩ := getS2 X0 hx hZ hown (host := "") (Or.inl (hw _ (List.mem_of_getElem? (i := 36) rfl))) Via.refl e0 S_a6 (g := (mkF m 51 #[.val (.int p1)] [])) rfl (hb hby own_d_method_4_code_51)
              refine own_st st12 ?_
              show own_Gl p e below _ (T12.setTop (mkF m 54 #[.val (.int p1)] [(.ref a6)]))
              exact own_retA X12 hx Bd.notSynchronized Bd.returns rfl rfl (hb hby own_d_method_4_code_54) (by decide) (by decide) e12 (⟨by simp [own_op, eq_false hc2_1, eq_false hc11_3, eq_false hc20_5, eq_false hc29_7, eq_false hc38_9, eq_true hc48_11], N0, rfl⟩)
            ·
              show own_Gl p e below _ (s₁.setTop (mkF m 48 #[.val (.int p1)] [(.int (6 : Int32)), (.int p1)]))
              refine own_st (fun tg_ kg_ => XS.icmpYes X0.here hx rfl (pc0 := 48) (pc' := 55) rfl (hb hby own_d_method_4_code_48) rfl (feq (hc48_11)).2 (by decide) (by decide) kg_) ?_
              show own_Gl p e below _ (s₁.setTop (mkF m 55 #[.val (.int p1)] []))
              refine own_st (fun tg_ kg_ => XS.iloadN X0.here hx rfl (hb hby own_d_method_4_code_55) rfl kg_) ?_
              show own_Gl p e below _ (s₁.setTop (mkF m 56 #[.val (.int p1)] [(.int p1)]))
              refine own_st (fun tg_ kg_ => XS.bipush X0.here hx rfl (hb hby own_d_method_4_code_56) kg_) ?_
              show own_Gl p e below _ (s₁.setTop (mkF m 58 #[.val (.int p1)] [(.int (7 : Int32)), (.int p1)]))
              by_cases hc58_13 : p1 = (7 : Int32)
              ·
                show own_Gl p e below _ (s₁.setTop (mkF m 58 #[.val (.int p1)] [(.int (7 : Int32)), (.int p1)]))
                refine own_st (fun tg_ kg_ => XS.icmpNo X0.here hx rfl (hb hby own_d_method_4_code_58) rfl (teq (hc58_13)).2 kg_) ?_
                show own_Gl p e below _ (s₁.setTop (mkF m 61 #[.val (.int p1)] []))
                obtain ⟨T14, X14, e14, st14⟩ := getS2 X0 hx hZ hown (host := "") (Or.inl (hw _ (List.mem_of_getElem? (i := 43) rfl))) Via.refl e0 S_a7 (g := (mkF m 61 #[.val (.int p1)] [])) rfl (hb hby own_d_method_4_code_61)
                refine own_st st14 ?_
                show own_Gl p e below _ (T14.setTop (mkF m 64 #[.val (.int p1)] [(.ref a7)]))
                exact own_retA X14 hx Bd.notSynchronized Bd.returns rfl rfl (hb hby own_d_method_4_code_64) (by decide) (by decide) e14 (⟨by simp [own_op, eq_false hc2_1, eq_false hc11_3, eq_false hc20_5, eq_false hc29_7, eq_false hc38_9, eq_false hc48_11, eq_true hc58_13], N0, rfl⟩)
              ·
                show own_Gl p e below _ (s₁.setTop (mkF m 58 #[.val (.int p1)] [(.int (7 : Int32)), (.int p1)]))
                refine own_st (fun tg_ kg_ => XS.icmpYes X0.here hx rfl (pc0 := 58) (pc' := 65) rfl (hb hby own_d_method_4_code_58) rfl (feq (hc58_13)).2 (by decide) (by decide) kg_) ?_
                show own_Gl p e below _ (s₁.setTop (mkF m 65 #[.val (.int p1)] []))
                refine own_st (fun tg_ kg_ => XS.iloadN X0.here hx rfl (hb hby own_d_method_4_code_65) rfl kg_) ?_
                show own_Gl p e below _ (s₁.setTop (mkF m 66 #[.val (.int p1)] [(.int p1)]))
                refine own_st (fun tg_ kg_ => XS.bipush X0.here hx rfl (hb hby own_d_method_4_code_66) kg_) ?_
                show own_Gl p e below _ (s₁.setTop (mkF m 68 #[.val (.int p1)] [(.int (8 : Int32)), (.int p1)]))
                by_cases hc68_15 : p1 = (8 : Int32)
                ·
                  show own_Gl p e below _ (s₁.setTop (mkF m 68 #[.val (.int p1)] [(.int (8 : Int32)), (.int p1)]))
                  refine own_st (fun tg_ kg_ => XS.icmpNo X0.here hx rfl (hb hby own_d_method_4_code_68) rfl (teq (hc68_15)).2 kg_) ?_
                  show own_Gl p e below _ (s₁.setTop (mkF m 71 #[.val (.int p1)] []))
                  obtain ⟨T16, X16, e16, st16⟩ := getS2 X0 hx hZ hown (host := "") (Or.inl (hw _ (List.mem_of_getElem? (i := 37) rfl))) Via.refl e0 S_a8 (g := (mkF m 71 #[.val (.int p1)] [])) rfl (hb hby own_d_method_4_code_71)
                  refine own_st st16 ?_
                  show own_Gl p e below _ (T16.setTop (mkF m 74 #[.val (.int p1)] [(.ref a8)]))
                  exact own_retA X16 hx Bd.notSynchronized Bd.returns rfl rfl (hb hby own_d_method_4_code_74) (by decide) (by decide) e16 (⟨by simp [own_op, eq_false hc2_1, eq_false hc11_3, eq_false hc20_5, eq_false hc29_7, eq_false hc38_9, eq_false hc48_11, eq_false hc58_13, eq_true hc68_15], N0, rfl⟩)
                ·
                  show own_Gl p e below _ (s₁.setTop (mkF m 68 #[.val (.int p1)] [(.int (8 : Int32)), (.int p1)]))
                  refine own_st (fun tg_ kg_ => XS.icmpYes X0.here hx rfl (pc0 := 68) (pc' := 75) rfl (hb hby own_d_method_4_code_68) rfl (feq (hc68_15)).2 (by decide) (by decide) kg_) ?_
                  show own_Gl p e below _ (s₁.setTop (mkF m 75 #[.val (.int p1)] []))
                  refine own_st (fun tg_ kg_ => XS.aconstNull X0.here hx rfl (hb hby own_d_method_4_code_75) kg_) ?_
                  show own_Gl p e below _ (s₁.setTop (mkF m 76 #[.val (.int p1)] [.null]))
                  exact own_retA X0 hx Bd.notSynchronized Bd.returns rfl rfl (hb hby own_d_method_4_code_76) (by decide) (by decide) e0 (⟨by simp [own_op, eq_false hc2_1, eq_false hc11_3, eq_false hc20_5, eq_false hc29_7, eq_false hc38_9, eq_false hc48_11, eq_false hc58_13, eq_false hc68_15], N0, rfl⟩)
theorem own_pd1 : parseMethodDescriptor "(I)Lcom/example/stackprobe/stackprobe/model/Operator;" = some ⟨[.int], some (.object "com/example/stackprobe/stackprobe/model/Operator")⟩ := by decide +kernel
theorem own_d_method_3_code_0 : decode method_3_code 0 = .ok (.iload_n 0, 1) := by decide +kernel
theorem own_d_method_3_code_1 : decode method_3_code 1 = .ok (.invokestatic 13, 3) := by decide +kernel
theorem own_d_method_3_code_4 : decode method_3_code 4 = .ok (.astore_n 1, 1) := by decide +kernel
theorem own_d_method_3_code_5 : decode method_3_code 5 = .ok (.aload_n 1, 1) := by decide +kernel
theorem own_d_method_3_code_6 : decode method_3_code 6 = .ok (.iload_n 0, 1) := by decide +kernel
theorem own_d_method_3_code_7 : decode method_3_code 7 = .ok (.invokestatic 19, 3) := by decide +kernel
theorem own_d_method_3_code_10 : decode method_3_code 10 = .ok (.if_acmp .ne 7, 3) := by decide +kernel
theorem own_d_method_3_code_13 : decode method_3_code 13 = .ok (.iconst 1, 1) := by decide +kernel
theorem own_d_method_3_code_14 : decode method_3_code 14 = .ok (.goto 4, 3) := by decide +kernel
theorem own_d_method_3_code_18 : decode method_3_code 18 = .ok (.ireturn, 1) := by decide +kernel
theorem own_ef_chk (m : MethodId) (x0 : Int32) : entryFrame m #[(.int x0)] 2 = mkF m 0 #[.val (.int x0), .unset] [] := by first | (simp [entryFrame, mkF, argsToLocals, Value.category]; done) | rfl
def own_Q_chk (Z : State) (p1 : Int32) (aV : Addr) (kV : ClassId) (a1 a2 a3 a4 a5 a6 a7 a8 : Addr) (h0 : Heap) (n0 : Nat) (v : Option Value) (h : Heap) (L : List Loc) : Prop := v = some (.int 1) ∧ Fr n0 L ∧ Ext h0 h
set_option maxRecDepth 65536 in
set_option maxHeartbeats 40000000 in
theorem own_rm_chk (l : Launch) (Z : State) (a0 : Array Value) (hw : ∀ d ∈ tables_1, d.before a0 Z = true) (ws : List Jvm.Cond) (p1 : Int32) (aV : Addr) (kV : ClassId) (a1 a2 a3 a4 a5 a6 a7 a8 : Addr) (h0 : Heap) (n0 : Nat) (Z0 : n0 ≤ h0.size) (S_V : Sta Z h0 "com/example/stackprobe/stackprobe/model/Operator" "$VALUES" "[Lcom/example/stackprobe/stackprobe/model/Operator;" (.ref aV)) (V_aV : Arv Z h0 aV kV (.object "com/example/stackprobe/stackprobe/model/Operator") (8 : Int32) [(.ref a1), (.ref a2), (.ref a3), (.ref a4), (.ref a5), (.ref a6), (.ref a7), (.ref a8)] .null) (E_aV : Exa Z h0 aV "[Lcom/example/stackprobe/stackprobe/model/Operator;") (F_a1 : Fld Z h0 a1 "com/example/stackprobe/stackprobe/model/Operator" "code" "I" (.int 1)) (F_a2 : Fld Z h0 a2 "com/example/stackprobe/stackprobe/model/Operator" "code" "I" (.int 2)) (F_a3 : Fld Z h0 a3 "com/example/stackprobe/stackprobe/model/Operator" "code" "I" (.int 3)) (F_a4 : Fld Z h0 a4 "com/example/stackprobe/stackprobe/model/Operator" "code" "I" (.int 4)) (F_a5 : Fld Z h0 a5 "com/example/stackprobe/stackprobe/model/Operator" "code" "I" (.int 5)) (F_a6 : Fld Z h0 a6 "com/example/stackprobe/stackprobe/model/Operator" "code" "I" (.int 6)) (F_a7 : Fld Z h0 a7 "com/example/stackprobe/stackprobe/model/Operator" "code" "I" (.int 7)) (F_a8 : Fld Z h0 a8 "com/example/stackprobe/stackprobe/model/Operator" "code" "I" (.int 8)) (S_a1 : Sta Z h0 "com/example/stackprobe/stackprobe/model/Operator" "BEGIN" "Lcom/example/stackprobe/stackprobe/model/Operator;" (.ref a1)) (S_a2 : Sta Z h0 "com/example/stackprobe/stackprobe/model/Operator" "END" "Lcom/example/stackprobe/stackprobe/model/Operator;" (.ref a2)) (S_a3 : Sta Z h0 "com/example/stackprobe/stackprobe/model/Operator" "GET" "Lcom/example/stackprobe/stackprobe/model/Operator;" (.ref a3)) (S_a4 : Sta Z h0 "com/example/stackprobe/stackprobe/model/Operator" "GET_ATTRIBUTES" "Lcom/example/stackprobe/stackprobe/model/Operator;" (.ref a4)) (S_a5 : Sta Z h0 "com/example/stackprobe/stackprobe/model/Operator" "GET_RANGE" "Lcom/example/stackprobe/stackprobe/model/Operator;" (.ref a5)) (S_a6 : Sta Z h0 "com/example/stackprobe/stackprobe/model/Operator" "SET" "Lcom/example/stackprobe/stackprobe/model/Operator;" (.ref a6)) (S_a7 : Sta Z h0 "com/example/stackprobe/stackprobe/model/Operator" "CREATE" "Lcom/example/stackprobe/stackprobe/model/Operator;" (.ref a7)) (S_a8 : Sta Z h0 "com/example/stackprobe/stackprobe/model/Operator" "DELETE" "Lcom/example/stackprobe/stackprobe/model/Operator;" (.ref a8)) :
    MetFree l (⟨"com/example/stackprobe/stackprobe/model/OperatorOfCodePinLaw", "check", "(I)Z"⟩ : MethodName) (head1 (Jvm.Cond.code (⟨"com/example/stackprobe/stackprobe/model/OperatorOfCodePinLaw", "check", "(I)Z"⟩ : MethodName) method_3_code 2 (some .boolean) :: ws) ({ frames := 3, cells := 1, slots := 8, locals := 41 } : Room)) (fun aa UU => aa = #[(.int p1)] ∧ Z.Warmed39 UU.vm ∧ UU.heap = h0) (fun _ _ _ _ _ => True) (fun _ UU oo UU' => ∃ vv LL, oo = .returned vv ∧ own_Q_chk Z p1 aV kV a1 a2 a3 a4 a5 a6 a7 a8 h0 n0 vv UU'.heap LL ∧ FrameEnd UU oo UU' LL ({ frames := 3, cells := 1, slots := 8, locals := 41 } : Room).cells ({ frames := 3, cells := 1, slots := 8, locals := 41 } : Room).slots) := by
  refine MetFree.of_bodySF (plainFor_of_name own_pn1) hisR ?_
  intro p e s m args below meth c s₁ Bd hml0 hP hK
  obtain ⟨rfl, hZ, hh⟩ := hP
  have hx := Bd.exec
  have hby := Bd.bytes
  have hml : c.maxLocals = 2 := hml0
  have hown : s.vm.findClass "com/example/stackprobe/stackprobe/model/OperatorOfCodePinLaw" = some m.cls := findClass_of_methodNamed Bd.named
  have hnm := (name_of_methodNamed Bd.named Bd.method).1
  have X0 : Stand p l e ({ frames := 3, cells := 1, slots := 8, locals := 41 } : Room) s m #[(.int p1)] below meth c s₁ [] 0 0 := Stand.of_body Bd
  have e0 : s₁.heap = h0 := by rw [← hh, Bd.state]; rfl
  have N0 := Fr.nil n0
  show own_Gl p e below (own_Post s (own_Q_chk Z p1 aV kV a1 a2 a3 a4 a5 a6 a7 a8 h0 n0) ({ frames := 3, cells := 1, slots := 8, locals := 41 } : Room).cells ({ frames := 3, cells := 1, slots := 8, locals := 41 } : Room).slots) _
  refine own_st (fun tg_ kg_ => castTop (own_ef_chk m p1) kg_) ?_
  show own_Gl p e below _ (s₁.setTop (mkF m 0 #[.val (.int p1), .unset] []))
  refine own_st (fun tg_ kg_ => XS.iloadN X0.here hx rfl (hb hby own_d_method_3_code_0) rfl kg_) ?_
  show own_Gl p e below _ (s₁.setTop (mkF m 1 #[.val (.int p1), .unset] [(.int p1)]))
  obtain ⟨_, _, ⟨T1, L1, k1, n1⟩, -, X1, ⟨Lc1, hQ1, l1, y1, z1⟩, st1⟩ := Jvm.LawKit.callS X0 hx (y := (⟨"com/example/stackprobe/stackprobe/model/Operator", "ofCode", "(I)Lcom/example/stackprobe/stackprobe/model/Operator;"⟩ : MethodName)) hown (mvT hZ (hw _ (List.mem_of_getElem? (i := 4) rfl))) (mvT hZ (hw _ (List.mem_of_getElem? (i := 5) rfl))) (mvT hZ (hw _ (List.mem_of_getElem? (i := 6) rfl))) (mvT hZ (hw _ (List.mem_of_getElem? (i := 7) rfl))) (by decide) (backOf (W := 0) (own_rm_ofc l Z a0 hw [] p1 aV kV a1 a2 a3 a4 a5 a6 a7 a8 h0 n0 Z0 S_V V_aV E_aV F_a1 F_a2 F_a3 F_a4 F_a5 F_a6 F_a7 F_a8) hZ (hw _ (List.mem_of_getElem? (i := 7) rfl)) (hw _ (List.mem_of_getElem? (i := 6) rfl)) (by decide) (by decide)) (g := (mkF m 1 #[.val (.int p1), .unset] [(.int p1)])) rfl (by rw [hml]; rfl) (argsL := [(.int p1)]) (rest := []) (lenOf own_pd1 rfl) rfl (by show 2 * 0 + _ ≤ _; exact Nat.le_of_eq rfl) (hb hby own_d_method_3_code_1) (fun _ _ => ⟨rfl, e0, (by decide : 0 + 1 ≤ _), (by decide : 0 + 8 ≤ _)⟩)
  dsimp only [Pt.U, Pt.locs, Pt.cells, Pt.slots] at X1 l1 y1 z1 st1 hQ1
  subst l1 y1 z1
  obtain ⟨rfl, N1q, Kc1⟩ := hQ1
  have N1 := Fr.app N0 N1q
  refine own_st st1 ?_
  show own_Gl p e below _ (T1.setTop (mkF m 4 #[.val (.int p1), .unset] [(own_op p1 a1 a2 a3 a4 a5 a6 a7 a8)]))
  refine own_st (fun tg_ kg_ => XT.astoreNS X1.here hx rfl (hb hby own_d_method_3_code_4) rfl (own_opr p1 a1 a2 a3 a4 a5 a6 a7 a8) (XT.cat1 (own_opr p1 a1 a2 a3 a4 a5 a6 a7 a8)) rfl (Or.inl rfl) kg_) ?_
  show own_Gl p e below _ (T1.setTop (mkF m 5 #[.val (.int p1), .val (own_op p1 a1 a2 a3 a4 a5 a6 a7 a8)] []))
  refine own_st (fun tg_ kg_ => XS.aloadN X1.here hx rfl (hb hby own_d_method_3_code_5) rfl (own_opr p1 a1 a2 a3 a4 a5 a6 a7 a8) kg_) ?_
  show own_Gl p e below _ (T1.setTop (mkF m 6 #[.val (.int p1), .val (own_op p1 a1 a2 a3 a4 a5 a6 a7 a8)] [(own_op p1 a1 a2 a3 a4 a5 a6 a7 a8)]))
  refine own_st (fun tg_ kg_ => XS.iloadN X1.here hx rfl (hb hby own_d_method_3_code_6) rfl kg_) ?_
  show own_Gl p e below _ (T1.setTop (mkF m 7 #[.val (.int p1), .val (own_op p1 a1 a2 a3 a4 a5 a6 a7 a8)] [(.int p1), (own_op p1 a1 a2 a3 a4 a5 a6 a7 a8)]))
  obtain ⟨_, _, ⟨T3, L3, k3, n3⟩, -, X3, ⟨Lc3, hQ3, l3, y3, z3⟩, st3⟩ := Jvm.LawKit.callS X1 hx (y := (⟨"com/example/stackprobe/stackprobe/model/OperatorOfCodePinLaw", "expectedFor", "(I)Lcom/example/stackprobe/stackprobe/model/Operator;"⟩ : MethodName)) hown (mvT hZ (hw _ (List.mem_of_getElem? (i := 33) rfl))) (mvT hZ (hw _ (List.mem_of_getElem? (i := 34) rfl))) (mvT hZ (hw _ (List.mem_of_getElem? (i := 2) rfl))) (mvT hZ (hw _ (List.mem_of_getElem? (i := 35) rfl))) (by decide) (backOf (W := 1) (own_rm_exp l Z a0 hw [] p1 a1 a2 a3 a4 a5 a6 a7 a8 T1.heap n0 (Nat.le_trans Z0 Kc1.1) (S_a1.ext Kc1) (S_a2.ext Kc1) (S_a3.ext Kc1) (S_a4.ext Kc1) (S_a5.ext Kc1) (S_a6.ext Kc1) (S_a7.ext Kc1) (S_a8.ext Kc1)) hZ (hw _ (List.mem_of_getElem? (i := 35) rfl)) (hw _ (List.mem_of_getElem? (i := 2) rfl)) (by decide) (by decide)) (g := (mkF m 7 #[.val (.int p1), .val (own_op p1 a1 a2 a3 a4 a5 a6 a7 a8)] [(.int p1), (own_op p1 a1 a2 a3 a4 a5 a6 a7 a8)])) rfl (by rw [hml]; rfl) (argsL := [(.int p1)]) (rest := [(own_op p1 a1 a2 a3 a4 a5 a6 a7 a8)]) (lenOf own_pd1 rfl) rfl (by show 2 * 0 + _ ≤ _; simp only [List.map_cons, List.map_nil, List.sum_cons, List.sum_nil, XT.cat1 (own_opr p1 a1 a2 a3 a4 a5 a6 a7 a8)]; decide) (hb hby own_d_method_3_code_7) (fun _ _ => ⟨rfl, rfl, (by decide : 1 + 0 ≤ _), (by decide : 8 + 0 ≤ _)⟩)
  dsimp only [Pt.U, Pt.locs, Pt.cells, Pt.slots] at X3 l3 y3 z3 st3 hQ3
  subst l3 y3 z3
  obtain ⟨rfl, N3q, e3⟩ := hQ3
  have N3 := Fr.app N1 N3q
  refine own_st st3 ?_
  show own_Gl p e below _ (T3.setTop (mkF m 10 #[.val (.int p1), .val (own_op p1 a1 a2 a3 a4 a5 a6 a7 a8)] [(own_op p1 a1 a2 a3 a4 a5 a6 a7 a8), (own_op p1 a1 a2 a3 a4 a5 a6 a7 a8)]))
  refine own_st (fun tg_ kg_ => Jvm.RoadKit.acmp (g := (mkF m 10 #[.val (.int p1), .val (own_op p1 a1 a2 a3 a4 a5 a6 a7 a8)] [(own_op p1 a1 a2 a3 a4 a5 a6 a7 a8), (own_op p1 a1 a2 a3 a4 a5 a6 a7 a8)])) X3 hx rfl (own_opr p1 a1 a2 a3 a4 a5 a6 a7 a8) (own_opr p1 a1 a2 a3 a4 a5 a6 a7 a8) (pc0 := 10) (pc' := 13) (same := true) rfl (hb hby own_d_method_3_code_10) rfl (decide_eq_true (rfl)) (by decide) (by decide) kg_) ?_
  show own_Gl p e below _ (T3.setTop (mkF m 13 #[.val (.int p1), .val (own_op p1 a1 a2 a3 a4 a5 a6 a7 a8)] []))
  refine own_st (fun tg_ kg_ => XS.iconst X3.here hx rfl (hb hby own_d_method_3_code_13) kg_) ?_
  show own_Gl p e below _ (T3.setTop (mkF m 14 #[.val (.int p1), .val (own_op p1 a1 a2 a3 a4 a5 a6 a7 a8)] [(.int (1 : Int32))]))
  refine own_st (fun tg_ kg_ => XS.goto X3.here hx rfl (pc0 := 14) (pc' := 18) rfl (hb hby own_d_method_3_code_14) (by decide) (by decide) kg_) ?_
  show own_Gl p e below _ (T3.setTop (mkF m 18 #[.val (.int p1), .val (own_op p1 a1 a2 a3 a4 a5 a6 a7 a8)] [(.int (1 : Int32))]))
  exact own_retN X3 hx Bd.notSynchronized (t := .boolean) Bd.returns (by simp) (hb hby own_d_method_3_code_18) (by decide) (by decide) e3 (⟨rfl, N3, Kc1⟩)
theorem own_pd2 : parseMethodDescriptor "(I)Z" = some ⟨[.int], some .boolean⟩ := by decide +kernel
theorem own_ef_law (m : MethodId) (x0 : Int32) (x1 : Int32) : entryFrame m #[(.int x0), (.int x1)] maxLocals = mkF m 0 #[.val (.int x0), .val (.int x1), .unset, .unset, .unset] [] := by first | (simp [entryFrame, mkF, argsToLocals, Value.category, maxLocals]; done) | rfl
def own_Q_law (Z : State) (i0 i1 : Int32) (aV : Addr) (kV : ClassId) (a1 a2 a3 a4 a5 a6 a7 a8 : Addr) (h0 : Heap) (n0 : Nat) (v : Option Value) (h : Heap) (L : List Loc) : Prop := v = some (.int 1) ∧ Fr n0 L
set_option maxRecDepth 65536 in
set_option maxHeartbeats 40000000 in
theorem own_rm_law (l : Launch) (Z : State) (a0 : Array Value) (hw : ∀ d ∈ tables_1, d.before a0 Z = true) (ws : List Jvm.Cond) (i0 i1 : Int32) (aV : Addr) (kV : ClassId) (a1 a2 a3 a4 a5 a6 a7 a8 : Addr) (h0 : Heap) (n0 : Nat) (Z0 : n0 ≤ h0.size) (S_V : Sta Z h0 "com/example/stackprobe/stackprobe/model/Operator" "$VALUES" "[Lcom/example/stackprobe/stackprobe/model/Operator;" (.ref aV)) (V_aV : Arv Z h0 aV kV (.object "com/example/stackprobe/stackprobe/model/Operator") (8 : Int32) [(.ref a1), (.ref a2), (.ref a3), (.ref a4), (.ref a5), (.ref a6), (.ref a7), (.ref a8)] .null) (E_aV : Exa Z h0 aV "[Lcom/example/stackprobe/stackprobe/model/Operator;") (F_a1 : Fld Z h0 a1 "com/example/stackprobe/stackprobe/model/Operator" "code" "I" (.int 1)) (F_a2 : Fld Z h0 a2 "com/example/stackprobe/stackprobe/model/Operator" "code" "I" (.int 2)) (F_a3 : Fld Z h0 a3 "com/example/stackprobe/stackprobe/model/Operator" "code" "I" (.int 3)) (F_a4 : Fld Z h0 a4 "com/example/stackprobe/stackprobe/model/Operator" "code" "I" (.int 4)) (F_a5 : Fld Z h0 a5 "com/example/stackprobe/stackprobe/model/Operator" "code" "I" (.int 5)) (F_a6 : Fld Z h0 a6 "com/example/stackprobe/stackprobe/model/Operator" "code" "I" (.int 6)) (F_a7 : Fld Z h0 a7 "com/example/stackprobe/stackprobe/model/Operator" "code" "I" (.int 7)) (F_a8 : Fld Z h0 a8 "com/example/stackprobe/stackprobe/model/Operator" "code" "I" (.int 8)) (S_a1 : Sta Z h0 "com/example/stackprobe/stackprobe/model/Operator" "BEGIN" "Lcom/example/stackprobe/stackprobe/model/Operator;" (.ref a1)) (S_a2 : Sta Z h0 "com/example/stackprobe/stackprobe/model/Operator" "END" "Lcom/example/stackprobe/stackprobe/model/Operator;" (.ref a2)) (S_a3 : Sta Z h0 "com/example/stackprobe/stackprobe/model/Operator" "GET" "Lcom/example/stackprobe/stackprobe/model/Operator;" (.ref a3)) (S_a4 : Sta Z h0 "com/example/stackprobe/stackprobe/model/Operator" "GET_ATTRIBUTES" "Lcom/example/stackprobe/stackprobe/model/Operator;" (.ref a4)) (S_a5 : Sta Z h0 "com/example/stackprobe/stackprobe/model/Operator" "GET_RANGE" "Lcom/example/stackprobe/stackprobe/model/Operator;" (.ref a5)) (S_a6 : Sta Z h0 "com/example/stackprobe/stackprobe/model/Operator" "SET" "Lcom/example/stackprobe/stackprobe/model/Operator;" (.ref a6)) (S_a7 : Sta Z h0 "com/example/stackprobe/stackprobe/model/Operator" "CREATE" "Lcom/example/stackprobe/stackprobe/model/Operator;" (.ref a7)) (S_a8 : Sta Z h0 "com/example/stackprobe/stackprobe/model/Operator" "DELETE" "Lcom/example/stackprobe/stackprobe/model/Operator;" (.ref a8)) :
    MetFree l x (head1 (Jvm.Cond.code x code maxLocals ret :: ws) room_1) (fun aa UU => aa = #[(.int i0), (.int i1)] ∧ Z.Warmed39 UU.vm ∧ UU.heap = h0) (fun _ _ _ _ _ => True) (fun _ UU oo UU' => ∃ vv LL, oo = .returned vv ∧ own_Q_law Z i0 i1 aV kV a1 a2 a3 a4 a5 a6 a7 a8 h0 n0 vv UU'.heap LL ∧ FrameEnd UU oo UU' LL room_1.cells room_1.slots) := by
  refine MetFree.of_bodySF (plainFor_of_name own_pn1) hisR ?_
  intro p e s m args below meth c s₁ Bd hml0 hP hK
  obtain ⟨rfl, hZ, hh⟩ := hP
  have hx := Bd.exec
  have hby := Bd.bytes
  have hml : c.maxLocals = 5 := hml0
  have hown : s.vm.findClass "com/example/stackprobe/stackprobe/model/OperatorOfCodePinLaw" = some m.cls := findClass_of_methodNamed Bd.named
  have hnm := (name_of_methodNamed Bd.named Bd.method).1
  have X0 : Stand p l e room_1 s m #[(.int i0), (.int i1)] below meth c s₁ [] 0 0 := Stand.of_body Bd
  have e0 : s₁.heap = h0 := by rw [← hh, Bd.state]; rfl
  have N0 := Fr.nil n0
  show own_Gl p e below (own_Post s (own_Q_law Z i0 i1 aV kV a1 a2 a3 a4 a5 a6 a7 a8 h0 n0) room_1.cells room_1.slots) _
  refine own_st (fun tg_ kg_ => castTop (own_ef_law m i0 i1) kg_) ?_
  show own_Gl p e below _ (s₁.setTop (mkF m 0 #[.val (.int i0), .val (.int i1), .unset, .unset, .unset] []))
  refine own_st (fun tg_ kg_ => XS.iloadN X0.here hx rfl (hb hby at_0) rfl kg_) ?_
  show own_Gl p e below _ (s₁.setTop (mkF m 1 #[.val (.int i0), .val (.int i1), .unset, .unset, .unset] [(.int i1)]))
  refine own_st (fun tg_ kg_ => XS.bipush X0.here hx rfl (hb hby at_1) kg_) ?_
  show own_Gl p e below _ (s₁.setTop (mkF m 3 #[.val (.int i0), .val (.int i1), .unset, .unset, .unset] [(.int (15 : Int32)), (.int i1)]))
  refine own_st (fun tg_ kg_ => XS.iand X0.here hx rfl (hb hby at_3) rfl kg_) ?_
  show own_Gl p e below _ (s₁.setTop (mkF m 4 #[.val (.int i0), .val (.int i1), .unset, .unset, .unset] [(.int (i1 &&& (15 : Int32)))]))
  refine own_st (fun tg_ kg_ => XS.iconst X0.here hx rfl (hb hby at_4) kg_) ?_
  show own_Gl p e below _ (s₁.setTop (mkF m 5 #[.val (.int i0), .val (.int i1), .unset, .unset, .unset] [(.int (4 : Int32)), (.int (i1 &&& (15 : Int32)))]))
  refine own_st (fun tg_ kg_ => XS.isub X0.here hx rfl (hb hby at_5) rfl kg_) ?_
  show own_Gl p e below _ (s₁.setTop (mkF m 6 #[.val (.int i0), .val (.int i1), .unset, .unset, .unset] [(.int ((i1 &&& (15 : Int32)) - (4 : Int32)))]))
  refine own_st (fun tg_ kg_ => XS.istoreN X0.here hx rfl (hb hby at_6) rfl (l' := #[.val (.int i0), .val (.int i1), .val (.int ((i1 &&& (15 : Int32)) - (4 : Int32))), .unset, .unset]) rfl kg_) ?_
  show own_Gl p e below _ (s₁.setTop (mkF m 7 #[.val (.int i0), .val (.int i1), .val (.int ((i1 &&& (15 : Int32)) - (4 : Int32))), .unset, .unset] []))
  refine own_st (fun tg_ kg_ => XS.iloadN X0.here hx rfl (hb hby at_7) rfl kg_) ?_
  show own_Gl p e below _ (s₁.setTop (mkF m 8 #[.val (.int i0), .val (.int i1), .val (.int ((i1 &&& (15 : Int32)) - (4 : Int32))), .unset, .unset] [(.int i0)]))
  obtain ⟨_, _, ⟨T1, L1, k1, n1⟩, -, X1, ⟨Lc1, hQ1, l1, y1, z1⟩, st1⟩ := Jvm.LawKit.callS X0 hx (y := (⟨"com/example/stackprobe/stackprobe/model/OperatorOfCodePinLaw", "check", "(I)Z"⟩ : MethodName)) hown (mvT hZ (hw _ (List.mem_of_getElem? (i := 0) rfl))) (mvT hZ (hw _ (List.mem_of_getElem? (i := 1) rfl))) (mvT hZ (hw _ (List.mem_of_getElem? (i := 2) rfl))) (mvT hZ (hw _ (List.mem_of_getElem? (i := 3) rfl))) (by decide) (backOf (W := 0) (own_rm_chk l Z a0 hw [] i0 aV kV a1 a2 a3 a4 a5 a6 a7 a8 h0 n0 Z0 S_V V_aV E_aV F_a1 F_a2 F_a3 F_a4 F_a5 F_a6 F_a7 F_a8 S_a1 S_a2 S_a3 S_a4 S_a5 S_a6 S_a7 S_a8) hZ (hw _ (List.mem_of_getElem? (i := 3) rfl)) (hw _ (List.mem_of_getElem? (i := 2) rfl)) (by decide) (by decide)) (g := (mkF m 8 #[.val (.int i0), .val (.int i1), .val (.int ((i1 &&& (15 : Int32)) - (4 : Int32))), .unset, .unset] [(.int i0)])) rfl (by rw [hml]; rfl) (argsL := [(.int i0)]) (rest := []) (lenOf own_pd2 rfl) rfl (by show 2 * 0 + _ ≤ _; exact Nat.le_of_eq rfl) (hb hby at_8) (fun _ _ => ⟨rfl, e0, (by decide : 0 + 1 ≤ _), (by decide : 0 + 8 ≤ _)⟩)
  dsimp only [Pt.U, Pt.locs, Pt.cells, Pt.slots] at X1 l1 y1 z1 st1 hQ1
  subst l1 y1 z1
  obtain ⟨rfl, N1q, Kc1⟩ := hQ1
  have N1 := Fr.app N0 N1q
  refine own_st st1 ?_
  show own_Gl p e below _ (T1.setTop (mkF m 11 #[.val (.int i0), .val (.int i1), .val (.int ((i1 &&& (15 : Int32)) - (4 : Int32))), .unset, .unset] [(.int (1 : Int32))]))
  refine own_st (fun tg_ kg_ => XS.istoreN X1.here hx rfl (hb hby at_11) rfl (l' := #[.val (.int i0), .val (.int i1), .val (.int ((i1 &&& (15 : Int32)) - (4 : Int32))), .val (.int (1 : Int32)), .unset]) rfl kg_) ?_
  show own_Gl p e below _ (T1.setTop (mkF m 12 #[.val (.int i0), .val (.int i1), .val (.int ((i1 &&& (15 : Int32)) - (4 : Int32))), .val (.int (1 : Int32)), .unset] []))
  refine own_st (fun tg_ kg_ => XS.iloadN X1.here hx rfl (hb hby at_12) rfl kg_) ?_
  show own_Gl p e below _ (T1.setTop (mkF m 13 #[.val (.int i0), .val (.int i1), .val (.int ((i1 &&& (15 : Int32)) - (4 : Int32))), .val (.int (1 : Int32)), .unset] [(.int ((i1 &&& (15 : Int32)) - (4 : Int32)))]))
  obtain ⟨_, _, ⟨T3, L3, k3, n3⟩, -, X3, ⟨Lc3, hQ3, l3, y3, z3⟩, st3⟩ := Jvm.LawKit.callS X1 hx (y := (⟨"com/example/stackprobe/stackprobe/model/OperatorOfCodePinLaw", "check", "(I)Z"⟩ : MethodName)) hown (mvT hZ (hw _ (List.mem_of_getElem? (i := 0) rfl))) (mvT hZ (hw _ (List.mem_of_getElem? (i := 1) rfl))) (mvT hZ (hw _ (List.mem_of_getElem? (i := 2) rfl))) (mvT hZ (hw _ (List.mem_of_getElem? (i := 3) rfl))) (by decide) (backOf (W := 0) (own_rm_chk l Z a0 hw [] ((i1 &&& (15 : Int32)) - (4 : Int32)) aV kV a1 a2 a3 a4 a5 a6 a7 a8 T1.heap n0 (Nat.le_trans Z0 Kc1.1) (S_V.ext Kc1) (V_aV.ext Kc1) (E_aV.ext Kc1) (F_a1.ext Kc1) (F_a2.ext Kc1) (F_a3.ext Kc1) (F_a4.ext Kc1) (F_a5.ext Kc1) (F_a6.ext Kc1) (F_a7.ext Kc1) (F_a8.ext Kc1) (S_a1.ext Kc1) (S_a2.ext Kc1) (S_a3.ext Kc1) (S_a4.ext Kc1) (S_a5.ext Kc1) (S_a6.ext Kc1) (S_a7.ext Kc1) (S_a8.ext Kc1)) hZ (hw _ (List.mem_of_getElem? (i := 3) rfl)) (hw _ (List.mem_of_getElem? (i := 2) rfl)) (by decide) (by decide)) (g := (mkF m 13 #[.val (.int i0), .val (.int i1), .val (.int ((i1 &&& (15 : Int32)) - (4 : Int32))), .val (.int (1 : Int32)), .unset] [(.int ((i1 &&& (15 : Int32)) - (4 : Int32)))])) rfl (by rw [hml]; rfl) (argsL := [(.int ((i1 &&& (15 : Int32)) - (4 : Int32)))]) (rest := []) (lenOf own_pd2 rfl) rfl (by show 2 * 0 + _ ≤ _; exact Nat.le_of_eq rfl) (hb hby at_13) (fun _ _ => ⟨rfl, rfl, (by decide : 1 + 1 ≤ _), (by decide : 8 + 8 ≤ _)⟩)
  dsimp only [Pt.U, Pt.locs, Pt.cells, Pt.slots] at X3 l3 y3 z3 st3 hQ3
  subst l3 y3 z3
  obtain ⟨rfl, N3q, Kc3⟩ := hQ3
  have N3 := Fr.app N1 N3q
  refine own_st st3 ?_
  have K4 := own_ext_tr Kc1 Kc3
  show own_Gl p e below _ (T3.setTop (mkF m 16 #[.val (.int i0), .val (.int i1), .val (.int ((i1 &&& (15 : Int32)) - (4 : Int32))), .val (.int (1 : Int32)), .unset] [(.int (1 : Int32))]))
  refine own_st (fun tg_ kg_ => XS.istore X3.here hx rfl (hb hby at_16) rfl (l' := #[.val (.int i0), .val (.int i1), .val (.int ((i1 &&& (15 : Int32)) - (4 : Int32))), .val (.int (1 : Int32)), .val (.int (1 : Int32))]) rfl kg_) ?_
  show own_Gl p e below _ (T3.setTop (mkF m 18 #[.val (.int i0), .val (.int i1), .val (.int ((i1 &&& (15 : Int32)) - (4 : Int32))), .val (.int (1 : Int32)), .val (.int (1 : Int32))] []))
  refine own_st (fun tg_ kg_ => XS.iloadN X3.here hx rfl (hb hby at_18) rfl kg_) ?_
  show own_Gl p e below _ (T3.setTop (mkF m 19 #[.val (.int i0), .val (.int i1), .val (.int ((i1 &&& (15 : Int32)) - (4 : Int32))), .val (.int (1 : Int32)), .val (.int (1 : Int32))] [(.int (1 : Int32))]))
  refine own_st (fun tg_ kg_ => XS.ifNo X3.here hx rfl (hb hby at_19) rfl ((if0 _ _).trans (feq ((by decide : ¬ ((1 : Int32) = (0 : Int32))))).1) kg_) ?_
  show own_Gl p e below _ (T3.setTop (mkF m 22 #[.val (.int i0), .val (.int i1), .val (.int ((i1 &&& (15 : Int32)) - (4 : Int32))), .val (.int (1 : Int32)), .val (.int (1 : Int32))] []))
  refine own_st (fun tg_ kg_ => XS.iload X3.here hx rfl (hb hby at_22) rfl kg_) ?_
  show own_Gl p e below _ (T3.setTop (mkF m 24 #[.val (.int i0), .val (.int i1), .val (.int ((i1 &&& (15 : Int32)) - (4 : Int32))), .val (.int (1 : Int32)), .val (.int (1 : Int32))] [(.int (1 : Int32))]))
  refine own_st (fun tg_ kg_ => XS.ifNo X3.here hx rfl (hb hby at_24) rfl ((if0 _ _).trans (feq ((by decide : ¬ ((1 : Int32) = (0 : Int32))))).1) kg_) ?_
  show own_Gl p e below _ (T3.setTop (mkF m 27 #[.val (.int i0), .val (.int i1), .val (.int ((i1 &&& (15 : Int32)) - (4 : Int32))), .val (.int (1 : Int32)), .val (.int (1 : Int32))] []))
  refine own_st (fun tg_ kg_ => XS.iconst X3.here hx rfl (hb hby at_27) kg_) ?_
  show own_Gl p e below _ (T3.setTop (mkF m 28 #[.val (.int i0), .val (.int i1), .val (.int ((i1 &&& (15 : Int32)) - (4 : Int32))), .val (.int (1 : Int32)), .val (.int (1 : Int32))] [(.int (1 : Int32))]))
  refine own_st (fun tg_ kg_ => XS.goto X3.here hx rfl (pc0 := 28) (pc' := 32) rfl (hb hby at_28) (by decide) (by decide) kg_) ?_
  show own_Gl p e below _ (T3.setTop (mkF m 32 #[.val (.int i0), .val (.int i1), .val (.int ((i1 &&& (15 : Int32)) - (4 : Int32))), .val (.int (1 : Int32)), .val (.int (1 : Int32))] [(.int (1 : Int32))]))
  exact own_retN X3 hx Bd.notSynchronized (t := .boolean) Bd.returns (by simp) (hb hby at_32) (by decide) (by decide) rfl (⟨rfl, N3⟩)
set_option maxRecDepth 65536 in
set_option maxHeartbeats 40000000 in
theorem comes_1 {Post : Tables → Env → Array Value → State → Outcome → State → Prop} (hpost : ∀ tb e args s v u, (limb_1_1.after args s (.returned v) u = true ∧ limb_1_2.after args s (.returned v) u = true ∧ True) → FrameEnd s (.returned v) u (Jvm.fieldLocs frame_1_writes args s ++ Jvm.arrayLocs frame_1_arrays args s ++ Jvm.staticLocs frame_1_statics s) 16 128 → Post tb e args s (.returned v) u) :
    ArmFor flags0 classFile x code maxLocals ret World_1 tables_1 room_1 Calls_1 rest_1 Pre_1 Post := by
  intro l hfl _ _ p e ha hc hk s m args below hf hA hF happ hP
  obtain ⟨hcalls, hrest, hpre⟩ := hP
  obtain ⟨-, -, -, hnamed, -, -, -, hat⟩ := (Spec.applies_iff hf).mp happ
  obtain ⟨hg, hn⟩ := and_e (Cond.before_iff.mp (show (Jvm.Cond.and given_1 narrow_1).before args s = true from hpre))
  obtain ⟨g0a, g0b⟩ := and_e hg
  obtain ⟨g1a, g1b⟩ := and_e g0b
  obtain ⟨w0, w1, rfl⟩ : ∃ w0 w1 : Value, args = #[w0, w1] := by
    have hs : args.size = 2 := by simpa [Cond.value, given_1] using g0a
    obtain ⟨L⟩ := args
    match L, hs with
    | [w0, w1], _ => exact ⟨w0, w1, rfl⟩
  have hw := fun d (hd : d ∈ tables_1) => atoms_spec (ws := Jvm.Cond.code x code maxLocals ret :: tables_1) hat d (List.mem_cons_of_mem _ hd)
  have hfit : Fit s := fun {y c} hc i hi => by
    obtain ⟨ha, rfl⟩ := Array.getElem?_eq_some_iff.mp hc
    have q := List.all_eq_true.mp ((Array.all_eq_true_iff_forall_mem.mp hF) _ (Array.getElem_mem ha)) i (List.mem_range.mpr hi)
    simpa [Array.getElem?_eq_getElem hi] using q
  obtain ⟨i0, ei0⟩ := is_v g1a
  obtain rfl : w0 = (.int i0) := Option.some.inj ei0
  obtain ⟨i1, ei1⟩ := is_v g1b
  obtain rfl : w1 = (.int i1) := Option.some.inj ei1
  obtain ⟨w_0a, w_0b⟩ := and_e hn
  obtain ⟨w_1a, w_1b⟩ := and_e w_0b
  obtain ⟨w_2a, w_2b⟩ := and_e w_1b
  obtain ⟨w_3a, w_3b⟩ := and_e w_2b
  obtain ⟨w_4a, w_4b⟩ := and_e w_3b
  obtain ⟨w_5a, w_5b⟩ := and_e w_4b
  obtain ⟨w_6a, w_6b⟩ := and_e w_5b
  obtain ⟨w_7a, w_7b⟩ := and_e w_6b
  obtain ⟨w_8a, w_8b⟩ := and_e w_7b
  obtain ⟨w_9a, w_9b⟩ := and_e w_8b
  obtain ⟨w_10a, w_10b⟩ := and_e w_9b
  obtain ⟨w_11a, w_11b⟩ := and_e w_10b
  obtain ⟨w_12a, w_12b⟩ := and_e w_11b
  obtain ⟨w_13a, w_13b⟩ := and_e w_12b
  obtain ⟨w_14a, w_14b⟩ := and_e w_13b
  obtain ⟨w_15a, w_15b⟩ := and_e w_14b
  obtain ⟨w_16a, w_16b⟩ := and_e w_15b
  obtain ⟨w_17a, w_17b⟩ := and_e w_16b
  obtain ⟨w_18a, w_18b⟩ := and_e w_17b
  obtain ⟨w_19a, w_19b⟩ := and_e w_18b
  obtain ⟨w_20a, w_20b⟩ := and_e w_19b
  obtain ⟨w_21a, w_21b⟩ := and_e w_20b
  obtain ⟨w_22a, w_22b⟩ := and_e w_21b
  obtain ⟨w_23a, w_23b⟩ := and_e w_22b
  obtain ⟨w_24a, w_24b⟩ := and_e w_23b
  obtain ⟨w_25a, w_25b⟩ := and_e w_24b
  obtain ⟨aV, ev_V⟩ := exa_v w_1a
  have S_V := Sta.start ev_V (Or.inr ⟨(hw _ (List.mem_of_getElem? (i := 6) rfl)), (hw _ (List.mem_of_getElem? (i := 12) rfl))⟩)
  have E_aV := Exa.start ev_V w_1a
  obtain ⟨c_V, A_V⟩ := Arr.start ev_V w_0a
  obtain ⟨l_V, m_V⟩ := own_len ev_V A_V w_2a
  obtain ⟨a1, ev_a1⟩ := exa_v w_3a
  have S_a1 := Sta.start ev_a1 (Or.inr ⟨(hw _ (List.mem_of_getElem? (i := 6) rfl)), (hw _ (List.mem_of_getElem? (i := 20) rfl))⟩)
  have F_a1 := own_fldI ev_a1 w_19a
  obtain ⟨a2, ev_a2⟩ := exa_v w_5a
  have S_a2 := Sta.start ev_a2 (Or.inr ⟨(hw _ (List.mem_of_getElem? (i := 6) rfl)), (hw _ (List.mem_of_getElem? (i := 21) rfl))⟩)
  have F_a2 := own_fldI ev_a2 w_20a
  obtain ⟨a3, ev_a3⟩ := exa_v w_7a
  have S_a3 := Sta.start ev_a3 (Or.inr ⟨(hw _ (List.mem_of_getElem? (i := 6) rfl)), (hw _ (List.mem_of_getElem? (i := 22) rfl))⟩)
  have F_a3 := own_fldI ev_a3 w_21a
  obtain ⟨a4, ev_a4⟩ := exa_v w_9a
  have S_a4 := Sta.start ev_a4 (Or.inr ⟨(hw _ (List.mem_of_getElem? (i := 6) rfl)), (hw _ (List.mem_of_getElem? (i := 23) rfl))⟩)
  have F_a4 := own_fldI ev_a4 w_22a
  obtain ⟨a5, ev_a5⟩ := exa_v w_11a
  have S_a5 := Sta.start ev_a5 (Or.inr ⟨(hw _ (List.mem_of_getElem? (i := 6) rfl)), (hw _ (List.mem_of_getElem? (i := 24) rfl))⟩)
  have F_a5 := own_fldI ev_a5 w_23a
  obtain ⟨a6, ev_a6⟩ := exa_v w_13a
  have S_a6 := Sta.start ev_a6 (Or.inr ⟨(hw _ (List.mem_of_getElem? (i := 6) rfl)), (hw _ (List.mem_of_getElem? (i := 25) rfl))⟩)
  have F_a6 := own_fldI ev_a6 w_24a
  obtain ⟨a7, ev_a7⟩ := exa_v w_15a
  have S_a7 := Sta.start ev_a7 (Or.inr ⟨(hw _ (List.mem_of_getElem? (i := 6) rfl)), (hw _ (List.mem_of_getElem? (i := 26) rfl))⟩)
  have F_a7 := own_fldI ev_a7 w_25a
  obtain ⟨a8, ev_a8⟩ := exa_v w_17a
  have S_a8 := Sta.start ev_a8 (Or.inr ⟨(hw _ (List.mem_of_getElem? (i := 6) rfl)), (hw _ (List.mem_of_getElem? (i := 27) rfl))⟩)
  have F_a8 := own_fldI ev_a8 w_25b
  have V_aV : Arv s s.heap aV c_V.cls (.object "com/example/stackprobe/stackprobe/model/Operator") (8 : Int32) [(.ref a1), (.ref a2), (.ref a3), (.ref a4), (.ref a5), (.ref a6), (.ref a7), (.ref a8)] .null := Arv.start hfit A_V l_V m_V (by decide) rfl ⟨own_elemR ev_V A_V ev_a1 w_4a, own_elemR ev_V A_V ev_a2 w_6a, own_elemR ev_V A_V ev_a3 w_8a, own_elemR ev_V A_V ev_a4 w_10a, own_elemR ev_V A_V ev_a5 w_12a, own_elemR ev_V A_V ev_a6 w_14a, own_elemR ev_V A_V ev_a7 w_16a, own_elemR ev_V A_V ev_a8 w_18a, trivial⟩
  obtain ⟨n, o, h1, h2, h3, _, L, rfl, ⟨rfl, N⟩, hq⟩ := own_rm_law l s _ hw tables_1 i0 i1 aV c_V.cls a1 a2 a3 a4 a5 a6 a7 a8 s.heap s.heap.size (Nat.le_refl _) S_V V_aV E_aV F_a1 F_a2 F_a3 F_a4 F_a5 F_a6 F_a7 F_a8 S_a1 S_a2 S_a3 S_a4 S_a5 S_a6 S_a7 S_a8 p e ha hc hk s m _ below hf ((Spec.applies_iff_loose hf).mp happ).1 ⟨rfl, State.Warmed39.refl s, rfl⟩ trivial
  refine ⟨n, _, h1, h2, h3, hpost _ _ _ _ _ _ ⟨Cond.after_iff.mpr rfl, Cond.after_iff.mpr (eq_i res_at (Term.int_eval (1)) rfl), trivial⟩ ⟨hq.1, hq.2.1, (hq.2.2.sift fun y hy => Or.inr (N y hy)).mono (by decide) (by decide)⟩⟩
theorem main_1_1 : Claimed_1_1 := comes_1 fun _ _ _ _ _ _ h hF => ⟨h.1, hF⟩
theorem main_1_2 : Claimed_1_2 := comes_1 fun _ _ _ _ _ _ h hF => ⟨h.2.1, hF⟩
end Jvm.Pilot.@@N@@
namespace Jvm.Pilot.@@N@@
open Jvm Jvm.ClassFile Sem Op Lib Jvm.Free Jvm.Stand Jvm.Pilot.@@N@@.Jvm.D
/-! MADE BY PROGRAM (witnessworld.py) out of the Statement's table words and the real class files: 13 classes; the members and pool entries that the words name. The judged class is class 1, her method 1. -/
namespace start1
open Jvm.ClassFile
def u (s : String) : CpInfo := .utf8 (stringToUtf16 s)
/-- a pool by its gaps: so many unusable entries, then the entry; so many at the end -/
def gap : Nat → List CpInfo → List CpInfo
  | 0, r => r
  | n + 1, r => .unusable :: gap n r
def poolList (es : List (Nat × CpInfo)) (last : Nat) : List CpInfo := es.foldr (fun e r => gap e.1 (e.2 :: r)) (gap last [])
def pool (es : List (Nat × CpInfo)) (last : Nat) : Array CpInfo := ⟨poolList es last⟩
def fileOf (pool : Array CpInfo) (this : Nat) (attrs : Array Attribute := #[]) (ms : Array MethodInfo := #[]) (fl : Nat := 33) (sup : Nat := 0) (ifs : Array Nat := #[]) (fds : Array FieldInfo := #[]) : ClassFile where
  minorVersion := 0
  majorVersion := 65
  constantPool := pool
  accessFlags := fl
  thisClass := this
  superClass := sup
  interfaces := ifs
  fields := fds
  methods := ms
  attributes := attrs
def plain (name : String) (sup : Option ClassId) : Class where
  name := name
  kind := .ordinary
  loader := none
  accessFlags := 33
  super := sup
  interfaces := #[]
  cf := none
  fields := #[]
  methods := #[]
  instanceTypes := #[]
  staticTypes := #[]
  resolved := #[]
  callSites := []
  init := .initialized
  statics := none
  mirror := none

def pool0 : Array CpInfo := pool [(5, u "<init>"), (0, u "()V"), (1, .class_ 10), (1, u "java/lang/Object"), (85, u "clone"), (0, u "()Ljava/lang/Object;")] 26

def k0m0 : Method := { name := "<init>", desc := "()V", sig := { parameters := [], returnType := none }, accessFlags := 1, code := none }
def k0m1 : Method := { name := "clone", desc := "()Ljava/lang/Object;", sig := { parameters := [], returnType := some (.object "java/lang/Object") }, accessFlags := 260, code := none }
/-- java/lang/Object -/
def k0 : Class := { plain "java/lang/Object" none with
  accessFlags := 33
  interfaces := #[]
  cf := some (fileOf pool0 8 #[] #[{ accessFlags := 1, nameIndex := 5, descriptorIndex := 6, attributes := #[] }, { accessFlags := 260, nameIndex := 96, descriptorIndex := 97, attributes := #[] }] 33 0 #[] #[])
  fields := #[]
  methods := #[k0m0, k0m1]
  instanceTypes := #[]
  staticTypes := #[]
  resolved := Array.replicate 124 none
  statics := none }

def pool1 : Array CpInfo := pool [(2, .class_ 4), (1, u "java/lang/Object"), (0, u "<init>"), (0, u "()V"), (0, .methodref 8 9), (0, .class_ 10), (0, .nameAndType 11 12), (0, u "com/example/stackprobe/stackprobe/model/OperatorOfCodePinLaw"), (0, u "check"), (0, u "(I)Z"), (0, .methodref 14 15), (0, .class_ 16), (0, .nameAndType 17 18), (0, u "com/example/stackprobe/stackprobe/model/Operator"), (0, u "ofCode"), (0, u "(I)Lcom/example/stackprobe/stackprobe/model/Operator;"), (0, .methodref 8 20), (0, .nameAndType 21 18), (0, u "expectedFor"), (0, .fieldref 14 23), (0, .nameAndType 24 25), (0, u "BEGIN"), (0, u "Lcom/example/stackprobe/stackprobe/model/Operator;"), (0, .fieldref 14 27), (0, .nameAndType 28 25), (0, u "END"), (0, .fieldref 14 30), (0, .nameAndType 31 25), (0, u "GET"), (0, .fieldref 14 33), (0, .nameAndType 34 25), (0, u "GET_ATTRIBUTES"), (0, .fieldref 14 36), (0, .nameAndType 37 25), (0, u "GET_RANGE"), (0, .fieldref 14 39), (0, .nameAndType 40 25), (0, u "SET"), (0, .fieldref 14 42), (0, .nameAndType 43 25), (0, u "CREATE"), (0, .fieldref 14 45), (0, .nameAndType 46 25), (0, u "DELETE"), (2, u "law"), (0, u "(II)Z")] 3

def k1m0 : Method := { name := "<init>", desc := "()V", sig := { parameters := [], returnType := none }, accessFlags := 1, code := none }
def k1c1 : Code := { maxStack := 2, maxLocals := 5, code := code, exceptionTable := #[], attributes := #[] }
def k1m1 : Method := { name := "law", desc := "(II)Z", sig := { parameters := [.int, .int], returnType := some .boolean }, accessFlags := 9, code := some k1c1 }
def k1c2 : Code := { maxStack := 2, maxLocals := 2, code := method_3_code, exceptionTable := #[], attributes := #[] }
def k1m2 : Method := { name := "check", desc := "(I)Z", sig := { parameters := [.int], returnType := some .boolean }, accessFlags := 10, code := some k1c2 }
def k1c3 : Code := { maxStack := 2, maxLocals := 1, code := method_4_code, exceptionTable := #[], attributes := #[] }
def k1m3 : Method := { name := "expectedFor", desc := "(I)Lcom/example/stackprobe/stackprobe/model/Operator;", sig := { parameters := [.int], returnType := some (.object "com/example/stackprobe/stackprobe/model/Operator") }, accessFlags := 10, code := some k1c3 }
/-- com/example/stackprobe/stackprobe/model/OperatorOfCodePinLaw -/
def k1 : Class := { plain "com/example/stackprobe/stackprobe/model/OperatorOfCodePinLaw" (some 0) with
  accessFlags := 49
  interfaces := #[]
  cf := some (fileOf pool1 8 #[] #[{ accessFlags := 1, nameIndex := 5, descriptorIndex := 6, attributes := #[] }, { accessFlags := 9, nameIndex := 49, descriptorIndex := 50, attributes := #[] }, { accessFlags := 10, nameIndex := 11, descriptorIndex := 12, attributes := #[] }, { accessFlags := 10, nameIndex := 21, descriptorIndex := 18, attributes := #[] }] 49 2 #[] #[])
  fields := #[]
  methods := #[k1m0, k1m1, k1m2, k1m3]
  instanceTypes := #[]
  staticTypes := #[]
  resolved := Array.replicate 54 none
  statics := none }

def pool2 : Array CpInfo := pool [(1, .class_ 2), (0, u "java/lang/constant/Constable"), (0, .class_ 4), (0, u "java/lang/Object")] 6

/-- java/lang/constant/Constable -/
def k2 : Class := { plain "java/lang/constant/Constable" (some 0) with
  accessFlags := 1537
  interfaces := #[]
  cf := some (fileOf pool2 1 #[] #[] 1537 3 #[] #[])
  fields := #[]
  methods := #[]
  instanceTypes := #[]
  staticTypes := #[]
  resolved := Array.replicate 11 none
  statics := none }

def pool3 : Array CpInfo := pool [(1, .class_ 2), (0, u "java/lang/Comparable"), (0, .class_ 4), (0, u "java/lang/Object")] 7

/-- java/lang/Comparable -/
def k3 : Class := { plain "java/lang/Comparable" (some 0) with
  accessFlags := 1537
  interfaces := #[]
  cf := some (fileOf pool3 1 #[] #[] 1537 3 #[] #[])
  fields := #[]
  methods := #[]
  instanceTypes := #[]
  staticTypes := #[]
  resolved := Array.replicate 12 none
  statics := none }

def pool4 : Array CpInfo := pool [(1, .class_ 2), (0, u "java/io/Serializable"), (0, .class_ 4), (0, u "java/lang/Object")] 2

/-- java/io/Serializable -/
def k4 : Class := { plain "java/io/Serializable" (some 0) with
  accessFlags := 1537
  interfaces := #[]
  cf := some (fileOf pool4 1 #[] #[] 1537 3 #[] #[])
  fields := #[]
  methods := #[]
  instanceTypes := #[]
  staticTypes := #[]
  resolved := Array.replicate 7 none
  statics := none }

def pool5 : Array CpInfo := pool [(2, .class_ 4), (1, u "java/lang/Enum"), (0, u "name"), (0, u "Ljava/lang/String;"), (2, u "ordinal"), (0, u "I"), (1, .class_ 14), (1, u "java/lang/Object"), (4, u "hash"), (86, .class_ 108), (1, u "java/lang/Enum$EnumDesc"), (2, .class_ 112), (0, u "java/lang/constant/Constable"), (0, .class_ 114), (0, u "java/lang/Comparable"), (0, .class_ 116), (0, u "java/io/Serializable")] 87

/-- java/lang/Enum -/
def k5 : Class := { plain "java/lang/Enum" (some 0) with
  accessFlags := 1057
  interfaces := #[2, 3, 4]
  cf := some (fileOf pool5 2 #[.nestMembers #[106]] #[] 1057 12 #[111, 113, 115] #[{ accessFlags := 18, nameIndex := 5, descriptorIndex := 6, attributes := #[] }, { accessFlags := 18, nameIndex := 9, descriptorIndex := 10, attributes := #[] }, { accessFlags := 2, nameIndex := 19, descriptorIndex := 10, attributes := #[] }])
  fields := #[{ name := "name", type := (.object "java/lang/String"), accessFlags := 18, slot := 0, constantValue := 0 }, { name := "ordinal", type := .int, accessFlags := 18, slot := 1, constantValue := 0 }, { name := "hash", type := .int, accessFlags := 2, slot := 2, constantValue := 0 }]
  methods := #[]
  instanceTypes := #[(.object "java/lang/String"), .int, .int]
  staticTypes := #[]
  resolved := Array.replicate 204 none
  statics := none }

def pool6 : Array CpInfo := pool [(1, .class_ 2), (0, u "com/example/stackprobe/stackprobe/model/Operator"), (2, u "BEGIN"), (0, u "Lcom/example/stackprobe/stackprobe/model/Operator;"), (2, u "END"), (2, u "GET"), (2, u "GET_ATTRIBUTES"), (2, u "GET_RANGE"), (2, u "SET"), (2, u "CREATE"), (2, u "DELETE"), (0, .fieldref 1 29), (0, .nameAndType 30 31), (0, u "$VALUES"), (0, u "[Lcom/example/stackprobe/stackprobe/model/Operator;"), (0, .methodref 33 34), (0, .class_ 31), (0, .nameAndType 35 36), (0, u "clone"), (0, u "()Ljava/lang/Object;"), (1, .class_ 40), (1, u "java/lang/Enum"), (6, .fieldref 1 48), (0, .nameAndType 49 50), (0, u "code"), (0, u "I"), (2, u "word"), (0, u "Ljava/lang/String;"), (46, u "ofCode"), (0, u "(I)Lcom/example/stackprobe/stackprobe/model/Operator;"), (0, .methodref 1 104), (0, .nameAndType 105 106), (0, u "values"), (0, u "()[Lcom/example/stackprobe/stackprobe/model/Operator;")] 41

def k6c0 : Code := { maxStack := 1, maxLocals := 0, code := prog_35_method_1_code, exceptionTable := #[], attributes := #[] }
def k6m0 : Method := { name := "values", desc := "()[Lcom/example/stackprobe/stackprobe/model/Operator;", sig := { parameters := [], returnType := some (.array (.object "com/example/stackprobe/stackprobe/model/Operator")) }, accessFlags := 9, code := some k6c0 }
def k6c1 : Code := { maxStack := 2, maxLocals := 5, code := prog_35_method_8_code, exceptionTable := #[], attributes := #[] }
def k6m1 : Method := { name := "ofCode", desc := "(I)Lcom/example/stackprobe/stackprobe/model/Operator;", sig := { parameters := [.int], returnType := some (.object "com/example/stackprobe/stackprobe/model/Operator") }, accessFlags := 9, code := some k6c1 }
/-- com/example/stackprobe/stackprobe/model/Operator -/
def k6 : Class := { plain "com/example/stackprobe/stackprobe/model/Operator" (some 5) with
  accessFlags := 16433
  interfaces := #[]
  cf := some (fileOf pool6 1 #[] #[{ accessFlags := 9, nameIndex := 105, descriptorIndex := 106, attributes := #[] }, { accessFlags := 9, nameIndex := 101, descriptorIndex := 102, attributes := #[] }] 16433 38 #[] #[{ accessFlags := 16409, nameIndex := 5, descriptorIndex := 6, attributes := #[] }, { accessFlags := 16409, nameIndex := 9, descriptorIndex := 6, attributes := #[] }, { accessFlags := 16409, nameIndex := 12, descriptorIndex := 6, attributes := #[] }, { accessFlags := 16409, nameIndex := 15, descriptorIndex := 6, attributes := #[] }, { accessFlags := 16409, nameIndex := 18, descriptorIndex := 6, attributes := #[] }, { accessFlags := 16409, nameIndex := 21, descriptorIndex := 6, attributes := #[] }, { accessFlags := 16409, nameIndex := 24, descriptorIndex := 6, attributes := #[] }, { accessFlags := 16409, nameIndex := 27, descriptorIndex := 6, attributes := #[] }, { accessFlags := 18, nameIndex := 49, descriptorIndex := 50, attributes := #[] }, { accessFlags := 18, nameIndex := 53, descriptorIndex := 54, attributes := #[] }, { accessFlags := 4122, nameIndex := 30, descriptorIndex := 31, attributes := #[] }])
  fields := #[{ name := "BEGIN", type := (.object "com/example/stackprobe/stackprobe/model/Operator"), accessFlags := 16409, slot := 0, constantValue := 0 }, { name := "END", type := (.object "com/example/stackprobe/stackprobe/model/Operator"), accessFlags := 16409, slot := 1, constantValue := 0 }, { name := "GET", type := (.object "com/example/stackprobe/stackprobe/model/Operator"), accessFlags := 16409, slot := 2, constantValue := 0 }, { name := "GET_ATTRIBUTES", type := (.object "com/example/stackprobe/stackprobe/model/Operator"), accessFlags := 16409, slot := 3, constantValue := 0 }, { name := "GET_RANGE", type := (.object "com/example/stackprobe/stackprobe/model/Operator"), accessFlags := 16409, slot := 4, constantValue := 0 }, { name := "SET", type := (.object "com/example/stackprobe/stackprobe/model/Operator"), accessFlags := 16409, slot := 5, constantValue := 0 }, { name := "CREATE", type := (.object "com/example/stackprobe/stackprobe/model/Operator"), accessFlags := 16409, slot := 6, constantValue := 0 }, { name := "DELETE", type := (.object "com/example/stackprobe/stackprobe/model/Operator"), accessFlags := 16409, slot := 7, constantValue := 0 }, { name := "code", type := .int, accessFlags := 18, slot := 3, constantValue := 0 }, { name := "word", type := (.object "java/lang/String"), accessFlags := 18, slot := 4, constantValue := 0 }, { name := "$VALUES", type := (.array (.object "com/example/stackprobe/stackprobe/model/Operator")), accessFlags := 4122, slot := 8, constantValue := 0 }]
  methods := #[k6m0, k6m1]
  instanceTypes := #[(.object "java/lang/String"), .int, .int, .int, (.object "java/lang/String")]
  staticTypes := #[(.object "com/example/stackprobe/stackprobe/model/Operator"), (.object "com/example/stackprobe/stackprobe/model/Operator"), (.object "com/example/stackprobe/stackprobe/model/Operator"), (.object "com/example/stackprobe/stackprobe/model/Operator"), (.object "com/example/stackprobe/stackprobe/model/Operator"), (.object "com/example/stackprobe/stackprobe/model/Operator"), (.object "com/example/stackprobe/stackprobe/model/Operator"), (.object "com/example/stackprobe/stackprobe/model/Operator"), (.array (.object "com/example/stackprobe/stackprobe/model/Operator"))]
  resolved := Array.replicate 148 none
  statics := some 0 }

def pool7 : Array CpInfo := pool [(1, .class_ 2), (0, u "java/lang/Cloneable"), (0, .class_ 4), (0, u "java/lang/Object")] 2

/-- java/lang/Cloneable -/
def k7 : Class := { plain "java/lang/Cloneable" (some 0) with
  accessFlags := 1537
  interfaces := #[]
  cf := some (fileOf pool7 1 #[] #[] 1537 3 #[] #[])
  fields := #[]
  methods := #[]
  instanceTypes := #[]
  staticTypes := #[]
  resolved := Array.replicate 7 none
  statics := none }

/-- the primitive byte -/
def k8 : Class := { plain "byte" none with kind := .primitive 'B', accessFlags := 0x411 }
/-- [B -/
def k9 : Class := { plain "[B" (some 0) with kind := .array 8 .byte, interfaces := #[7, 4], accessFlags := 1041 }

/-- the primitive int -/
def k10 : Class := { plain "int" none with kind := .primitive 'I', accessFlags := 0x411 }
/-- [I -/
def k11 : Class := { plain "[I" (some 0) with kind := .array 10 .int, interfaces := #[7, 4], accessFlags := 1041 }

/-- [Lcom/example/stackprobe/stackprobe/model/Operator; -/
def k12 : Class := { plain "[Lcom/example/stackprobe/stackprobe/model/Operator;" (some 0) with kind := .array 6 (.object "com/example/stackprobe/stackprobe/model/Operator"), interfaces := #[7, 4], accessFlags := 1041 }

def heap : Heap := #[{ cls := 6, slots := #[.ref 2, .ref 3, .ref 4, .ref 5, .ref 6, .ref 7, .ref 8, .ref 9, .ref 1], vm := .statics 6 },
  { cls := 12, slots := #[.ref 2, .ref 3, .ref 4, .ref 5, .ref 6, .ref 7, .ref 8, .ref 9], vm := .none },
  { cls := 6, slots := #[.null, .int 0, .int 0, .int 1, .null], vm := .none },
  { cls := 6, slots := #[.null, .int 1, .int 0, .int 2, .null], vm := .none },
  { cls := 6, slots := #[.null, .int 2, .int 0, .int 3, .null], vm := .none },
  { cls := 6, slots := #[.null, .int 3, .int 0, .int 4, .null], vm := .none },
  { cls := 6, slots := #[.null, .int 4, .int 0, .int 5, .null], vm := .none },
  { cls := 6, slots := #[.null, .int 5, .int 0, .int 6, .null], vm := .none },
  { cls := 6, slots := #[.null, .int 6, .int 0, .int 7, .null], vm := .none },
  { cls := 6, slots := #[.null, .int 7, .int 0, .int 8, .null], vm := .none }]
def classes : Array Class := #[k0, k1, k2, k3, k4, k5, k6, k7, k8, k9, k10, k11, k12]
def interned : List (Array UInt16 × Addr) := []
def slotsUsed : Nat := 57
def theMethod : MethodId := ⟨1, 1⟩
def args0 : Array Value := #[.int 5, .int 8]
def aboutOver (below : List Frame) : State where
  vm := { classes := classes, interned := interned.toArray }
  heap := heap
  slotsUsed := slotsUsed
  threads := #[{ frames := .invoking theMethod args0 :: below }]
def below0 : List Frame := [.native { method := ⟨0, 0⟩, args := #[] }]
def about1 : State := aboutOver below0
def p0 : Program := .bare "" "" ""
def e0 : Env := launch0.env 0 0 0
theorem w_frames : about1.frames = Frame.invoking theMethod args0 :: below0 := rfl
set_option maxRecDepth 65536 in
theorem w_args : argsFit about1.vm theMethod args0 = true := by decide +kernel
set_option maxRecDepth 65536 in
theorem w_heap : heapFits about1 = true := by decide +kernel
set_option maxRecDepth 65536 in
theorem w_runnable : about1.curStatus? = some .runnable := by decide +kernel
set_option maxRecDepth 65536 in
theorem w_alone : about1.alone = true := by decide +kernel
set_option maxRecDepth 65536 in
theorem w_named : about1.methodNamed? x = some theMethod := by decide +kernel
set_option maxRecDepth 65536 in
theorem w_hears : about1.hears theMethod below0 = true := by decide +kernel
set_option maxRecDepth 65536 in
theorem w_ripe : about1.ripe theMethod args0 below0 = true := by decide +kernel
theorem w_running : about1.status = .running := rfl
set_option maxRecDepth 65536 in
theorem w_room : about1.hasRoom e0.platform room_1 = true :=
  launch0.hasRoom_least _ room_1 (by decide +kernel) (by decide +kernel) (by decide +kernel) (by decide +kernel) (by decide +kernel) (by decide +kernel)
theorem allAtoms_all (ts : List Jvm.Cond) (a : Array Jvm.Value) (st : Jvm.State) : (allAtoms ts).before a st = ts.all (fun c => c.before a st) := by
  induction ts with
  | nil => rfl
  | cons c t ih =>
    show (Jvm.Cond.and c (allAtoms t)).before a st = _
    rw [Jvm.Cond.before_and, ih, List.all_cons]
def words1 : List Jvm.Cond := Jvm.Cond.code x code maxLocals ret :: tables_1
/-- a 'code' word, met by the world's own term for the bytes: nothing is compared byte by byte -/
theorem code_word {y : MethodName} {bytes : ByteArray} {mx : Nat} {rt : Option FieldType} {a : Array Value} {s : State} {m : MethodId} {meth : Method} {c : Code} (h1 : s.methodNamed? y = some m) (h2 : s.vm.method? m = some meth) (h3 : meth.code = some c) (h4 : c.code = bytes)
    (h5 : (c.maxLocals == mx && c.exceptionTable.isEmpty && decide (c.maxStack ≤ mostOperands) && decide (meth.sig.returnType = rt) && !meth.locks && decide (parseMethodDescriptor y.desc = some meth.sig)) = true) : (Jvm.Cond.code y bytes mx rt).before a s = true := by
  simp only [Bool.and_eq_true, beq_iff_eq, Bool.not_eq_true', decide_eq_true_eq] at h5
  obtain ⟨⟨⟨⟨⟨g1, g2⟩, g3⟩, g4⟩, g5⟩, g6⟩ := h5
  simp [Cond.before, Cond.holds, Cond.value, h1, h2, h3, h4, g1, g2, g3, g4, g5, g6]
def isCode : Jvm.Cond → Bool
  | .code _ _ _ _ => true
  | _ => false
theorem all_split {L : List Jvm.Cond} {P : Jvm.Cond → Bool} (h1 : L.all (fun c => isCode c || P c) = true) (h2 : ∀ c ∈ L.filter isCode, P c = true) : L.all P = true := by
  refine List.all_eq_true.mpr fun c hc => ?_
  have h := List.all_eq_true.mp h1 c hc
  rcases Bool.eq_false_or_eq_true (isCode c) with hi | hi
  · exact h2 c (List.mem_filter.mpr ⟨hc, hi⟩)
  · simpa [hi] using h
set_option maxRecDepth 65536 in
theorem w_c0 : (Jvm.Cond.code x code maxLocals ret).before args0 about1 = true := code_word (m := ⟨1, 1⟩) (meth := k1m1) (c := k1c1) (by decide +kernel) rfl rfl rfl (by decide +kernel)
set_option maxRecDepth 65536 in
theorem w_c1 : (Jvm.Cond.code ({ cls := "com/example/stackprobe/stackprobe/model/OperatorOfCodePinLaw", name := "check", desc := "(I)Z" } : Jvm.MethodName) method_3_code (2 : Nat) (Option.some Jvm.ClassFile.FieldType.boolean)).before args0 about1 = true := code_word (m := ⟨1, 2⟩) (meth := k1m2) (c := k1c2) (by decide +kernel) rfl rfl rfl (by decide +kernel)
set_option maxRecDepth 65536 in
theorem w_c2 : (Jvm.Cond.code ({ cls := "com/example/stackprobe/stackprobe/model/Operator", name := "ofCode", desc := "(I)Lcom/example/stackprobe/stackprobe/model/Operator;" } : Jvm.MethodName) prog_35_method_8_code (5 : Nat) (Option.some (Jvm.ClassFile.FieldType.object "com/example/stackprobe/stackprobe/model/Operator"))).before args0 about1 = true := code_word (m := ⟨6, 1⟩) (meth := k6m1) (c := k6c1) (by decide +kernel) rfl rfl rfl (by decide +kernel)
set_option maxRecDepth 65536 in
theorem w_c3 : (Jvm.Cond.code ({ cls := "com/example/stackprobe/stackprobe/model/Operator", name := "values", desc := "()[Lcom/example/stackprobe/stackprobe/model/Operator;" } : Jvm.MethodName) prog_35_method_1_code (0 : Nat) (Option.some (Jvm.ClassFile.FieldType.array (Jvm.ClassFile.FieldType.object "com/example/stackprobe/stackprobe/model/Operator")))).before args0 about1 = true := code_word (m := ⟨6, 0⟩) (meth := k6m0) (c := k6c0) (by decide +kernel) rfl rfl rfl (by decide +kernel)
set_option maxRecDepth 65536 in
theorem w_c4 : (Jvm.Cond.code ({ cls := "com/example/stackprobe/stackprobe/model/OperatorOfCodePinLaw", name := "expectedFor", desc := "(I)Lcom/example/stackprobe/stackprobe/model/Operator;" } : Jvm.MethodName) method_4_code (1 : Nat) (Option.some (Jvm.ClassFile.FieldType.object "com/example/stackprobe/stackprobe/model/Operator"))).before args0 about1 = true := code_word (m := ⟨1, 3⟩) (meth := k1m3) (c := k1c3) (by decide +kernel) rfl rfl rfl (by decide +kernel)
def codes1 : List Jvm.Cond := [Jvm.Cond.code x code maxLocals ret, Jvm.Cond.code ({ cls := "com/example/stackprobe/stackprobe/model/OperatorOfCodePinLaw", name := "check", desc := "(I)Z" } : Jvm.MethodName) method_3_code (2 : Nat) (Option.some Jvm.ClassFile.FieldType.boolean), Jvm.Cond.code ({ cls := "com/example/stackprobe/stackprobe/model/Operator", name := "ofCode", desc := "(I)Lcom/example/stackprobe/stackprobe/model/Operator;" } : Jvm.MethodName) prog_35_method_8_code (5 : Nat) (Option.some (Jvm.ClassFile.FieldType.object "com/example/stackprobe/stackprobe/model/Operator")), Jvm.Cond.code ({ cls := "com/example/stackprobe/stackprobe/model/Operator", name := "values", desc := "()[Lcom/example/stackprobe/stackprobe/model/Operator;" } : Jvm.MethodName) prog_35_method_1_code (0 : Nat) (Option.some (Jvm.ClassFile.FieldType.array (Jvm.ClassFile.FieldType.object "com/example/stackprobe/stackprobe/model/Operator"))), Jvm.Cond.code ({ cls := "com/example/stackprobe/stackprobe/model/OperatorOfCodePinLaw", name := "expectedFor", desc := "(I)Lcom/example/stackprobe/stackprobe/model/Operator;" } : Jvm.MethodName) method_4_code (1 : Nat) (Option.some (Jvm.ClassFile.FieldType.object "com/example/stackprobe/stackprobe/model/Operator"))]
set_option maxRecDepth 65536 in
theorem codes_eq : words1.filter isCode = codes1 := rfl
theorem w_codes : ∀ c ∈ words1.filter isCode, c.before args0 about1 = true := by
  rw [codes_eq]
  intro c hc
  simp only [codes1, List.mem_cons, List.not_mem_nil, or_false] at hc
  rcases hc with rfl | rfl | rfl | rfl | rfl
  · exact w_c0
  · exact w_c1
  · exact w_c2
  · exact w_c3
  · exact w_c4
set_option maxRecDepth 65536 in
theorem w_t1 : (words1.take 24).all (fun c => isCode c || c.before args0 about1) = true := by decide +kernel
set_option maxRecDepth 65536 in
theorem w_t2 : (words1.drop 24).all (fun c => isCode c || c.before args0 about1) = true := by decide +kernel
theorem w_tables : (allAtoms (Jvm.Cond.code x code maxLocals ret :: tables_1)).before args0 about1 = true := by
  rw [allAtoms_all]
  show words1.all (fun c => c.before args0 about1) = true
  refine all_split ?_ w_codes
  rw [← List.take_append_drop 24 words1, List.all_append, w_t1, w_t2]
  rfl
set_option maxRecDepth 65536 in
theorem w_case : (Jvm.Cond.and given_1 narrow_1).before args0 about1 = true := by decide +kernel
theorem w_applies : (headSpec (Jvm.Cond.code x code maxLocals ret :: tables_1) room_1).applies x e0.platform about1 = true :=
  (Spec.applies_iff w_frames).mpr ⟨w_running, w_runnable, w_alone, w_named, w_hears, w_ripe, w_room, w_tables⟩
theorem atStart : AtStart classFile x code maxLocals ret World_1 tables_1 room_1 Calls_1 rest_1 Pre_1 launch0 p0 e0 about1 theMethod args0 below0 :=
  ⟨lists_1, trivial, launch0.admits_env _ _ _, launch0.least_env, fairChoices_fair.cas, fairChoices_fair.clock, w_frames, w_args, w_heap, w_applies, trivial, trivial, w_case⟩
end start1
theorem witness_1 : WitnessClaimed_1 := ⟨start1.p0, start1.e0, start1.about1, start1.theMethod, start1.args0, start1.below0, start1.atStart⟩
end Jvm.Pilot.@@N@@
