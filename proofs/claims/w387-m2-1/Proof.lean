import JvmDerived
import JvmDerived.Pilot.@@N@@Statement
import JvmDerived.Pilot.@@N@@Code
set_option linter.unusedVariables false
set_option linter.unusedSimpArgs false
namespace Jvm.Pilot.@@N@@
open Jvm Jvm.ClassFile Sem Op Lib Jvm.Free Jvm.Stand Jvm.LawKit Jvm.RoadKit Bundle Jvm.Pilot.@@N@@.Jvm.D
/-! the goal form of a walk: from S the run ends in Q -/
def own_Gl (p : Program) (e : Env) (below : List Frame) (Q : Outcome → State → Prop) (S : State) : Prop := ∃ s₂ o, Steps p.tables e below S s₂ ∧ s₂.status = .running ∧ Ended s₂ below o ∧ Q o s₂
def own_Post (s : State) (Q : Option Value → Heap → List Loc → Prop) (C N : Nat) : Outcome → State → Prop := fun o U' => ∃ v L, o = .returned v ∧ Q v U'.heap L ∧ FrameEnd s o U' L C N
section Own
variable {p : Program} {l : Launch} {e : Env} {R : Room} {s : State} {m : MethodId} {args : Array Value} {below : List Frame} {meth : Method} {c : Code} {T : State} {locs : List Loc} {cells slots : Nat} {Q : Outcome → State → Prop} {QQ : Option Value → Heap → List Loc → Prop} {S S' : State} {C N : Nat} {h : Heap}
theorem own_st (st : ∀ t, Steps p.tables e below S' t → Steps p.tables e below S t) (g : own_Gl p e below Q S') : own_Gl p e below Q S := by
  obtain ⟨s₂, o, h1, h2⟩ := g; exact ⟨s₂, o, st _ h1, h2⟩
theorem own_tr (st : Steps p.tables e below S S') (g : own_Gl p e below Q S') : own_Gl p e below Q S := by
  obtain ⟨s₂, o, h1, h2⟩ := g; exact ⟨s₂, o, st.trans h1, h2⟩
theorem own_retO (X : Stand p l e R s m args below meth c T locs cells slots) (hx : p.tables.exec = Jvm.exec) (hlk : meth.locks = false) {pc : Nat} {Ls : Array Slot} {w : Value} {t : FieldType} {i : Instr} {rest : List Value} (hret : meth.sig.returnType = some t) (hn : narrow t w = w)
    (hi : (i = .ireturn ∧ (t = .int ∨ t = .boolean ∨ t = .byte ∨ t = .char ∨ t = .short) ∧ ∃ z, w = .int z) ∨ (i = .lreturn ∧ t = .long ∧ ∃ z, w = .long z) ∨ (i = .dreturn ∧ t = .double ∧ ∃ z, w = .double z) ∨ (i = .freturn ∧ t = .float ∧ ∃ z, w = .float z) ∨ (i = .areturn ∧ t.isReference = true ∧ w.isRef = true))
    (hd : decode c.code pc = .ok (i, 1)) (hc : cells ≤ C) (hs : slots ≤ N) (eT : T.heap = h) (hq : QQ (some w) h locs) : own_Gl p e below (own_Post s QQ C N) (T.setTop (mkF m pc Ls (w :: rest))) := by
  obtain ⟨fs, hr, hrun, hended, hW, hsame⟩ := X.leave (v := some w) (fun h => by rw [hret] at h; cases h) hlk
  subst eT
  exact ⟨_, _, retOut X hx hret hn hi hd hr, hrun, hended, _, _, rfl, hq, ⟨_, rfl⟩, hW, hsame.mono hc hs⟩
theorem own_retI (X : Stand p l e R s m args below meth c T locs cells slots) (hx : p.tables.exec = Jvm.exec) (hlk : meth.locks = false) {pc : Nat} {Ls : Array Slot} {z : Int32} {rest : List Value} (hret : meth.sig.returnType = some .int)
    (hd : decode c.code pc = .ok (.ireturn, 1)) (hc : cells ≤ C) (hs : slots ≤ N) (eT : T.heap = h) (hq : QQ (some (.int z)) h locs) : own_Gl p e below (own_Post s QQ C N) (T.setTop (mkF m pc Ls (.int z :: rest))) :=
  own_retO X hx hlk hret rfl (Or.inl ⟨rfl, Or.inl rfl, z, rfl⟩) hd hc hs eT hq
theorem own_retL (X : Stand p l e R s m args below meth c T locs cells slots) (hx : p.tables.exec = Jvm.exec) (hlk : meth.locks = false) {pc : Nat} {Ls : Array Slot} {z : Int64} {rest : List Value} (hret : meth.sig.returnType = some .long)
    (hd : decode c.code pc = .ok (.lreturn, 1)) (hc : cells ≤ C) (hs : slots ≤ N) (eT : T.heap = h) (hq : QQ (some (.long z)) h locs) : own_Gl p e below (own_Post s QQ C N) (T.setTop (mkF m pc Ls (.long z :: rest))) :=
  own_retO X hx hlk hret rfl (Or.inr (Or.inl ⟨rfl, rfl, z, rfl⟩)) hd hc hs eT hq
theorem own_nref {t : FieldType} {w : Value} (h : w.isRef = true) : narrow t w = w := by cases t <;> cases w <;> first | rfl | simp [Value.isRef] at h
theorem own_retA (X : Stand p l e R s m args below meth c T locs cells slots) (hx : p.tables.exec = Jvm.exec) (hlk : meth.locks = false) {pc : Nat} {Ls : Array Slot} {w : Value} {t : FieldType} {rest : List Value} (hret : meth.sig.returnType = some t) (ht : t.isReference = true) (hw : w.isRef = true)
    (hd : decode c.code pc = .ok (.areturn, 1)) (hc : cells ≤ C) (hs : slots ≤ N) (eT : T.heap = h) (hq : QQ (some w) h locs) : own_Gl p e below (own_Post s QQ C N) (T.setTop (mkF m pc Ls (w :: rest))) :=
  own_retO X hx hlk hret (own_nref hw) (Or.inr (Or.inr (Or.inr (Or.inr ⟨rfl, ht, hw⟩)))) hd hc hs eT hq
theorem own_retN (X : Stand p l e R s m args below meth c T locs cells slots) (hx : p.tables.exec = Jvm.exec) (hlk : meth.locks = false) {pc : Nat} {Ls : Array Slot} {z : Int32} {t : FieldType} {rest : List Value} (hret : meth.sig.returnType = some t) (ht : t = .boolean ∨ t = .byte ∨ t = .char ∨ t = .short)
    (hd : decode c.code pc = .ok (.ireturn, 1)) (hc : cells ≤ C) (hs : slots ≤ N) (eT : T.heap = h) (hq : QQ (some (.int (nar t z))) h locs) : own_Gl p e below (own_Post s QQ C N) (T.setTop (mkF m pc Ls (.int z :: rest))) := by
  obtain ⟨fs, hr, hrun, hended, hW, hsame⟩ := X.leave (v := some (.int (nar t z))) (fun h => by rw [hret] at h; cases h) hlk
  subst eT
  exact ⟨_, _, retN X hx hret ht hd hr, hrun, hended, _, _, rfl, hq, ⟨_, rfl⟩, hW, hsame.mono hc hs⟩
theorem own_retV (X : Stand p l e R s m args below meth c T locs cells slots) (hx : p.tables.exec = Jvm.exec) (hlk : meth.locks = false) {pc : Nat} {Ls : Array Slot} (hret : meth.sig.returnType = none)
    (hd : decode c.code pc = .ok (.return_, 1)) (hc : cells ≤ C) (hs : slots ≤ N) (eT : T.heap = h) (hq : QQ none h locs) : own_Gl p e below (own_Post s QQ C N) (T.setTop (mkF m pc Ls [])) := by
  obtain ⟨fs, hr, hrun, hended, hW, hsame⟩ := X.leave (v := none) (fun _ => rfl) hlk
  subst eT
  exact ⟨_, _, X.returnOut hx hret hd hr, hrun, hended, _, _, rfl, hq, ⟨_, rfl⟩, hW, hsame.mono hc hs⟩
theorem own_ext_refl (h : Heap) : Ext h h := ⟨Nat.le_refl _, fun _ _ q => q⟩
theorem own_ext_tr {h0 h h' : Heap} (A : Ext h0 h) (B : Ext h h') : Ext h0 h' := ⟨Nat.le_trans A.1 B.1, fun x c q => B.2 x c (A.2 x c q)⟩
theorem own_ext_keep {h0 h h' : Heap} {ws : List Addr} (A : Ext h0 h) (K : Keep h h' ws) (q : ∀ x ∈ ws, h0.size ≤ x) : Ext h0 h' := ⟨Nat.le_trans A.1 K.1, fun x c r => K.2.1 x c (A.2 x c r) fun z => absurd (Array.getElem?_eq_some_iff.mp r).1 (Nat.not_lt.mpr (q x z))⟩
theorem own_ext_wr {h0 h h' : Heap} {a : Addr} {sl : Nat} {v : Value} (A : Ext h0 h) (W : Wr h h' a sl v) (q : h0.size ≤ a) : Ext h0 h' := own_ext_keep A (Keep.of_wr W) (allS q all0)
theorem own_sta_keep {Z : State} {h h' : Heap} {ws : List Addr} {C n d : String} {v : Value} (F : Sta Z h C n d v) (K : Keep h h' ws) (q : ∀ x ∈ ws, ∀ cell : Cell, h[x]? = some cell → cell.vm.isStatics = false) : Sta Z h' C n d v := by
  obtain ⟨cf, i, k, f, st, cell, h1, h2, h3, h4, h5, h6, h7⟩ := F
  exact ⟨cf, i, k, f, st, cell, h1, h2, h3, h4, K.2.1 _ _ h5 (fun z => by rw [q _ z _ h5] at h6; cases h6), h6, h7⟩
end Own
section Words
variable {Z : State} {args : Array Value} {t u : Term} {a : Addr} {cl : Cell} {ty : FieldType}
theorem own_fldI {C n d : String} {k : Int32} (ht : t.eval args Z none [] Z = some (.ref a)) (h : (Cond.eq (Term.field t C n d) (Term.int k)).value args Z none Z [] = some true) : Fld Z Z.heap a C n d (.int k) := by
  refine Fld.start ?_
  have e := fld_at (C := C) (n := n) (dd := d) ht
  cases hv : Z.fieldOf? a C n d with
  | none => rw [hv] at e; simp [Cond.value, e] at h
  | some v => rw [hv] at e; have ek := Term.int_eval (args := args) (first := Z) (o := none) (idx := []) (s := Z) k; cases v <;> simp only [Cond.value, e, ek] at h <;> first | (cases h; done) | (simp at h; rw [h])
theorem own_fldL {C n d : String} {k : Int64} (ht : t.eval args Z none [] Z = some (.ref a)) (h : (Cond.eq (Term.field t C n d) (Term.long k)).value args Z none Z [] = some true) : Fld Z Z.heap a C n d (.long k) := by
  refine Fld.start ?_
  have e := fld_at (C := C) (n := n) (dd := d) ht
  cases hv : Z.fieldOf? a C n d with
  | none => rw [hv] at e; simp [Cond.value, e] at h
  | some v => rw [hv] at e; have ek : (Term.long k).eval args Z none [] Z = some (.long k) := rfl; cases v <;> simp only [Cond.value, e, ek] at h <;> first | (cases h; done) | (simp at h; rw [h])
theorem own_fldR {C n d : String} {b : Addr} (ht : t.eval args Z none [] Z = some (.ref a)) (h : (Term.field t C n d).eval args Z none [] Z = some (.ref b)) : Fld Z Z.heap a C n d (.ref b) := Fld.start ((fld_at ht).symm.trans h)
theorem own_len {n : Int32} (ht : t.eval args Z none [] Z = some (.ref a)) (A : Arr Z Z.heap a cl ty) (h : (Cond.eq (Term.length t) (Term.int n)).value args Z none Z [] = some true) : cl.slots.size < 2 ^ 31 ∧ cl.slots.size.toInt32 = n := by
  have ha := A.fin (Vm.Alike.refl _)
  have ek : (Term.int n).eval args Z none [] Z = some (.int n) := rfl
  by_cases hl : cl.slots.size < 2 ^ 31
  · have e := len_f ht ha hl
    simp only [Cond.value, e, ek] at h
    exact ⟨hl, by simpa using h⟩
  · exfalso
    have e : (Term.length t).eval args Z none [] Z = none := by simp [Term.eval, ht, ha, hl]
    simp [Cond.value, e] at h
theorem own_elemI {j k : Int32} (ht : t.eval args Z none [] Z = some (.ref a)) (A : Arr Z Z.heap a cl ty) (h : (Cond.eq (Term.elem t (Term.int j)) (Term.int k)).value args Z none Z [] = some true) : cl.slots[j.toNatClampNeg]? = some (.int k) := by
  have ek : (Term.int k).eval args Z none [] Z = some (.int k) := rfl
  cases hv : (Term.elem t (Term.int j)).eval args Z none [] Z with
  | none => simp [Cond.value, hv] at h
  | some v =>
    have q := (elem_in hv ht (Term.int_eval j) A.1).2
    rw [q]
    cases v <;> simp only [Cond.value, hv, ek] at h <;> first | (cases h; done) | (simp at h; rw [h])
theorem own_elemR {j : Int32} {b : Addr} (ht : t.eval args Z none [] Z = some (.ref a)) (A : Arr Z Z.heap a cl ty) (hu : u.eval args Z none [] Z = some (.ref b)) (h : (Cond.eq (Term.elem t (Term.int j)) u).value args Z none Z [] = some true) : cl.slots[j.toNatClampNeg]? = some (.ref b) := by
  cases hv : (Term.elem t (Term.int j)).eval args Z none [] Z with
  | none => simp [Cond.value, hv] at h
  | some v =>
    have q := (elem_in hv ht (Term.int_eval j) A.1).2
    rw [q]
    cases v <;> simp only [Cond.value, hv, hu] at h <;> first | (cases h; done) | (simp at h; rw [h])
end Words
def own_max (x y : Int32) : Int32 := if x < y then y else x
theorem own_and3 (x : Int32) : x &&& (3 : Int32) = 0 ∨ x &&& (3 : Int32) = 1 ∨ x &&& (3 : Int32) = 2 ∨ x &&& (3 : Int32) = 3 := by
  have h := c_mask x 3 2 (by decide) (by decide)
  have e : (x &&& (3 : Int32)).toInt = 0 ∨ (x &&& (3 : Int32)).toInt = 1 ∨ (x &&& (3 : Int32)).toInt = 2 ∨ (x &&& (3 : Int32)).toInt = 3 := by omega
  rcases e with e | e | e | e
  · exact Or.inl (Int32.toInt_inj.mp e)
  · exact Or.inr (Or.inl (Int32.toInt_inj.mp e))
  · exact Or.inr (Or.inr (Or.inl (Int32.toInt_inj.mp e)))
  · exact Or.inr (Or.inr (Or.inr (Int32.toInt_inj.mp e)))
theorem own_pn0 : plainName "com/example/ratably/ratably/calendar/Slice" = true := by first | (simp [plainName, overriddenIn]; done) | decide +kernel
theorem own_d_prog_5_method_1_code_0 : decode prog_5_method_1_code 0 = .ok (.aload_n 0, 1) := by decide +kernel
theorem own_d_prog_5_method_1_code_1 : decode prog_5_method_1_code 1 = .ok (.invokespecial 1, 3) := by decide +kernel
theorem own_d_prog_5_method_1_code_4 : decode prog_5_method_1_code 4 = .ok (.aload_n 0, 1) := by decide +kernel
theorem own_d_prog_5_method_1_code_5 : decode prog_5_method_1_code 5 = .ok (.aload_n 1, 1) := by decide +kernel
theorem own_d_prog_5_method_1_code_6 : decode prog_5_method_1_code 6 = .ok (.putfield 7, 3) := by decide +kernel
theorem own_d_prog_5_method_1_code_9 : decode prog_5_method_1_code 9 = .ok (.aload_n 0, 1) := by decide +kernel
theorem own_d_prog_5_method_1_code_10 : decode prog_5_method_1_code 10 = .ok (.iload_n 2, 1) := by decide +kernel
theorem own_d_prog_5_method_1_code_11 : decode prog_5_method_1_code 11 = .ok (.putfield 13, 3) := by decide +kernel
theorem own_d_prog_5_method_1_code_14 : decode prog_5_method_1_code 14 = .ok (.return_, 1) := by decide +kernel
theorem own_ef_sl (m : MethodId) (x0 : Addr) (x2 : Int32) : entryFrame m #[(.ref x0), .null, (.int x2)] 3 = mkF m 0 #[.val (.ref x0), .val .null, .val (.int x2)] [] := by first | (simp [entryFrame, mkF, argsToLocals, Value.category]; done) | rfl
def own_Q_sl (Z : State) (a : Addr) (d : Int32) (h0 : Heap) (n0 : Nat) (v : Option Value) (h : Heap) (L : List Loc) : Prop := v = none ∧ Fr n0 L ∧ Keep h0 h [a]
set_option maxRecDepth 65536 in
set_option maxHeartbeats 40000000 in
theorem own_rm_sl (l : Launch) (Z : State) (a0 : Array Value) (hw : ∀ d ∈ tables_1, d.before a0 Z = true) (ws : List Jvm.Cond) (a : Addr) (d : Int32) (h0 : Heap) (n0 : Nat) (Z0 : n0 ≤ h0.size) (E_a : Exa Z h0 a "com/example/ratably/ratably/calendar/Slice") (F_p : Fld Z h0 a "com/example/ratably/ratably/calendar/Slice" "period" "Lcom/example/ratably/ratably/calendar/Period;" .null) (F_d : Fld Z h0 a "com/example/ratably/ratably/calendar/Slice" "days" "I" (.int (0 : Int32))) (g_a : n0 ≤ a) :
    MetFree l (⟨"com/example/ratably/ratably/calendar/Slice", "<init>", "(Lcom/example/ratably/ratably/calendar/Period;I)V"⟩ : MethodName) (head1 (Jvm.Cond.code (⟨"com/example/ratably/ratably/calendar/Slice", "<init>", "(Lcom/example/ratably/ratably/calendar/Period;I)V"⟩ : MethodName) prog_5_method_1_code 3 none :: ws) ({ frames := 1, cells := 0, slots := 0, locals := 12 } : Room)) (fun aa UU => aa = #[(.ref a), .null, (.int d)] ∧ Z.Warmed39 UU.vm ∧ UU.heap = h0) (fun _ _ _ _ _ => True) (fun _ UU oo UU' => ∃ vv LL, oo = .returned vv ∧ own_Q_sl Z a d h0 n0 vv UU'.heap LL ∧ FrameEnd UU oo UU' LL ({ frames := 1, cells := 0, slots := 0, locals := 12 } : Room).cells ({ frames := 1, cells := 0, slots := 0, locals := 12 } : Room).slots) := by
  refine MetFree.of_bodySF (plainFor_of_name own_pn0) hisR ?_
  intro p e s m args below meth c s₁ Bd hml0 hP hK
  obtain ⟨rfl, hZ, hh⟩ := hP
  have hx := Bd.exec
  have hby := Bd.bytes
  have hml : c.maxLocals = 3 := hml0
  have hown : s.vm.findClass "com/example/ratably/ratably/calendar/Slice" = some m.cls := findClass_of_methodNamed Bd.named
  have hnm := (name_of_methodNamed Bd.named Bd.method).1
  have X0 : Stand p l e ({ frames := 1, cells := 0, slots := 0, locals := 12 } : Room) s m #[(.ref a), .null, (.int d)] below meth c s₁ [] 0 0 := Stand.of_body Bd
  have e0 : s₁.heap = h0 := by rw [← hh, Bd.state]; rfl
  have N0 := Fr.nil n0
  have K0 : Keep h0 h0 [a] := Keep.refl h0 _
  show own_Gl p e below (own_Post s (own_Q_sl Z a d h0 n0) ({ frames := 1, cells := 0, slots := 0, locals := 12 } : Room).cells ({ frames := 1, cells := 0, slots := 0, locals := 12 } : Room).slots) _
  refine own_st (fun tg_ kg_ => castTop (own_ef_sl m a d) kg_) ?_
  show own_Gl p e below _ (s₁.setTop (mkF m 0 #[.val (.ref a), .val .null, .val (.int d)] []))
  refine own_st (fun tg_ kg_ => XS.aloadN X0.here hx rfl (hb hby own_d_prog_5_method_1_code_0) rfl rfl kg_) ?_
  show own_Gl p e below _ (s₁.setTop (mkF m 1 #[.val (.ref a), .val .null, .val (.int d)] [(.ref a)]))
  obtain ⟨T1, X1, e1, st1⟩ := initO X0 hx hZ hown (hw _ (List.mem_of_getElem? (i := 6) rfl)) (hw _ (List.mem_of_getElem? (i := 7) rfl)) (hw _ (List.mem_of_getElem? (i := 8) rfl)) e0 (g := (mkF m 1 #[.val (.ref a), .val .null, .val (.int d)] [(.ref a)])) rfl (by rw [hml]; rfl) rfl (hb hby own_d_prog_5_method_1_code_1) (by decide) (W := 0) (by show 2 * 0 + _ ≤ _; exact Nat.le_of_eq rfl) (by decide)
  refine own_st st1 ?_
  try clear st1
  show own_Gl p e below _ (T1.setTop (mkF m 4 #[.val (.ref a), .val .null, .val (.int d)] []))
  refine own_st (fun tg_ kg_ => XS.aloadN X1.here hx rfl (hb hby own_d_prog_5_method_1_code_4) rfl rfl kg_) ?_
  show own_Gl p e below _ (T1.setTop (mkF m 5 #[.val (.ref a), .val .null, .val (.int d)] [(.ref a)]))
  refine own_st (fun tg_ kg_ => XS.aloadN X1.here hx rfl (hb hby own_d_prog_5_method_1_code_5) rfl rfl kg_) ?_
  show own_Gl p e below _ (T1.setTop (mkF m 6 #[.val (.ref a), .val .null, .val (.int d)] [.null, (.ref a)]))
  obtain ⟨T2, h2, X2, e2, W2, st2⟩ := putF X1 hx hZ hown (host := "") (Or.inl (hw _ (List.mem_of_getElem? (i := 9) rfl))) Via.refl e1 F_p E_a (Or.inr ⟨(hw _ (List.mem_of_getElem? (i := 10) rfl)), rfl, hnm⟩) (hw _ (List.mem_of_getElem? (i := 1) rfl)) (ty := (.object "com/example/ratably/ratably/calendar/Period")) (by decide) rfl rfl (g := (mkF m 6 #[.val (.ref a), .val .null, .val (.int d)] [.null, (.ref a)])) rfl rfl (hb hby own_d_prog_5_method_1_code_6)
  have N2 := Fr.snoc X2 N0 g_a
  replace E_a := E_a.wr W2
  replace F_p := F_p.same W2
  replace F_d := F_d.other W2 (Or.inr (slot_ne (Or.inr (hw _ (List.mem_of_getElem? (i := 12) rfl))) (Or.inr (hw _ (List.mem_of_getElem? (i := 10) rfl))) (by decide) (t := .int) (t' := (.object "com/example/ratably/ratably/calendar/Period")) (by decide) (by decide)))
  have K3 : Keep h0 h2 [a] := K0.wr W2 (Or.inl (List.mem_of_getElem? (i := 0) rfl))
  refine own_st st2 ?_
  try clear st2
  try clear e1
  try clear X1
  try clear T1
  show own_Gl p e below _ (T2.setTop (mkF m 9 #[.val (.ref a), .val .null, .val (.int d)] []))
  refine own_st (fun tg_ kg_ => XS.aloadN X2.here hx rfl (hb hby own_d_prog_5_method_1_code_9) rfl rfl kg_) ?_
  show own_Gl p e below _ (T2.setTop (mkF m 10 #[.val (.ref a), .val .null, .val (.int d)] [(.ref a)]))
  refine own_st (fun tg_ kg_ => XS.iloadN X2.here hx rfl (hb hby own_d_prog_5_method_1_code_10) rfl kg_) ?_
  show own_Gl p e below _ (T2.setTop (mkF m 11 #[.val (.ref a), .val .null, .val (.int d)] [(.int d), (.ref a)]))
  obtain ⟨T4, h4, X4, e4, W4, st4⟩ := putF X2 hx hZ hown (host := "") (Or.inl (hw _ (List.mem_of_getElem? (i := 11) rfl))) Via.refl e2 F_d E_a (Or.inr ⟨(hw _ (List.mem_of_getElem? (i := 12) rfl)), rfl, hnm⟩) (hw _ (List.mem_of_getElem? (i := 1) rfl)) (ty := .int) (by decide) rfl rfl (g := (mkF m 11 #[.val (.ref a), .val .null, .val (.int d)] [(.int d), (.ref a)])) rfl rfl (hb hby own_d_prog_5_method_1_code_11)
  have N4 := Fr.snoc X4 N2 g_a
  try clear N2
  replace E_a := E_a.wr W4
  replace F_p := F_p.other W4 (Or.inr (slot_ne (Or.inr (hw _ (List.mem_of_getElem? (i := 10) rfl))) (Or.inr (hw _ (List.mem_of_getElem? (i := 12) rfl))) (by decide) (t := (.object "com/example/ratably/ratably/calendar/Period")) (t' := .int) (by decide) (by decide)))
  replace F_d := F_d.same W4
  have K5 : Keep h0 h4 [a] := K3.wr W4 (Or.inl (List.mem_of_getElem? (i := 0) rfl))
  try clear K3
  refine own_st st4 ?_
  try clear st4
  try clear e2
  try clear X2
  try clear T2
  show own_Gl p e below _ (T4.setTop (mkF m 14 #[.val (.ref a), .val .null, .val (.int d)] []))
  exact own_retV X4 hx Bd.notSynchronized Bd.returns (hb hby own_d_prog_5_method_1_code_14) (by decide) (by decide) e4 (⟨rfl, N4, K5⟩)
theorem own_pn1 : plainName "java/util/AbstractCollection" = true := by first | (simp [plainName, overriddenIn]; done) | decide +kernel
theorem own_d_jdk_22_method_1_code_0 : decode jdk_22_method_1_code 0 = .ok (.aload_n 0, 1) := by decide +kernel
theorem own_d_jdk_22_method_1_code_1 : decode jdk_22_method_1_code 1 = .ok (.invokespecial 1, 3) := by decide +kernel
theorem own_d_jdk_22_method_1_code_4 : decode jdk_22_method_1_code 4 = .ok (.return_, 1) := by decide +kernel
theorem own_ef_abc (m : MethodId) (x0 : Addr) : entryFrame m #[(.ref x0)] 1 = mkF m 0 #[.val (.ref x0)] [] := by first | (simp [entryFrame, mkF, argsToLocals, Value.category]; done) | rfl
def own_Q_abc (Z : State) (a : Addr) (h0 : Heap) (n0 : Nat) (v : Option Value) (h : Heap) (L : List Loc) : Prop := v = none ∧ Fr n0 L ∧ h = h0
set_option maxRecDepth 65536 in
set_option maxHeartbeats 40000000 in
theorem own_rm_abc (l : Launch) (Z : State) (a0 : Array Value) (hw : ∀ d ∈ tables_1, d.before a0 Z = true) (ws : List Jvm.Cond) (a : Addr) (h0 : Heap) (n0 : Nat) (Z0 : n0 ≤ h0.size)  :
    MetFree l (⟨"java/util/AbstractCollection", "<init>", "()V"⟩ : MethodName) (head1 (Jvm.Cond.code (⟨"java/util/AbstractCollection", "<init>", "()V"⟩ : MethodName) jdk_22_method_1_code 1 none :: ws) ({ frames := 1, cells := 0, slots := 0, locals := 12 } : Room)) (fun aa UU => aa = #[(.ref a)] ∧ Z.Warmed39 UU.vm ∧ UU.heap = h0) (fun _ _ _ _ _ => True) (fun _ UU oo UU' => ∃ vv LL, oo = .returned vv ∧ own_Q_abc Z a h0 n0 vv UU'.heap LL ∧ FrameEnd UU oo UU' LL ({ frames := 1, cells := 0, slots := 0, locals := 12 } : Room).cells ({ frames := 1, cells := 0, slots := 0, locals := 12 } : Room).slots) := by
  refine MetFree.of_bodySF (plainFor_of_name own_pn1) hisR ?_
  intro p e s m args below meth c s₁ Bd hml0 hP hK
  obtain ⟨rfl, hZ, hh⟩ := hP
  have hx := Bd.exec
  have hby := Bd.bytes
  have hml : c.maxLocals = 1 := hml0
  have hown : s.vm.findClass "java/util/AbstractCollection" = some m.cls := findClass_of_methodNamed Bd.named
  have hnm := (name_of_methodNamed Bd.named Bd.method).1
  have X0 : Stand p l e ({ frames := 1, cells := 0, slots := 0, locals := 12 } : Room) s m #[(.ref a)] below meth c s₁ [] 0 0 := Stand.of_body Bd
  have e0 : s₁.heap = h0 := by rw [← hh, Bd.state]; rfl
  have N0 := Fr.nil n0
  show own_Gl p e below (own_Post s (own_Q_abc Z a h0 n0) ({ frames := 1, cells := 0, slots := 0, locals := 12 } : Room).cells ({ frames := 1, cells := 0, slots := 0, locals := 12 } : Room).slots) _
  refine own_st (fun tg_ kg_ => castTop (own_ef_abc m a) kg_) ?_
  show own_Gl p e below _ (s₁.setTop (mkF m 0 #[.val (.ref a)] []))
  refine own_st (fun tg_ kg_ => XS.aloadN X0.here hx rfl (hb hby own_d_jdk_22_method_1_code_0) rfl rfl kg_) ?_
  show own_Gl p e below _ (s₁.setTop (mkF m 1 #[.val (.ref a)] [(.ref a)]))
  obtain ⟨T1, X1, e1, st1⟩ := initO X0 hx hZ hown (hw _ (List.mem_of_getElem? (i := 31) rfl)) (hw _ (List.mem_of_getElem? (i := 7) rfl)) (hw _ (List.mem_of_getElem? (i := 8) rfl)) e0 (g := (mkF m 1 #[.val (.ref a)] [(.ref a)])) rfl (by rw [hml]; rfl) rfl (hb hby own_d_jdk_22_method_1_code_1) (by decide) (W := 0) (by show 2 * 0 + _ ≤ _; exact Nat.le_of_eq rfl) (by decide)
  refine own_st st1 ?_
  try clear st1
  show own_Gl p e below _ (T1.setTop (mkF m 4 #[.val (.ref a)] []))
  exact own_retV X1 hx Bd.notSynchronized Bd.returns (hb hby own_d_jdk_22_method_1_code_4) (by decide) (by decide) e1 (⟨rfl, N0, rfl⟩)
theorem own_pd0 : parseMethodDescriptor "()V" = some ⟨[], none⟩ := by decide +kernel
theorem own_pn2 : plainName "java/util/AbstractList" = true := by first | (simp [plainName, overriddenIn]; done) | decide +kernel
theorem own_d_jdk_39_method_1_code_0 : decode jdk_39_method_1_code 0 = .ok (.aload_n 0, 1) := by decide +kernel
theorem own_d_jdk_39_method_1_code_1 : decode jdk_39_method_1_code 1 = .ok (.invokespecial 1, 3) := by decide +kernel
theorem own_d_jdk_39_method_1_code_4 : decode jdk_39_method_1_code 4 = .ok (.aload_n 0, 1) := by decide +kernel
theorem own_d_jdk_39_method_1_code_5 : decode jdk_39_method_1_code 5 = .ok (.iconst 0, 1) := by decide +kernel
theorem own_d_jdk_39_method_1_code_6 : decode jdk_39_method_1_code 6 = .ok (.putfield 7, 3) := by decide +kernel
theorem own_d_jdk_39_method_1_code_9 : decode jdk_39_method_1_code 9 = .ok (.return_, 1) := by decide +kernel
theorem own_ef_abl (m : MethodId) (x0 : Addr) : entryFrame m #[(.ref x0)] 1 = mkF m 0 #[.val (.ref x0)] [] := by first | (simp [entryFrame, mkF, argsToLocals, Value.category]; done) | rfl
def own_Q_abl (Z : State) (a : Addr) (h0 : Heap) (n0 : Nat) (v : Option Value) (h : Heap) (L : List Loc) : Prop := v = none ∧ Fr n0 L ∧ Keep h0 h [a] ∧ Fld Z h a "java/util/AbstractList" "modCount" "I" (.int (0 : Int32)) ∧ Fld Z h a "java/util/ArrayList" "elementData" "[Ljava/lang/Object;" .null ∧ Fld Z h a "java/util/ArrayList" "size" "I" (.int (0 : Int32))
set_option maxRecDepth 65536 in
set_option maxHeartbeats 40000000 in
theorem own_rm_abl (l : Launch) (Z : State) (a0 : Array Value) (hw : ∀ d ∈ tables_1, d.before a0 Z = true) (ws : List Jvm.Cond) (a : Addr) (h0 : Heap) (n0 : Nat) (Z0 : n0 ≤ h0.size) (E_a : Exa Z h0 a "java/util/ArrayList") (F_m : Fld Z h0 a "java/util/AbstractList" "modCount" "I" (.int (0 : Int32))) (F_e : Fld Z h0 a "java/util/ArrayList" "elementData" "[Ljava/lang/Object;" .null) (F_s : Fld Z h0 a "java/util/ArrayList" "size" "I" (.int (0 : Int32))) (g_a : n0 ≤ a) :
    MetFree l (⟨"java/util/AbstractList", "<init>", "()V"⟩ : MethodName) (head1 (Jvm.Cond.code (⟨"java/util/AbstractList", "<init>", "()V"⟩ : MethodName) jdk_39_method_1_code 1 none :: ws) ({ frames := 2, cells := 0, slots := 0, locals := 24 } : Room)) (fun aa UU => aa = #[(.ref a)] ∧ Z.Warmed39 UU.vm ∧ UU.heap = h0) (fun _ _ _ _ _ => True) (fun _ UU oo UU' => ∃ vv LL, oo = .returned vv ∧ own_Q_abl Z a h0 n0 vv UU'.heap LL ∧ FrameEnd UU oo UU' LL ({ frames := 2, cells := 0, slots := 0, locals := 24 } : Room).cells ({ frames := 2, cells := 0, slots := 0, locals := 24 } : Room).slots) := by
  refine MetFree.of_bodySF (plainFor_of_name own_pn2) hisR ?_
  intro p e s m args below meth c s₁ Bd hml0 hP hK
  obtain ⟨rfl, hZ, hh⟩ := hP
  have hx := Bd.exec
  have hby := Bd.bytes
  have hml : c.maxLocals = 1 := hml0
  have hown : s.vm.findClass "java/util/AbstractList" = some m.cls := findClass_of_methodNamed Bd.named
  have hnm := (name_of_methodNamed Bd.named Bd.method).1
  have X0 : Stand p l e ({ frames := 2, cells := 0, slots := 0, locals := 24 } : Room) s m #[(.ref a)] below meth c s₁ [] 0 0 := Stand.of_body Bd
  have e0 : s₁.heap = h0 := by rw [← hh, Bd.state]; rfl
  have N0 := Fr.nil n0
  have K0 : Keep h0 h0 [a] := Keep.refl h0 _
  show own_Gl p e below (own_Post s (own_Q_abl Z a h0 n0) ({ frames := 2, cells := 0, slots := 0, locals := 24 } : Room).cells ({ frames := 2, cells := 0, slots := 0, locals := 24 } : Room).slots) _
  refine own_st (fun tg_ kg_ => castTop (own_ef_abl m a) kg_) ?_
  show own_Gl p e below _ (s₁.setTop (mkF m 0 #[.val (.ref a)] []))
  refine own_st (fun tg_ kg_ => XS.aloadN X0.here hx rfl (hb hby own_d_jdk_39_method_1_code_0) rfl rfl kg_) ?_
  show own_Gl p e below _ (s₁.setTop (mkF m 1 #[.val (.ref a)] [(.ref a)]))
  obtain ⟨_, _, ⟨T1, L1, k1, n1⟩, -, X1, ⟨Lc1, hQ1, l1, y1, z1⟩, st1⟩ := X0.specialBack hx (y := (⟨"java/util/AbstractCollection", "<init>", "()V"⟩ : MethodName)) rfl hown (mvT hZ (hw _ (List.mem_of_getElem? (i := 25) rfl))) (mvT hZ (hw _ (List.mem_of_getElem? (i := 26) rfl))) (mvT hZ (hw _ (List.mem_of_getElem? (i := 30) rfl))) (by decide) (backOf (W := 0) (own_rm_abc l Z a0 hw [] a h0 n0 (Nat.le_trans Z0 K0.1)) hZ (hw _ (List.mem_of_getElem? (i := 30) rfl)) (hw _ (List.mem_of_getElem? (i := 29) rfl)) (by decide) (by decide)) (g := (mkF m 1 #[.val (.ref a)] [(.ref a)])) rfl (by rw [hml]; rfl) (Steps.refl _) (a := a) (argsL := []) (rest := []) (lenOf own_pd0 rfl) rfl (by show 2 * 0 + _ ≤ _; exact Nat.le_of_eq rfl) (hb hby own_d_jdk_39_method_1_code_1) (fun _ _ => ⟨rfl, e0, (by decide : 0 + 0 ≤ _), (by decide : 0 + 0 ≤ _)⟩)
  dsimp only [Pt.U, Pt.locs, Pt.cells, Pt.slots] at X1 l1 y1 z1 st1 hQ1
  subst l1 y1 z1
  obtain ⟨rfl, N1q, e1⟩ := hQ1
  have N1 := Fr.app N0 N1q
  refine own_tr st1 ?_
  show own_Gl p e below _ (T1.setTop (mkF m 4 #[.val (.ref a)] []))
  try clear st1
  try clear N1q
  refine own_st (fun tg_ kg_ => XS.aloadN X1.here hx rfl (hb hby own_d_jdk_39_method_1_code_4) rfl rfl kg_) ?_
  show own_Gl p e below _ (T1.setTop (mkF m 5 #[.val (.ref a)] [(.ref a)]))
  refine own_st (fun tg_ kg_ => XS.iconst X1.here hx rfl (hb hby own_d_jdk_39_method_1_code_5) kg_) ?_
  show own_Gl p e below _ (T1.setTop (mkF m 6 #[.val (.ref a)] [(.int (0 : Int32)), (.ref a)]))
  obtain ⟨T2, h2, X2, e2, W2, st2⟩ := putF X1 hx hZ hown (host := "") (Or.inl (hw _ (List.mem_of_getElem? (i := 32) rfl))) Via.refl e1 F_m E_a (Or.inl (hw _ (List.mem_of_getElem? (i := 33) rfl))) (hw _ (List.mem_of_getElem? (i := 14) rfl)) (ty := .int) (by decide) rfl rfl (g := (mkF m 6 #[.val (.ref a)] [(.int (0 : Int32)), (.ref a)])) rfl rfl (hb hby own_d_jdk_39_method_1_code_6)
  have N2 := Fr.snoc X2 N1 g_a
  try clear N1
  replace E_a := E_a.wr W2
  replace F_m := F_m.same W2
  replace F_e := F_e.other W2 (Or.inr (slot_ne (Or.inl (hw _ (List.mem_of_getElem? (i := 36) rfl))) (Or.inl (hw _ (List.mem_of_getElem? (i := 33) rfl))) (by decide) (t := (.array (.object "java/lang/Object"))) (t' := .int) (by decide) (by decide)))
  replace F_s := F_s.other W2 (Or.inr (slot_ne (Or.inl (hw _ (List.mem_of_getElem? (i := 59) rfl))) (Or.inl (hw _ (List.mem_of_getElem? (i := 33) rfl))) (by decide) (t := .int) (t' := .int) (by decide) (by decide)))
  have K3 : Keep h0 h2 [a] := K0.wr W2 (Or.inl (List.mem_of_getElem? (i := 0) rfl))
  refine own_st st2 ?_
  try clear st2
  try clear e1
  try clear X1
  try clear T1
  show own_Gl p e below _ (T2.setTop (mkF m 9 #[.val (.ref a)] []))
  exact own_retV X2 hx Bd.notSynchronized Bd.returns (hb hby own_d_jdk_39_method_1_code_9) (by decide) (by decide) e2 (⟨rfl, N2, K3, F_m, F_e, F_s⟩)
theorem own_pn3 : plainName "java/util/ArrayList" = true := by first | (simp [plainName, overriddenIn]; done) | decide +kernel
theorem own_d_jdk_38_method_2_code_0 : decode jdk_38_method_2_code 0 = .ok (.aload_n 0, 1) := by decide +kernel
theorem own_d_jdk_38_method_2_code_1 : decode jdk_38_method_2_code 1 = .ok (.invokespecial 1, 3) := by decide +kernel
theorem own_d_jdk_38_method_2_code_4 : decode jdk_38_method_2_code 4 = .ok (.aload_n 0, 1) := by decide +kernel
theorem own_d_jdk_38_method_2_code_5 : decode jdk_38_method_2_code 5 = .ok (.getstatic 39, 3) := by decide +kernel
theorem own_d_jdk_38_method_2_code_8 : decode jdk_38_method_2_code 8 = .ok (.putfield 9, 3) := by decide +kernel
theorem own_d_jdk_38_method_2_code_11 : decode jdk_38_method_2_code 11 = .ok (.return_, 1) := by decide +kernel
theorem own_ef_ali (m : MethodId) (x0 : Addr) : entryFrame m #[(.ref x0)] 1 = mkF m 0 #[.val (.ref x0)] [] := by first | (simp [entryFrame, mkF, argsToLocals, Value.category]; done) | rfl
def own_Q_ali (Z : State) (a aD : Addr) (h0 : Heap) (n0 : Nat) (v : Option Value) (h : Heap) (L : List Loc) : Prop := v = none ∧ Fr n0 L ∧ Keep h0 h [a] ∧ Fld Z h a "java/util/AbstractList" "modCount" "I" (.int (0 : Int32)) ∧ Fld Z h a "java/util/ArrayList" "elementData" "[Ljava/lang/Object;" (.ref aD) ∧ Fld Z h a "java/util/ArrayList" "size" "I" (.int (0 : Int32))
set_option maxRecDepth 65536 in
set_option maxHeartbeats 40000000 in
theorem own_rm_ali (l : Launch) (Z : State) (a0 : Array Value) (hw : ∀ d ∈ tables_1, d.before a0 Z = true) (ws : List Jvm.Cond) (a aD : Addr) (h0 : Heap) (n0 : Nat) (Z0 : n0 ≤ h0.size) (E_a : Exa Z h0 a "java/util/ArrayList") (F_m : Fld Z h0 a "java/util/AbstractList" "modCount" "I" (.int (0 : Int32))) (F_e : Fld Z h0 a "java/util/ArrayList" "elementData" "[Ljava/lang/Object;" .null) (F_s : Fld Z h0 a "java/util/ArrayList" "size" "I" (.int (0 : Int32))) (g_a : n0 ≤ a)(S_D : Sta Z h0 "java/util/ArrayList" "DEFAULTCAPACITY_EMPTY_ELEMENTDATA" "[Ljava/lang/Object;" (.ref aD)) :
    MetFree l (⟨"java/util/ArrayList", "<init>", "()V"⟩ : MethodName) (head1 (Jvm.Cond.code (⟨"java/util/ArrayList", "<init>", "()V"⟩ : MethodName) jdk_38_method_2_code 1 none :: ws) ({ frames := 3, cells := 0, slots := 0, locals := 36 } : Room)) (fun aa UU => aa = #[(.ref a)] ∧ Z.Warmed39 UU.vm ∧ UU.heap = h0) (fun _ _ _ _ _ => True) (fun _ UU oo UU' => ∃ vv LL, oo = .returned vv ∧ own_Q_ali Z a aD h0 n0 vv UU'.heap LL ∧ FrameEnd UU oo UU' LL ({ frames := 3, cells := 0, slots := 0, locals := 36 } : Room).cells ({ frames := 3, cells := 0, slots := 0, locals := 36 } : Room).slots) := by
  refine MetFree.of_bodySF (plainFor_of_name own_pn3) hisR ?_
  intro p e s m args below meth c s₁ Bd hml0 hP hK
  obtain ⟨rfl, hZ, hh⟩ := hP
  have hx := Bd.exec
  have hby := Bd.bytes
  have hml : c.maxLocals = 1 := hml0
  have hown : s.vm.findClass "java/util/ArrayList" = some m.cls := findClass_of_methodNamed Bd.named
  have hnm := (name_of_methodNamed Bd.named Bd.method).1
  have X0 : Stand p l e ({ frames := 3, cells := 0, slots := 0, locals := 36 } : Room) s m #[(.ref a)] below meth c s₁ [] 0 0 := Stand.of_body Bd
  have e0 : s₁.heap = h0 := by rw [← hh, Bd.state]; rfl
  have N0 := Fr.nil n0
  have K0 : Keep h0 h0 [a] := Keep.refl h0 _
  show own_Gl p e below (own_Post s (own_Q_ali Z a aD h0 n0) ({ frames := 3, cells := 0, slots := 0, locals := 36 } : Room).cells ({ frames := 3, cells := 0, slots := 0, locals := 36 } : Room).slots) _
  refine own_st (fun tg_ kg_ => castTop (own_ef_ali m a) kg_) ?_
  show own_Gl p e below _ (s₁.setTop (mkF m 0 #[.val (.ref a)] []))
  have ns_a := E_a.nostat
  refine own_st (fun tg_ kg_ => XS.aloadN X0.here hx rfl (hb hby own_d_jdk_38_method_2_code_0) rfl rfl kg_) ?_
  show own_Gl p e below _ (s₁.setTop (mkF m 1 #[.val (.ref a)] [(.ref a)]))
  obtain ⟨_, _, ⟨T1, L1, k1, n1⟩, -, X1, ⟨Lc1, hQ1, l1, y1, z1⟩, st1⟩ := X0.specialBack hx (y := (⟨"java/util/AbstractList", "<init>", "()V"⟩ : MethodName)) rfl hown (mvT hZ (hw _ (List.mem_of_getElem? (i := 19) rfl))) (mvT hZ (hw _ (List.mem_of_getElem? (i := 20) rfl))) (mvT hZ (hw _ (List.mem_of_getElem? (i := 24) rfl))) (by decide) (backOf (W := 0) (own_rm_abl l Z a0 hw [] a h0 n0 (Nat.le_trans Z0 K0.1) E_a F_m F_e F_s g_a) hZ (hw _ (List.mem_of_getElem? (i := 24) rfl)) (hw _ (List.mem_of_getElem? (i := 23) rfl)) (by decide) (by decide)) (g := (mkF m 1 #[.val (.ref a)] [(.ref a)])) rfl (by rw [hml]; rfl) (Steps.refl _) (a := a) (argsL := []) (rest := []) (lenOf own_pd0 rfl) rfl (by show 2 * 0 + _ ≤ _; exact Nat.le_of_eq rfl) (hb hby own_d_jdk_38_method_2_code_1) (fun _ _ => ⟨rfl, e0, (by decide : 0 + 0 ≤ _), (by decide : 0 + 0 ≤ _)⟩)
  dsimp only [Pt.U, Pt.locs, Pt.cells, Pt.slots] at X1 l1 y1 z1 st1 hQ1
  subst l1 y1 z1
  obtain ⟨rfl, N1q, Kc1, F_m, F_e, F_s⟩ := hQ1
  have N1 := Fr.app N0 N1q
  refine own_tr st1 ?_
  replace E_a := E_a.keep Kc1
  have K2 : Keep h0 T1.heap [a] := K0.trans Kc1 (allS (Or.inl (List.mem_of_getElem? (i := 0) rfl)) all0)
  try clear Kc1
  show own_Gl p e below _ (T1.setTop (mkF m 4 #[.val (.ref a)] []))
  try clear st1
  try clear N1q
  refine own_st (fun tg_ kg_ => XS.aloadN X1.here hx rfl (hb hby own_d_jdk_38_method_2_code_4) rfl rfl kg_) ?_
  show own_Gl p e below _ (T1.setTop (mkF m 5 #[.val (.ref a)] [(.ref a)]))
  obtain ⟨T3, X3, e3, st3⟩ := getS2 X1 hx hZ hown (host := "") (Or.inl (hw _ (List.mem_of_getElem? (i := 34) rfl))) Via.refl rfl (own_sta_keep S_D K2 (nsS ns_a ns0)) (g := (mkF m 5 #[.val (.ref a)] [(.ref a)])) rfl (hb hby own_d_jdk_38_method_2_code_5)
  refine own_st st3 ?_
  try clear st3
  try clear X1
  show own_Gl p e below _ (T3.setTop (mkF m 8 #[.val (.ref a)] [(.ref aD), (.ref a)]))
  obtain ⟨T4, h4, X4, e4, W4, st4⟩ := putF X3 hx hZ hown (host := "") (Or.inl (hw _ (List.mem_of_getElem? (i := 35) rfl))) Via.refl e3 F_e E_a (Or.inl (hw _ (List.mem_of_getElem? (i := 36) rfl))) (hw _ (List.mem_of_getElem? (i := 14) rfl)) (ty := (.array (.object "java/lang/Object"))) (by decide) rfl rfl (g := (mkF m 8 #[.val (.ref a)] [(.ref aD), (.ref a)])) rfl rfl (hb hby own_d_jdk_38_method_2_code_8)
  have N4 := Fr.snoc X4 N1 g_a
  try clear N1
  replace E_a := E_a.wr W4
  replace F_m := F_m.other W4 (Or.inr (slot_ne (Or.inl (hw _ (List.mem_of_getElem? (i := 33) rfl))) (Or.inl (hw _ (List.mem_of_getElem? (i := 36) rfl))) (by decide) (t := .int) (t' := (.array (.object "java/lang/Object"))) (by decide) (by decide)))
  replace F_e := F_e.same W4
  replace F_s := F_s.other W4 (Or.inr (slot_ne (Or.inl (hw _ (List.mem_of_getElem? (i := 59) rfl))) (Or.inl (hw _ (List.mem_of_getElem? (i := 36) rfl))) (by decide) (t := .int) (t' := (.array (.object "java/lang/Object"))) (by decide) (by decide)))
  have K5 : Keep h0 h4 [a] := K2.wr W4 (Or.inl (List.mem_of_getElem? (i := 0) rfl))
  try clear K2
  refine own_st st4 ?_
  try clear st4
  try clear e3
  try clear X3
  try clear T3
  show own_Gl p e below _ (T4.setTop (mkF m 11 #[.val (.ref a)] []))
  exact own_retV X4 hx Bd.notSynchronized Bd.returns (hb hby own_d_jdk_38_method_2_code_11) (by decide) (by decide) e4 (⟨rfl, N4, K5, F_m, F_e, F_s⟩)
theorem own_pn4 : plainName "com/example/ratably/ratably/method/EvenPeriods" = true := by first | (simp [plainName, overriddenIn]; done) | decide +kernel
theorem own_d_prog_13_method_1_code_0 : decode prog_13_method_1_code 0 = .ok (.aload_n 0, 1) := by decide +kernel
theorem own_d_prog_13_method_1_code_1 : decode prog_13_method_1_code 1 = .ok (.invokespecial 1, 3) := by decide +kernel
theorem own_d_prog_13_method_1_code_4 : decode prog_13_method_1_code 4 = .ok (.return_, 1) := by decide +kernel
theorem own_ef_epi (m : MethodId) (x0 : Addr) : entryFrame m #[(.ref x0)] 1 = mkF m 0 #[.val (.ref x0)] [] := by first | (simp [entryFrame, mkF, argsToLocals, Value.category]; done) | rfl
def own_Q_epi (Z : State) (a : Addr) (h0 : Heap) (n0 : Nat) (v : Option Value) (h : Heap) (L : List Loc) : Prop := v = none ∧ Fr n0 L ∧ h = h0
set_option maxRecDepth 65536 in
set_option maxHeartbeats 40000000 in
theorem own_rm_epi (l : Launch) (Z : State) (a0 : Array Value) (hw : ∀ d ∈ tables_1, d.before a0 Z = true) (ws : List Jvm.Cond) (a : Addr) (h0 : Heap) (n0 : Nat) (Z0 : n0 ≤ h0.size)  :
    MetFree l (⟨"com/example/ratably/ratably/method/EvenPeriods", "<init>", "()V"⟩ : MethodName) (head1 (Jvm.Cond.code (⟨"com/example/ratably/ratably/method/EvenPeriods", "<init>", "()V"⟩ : MethodName) prog_13_method_1_code 1 none :: ws) ({ frames := 1, cells := 0, slots := 0, locals := 12 } : Room)) (fun aa UU => aa = #[(.ref a)] ∧ Z.Warmed39 UU.vm ∧ UU.heap = h0) (fun _ _ _ _ _ => True) (fun _ UU oo UU' => ∃ vv LL, oo = .returned vv ∧ own_Q_epi Z a h0 n0 vv UU'.heap LL ∧ FrameEnd UU oo UU' LL ({ frames := 1, cells := 0, slots := 0, locals := 12 } : Room).cells ({ frames := 1, cells := 0, slots := 0, locals := 12 } : Room).slots) := by
  refine MetFree.of_bodySF (plainFor_of_name own_pn4) hisR ?_
  intro p e s m args below meth c s₁ Bd hml0 hP hK
  obtain ⟨rfl, hZ, hh⟩ := hP
  have hx := Bd.exec
  have hby := Bd.bytes
  have hml : c.maxLocals = 1 := hml0
  have hown : s.vm.findClass "com/example/ratably/ratably/method/EvenPeriods" = some m.cls := findClass_of_methodNamed Bd.named
  have hnm := (name_of_methodNamed Bd.named Bd.method).1
  have X0 : Stand p l e ({ frames := 1, cells := 0, slots := 0, locals := 12 } : Room) s m #[(.ref a)] below meth c s₁ [] 0 0 := Stand.of_body Bd
  have e0 : s₁.heap = h0 := by rw [← hh, Bd.state]; rfl
  have N0 := Fr.nil n0
  show own_Gl p e below (own_Post s (own_Q_epi Z a h0 n0) ({ frames := 1, cells := 0, slots := 0, locals := 12 } : Room).cells ({ frames := 1, cells := 0, slots := 0, locals := 12 } : Room).slots) _
  refine own_st (fun tg_ kg_ => castTop (own_ef_epi m a) kg_) ?_
  show own_Gl p e below _ (s₁.setTop (mkF m 0 #[.val (.ref a)] []))
  refine own_st (fun tg_ kg_ => XS.aloadN X0.here hx rfl (hb hby own_d_prog_13_method_1_code_0) rfl rfl kg_) ?_
  show own_Gl p e below _ (s₁.setTop (mkF m 1 #[.val (.ref a)] [(.ref a)]))
  obtain ⟨T1, X1, e1, st1⟩ := initO X0 hx hZ hown (hw _ (List.mem_of_getElem? (i := 43) rfl)) (hw _ (List.mem_of_getElem? (i := 7) rfl)) (hw _ (List.mem_of_getElem? (i := 8) rfl)) e0 (g := (mkF m 1 #[.val (.ref a)] [(.ref a)])) rfl (by rw [hml]; rfl) rfl (hb hby own_d_prog_13_method_1_code_1) (by decide) (W := 0) (by show 2 * 0 + _ ≤ _; exact Nat.le_of_eq rfl) (by decide)
  refine own_st st1 ?_
  try clear st1
  show own_Gl p e below _ (T1.setTop (mkF m 4 #[.val (.ref a)] []))
  exact own_retV X1 hx Bd.notSynchronized Bd.returns (hb hby own_d_prog_13_method_1_code_4) (by decide) (by decide) e1 (⟨rfl, N0, rfl⟩)
theorem own_d_jdk_38_method_8_code_0 : decode jdk_38_method_8_code 0 = .ok (.aload_n 0, 1) := by decide +kernel
theorem own_d_jdk_38_method_8_code_1 : decode jdk_38_method_8_code 1 = .ok (.getfield 48, 3) := by decide +kernel
theorem own_d_jdk_38_method_8_code_4 : decode jdk_38_method_8_code 4 = .ok (.ireturn, 1) := by decide +kernel
theorem own_ef_siz (m : MethodId) (x0 : Addr) : entryFrame m #[(.ref x0)] 1 = mkF m 0 #[.val (.ref x0)] [] := by first | (simp [entryFrame, mkF, argsToLocals, Value.category]; done) | rfl
def own_Q_siz (Z : State) (a : Addr) (z : Int32) (h0 : Heap) (n0 : Nat) (v : Option Value) (h : Heap) (L : List Loc) : Prop := v = some (.int z) ∧ Fr n0 L ∧ h = h0
set_option maxRecDepth 65536 in
set_option maxHeartbeats 40000000 in
theorem own_rm_siz (l : Launch) (Z : State) (a0 : Array Value) (hw : ∀ d ∈ tables_1, d.before a0 Z = true) (ws : List Jvm.Cond) (a : Addr) (z : Int32) (h0 : Heap) (n0 : Nat) (Z0 : n0 ≤ h0.size) (F_s : Fld Z h0 a "java/util/ArrayList" "size" "I" (.int z)) :
    MetFree l (⟨"java/util/ArrayList", "size", "()I"⟩ : MethodName) (head1 (Jvm.Cond.code (⟨"java/util/ArrayList", "size", "()I"⟩ : MethodName) jdk_38_method_8_code 1 (some .int) :: ws) ({ frames := 0, cells := 0, slots := 0, locals := 0 } : Room)) (fun aa UU => aa = #[(.ref a)] ∧ Z.Warmed39 UU.vm ∧ UU.heap = h0) (fun _ _ _ _ _ => True) (fun _ UU oo UU' => ∃ vv LL, oo = .returned vv ∧ own_Q_siz Z a z h0 n0 vv UU'.heap LL ∧ FrameEnd UU oo UU' LL ({ frames := 0, cells := 0, slots := 0, locals := 0 } : Room).cells ({ frames := 0, cells := 0, slots := 0, locals := 0 } : Room).slots) := by
  refine MetFree.of_bodySF (plainFor_of_name own_pn3) hisR ?_
  intro p e s m args below meth c s₁ Bd hml0 hP hK
  obtain ⟨rfl, hZ, hh⟩ := hP
  have hx := Bd.exec
  have hby := Bd.bytes
  have hml : c.maxLocals = 1 := hml0
  have hown : s.vm.findClass "java/util/ArrayList" = some m.cls := findClass_of_methodNamed Bd.named
  have hnm := (name_of_methodNamed Bd.named Bd.method).1
  have X0 : Stand p l e ({ frames := 0, cells := 0, slots := 0, locals := 0 } : Room) s m #[(.ref a)] below meth c s₁ [] 0 0 := Stand.of_body Bd
  have e0 : s₁.heap = h0 := by rw [← hh, Bd.state]; rfl
  have N0 := Fr.nil n0
  show own_Gl p e below (own_Post s (own_Q_siz Z a z h0 n0) ({ frames := 0, cells := 0, slots := 0, locals := 0 } : Room).cells ({ frames := 0, cells := 0, slots := 0, locals := 0 } : Room).slots) _
  refine own_st (fun tg_ kg_ => castTop (own_ef_siz m a) kg_) ?_
  show own_Gl p e below _ (s₁.setTop (mkF m 0 #[.val (.ref a)] []))
  refine own_st (fun tg_ kg_ => XS.aloadN X0.here hx rfl (hb hby own_d_jdk_38_method_8_code_0) rfl rfl kg_) ?_
  show own_Gl p e below _ (s₁.setTop (mkF m 1 #[.val (.ref a)] [(.ref a)]))
  obtain ⟨T1, X1, e1, st1⟩ := getF X0 hx hZ hown (host := "") (Or.inl (hw _ (List.mem_of_getElem? (i := 58) rfl))) Via.refl e0 F_s (g := (mkF m 1 #[.val (.ref a)] [(.ref a)])) rfl rfl (hb hby own_d_jdk_38_method_8_code_1)
  refine own_st st1 ?_
  try clear st1
  show own_Gl p e below _ (T1.setTop (mkF m 4 #[.val (.ref a)] [(.int z)]))
  exact own_retI X1 hx Bd.notSynchronized Bd.returns (hb hby own_d_jdk_38_method_8_code_4) (by decide) (by decide) e1 (⟨rfl, N0, rfl⟩)
theorem own_d_jdk_29_method_65_code_0 : decode jdk_29_method_65_code 0 = .ok (.iload_n 0, 1) := by decide +kernel
theorem own_d_jdk_29_method_65_code_1 : decode jdk_29_method_65_code 1 = .ok (.iload_n 1, 1) := by decide +kernel
theorem own_d_jdk_29_method_65_code_2 : decode jdk_29_method_65_code 2 = .ok (.if_icmp .lt 7, 3) := by decide +kernel
theorem own_d_jdk_29_method_65_code_5 : decode jdk_29_method_65_code 5 = .ok (.iload_n 0, 1) := by decide +kernel
theorem own_d_jdk_29_method_65_code_6 : decode jdk_29_method_65_code 6 = .ok (.goto 4, 3) := by decide +kernel
theorem own_d_jdk_29_method_65_code_9 : decode jdk_29_method_65_code 9 = .ok (.iload_n 1, 1) := by decide +kernel
theorem own_d_jdk_29_method_65_code_10 : decode jdk_29_method_65_code 10 = .ok (.ireturn, 1) := by decide +kernel
theorem own_ef_max (m : MethodId) (x0 : Int32) (x1 : Int32) : entryFrame m #[(.int x0), (.int x1)] 2 = mkF m 0 #[.val (.int x0), .val (.int x1)] [] := by first | (simp [entryFrame, mkF, argsToLocals, Value.category]; done) | rfl
def own_Q_max (Z : State) (p1 p2 r : Int32) (h0 : Heap) (n0 : Nat) (v : Option Value) (h : Heap) (L : List Loc) : Prop := v = some (.int r) ∧ Fr n0 L ∧ h = h0
set_option maxRecDepth 65536 in
set_option maxHeartbeats 40000000 in
theorem own_rm_max (l : Launch) (Z : State) (a0 : Array Value) (hw : ∀ d ∈ tables_1, d.before a0 Z = true) (ws : List Jvm.Cond) (p1 p2 r : Int32) (h0 : Heap) (n0 : Nat) (Z0 : n0 ≤ h0.size) (hm : own_max p1 p2 = r) :
    MetFree l (⟨"java/lang/Math", "max", "(II)I"⟩ : MethodName) (head1 (Jvm.Cond.code (⟨"java/lang/Math", "max", "(II)I"⟩ : MethodName) jdk_29_method_65_code 2 (some .int) :: ws) ({ frames := 0, cells := 0, slots := 0, locals := 0 } : Room)) (fun aa UU => aa = #[(.int p1), (.int p2)] ∧ Z.Warmed39 UU.vm ∧ UU.heap = h0) (fun _ _ _ _ _ => True) (fun _ UU oo UU' => ∃ vv LL, oo = .returned vv ∧ own_Q_max Z p1 p2 r h0 n0 vv UU'.heap LL ∧ FrameEnd UU oo UU' LL ({ frames := 0, cells := 0, slots := 0, locals := 0 } : Room).cells ({ frames := 0, cells := 0, slots := 0, locals := 0 } : Room).slots) := by
  refine MetFree.of_bodySF (Jvm.Free.JP.mathPlain rfl (by decide +kernel)) hisR ?_
  intro p e s m args below meth c s₁ Bd hml0 hP hK
  obtain ⟨rfl, hZ, hh⟩ := hP
  have hx := Bd.exec
  have hby := Bd.bytes
  have hml : c.maxLocals = 2 := hml0
  have hown : s.vm.findClass "java/lang/Math" = some m.cls := findClass_of_methodNamed Bd.named
  have hnm := (name_of_methodNamed Bd.named Bd.method).1
  have X0 : Stand p l e ({ frames := 0, cells := 0, slots := 0, locals := 0 } : Room) s m #[(.int p1), (.int p2)] below meth c s₁ [] 0 0 := Stand.of_body Bd
  have e0 : s₁.heap = h0 := by rw [← hh, Bd.state]; rfl
  have N0 := Fr.nil n0
  show own_Gl p e below (own_Post s (own_Q_max Z p1 p2 r h0 n0) ({ frames := 0, cells := 0, slots := 0, locals := 0 } : Room).cells ({ frames := 0, cells := 0, slots := 0, locals := 0 } : Room).slots) _
  refine own_st (fun tg_ kg_ => castTop (own_ef_max m p1 p2) kg_) ?_
  show own_Gl p e below _ (s₁.setTop (mkF m 0 #[.val (.int p1), .val (.int p2)] []))
  refine own_st (fun tg_ kg_ => XS.iloadN X0.here hx rfl (hb hby own_d_jdk_29_method_65_code_0) rfl kg_) ?_
  show own_Gl p e below _ (s₁.setTop (mkF m 1 #[.val (.int p1), .val (.int p2)] [(.int p1)]))
  refine own_st (fun tg_ kg_ => XS.iloadN X0.here hx rfl (hb hby own_d_jdk_29_method_65_code_1) rfl kg_) ?_
  show own_Gl p e below _ (s₁.setTop (mkF m 2 #[.val (.int p1), .val (.int p2)] [(.int p2), (.int p1)]))
  by_cases hc2_1 : p1 < p2
  ·
    show own_Gl p e below _ (s₁.setTop (mkF m 2 #[.val (.int p1), .val (.int p2)] [(.int p2), (.int p1)]))
    refine own_st (fun tg_ kg_ => XS.icmpYes X0.here hx rfl (pc0 := 2) (pc' := 9) rfl (hb hby own_d_jdk_29_method_65_code_2) rfl (tlt (hc2_1)).1 (by decide) (by decide) kg_) ?_
    show own_Gl p e below _ (s₁.setTop (mkF m 9 #[.val (.int p1), .val (.int p2)] []))
    refine own_st (fun tg_ kg_ => XS.iloadN X0.here hx rfl (hb hby own_d_jdk_29_method_65_code_9) rfl kg_) ?_
    show own_Gl p e below _ (s₁.setTop (mkF m 10 #[.val (.int p1), .val (.int p2)] [(.int p2)]))
    exact own_retI X0 hx Bd.notSynchronized Bd.returns (hb hby own_d_jdk_29_method_65_code_10) (by decide) (by decide) e0 (⟨by rw [← hm]; simp [own_max, eq_true hc2_1], N0, rfl⟩)
  ·
    show own_Gl p e below _ (s₁.setTop (mkF m 2 #[.val (.int p1), .val (.int p2)] [(.int p2), (.int p1)]))
    refine own_st (fun tg_ kg_ => XS.icmpNo X0.here hx rfl (hb hby own_d_jdk_29_method_65_code_2) rfl (flt (hc2_1)).1 kg_) ?_
    show own_Gl p e below _ (s₁.setTop (mkF m 5 #[.val (.int p1), .val (.int p2)] []))
    refine own_st (fun tg_ kg_ => XS.iloadN X0.here hx rfl (hb hby own_d_jdk_29_method_65_code_5) rfl kg_) ?_
    show own_Gl p e below _ (s₁.setTop (mkF m 6 #[.val (.int p1), .val (.int p2)] [(.int p1)]))
    refine own_st (fun tg_ kg_ => XS.goto X0.here hx rfl (pc0 := 6) (pc' := 10) rfl (hb hby own_d_jdk_29_method_65_code_6) (by decide) (by decide) kg_) ?_
    show own_Gl p e below _ (s₁.setTop (mkF m 10 #[.val (.int p1), .val (.int p2)] [(.int p1)]))
    exact own_retI X0 hx Bd.notSynchronized Bd.returns (hb hby own_d_jdk_29_method_65_code_10) (by decide) (by decide) e0 (⟨by rw [← hm]; simp [own_max, eq_false hc2_1], N0, rfl⟩)
theorem own_pd1 : parseMethodDescriptor "(II)I" = some ⟨[.int, .int], some .int⟩ := by decide +kernel
theorem own_d_jdk_38_method_6_code_0 : decode jdk_38_method_6_code 0 = .ok (.aload_n 0, 1) := by decide +kernel
theorem own_d_jdk_38_method_6_code_1 : decode jdk_38_method_6_code 1 = .ok (.getfield 9, 3) := by decide +kernel
theorem own_d_jdk_38_method_6_code_4 : decode jdk_38_method_6_code 4 = .ok (.arraylength, 1) := by decide +kernel
theorem own_d_jdk_38_method_6_code_5 : decode jdk_38_method_6_code 5 = .ok (.istore_n 2, 1) := by decide +kernel
theorem own_d_jdk_38_method_6_code_6 : decode jdk_38_method_6_code 6 = .ok (.iload_n 2, 1) := by decide +kernel
theorem own_d_jdk_38_method_6_code_7 : decode jdk_38_method_6_code 7 = .ok (.ifCond .gt 13, 3) := by decide +kernel
theorem own_d_jdk_38_method_6_code_10 : decode jdk_38_method_6_code 10 = .ok (.aload_n 0, 1) := by decide +kernel
theorem own_d_jdk_38_method_6_code_11 : decode jdk_38_method_6_code 11 = .ok (.getfield 9, 3) := by decide +kernel
theorem own_d_jdk_38_method_6_code_14 : decode jdk_38_method_6_code 14 = .ok (.getstatic 39, 3) := by decide +kernel
theorem own_d_jdk_38_method_6_code_17 : decode jdk_38_method_6_code 17 = .ok (.if_acmp .eq 28, 3) := by decide +kernel
theorem own_d_jdk_38_method_6_code_45 : decode jdk_38_method_6_code 45 = .ok (.aload_n 0, 1) := by decide +kernel
theorem own_d_jdk_38_method_6_code_46 : decode jdk_38_method_6_code 46 = .ok (.bipush 10, 2) := by decide +kernel
theorem own_d_jdk_38_method_6_code_48 : decode jdk_38_method_6_code 48 = .ok (.iload_n 1, 1) := by decide +kernel
theorem own_d_jdk_38_method_6_code_49 : decode jdk_38_method_6_code 49 = .ok (.invokestatic 79, 3) := by decide +kernel
theorem own_d_jdk_38_method_6_code_52 : decode jdk_38_method_6_code 52 = .ok (.anewarray 7, 3) := by decide +kernel
theorem own_d_jdk_38_method_6_code_55 : decode jdk_38_method_6_code 55 = .ok (.dup_x1, 1) := by decide +kernel
theorem own_d_jdk_38_method_6_code_56 : decode jdk_38_method_6_code 56 = .ok (.putfield 9, 3) := by decide +kernel
theorem own_d_jdk_38_method_6_code_59 : decode jdk_38_method_6_code 59 = .ok (.areturn, 1) := by decide +kernel
theorem own_ef_gri (m : MethodId) (x0 : Addr) (x1 : Int32) : entryFrame m #[(.ref x0), (.int x1)] 4 = mkF m 0 #[.val (.ref x0), .val (.int x1), .unset, .unset] [] := by first | (simp [entryFrame, mkF, argsToLocals, Value.category]; done) | rfl
def own_Q_gri (Z : State) (a aD : Addr) (kD : ClassId) (mc : Int32) (h0 : Heap) (n0 : Nat) (v : Option Value) (h : Heap) (L : List Loc) : Prop := (∃ b k, v = some (.ref b) ∧ h0.size ≤ b ∧ Arv Z h b k (.object "java/lang/Object") (10 : Int32) [.null, .null, .null, .null, .null, .null, .null, .null, .null, .null] .null ∧ Ovr Z k "java/lang/Object" ∧ Fld Z h a "java/util/AbstractList" "modCount" "I" (.int mc) ∧ Fld Z h a "java/util/ArrayList" "elementData" "[Ljava/lang/Object;" (.ref b) ∧ Fld Z h a "java/util/ArrayList" "size" "I" (.int (0 : Int32))) ∧ Fr n0 L ∧ Keep h0 h [a]
set_option maxRecDepth 65536 in
set_option maxHeartbeats 40000000 in
theorem own_rm_gri (l : Launch) (Z : State) (a0 : Array Value) (hw : ∀ d ∈ tables_1, d.before a0 Z = true) (ws : List Jvm.Cond) (a aD : Addr) (kD : ClassId) (mc : Int32) (h0 : Heap) (n0 : Nat) (Z0 : n0 ≤ h0.size) (E_a : Exa Z h0 a "java/util/ArrayList") (F_m : Fld Z h0 a "java/util/AbstractList" "modCount" "I" (.int mc)) (F_e : Fld Z h0 a "java/util/ArrayList" "elementData" "[Ljava/lang/Object;" (.ref aD)) (F_s : Fld Z h0 a "java/util/ArrayList" "size" "I" (.int (0 : Int32))) (g_a : n0 ≤ a)(S_D : Sta Z h0 "java/util/ArrayList" "DEFAULTCAPACITY_EMPTY_ELEMENTDATA" "[Ljava/lang/Object;" (.ref aD))(V_aD : Arv Z h0 aD kD (.object "java/lang/Object") (0 : Int32) [] .null)(ne_a_aD : a ≠ aD) :
    MetFree l (⟨"java/util/ArrayList", "grow", "(I)[Ljava/lang/Object;"⟩ : MethodName) (head1 (Jvm.Cond.code (⟨"java/util/ArrayList", "grow", "(I)[Ljava/lang/Object;"⟩ : MethodName) jdk_38_method_6_code 4 (some (.array (.object "java/lang/Object"))) :: ws) ({ frames := 1, cells := 1, slots := 10, locals := 14 } : Room)) (fun aa UU => aa = #[(.ref a), (.int (1 : Int32))] ∧ Z.Warmed39 UU.vm ∧ UU.heap = h0) (fun _ _ _ _ _ => True) (fun _ UU oo UU' => ∃ vv LL, oo = .returned vv ∧ own_Q_gri Z a aD kD mc h0 n0 vv UU'.heap LL ∧ FrameEnd UU oo UU' LL ({ frames := 1, cells := 1, slots := 10, locals := 14 } : Room).cells ({ frames := 1, cells := 1, slots := 10, locals := 14 } : Room).slots) := by
  refine MetFree.of_bodySF (plainFor_of_name own_pn3) hisR ?_
  intro p e s m args below meth c s₁ Bd hml0 hP hK
  obtain ⟨rfl, hZ, hh⟩ := hP
  have hx := Bd.exec
  have hby := Bd.bytes
  have hml : c.maxLocals = 4 := hml0
  have hown : s.vm.findClass "java/util/ArrayList" = some m.cls := findClass_of_methodNamed Bd.named
  have hnm := (name_of_methodNamed Bd.named Bd.method).1
  have X0 : Stand p l e ({ frames := 1, cells := 1, slots := 10, locals := 14 } : Room) s m #[(.ref a), (.int (1 : Int32))] below meth c s₁ [] 0 0 := Stand.of_body Bd
  have e0 : s₁.heap = h0 := by rw [← hh, Bd.state]; rfl
  have N0 := Fr.nil n0
  have K0 : Keep h0 h0 [a] := Keep.refl h0 _
  show own_Gl p e below (own_Post s (own_Q_gri Z a aD kD mc h0 n0) ({ frames := 1, cells := 1, slots := 10, locals := 14 } : Room).cells ({ frames := 1, cells := 1, slots := 10, locals := 14 } : Room).slots) _
  refine own_st (fun tg_ kg_ => castTop (own_ef_gri m a (1 : Int32)) kg_) ?_
  show own_Gl p e below _ (s₁.setTop (mkF m 0 #[.val (.ref a), .val (.int (1 : Int32)), .unset, .unset] []))
  have ns_a := E_a.nostat
  refine own_st (fun tg_ kg_ => XS.aloadN X0.here hx rfl (hb hby own_d_jdk_38_method_6_code_0) rfl rfl kg_) ?_
  show own_Gl p e below _ (s₁.setTop (mkF m 1 #[.val (.ref a), .val (.int (1 : Int32)), .unset, .unset] [(.ref a)]))
  obtain ⟨T1, X1, e1, st1⟩ := getF X0 hx hZ hown (host := "") (Or.inl (hw _ (List.mem_of_getElem? (i := 35) rfl))) Via.refl e0 F_e (g := (mkF m 1 #[.val (.ref a), .val (.int (1 : Int32)), .unset, .unset] [(.ref a)])) rfl rfl (hb hby own_d_jdk_38_method_6_code_1)
  refine own_st st1 ?_
  try clear st1
  show own_Gl p e below _ (T1.setTop (mkF m 4 #[.val (.ref a), .val (.int (1 : Int32)), .unset, .unset] [(.ref aD)]))
  obtain ⟨cl2, Ar2, qa2, Sa2, Na2, Ha2, Ga2⟩ := id (V_aD.keep K0 (ninS ne_a_aD.symm nin0))
  refine own_st (fun tg_ kg_ => X1.arraylength hx (by rw [e1]; exact Ar2.1) (State.isArrayOf_alike hZ.alike Ar2.2.1) (g := (mkF m 4 #[.val (.ref a), .val (.int (1 : Int32)), .unset, .unset] [(.ref aD)])) rfl rfl (hb hby own_d_jdk_38_method_6_code_4) _ kg_) ?_
  rw [len_of Sa2 Na2]
  show own_Gl p e below _ (T1.setTop (mkF m 5 #[.val (.ref a), .val (.int (1 : Int32)), .unset, .unset] [(.int (0 : Int32))]))
  refine own_st (fun tg_ kg_ => XS.istoreN X1.here hx rfl (hb hby own_d_jdk_38_method_6_code_5) rfl (l' := #[.val (.ref a), .val (.int (1 : Int32)), .val (.int (0 : Int32)), .unset]) rfl kg_) ?_
  show own_Gl p e below _ (T1.setTop (mkF m 6 #[.val (.ref a), .val (.int (1 : Int32)), .val (.int (0 : Int32)), .unset] []))
  refine own_st (fun tg_ kg_ => XS.iloadN X1.here hx rfl (hb hby own_d_jdk_38_method_6_code_6) rfl kg_) ?_
  show own_Gl p e below _ (T1.setTop (mkF m 7 #[.val (.ref a), .val (.int (1 : Int32)), .val (.int (0 : Int32)), .unset] [(.int (0 : Int32))]))
  refine own_st (fun tg_ kg_ => XS.ifNo X1.here hx rfl (hb hby own_d_jdk_38_method_6_code_7) rfl ((if0 _ _).trans (flt ((by decide : ¬ ((0 : Int32) < (0 : Int32))))).2.2.1) kg_) ?_
  show own_Gl p e below _ (T1.setTop (mkF m 10 #[.val (.ref a), .val (.int (1 : Int32)), .val (.int (0 : Int32)), .unset] []))
  refine own_st (fun tg_ kg_ => XS.aloadN X1.here hx rfl (hb hby own_d_jdk_38_method_6_code_10) rfl rfl kg_) ?_
  show own_Gl p e below _ (T1.setTop (mkF m 11 #[.val (.ref a), .val (.int (1 : Int32)), .val (.int (0 : Int32)), .unset] [(.ref a)]))
  obtain ⟨T3, X3, e3, st3⟩ := getF X1 hx hZ hown (host := "") (Or.inl (hw _ (List.mem_of_getElem? (i := 35) rfl))) Via.refl e1 F_e (g := (mkF m 11 #[.val (.ref a), .val (.int (1 : Int32)), .val (.int (0 : Int32)), .unset] [(.ref a)])) rfl rfl (hb hby own_d_jdk_38_method_6_code_11)
  refine own_st st3 ?_
  try clear st3
  try clear e1
  try clear X1
  try clear T1
  show own_Gl p e below _ (T3.setTop (mkF m 14 #[.val (.ref a), .val (.int (1 : Int32)), .val (.int (0 : Int32)), .unset] [(.ref aD)]))
  obtain ⟨T4, X4, e4, st4⟩ := getS2 X3 hx hZ hown (host := "") (Or.inl (hw _ (List.mem_of_getElem? (i := 34) rfl))) Via.refl e3 (own_sta_keep S_D K0 (nsS ns_a ns0)) (g := (mkF m 14 #[.val (.ref a), .val (.int (1 : Int32)), .val (.int (0 : Int32)), .unset] [(.ref aD)])) rfl (hb hby own_d_jdk_38_method_6_code_14)
  refine own_st st4 ?_
  try clear st4
  try clear e3
  try clear X3
  try clear T3
  show own_Gl p e below _ (T4.setTop (mkF m 17 #[.val (.ref a), .val (.int (1 : Int32)), .val (.int (0 : Int32)), .unset] [(.ref aD), (.ref aD)]))
  refine own_st (fun tg_ kg_ => Jvm.RoadKit.acmp (g := (mkF m 17 #[.val (.ref a), .val (.int (1 : Int32)), .val (.int (0 : Int32)), .unset] [(.ref aD), (.ref aD)])) X4 hx rfl rfl rfl (pc0 := 17) (pc' := 45) (same := true) rfl (hb hby own_d_jdk_38_method_6_code_17) rfl (decide_eq_true (rfl)) (by decide) (by decide) kg_) ?_
  show own_Gl p e below _ (T4.setTop (mkF m 45 #[.val (.ref a), .val (.int (1 : Int32)), .val (.int (0 : Int32)), .unset] []))
  refine own_st (fun tg_ kg_ => XS.aloadN X4.here hx rfl (hb hby own_d_jdk_38_method_6_code_45) rfl rfl kg_) ?_
  show own_Gl p e below _ (T4.setTop (mkF m 46 #[.val (.ref a), .val (.int (1 : Int32)), .val (.int (0 : Int32)), .unset] [(.ref a)]))
  refine own_st (fun tg_ kg_ => XS.bipush X4.here hx rfl (hb hby own_d_jdk_38_method_6_code_46) kg_) ?_
  show own_Gl p e below _ (T4.setTop (mkF m 48 #[.val (.ref a), .val (.int (1 : Int32)), .val (.int (0 : Int32)), .unset] [(.int (10 : Int32)), (.ref a)]))
  refine own_st (fun tg_ kg_ => XS.iloadN X4.here hx rfl (hb hby own_d_jdk_38_method_6_code_48) rfl kg_) ?_
  show own_Gl p e below _ (T4.setTop (mkF m 49 #[.val (.ref a), .val (.int (1 : Int32)), .val (.int (0 : Int32)), .unset] [(.int (1 : Int32)), (.int (10 : Int32)), (.ref a)]))
  obtain ⟨_, _, ⟨T5, L5, k5, n5⟩, -, X5, ⟨Lc5, hQ5, l5, y5, z5⟩, st5⟩ := Jvm.LawKit.callS X4 hx (y := (⟨"java/lang/Math", "max", "(II)I"⟩ : MethodName)) hown (mvT hZ (hw _ (List.mem_of_getElem? (i := 90) rfl))) (mvT hZ (hw _ (List.mem_of_getElem? (i := 91) rfl))) (mvT hZ (hw _ (List.mem_of_getElem? (i := 92) rfl))) (mvT hZ (hw _ (List.mem_of_getElem? (i := 93) rfl))) (by decide) (backOf (W := 1) (own_rm_max l Z a0 hw [] (10 : Int32) (1 : Int32) (10 : Int32) h0 n0 (Nat.le_trans Z0 K0.1) (by decide)) hZ (hw _ (List.mem_of_getElem? (i := 93) rfl)) (hw _ (List.mem_of_getElem? (i := 92) rfl)) (by decide) (by decide)) (g := (mkF m 49 #[.val (.ref a), .val (.int (1 : Int32)), .val (.int (0 : Int32)), .unset] [(.int (1 : Int32)), (.int (10 : Int32)), (.ref a)])) rfl (by rw [hml]; rfl) (argsL := [(.int (10 : Int32)), (.int (1 : Int32))]) (rest := [(.ref a)]) (lenOf own_pd1 rfl) rfl (by show 2 * 0 + _ ≤ _; exact Nat.le_of_eq rfl) (hb hby own_d_jdk_38_method_6_code_49) (fun _ _ => ⟨rfl, e4, (by decide : 0 + 0 ≤ _), (by decide : 0 + 0 ≤ _)⟩)
  dsimp only [Pt.U, Pt.locs, Pt.cells, Pt.slots] at X5 l5 y5 z5 st5 hQ5
  subst l5 y5 z5
  obtain ⟨rfl, N5q, e5⟩ := hQ5
  have N5 := Fr.app N0 N5q
  refine own_st st5 ?_
  show own_Gl p e below _ (T5.setTop (mkF m 52 #[.val (.ref a), .val (.int (1 : Int32)), .val (.int (0 : Int32)), .unset] [(.int (10 : Int32)), (.ref a)]))
  try clear st5
  try clear N5q
  try clear e4
  try clear X4
  try clear T4
  obtain ⟨T6, h6, k6, X6, e6, E6, A6, O6, st6⟩ := newR X5 hx hZ hown (hw _ (List.mem_of_getElem? (i := 94) rfl)) (hw _ (List.mem_of_getElem? (i := 95) rfl)) e5 (g := (mkF m 52 #[.val (.ref a), .val (.int (1 : Int32)), .val (.int (0 : Int32)), .unset] [(.int (10 : Int32)), (.ref a)])) rfl (hb hby own_d_jdk_38_method_6_code_52) rfl (by decide) (cap := 10) (by decide) (by decide) (by decide) (by decide)
  obtain ⟨b6, g6⟩ : ∃ z, z = h0.size := ⟨_, rfl⟩
  have ne_a_b6 : a ≠ b6 := Nat.ne_of_lt (Nat.lt_of_lt_of_le E_a.lt (Nat.le_of_eq g6.symm))
  have ne_aD_b6 : aD ≠ b6 := Nat.ne_of_lt (Nat.lt_of_lt_of_le (V_aD.keep K0 (ninS ne_a_aD.symm nin0)).lt (Nat.le_of_eq g6.symm))
  have sz_b6 : h0.size ≤ b6 := (Nat.le_trans K0.1 (Nat.le_of_eq g6.symm))
  have g_b6 : n0 ≤ b6 := Nat.le_trans Z0 sz_b6
  rw [← g6] at A6 st6
  replace E_a := E_a.ext E6
  replace F_m := F_m.ext E6
  replace F_e := F_e.ext E6
  replace F_s := F_s.ext E6
  have K7 : Keep h0 h6 [a] := K0.ext E6
  try clear E6
  have V_b6 : Arv Z h6 b6 k6 (.object "java/lang/Object") (10 : Int32) [.null, .null, .null, .null, .null, .null, .null, .null, .null, .null] .null := (Arv.new A6 (by decide)).pad (pad_rep [] .null 10)
  refine own_st st6 ?_
  try clear st6
  try clear e5
  try clear X5
  try clear T5
  show own_Gl p e below _ (T6.setTop (mkF m 55 #[.val (.ref a), .val (.int (1 : Int32)), .val (.int (0 : Int32)), .unset] [(.ref b6), (.ref a)]))
  refine own_st (fun tg_ kg_ => XS.dupX1 X6.here hx rfl (hb hby own_d_jdk_38_method_6_code_55) rfl rfl rfl kg_) ?_
  show own_Gl p e below _ (T6.setTop (mkF m 56 #[.val (.ref a), .val (.int (1 : Int32)), .val (.int (0 : Int32)), .unset] [(.ref b6), (.ref a), (.ref b6)]))
  obtain ⟨T8, h8, X8, e8, W8, st8⟩ := putF X6 hx hZ hown (host := "") (Or.inl (hw _ (List.mem_of_getElem? (i := 35) rfl))) Via.refl e6 F_e E_a (Or.inl (hw _ (List.mem_of_getElem? (i := 36) rfl))) (hw _ (List.mem_of_getElem? (i := 14) rfl)) (ty := (.array (.object "java/lang/Object"))) (by decide) rfl rfl (g := (mkF m 56 #[.val (.ref a), .val (.int (1 : Int32)), .val (.int (0 : Int32)), .unset] [(.ref b6), (.ref a), (.ref b6)])) rfl rfl (hb hby own_d_jdk_38_method_6_code_56)
  have N8 := Fr.snoc X8 N5 g_a
  try clear N5
  replace E_a := E_a.wr W8
  replace F_m := F_m.other W8 (Or.inr (slot_ne (Or.inl (hw _ (List.mem_of_getElem? (i := 33) rfl))) (Or.inl (hw _ (List.mem_of_getElem? (i := 36) rfl))) (by decide) (t := .int) (t' := (.array (.object "java/lang/Object"))) (by decide) (by decide)))
  replace F_e := F_e.same W8
  replace F_s := F_s.other W8 (Or.inr (slot_ne (Or.inl (hw _ (List.mem_of_getElem? (i := 59) rfl))) (Or.inl (hw _ (List.mem_of_getElem? (i := 36) rfl))) (by decide) (t := .int) (t' := (.array (.object "java/lang/Object"))) (by decide) (by decide)))
  replace V_b6 := V_b6.other W8 ne_a_b6.symm
  have K9 : Keep h0 h8 [a] := K7.wr W8 (Or.inl (List.mem_of_getElem? (i := 0) rfl))
  try clear K7
  refine own_st st8 ?_
  try clear st8
  try clear e6
  try clear X6
  try clear T6
  show own_Gl p e below _ (T8.setTop (mkF m 59 #[.val (.ref a), .val (.int (1 : Int32)), .val (.int (0 : Int32)), .unset] [(.ref b6)]))
  exact own_retA X8 hx Bd.notSynchronized Bd.returns rfl rfl (hb hby own_d_jdk_38_method_6_code_59) (by decide) (by decide) e8 (⟨⟨_, _, rfl, sz_b6, V_b6, O6, F_m, F_e, F_s⟩, N8, K9⟩)
theorem own_pd2 : parseMethodDescriptor "(I)[Ljava/lang/Object;" = some ⟨[.int], some (.array (.object "java/lang/Object"))⟩ := by decide +kernel
theorem own_d_jdk_38_method_7_code_0 : decode jdk_38_method_7_code 0 = .ok (.aload_n 0, 1) := by decide +kernel
theorem own_d_jdk_38_method_7_code_1 : decode jdk_38_method_7_code 1 = .ok (.aload_n 0, 1) := by decide +kernel
theorem own_d_jdk_38_method_7_code_2 : decode jdk_38_method_7_code 2 = .ok (.getfield 48, 3) := by decide +kernel
theorem own_d_jdk_38_method_7_code_5 : decode jdk_38_method_7_code 5 = .ok (.iconst 1, 1) := by decide +kernel
theorem own_d_jdk_38_method_7_code_6 : decode jdk_38_method_7_code 6 = .ok (.iadd, 1) := by decide +kernel
theorem own_d_jdk_38_method_7_code_7 : decode jdk_38_method_7_code 7 = .ok (.invokevirtual 69, 3) := by decide +kernel
theorem own_d_jdk_38_method_7_code_10 : decode jdk_38_method_7_code 10 = .ok (.areturn, 1) := by decide +kernel
theorem own_ef_gro (m : MethodId) (x0 : Addr) : entryFrame m #[(.ref x0)] 1 = mkF m 0 #[.val (.ref x0)] [] := by first | (simp [entryFrame, mkF, argsToLocals, Value.category]; done) | rfl
def own_Q_gro (Z : State) (a aD : Addr) (kD : ClassId) (mc : Int32) (h0 : Heap) (n0 : Nat) (v : Option Value) (h : Heap) (L : List Loc) : Prop := (∃ b k, v = some (.ref b) ∧ h0.size ≤ b ∧ Arv Z h b k (.object "java/lang/Object") (10 : Int32) [.null, .null, .null, .null, .null, .null, .null, .null, .null, .null] .null ∧ Ovr Z k "java/lang/Object" ∧ Fld Z h a "java/util/AbstractList" "modCount" "I" (.int mc) ∧ Fld Z h a "java/util/ArrayList" "elementData" "[Ljava/lang/Object;" (.ref b) ∧ Fld Z h a "java/util/ArrayList" "size" "I" (.int (0 : Int32))) ∧ Fr n0 L ∧ Keep h0 h [a]
set_option maxRecDepth 65536 in
set_option maxHeartbeats 40000000 in
theorem own_rm_gro (l : Launch) (Z : State) (a0 : Array Value) (hw : ∀ d ∈ tables_1, d.before a0 Z = true) (ws : List Jvm.Cond) (a aD : Addr) (kD : ClassId) (mc : Int32) (h0 : Heap) (n0 : Nat) (Z0 : n0 ≤ h0.size) (E_a : Exa Z h0 a "java/util/ArrayList") (F_m : Fld Z h0 a "java/util/AbstractList" "modCount" "I" (.int mc)) (F_e : Fld Z h0 a "java/util/ArrayList" "elementData" "[Ljava/lang/Object;" (.ref aD)) (F_s : Fld Z h0 a "java/util/ArrayList" "size" "I" (.int (0 : Int32))) (g_a : n0 ≤ a)(S_D : Sta Z h0 "java/util/ArrayList" "DEFAULTCAPACITY_EMPTY_ELEMENTDATA" "[Ljava/lang/Object;" (.ref aD))(V_aD : Arv Z h0 aD kD (.object "java/lang/Object") (0 : Int32) [] .null)(ne_a_aD : a ≠ aD) :
    MetFree l (⟨"java/util/ArrayList", "grow", "()[Ljava/lang/Object;"⟩ : MethodName) (head1 (Jvm.Cond.code (⟨"java/util/ArrayList", "grow", "()[Ljava/lang/Object;"⟩ : MethodName) jdk_38_method_7_code 1 (some (.array (.object "java/lang/Object"))) :: ws) ({ frames := 2, cells := 1, slots := 10, locals := 29 } : Room)) (fun aa UU => aa = #[(.ref a)] ∧ Z.Warmed39 UU.vm ∧ UU.heap = h0) (fun _ _ _ _ _ => True) (fun _ UU oo UU' => ∃ vv LL, oo = .returned vv ∧ own_Q_gro Z a aD kD mc h0 n0 vv UU'.heap LL ∧ FrameEnd UU oo UU' LL ({ frames := 2, cells := 1, slots := 10, locals := 29 } : Room).cells ({ frames := 2, cells := 1, slots := 10, locals := 29 } : Room).slots) := by
  refine MetFree.of_bodySF (plainFor_of_name own_pn3) hisR ?_
  intro p e s m args below meth c s₁ Bd hml0 hP hK
  obtain ⟨rfl, hZ, hh⟩ := hP
  have hx := Bd.exec
  have hby := Bd.bytes
  have hml : c.maxLocals = 1 := hml0
  have hown : s.vm.findClass "java/util/ArrayList" = some m.cls := findClass_of_methodNamed Bd.named
  have hnm := (name_of_methodNamed Bd.named Bd.method).1
  have X0 : Stand p l e ({ frames := 2, cells := 1, slots := 10, locals := 29 } : Room) s m #[(.ref a)] below meth c s₁ [] 0 0 := Stand.of_body Bd
  have e0 : s₁.heap = h0 := by rw [← hh, Bd.state]; rfl
  have N0 := Fr.nil n0
  have K0 : Keep h0 h0 [a] := Keep.refl h0 _
  show own_Gl p e below (own_Post s (own_Q_gro Z a aD kD mc h0 n0) ({ frames := 2, cells := 1, slots := 10, locals := 29 } : Room).cells ({ frames := 2, cells := 1, slots := 10, locals := 29 } : Room).slots) _
  refine own_st (fun tg_ kg_ => castTop (own_ef_gro m a) kg_) ?_
  show own_Gl p e below _ (s₁.setTop (mkF m 0 #[.val (.ref a)] []))
  have ns_a := E_a.nostat
  refine own_st (fun tg_ kg_ => XS.aloadN X0.here hx rfl (hb hby own_d_jdk_38_method_7_code_0) rfl rfl kg_) ?_
  show own_Gl p e below _ (s₁.setTop (mkF m 1 #[.val (.ref a)] [(.ref a)]))
  refine own_st (fun tg_ kg_ => XS.aloadN X0.here hx rfl (hb hby own_d_jdk_38_method_7_code_1) rfl rfl kg_) ?_
  show own_Gl p e below _ (s₁.setTop (mkF m 2 #[.val (.ref a)] [(.ref a), (.ref a)]))
  obtain ⟨T1, X1, e1, st1⟩ := getF X0 hx hZ hown (host := "") (Or.inl (hw _ (List.mem_of_getElem? (i := 58) rfl))) Via.refl e0 F_s (g := (mkF m 2 #[.val (.ref a)] [(.ref a), (.ref a)])) rfl rfl (hb hby own_d_jdk_38_method_7_code_2)
  refine own_st st1 ?_
  try clear st1
  show own_Gl p e below _ (T1.setTop (mkF m 5 #[.val (.ref a)] [(.int (0 : Int32)), (.ref a)]))
  refine own_st (fun tg_ kg_ => XS.iconst X1.here hx rfl (hb hby own_d_jdk_38_method_7_code_5) kg_) ?_
  show own_Gl p e below _ (T1.setTop (mkF m 6 #[.val (.ref a)] [(.int (1 : Int32)), (.int (0 : Int32)), (.ref a)]))
  refine own_st (fun tg_ kg_ => XS.iadd X1.here hx rfl (hb hby own_d_jdk_38_method_7_code_6) rfl kg_) ?_
  show own_Gl p e below _ (T1.setTop (mkF m 7 #[.val (.ref a)] [(.int (1 : Int32)), (.ref a)]))
  obtain ⟨cq2, q2, q2'⟩ := E_a.cell
  obtain ⟨_, _, ⟨T2, L2, k2, n2⟩, -, X2, ⟨Lc2, hQ2, l2, y2, z2⟩, st2⟩ := X1.privateBack hx (y := (⟨"java/util/ArrayList", "grow", "(I)[Ljava/lang/Object;"⟩ : MethodName)) hown (mvT hZ (hw _ (List.mem_of_getElem? (i := 85) rfl))) (mvT hZ (hw _ (List.mem_of_getElem? (i := 86) rfl))) (mvT hZ (hw _ (List.mem_of_getElem? (i := 88) rfl))) (Cond.privateMethod_at (mvP hZ (hw _ (List.mem_of_getElem? (i := 87) rfl)) (args := #[]))) (mvT hZ (hw _ (List.mem_of_getElem? (i := 89) rfl))) (by decide) (backOf (W := 0) (own_rm_gri l Z a0 hw [] a aD kD mc h0 n0 (Nat.le_trans Z0 K0.1) E_a F_m F_e F_s g_a (own_sta_keep S_D K0 (nsS ns_a ns0)) (V_aD.keep K0 (ninS ne_a_aD.symm nin0)) ne_a_aD) hZ (hw _ (List.mem_of_getElem? (i := 89) rfl)) (hw _ (List.mem_of_getElem? (i := 15) rfl)) (by decide) (by decide)) (g := (mkF m 7 #[.val (.ref a)] [(.int (1 : Int32)), (.ref a)])) rfl (by rw [hml]; rfl) (Steps.refl _) (a := a) (by rw [e1]; exact q2) q2' (argsL := [(.int (1 : Int32))]) (rest := []) (lenOf own_pd2 rfl) rfl (by show 2 * 0 + _ ≤ _; exact Nat.le_of_eq rfl) (hb hby own_d_jdk_38_method_7_code_7) (fun _ _ => ⟨rfl, e1, (by decide : 0 + 1 ≤ _), (by decide : 0 + 10 ≤ _)⟩)
  dsimp only [Pt.U, Pt.locs, Pt.cells, Pt.slots] at X2 l2 y2 z2 st2 hQ2
  subst l2 y2 z2
  obtain ⟨⟨b, kb, rfl, szc2, V_b, O_b, F_m, F_e, F_s⟩, N2q, Kc2⟩ := hQ2
  have N2 := Fr.app N0 N2q
  refine own_tr st2 ?_
  have ne_a_b : a ≠ b := Nat.ne_of_lt (Nat.lt_of_lt_of_le E_a.lt szc2)
  have ne_aD_b : aD ≠ b := Nat.ne_of_lt (Nat.lt_of_lt_of_le (V_aD.keep K0 (ninS ne_a_aD.symm nin0)).lt szc2)
  have sz_b : h0.size ≤ b := Nat.le_trans K0.1 szc2
  have g_b : n0 ≤ b := Nat.le_trans Z0 sz_b
  replace E_a := E_a.keep Kc2
  have K3 : Keep h0 T2.heap [a] := K0.trans Kc2 (allS (Or.inl (List.mem_of_getElem? (i := 0) rfl)) all0)
  try clear Kc2
  show own_Gl p e below _ (T2.setTop (mkF m 10 #[.val (.ref a)] [(.ref b)]))
  try clear st2
  try clear N2q
  try clear e1
  try clear X1
  try clear T1
  exact own_retA X2 hx Bd.notSynchronized Bd.returns rfl rfl (hb hby own_d_jdk_38_method_7_code_10) (by decide) (by decide) rfl (⟨⟨_, _, rfl, sz_b, V_b, O_b, F_m, F_e, F_s⟩, N2, K3⟩)
theorem own_pd3 : parseMethodDescriptor "()[Ljava/lang/Object;" = some ⟨[], some (.array (.object "java/lang/Object"))⟩ := by decide +kernel
theorem own_d_jdk_38_method_24_code_0 : decode jdk_38_method_24_code 0 = .ok (.iload_n 3, 1) := by decide +kernel
theorem own_d_jdk_38_method_24_code_1 : decode jdk_38_method_24_code 1 = .ok (.aload_n 2, 1) := by decide +kernel
theorem own_d_jdk_38_method_24_code_2 : decode jdk_38_method_24_code 2 = .ok (.arraylength, 1) := by decide +kernel
theorem own_d_jdk_38_method_24_code_3 : decode jdk_38_method_24_code 3 = .ok (.if_icmp .ne 8, 3) := by decide +kernel
theorem own_d_jdk_38_method_24_code_6 : decode jdk_38_method_24_code 6 = .ok (.aload_n 0, 1) := by decide +kernel
theorem own_d_jdk_38_method_24_code_7 : decode jdk_38_method_24_code 7 = .ok (.invokevirtual 129, 3) := by decide +kernel
theorem own_d_jdk_38_method_24_code_10 : decode jdk_38_method_24_code 10 = .ok (.astore_n 2, 1) := by decide +kernel
theorem own_d_jdk_38_method_24_code_11 : decode jdk_38_method_24_code 11 = .ok (.aload_n 2, 1) := by decide +kernel
theorem own_d_jdk_38_method_24_code_12 : decode jdk_38_method_24_code 12 = .ok (.iload_n 3, 1) := by decide +kernel
theorem own_d_jdk_38_method_24_code_13 : decode jdk_38_method_24_code 13 = .ok (.aload_n 1, 1) := by decide +kernel
theorem own_d_jdk_38_method_24_code_14 : decode jdk_38_method_24_code 14 = .ok (.aastore, 1) := by decide +kernel
theorem own_d_jdk_38_method_24_code_15 : decode jdk_38_method_24_code 15 = .ok (.aload_n 0, 1) := by decide +kernel
theorem own_d_jdk_38_method_24_code_16 : decode jdk_38_method_24_code 16 = .ok (.iload_n 3, 1) := by decide +kernel
theorem own_d_jdk_38_method_24_code_17 : decode jdk_38_method_24_code 17 = .ok (.iconst 1, 1) := by decide +kernel
theorem own_d_jdk_38_method_24_code_18 : decode jdk_38_method_24_code 18 = .ok (.iadd, 1) := by decide +kernel
theorem own_d_jdk_38_method_24_code_19 : decode jdk_38_method_24_code 19 = .ok (.putfield 48, 3) := by decide +kernel
theorem own_d_jdk_38_method_24_code_22 : decode jdk_38_method_24_code 22 = .ok (.return_, 1) := by decide +kernel
theorem own_ef_a3A (m : MethodId) (x0 : Addr) (x1 : Addr) (x2 : Addr) (x3 : Int32) : entryFrame m #[(.ref x0), (.ref x1), (.ref x2), (.int x3)] 4 = mkF m 0 #[.val (.ref x0), .val (.ref x1), .val (.ref x2), .val (.int x3)] [] := by first | (simp [entryFrame, mkF, argsToLocals, Value.category]; done) | rfl
def own_Q_a3A (Z : State) (a o aD : Addr) (kD : ClassId) (mc : Int32) (h0 : Heap) (n0 : Nat) (v : Option Value) (h : Heap) (L : List Loc) : Prop := v = none ∧ (∃ b k, h0.size ≤ b ∧ Arv Z h b k (.object "java/lang/Object") (10 : Int32) [(.ref o), .null, .null, .null, .null, .null, .null, .null, .null, .null] .null ∧ Ovr Z k "java/lang/Object" ∧ Fld Z h a "java/util/AbstractList" "modCount" "I" (.int mc) ∧ Fld Z h a "java/util/ArrayList" "elementData" "[Ljava/lang/Object;" (.ref b) ∧ Fld Z h a "java/util/ArrayList" "size" "I" (.int (1 : Int32))) ∧ Fr n0 L ∧ Keep h0 h [a]
set_option maxRecDepth 65536 in
set_option maxHeartbeats 40000000 in
theorem own_rm_a3A (l : Launch) (Z : State) (a0 : Array Value) (hw : ∀ d ∈ tables_1, d.before a0 Z = true) (ws : List Jvm.Cond) (a o aD : Addr) (kD : ClassId) (mc : Int32) (h0 : Heap) (n0 : Nat) (Z0 : n0 ≤ h0.size) (E_a : Exa Z h0 a "java/util/ArrayList") (F_m : Fld Z h0 a "java/util/AbstractList" "modCount" "I" (.int mc)) (F_e : Fld Z h0 a "java/util/ArrayList" "elementData" "[Ljava/lang/Object;" (.ref aD)) (F_s : Fld Z h0 a "java/util/ArrayList" "size" "I" (.int (0 : Int32))) (g_a : n0 ≤ a)(S_D : Sta Z h0 "java/util/ArrayList" "DEFAULTCAPACITY_EMPTY_ELEMENTDATA" "[Ljava/lang/Object;" (.ref aD))(V_aD : Arv Z h0 aD kD (.object "java/lang/Object") (0 : Int32) [] .null)(ne_a_aD : a ≠ aD)(E_o : Exa Z h0 o "com/example/ratably/ratably/calendar/Slice") :
    MetFree l (⟨"java/util/ArrayList", "add", "(Ljava/lang/Object;[Ljava/lang/Object;I)V"⟩ : MethodName) (head1 (Jvm.Cond.code (⟨"java/util/ArrayList", "add", "(Ljava/lang/Object;[Ljava/lang/Object;I)V"⟩ : MethodName) jdk_38_method_24_code 4 none :: ws) ({ frames := 3, cells := 1, slots := 10, locals := 41 } : Room)) (fun aa UU => aa = #[(.ref a), (.ref o), (.ref aD), (.int (0 : Int32))] ∧ Z.Warmed39 UU.vm ∧ UU.heap = h0) (fun _ _ _ _ _ => True) (fun _ UU oo UU' => ∃ vv LL, oo = .returned vv ∧ own_Q_a3A Z a o aD kD mc h0 n0 vv UU'.heap LL ∧ FrameEnd UU oo UU' LL ({ frames := 3, cells := 1, slots := 10, locals := 41 } : Room).cells ({ frames := 3, cells := 1, slots := 10, locals := 41 } : Room).slots) := by
  refine MetFree.of_bodySF (plainFor_of_name own_pn3) hisR ?_
  intro p e s m args below meth c s₁ Bd hml0 hP hK
  obtain ⟨rfl, hZ, hh⟩ := hP
  have hx := Bd.exec
  have hby := Bd.bytes
  have hml : c.maxLocals = 4 := hml0
  have hown : s.vm.findClass "java/util/ArrayList" = some m.cls := findClass_of_methodNamed Bd.named
  have hnm := (name_of_methodNamed Bd.named Bd.method).1
  have X0 : Stand p l e ({ frames := 3, cells := 1, slots := 10, locals := 41 } : Room) s m #[(.ref a), (.ref o), (.ref aD), (.int (0 : Int32))] below meth c s₁ [] 0 0 := Stand.of_body Bd
  have e0 : s₁.heap = h0 := by rw [← hh, Bd.state]; rfl
  have N0 := Fr.nil n0
  have K0 : Keep h0 h0 [a] := Keep.refl h0 _
  show own_Gl p e below (own_Post s (own_Q_a3A Z a o aD kD mc h0 n0) ({ frames := 3, cells := 1, slots := 10, locals := 41 } : Room).cells ({ frames := 3, cells := 1, slots := 10, locals := 41 } : Room).slots) _
  refine own_st (fun tg_ kg_ => castTop (own_ef_a3A m a o aD (0 : Int32)) kg_) ?_
  show own_Gl p e below _ (s₁.setTop (mkF m 0 #[.val (.ref a), .val (.ref o), .val (.ref aD), .val (.int (0 : Int32))] []))
  have ns_a := E_a.nostat
  refine own_st (fun tg_ kg_ => XS.iloadN X0.here hx rfl (hb hby own_d_jdk_38_method_24_code_0) rfl kg_) ?_
  show own_Gl p e below _ (s₁.setTop (mkF m 1 #[.val (.ref a), .val (.ref o), .val (.ref aD), .val (.int (0 : Int32))] [(.int (0 : Int32))]))
  refine own_st (fun tg_ kg_ => XS.aloadN X0.here hx rfl (hb hby own_d_jdk_38_method_24_code_1) rfl rfl kg_) ?_
  show own_Gl p e below _ (s₁.setTop (mkF m 2 #[.val (.ref a), .val (.ref o), .val (.ref aD), .val (.int (0 : Int32))] [(.ref aD), (.int (0 : Int32))]))
  obtain ⟨cl1, Ar1, qa1, Sa1, Na1, Ha1, Ga1⟩ := id (V_aD.keep K0 (ninS ne_a_aD.symm nin0))
  refine own_st (fun tg_ kg_ => X0.arraylength hx (by rw [e0]; exact Ar1.1) (State.isArrayOf_alike hZ.alike Ar1.2.1) (g := (mkF m 2 #[.val (.ref a), .val (.ref o), .val (.ref aD), .val (.int (0 : Int32))] [(.ref aD), (.int (0 : Int32))])) rfl rfl (hb hby own_d_jdk_38_method_24_code_2) _ kg_) ?_
  rw [len_of Sa1 Na1]
  show own_Gl p e below _ (s₁.setTop (mkF m 3 #[.val (.ref a), .val (.ref o), .val (.ref aD), .val (.int (0 : Int32))] [(.int (0 : Int32)), (.int (0 : Int32))]))
  refine own_st (fun tg_ kg_ => XS.icmpNo X0.here hx rfl (hb hby own_d_jdk_38_method_24_code_3) rfl (teq ((rfl : (0 : Int32) = (0 : Int32)))).2 kg_) ?_
  show own_Gl p e below _ (s₁.setTop (mkF m 6 #[.val (.ref a), .val (.ref o), .val (.ref aD), .val (.int (0 : Int32))] []))
  refine own_st (fun tg_ kg_ => XS.aloadN X0.here hx rfl (hb hby own_d_jdk_38_method_24_code_6) rfl rfl kg_) ?_
  show own_Gl p e below _ (s₁.setTop (mkF m 7 #[.val (.ref a), .val (.ref o), .val (.ref aD), .val (.int (0 : Int32))] [(.ref a)]))
  obtain ⟨cq2, q2, q2'⟩ := E_a.cell
  obtain ⟨_, _, ⟨T2, L2, k2, n2⟩, -, X2, ⟨Lc2, hQ2, l2, y2, z2⟩, st2⟩ := X0.privateBack hx (y := (⟨"java/util/ArrayList", "grow", "()[Ljava/lang/Object;"⟩ : MethodName)) hown (mvT hZ (hw _ (List.mem_of_getElem? (i := 80) rfl))) (mvT hZ (hw _ (List.mem_of_getElem? (i := 81) rfl))) (mvT hZ (hw _ (List.mem_of_getElem? (i := 83) rfl))) (Cond.privateMethod_at (mvP hZ (hw _ (List.mem_of_getElem? (i := 82) rfl)) (args := #[]))) (mvT hZ (hw _ (List.mem_of_getElem? (i := 84) rfl))) (by decide) (backOf (W := 0) (own_rm_gro l Z a0 hw [] a aD kD mc h0 n0 (Nat.le_trans Z0 K0.1) E_a F_m F_e F_s g_a (own_sta_keep S_D K0 (nsS ns_a ns0)) (V_aD.keep K0 (ninS ne_a_aD.symm nin0)) ne_a_aD) hZ (hw _ (List.mem_of_getElem? (i := 84) rfl)) (hw _ (List.mem_of_getElem? (i := 15) rfl)) (by decide) (by decide)) (g := (mkF m 7 #[.val (.ref a), .val (.ref o), .val (.ref aD), .val (.int (0 : Int32))] [(.ref a)])) rfl (by rw [hml]; rfl) (Steps.refl _) (a := a) (by rw [e0]; exact q2) q2' (argsL := []) (rest := []) (lenOf own_pd3 rfl) rfl (by show 2 * 0 + _ ≤ _; exact Nat.le_of_eq rfl) (hb hby own_d_jdk_38_method_24_code_7) (fun _ _ => ⟨rfl, e0, (by decide : 0 + 1 ≤ _), (by decide : 0 + 10 ≤ _)⟩)
  dsimp only [Pt.U, Pt.locs, Pt.cells, Pt.slots] at X2 l2 y2 z2 st2 hQ2
  subst l2 y2 z2
  obtain ⟨⟨b, kb, rfl, szc2, V_b, O_b, F_m, F_e, F_s⟩, N2q, Kc2⟩ := hQ2
  have N2 := Fr.app N0 N2q
  refine own_tr st2 ?_
  have ne_a_b : a ≠ b := Nat.ne_of_lt (Nat.lt_of_lt_of_le E_a.lt szc2)
  have ne_aD_b : aD ≠ b := Nat.ne_of_lt (Nat.lt_of_lt_of_le (V_aD.keep K0 (ninS ne_a_aD.symm nin0)).lt szc2)
  have ne_o_b : o ≠ b := Nat.ne_of_lt (Nat.lt_of_lt_of_le E_o.lt szc2)
  have sz_b : h0.size ≤ b := Nat.le_trans K0.1 szc2
  have g_b : n0 ≤ b := Nat.le_trans Z0 sz_b
  replace E_a := E_a.keep Kc2
  replace E_o := E_o.keep Kc2
  have K3 : Keep h0 T2.heap [a] := K0.trans Kc2 (allS (Or.inl (List.mem_of_getElem? (i := 0) rfl)) all0)
  try clear Kc2
  show own_Gl p e below _ (T2.setTop (mkF m 10 #[.val (.ref a), .val (.ref o), .val (.ref aD), .val (.int (0 : Int32))] [(.ref b)]))
  try clear st2
  try clear N2q
  refine own_st (fun tg_ kg_ => XS.astoreN X2.here hx rfl (hb hby own_d_jdk_38_method_24_code_10) rfl rfl (l' := #[.val (.ref a), .val (.ref o), .val (.ref b), .val (.int (0 : Int32))]) rfl kg_) ?_
  show own_Gl p e below _ (T2.setTop (mkF m 11 #[.val (.ref a), .val (.ref o), .val (.ref b), .val (.int (0 : Int32))] []))
  refine own_st (fun tg_ kg_ => XS.aloadN X2.here hx rfl (hb hby own_d_jdk_38_method_24_code_11) rfl rfl kg_) ?_
  show own_Gl p e below _ (T2.setTop (mkF m 12 #[.val (.ref a), .val (.ref o), .val (.ref b), .val (.int (0 : Int32))] [(.ref b)]))
  refine own_st (fun tg_ kg_ => XS.iloadN X2.here hx rfl (hb hby own_d_jdk_38_method_24_code_12) rfl kg_) ?_
  show own_Gl p e below _ (T2.setTop (mkF m 13 #[.val (.ref a), .val (.ref o), .val (.ref b), .val (.int (0 : Int32))] [(.int (0 : Int32)), (.ref b)]))
  refine own_st (fun tg_ kg_ => XS.aloadN X2.here hx rfl (hb hby own_d_jdk_38_method_24_code_13) rfl rfl kg_) ?_
  show own_Gl p e below _ (T2.setTop (mkF m 14 #[.val (.ref a), .val (.ref o), .val (.ref b), .val (.int (0 : Int32))] [(.ref o), (.int (0 : Int32)), (.ref b)]))
  obtain ⟨cl4, Ar4, qa4, Sa4, Na4, Ha4, Ga4⟩ := id V_b
  have hin5 : ¬ ((0 : Int32) < 0 ∨ cl4.slots.size ≤ ((0 : Int32)).toNatClampNeg) := inb_of Sa4 ⟨by decide, by decide⟩
  obtain ⟨T5, h5, X5, e5, W5, st5⟩ := stR X2 hx hZ rfl Ar4 (j := (0 : Int32)) hin5 rfl (Sto.ofV Ar4 qa4 O_b (Ins.of_exa E_o (hw _ (List.mem_of_getElem? (i := 96) rfl)))) (g := (mkF m 14 #[.val (.ref a), .val (.ref o), .val (.ref b), .val (.int (0 : Int32))] [(.ref o), (.int (0 : Int32)), (.ref b)])) rfl rfl (hb hby own_d_jdk_38_method_24_code_14)
  have N5 := Fr.snoc X5 N2 g_b
  try clear N2
  replace E_a := E_a.wr W5
  replace E_o := E_o.wr W5
  replace F_m := F_m.other W5 (Or.inl ne_a_b)
  replace F_e := F_e.other W5 (Or.inl ne_a_b)
  replace F_s := F_s.other W5 (Or.inl ne_a_b)
  have K6 : Keep h0 h5 [a] := K3.wr W5 (Or.inr sz_b)
  try clear K3
  replace V_b : Arv Z h5 b kb (.object "java/lang/Object") (10 : Int32) [(.ref o), .null, .null, .null, .null, .null, .null, .null, .null, .null] .null := Arv.set Ar4 qa4 Sa4 Na4 Ha4 Ga4 rfl W5 0 rfl (Nat.le_of_ble_eq_true rfl)
  try clear Ga4
  try clear Ha4
  try clear Na4
  try clear Sa4
  try clear qa4
  try clear W5
  try clear hin5
  try clear Ar4
  try clear cl4
  refine own_st st5 ?_
  try clear st5
  try clear X2
  try clear T2
  show own_Gl p e below _ (T5.setTop (mkF m 15 #[.val (.ref a), .val (.ref o), .val (.ref b), .val (.int (0 : Int32))] []))
  refine own_st (fun tg_ kg_ => XS.aloadN X5.here hx rfl (hb hby own_d_jdk_38_method_24_code_15) rfl rfl kg_) ?_
  show own_Gl p e below _ (T5.setTop (mkF m 16 #[.val (.ref a), .val (.ref o), .val (.ref b), .val (.int (0 : Int32))] [(.ref a)]))
  refine own_st (fun tg_ kg_ => XS.iloadN X5.here hx rfl (hb hby own_d_jdk_38_method_24_code_16) rfl kg_) ?_
  show own_Gl p e below _ (T5.setTop (mkF m 17 #[.val (.ref a), .val (.ref o), .val (.ref b), .val (.int (0 : Int32))] [(.int (0 : Int32)), (.ref a)]))
  refine own_st (fun tg_ kg_ => XS.iconst X5.here hx rfl (hb hby own_d_jdk_38_method_24_code_17) kg_) ?_
  show own_Gl p e below _ (T5.setTop (mkF m 18 #[.val (.ref a), .val (.ref o), .val (.ref b), .val (.int (0 : Int32))] [(.int (1 : Int32)), (.int (0 : Int32)), (.ref a)]))
  refine own_st (fun tg_ kg_ => XS.iadd X5.here hx rfl (hb hby own_d_jdk_38_method_24_code_18) rfl kg_) ?_
  show own_Gl p e below _ (T5.setTop (mkF m 19 #[.val (.ref a), .val (.ref o), .val (.ref b), .val (.int (0 : Int32))] [(.int (1 : Int32)), (.ref a)]))
  obtain ⟨T7, h7, X7, e7, W7, st7⟩ := putF X5 hx hZ hown (host := "") (Or.inl (hw _ (List.mem_of_getElem? (i := 58) rfl))) Via.refl e5 F_s E_a (Or.inl (hw _ (List.mem_of_getElem? (i := 59) rfl))) (hw _ (List.mem_of_getElem? (i := 14) rfl)) (ty := .int) (by decide) rfl rfl (g := (mkF m 19 #[.val (.ref a), .val (.ref o), .val (.ref b), .val (.int (0 : Int32))] [(.int (1 : Int32)), (.ref a)])) rfl rfl (hb hby own_d_jdk_38_method_24_code_19)
  have N7 := Fr.snoc X7 N5 g_a
  try clear N5
  replace E_a := E_a.wr W7
  replace E_o := E_o.wr W7
  replace F_m := F_m.other W7 (Or.inr (slot_ne (Or.inl (hw _ (List.mem_of_getElem? (i := 33) rfl))) (Or.inl (hw _ (List.mem_of_getElem? (i := 59) rfl))) (by decide) (t := .int) (t' := .int) (by decide) (by decide)))
  replace F_e := F_e.other W7 (Or.inr (slot_ne (Or.inl (hw _ (List.mem_of_getElem? (i := 36) rfl))) (Or.inl (hw _ (List.mem_of_getElem? (i := 59) rfl))) (by decide) (t := (.array (.object "java/lang/Object"))) (t' := .int) (by decide) (by decide)))
  replace F_s := F_s.same W7
  replace V_b := V_b.other W7 ne_a_b.symm
  have K8 : Keep h0 h7 [a] := K6.wr W7 (Or.inl (List.mem_of_getElem? (i := 0) rfl))
  try clear K6
  refine own_st st7 ?_
  try clear st7
  try clear e5
  try clear X5
  try clear T5
  show own_Gl p e below _ (T7.setTop (mkF m 22 #[.val (.ref a), .val (.ref o), .val (.ref b), .val (.int (0 : Int32))] []))
  exact own_retV X7 hx Bd.notSynchronized Bd.returns (hb hby own_d_jdk_38_method_24_code_22) (by decide) (by decide) e7 (⟨rfl, ⟨_, _, sz_b, V_b, O_b, F_m, F_e, F_s⟩, N7, K8⟩)
theorem own_ef_a3B1 (m : MethodId) (x0 : Addr) (x1 : Addr) (x2 : Addr) (x3 : Int32) : entryFrame m #[(.ref x0), (.ref x1), (.ref x2), (.int x3)] 4 = mkF m 0 #[.val (.ref x0), .val (.ref x1), .val (.ref x2), .val (.int x3)] [] := by first | (simp [entryFrame, mkF, argsToLocals, Value.category]; done) | rfl
def own_Q_a3B1 (Z : State) (a o b : Addr) (kb : ClassId) (mc : Int32) (v0 : Value) (h0 : Heap) (n0 : Nat) (v : Option Value) (h : Heap) (L : List Loc) : Prop := v = none ∧ Arv Z h b kb (.object "java/lang/Object") (10 : Int32) [v0, (.ref o), .null, .null, .null, .null, .null, .null, .null, .null] .null ∧ Fld Z h a "java/util/AbstractList" "modCount" "I" (.int mc) ∧ Fld Z h a "java/util/ArrayList" "elementData" "[Ljava/lang/Object;" (.ref b) ∧ Fld Z h a "java/util/ArrayList" "size" "I" (.int (2 : Int32)) ∧ Fr n0 L ∧ Keep h0 h [a, b]
set_option maxRecDepth 65536 in
set_option maxHeartbeats 40000000 in
theorem own_rm_a3B1 (l : Launch) (Z : State) (a0 : Array Value) (hw : ∀ d ∈ tables_1, d.before a0 Z = true) (ws : List Jvm.Cond) (a o b : Addr) (kb : ClassId) (mc : Int32) (v0 : Value) (h0 : Heap) (n0 : Nat) (Z0 : n0 ≤ h0.size) (E_a : Exa Z h0 a "java/util/ArrayList") (F_m : Fld Z h0 a "java/util/AbstractList" "modCount" "I" (.int mc)) (F_e : Fld Z h0 a "java/util/ArrayList" "elementData" "[Ljava/lang/Object;" (.ref b)) (F_s : Fld Z h0 a "java/util/ArrayList" "size" "I" (.int (1 : Int32))) (g_a : n0 ≤ a)(V_b : Arv Z h0 b kb (.object "java/lang/Object") (10 : Int32) [v0, .null, .null, .null, .null, .null, .null, .null, .null, .null] .null) (O_b : Ovr Z kb "java/lang/Object") (ne_a_b : a ≠ b) (g_b : n0 ≤ b)(E_o : Exa Z h0 o "com/example/ratably/ratably/calendar/Slice") :
    MetFree l (⟨"java/util/ArrayList", "add", "(Ljava/lang/Object;[Ljava/lang/Object;I)V"⟩ : MethodName) (head1 (Jvm.Cond.code (⟨"java/util/ArrayList", "add", "(Ljava/lang/Object;[Ljava/lang/Object;I)V"⟩ : MethodName) jdk_38_method_24_code 4 none :: ws) ({ frames := 0, cells := 0, slots := 0, locals := 0 } : Room)) (fun aa UU => aa = #[(.ref a), (.ref o), (.ref b), (.int (1 : Int32))] ∧ Z.Warmed39 UU.vm ∧ UU.heap = h0) (fun _ _ _ _ _ => True) (fun _ UU oo UU' => ∃ vv LL, oo = .returned vv ∧ own_Q_a3B1 Z a o b kb mc v0 h0 n0 vv UU'.heap LL ∧ FrameEnd UU oo UU' LL ({ frames := 0, cells := 0, slots := 0, locals := 0 } : Room).cells ({ frames := 0, cells := 0, slots := 0, locals := 0 } : Room).slots) := by
  refine MetFree.of_bodySF (plainFor_of_name own_pn3) hisR ?_
  intro p e s m args below meth c s₁ Bd hml0 hP hK
  obtain ⟨rfl, hZ, hh⟩ := hP
  have hx := Bd.exec
  have hby := Bd.bytes
  have hml : c.maxLocals = 4 := hml0
  have hown : s.vm.findClass "java/util/ArrayList" = some m.cls := findClass_of_methodNamed Bd.named
  have hnm := (name_of_methodNamed Bd.named Bd.method).1
  have X0 : Stand p l e ({ frames := 0, cells := 0, slots := 0, locals := 0 } : Room) s m #[(.ref a), (.ref o), (.ref b), (.int (1 : Int32))] below meth c s₁ [] 0 0 := Stand.of_body Bd
  have e0 : s₁.heap = h0 := by rw [← hh, Bd.state]; rfl
  have N0 := Fr.nil n0
  have K0 : Keep h0 h0 [a, b] := Keep.refl h0 _
  show own_Gl p e below (own_Post s (own_Q_a3B1 Z a o b kb mc v0 h0 n0) ({ frames := 0, cells := 0, slots := 0, locals := 0 } : Room).cells ({ frames := 0, cells := 0, slots := 0, locals := 0 } : Room).slots) _
  refine own_st (fun tg_ kg_ => castTop (own_ef_a3B1 m a o b (1 : Int32)) kg_) ?_
  show own_Gl p e below _ (s₁.setTop (mkF m 0 #[.val (.ref a), .val (.ref o), .val (.ref b), .val (.int (1 : Int32))] []))
  refine own_st (fun tg_ kg_ => XS.iloadN X0.here hx rfl (hb hby own_d_jdk_38_method_24_code_0) rfl kg_) ?_
  show own_Gl p e below _ (s₁.setTop (mkF m 1 #[.val (.ref a), .val (.ref o), .val (.ref b), .val (.int (1 : Int32))] [(.int (1 : Int32))]))
  refine own_st (fun tg_ kg_ => XS.aloadN X0.here hx rfl (hb hby own_d_jdk_38_method_24_code_1) rfl rfl kg_) ?_
  show own_Gl p e below _ (s₁.setTop (mkF m 2 #[.val (.ref a), .val (.ref o), .val (.ref b), .val (.int (1 : Int32))] [(.ref b), (.int (1 : Int32))]))
  obtain ⟨cl1, Ar1, qa1, Sa1, Na1, Ha1, Ga1⟩ := id V_b
  refine own_st (fun tg_ kg_ => X0.arraylength hx (by rw [e0]; exact Ar1.1) (State.isArrayOf_alike hZ.alike Ar1.2.1) (g := (mkF m 2 #[.val (.ref a), .val (.ref o), .val (.ref b), .val (.int (1 : Int32))] [(.ref b), (.int (1 : Int32))])) rfl rfl (hb hby own_d_jdk_38_method_24_code_2) _ kg_) ?_
  rw [len_of Sa1 Na1]
  show own_Gl p e below _ (s₁.setTop (mkF m 3 #[.val (.ref a), .val (.ref o), .val (.ref b), .val (.int (1 : Int32))] [(.int (10 : Int32)), (.int (1 : Int32))]))
  refine own_st (fun tg_ kg_ => XS.icmpYes X0.here hx rfl (pc0 := 3) (pc' := 11) rfl (hb hby own_d_jdk_38_method_24_code_3) rfl (feq ((by decide : ¬ ((1 : Int32) = (10 : Int32))))).2 (by decide) (by decide) kg_) ?_
  show own_Gl p e below _ (s₁.setTop (mkF m 11 #[.val (.ref a), .val (.ref o), .val (.ref b), .val (.int (1 : Int32))] []))
  refine own_st (fun tg_ kg_ => XS.aloadN X0.here hx rfl (hb hby own_d_jdk_38_method_24_code_11) rfl rfl kg_) ?_
  show own_Gl p e below _ (s₁.setTop (mkF m 12 #[.val (.ref a), .val (.ref o), .val (.ref b), .val (.int (1 : Int32))] [(.ref b)]))
  refine own_st (fun tg_ kg_ => XS.iloadN X0.here hx rfl (hb hby own_d_jdk_38_method_24_code_12) rfl kg_) ?_
  show own_Gl p e below _ (s₁.setTop (mkF m 13 #[.val (.ref a), .val (.ref o), .val (.ref b), .val (.int (1 : Int32))] [(.int (1 : Int32)), (.ref b)]))
  refine own_st (fun tg_ kg_ => XS.aloadN X0.here hx rfl (hb hby own_d_jdk_38_method_24_code_13) rfl rfl kg_) ?_
  show own_Gl p e below _ (s₁.setTop (mkF m 14 #[.val (.ref a), .val (.ref o), .val (.ref b), .val (.int (1 : Int32))] [(.ref o), (.int (1 : Int32)), (.ref b)]))
  obtain ⟨cl2, Ar2, qa2, Sa2, Na2, Ha2, Ga2⟩ := id V_b
  have hin3 : ¬ ((1 : Int32) < 0 ∨ cl2.slots.size ≤ ((1 : Int32)).toNatClampNeg) := inb_of Sa2 ⟨by decide, by decide⟩
  obtain ⟨T3, h3, X3, e3, W3, st3⟩ := stR X0 hx hZ e0 Ar2 (j := (1 : Int32)) hin3 rfl (Sto.ofV Ar2 qa2 O_b (Ins.of_exa E_o (hw _ (List.mem_of_getElem? (i := 96) rfl)))) (g := (mkF m 14 #[.val (.ref a), .val (.ref o), .val (.ref b), .val (.int (1 : Int32))] [(.ref o), (.int (1 : Int32)), (.ref b)])) rfl rfl (hb hby own_d_jdk_38_method_24_code_14)
  have N3 := Fr.snoc X3 N0 g_b
  replace E_a := E_a.wr W3
  replace F_m := F_m.other W3 (Or.inl ne_a_b)
  replace F_e := F_e.other W3 (Or.inl ne_a_b)
  replace F_s := F_s.other W3 (Or.inl ne_a_b)
  replace E_o := E_o.wr W3
  have K4 : Keep h0 h3 [a, b] := K0.wr W3 (Or.inl (List.mem_of_getElem? (i := 1) rfl))
  replace V_b : Arv Z h3 b kb (.object "java/lang/Object") (10 : Int32) [v0, (.ref o), .null, .null, .null, .null, .null, .null, .null, .null] .null := Arv.set Ar2 qa2 Sa2 Na2 Ha2 Ga2 rfl W3 1 rfl (Nat.le_of_ble_eq_true rfl)
  try clear Ga2
  try clear Ha2
  try clear Na2
  try clear Sa2
  try clear qa2
  try clear W3
  try clear hin3
  try clear Ar2
  try clear cl2
  refine own_st st3 ?_
  try clear st3
  show own_Gl p e below _ (T3.setTop (mkF m 15 #[.val (.ref a), .val (.ref o), .val (.ref b), .val (.int (1 : Int32))] []))
  refine own_st (fun tg_ kg_ => XS.aloadN X3.here hx rfl (hb hby own_d_jdk_38_method_24_code_15) rfl rfl kg_) ?_
  show own_Gl p e below _ (T3.setTop (mkF m 16 #[.val (.ref a), .val (.ref o), .val (.ref b), .val (.int (1 : Int32))] [(.ref a)]))
  refine own_st (fun tg_ kg_ => XS.iloadN X3.here hx rfl (hb hby own_d_jdk_38_method_24_code_16) rfl kg_) ?_
  show own_Gl p e below _ (T3.setTop (mkF m 17 #[.val (.ref a), .val (.ref o), .val (.ref b), .val (.int (1 : Int32))] [(.int (1 : Int32)), (.ref a)]))
  refine own_st (fun tg_ kg_ => XS.iconst X3.here hx rfl (hb hby own_d_jdk_38_method_24_code_17) kg_) ?_
  show own_Gl p e below _ (T3.setTop (mkF m 18 #[.val (.ref a), .val (.ref o), .val (.ref b), .val (.int (1 : Int32))] [(.int (1 : Int32)), (.int (1 : Int32)), (.ref a)]))
  refine own_st (fun tg_ kg_ => XS.iadd X3.here hx rfl (hb hby own_d_jdk_38_method_24_code_18) rfl kg_) ?_
  show own_Gl p e below _ (T3.setTop (mkF m 19 #[.val (.ref a), .val (.ref o), .val (.ref b), .val (.int (1 : Int32))] [(.int (2 : Int32)), (.ref a)]))
  obtain ⟨T5, h5, X5, e5, W5, st5⟩ := putF X3 hx hZ hown (host := "") (Or.inl (hw _ (List.mem_of_getElem? (i := 58) rfl))) Via.refl e3 F_s E_a (Or.inl (hw _ (List.mem_of_getElem? (i := 59) rfl))) (hw _ (List.mem_of_getElem? (i := 14) rfl)) (ty := .int) (by decide) rfl rfl (g := (mkF m 19 #[.val (.ref a), .val (.ref o), .val (.ref b), .val (.int (1 : Int32))] [(.int (2 : Int32)), (.ref a)])) rfl rfl (hb hby own_d_jdk_38_method_24_code_19)
  have N5 := Fr.snoc X5 N3 g_a
  try clear N3
  replace E_a := E_a.wr W5
  replace F_m := F_m.other W5 (Or.inr (slot_ne (Or.inl (hw _ (List.mem_of_getElem? (i := 33) rfl))) (Or.inl (hw _ (List.mem_of_getElem? (i := 59) rfl))) (by decide) (t := .int) (t' := .int) (by decide) (by decide)))
  replace F_e := F_e.other W5 (Or.inr (slot_ne (Or.inl (hw _ (List.mem_of_getElem? (i := 36) rfl))) (Or.inl (hw _ (List.mem_of_getElem? (i := 59) rfl))) (by decide) (t := (.array (.object "java/lang/Object"))) (t' := .int) (by decide) (by decide)))
  replace F_s := F_s.same W5
  replace V_b := V_b.other W5 ne_a_b.symm
  replace E_o := E_o.wr W5
  have K6 : Keep h0 h5 [a, b] := K4.wr W5 (Or.inl (List.mem_of_getElem? (i := 0) rfl))
  try clear K4
  refine own_st st5 ?_
  try clear st5
  try clear e3
  try clear X3
  try clear T3
  show own_Gl p e below _ (T5.setTop (mkF m 22 #[.val (.ref a), .val (.ref o), .val (.ref b), .val (.int (1 : Int32))] []))
  exact own_retV X5 hx Bd.notSynchronized Bd.returns (hb hby own_d_jdk_38_method_24_code_22) (by decide) (by decide) e5 (⟨rfl, V_b, F_m, F_e, F_s, N5, K6⟩)
theorem own_pd4 : parseMethodDescriptor "(Ljava/lang/Object;[Ljava/lang/Object;I)V" = some ⟨[(.object "java/lang/Object"), (.array (.object "java/lang/Object")), .int], none⟩ := by decide +kernel
theorem own_d_jdk_38_method_25_code_0 : decode jdk_38_method_25_code 0 = .ok (.aload_n 0, 1) := by decide +kernel
theorem own_d_jdk_38_method_25_code_1 : decode jdk_38_method_25_code 1 = .ok (.dup, 1) := by decide +kernel
theorem own_d_jdk_38_method_25_code_2 : decode jdk_38_method_25_code 2 = .ok (.getfield 63, 3) := by decide +kernel
theorem own_d_jdk_38_method_25_code_5 : decode jdk_38_method_25_code 5 = .ok (.iconst 1, 1) := by decide +kernel
theorem own_d_jdk_38_method_25_code_6 : decode jdk_38_method_25_code 6 = .ok (.iadd, 1) := by decide +kernel
theorem own_d_jdk_38_method_25_code_7 : decode jdk_38_method_25_code 7 = .ok (.putfield 63, 3) := by decide +kernel
theorem own_d_jdk_38_method_25_code_10 : decode jdk_38_method_25_code 10 = .ok (.aload_n 0, 1) := by decide +kernel
theorem own_d_jdk_38_method_25_code_11 : decode jdk_38_method_25_code 11 = .ok (.aload_n 1, 1) := by decide +kernel
theorem own_d_jdk_38_method_25_code_12 : decode jdk_38_method_25_code 12 = .ok (.aload_n 0, 1) := by decide +kernel
theorem own_d_jdk_38_method_25_code_13 : decode jdk_38_method_25_code 13 = .ok (.getfield 9, 3) := by decide +kernel
theorem own_d_jdk_38_method_25_code_16 : decode jdk_38_method_25_code 16 = .ok (.aload_n 0, 1) := by decide +kernel
theorem own_d_jdk_38_method_25_code_17 : decode jdk_38_method_25_code 17 = .ok (.getfield 48, 3) := by decide +kernel
theorem own_d_jdk_38_method_25_code_20 : decode jdk_38_method_25_code 20 = .ok (.invokevirtual 131, 3) := by decide +kernel
theorem own_d_jdk_38_method_25_code_23 : decode jdk_38_method_25_code 23 = .ok (.iconst 1, 1) := by decide +kernel
theorem own_d_jdk_38_method_25_code_24 : decode jdk_38_method_25_code 24 = .ok (.ireturn, 1) := by decide +kernel
theorem own_ef_adB1 (m : MethodId) (x0 : Addr) (x1 : Addr) : entryFrame m #[(.ref x0), (.ref x1)] 2 = mkF m 0 #[.val (.ref x0), .val (.ref x1)] [] := by first | (simp [entryFrame, mkF, argsToLocals, Value.category]; done) | rfl
def own_Q_adB1 (Z : State) (a o b : Addr) (kb : ClassId) (mc : Int32) (v0 : Value) (h0 : Heap) (n0 : Nat) (v : Option Value) (h : Heap) (L : List Loc) : Prop := v = some (.int 1) ∧ Arv Z h b kb (.object "java/lang/Object") (10 : Int32) [v0, (.ref o), .null, .null, .null, .null, .null, .null, .null, .null] .null ∧ Fld Z h a "java/util/AbstractList" "modCount" "I" (.int (mc + (1 : Int32))) ∧ Fld Z h a "java/util/ArrayList" "elementData" "[Ljava/lang/Object;" (.ref b) ∧ Fld Z h a "java/util/ArrayList" "size" "I" (.int (2 : Int32)) ∧ Fr n0 L ∧ Keep h0 h [a, b]
set_option maxRecDepth 65536 in
set_option maxHeartbeats 40000000 in
theorem own_rm_adB1 (l : Launch) (Z : State) (a0 : Array Value) (hw : ∀ d ∈ tables_1, d.before a0 Z = true) (ws : List Jvm.Cond) (a o b : Addr) (kb : ClassId) (mc : Int32) (v0 : Value) (h0 : Heap) (n0 : Nat) (Z0 : n0 ≤ h0.size) (E_a : Exa Z h0 a "java/util/ArrayList") (F_m : Fld Z h0 a "java/util/AbstractList" "modCount" "I" (.int mc)) (F_e : Fld Z h0 a "java/util/ArrayList" "elementData" "[Ljava/lang/Object;" (.ref b)) (F_s : Fld Z h0 a "java/util/ArrayList" "size" "I" (.int (1 : Int32))) (g_a : n0 ≤ a)(V_b : Arv Z h0 b kb (.object "java/lang/Object") (10 : Int32) [v0, .null, .null, .null, .null, .null, .null, .null, .null, .null] .null) (O_b : Ovr Z kb "java/lang/Object") (ne_a_b : a ≠ b) (g_b : n0 ≤ b)(E_o : Exa Z h0 o "com/example/ratably/ratably/calendar/Slice") :
    MetFree l (⟨"java/util/ArrayList", "add", "(Ljava/lang/Object;)Z"⟩ : MethodName) (head1 (Jvm.Cond.code (⟨"java/util/ArrayList", "add", "(Ljava/lang/Object;)Z"⟩ : MethodName) jdk_38_method_25_code 2 (some .boolean) :: ws) ({ frames := 1, cells := 0, slots := 0, locals := 15 } : Room)) (fun aa UU => aa = #[(.ref a), (.ref o)] ∧ Z.Warmed39 UU.vm ∧ UU.heap = h0) (fun _ _ _ _ _ => True) (fun _ UU oo UU' => ∃ vv LL, oo = .returned vv ∧ own_Q_adB1 Z a o b kb mc v0 h0 n0 vv UU'.heap LL ∧ FrameEnd UU oo UU' LL ({ frames := 1, cells := 0, slots := 0, locals := 15 } : Room).cells ({ frames := 1, cells := 0, slots := 0, locals := 15 } : Room).slots) := by
  refine MetFree.of_bodySF (plainFor_of_name own_pn3) hisR ?_
  intro p e s m args below meth c s₁ Bd hml0 hP hK
  obtain ⟨rfl, hZ, hh⟩ := hP
  have hx := Bd.exec
  have hby := Bd.bytes
  have hml : c.maxLocals = 2 := hml0
  have hown : s.vm.findClass "java/util/ArrayList" = some m.cls := findClass_of_methodNamed Bd.named
  have hnm := (name_of_methodNamed Bd.named Bd.method).1
  have X0 : Stand p l e ({ frames := 1, cells := 0, slots := 0, locals := 15 } : Room) s m #[(.ref a), (.ref o)] below meth c s₁ [] 0 0 := Stand.of_body Bd
  have e0 : s₁.heap = h0 := by rw [← hh, Bd.state]; rfl
  have N0 := Fr.nil n0
  have K0 : Keep h0 h0 [a, b] := Keep.refl h0 _
  show own_Gl p e below (own_Post s (own_Q_adB1 Z a o b kb mc v0 h0 n0) ({ frames := 1, cells := 0, slots := 0, locals := 15 } : Room).cells ({ frames := 1, cells := 0, slots := 0, locals := 15 } : Room).slots) _
  refine own_st (fun tg_ kg_ => castTop (own_ef_adB1 m a o) kg_) ?_
  show own_Gl p e below _ (s₁.setTop (mkF m 0 #[.val (.ref a), .val (.ref o)] []))
  refine own_st (fun tg_ kg_ => XS.aloadN X0.here hx rfl (hb hby own_d_jdk_38_method_25_code_0) rfl rfl kg_) ?_
  show own_Gl p e below _ (s₁.setTop (mkF m 1 #[.val (.ref a), .val (.ref o)] [(.ref a)]))
  refine own_st (fun tg_ kg_ => XS.dup X0.here hx rfl (hb hby own_d_jdk_38_method_25_code_1) rfl rfl kg_) ?_
  show own_Gl p e below _ (s₁.setTop (mkF m 2 #[.val (.ref a), .val (.ref o)] [(.ref a), (.ref a)]))
  obtain ⟨T1, X1, e1, st1⟩ := getF X0 hx hZ hown (host := "") (Or.inl (hw _ (List.mem_of_getElem? (i := 73) rfl))) (Via.of (hw _ (List.mem_of_getElem? (i := 74) rfl))) e0 F_m (g := (mkF m 2 #[.val (.ref a), .val (.ref o)] [(.ref a), (.ref a)])) rfl rfl (hb hby own_d_jdk_38_method_25_code_2)
  refine own_st st1 ?_
  try clear st1
  show own_Gl p e below _ (T1.setTop (mkF m 5 #[.val (.ref a), .val (.ref o)] [(.int mc), (.ref a)]))
  refine own_st (fun tg_ kg_ => XS.iconst X1.here hx rfl (hb hby own_d_jdk_38_method_25_code_5) kg_) ?_
  show own_Gl p e below _ (T1.setTop (mkF m 6 #[.val (.ref a), .val (.ref o)] [(.int (1 : Int32)), (.int mc), (.ref a)]))
  refine own_st (fun tg_ kg_ => XS.iadd X1.here hx rfl (hb hby own_d_jdk_38_method_25_code_6) rfl kg_) ?_
  show own_Gl p e below _ (T1.setTop (mkF m 7 #[.val (.ref a), .val (.ref o)] [(.int (mc + (1 : Int32))), (.ref a)]))
  obtain ⟨T2, h2, X2, e2, W2, st2⟩ := putF X1 hx hZ hown (host := "") (Or.inl (hw _ (List.mem_of_getElem? (i := 73) rfl))) (Via.of (hw _ (List.mem_of_getElem? (i := 74) rfl))) e1 F_m E_a (Or.inl (hw _ (List.mem_of_getElem? (i := 33) rfl))) (hw _ (List.mem_of_getElem? (i := 14) rfl)) (ty := .int) (by decide) rfl rfl (g := (mkF m 7 #[.val (.ref a), .val (.ref o)] [(.int (mc + (1 : Int32))), (.ref a)])) rfl rfl (hb hby own_d_jdk_38_method_25_code_7)
  have N2 := Fr.snoc X2 N0 g_a
  replace E_a := E_a.wr W2
  replace F_m := F_m.same W2
  replace F_e := F_e.other W2 (Or.inr (slot_ne (Or.inl (hw _ (List.mem_of_getElem? (i := 36) rfl))) (Or.inl (hw _ (List.mem_of_getElem? (i := 33) rfl))) (by decide) (t := (.array (.object "java/lang/Object"))) (t' := .int) (by decide) (by decide)))
  replace F_s := F_s.other W2 (Or.inr (slot_ne (Or.inl (hw _ (List.mem_of_getElem? (i := 59) rfl))) (Or.inl (hw _ (List.mem_of_getElem? (i := 33) rfl))) (by decide) (t := .int) (t' := .int) (by decide) (by decide)))
  replace V_b := V_b.other W2 ne_a_b.symm
  replace E_o := E_o.wr W2
  have K3 : Keep h0 h2 [a, b] := K0.wr W2 (Or.inl (List.mem_of_getElem? (i := 0) rfl))
  refine own_st st2 ?_
  try clear st2
  try clear e1
  try clear X1
  try clear T1
  show own_Gl p e below _ (T2.setTop (mkF m 10 #[.val (.ref a), .val (.ref o)] []))
  refine own_st (fun tg_ kg_ => XS.aloadN X2.here hx rfl (hb hby own_d_jdk_38_method_25_code_10) rfl rfl kg_) ?_
  show own_Gl p e below _ (T2.setTop (mkF m 11 #[.val (.ref a), .val (.ref o)] [(.ref a)]))
  refine own_st (fun tg_ kg_ => XS.aloadN X2.here hx rfl (hb hby own_d_jdk_38_method_25_code_11) rfl rfl kg_) ?_
  show own_Gl p e below _ (T2.setTop (mkF m 12 #[.val (.ref a), .val (.ref o)] [(.ref o), (.ref a)]))
  refine own_st (fun tg_ kg_ => XS.aloadN X2.here hx rfl (hb hby own_d_jdk_38_method_25_code_12) rfl rfl kg_) ?_
  show own_Gl p e below _ (T2.setTop (mkF m 13 #[.val (.ref a), .val (.ref o)] [(.ref a), (.ref o), (.ref a)]))
  obtain ⟨T4, X4, e4, st4⟩ := getF X2 hx hZ hown (host := "") (Or.inl (hw _ (List.mem_of_getElem? (i := 35) rfl))) Via.refl e2 F_e (g := (mkF m 13 #[.val (.ref a), .val (.ref o)] [(.ref a), (.ref o), (.ref a)])) rfl rfl (hb hby own_d_jdk_38_method_25_code_13)
  refine own_st st4 ?_
  try clear st4
  try clear e2
  try clear X2
  try clear T2
  show own_Gl p e below _ (T4.setTop (mkF m 16 #[.val (.ref a), .val (.ref o)] [(.ref b), (.ref o), (.ref a)]))
  refine own_st (fun tg_ kg_ => XS.aloadN X4.here hx rfl (hb hby own_d_jdk_38_method_25_code_16) rfl rfl kg_) ?_
  show own_Gl p e below _ (T4.setTop (mkF m 17 #[.val (.ref a), .val (.ref o)] [(.ref a), (.ref b), (.ref o), (.ref a)]))
  obtain ⟨T5, X5, e5, st5⟩ := getF X4 hx hZ hown (host := "") (Or.inl (hw _ (List.mem_of_getElem? (i := 58) rfl))) Via.refl e4 F_s (g := (mkF m 17 #[.val (.ref a), .val (.ref o)] [(.ref a), (.ref b), (.ref o), (.ref a)])) rfl rfl (hb hby own_d_jdk_38_method_25_code_17)
  refine own_st st5 ?_
  try clear st5
  try clear e4
  try clear X4
  try clear T4
  show own_Gl p e below _ (T5.setTop (mkF m 20 #[.val (.ref a), .val (.ref o)] [(.int (1 : Int32)), (.ref b), (.ref o), (.ref a)]))
  obtain ⟨cq6, q6, q6'⟩ := E_a.cell
  obtain ⟨_, _, ⟨T6, L6, k6, n6⟩, -, X6, ⟨Lc6, hQ6, l6, y6, z6⟩, st6⟩ := X5.privateBack hx (y := (⟨"java/util/ArrayList", "add", "(Ljava/lang/Object;[Ljava/lang/Object;I)V"⟩ : MethodName)) hown (mvT hZ (hw _ (List.mem_of_getElem? (i := 75) rfl))) (mvT hZ (hw _ (List.mem_of_getElem? (i := 76) rfl))) (mvT hZ (hw _ (List.mem_of_getElem? (i := 78) rfl))) (Cond.privateMethod_at (mvP hZ (hw _ (List.mem_of_getElem? (i := 77) rfl)) (args := #[]))) (mvT hZ (hw _ (List.mem_of_getElem? (i := 79) rfl))) (by decide) (backOf (W := 0) (own_rm_a3B1 l Z a0 hw [] a o b kb (mc + (1 : Int32)) v0 h2 n0 (Nat.le_trans Z0 K3.1) E_a F_m F_e F_s g_a V_b O_b ne_a_b g_b E_o) hZ (hw _ (List.mem_of_getElem? (i := 79) rfl)) (hw _ (List.mem_of_getElem? (i := 15) rfl)) (by decide) (by decide)) (g := (mkF m 20 #[.val (.ref a), .val (.ref o)] [(.int (1 : Int32)), (.ref b), (.ref o), (.ref a)])) rfl (by rw [hml]; rfl) (Steps.refl _) (a := a) (by rw [e5]; exact q6) q6' (argsL := [(.ref o), (.ref b), (.int (1 : Int32))]) (rest := []) (lenOf own_pd4 rfl) rfl (by show 2 * 0 + _ ≤ _; exact Nat.le_of_eq rfl) (hb hby own_d_jdk_38_method_25_code_20) (fun _ _ => ⟨rfl, e5, (by decide : 0 + 0 ≤ _), (by decide : 0 + 0 ≤ _)⟩)
  dsimp only [Pt.U, Pt.locs, Pt.cells, Pt.slots] at X6 l6 y6 z6 st6 hQ6
  subst l6 y6 z6
  obtain ⟨rfl, V_b, F_m, F_e, F_s, N6q, Kc6⟩ := hQ6
  have N6 := Fr.app N2 N6q
  refine own_tr st6 ?_
  replace E_a := E_a.keep Kc6
  replace E_o := E_o.keep Kc6
  have K7 : Keep h0 T6.heap [a, b] := K3.trans Kc6 (allS (Or.inl (List.mem_of_getElem? (i := 0) rfl)) (allS (Or.inl (List.mem_of_getElem? (i := 1) rfl)) all0))
  try clear Kc6
  try clear K3
  show own_Gl p e below _ (T6.setTop (mkF m 23 #[.val (.ref a), .val (.ref o)] []))
  try clear st6
  try clear N6q
  try clear N2
  try clear e5
  try clear X5
  try clear T5
  refine own_st (fun tg_ kg_ => XS.iconst X6.here hx rfl (hb hby own_d_jdk_38_method_25_code_23) kg_) ?_
  show own_Gl p e below _ (T6.setTop (mkF m 24 #[.val (.ref a), .val (.ref o)] [(.int (1 : Int32))]))
  exact own_retN X6 hx Bd.notSynchronized (t := .boolean) Bd.returns (by simp) (hb hby own_d_jdk_38_method_25_code_24) (by decide) (by decide) rfl (⟨rfl, V_b, F_m, F_e, F_s, N6, K7⟩)
theorem own_ef_a3B2 (m : MethodId) (x0 : Addr) (x1 : Addr) (x2 : Addr) (x3 : Int32) : entryFrame m #[(.ref x0), (.ref x1), (.ref x2), (.int x3)] 4 = mkF m 0 #[.val (.ref x0), .val (.ref x1), .val (.ref x2), .val (.int x3)] [] := by first | (simp [entryFrame, mkF, argsToLocals, Value.category]; done) | rfl
def own_Q_a3B2 (Z : State) (a o b : Addr) (kb : ClassId) (mc : Int32) (v0 v1 : Value) (h0 : Heap) (n0 : Nat) (v : Option Value) (h : Heap) (L : List Loc) : Prop := v = none ∧ Arv Z h b kb (.object "java/lang/Object") (10 : Int32) [v0, v1, (.ref o), .null, .null, .null, .null, .null, .null, .null] .null ∧ Fld Z h a "java/util/AbstractList" "modCount" "I" (.int mc) ∧ Fld Z h a "java/util/ArrayList" "elementData" "[Ljava/lang/Object;" (.ref b) ∧ Fld Z h a "java/util/ArrayList" "size" "I" (.int (3 : Int32)) ∧ Fr n0 L ∧ Keep h0 h [a, b]
set_option maxRecDepth 65536 in
set_option maxHeartbeats 40000000 in
theorem own_rm_a3B2 (l : Launch) (Z : State) (a0 : Array Value) (hw : ∀ d ∈ tables_1, d.before a0 Z = true) (ws : List Jvm.Cond) (a o b : Addr) (kb : ClassId) (mc : Int32) (v0 v1 : Value) (h0 : Heap) (n0 : Nat) (Z0 : n0 ≤ h0.size) (E_a : Exa Z h0 a "java/util/ArrayList") (F_m : Fld Z h0 a "java/util/AbstractList" "modCount" "I" (.int mc)) (F_e : Fld Z h0 a "java/util/ArrayList" "elementData" "[Ljava/lang/Object;" (.ref b)) (F_s : Fld Z h0 a "java/util/ArrayList" "size" "I" (.int (2 : Int32))) (g_a : n0 ≤ a)(V_b : Arv Z h0 b kb (.object "java/lang/Object") (10 : Int32) [v0, v1, .null, .null, .null, .null, .null, .null, .null, .null] .null) (O_b : Ovr Z kb "java/lang/Object") (ne_a_b : a ≠ b) (g_b : n0 ≤ b)(E_o : Exa Z h0 o "com/example/ratably/ratably/calendar/Slice") :
    MetFree l (⟨"java/util/ArrayList", "add", "(Ljava/lang/Object;[Ljava/lang/Object;I)V"⟩ : MethodName) (head1 (Jvm.Cond.code (⟨"java/util/ArrayList", "add", "(Ljava/lang/Object;[Ljava/lang/Object;I)V"⟩ : MethodName) jdk_38_method_24_code 4 none :: ws) ({ frames := 0, cells := 0, slots := 0, locals := 0 } : Room)) (fun aa UU => aa = #[(.ref a), (.ref o), (.ref b), (.int (2 : Int32))] ∧ Z.Warmed39 UU.vm ∧ UU.heap = h0) (fun _ _ _ _ _ => True) (fun _ UU oo UU' => ∃ vv LL, oo = .returned vv ∧ own_Q_a3B2 Z a o b kb mc v0 v1 h0 n0 vv UU'.heap LL ∧ FrameEnd UU oo UU' LL ({ frames := 0, cells := 0, slots := 0, locals := 0 } : Room).cells ({ frames := 0, cells := 0, slots := 0, locals := 0 } : Room).slots) := by
  refine MetFree.of_bodySF (plainFor_of_name own_pn3) hisR ?_
  intro p e s m args below meth c s₁ Bd hml0 hP hK
  obtain ⟨rfl, hZ, hh⟩ := hP
  have hx := Bd.exec
  have hby := Bd.bytes
  have hml : c.maxLocals = 4 := hml0
  have hown : s.vm.findClass "java/util/ArrayList" = some m.cls := findClass_of_methodNamed Bd.named
  have hnm := (name_of_methodNamed Bd.named Bd.method).1
  have X0 : Stand p l e ({ frames := 0, cells := 0, slots := 0, locals := 0 } : Room) s m #[(.ref a), (.ref o), (.ref b), (.int (2 : Int32))] below meth c s₁ [] 0 0 := Stand.of_body Bd
  have e0 : s₁.heap = h0 := by rw [← hh, Bd.state]; rfl
  have N0 := Fr.nil n0
  have K0 : Keep h0 h0 [a, b] := Keep.refl h0 _
  show own_Gl p e below (own_Post s (own_Q_a3B2 Z a o b kb mc v0 v1 h0 n0) ({ frames := 0, cells := 0, slots := 0, locals := 0 } : Room).cells ({ frames := 0, cells := 0, slots := 0, locals := 0 } : Room).slots) _
  refine own_st (fun tg_ kg_ => castTop (own_ef_a3B2 m a o b (2 : Int32)) kg_) ?_
  show own_Gl p e below _ (s₁.setTop (mkF m 0 #[.val (.ref a), .val (.ref o), .val (.ref b), .val (.int (2 : Int32))] []))
  refine own_st (fun tg_ kg_ => XS.iloadN X0.here hx rfl (hb hby own_d_jdk_38_method_24_code_0) rfl kg_) ?_
  show own_Gl p e below _ (s₁.setTop (mkF m 1 #[.val (.ref a), .val (.ref o), .val (.ref b), .val (.int (2 : Int32))] [(.int (2 : Int32))]))
  refine own_st (fun tg_ kg_ => XS.aloadN X0.here hx rfl (hb hby own_d_jdk_38_method_24_code_1) rfl rfl kg_) ?_
  show own_Gl p e below _ (s₁.setTop (mkF m 2 #[.val (.ref a), .val (.ref o), .val (.ref b), .val (.int (2 : Int32))] [(.ref b), (.int (2 : Int32))]))
  obtain ⟨cl1, Ar1, qa1, Sa1, Na1, Ha1, Ga1⟩ := id V_b
  refine own_st (fun tg_ kg_ => X0.arraylength hx (by rw [e0]; exact Ar1.1) (State.isArrayOf_alike hZ.alike Ar1.2.1) (g := (mkF m 2 #[.val (.ref a), .val (.ref o), .val (.ref b), .val (.int (2 : Int32))] [(.ref b), (.int (2 : Int32))])) rfl rfl (hb hby own_d_jdk_38_method_24_code_2) _ kg_) ?_
  rw [len_of Sa1 Na1]
  show own_Gl p e below _ (s₁.setTop (mkF m 3 #[.val (.ref a), .val (.ref o), .val (.ref b), .val (.int (2 : Int32))] [(.int (10 : Int32)), (.int (2 : Int32))]))
  refine own_st (fun tg_ kg_ => XS.icmpYes X0.here hx rfl (pc0 := 3) (pc' := 11) rfl (hb hby own_d_jdk_38_method_24_code_3) rfl (feq ((by decide : ¬ ((2 : Int32) = (10 : Int32))))).2 (by decide) (by decide) kg_) ?_
  show own_Gl p e below _ (s₁.setTop (mkF m 11 #[.val (.ref a), .val (.ref o), .val (.ref b), .val (.int (2 : Int32))] []))
  refine own_st (fun tg_ kg_ => XS.aloadN X0.here hx rfl (hb hby own_d_jdk_38_method_24_code_11) rfl rfl kg_) ?_
  show own_Gl p e below _ (s₁.setTop (mkF m 12 #[.val (.ref a), .val (.ref o), .val (.ref b), .val (.int (2 : Int32))] [(.ref b)]))
  refine own_st (fun tg_ kg_ => XS.iloadN X0.here hx rfl (hb hby own_d_jdk_38_method_24_code_12) rfl kg_) ?_
  show own_Gl p e below _ (s₁.setTop (mkF m 13 #[.val (.ref a), .val (.ref o), .val (.ref b), .val (.int (2 : Int32))] [(.int (2 : Int32)), (.ref b)]))
  refine own_st (fun tg_ kg_ => XS.aloadN X0.here hx rfl (hb hby own_d_jdk_38_method_24_code_13) rfl rfl kg_) ?_
  show own_Gl p e below _ (s₁.setTop (mkF m 14 #[.val (.ref a), .val (.ref o), .val (.ref b), .val (.int (2 : Int32))] [(.ref o), (.int (2 : Int32)), (.ref b)]))
  obtain ⟨cl2, Ar2, qa2, Sa2, Na2, Ha2, Ga2⟩ := id V_b
  have hin3 : ¬ ((2 : Int32) < 0 ∨ cl2.slots.size ≤ ((2 : Int32)).toNatClampNeg) := inb_of Sa2 ⟨by decide, by decide⟩
  obtain ⟨T3, h3, X3, e3, W3, st3⟩ := stR X0 hx hZ e0 Ar2 (j := (2 : Int32)) hin3 rfl (Sto.ofV Ar2 qa2 O_b (Ins.of_exa E_o (hw _ (List.mem_of_getElem? (i := 96) rfl)))) (g := (mkF m 14 #[.val (.ref a), .val (.ref o), .val (.ref b), .val (.int (2 : Int32))] [(.ref o), (.int (2 : Int32)), (.ref b)])) rfl rfl (hb hby own_d_jdk_38_method_24_code_14)
  have N3 := Fr.snoc X3 N0 g_b
  replace E_a := E_a.wr W3
  replace F_m := F_m.other W3 (Or.inl ne_a_b)
  replace F_e := F_e.other W3 (Or.inl ne_a_b)
  replace F_s := F_s.other W3 (Or.inl ne_a_b)
  replace E_o := E_o.wr W3
  have K4 : Keep h0 h3 [a, b] := K0.wr W3 (Or.inl (List.mem_of_getElem? (i := 1) rfl))
  replace V_b : Arv Z h3 b kb (.object "java/lang/Object") (10 : Int32) [v0, v1, (.ref o), .null, .null, .null, .null, .null, .null, .null] .null := Arv.set Ar2 qa2 Sa2 Na2 Ha2 Ga2 rfl W3 2 rfl (Nat.le_of_ble_eq_true rfl)
  try clear Ga2
  try clear Ha2
  try clear Na2
  try clear Sa2
  try clear qa2
  try clear W3
  try clear hin3
  try clear Ar2
  try clear cl2
  refine own_st st3 ?_
  try clear st3
  show own_Gl p e below _ (T3.setTop (mkF m 15 #[.val (.ref a), .val (.ref o), .val (.ref b), .val (.int (2 : Int32))] []))
  refine own_st (fun tg_ kg_ => XS.aloadN X3.here hx rfl (hb hby own_d_jdk_38_method_24_code_15) rfl rfl kg_) ?_
  show own_Gl p e below _ (T3.setTop (mkF m 16 #[.val (.ref a), .val (.ref o), .val (.ref b), .val (.int (2 : Int32))] [(.ref a)]))
  refine own_st (fun tg_ kg_ => XS.iloadN X3.here hx rfl (hb hby own_d_jdk_38_method_24_code_16) rfl kg_) ?_
  show own_Gl p e below _ (T3.setTop (mkF m 17 #[.val (.ref a), .val (.ref o), .val (.ref b), .val (.int (2 : Int32))] [(.int (2 : Int32)), (.ref a)]))
  refine own_st (fun tg_ kg_ => XS.iconst X3.here hx rfl (hb hby own_d_jdk_38_method_24_code_17) kg_) ?_
  show own_Gl p e below _ (T3.setTop (mkF m 18 #[.val (.ref a), .val (.ref o), .val (.ref b), .val (.int (2 : Int32))] [(.int (1 : Int32)), (.int (2 : Int32)), (.ref a)]))
  refine own_st (fun tg_ kg_ => XS.iadd X3.here hx rfl (hb hby own_d_jdk_38_method_24_code_18) rfl kg_) ?_
  show own_Gl p e below _ (T3.setTop (mkF m 19 #[.val (.ref a), .val (.ref o), .val (.ref b), .val (.int (2 : Int32))] [(.int (3 : Int32)), (.ref a)]))
  obtain ⟨T5, h5, X5, e5, W5, st5⟩ := putF X3 hx hZ hown (host := "") (Or.inl (hw _ (List.mem_of_getElem? (i := 58) rfl))) Via.refl e3 F_s E_a (Or.inl (hw _ (List.mem_of_getElem? (i := 59) rfl))) (hw _ (List.mem_of_getElem? (i := 14) rfl)) (ty := .int) (by decide) rfl rfl (g := (mkF m 19 #[.val (.ref a), .val (.ref o), .val (.ref b), .val (.int (2 : Int32))] [(.int (3 : Int32)), (.ref a)])) rfl rfl (hb hby own_d_jdk_38_method_24_code_19)
  have N5 := Fr.snoc X5 N3 g_a
  try clear N3
  replace E_a := E_a.wr W5
  replace F_m := F_m.other W5 (Or.inr (slot_ne (Or.inl (hw _ (List.mem_of_getElem? (i := 33) rfl))) (Or.inl (hw _ (List.mem_of_getElem? (i := 59) rfl))) (by decide) (t := .int) (t' := .int) (by decide) (by decide)))
  replace F_e := F_e.other W5 (Or.inr (slot_ne (Or.inl (hw _ (List.mem_of_getElem? (i := 36) rfl))) (Or.inl (hw _ (List.mem_of_getElem? (i := 59) rfl))) (by decide) (t := (.array (.object "java/lang/Object"))) (t' := .int) (by decide) (by decide)))
  replace F_s := F_s.same W5
  replace V_b := V_b.other W5 ne_a_b.symm
  replace E_o := E_o.wr W5
  have K6 : Keep h0 h5 [a, b] := K4.wr W5 (Or.inl (List.mem_of_getElem? (i := 0) rfl))
  try clear K4
  refine own_st st5 ?_
  try clear st5
  try clear e3
  try clear X3
  try clear T3
  show own_Gl p e below _ (T5.setTop (mkF m 22 #[.val (.ref a), .val (.ref o), .val (.ref b), .val (.int (2 : Int32))] []))
  exact own_retV X5 hx Bd.notSynchronized Bd.returns (hb hby own_d_jdk_38_method_24_code_22) (by decide) (by decide) e5 (⟨rfl, V_b, F_m, F_e, F_s, N5, K6⟩)
theorem own_ef_adB2 (m : MethodId) (x0 : Addr) (x1 : Addr) : entryFrame m #[(.ref x0), (.ref x1)] 2 = mkF m 0 #[.val (.ref x0), .val (.ref x1)] [] := by first | (simp [entryFrame, mkF, argsToLocals, Value.category]; done) | rfl
def own_Q_adB2 (Z : State) (a o b : Addr) (kb : ClassId) (mc : Int32) (v0 v1 : Value) (h0 : Heap) (n0 : Nat) (v : Option Value) (h : Heap) (L : List Loc) : Prop := v = some (.int 1) ∧ Arv Z h b kb (.object "java/lang/Object") (10 : Int32) [v0, v1, (.ref o), .null, .null, .null, .null, .null, .null, .null] .null ∧ Fld Z h a "java/util/AbstractList" "modCount" "I" (.int (mc + (1 : Int32))) ∧ Fld Z h a "java/util/ArrayList" "elementData" "[Ljava/lang/Object;" (.ref b) ∧ Fld Z h a "java/util/ArrayList" "size" "I" (.int (3 : Int32)) ∧ Fr n0 L ∧ Keep h0 h [a, b]
set_option maxRecDepth 65536 in
set_option maxHeartbeats 40000000 in
theorem own_rm_adB2 (l : Launch) (Z : State) (a0 : Array Value) (hw : ∀ d ∈ tables_1, d.before a0 Z = true) (ws : List Jvm.Cond) (a o b : Addr) (kb : ClassId) (mc : Int32) (v0 v1 : Value) (h0 : Heap) (n0 : Nat) (Z0 : n0 ≤ h0.size) (E_a : Exa Z h0 a "java/util/ArrayList") (F_m : Fld Z h0 a "java/util/AbstractList" "modCount" "I" (.int mc)) (F_e : Fld Z h0 a "java/util/ArrayList" "elementData" "[Ljava/lang/Object;" (.ref b)) (F_s : Fld Z h0 a "java/util/ArrayList" "size" "I" (.int (2 : Int32))) (g_a : n0 ≤ a)(V_b : Arv Z h0 b kb (.object "java/lang/Object") (10 : Int32) [v0, v1, .null, .null, .null, .null, .null, .null, .null, .null] .null) (O_b : Ovr Z kb "java/lang/Object") (ne_a_b : a ≠ b) (g_b : n0 ≤ b)(E_o : Exa Z h0 o "com/example/ratably/ratably/calendar/Slice") :
    MetFree l (⟨"java/util/ArrayList", "add", "(Ljava/lang/Object;)Z"⟩ : MethodName) (head1 (Jvm.Cond.code (⟨"java/util/ArrayList", "add", "(Ljava/lang/Object;)Z"⟩ : MethodName) jdk_38_method_25_code 2 (some .boolean) :: ws) ({ frames := 1, cells := 0, slots := 0, locals := 15 } : Room)) (fun aa UU => aa = #[(.ref a), (.ref o)] ∧ Z.Warmed39 UU.vm ∧ UU.heap = h0) (fun _ _ _ _ _ => True) (fun _ UU oo UU' => ∃ vv LL, oo = .returned vv ∧ own_Q_adB2 Z a o b kb mc v0 v1 h0 n0 vv UU'.heap LL ∧ FrameEnd UU oo UU' LL ({ frames := 1, cells := 0, slots := 0, locals := 15 } : Room).cells ({ frames := 1, cells := 0, slots := 0, locals := 15 } : Room).slots) := by
  refine MetFree.of_bodySF (plainFor_of_name own_pn3) hisR ?_
  intro p e s m args below meth c s₁ Bd hml0 hP hK
  obtain ⟨rfl, hZ, hh⟩ := hP
  have hx := Bd.exec
  have hby := Bd.bytes
  have hml : c.maxLocals = 2 := hml0
  have hown : s.vm.findClass "java/util/ArrayList" = some m.cls := findClass_of_methodNamed Bd.named
  have hnm := (name_of_methodNamed Bd.named Bd.method).1
  have X0 : Stand p l e ({ frames := 1, cells := 0, slots := 0, locals := 15 } : Room) s m #[(.ref a), (.ref o)] below meth c s₁ [] 0 0 := Stand.of_body Bd
  have e0 : s₁.heap = h0 := by rw [← hh, Bd.state]; rfl
  have N0 := Fr.nil n0
  have K0 : Keep h0 h0 [a, b] := Keep.refl h0 _
  show own_Gl p e below (own_Post s (own_Q_adB2 Z a o b kb mc v0 v1 h0 n0) ({ frames := 1, cells := 0, slots := 0, locals := 15 } : Room).cells ({ frames := 1, cells := 0, slots := 0, locals := 15 } : Room).slots) _
  refine own_st (fun tg_ kg_ => castTop (own_ef_adB2 m a o) kg_) ?_
  show own_Gl p e below _ (s₁.setTop (mkF m 0 #[.val (.ref a), .val (.ref o)] []))
  refine own_st (fun tg_ kg_ => XS.aloadN X0.here hx rfl (hb hby own_d_jdk_38_method_25_code_0) rfl rfl kg_) ?_
  show own_Gl p e below _ (s₁.setTop (mkF m 1 #[.val (.ref a), .val (.ref o)] [(.ref a)]))
  refine own_st (fun tg_ kg_ => XS.dup X0.here hx rfl (hb hby own_d_jdk_38_method_25_code_1) rfl rfl kg_) ?_
  show own_Gl p e below _ (s₁.setTop (mkF m 2 #[.val (.ref a), .val (.ref o)] [(.ref a), (.ref a)]))
  obtain ⟨T1, X1, e1, st1⟩ := getF X0 hx hZ hown (host := "") (Or.inl (hw _ (List.mem_of_getElem? (i := 73) rfl))) (Via.of (hw _ (List.mem_of_getElem? (i := 74) rfl))) e0 F_m (g := (mkF m 2 #[.val (.ref a), .val (.ref o)] [(.ref a), (.ref a)])) rfl rfl (hb hby own_d_jdk_38_method_25_code_2)
  refine own_st st1 ?_
  try clear st1
  show own_Gl p e below _ (T1.setTop (mkF m 5 #[.val (.ref a), .val (.ref o)] [(.int mc), (.ref a)]))
  refine own_st (fun tg_ kg_ => XS.iconst X1.here hx rfl (hb hby own_d_jdk_38_method_25_code_5) kg_) ?_
  show own_Gl p e below _ (T1.setTop (mkF m 6 #[.val (.ref a), .val (.ref o)] [(.int (1 : Int32)), (.int mc), (.ref a)]))
  refine own_st (fun tg_ kg_ => XS.iadd X1.here hx rfl (hb hby own_d_jdk_38_method_25_code_6) rfl kg_) ?_
  show own_Gl p e below _ (T1.setTop (mkF m 7 #[.val (.ref a), .val (.ref o)] [(.int (mc + (1 : Int32))), (.ref a)]))
  obtain ⟨T2, h2, X2, e2, W2, st2⟩ := putF X1 hx hZ hown (host := "") (Or.inl (hw _ (List.mem_of_getElem? (i := 73) rfl))) (Via.of (hw _ (List.mem_of_getElem? (i := 74) rfl))) e1 F_m E_a (Or.inl (hw _ (List.mem_of_getElem? (i := 33) rfl))) (hw _ (List.mem_of_getElem? (i := 14) rfl)) (ty := .int) (by decide) rfl rfl (g := (mkF m 7 #[.val (.ref a), .val (.ref o)] [(.int (mc + (1 : Int32))), (.ref a)])) rfl rfl (hb hby own_d_jdk_38_method_25_code_7)
  have N2 := Fr.snoc X2 N0 g_a
  replace E_a := E_a.wr W2
  replace F_m := F_m.same W2
  replace F_e := F_e.other W2 (Or.inr (slot_ne (Or.inl (hw _ (List.mem_of_getElem? (i := 36) rfl))) (Or.inl (hw _ (List.mem_of_getElem? (i := 33) rfl))) (by decide) (t := (.array (.object "java/lang/Object"))) (t' := .int) (by decide) (by decide)))
  replace F_s := F_s.other W2 (Or.inr (slot_ne (Or.inl (hw _ (List.mem_of_getElem? (i := 59) rfl))) (Or.inl (hw _ (List.mem_of_getElem? (i := 33) rfl))) (by decide) (t := .int) (t' := .int) (by decide) (by decide)))
  replace V_b := V_b.other W2 ne_a_b.symm
  replace E_o := E_o.wr W2
  have K3 : Keep h0 h2 [a, b] := K0.wr W2 (Or.inl (List.mem_of_getElem? (i := 0) rfl))
  refine own_st st2 ?_
  try clear st2
  try clear e1
  try clear X1
  try clear T1
  show own_Gl p e below _ (T2.setTop (mkF m 10 #[.val (.ref a), .val (.ref o)] []))
  refine own_st (fun tg_ kg_ => XS.aloadN X2.here hx rfl (hb hby own_d_jdk_38_method_25_code_10) rfl rfl kg_) ?_
  show own_Gl p e below _ (T2.setTop (mkF m 11 #[.val (.ref a), .val (.ref o)] [(.ref a)]))
  refine own_st (fun tg_ kg_ => XS.aloadN X2.here hx rfl (hb hby own_d_jdk_38_method_25_code_11) rfl rfl kg_) ?_
  show own_Gl p e below _ (T2.setTop (mkF m 12 #[.val (.ref a), .val (.ref o)] [(.ref o), (.ref a)]))
  refine own_st (fun tg_ kg_ => XS.aloadN X2.here hx rfl (hb hby own_d_jdk_38_method_25_code_12) rfl rfl kg_) ?_
  show own_Gl p e below _ (T2.setTop (mkF m 13 #[.val (.ref a), .val (.ref o)] [(.ref a), (.ref o), (.ref a)]))
  obtain ⟨T4, X4, e4, st4⟩ := getF X2 hx hZ hown (host := "") (Or.inl (hw _ (List.mem_of_getElem? (i := 35) rfl))) Via.refl e2 F_e (g := (mkF m 13 #[.val (.ref a), .val (.ref o)] [(.ref a), (.ref o), (.ref a)])) rfl rfl (hb hby own_d_jdk_38_method_25_code_13)
  refine own_st st4 ?_
  try clear st4
  try clear e2
  try clear X2
  try clear T2
  show own_Gl p e below _ (T4.setTop (mkF m 16 #[.val (.ref a), .val (.ref o)] [(.ref b), (.ref o), (.ref a)]))
  refine own_st (fun tg_ kg_ => XS.aloadN X4.here hx rfl (hb hby own_d_jdk_38_method_25_code_16) rfl rfl kg_) ?_
  show own_Gl p e below _ (T4.setTop (mkF m 17 #[.val (.ref a), .val (.ref o)] [(.ref a), (.ref b), (.ref o), (.ref a)]))
  obtain ⟨T5, X5, e5, st5⟩ := getF X4 hx hZ hown (host := "") (Or.inl (hw _ (List.mem_of_getElem? (i := 58) rfl))) Via.refl e4 F_s (g := (mkF m 17 #[.val (.ref a), .val (.ref o)] [(.ref a), (.ref b), (.ref o), (.ref a)])) rfl rfl (hb hby own_d_jdk_38_method_25_code_17)
  refine own_st st5 ?_
  try clear st5
  try clear e4
  try clear X4
  try clear T4
  show own_Gl p e below _ (T5.setTop (mkF m 20 #[.val (.ref a), .val (.ref o)] [(.int (2 : Int32)), (.ref b), (.ref o), (.ref a)]))
  obtain ⟨cq6, q6, q6'⟩ := E_a.cell
  obtain ⟨_, _, ⟨T6, L6, k6, n6⟩, -, X6, ⟨Lc6, hQ6, l6, y6, z6⟩, st6⟩ := X5.privateBack hx (y := (⟨"java/util/ArrayList", "add", "(Ljava/lang/Object;[Ljava/lang/Object;I)V"⟩ : MethodName)) hown (mvT hZ (hw _ (List.mem_of_getElem? (i := 75) rfl))) (mvT hZ (hw _ (List.mem_of_getElem? (i := 76) rfl))) (mvT hZ (hw _ (List.mem_of_getElem? (i := 78) rfl))) (Cond.privateMethod_at (mvP hZ (hw _ (List.mem_of_getElem? (i := 77) rfl)) (args := #[]))) (mvT hZ (hw _ (List.mem_of_getElem? (i := 79) rfl))) (by decide) (backOf (W := 0) (own_rm_a3B2 l Z a0 hw [] a o b kb (mc + (1 : Int32)) v0 v1 h2 n0 (Nat.le_trans Z0 K3.1) E_a F_m F_e F_s g_a V_b O_b ne_a_b g_b E_o) hZ (hw _ (List.mem_of_getElem? (i := 79) rfl)) (hw _ (List.mem_of_getElem? (i := 15) rfl)) (by decide) (by decide)) (g := (mkF m 20 #[.val (.ref a), .val (.ref o)] [(.int (2 : Int32)), (.ref b), (.ref o), (.ref a)])) rfl (by rw [hml]; rfl) (Steps.refl _) (a := a) (by rw [e5]; exact q6) q6' (argsL := [(.ref o), (.ref b), (.int (2 : Int32))]) (rest := []) (lenOf own_pd4 rfl) rfl (by show 2 * 0 + _ ≤ _; exact Nat.le_of_eq rfl) (hb hby own_d_jdk_38_method_25_code_20) (fun _ _ => ⟨rfl, e5, (by decide : 0 + 0 ≤ _), (by decide : 0 + 0 ≤ _)⟩)
  dsimp only [Pt.U, Pt.locs, Pt.cells, Pt.slots] at X6 l6 y6 z6 st6 hQ6
  subst l6 y6 z6
  obtain ⟨rfl, V_b, F_m, F_e, F_s, N6q, Kc6⟩ := hQ6
  have N6 := Fr.app N2 N6q
  refine own_tr st6 ?_
  replace E_a := E_a.keep Kc6
  replace E_o := E_o.keep Kc6
  have K7 : Keep h0 T6.heap [a, b] := K3.trans Kc6 (allS (Or.inl (List.mem_of_getElem? (i := 0) rfl)) (allS (Or.inl (List.mem_of_getElem? (i := 1) rfl)) all0))
  try clear Kc6
  try clear K3
  show own_Gl p e below _ (T6.setTop (mkF m 23 #[.val (.ref a), .val (.ref o)] []))
  try clear st6
  try clear N6q
  try clear N2
  try clear e5
  try clear X5
  try clear T5
  refine own_st (fun tg_ kg_ => XS.iconst X6.here hx rfl (hb hby own_d_jdk_38_method_25_code_23) kg_) ?_
  show own_Gl p e below _ (T6.setTop (mkF m 24 #[.val (.ref a), .val (.ref o)] [(.int (1 : Int32))]))
  exact own_retN X6 hx Bd.notSynchronized (t := .boolean) Bd.returns (by simp) (hb hby own_d_jdk_38_method_25_code_24) (by decide) (by decide) rfl (⟨rfl, V_b, F_m, F_e, F_s, N6, K7⟩)
theorem own_ef_adA (m : MethodId) (x0 : Addr) (x1 : Addr) : entryFrame m #[(.ref x0), (.ref x1)] 2 = mkF m 0 #[.val (.ref x0), .val (.ref x1)] [] := by first | (simp [entryFrame, mkF, argsToLocals, Value.category]; done) | rfl
def own_Q_adA (Z : State) (a o aD : Addr) (kD : ClassId) (mc : Int32) (h0 : Heap) (n0 : Nat) (v : Option Value) (h : Heap) (L : List Loc) : Prop := v = some (.int 1) ∧ (∃ b k, h0.size ≤ b ∧ Arv Z h b k (.object "java/lang/Object") (10 : Int32) [(.ref o), .null, .null, .null, .null, .null, .null, .null, .null, .null] .null ∧ Ovr Z k "java/lang/Object" ∧ Fld Z h a "java/util/AbstractList" "modCount" "I" (.int (mc + (1 : Int32))) ∧ Fld Z h a "java/util/ArrayList" "elementData" "[Ljava/lang/Object;" (.ref b) ∧ Fld Z h a "java/util/ArrayList" "size" "I" (.int (1 : Int32))) ∧ Fr n0 L ∧ Keep h0 h [a]
set_option maxRecDepth 65536 in
set_option maxHeartbeats 40000000 in
theorem own_rm_adA (l : Launch) (Z : State) (a0 : Array Value) (hw : ∀ d ∈ tables_1, d.before a0 Z = true) (ws : List Jvm.Cond) (a o aD : Addr) (kD : ClassId) (mc : Int32) (h0 : Heap) (n0 : Nat) (Z0 : n0 ≤ h0.size) (E_a : Exa Z h0 a "java/util/ArrayList") (F_m : Fld Z h0 a "java/util/AbstractList" "modCount" "I" (.int mc)) (F_e : Fld Z h0 a "java/util/ArrayList" "elementData" "[Ljava/lang/Object;" (.ref aD)) (F_s : Fld Z h0 a "java/util/ArrayList" "size" "I" (.int (0 : Int32))) (g_a : n0 ≤ a)(S_D : Sta Z h0 "java/util/ArrayList" "DEFAULTCAPACITY_EMPTY_ELEMENTDATA" "[Ljava/lang/Object;" (.ref aD))(V_aD : Arv Z h0 aD kD (.object "java/lang/Object") (0 : Int32) [] .null)(ne_a_aD : a ≠ aD)(E_o : Exa Z h0 o "com/example/ratably/ratably/calendar/Slice") :
    MetFree l (⟨"java/util/ArrayList", "add", "(Ljava/lang/Object;)Z"⟩ : MethodName) (head1 (Jvm.Cond.code (⟨"java/util/ArrayList", "add", "(Ljava/lang/Object;)Z"⟩ : MethodName) jdk_38_method_25_code 2 (some .boolean) :: ws) ({ frames := 4, cells := 1, slots := 10, locals := 56 } : Room)) (fun aa UU => aa = #[(.ref a), (.ref o)] ∧ Z.Warmed39 UU.vm ∧ UU.heap = h0) (fun _ _ _ _ _ => True) (fun _ UU oo UU' => ∃ vv LL, oo = .returned vv ∧ own_Q_adA Z a o aD kD mc h0 n0 vv UU'.heap LL ∧ FrameEnd UU oo UU' LL ({ frames := 4, cells := 1, slots := 10, locals := 56 } : Room).cells ({ frames := 4, cells := 1, slots := 10, locals := 56 } : Room).slots) := by
  refine MetFree.of_bodySF (plainFor_of_name own_pn3) hisR ?_
  intro p e s m args below meth c s₁ Bd hml0 hP hK
  obtain ⟨rfl, hZ, hh⟩ := hP
  have hx := Bd.exec
  have hby := Bd.bytes
  have hml : c.maxLocals = 2 := hml0
  have hown : s.vm.findClass "java/util/ArrayList" = some m.cls := findClass_of_methodNamed Bd.named
  have hnm := (name_of_methodNamed Bd.named Bd.method).1
  have X0 : Stand p l e ({ frames := 4, cells := 1, slots := 10, locals := 56 } : Room) s m #[(.ref a), (.ref o)] below meth c s₁ [] 0 0 := Stand.of_body Bd
  have e0 : s₁.heap = h0 := by rw [← hh, Bd.state]; rfl
  have N0 := Fr.nil n0
  have K0 : Keep h0 h0 [a] := Keep.refl h0 _
  show own_Gl p e below (own_Post s (own_Q_adA Z a o aD kD mc h0 n0) ({ frames := 4, cells := 1, slots := 10, locals := 56 } : Room).cells ({ frames := 4, cells := 1, slots := 10, locals := 56 } : Room).slots) _
  refine own_st (fun tg_ kg_ => castTop (own_ef_adA m a o) kg_) ?_
  show own_Gl p e below _ (s₁.setTop (mkF m 0 #[.val (.ref a), .val (.ref o)] []))
  have ns_a := E_a.nostat
  refine own_st (fun tg_ kg_ => XS.aloadN X0.here hx rfl (hb hby own_d_jdk_38_method_25_code_0) rfl rfl kg_) ?_
  show own_Gl p e below _ (s₁.setTop (mkF m 1 #[.val (.ref a), .val (.ref o)] [(.ref a)]))
  refine own_st (fun tg_ kg_ => XS.dup X0.here hx rfl (hb hby own_d_jdk_38_method_25_code_1) rfl rfl kg_) ?_
  show own_Gl p e below _ (s₁.setTop (mkF m 2 #[.val (.ref a), .val (.ref o)] [(.ref a), (.ref a)]))
  obtain ⟨T1, X1, e1, st1⟩ := getF X0 hx hZ hown (host := "") (Or.inl (hw _ (List.mem_of_getElem? (i := 73) rfl))) (Via.of (hw _ (List.mem_of_getElem? (i := 74) rfl))) e0 F_m (g := (mkF m 2 #[.val (.ref a), .val (.ref o)] [(.ref a), (.ref a)])) rfl rfl (hb hby own_d_jdk_38_method_25_code_2)
  refine own_st st1 ?_
  try clear st1
  show own_Gl p e below _ (T1.setTop (mkF m 5 #[.val (.ref a), .val (.ref o)] [(.int mc), (.ref a)]))
  refine own_st (fun tg_ kg_ => XS.iconst X1.here hx rfl (hb hby own_d_jdk_38_method_25_code_5) kg_) ?_
  show own_Gl p e below _ (T1.setTop (mkF m 6 #[.val (.ref a), .val (.ref o)] [(.int (1 : Int32)), (.int mc), (.ref a)]))
  refine own_st (fun tg_ kg_ => XS.iadd X1.here hx rfl (hb hby own_d_jdk_38_method_25_code_6) rfl kg_) ?_
  show own_Gl p e below _ (T1.setTop (mkF m 7 #[.val (.ref a), .val (.ref o)] [(.int (mc + (1 : Int32))), (.ref a)]))
  obtain ⟨T2, h2, X2, e2, W2, st2⟩ := putF X1 hx hZ hown (host := "") (Or.inl (hw _ (List.mem_of_getElem? (i := 73) rfl))) (Via.of (hw _ (List.mem_of_getElem? (i := 74) rfl))) e1 F_m E_a (Or.inl (hw _ (List.mem_of_getElem? (i := 33) rfl))) (hw _ (List.mem_of_getElem? (i := 14) rfl)) (ty := .int) (by decide) rfl rfl (g := (mkF m 7 #[.val (.ref a), .val (.ref o)] [(.int (mc + (1 : Int32))), (.ref a)])) rfl rfl (hb hby own_d_jdk_38_method_25_code_7)
  have N2 := Fr.snoc X2 N0 g_a
  replace E_a := E_a.wr W2
  replace F_m := F_m.same W2
  replace F_e := F_e.other W2 (Or.inr (slot_ne (Or.inl (hw _ (List.mem_of_getElem? (i := 36) rfl))) (Or.inl (hw _ (List.mem_of_getElem? (i := 33) rfl))) (by decide) (t := (.array (.object "java/lang/Object"))) (t' := .int) (by decide) (by decide)))
  replace F_s := F_s.other W2 (Or.inr (slot_ne (Or.inl (hw _ (List.mem_of_getElem? (i := 59) rfl))) (Or.inl (hw _ (List.mem_of_getElem? (i := 33) rfl))) (by decide) (t := .int) (t' := .int) (by decide) (by decide)))
  replace E_o := E_o.wr W2
  have K3 : Keep h0 h2 [a] := K0.wr W2 (Or.inl (List.mem_of_getElem? (i := 0) rfl))
  refine own_st st2 ?_
  try clear st2
  try clear e1
  try clear X1
  try clear T1
  show own_Gl p e below _ (T2.setTop (mkF m 10 #[.val (.ref a), .val (.ref o)] []))
  refine own_st (fun tg_ kg_ => XS.aloadN X2.here hx rfl (hb hby own_d_jdk_38_method_25_code_10) rfl rfl kg_) ?_
  show own_Gl p e below _ (T2.setTop (mkF m 11 #[.val (.ref a), .val (.ref o)] [(.ref a)]))
  refine own_st (fun tg_ kg_ => XS.aloadN X2.here hx rfl (hb hby own_d_jdk_38_method_25_code_11) rfl rfl kg_) ?_
  show own_Gl p e below _ (T2.setTop (mkF m 12 #[.val (.ref a), .val (.ref o)] [(.ref o), (.ref a)]))
  refine own_st (fun tg_ kg_ => XS.aloadN X2.here hx rfl (hb hby own_d_jdk_38_method_25_code_12) rfl rfl kg_) ?_
  show own_Gl p e below _ (T2.setTop (mkF m 13 #[.val (.ref a), .val (.ref o)] [(.ref a), (.ref o), (.ref a)]))
  obtain ⟨T4, X4, e4, st4⟩ := getF X2 hx hZ hown (host := "") (Or.inl (hw _ (List.mem_of_getElem? (i := 35) rfl))) Via.refl e2 F_e (g := (mkF m 13 #[.val (.ref a), .val (.ref o)] [(.ref a), (.ref o), (.ref a)])) rfl rfl (hb hby own_d_jdk_38_method_25_code_13)
  refine own_st st4 ?_
  try clear st4
  try clear e2
  try clear X2
  try clear T2
  show own_Gl p e below _ (T4.setTop (mkF m 16 #[.val (.ref a), .val (.ref o)] [(.ref aD), (.ref o), (.ref a)]))
  refine own_st (fun tg_ kg_ => XS.aloadN X4.here hx rfl (hb hby own_d_jdk_38_method_25_code_16) rfl rfl kg_) ?_
  show own_Gl p e below _ (T4.setTop (mkF m 17 #[.val (.ref a), .val (.ref o)] [(.ref a), (.ref aD), (.ref o), (.ref a)]))
  obtain ⟨T5, X5, e5, st5⟩ := getF X4 hx hZ hown (host := "") (Or.inl (hw _ (List.mem_of_getElem? (i := 58) rfl))) Via.refl e4 F_s (g := (mkF m 17 #[.val (.ref a), .val (.ref o)] [(.ref a), (.ref aD), (.ref o), (.ref a)])) rfl rfl (hb hby own_d_jdk_38_method_25_code_17)
  refine own_st st5 ?_
  try clear st5
  try clear e4
  try clear X4
  try clear T4
  show own_Gl p e below _ (T5.setTop (mkF m 20 #[.val (.ref a), .val (.ref o)] [(.int (0 : Int32)), (.ref aD), (.ref o), (.ref a)]))
  obtain ⟨cq6, q6, q6'⟩ := E_a.cell
  obtain ⟨_, _, ⟨T6, L6, k6, n6⟩, -, X6, ⟨Lc6, hQ6, l6, y6, z6⟩, st6⟩ := X5.privateBack hx (y := (⟨"java/util/ArrayList", "add", "(Ljava/lang/Object;[Ljava/lang/Object;I)V"⟩ : MethodName)) hown (mvT hZ (hw _ (List.mem_of_getElem? (i := 75) rfl))) (mvT hZ (hw _ (List.mem_of_getElem? (i := 76) rfl))) (mvT hZ (hw _ (List.mem_of_getElem? (i := 78) rfl))) (Cond.privateMethod_at (mvP hZ (hw _ (List.mem_of_getElem? (i := 77) rfl)) (args := #[]))) (mvT hZ (hw _ (List.mem_of_getElem? (i := 79) rfl))) (by decide) (backOf (W := 0) (own_rm_a3A l Z a0 hw [] a o aD kD (mc + (1 : Int32)) h2 n0 (Nat.le_trans Z0 K3.1) E_a F_m F_e F_s g_a (own_sta_keep S_D K3 (nsS ns_a ns0)) (V_aD.keep K3 (ninS ne_a_aD.symm nin0)) ne_a_aD E_o) hZ (hw _ (List.mem_of_getElem? (i := 79) rfl)) (hw _ (List.mem_of_getElem? (i := 15) rfl)) (by decide) (by decide)) (g := (mkF m 20 #[.val (.ref a), .val (.ref o)] [(.int (0 : Int32)), (.ref aD), (.ref o), (.ref a)])) rfl (by rw [hml]; rfl) (Steps.refl _) (a := a) (by rw [e5]; exact q6) q6' (argsL := [(.ref o), (.ref aD), (.int (0 : Int32))]) (rest := []) (lenOf own_pd4 rfl) rfl (by show 2 * 0 + _ ≤ _; exact Nat.le_of_eq rfl) (hb hby own_d_jdk_38_method_25_code_20) (fun _ _ => ⟨rfl, e5, (by decide : 0 + 1 ≤ _), (by decide : 0 + 10 ≤ _)⟩)
  dsimp only [Pt.U, Pt.locs, Pt.cells, Pt.slots] at X6 l6 y6 z6 st6 hQ6
  subst l6 y6 z6
  obtain ⟨rfl, ⟨b, kb, szc6, V_b, O_b, F_m, F_e, F_s⟩, N6q, Kc6⟩ := hQ6
  have N6 := Fr.app N2 N6q
  refine own_tr st6 ?_
  have ne_a_b : a ≠ b := Nat.ne_of_lt (Nat.lt_of_lt_of_le E_a.lt szc6)
  have ne_aD_b : aD ≠ b := Nat.ne_of_lt (Nat.lt_of_lt_of_le (V_aD.keep K3 (ninS ne_a_aD.symm nin0)).lt szc6)
  have ne_o_b : o ≠ b := Nat.ne_of_lt (Nat.lt_of_lt_of_le E_o.lt szc6)
  have sz_b : h0.size ≤ b := Nat.le_trans K3.1 szc6
  have g_b : n0 ≤ b := Nat.le_trans Z0 sz_b
  replace E_a := E_a.keep Kc6
  replace E_o := E_o.keep Kc6
  have K7 : Keep h0 T6.heap [a] := K3.trans Kc6 (allS (Or.inl (List.mem_of_getElem? (i := 0) rfl)) all0)
  try clear Kc6
  try clear K3
  show own_Gl p e below _ (T6.setTop (mkF m 23 #[.val (.ref a), .val (.ref o)] []))
  try clear st6
  try clear N6q
  try clear N2
  try clear e5
  try clear X5
  try clear T5
  refine own_st (fun tg_ kg_ => XS.iconst X6.here hx rfl (hb hby own_d_jdk_38_method_25_code_23) kg_) ?_
  show own_Gl p e below _ (T6.setTop (mkF m 24 #[.val (.ref a), .val (.ref o)] [(.int (1 : Int32))]))
  exact own_retN X6 hx Bd.notSynchronized (t := .boolean) Bd.returns (by simp) (hb hby own_d_jdk_38_method_25_code_24) (by decide) (by decide) rfl (⟨rfl, ⟨_, _, sz_b, V_b, O_b, F_m, F_e, F_s⟩, N6, K7⟩)
theorem own_pn5 : plainName "java/util/Arrays" = true := by first | (simp [plainName, overriddenIn]; done) | decide +kernel
theorem own_d_jdk_65_method_117_code_0 : decode jdk_65_method_117_code 0 = .ok (.iconst 0, 1) := by decide +kernel
theorem own_d_jdk_65_method_117_code_1 : decode jdk_65_method_117_code 1 = .ok (.istore_n 2, 1) := by decide +kernel
theorem own_d_jdk_65_method_117_code_2 : decode jdk_65_method_117_code 2 = .ok (.aload_n 0, 1) := by decide +kernel
theorem own_d_jdk_65_method_117_code_3 : decode jdk_65_method_117_code 3 = .ok (.arraylength, 1) := by decide +kernel
theorem own_d_jdk_65_method_117_code_4 : decode jdk_65_method_117_code 4 = .ok (.istore_n 3, 1) := by decide +kernel
theorem own_d_jdk_65_method_117_code_5 : decode jdk_65_method_117_code 5 = .ok (.iload_n 2, 1) := by decide +kernel
theorem own_d_jdk_65_method_117_code_6 : decode jdk_65_method_117_code 6 = .ok (.iload_n 3, 1) := by decide +kernel
theorem own_d_jdk_65_method_117_code_7 : decode jdk_65_method_117_code 7 = .ok (.if_icmp .ge 13, 3) := by decide +kernel
theorem own_d_jdk_65_method_117_code_20 : decode jdk_65_method_117_code 20 = .ok (.return_, 1) := by decide +kernel
theorem own_ef_fil0 (m : MethodId) (x0 : Addr) (x1 : Addr) : entryFrame m #[(.ref x0), (.ref x1)] 4 = mkF m 0 #[.val (.ref x0), .val (.ref x1), .unset, .unset] [] := by first | (simp [entryFrame, mkF, argsToLocals, Value.category]; done) | rfl
def own_Q_fil0 (Z : State) (w one : Addr) (kw : ClassId) (h0 : Heap) (n0 : Nat) (v : Option Value) (h : Heap) (L : List Loc) : Prop := v = none ∧ Arv Z h w kw (.object "java/math/BigDecimal") (0 : Int32) [] .null ∧ Fr n0 L ∧ Keep h0 h [w]
set_option maxRecDepth 65536 in
set_option maxHeartbeats 40000000 in
theorem own_rm_fil0 (l : Launch) (Z : State) (a0 : Array Value) (hw : ∀ d ∈ tables_1, d.before a0 Z = true) (ws : List Jvm.Cond) (w one : Addr) (kw : ClassId) (h0 : Heap) (n0 : Nat) (Z0 : n0 ≤ h0.size) (V_w : Arv Z h0 w kw (.object "java/math/BigDecimal") (0 : Int32) [] .null) (O_w : Ovr Z kw "java/math/BigDecimal") (E_1 : Exa Z h0 one "java/math/BigDecimal") (g_w : n0 ≤ w) :
    MetFree l (⟨"java/util/Arrays", "fill", "([Ljava/lang/Object;Ljava/lang/Object;)V"⟩ : MethodName) (head1 (Jvm.Cond.code (⟨"java/util/Arrays", "fill", "([Ljava/lang/Object;Ljava/lang/Object;)V"⟩ : MethodName) jdk_65_method_117_code 4 none :: ws) ({ frames := 0, cells := 0, slots := 0, locals := 0 } : Room)) (fun aa UU => aa = #[(.ref w), (.ref one)] ∧ Z.Warmed39 UU.vm ∧ UU.heap = h0) (fun _ _ _ _ _ => True) (fun _ UU oo UU' => ∃ vv LL, oo = .returned vv ∧ own_Q_fil0 Z w one kw h0 n0 vv UU'.heap LL ∧ FrameEnd UU oo UU' LL ({ frames := 0, cells := 0, slots := 0, locals := 0 } : Room).cells ({ frames := 0, cells := 0, slots := 0, locals := 0 } : Room).slots) := by
  refine MetFree.of_bodySF (plainFor_of_name own_pn5) hisR ?_
  intro p e s m args below meth c s₁ Bd hml0 hP hK
  obtain ⟨rfl, hZ, hh⟩ := hP
  have hx := Bd.exec
  have hby := Bd.bytes
  have hml : c.maxLocals = 4 := hml0
  have hown : s.vm.findClass "java/util/Arrays" = some m.cls := findClass_of_methodNamed Bd.named
  have hnm := (name_of_methodNamed Bd.named Bd.method).1
  have X0 : Stand p l e ({ frames := 0, cells := 0, slots := 0, locals := 0 } : Room) s m #[(.ref w), (.ref one)] below meth c s₁ [] 0 0 := Stand.of_body Bd
  have e0 : s₁.heap = h0 := by rw [← hh, Bd.state]; rfl
  have N0 := Fr.nil n0
  have K0 : Keep h0 h0 [w] := Keep.refl h0 _
  show own_Gl p e below (own_Post s (own_Q_fil0 Z w one kw h0 n0) ({ frames := 0, cells := 0, slots := 0, locals := 0 } : Room).cells ({ frames := 0, cells := 0, slots := 0, locals := 0 } : Room).slots) _
  refine own_st (fun tg_ kg_ => castTop (own_ef_fil0 m w one) kg_) ?_
  show own_Gl p e below _ (s₁.setTop (mkF m 0 #[.val (.ref w), .val (.ref one), .unset, .unset] []))
  refine own_st (fun tg_ kg_ => XS.iconst X0.here hx rfl (hb hby own_d_jdk_65_method_117_code_0) kg_) ?_
  show own_Gl p e below _ (s₁.setTop (mkF m 1 #[.val (.ref w), .val (.ref one), .unset, .unset] [(.int (0 : Int32))]))
  refine own_st (fun tg_ kg_ => XS.istoreN X0.here hx rfl (hb hby own_d_jdk_65_method_117_code_1) rfl (l' := #[.val (.ref w), .val (.ref one), .val (.int (0 : Int32)), .unset]) rfl kg_) ?_
  show own_Gl p e below _ (s₁.setTop (mkF m 2 #[.val (.ref w), .val (.ref one), .val (.int (0 : Int32)), .unset] []))
  refine own_st (fun tg_ kg_ => XS.aloadN X0.here hx rfl (hb hby own_d_jdk_65_method_117_code_2) rfl rfl kg_) ?_
  show own_Gl p e below _ (s₁.setTop (mkF m 3 #[.val (.ref w), .val (.ref one), .val (.int (0 : Int32)), .unset] [(.ref w)]))
  obtain ⟨cl1, Ar1, qa1, Sa1, Na1, Ha1, Ga1⟩ := id V_w
  refine own_st (fun tg_ kg_ => X0.arraylength hx (by rw [e0]; exact Ar1.1) (State.isArrayOf_alike hZ.alike Ar1.2.1) (g := (mkF m 3 #[.val (.ref w), .val (.ref one), .val (.int (0 : Int32)), .unset] [(.ref w)])) rfl rfl (hb hby own_d_jdk_65_method_117_code_3) _ kg_) ?_
  rw [len_of Sa1 Na1]
  show own_Gl p e below _ (s₁.setTop (mkF m 4 #[.val (.ref w), .val (.ref one), .val (.int (0 : Int32)), .unset] [(.int (0 : Int32))]))
  refine own_st (fun tg_ kg_ => XS.istoreN X0.here hx rfl (hb hby own_d_jdk_65_method_117_code_4) rfl (l' := #[.val (.ref w), .val (.ref one), .val (.int (0 : Int32)), .val (.int (0 : Int32))]) rfl kg_) ?_
  show own_Gl p e below _ (s₁.setTop (mkF m 5 #[.val (.ref w), .val (.ref one), .val (.int (0 : Int32)), .val (.int (0 : Int32))] []))
  refine own_st (fun tg_ kg_ => XS.iloadN X0.here hx rfl (hb hby own_d_jdk_65_method_117_code_5) rfl kg_) ?_
  show own_Gl p e below _ (s₁.setTop (mkF m 6 #[.val (.ref w), .val (.ref one), .val (.int (0 : Int32)), .val (.int (0 : Int32))] [(.int (0 : Int32))]))
  refine own_st (fun tg_ kg_ => XS.iloadN X0.here hx rfl (hb hby own_d_jdk_65_method_117_code_6) rfl kg_) ?_
  show own_Gl p e below _ (s₁.setTop (mkF m 7 #[.val (.ref w), .val (.ref one), .val (.int (0 : Int32)), .val (.int (0 : Int32))] [(.int (0 : Int32)), (.int (0 : Int32))]))
  refine own_st (fun tg_ kg_ => XS.icmpYes X0.here hx rfl (pc0 := 7) (pc' := 20) rfl (hb hby own_d_jdk_65_method_117_code_7) rfl (flt ((by decide : ¬ ((0 : Int32) < (0 : Int32))))).2.1 (by decide) (by decide) kg_) ?_
  show own_Gl p e below _ (s₁.setTop (mkF m 20 #[.val (.ref w), .val (.ref one), .val (.int (0 : Int32)), .val (.int (0 : Int32))] []))
  exact own_retV X0 hx Bd.notSynchronized Bd.returns (hb hby own_d_jdk_65_method_117_code_20) (by decide) (by decide) e0 (⟨rfl, V_w, N0, K0⟩)
theorem own_pd5 : parseMethodDescriptor "()I" = some ⟨[], some .int⟩ := by decide +kernel
theorem own_pd6 : parseMethodDescriptor "([Ljava/lang/Object;Ljava/lang/Object;)V" = some ⟨[(.array (.object "java/lang/Object")), (.object "java/lang/Object")], none⟩ := by decide +kernel
theorem own_d_prog_13_method_3_code_0 : decode prog_13_method_3_code 0 = .ok (.aload_n 1, 1) := by decide +kernel
theorem own_d_prog_13_method_3_code_1 : decode prog_13_method_3_code 1 = .ok (.invokeinterface 9 1, 5) := by decide +kernel
theorem own_d_prog_13_method_3_code_6 : decode prog_13_method_3_code 6 = .ok (.anewarray 15, 3) := by decide +kernel
theorem own_d_prog_13_method_3_code_9 : decode prog_13_method_3_code 9 = .ok (.astore_n 2, 1) := by decide +kernel
theorem own_d_prog_13_method_3_code_10 : decode prog_13_method_3_code 10 = .ok (.aload_n 2, 1) := by decide +kernel
theorem own_d_prog_13_method_3_code_11 : decode prog_13_method_3_code 11 = .ok (.getstatic 17, 3) := by decide +kernel
theorem own_d_prog_13_method_3_code_14 : decode prog_13_method_3_code 14 = .ok (.invokestatic 21, 3) := by decide +kernel
theorem own_d_prog_13_method_3_code_17 : decode prog_13_method_3_code 17 = .ok (.aload_n 2, 1) := by decide +kernel
theorem own_d_prog_13_method_3_code_18 : decode prog_13_method_3_code 18 = .ok (.areturn, 1) := by decide +kernel
theorem own_ef_wei0 (m : MethodId) (x0 : Addr) (x1 : Addr) : entryFrame m #[(.ref x0), (.ref x1)] 3 = mkF m 0 #[.val (.ref x0), .val (.ref x1), .unset] [] := by first | (simp [entryFrame, mkF, argsToLocals, Value.category]; done) | rfl
def own_Q_wei0 (Z : State) (pt a one : Addr) (h0 : Heap) (n0 : Nat) (v : Option Value) (h : Heap) (L : List Loc) : Prop := (∃ w kw, v = some (.ref w) ∧ h0.size ≤ w ∧ Arv Z h w kw (.object "java/math/BigDecimal") (0 : Int32) [] .null) ∧ Fr n0 L ∧ Ext h0 h
set_option maxRecDepth 65536 in
set_option maxHeartbeats 40000000 in
theorem own_rm_wei0 (l : Launch) (Z : State) (a0 : Array Value) (hw : ∀ d ∈ tables_1, d.before a0 Z = true) (ws : List Jvm.Cond) (pt a one : Addr) (h0 : Heap) (n0 : Nat) (Z0 : n0 ≤ h0.size) (E_a : Exa Z h0 a "java/util/ArrayList") (F_s : Fld Z h0 a "java/util/ArrayList" "size" "I" (.int (0 : Int32)))(S_1 : Sta Z h0 "java/math/BigDecimal" "ONE" "Ljava/math/BigDecimal;" (.ref one)) (E_1 : Exa Z h0 one "java/math/BigDecimal") :
    MetFree l (⟨"com/example/ratably/ratably/method/EvenPeriods", "weights", "(Ljava/util/List;)[Ljava/math/BigDecimal;"⟩ : MethodName) (head1 (Jvm.Cond.code (⟨"com/example/ratably/ratably/method/EvenPeriods", "weights", "(Ljava/util/List;)[Ljava/math/BigDecimal;"⟩ : MethodName) prog_13_method_3_code 3 (some (.array (.object "java/math/BigDecimal"))) :: ws) ({ frames := 1, cells := 1, slots := 0, locals := 15 } : Room)) (fun aa UU => aa = #[(.ref pt), (.ref a)] ∧ Z.Warmed39 UU.vm ∧ UU.heap = h0) (fun _ _ _ _ _ => True) (fun _ UU oo UU' => ∃ vv LL, oo = .returned vv ∧ own_Q_wei0 Z pt a one h0 n0 vv UU'.heap LL ∧ FrameEnd UU oo UU' LL ({ frames := 1, cells := 1, slots := 0, locals := 15 } : Room).cells ({ frames := 1, cells := 1, slots := 0, locals := 15 } : Room).slots) := by
  refine MetFree.of_bodySF (plainFor_of_name own_pn4) hisR ?_
  intro p e s m args below meth c s₁ Bd hml0 hP hK
  obtain ⟨rfl, hZ, hh⟩ := hP
  have hx := Bd.exec
  have hby := Bd.bytes
  have hml : c.maxLocals = 3 := hml0
  have hown : s.vm.findClass "com/example/ratably/ratably/method/EvenPeriods" = some m.cls := findClass_of_methodNamed Bd.named
  have hnm := (name_of_methodNamed Bd.named Bd.method).1
  have X0 : Stand p l e ({ frames := 1, cells := 1, slots := 0, locals := 15 } : Room) s m #[(.ref pt), (.ref a)] below meth c s₁ [] 0 0 := Stand.of_body Bd
  have e0 : s₁.heap = h0 := by rw [← hh, Bd.state]; rfl
  have N0 := Fr.nil n0
  show own_Gl p e below (own_Post s (own_Q_wei0 Z pt a one h0 n0) ({ frames := 1, cells := 1, slots := 0, locals := 15 } : Room).cells ({ frames := 1, cells := 1, slots := 0, locals := 15 } : Room).slots) _
  refine own_st (fun tg_ kg_ => castTop (own_ef_wei0 m pt a) kg_) ?_
  show own_Gl p e below _ (s₁.setTop (mkF m 0 #[.val (.ref pt), .val (.ref a), .unset] []))
  refine own_st (fun tg_ kg_ => XS.aloadN X0.here hx rfl (hb hby own_d_prog_13_method_3_code_0) rfl rfl kg_) ?_
  show own_Gl p e below _ (s₁.setTop (mkF m 1 #[.val (.ref pt), .val (.ref a), .unset] [(.ref a)]))
  obtain ⟨cq1, kq1, q1a, q1b, q1c⟩ := isOf hZ e0 E_a
  obtain ⟨_, _, ⟨T1, L1, k1, n1⟩, -, X1, ⟨Lc1, hQ1, l1, y1, z1⟩, st1⟩ := X0.interfaceBack hx (xi := (⟨"java/util/List", "size", "()I"⟩ : MethodName)) (y := (⟨"java/util/ArrayList", "size", "()I"⟩ : MethodName)) hown (mvT hZ (hw _ (List.mem_of_getElem? (i := 49) rfl))) (mvT hZ (hw _ (List.mem_of_getElem? (i := 50) rfl))) (mvT hZ (hw _ (List.mem_of_getElem? (i := 51) rfl))) (mvT hZ (hw _ (List.mem_of_getElem? (i := 52) rfl))) (mvT hZ (hw _ (List.mem_of_getElem? (i := 53) rfl))) (mvT hZ (hw _ (List.mem_of_getElem? (i := 54) rfl))) (mvT hZ (hw _ (List.mem_of_getElem? (i := 55) rfl))) (mvT hZ (hw _ (List.mem_of_getElem? (i := 56) rfl))) (by decide) (backOf (W := 0) (own_rm_siz l Z a0 hw [] a (0 : Int32) h0 n0 Z0 F_s) hZ (hw _ (List.mem_of_getElem? (i := 57) rfl)) (hw _ (List.mem_of_getElem? (i := 15) rfl)) (by decide) (by decide)) q1a q1b q1c (g := (mkF m 1 #[.val (.ref pt), .val (.ref a), .unset] [(.ref a)])) rfl (by rw [hml]; rfl) (Steps.refl _) (argsL := []) (rest := []) (lenOf own_pd5 rfl) rfl (by show 2 * 0 + _ ≤ _; exact Nat.le_of_eq rfl) (hb hby own_d_prog_13_method_3_code_1) (fun _ _ => ⟨rfl, e0, (by decide : 0 + 0 ≤ _), (by decide : 0 + 0 ≤ _)⟩)
  dsimp only [Pt.U, Pt.locs, Pt.cells, Pt.slots] at X1 l1 y1 z1 st1 hQ1
  subst l1 y1 z1
  obtain ⟨rfl, N1q, e1⟩ := hQ1
  have N1 := Fr.app N0 N1q
  refine own_tr st1 ?_
  show own_Gl p e below _ (T1.setTop (mkF m 6 #[.val (.ref pt), .val (.ref a), .unset] [(.int (0 : Int32))]))
  try clear st1
  try clear N1q
  obtain ⟨T2, h2, k2, X2, e2, E2, A2, O2, st2⟩ := newR X1 hx hZ hown (hw _ (List.mem_of_getElem? (i := 60) rfl)) (hw _ (List.mem_of_getElem? (i := 61) rfl)) e1 (g := (mkF m 6 #[.val (.ref pt), .val (.ref a), .unset] [(.int (0 : Int32))])) rfl (hb hby own_d_prog_13_method_3_code_6) rfl (by decide) (cap := 0) (by decide) (by decide) (by decide) (by decide)
  obtain ⟨b2, g2⟩ : ∃ z, z = h0.size := ⟨_, rfl⟩
  have ne_a_b2 : a ≠ b2 := Nat.ne_of_lt (Nat.lt_of_lt_of_le E_a.lt (Nat.le_of_eq g2.symm))
  have ne_one_b2 : one ≠ b2 := Nat.ne_of_lt (Nat.lt_of_lt_of_le E_1.lt (Nat.le_of_eq g2.symm))
  have sz_b2 : h0.size ≤ b2 := Nat.le_of_eq g2.symm
  have g_b2 : n0 ≤ b2 := Nat.le_trans Z0 sz_b2
  rw [← g2] at A2 st2
  have V_b2 : Arv Z h2 b2 k2 (.object "java/math/BigDecimal") (0 : Int32) [] .null := (Arv.new A2 (by decide)).pad (pad_rep [] .null 0)
  refine own_st st2 ?_
  try clear st2
  try clear e1
  try clear X1
  try clear T1
  show own_Gl p e below _ (T2.setTop (mkF m 9 #[.val (.ref pt), .val (.ref a), .unset] [(.ref b2)]))
  refine own_st (fun tg_ kg_ => XS.astoreN X2.here hx rfl (hb hby own_d_prog_13_method_3_code_9) rfl rfl (l' := #[.val (.ref pt), .val (.ref a), .val (.ref b2)]) rfl kg_) ?_
  show own_Gl p e below _ (T2.setTop (mkF m 10 #[.val (.ref pt), .val (.ref a), .val (.ref b2)] []))
  refine own_st (fun tg_ kg_ => XS.aloadN X2.here hx rfl (hb hby own_d_prog_13_method_3_code_10) rfl rfl kg_) ?_
  show own_Gl p e below _ (T2.setTop (mkF m 11 #[.val (.ref pt), .val (.ref a), .val (.ref b2)] [(.ref b2)]))
  obtain ⟨T4, X4, e4, st4⟩ := getS2 X2 hx hZ hown (host := "") (Or.inl (hw _ (List.mem_of_getElem? (i := 62) rfl))) Via.refl e2 (S_1.ext E2) (g := (mkF m 11 #[.val (.ref pt), .val (.ref a), .val (.ref b2)] [(.ref b2)])) rfl (hb hby own_d_prog_13_method_3_code_11)
  refine own_st st4 ?_
  try clear st4
  try clear e2
  try clear X2
  try clear T2
  show own_Gl p e below _ (T4.setTop (mkF m 14 #[.val (.ref pt), .val (.ref a), .val (.ref b2)] [(.ref one), (.ref b2)]))
  obtain ⟨_, _, ⟨T5, L5, k5, n5⟩, -, X5, ⟨Lc5, hQ5, l5, y5, z5⟩, st5⟩ := Jvm.LawKit.callS X4 hx (y := (⟨"java/util/Arrays", "fill", "([Ljava/lang/Object;Ljava/lang/Object;)V"⟩ : MethodName)) hown (mvT hZ (hw _ (List.mem_of_getElem? (i := 64) rfl))) (mvT hZ (hw _ (List.mem_of_getElem? (i := 65) rfl))) (mvT hZ (hw _ (List.mem_of_getElem? (i := 66) rfl))) (mvT hZ (hw _ (List.mem_of_getElem? (i := 67) rfl))) (by decide) (backOf (W := 0) (own_rm_fil0 l Z a0 hw [] b2 one k2 h2 n0 (Nat.le_trans Z0 E2.1) V_b2 O2 (E_1.ext E2) g_b2) hZ (hw _ (List.mem_of_getElem? (i := 67) rfl)) (hw _ (List.mem_of_getElem? (i := 66) rfl)) (by decide) (by decide)) (g := (mkF m 14 #[.val (.ref pt), .val (.ref a), .val (.ref b2)] [(.ref one), (.ref b2)])) rfl (by rw [hml]; rfl) (argsL := [(.ref b2), (.ref one)]) (rest := []) (lenOf own_pd6 rfl) rfl (by show 2 * 0 + _ ≤ _; exact Nat.le_of_eq rfl) (hb hby own_d_prog_13_method_3_code_14) (fun _ _ => ⟨rfl, e4, (by decide : 1 + 0 ≤ _), (by decide : 0 + 0 ≤ _)⟩)
  dsimp only [Pt.U, Pt.locs, Pt.cells, Pt.slots] at X5 l5 y5 z5 st5 hQ5
  subst l5 y5 z5
  obtain ⟨rfl, V_b2, N5q, Kc5⟩ := hQ5
  have N5 := Fr.app N1 N5q
  refine own_st st5 ?_
  have K6 := own_ext_keep E2 Kc5 (allS sz_b2 all0)
  try clear Kc5
  try clear E2
  show own_Gl p e below _ (T5.setTop (mkF m 17 #[.val (.ref pt), .val (.ref a), .val (.ref b2)] []))
  try clear st5
  try clear N5q
  try clear N1
  try clear e4
  try clear X4
  try clear T4
  refine own_st (fun tg_ kg_ => XS.aloadN X5.here hx rfl (hb hby own_d_prog_13_method_3_code_17) rfl rfl kg_) ?_
  show own_Gl p e below _ (T5.setTop (mkF m 18 #[.val (.ref pt), .val (.ref a), .val (.ref b2)] [(.ref b2)]))
  exact own_retA X5 hx Bd.notSynchronized Bd.returns rfl rfl (hb hby own_d_prog_13_method_3_code_18) (by decide) (by decide) rfl (⟨⟨_, _, rfl, sz_b2, V_b2⟩, N5, K6⟩)
theorem own_d_jdk_65_method_117_code_10 : decode jdk_65_method_117_code 10 = .ok (.aload_n 0, 1) := by decide +kernel
theorem own_d_jdk_65_method_117_code_11 : decode jdk_65_method_117_code 11 = .ok (.iload_n 2, 1) := by decide +kernel
theorem own_d_jdk_65_method_117_code_12 : decode jdk_65_method_117_code 12 = .ok (.aload_n 1, 1) := by decide +kernel
theorem own_d_jdk_65_method_117_code_13 : decode jdk_65_method_117_code 13 = .ok (.aastore, 1) := by decide +kernel
theorem own_d_jdk_65_method_117_code_14 : decode jdk_65_method_117_code 14 = .ok (.iinc 2 1, 3) := by decide +kernel
theorem own_d_jdk_65_method_117_code_17 : decode jdk_65_method_117_code 17 = .ok (.goto (-12), 3) := by decide +kernel
theorem own_ef_fil1 (m : MethodId) (x0 : Addr) (x1 : Addr) : entryFrame m #[(.ref x0), (.ref x1)] 4 = mkF m 0 #[.val (.ref x0), .val (.ref x1), .unset, .unset] [] := by first | (simp [entryFrame, mkF, argsToLocals, Value.category]; done) | rfl
def own_Q_fil1 (Z : State) (w one : Addr) (kw : ClassId) (h0 : Heap) (n0 : Nat) (v : Option Value) (h : Heap) (L : List Loc) : Prop := v = none ∧ Arv Z h w kw (.object "java/math/BigDecimal") (1 : Int32) [(.ref one)] .null ∧ Fr n0 L ∧ Keep h0 h [w]
set_option maxRecDepth 65536 in
set_option maxHeartbeats 40000000 in
theorem own_rm_fil1 (l : Launch) (Z : State) (a0 : Array Value) (hw : ∀ d ∈ tables_1, d.before a0 Z = true) (ws : List Jvm.Cond) (w one : Addr) (kw : ClassId) (h0 : Heap) (n0 : Nat) (Z0 : n0 ≤ h0.size) (V_w : Arv Z h0 w kw (.object "java/math/BigDecimal") (1 : Int32) [.null] .null) (O_w : Ovr Z kw "java/math/BigDecimal") (E_1 : Exa Z h0 one "java/math/BigDecimal") (g_w : n0 ≤ w) :
    MetFree l (⟨"java/util/Arrays", "fill", "([Ljava/lang/Object;Ljava/lang/Object;)V"⟩ : MethodName) (head1 (Jvm.Cond.code (⟨"java/util/Arrays", "fill", "([Ljava/lang/Object;Ljava/lang/Object;)V"⟩ : MethodName) jdk_65_method_117_code 4 none :: ws) ({ frames := 0, cells := 0, slots := 0, locals := 0 } : Room)) (fun aa UU => aa = #[(.ref w), (.ref one)] ∧ Z.Warmed39 UU.vm ∧ UU.heap = h0) (fun _ _ _ _ _ => True) (fun _ UU oo UU' => ∃ vv LL, oo = .returned vv ∧ own_Q_fil1 Z w one kw h0 n0 vv UU'.heap LL ∧ FrameEnd UU oo UU' LL ({ frames := 0, cells := 0, slots := 0, locals := 0 } : Room).cells ({ frames := 0, cells := 0, slots := 0, locals := 0 } : Room).slots) := by
  refine MetFree.of_bodySF (plainFor_of_name own_pn5) hisR ?_
  intro p e s m args below meth c s₁ Bd hml0 hP hK
  obtain ⟨rfl, hZ, hh⟩ := hP
  have hx := Bd.exec
  have hby := Bd.bytes
  have hml : c.maxLocals = 4 := hml0
  have hown : s.vm.findClass "java/util/Arrays" = some m.cls := findClass_of_methodNamed Bd.named
  have hnm := (name_of_methodNamed Bd.named Bd.method).1
  have X0 : Stand p l e ({ frames := 0, cells := 0, slots := 0, locals := 0 } : Room) s m #[(.ref w), (.ref one)] below meth c s₁ [] 0 0 := Stand.of_body Bd
  have e0 : s₁.heap = h0 := by rw [← hh, Bd.state]; rfl
  have N0 := Fr.nil n0
  have K0 : Keep h0 h0 [w] := Keep.refl h0 _
  show own_Gl p e below (own_Post s (own_Q_fil1 Z w one kw h0 n0) ({ frames := 0, cells := 0, slots := 0, locals := 0 } : Room).cells ({ frames := 0, cells := 0, slots := 0, locals := 0 } : Room).slots) _
  refine own_st (fun tg_ kg_ => castTop (own_ef_fil1 m w one) kg_) ?_
  show own_Gl p e below _ (s₁.setTop (mkF m 0 #[.val (.ref w), .val (.ref one), .unset, .unset] []))
  refine own_st (fun tg_ kg_ => XS.iconst X0.here hx rfl (hb hby own_d_jdk_65_method_117_code_0) kg_) ?_
  show own_Gl p e below _ (s₁.setTop (mkF m 1 #[.val (.ref w), .val (.ref one), .unset, .unset] [(.int (0 : Int32))]))
  refine own_st (fun tg_ kg_ => XS.istoreN X0.here hx rfl (hb hby own_d_jdk_65_method_117_code_1) rfl (l' := #[.val (.ref w), .val (.ref one), .val (.int (0 : Int32)), .unset]) rfl kg_) ?_
  show own_Gl p e below _ (s₁.setTop (mkF m 2 #[.val (.ref w), .val (.ref one), .val (.int (0 : Int32)), .unset] []))
  refine own_st (fun tg_ kg_ => XS.aloadN X0.here hx rfl (hb hby own_d_jdk_65_method_117_code_2) rfl rfl kg_) ?_
  show own_Gl p e below _ (s₁.setTop (mkF m 3 #[.val (.ref w), .val (.ref one), .val (.int (0 : Int32)), .unset] [(.ref w)]))
  obtain ⟨cl1, Ar1, qa1, Sa1, Na1, Ha1, Ga1⟩ := id V_w
  refine own_st (fun tg_ kg_ => X0.arraylength hx (by rw [e0]; exact Ar1.1) (State.isArrayOf_alike hZ.alike Ar1.2.1) (g := (mkF m 3 #[.val (.ref w), .val (.ref one), .val (.int (0 : Int32)), .unset] [(.ref w)])) rfl rfl (hb hby own_d_jdk_65_method_117_code_3) _ kg_) ?_
  rw [len_of Sa1 Na1]
  show own_Gl p e below _ (s₁.setTop (mkF m 4 #[.val (.ref w), .val (.ref one), .val (.int (0 : Int32)), .unset] [(.int (1 : Int32))]))
  refine own_st (fun tg_ kg_ => XS.istoreN X0.here hx rfl (hb hby own_d_jdk_65_method_117_code_4) rfl (l' := #[.val (.ref w), .val (.ref one), .val (.int (0 : Int32)), .val (.int (1 : Int32))]) rfl kg_) ?_
  show own_Gl p e below _ (s₁.setTop (mkF m 5 #[.val (.ref w), .val (.ref one), .val (.int (0 : Int32)), .val (.int (1 : Int32))] []))
  refine own_st (fun tg_ kg_ => XS.iloadN X0.here hx rfl (hb hby own_d_jdk_65_method_117_code_5) rfl kg_) ?_
  show own_Gl p e below _ (s₁.setTop (mkF m 6 #[.val (.ref w), .val (.ref one), .val (.int (0 : Int32)), .val (.int (1 : Int32))] [(.int (0 : Int32))]))
  refine own_st (fun tg_ kg_ => XS.iloadN X0.here hx rfl (hb hby own_d_jdk_65_method_117_code_6) rfl kg_) ?_
  show own_Gl p e below _ (s₁.setTop (mkF m 7 #[.val (.ref w), .val (.ref one), .val (.int (0 : Int32)), .val (.int (1 : Int32))] [(.int (1 : Int32)), (.int (0 : Int32))]))
  refine own_st (fun tg_ kg_ => XS.icmpNo X0.here hx rfl (hb hby own_d_jdk_65_method_117_code_7) rfl (tlt ((by decide : (0 : Int32) < (1 : Int32)))).2.1 kg_) ?_
  show own_Gl p e below _ (s₁.setTop (mkF m 10 #[.val (.ref w), .val (.ref one), .val (.int (0 : Int32)), .val (.int (1 : Int32))] []))
  refine own_st (fun tg_ kg_ => XS.aloadN X0.here hx rfl (hb hby own_d_jdk_65_method_117_code_10) rfl rfl kg_) ?_
  show own_Gl p e below _ (s₁.setTop (mkF m 11 #[.val (.ref w), .val (.ref one), .val (.int (0 : Int32)), .val (.int (1 : Int32))] [(.ref w)]))
  refine own_st (fun tg_ kg_ => XS.iloadN X0.here hx rfl (hb hby own_d_jdk_65_method_117_code_11) rfl kg_) ?_
  show own_Gl p e below _ (s₁.setTop (mkF m 12 #[.val (.ref w), .val (.ref one), .val (.int (0 : Int32)), .val (.int (1 : Int32))] [(.int (0 : Int32)), (.ref w)]))
  refine own_st (fun tg_ kg_ => XS.aloadN X0.here hx rfl (hb hby own_d_jdk_65_method_117_code_12) rfl rfl kg_) ?_
  show own_Gl p e below _ (s₁.setTop (mkF m 13 #[.val (.ref w), .val (.ref one), .val (.int (0 : Int32)), .val (.int (1 : Int32))] [(.ref one), (.int (0 : Int32)), (.ref w)]))
  obtain ⟨cl2, Ar2, qa2, Sa2, Na2, Ha2, Ga2⟩ := id V_w
  have hin3 : ¬ ((0 : Int32) < 0 ∨ cl2.slots.size ≤ ((0 : Int32)).toNatClampNeg) := inb_of Sa2 ⟨by decide, by decide⟩
  obtain ⟨T3, h3, X3, e3, W3, st3⟩ := stR X0 hx hZ e0 Ar2 (j := (0 : Int32)) hin3 rfl (Sto.ofV Ar2 qa2 O_w (Ins.self E_1)) (g := (mkF m 13 #[.val (.ref w), .val (.ref one), .val (.int (0 : Int32)), .val (.int (1 : Int32))] [(.ref one), (.int (0 : Int32)), (.ref w)])) rfl rfl (hb hby own_d_jdk_65_method_117_code_13)
  have N3 := Fr.snoc X3 N0 g_w
  replace E_1 := E_1.wr W3
  have K4 : Keep h0 h3 [w] := K0.wr W3 (Or.inl (List.mem_of_getElem? (i := 0) rfl))
  replace V_w : Arv Z h3 w kw (.object "java/math/BigDecimal") (1 : Int32) [(.ref one)] .null := Arv.set Ar2 qa2 Sa2 Na2 Ha2 Ga2 rfl W3 0 rfl (Nat.le_of_ble_eq_true rfl)
  try clear Ga2
  try clear Ha2
  try clear Na2
  try clear Sa2
  try clear qa2
  try clear W3
  try clear hin3
  try clear Ar2
  try clear cl2
  refine own_st st3 ?_
  try clear st3
  show own_Gl p e below _ (T3.setTop (mkF m 14 #[.val (.ref w), .val (.ref one), .val (.int (0 : Int32)), .val (.int (1 : Int32))] []))
  refine own_st (fun tg_ kg_ => XS.iinc X3.here hx rfl (hb hby own_d_jdk_65_method_117_code_14) rfl (l' := #[.val (.ref w), .val (.ref one), .val (.int (1 : Int32)), .val (.int (1 : Int32))]) rfl kg_) ?_
  show own_Gl p e below _ (T3.setTop (mkF m 17 #[.val (.ref w), .val (.ref one), .val (.int (1 : Int32)), .val (.int (1 : Int32))] []))
  refine own_st (fun tg_ kg_ => XS.goto X3.here hx rfl (pc0 := 17) (pc' := 5) rfl (hb hby own_d_jdk_65_method_117_code_17) (by decide) (by decide) kg_) ?_
  show own_Gl p e below _ (T3.setTop (mkF m 5 #[.val (.ref w), .val (.ref one), .val (.int (1 : Int32)), .val (.int (1 : Int32))] []))
  refine own_st (fun tg_ kg_ => XS.iloadN X3.here hx rfl (hb hby own_d_jdk_65_method_117_code_5) rfl kg_) ?_
  show own_Gl p e below _ (T3.setTop (mkF m 6 #[.val (.ref w), .val (.ref one), .val (.int (1 : Int32)), .val (.int (1 : Int32))] [(.int (1 : Int32))]))
  refine own_st (fun tg_ kg_ => XS.iloadN X3.here hx rfl (hb hby own_d_jdk_65_method_117_code_6) rfl kg_) ?_
  show own_Gl p e below _ (T3.setTop (mkF m 7 #[.val (.ref w), .val (.ref one), .val (.int (1 : Int32)), .val (.int (1 : Int32))] [(.int (1 : Int32)), (.int (1 : Int32))]))
  refine own_st (fun tg_ kg_ => XS.icmpYes X3.here hx rfl (pc0 := 7) (pc' := 20) rfl (hb hby own_d_jdk_65_method_117_code_7) rfl (flt ((by decide : ¬ ((1 : Int32) < (1 : Int32))))).2.1 (by decide) (by decide) kg_) ?_
  show own_Gl p e below _ (T3.setTop (mkF m 20 #[.val (.ref w), .val (.ref one), .val (.int (1 : Int32)), .val (.int (1 : Int32))] []))
  exact own_retV X3 hx Bd.notSynchronized Bd.returns (hb hby own_d_jdk_65_method_117_code_20) (by decide) (by decide) e3 (⟨rfl, V_w, N3, K4⟩)
theorem own_ef_wei1 (m : MethodId) (x0 : Addr) (x1 : Addr) : entryFrame m #[(.ref x0), (.ref x1)] 3 = mkF m 0 #[.val (.ref x0), .val (.ref x1), .unset] [] := by first | (simp [entryFrame, mkF, argsToLocals, Value.category]; done) | rfl
def own_Q_wei1 (Z : State) (pt a one : Addr) (h0 : Heap) (n0 : Nat) (v : Option Value) (h : Heap) (L : List Loc) : Prop := (∃ w kw, v = some (.ref w) ∧ h0.size ≤ w ∧ Arv Z h w kw (.object "java/math/BigDecimal") (1 : Int32) [(.ref one)] .null) ∧ Fr n0 L ∧ Ext h0 h
set_option maxRecDepth 65536 in
set_option maxHeartbeats 40000000 in
theorem own_rm_wei1 (l : Launch) (Z : State) (a0 : Array Value) (hw : ∀ d ∈ tables_1, d.before a0 Z = true) (ws : List Jvm.Cond) (pt a one : Addr) (h0 : Heap) (n0 : Nat) (Z0 : n0 ≤ h0.size) (E_a : Exa Z h0 a "java/util/ArrayList") (F_s : Fld Z h0 a "java/util/ArrayList" "size" "I" (.int (1 : Int32)))(S_1 : Sta Z h0 "java/math/BigDecimal" "ONE" "Ljava/math/BigDecimal;" (.ref one)) (E_1 : Exa Z h0 one "java/math/BigDecimal") :
    MetFree l (⟨"com/example/ratably/ratably/method/EvenPeriods", "weights", "(Ljava/util/List;)[Ljava/math/BigDecimal;"⟩ : MethodName) (head1 (Jvm.Cond.code (⟨"com/example/ratably/ratably/method/EvenPeriods", "weights", "(Ljava/util/List;)[Ljava/math/BigDecimal;"⟩ : MethodName) prog_13_method_3_code 3 (some (.array (.object "java/math/BigDecimal"))) :: ws) ({ frames := 1, cells := 1, slots := 1, locals := 15 } : Room)) (fun aa UU => aa = #[(.ref pt), (.ref a)] ∧ Z.Warmed39 UU.vm ∧ UU.heap = h0) (fun _ _ _ _ _ => True) (fun _ UU oo UU' => ∃ vv LL, oo = .returned vv ∧ own_Q_wei1 Z pt a one h0 n0 vv UU'.heap LL ∧ FrameEnd UU oo UU' LL ({ frames := 1, cells := 1, slots := 1, locals := 15 } : Room).cells ({ frames := 1, cells := 1, slots := 1, locals := 15 } : Room).slots) := by
  refine MetFree.of_bodySF (plainFor_of_name own_pn4) hisR ?_
  intro p e s m args below meth c s₁ Bd hml0 hP hK
  obtain ⟨rfl, hZ, hh⟩ := hP
  have hx := Bd.exec
  have hby := Bd.bytes
  have hml : c.maxLocals = 3 := hml0
  have hown : s.vm.findClass "com/example/ratably/ratably/method/EvenPeriods" = some m.cls := findClass_of_methodNamed Bd.named
  have hnm := (name_of_methodNamed Bd.named Bd.method).1
  have X0 : Stand p l e ({ frames := 1, cells := 1, slots := 1, locals := 15 } : Room) s m #[(.ref pt), (.ref a)] below meth c s₁ [] 0 0 := Stand.of_body Bd
  have e0 : s₁.heap = h0 := by rw [← hh, Bd.state]; rfl
  have N0 := Fr.nil n0
  show own_Gl p e below (own_Post s (own_Q_wei1 Z pt a one h0 n0) ({ frames := 1, cells := 1, slots := 1, locals := 15 } : Room).cells ({ frames := 1, cells := 1, slots := 1, locals := 15 } : Room).slots) _
  refine own_st (fun tg_ kg_ => castTop (own_ef_wei1 m pt a) kg_) ?_
  show own_Gl p e below _ (s₁.setTop (mkF m 0 #[.val (.ref pt), .val (.ref a), .unset] []))
  refine own_st (fun tg_ kg_ => XS.aloadN X0.here hx rfl (hb hby own_d_prog_13_method_3_code_0) rfl rfl kg_) ?_
  show own_Gl p e below _ (s₁.setTop (mkF m 1 #[.val (.ref pt), .val (.ref a), .unset] [(.ref a)]))
  obtain ⟨cq1, kq1, q1a, q1b, q1c⟩ := isOf hZ e0 E_a
  obtain ⟨_, _, ⟨T1, L1, k1, n1⟩, -, X1, ⟨Lc1, hQ1, l1, y1, z1⟩, st1⟩ := X0.interfaceBack hx (xi := (⟨"java/util/List", "size", "()I"⟩ : MethodName)) (y := (⟨"java/util/ArrayList", "size", "()I"⟩ : MethodName)) hown (mvT hZ (hw _ (List.mem_of_getElem? (i := 49) rfl))) (mvT hZ (hw _ (List.mem_of_getElem? (i := 50) rfl))) (mvT hZ (hw _ (List.mem_of_getElem? (i := 51) rfl))) (mvT hZ (hw _ (List.mem_of_getElem? (i := 52) rfl))) (mvT hZ (hw _ (List.mem_of_getElem? (i := 53) rfl))) (mvT hZ (hw _ (List.mem_of_getElem? (i := 54) rfl))) (mvT hZ (hw _ (List.mem_of_getElem? (i := 55) rfl))) (mvT hZ (hw _ (List.mem_of_getElem? (i := 56) rfl))) (by decide) (backOf (W := 0) (own_rm_siz l Z a0 hw [] a (1 : Int32) h0 n0 Z0 F_s) hZ (hw _ (List.mem_of_getElem? (i := 57) rfl)) (hw _ (List.mem_of_getElem? (i := 15) rfl)) (by decide) (by decide)) q1a q1b q1c (g := (mkF m 1 #[.val (.ref pt), .val (.ref a), .unset] [(.ref a)])) rfl (by rw [hml]; rfl) (Steps.refl _) (argsL := []) (rest := []) (lenOf own_pd5 rfl) rfl (by show 2 * 0 + _ ≤ _; exact Nat.le_of_eq rfl) (hb hby own_d_prog_13_method_3_code_1) (fun _ _ => ⟨rfl, e0, (by decide : 0 + 0 ≤ _), (by decide : 0 + 0 ≤ _)⟩)
  dsimp only [Pt.U, Pt.locs, Pt.cells, Pt.slots] at X1 l1 y1 z1 st1 hQ1
  subst l1 y1 z1
  obtain ⟨rfl, N1q, e1⟩ := hQ1
  have N1 := Fr.app N0 N1q
  refine own_tr st1 ?_
  show own_Gl p e below _ (T1.setTop (mkF m 6 #[.val (.ref pt), .val (.ref a), .unset] [(.int (1 : Int32))]))
  try clear st1
  try clear N1q
  obtain ⟨T2, h2, k2, X2, e2, E2, A2, O2, st2⟩ := newR X1 hx hZ hown (hw _ (List.mem_of_getElem? (i := 60) rfl)) (hw _ (List.mem_of_getElem? (i := 61) rfl)) e1 (g := (mkF m 6 #[.val (.ref pt), .val (.ref a), .unset] [(.int (1 : Int32))])) rfl (hb hby own_d_prog_13_method_3_code_6) rfl (by decide) (cap := 1) (by decide) (by decide) (by decide) (by decide)
  obtain ⟨b2, g2⟩ : ∃ z, z = h0.size := ⟨_, rfl⟩
  have ne_a_b2 : a ≠ b2 := Nat.ne_of_lt (Nat.lt_of_lt_of_le E_a.lt (Nat.le_of_eq g2.symm))
  have ne_one_b2 : one ≠ b2 := Nat.ne_of_lt (Nat.lt_of_lt_of_le E_1.lt (Nat.le_of_eq g2.symm))
  have sz_b2 : h0.size ≤ b2 := Nat.le_of_eq g2.symm
  have g_b2 : n0 ≤ b2 := Nat.le_trans Z0 sz_b2
  rw [← g2] at A2 st2
  have V_b2 : Arv Z h2 b2 k2 (.object "java/math/BigDecimal") (1 : Int32) [.null] .null := (Arv.new A2 (by decide)).pad (pad_rep [] .null 1)
  refine own_st st2 ?_
  try clear st2
  try clear e1
  try clear X1
  try clear T1
  show own_Gl p e below _ (T2.setTop (mkF m 9 #[.val (.ref pt), .val (.ref a), .unset] [(.ref b2)]))
  refine own_st (fun tg_ kg_ => XS.astoreN X2.here hx rfl (hb hby own_d_prog_13_method_3_code_9) rfl rfl (l' := #[.val (.ref pt), .val (.ref a), .val (.ref b2)]) rfl kg_) ?_
  show own_Gl p e below _ (T2.setTop (mkF m 10 #[.val (.ref pt), .val (.ref a), .val (.ref b2)] []))
  refine own_st (fun tg_ kg_ => XS.aloadN X2.here hx rfl (hb hby own_d_prog_13_method_3_code_10) rfl rfl kg_) ?_
  show own_Gl p e below _ (T2.setTop (mkF m 11 #[.val (.ref pt), .val (.ref a), .val (.ref b2)] [(.ref b2)]))
  obtain ⟨T4, X4, e4, st4⟩ := getS2 X2 hx hZ hown (host := "") (Or.inl (hw _ (List.mem_of_getElem? (i := 62) rfl))) Via.refl e2 (S_1.ext E2) (g := (mkF m 11 #[.val (.ref pt), .val (.ref a), .val (.ref b2)] [(.ref b2)])) rfl (hb hby own_d_prog_13_method_3_code_11)
  refine own_st st4 ?_
  try clear st4
  try clear e2
  try clear X2
  try clear T2
  show own_Gl p e below _ (T4.setTop (mkF m 14 #[.val (.ref pt), .val (.ref a), .val (.ref b2)] [(.ref one), (.ref b2)]))
  obtain ⟨_, _, ⟨T5, L5, k5, n5⟩, -, X5, ⟨Lc5, hQ5, l5, y5, z5⟩, st5⟩ := Jvm.LawKit.callS X4 hx (y := (⟨"java/util/Arrays", "fill", "([Ljava/lang/Object;Ljava/lang/Object;)V"⟩ : MethodName)) hown (mvT hZ (hw _ (List.mem_of_getElem? (i := 64) rfl))) (mvT hZ (hw _ (List.mem_of_getElem? (i := 65) rfl))) (mvT hZ (hw _ (List.mem_of_getElem? (i := 66) rfl))) (mvT hZ (hw _ (List.mem_of_getElem? (i := 67) rfl))) (by decide) (backOf (W := 0) (own_rm_fil1 l Z a0 hw [] b2 one k2 h2 n0 (Nat.le_trans Z0 E2.1) V_b2 O2 (E_1.ext E2) g_b2) hZ (hw _ (List.mem_of_getElem? (i := 67) rfl)) (hw _ (List.mem_of_getElem? (i := 66) rfl)) (by decide) (by decide)) (g := (mkF m 14 #[.val (.ref pt), .val (.ref a), .val (.ref b2)] [(.ref one), (.ref b2)])) rfl (by rw [hml]; rfl) (argsL := [(.ref b2), (.ref one)]) (rest := []) (lenOf own_pd6 rfl) rfl (by show 2 * 0 + _ ≤ _; exact Nat.le_of_eq rfl) (hb hby own_d_prog_13_method_3_code_14) (fun _ _ => ⟨rfl, e4, (by decide : 1 + 0 ≤ _), (by decide : 1 + 0 ≤ _)⟩)
  dsimp only [Pt.U, Pt.locs, Pt.cells, Pt.slots] at X5 l5 y5 z5 st5 hQ5
  subst l5 y5 z5
  obtain ⟨rfl, V_b2, N5q, Kc5⟩ := hQ5
  have N5 := Fr.app N1 N5q
  refine own_st st5 ?_
  have K6 := own_ext_keep E2 Kc5 (allS sz_b2 all0)
  try clear Kc5
  try clear E2
  show own_Gl p e below _ (T5.setTop (mkF m 17 #[.val (.ref pt), .val (.ref a), .val (.ref b2)] []))
  try clear st5
  try clear N5q
  try clear N1
  try clear e4
  try clear X4
  try clear T4
  refine own_st (fun tg_ kg_ => XS.aloadN X5.here hx rfl (hb hby own_d_prog_13_method_3_code_17) rfl rfl kg_) ?_
  show own_Gl p e below _ (T5.setTop (mkF m 18 #[.val (.ref pt), .val (.ref a), .val (.ref b2)] [(.ref b2)]))
  exact own_retA X5 hx Bd.notSynchronized Bd.returns rfl rfl (hb hby own_d_prog_13_method_3_code_18) (by decide) (by decide) rfl (⟨⟨_, _, rfl, sz_b2, V_b2⟩, N5, K6⟩)
theorem own_ef_fil2 (m : MethodId) (x0 : Addr) (x1 : Addr) : entryFrame m #[(.ref x0), (.ref x1)] 4 = mkF m 0 #[.val (.ref x0), .val (.ref x1), .unset, .unset] [] := by first | (simp [entryFrame, mkF, argsToLocals, Value.category]; done) | rfl
def own_Q_fil2 (Z : State) (w one : Addr) (kw : ClassId) (h0 : Heap) (n0 : Nat) (v : Option Value) (h : Heap) (L : List Loc) : Prop := v = none ∧ Arv Z h w kw (.object "java/math/BigDecimal") (2 : Int32) [(.ref one), (.ref one)] .null ∧ Fr n0 L ∧ Keep h0 h [w]
set_option maxRecDepth 65536 in
set_option maxHeartbeats 40000000 in
theorem own_rm_fil2 (l : Launch) (Z : State) (a0 : Array Value) (hw : ∀ d ∈ tables_1, d.before a0 Z = true) (ws : List Jvm.Cond) (w one : Addr) (kw : ClassId) (h0 : Heap) (n0 : Nat) (Z0 : n0 ≤ h0.size) (V_w : Arv Z h0 w kw (.object "java/math/BigDecimal") (2 : Int32) [.null, .null] .null) (O_w : Ovr Z kw "java/math/BigDecimal") (E_1 : Exa Z h0 one "java/math/BigDecimal") (g_w : n0 ≤ w) :
    MetFree l (⟨"java/util/Arrays", "fill", "([Ljava/lang/Object;Ljava/lang/Object;)V"⟩ : MethodName) (head1 (Jvm.Cond.code (⟨"java/util/Arrays", "fill", "([Ljava/lang/Object;Ljava/lang/Object;)V"⟩ : MethodName) jdk_65_method_117_code 4 none :: ws) ({ frames := 0, cells := 0, slots := 0, locals := 0 } : Room)) (fun aa UU => aa = #[(.ref w), (.ref one)] ∧ Z.Warmed39 UU.vm ∧ UU.heap = h0) (fun _ _ _ _ _ => True) (fun _ UU oo UU' => ∃ vv LL, oo = .returned vv ∧ own_Q_fil2 Z w one kw h0 n0 vv UU'.heap LL ∧ FrameEnd UU oo UU' LL ({ frames := 0, cells := 0, slots := 0, locals := 0 } : Room).cells ({ frames := 0, cells := 0, slots := 0, locals := 0 } : Room).slots) := by
  refine MetFree.of_bodySF (plainFor_of_name own_pn5) hisR ?_
  intro p e s m args below meth c s₁ Bd hml0 hP hK
  obtain ⟨rfl, hZ, hh⟩ := hP
  have hx := Bd.exec
  have hby := Bd.bytes
  have hml : c.maxLocals = 4 := hml0
  have hown : s.vm.findClass "java/util/Arrays" = some m.cls := findClass_of_methodNamed Bd.named
  have hnm := (name_of_methodNamed Bd.named Bd.method).1
  have X0 : Stand p l e ({ frames := 0, cells := 0, slots := 0, locals := 0 } : Room) s m #[(.ref w), (.ref one)] below meth c s₁ [] 0 0 := Stand.of_body Bd
  have e0 : s₁.heap = h0 := by rw [← hh, Bd.state]; rfl
  have N0 := Fr.nil n0
  have K0 : Keep h0 h0 [w] := Keep.refl h0 _
  show own_Gl p e below (own_Post s (own_Q_fil2 Z w one kw h0 n0) ({ frames := 0, cells := 0, slots := 0, locals := 0 } : Room).cells ({ frames := 0, cells := 0, slots := 0, locals := 0 } : Room).slots) _
  refine own_st (fun tg_ kg_ => castTop (own_ef_fil2 m w one) kg_) ?_
  show own_Gl p e below _ (s₁.setTop (mkF m 0 #[.val (.ref w), .val (.ref one), .unset, .unset] []))
  refine own_st (fun tg_ kg_ => XS.iconst X0.here hx rfl (hb hby own_d_jdk_65_method_117_code_0) kg_) ?_
  show own_Gl p e below _ (s₁.setTop (mkF m 1 #[.val (.ref w), .val (.ref one), .unset, .unset] [(.int (0 : Int32))]))
  refine own_st (fun tg_ kg_ => XS.istoreN X0.here hx rfl (hb hby own_d_jdk_65_method_117_code_1) rfl (l' := #[.val (.ref w), .val (.ref one), .val (.int (0 : Int32)), .unset]) rfl kg_) ?_
  show own_Gl p e below _ (s₁.setTop (mkF m 2 #[.val (.ref w), .val (.ref one), .val (.int (0 : Int32)), .unset] []))
  refine own_st (fun tg_ kg_ => XS.aloadN X0.here hx rfl (hb hby own_d_jdk_65_method_117_code_2) rfl rfl kg_) ?_
  show own_Gl p e below _ (s₁.setTop (mkF m 3 #[.val (.ref w), .val (.ref one), .val (.int (0 : Int32)), .unset] [(.ref w)]))
  obtain ⟨cl1, Ar1, qa1, Sa1, Na1, Ha1, Ga1⟩ := id V_w
  refine own_st (fun tg_ kg_ => X0.arraylength hx (by rw [e0]; exact Ar1.1) (State.isArrayOf_alike hZ.alike Ar1.2.1) (g := (mkF m 3 #[.val (.ref w), .val (.ref one), .val (.int (0 : Int32)), .unset] [(.ref w)])) rfl rfl (hb hby own_d_jdk_65_method_117_code_3) _ kg_) ?_
  rw [len_of Sa1 Na1]
  show own_Gl p e below _ (s₁.setTop (mkF m 4 #[.val (.ref w), .val (.ref one), .val (.int (0 : Int32)), .unset] [(.int (2 : Int32))]))
  refine own_st (fun tg_ kg_ => XS.istoreN X0.here hx rfl (hb hby own_d_jdk_65_method_117_code_4) rfl (l' := #[.val (.ref w), .val (.ref one), .val (.int (0 : Int32)), .val (.int (2 : Int32))]) rfl kg_) ?_
  show own_Gl p e below _ (s₁.setTop (mkF m 5 #[.val (.ref w), .val (.ref one), .val (.int (0 : Int32)), .val (.int (2 : Int32))] []))
  refine own_st (fun tg_ kg_ => XS.iloadN X0.here hx rfl (hb hby own_d_jdk_65_method_117_code_5) rfl kg_) ?_
  show own_Gl p e below _ (s₁.setTop (mkF m 6 #[.val (.ref w), .val (.ref one), .val (.int (0 : Int32)), .val (.int (2 : Int32))] [(.int (0 : Int32))]))
  refine own_st (fun tg_ kg_ => XS.iloadN X0.here hx rfl (hb hby own_d_jdk_65_method_117_code_6) rfl kg_) ?_
  show own_Gl p e below _ (s₁.setTop (mkF m 7 #[.val (.ref w), .val (.ref one), .val (.int (0 : Int32)), .val (.int (2 : Int32))] [(.int (2 : Int32)), (.int (0 : Int32))]))
  refine own_st (fun tg_ kg_ => XS.icmpNo X0.here hx rfl (hb hby own_d_jdk_65_method_117_code_7) rfl (tlt ((by decide : (0 : Int32) < (2 : Int32)))).2.1 kg_) ?_
  show own_Gl p e below _ (s₁.setTop (mkF m 10 #[.val (.ref w), .val (.ref one), .val (.int (0 : Int32)), .val (.int (2 : Int32))] []))
  refine own_st (fun tg_ kg_ => XS.aloadN X0.here hx rfl (hb hby own_d_jdk_65_method_117_code_10) rfl rfl kg_) ?_
  show own_Gl p e below _ (s₁.setTop (mkF m 11 #[.val (.ref w), .val (.ref one), .val (.int (0 : Int32)), .val (.int (2 : Int32))] [(.ref w)]))
  refine own_st (fun tg_ kg_ => XS.iloadN X0.here hx rfl (hb hby own_d_jdk_65_method_117_code_11) rfl kg_) ?_
  show own_Gl p e below _ (s₁.setTop (mkF m 12 #[.val (.ref w), .val (.ref one), .val (.int (0 : Int32)), .val (.int (2 : Int32))] [(.int (0 : Int32)), (.ref w)]))
  refine own_st (fun tg_ kg_ => XS.aloadN X0.here hx rfl (hb hby own_d_jdk_65_method_117_code_12) rfl rfl kg_) ?_
  show own_Gl p e below _ (s₁.setTop (mkF m 13 #[.val (.ref w), .val (.ref one), .val (.int (0 : Int32)), .val (.int (2 : Int32))] [(.ref one), (.int (0 : Int32)), (.ref w)]))
  obtain ⟨cl2, Ar2, qa2, Sa2, Na2, Ha2, Ga2⟩ := id V_w
  have hin3 : ¬ ((0 : Int32) < 0 ∨ cl2.slots.size ≤ ((0 : Int32)).toNatClampNeg) := inb_of Sa2 ⟨by decide, by decide⟩
  obtain ⟨T3, h3, X3, e3, W3, st3⟩ := stR X0 hx hZ e0 Ar2 (j := (0 : Int32)) hin3 rfl (Sto.ofV Ar2 qa2 O_w (Ins.self E_1)) (g := (mkF m 13 #[.val (.ref w), .val (.ref one), .val (.int (0 : Int32)), .val (.int (2 : Int32))] [(.ref one), (.int (0 : Int32)), (.ref w)])) rfl rfl (hb hby own_d_jdk_65_method_117_code_13)
  have N3 := Fr.snoc X3 N0 g_w
  replace E_1 := E_1.wr W3
  have K4 : Keep h0 h3 [w] := K0.wr W3 (Or.inl (List.mem_of_getElem? (i := 0) rfl))
  replace V_w : Arv Z h3 w kw (.object "java/math/BigDecimal") (2 : Int32) [(.ref one), .null] .null := Arv.set Ar2 qa2 Sa2 Na2 Ha2 Ga2 rfl W3 0 rfl (Nat.le_of_ble_eq_true rfl)
  try clear Ga2
  try clear Ha2
  try clear Na2
  try clear Sa2
  try clear qa2
  try clear W3
  try clear hin3
  try clear Ar2
  try clear cl2
  refine own_st st3 ?_
  try clear st3
  show own_Gl p e below _ (T3.setTop (mkF m 14 #[.val (.ref w), .val (.ref one), .val (.int (0 : Int32)), .val (.int (2 : Int32))] []))
  refine own_st (fun tg_ kg_ => XS.iinc X3.here hx rfl (hb hby own_d_jdk_65_method_117_code_14) rfl (l' := #[.val (.ref w), .val (.ref one), .val (.int (1 : Int32)), .val (.int (2 : Int32))]) rfl kg_) ?_
  show own_Gl p e below _ (T3.setTop (mkF m 17 #[.val (.ref w), .val (.ref one), .val (.int (1 : Int32)), .val (.int (2 : Int32))] []))
  refine own_st (fun tg_ kg_ => XS.goto X3.here hx rfl (pc0 := 17) (pc' := 5) rfl (hb hby own_d_jdk_65_method_117_code_17) (by decide) (by decide) kg_) ?_
  show own_Gl p e below _ (T3.setTop (mkF m 5 #[.val (.ref w), .val (.ref one), .val (.int (1 : Int32)), .val (.int (2 : Int32))] []))
  refine own_st (fun tg_ kg_ => XS.iloadN X3.here hx rfl (hb hby own_d_jdk_65_method_117_code_5) rfl kg_) ?_
  show own_Gl p e below _ (T3.setTop (mkF m 6 #[.val (.ref w), .val (.ref one), .val (.int (1 : Int32)), .val (.int (2 : Int32))] [(.int (1 : Int32))]))
  refine own_st (fun tg_ kg_ => XS.iloadN X3.here hx rfl (hb hby own_d_jdk_65_method_117_code_6) rfl kg_) ?_
  show own_Gl p e below _ (T3.setTop (mkF m 7 #[.val (.ref w), .val (.ref one), .val (.int (1 : Int32)), .val (.int (2 : Int32))] [(.int (2 : Int32)), (.int (1 : Int32))]))
  refine own_st (fun tg_ kg_ => XS.icmpNo X3.here hx rfl (hb hby own_d_jdk_65_method_117_code_7) rfl (tlt ((by decide : (1 : Int32) < (2 : Int32)))).2.1 kg_) ?_
  show own_Gl p e below _ (T3.setTop (mkF m 10 #[.val (.ref w), .val (.ref one), .val (.int (1 : Int32)), .val (.int (2 : Int32))] []))
  refine own_st (fun tg_ kg_ => XS.aloadN X3.here hx rfl (hb hby own_d_jdk_65_method_117_code_10) rfl rfl kg_) ?_
  show own_Gl p e below _ (T3.setTop (mkF m 11 #[.val (.ref w), .val (.ref one), .val (.int (1 : Int32)), .val (.int (2 : Int32))] [(.ref w)]))
  refine own_st (fun tg_ kg_ => XS.iloadN X3.here hx rfl (hb hby own_d_jdk_65_method_117_code_11) rfl kg_) ?_
  show own_Gl p e below _ (T3.setTop (mkF m 12 #[.val (.ref w), .val (.ref one), .val (.int (1 : Int32)), .val (.int (2 : Int32))] [(.int (1 : Int32)), (.ref w)]))
  refine own_st (fun tg_ kg_ => XS.aloadN X3.here hx rfl (hb hby own_d_jdk_65_method_117_code_12) rfl rfl kg_) ?_
  show own_Gl p e below _ (T3.setTop (mkF m 13 #[.val (.ref w), .val (.ref one), .val (.int (1 : Int32)), .val (.int (2 : Int32))] [(.ref one), (.int (1 : Int32)), (.ref w)]))
  obtain ⟨cl5, Ar5, qa5, Sa5, Na5, Ha5, Ga5⟩ := id V_w
  have hin6 : ¬ ((1 : Int32) < 0 ∨ cl5.slots.size ≤ ((1 : Int32)).toNatClampNeg) := inb_of Sa5 ⟨by decide, by decide⟩
  obtain ⟨T6, h6, X6, e6, W6, st6⟩ := stR X3 hx hZ e3 Ar5 (j := (1 : Int32)) hin6 rfl (Sto.ofV Ar5 qa5 O_w (Ins.self E_1)) (g := (mkF m 13 #[.val (.ref w), .val (.ref one), .val (.int (1 : Int32)), .val (.int (2 : Int32))] [(.ref one), (.int (1 : Int32)), (.ref w)])) rfl rfl (hb hby own_d_jdk_65_method_117_code_13)
  have N6 := Fr.snoc X6 N3 g_w
  try clear N3
  replace E_1 := E_1.wr W6
  have K7 : Keep h0 h6 [w] := K4.wr W6 (Or.inl (List.mem_of_getElem? (i := 0) rfl))
  try clear K4
  replace V_w : Arv Z h6 w kw (.object "java/math/BigDecimal") (2 : Int32) [(.ref one), (.ref one)] .null := Arv.set Ar5 qa5 Sa5 Na5 Ha5 Ga5 rfl W6 1 rfl (Nat.le_of_ble_eq_true rfl)
  try clear Ga5
  try clear Ha5
  try clear Na5
  try clear Sa5
  try clear qa5
  try clear W6
  try clear hin6
  try clear Ar5
  try clear cl5
  refine own_st st6 ?_
  try clear st6
  try clear e3
  try clear X3
  try clear T3
  show own_Gl p e below _ (T6.setTop (mkF m 14 #[.val (.ref w), .val (.ref one), .val (.int (1 : Int32)), .val (.int (2 : Int32))] []))
  refine own_st (fun tg_ kg_ => XS.iinc X6.here hx rfl (hb hby own_d_jdk_65_method_117_code_14) rfl (l' := #[.val (.ref w), .val (.ref one), .val (.int (2 : Int32)), .val (.int (2 : Int32))]) rfl kg_) ?_
  show own_Gl p e below _ (T6.setTop (mkF m 17 #[.val (.ref w), .val (.ref one), .val (.int (2 : Int32)), .val (.int (2 : Int32))] []))
  refine own_st (fun tg_ kg_ => XS.goto X6.here hx rfl (pc0 := 17) (pc' := 5) rfl (hb hby own_d_jdk_65_method_117_code_17) (by decide) (by decide) kg_) ?_
  show own_Gl p e below _ (T6.setTop (mkF m 5 #[.val (.ref w), .val (.ref one), .val (.int (2 : Int32)), .val (.int (2 : Int32))] []))
  refine own_st (fun tg_ kg_ => XS.iloadN X6.here hx rfl (hb hby own_d_jdk_65_method_117_code_5) rfl kg_) ?_
  show own_Gl p e below _ (T6.setTop (mkF m 6 #[.val (.ref w), .val (.ref one), .val (.int (2 : Int32)), .val (.int (2 : Int32))] [(.int (2 : Int32))]))
  refine own_st (fun tg_ kg_ => XS.iloadN X6.here hx rfl (hb hby own_d_jdk_65_method_117_code_6) rfl kg_) ?_
  show own_Gl p e below _ (T6.setTop (mkF m 7 #[.val (.ref w), .val (.ref one), .val (.int (2 : Int32)), .val (.int (2 : Int32))] [(.int (2 : Int32)), (.int (2 : Int32))]))
  refine own_st (fun tg_ kg_ => XS.icmpYes X6.here hx rfl (pc0 := 7) (pc' := 20) rfl (hb hby own_d_jdk_65_method_117_code_7) rfl (flt ((by decide : ¬ ((2 : Int32) < (2 : Int32))))).2.1 (by decide) (by decide) kg_) ?_
  show own_Gl p e below _ (T6.setTop (mkF m 20 #[.val (.ref w), .val (.ref one), .val (.int (2 : Int32)), .val (.int (2 : Int32))] []))
  exact own_retV X6 hx Bd.notSynchronized Bd.returns (hb hby own_d_jdk_65_method_117_code_20) (by decide) (by decide) e6 (⟨rfl, V_w, N6, K7⟩)
theorem own_ef_wei2 (m : MethodId) (x0 : Addr) (x1 : Addr) : entryFrame m #[(.ref x0), (.ref x1)] 3 = mkF m 0 #[.val (.ref x0), .val (.ref x1), .unset] [] := by first | (simp [entryFrame, mkF, argsToLocals, Value.category]; done) | rfl
def own_Q_wei2 (Z : State) (pt a one : Addr) (h0 : Heap) (n0 : Nat) (v : Option Value) (h : Heap) (L : List Loc) : Prop := (∃ w kw, v = some (.ref w) ∧ h0.size ≤ w ∧ Arv Z h w kw (.object "java/math/BigDecimal") (2 : Int32) [(.ref one), (.ref one)] .null) ∧ Fr n0 L ∧ Ext h0 h
set_option maxRecDepth 65536 in
set_option maxHeartbeats 40000000 in
theorem own_rm_wei2 (l : Launch) (Z : State) (a0 : Array Value) (hw : ∀ d ∈ tables_1, d.before a0 Z = true) (ws : List Jvm.Cond) (pt a one : Addr) (h0 : Heap) (n0 : Nat) (Z0 : n0 ≤ h0.size) (E_a : Exa Z h0 a "java/util/ArrayList") (F_s : Fld Z h0 a "java/util/ArrayList" "size" "I" (.int (2 : Int32)))(S_1 : Sta Z h0 "java/math/BigDecimal" "ONE" "Ljava/math/BigDecimal;" (.ref one)) (E_1 : Exa Z h0 one "java/math/BigDecimal") :
    MetFree l (⟨"com/example/ratably/ratably/method/EvenPeriods", "weights", "(Ljava/util/List;)[Ljava/math/BigDecimal;"⟩ : MethodName) (head1 (Jvm.Cond.code (⟨"com/example/ratably/ratably/method/EvenPeriods", "weights", "(Ljava/util/List;)[Ljava/math/BigDecimal;"⟩ : MethodName) prog_13_method_3_code 3 (some (.array (.object "java/math/BigDecimal"))) :: ws) ({ frames := 1, cells := 1, slots := 2, locals := 15 } : Room)) (fun aa UU => aa = #[(.ref pt), (.ref a)] ∧ Z.Warmed39 UU.vm ∧ UU.heap = h0) (fun _ _ _ _ _ => True) (fun _ UU oo UU' => ∃ vv LL, oo = .returned vv ∧ own_Q_wei2 Z pt a one h0 n0 vv UU'.heap LL ∧ FrameEnd UU oo UU' LL ({ frames := 1, cells := 1, slots := 2, locals := 15 } : Room).cells ({ frames := 1, cells := 1, slots := 2, locals := 15 } : Room).slots) := by
  refine MetFree.of_bodySF (plainFor_of_name own_pn4) hisR ?_
  intro p e s m args below meth c s₁ Bd hml0 hP hK
  obtain ⟨rfl, hZ, hh⟩ := hP
  have hx := Bd.exec
  have hby := Bd.bytes
  have hml : c.maxLocals = 3 := hml0
  have hown : s.vm.findClass "com/example/ratably/ratably/method/EvenPeriods" = some m.cls := findClass_of_methodNamed Bd.named
  have hnm := (name_of_methodNamed Bd.named Bd.method).1
  have X0 : Stand p l e ({ frames := 1, cells := 1, slots := 2, locals := 15 } : Room) s m #[(.ref pt), (.ref a)] below meth c s₁ [] 0 0 := Stand.of_body Bd
  have e0 : s₁.heap = h0 := by rw [← hh, Bd.state]; rfl
  have N0 := Fr.nil n0
  show own_Gl p e below (own_Post s (own_Q_wei2 Z pt a one h0 n0) ({ frames := 1, cells := 1, slots := 2, locals := 15 } : Room).cells ({ frames := 1, cells := 1, slots := 2, locals := 15 } : Room).slots) _
  refine own_st (fun tg_ kg_ => castTop (own_ef_wei2 m pt a) kg_) ?_
  show own_Gl p e below _ (s₁.setTop (mkF m 0 #[.val (.ref pt), .val (.ref a), .unset] []))
  refine own_st (fun tg_ kg_ => XS.aloadN X0.here hx rfl (hb hby own_d_prog_13_method_3_code_0) rfl rfl kg_) ?_
  show own_Gl p e below _ (s₁.setTop (mkF m 1 #[.val (.ref pt), .val (.ref a), .unset] [(.ref a)]))
  obtain ⟨cq1, kq1, q1a, q1b, q1c⟩ := isOf hZ e0 E_a
  obtain ⟨_, _, ⟨T1, L1, k1, n1⟩, -, X1, ⟨Lc1, hQ1, l1, y1, z1⟩, st1⟩ := X0.interfaceBack hx (xi := (⟨"java/util/List", "size", "()I"⟩ : MethodName)) (y := (⟨"java/util/ArrayList", "size", "()I"⟩ : MethodName)) hown (mvT hZ (hw _ (List.mem_of_getElem? (i := 49) rfl))) (mvT hZ (hw _ (List.mem_of_getElem? (i := 50) rfl))) (mvT hZ (hw _ (List.mem_of_getElem? (i := 51) rfl))) (mvT hZ (hw _ (List.mem_of_getElem? (i := 52) rfl))) (mvT hZ (hw _ (List.mem_of_getElem? (i := 53) rfl))) (mvT hZ (hw _ (List.mem_of_getElem? (i := 54) rfl))) (mvT hZ (hw _ (List.mem_of_getElem? (i := 55) rfl))) (mvT hZ (hw _ (List.mem_of_getElem? (i := 56) rfl))) (by decide) (backOf (W := 0) (own_rm_siz l Z a0 hw [] a (2 : Int32) h0 n0 Z0 F_s) hZ (hw _ (List.mem_of_getElem? (i := 57) rfl)) (hw _ (List.mem_of_getElem? (i := 15) rfl)) (by decide) (by decide)) q1a q1b q1c (g := (mkF m 1 #[.val (.ref pt), .val (.ref a), .unset] [(.ref a)])) rfl (by rw [hml]; rfl) (Steps.refl _) (argsL := []) (rest := []) (lenOf own_pd5 rfl) rfl (by show 2 * 0 + _ ≤ _; exact Nat.le_of_eq rfl) (hb hby own_d_prog_13_method_3_code_1) (fun _ _ => ⟨rfl, e0, (by decide : 0 + 0 ≤ _), (by decide : 0 + 0 ≤ _)⟩)
  dsimp only [Pt.U, Pt.locs, Pt.cells, Pt.slots] at X1 l1 y1 z1 st1 hQ1
  subst l1 y1 z1
  obtain ⟨rfl, N1q, e1⟩ := hQ1
  have N1 := Fr.app N0 N1q
  refine own_tr st1 ?_
  show own_Gl p e below _ (T1.setTop (mkF m 6 #[.val (.ref pt), .val (.ref a), .unset] [(.int (2 : Int32))]))
  try clear st1
  try clear N1q
  obtain ⟨T2, h2, k2, X2, e2, E2, A2, O2, st2⟩ := newR X1 hx hZ hown (hw _ (List.mem_of_getElem? (i := 60) rfl)) (hw _ (List.mem_of_getElem? (i := 61) rfl)) e1 (g := (mkF m 6 #[.val (.ref pt), .val (.ref a), .unset] [(.int (2 : Int32))])) rfl (hb hby own_d_prog_13_method_3_code_6) rfl (by decide) (cap := 2) (by decide) (by decide) (by decide) (by decide)
  obtain ⟨b2, g2⟩ : ∃ z, z = h0.size := ⟨_, rfl⟩
  have ne_a_b2 : a ≠ b2 := Nat.ne_of_lt (Nat.lt_of_lt_of_le E_a.lt (Nat.le_of_eq g2.symm))
  have ne_one_b2 : one ≠ b2 := Nat.ne_of_lt (Nat.lt_of_lt_of_le E_1.lt (Nat.le_of_eq g2.symm))
  have sz_b2 : h0.size ≤ b2 := Nat.le_of_eq g2.symm
  have g_b2 : n0 ≤ b2 := Nat.le_trans Z0 sz_b2
  rw [← g2] at A2 st2
  have V_b2 : Arv Z h2 b2 k2 (.object "java/math/BigDecimal") (2 : Int32) [.null, .null] .null := (Arv.new A2 (by decide)).pad (pad_rep [] .null 2)
  refine own_st st2 ?_
  try clear st2
  try clear e1
  try clear X1
  try clear T1
  show own_Gl p e below _ (T2.setTop (mkF m 9 #[.val (.ref pt), .val (.ref a), .unset] [(.ref b2)]))
  refine own_st (fun tg_ kg_ => XS.astoreN X2.here hx rfl (hb hby own_d_prog_13_method_3_code_9) rfl rfl (l' := #[.val (.ref pt), .val (.ref a), .val (.ref b2)]) rfl kg_) ?_
  show own_Gl p e below _ (T2.setTop (mkF m 10 #[.val (.ref pt), .val (.ref a), .val (.ref b2)] []))
  refine own_st (fun tg_ kg_ => XS.aloadN X2.here hx rfl (hb hby own_d_prog_13_method_3_code_10) rfl rfl kg_) ?_
  show own_Gl p e below _ (T2.setTop (mkF m 11 #[.val (.ref pt), .val (.ref a), .val (.ref b2)] [(.ref b2)]))
  obtain ⟨T4, X4, e4, st4⟩ := getS2 X2 hx hZ hown (host := "") (Or.inl (hw _ (List.mem_of_getElem? (i := 62) rfl))) Via.refl e2 (S_1.ext E2) (g := (mkF m 11 #[.val (.ref pt), .val (.ref a), .val (.ref b2)] [(.ref b2)])) rfl (hb hby own_d_prog_13_method_3_code_11)
  refine own_st st4 ?_
  try clear st4
  try clear e2
  try clear X2
  try clear T2
  show own_Gl p e below _ (T4.setTop (mkF m 14 #[.val (.ref pt), .val (.ref a), .val (.ref b2)] [(.ref one), (.ref b2)]))
  obtain ⟨_, _, ⟨T5, L5, k5, n5⟩, -, X5, ⟨Lc5, hQ5, l5, y5, z5⟩, st5⟩ := Jvm.LawKit.callS X4 hx (y := (⟨"java/util/Arrays", "fill", "([Ljava/lang/Object;Ljava/lang/Object;)V"⟩ : MethodName)) hown (mvT hZ (hw _ (List.mem_of_getElem? (i := 64) rfl))) (mvT hZ (hw _ (List.mem_of_getElem? (i := 65) rfl))) (mvT hZ (hw _ (List.mem_of_getElem? (i := 66) rfl))) (mvT hZ (hw _ (List.mem_of_getElem? (i := 67) rfl))) (by decide) (backOf (W := 0) (own_rm_fil2 l Z a0 hw [] b2 one k2 h2 n0 (Nat.le_trans Z0 E2.1) V_b2 O2 (E_1.ext E2) g_b2) hZ (hw _ (List.mem_of_getElem? (i := 67) rfl)) (hw _ (List.mem_of_getElem? (i := 66) rfl)) (by decide) (by decide)) (g := (mkF m 14 #[.val (.ref pt), .val (.ref a), .val (.ref b2)] [(.ref one), (.ref b2)])) rfl (by rw [hml]; rfl) (argsL := [(.ref b2), (.ref one)]) (rest := []) (lenOf own_pd6 rfl) rfl (by show 2 * 0 + _ ≤ _; exact Nat.le_of_eq rfl) (hb hby own_d_prog_13_method_3_code_14) (fun _ _ => ⟨rfl, e4, (by decide : 1 + 0 ≤ _), (by decide : 2 + 0 ≤ _)⟩)
  dsimp only [Pt.U, Pt.locs, Pt.cells, Pt.slots] at X5 l5 y5 z5 st5 hQ5
  subst l5 y5 z5
  obtain ⟨rfl, V_b2, N5q, Kc5⟩ := hQ5
  have N5 := Fr.app N1 N5q
  refine own_st st5 ?_
  have K6 := own_ext_keep E2 Kc5 (allS sz_b2 all0)
  try clear Kc5
  try clear E2
  show own_Gl p e below _ (T5.setTop (mkF m 17 #[.val (.ref pt), .val (.ref a), .val (.ref b2)] []))
  try clear st5
  try clear N5q
  try clear N1
  try clear e4
  try clear X4
  try clear T4
  refine own_st (fun tg_ kg_ => XS.aloadN X5.here hx rfl (hb hby own_d_prog_13_method_3_code_17) rfl rfl kg_) ?_
  show own_Gl p e below _ (T5.setTop (mkF m 18 #[.val (.ref pt), .val (.ref a), .val (.ref b2)] [(.ref b2)]))
  exact own_retA X5 hx Bd.notSynchronized Bd.returns rfl rfl (hb hby own_d_prog_13_method_3_code_18) (by decide) (by decide) rfl (⟨⟨_, _, rfl, sz_b2, V_b2⟩, N5, K6⟩)
theorem own_ef_fil3 (m : MethodId) (x0 : Addr) (x1 : Addr) : entryFrame m #[(.ref x0), (.ref x1)] 4 = mkF m 0 #[.val (.ref x0), .val (.ref x1), .unset, .unset] [] := by first | (simp [entryFrame, mkF, argsToLocals, Value.category]; done) | rfl
def own_Q_fil3 (Z : State) (w one : Addr) (kw : ClassId) (h0 : Heap) (n0 : Nat) (v : Option Value) (h : Heap) (L : List Loc) : Prop := v = none ∧ Arv Z h w kw (.object "java/math/BigDecimal") (3 : Int32) [(.ref one), (.ref one), (.ref one)] .null ∧ Fr n0 L ∧ Keep h0 h [w]
set_option maxRecDepth 65536 in
set_option maxHeartbeats 40000000 in
theorem own_rm_fil3 (l : Launch) (Z : State) (a0 : Array Value) (hw : ∀ d ∈ tables_1, d.before a0 Z = true) (ws : List Jvm.Cond) (w one : Addr) (kw : ClassId) (h0 : Heap) (n0 : Nat) (Z0 : n0 ≤ h0.size) (V_w : Arv Z h0 w kw (.object "java/math/BigDecimal") (3 : Int32) [.null, .null, .null] .null) (O_w : Ovr Z kw "java/math/BigDecimal") (E_1 : Exa Z h0 one "java/math/BigDecimal") (g_w : n0 ≤ w) :
    MetFree l (⟨"java/util/Arrays", "fill", "([Ljava/lang/Object;Ljava/lang/Object;)V"⟩ : MethodName) (head1 (Jvm.Cond.code (⟨"java/util/Arrays", "fill", "([Ljava/lang/Object;Ljava/lang/Object;)V"⟩ : MethodName) jdk_65_method_117_code 4 none :: ws) ({ frames := 0, cells := 0, slots := 0, locals := 0 } : Room)) (fun aa UU => aa = #[(.ref w), (.ref one)] ∧ Z.Warmed39 UU.vm ∧ UU.heap = h0) (fun _ _ _ _ _ => True) (fun _ UU oo UU' => ∃ vv LL, oo = .returned vv ∧ own_Q_fil3 Z w one kw h0 n0 vv UU'.heap LL ∧ FrameEnd UU oo UU' LL ({ frames := 0, cells := 0, slots := 0, locals := 0 } : Room).cells ({ frames := 0, cells := 0, slots := 0, locals := 0 } : Room).slots) := by
  refine MetFree.of_bodySF (plainFor_of_name own_pn5) hisR ?_
  intro p e s m args below meth c s₁ Bd hml0 hP hK
  obtain ⟨rfl, hZ, hh⟩ := hP
  have hx := Bd.exec
  have hby := Bd.bytes
  have hml : c.maxLocals = 4 := hml0
  have hown : s.vm.findClass "java/util/Arrays" = some m.cls := findClass_of_methodNamed Bd.named
  have hnm := (name_of_methodNamed Bd.named Bd.method).1
  have X0 : Stand p l e ({ frames := 0, cells := 0, slots := 0, locals := 0 } : Room) s m #[(.ref w), (.ref one)] below meth c s₁ [] 0 0 := Stand.of_body Bd
  have e0 : s₁.heap = h0 := by rw [← hh, Bd.state]; rfl
  have N0 := Fr.nil n0
  have K0 : Keep h0 h0 [w] := Keep.refl h0 _
  show own_Gl p e below (own_Post s (own_Q_fil3 Z w one kw h0 n0) ({ frames := 0, cells := 0, slots := 0, locals := 0 } : Room).cells ({ frames := 0, cells := 0, slots := 0, locals := 0 } : Room).slots) _
  refine own_st (fun tg_ kg_ => castTop (own_ef_fil3 m w one) kg_) ?_
  show own_Gl p e below _ (s₁.setTop (mkF m 0 #[.val (.ref w), .val (.ref one), .unset, .unset] []))
  refine own_st (fun tg_ kg_ => XS.iconst X0.here hx rfl (hb hby own_d_jdk_65_method_117_code_0) kg_) ?_
  show own_Gl p e below _ (s₁.setTop (mkF m 1 #[.val (.ref w), .val (.ref one), .unset, .unset] [(.int (0 : Int32))]))
  refine own_st (fun tg_ kg_ => XS.istoreN X0.here hx rfl (hb hby own_d_jdk_65_method_117_code_1) rfl (l' := #[.val (.ref w), .val (.ref one), .val (.int (0 : Int32)), .unset]) rfl kg_) ?_
  show own_Gl p e below _ (s₁.setTop (mkF m 2 #[.val (.ref w), .val (.ref one), .val (.int (0 : Int32)), .unset] []))
  refine own_st (fun tg_ kg_ => XS.aloadN X0.here hx rfl (hb hby own_d_jdk_65_method_117_code_2) rfl rfl kg_) ?_
  show own_Gl p e below _ (s₁.setTop (mkF m 3 #[.val (.ref w), .val (.ref one), .val (.int (0 : Int32)), .unset] [(.ref w)]))
  obtain ⟨cl1, Ar1, qa1, Sa1, Na1, Ha1, Ga1⟩ := id V_w
  refine own_st (fun tg_ kg_ => X0.arraylength hx (by rw [e0]; exact Ar1.1) (State.isArrayOf_alike hZ.alike Ar1.2.1) (g := (mkF m 3 #[.val (.ref w), .val (.ref one), .val (.int (0 : Int32)), .unset] [(.ref w)])) rfl rfl (hb hby own_d_jdk_65_method_117_code_3) _ kg_) ?_
  rw [len_of Sa1 Na1]
  show own_Gl p e below _ (s₁.setTop (mkF m 4 #[.val (.ref w), .val (.ref one), .val (.int (0 : Int32)), .unset] [(.int (3 : Int32))]))
  refine own_st (fun tg_ kg_ => XS.istoreN X0.here hx rfl (hb hby own_d_jdk_65_method_117_code_4) rfl (l' := #[.val (.ref w), .val (.ref one), .val (.int (0 : Int32)), .val (.int (3 : Int32))]) rfl kg_) ?_
  show own_Gl p e below _ (s₁.setTop (mkF m 5 #[.val (.ref w), .val (.ref one), .val (.int (0 : Int32)), .val (.int (3 : Int32))] []))
  refine own_st (fun tg_ kg_ => XS.iloadN X0.here hx rfl (hb hby own_d_jdk_65_method_117_code_5) rfl kg_) ?_
  show own_Gl p e below _ (s₁.setTop (mkF m 6 #[.val (.ref w), .val (.ref one), .val (.int (0 : Int32)), .val (.int (3 : Int32))] [(.int (0 : Int32))]))
  refine own_st (fun tg_ kg_ => XS.iloadN X0.here hx rfl (hb hby own_d_jdk_65_method_117_code_6) rfl kg_) ?_
  show own_Gl p e below _ (s₁.setTop (mkF m 7 #[.val (.ref w), .val (.ref one), .val (.int (0 : Int32)), .val (.int (3 : Int32))] [(.int (3 : Int32)), (.int (0 : Int32))]))
  refine own_st (fun tg_ kg_ => XS.icmpNo X0.here hx rfl (hb hby own_d_jdk_65_method_117_code_7) rfl (tlt ((by decide : (0 : Int32) < (3 : Int32)))).2.1 kg_) ?_
  show own_Gl p e below _ (s₁.setTop (mkF m 10 #[.val (.ref w), .val (.ref one), .val (.int (0 : Int32)), .val (.int (3 : Int32))] []))
  refine own_st (fun tg_ kg_ => XS.aloadN X0.here hx rfl (hb hby own_d_jdk_65_method_117_code_10) rfl rfl kg_) ?_
  show own_Gl p e below _ (s₁.setTop (mkF m 11 #[.val (.ref w), .val (.ref one), .val (.int (0 : Int32)), .val (.int (3 : Int32))] [(.ref w)]))
  refine own_st (fun tg_ kg_ => XS.iloadN X0.here hx rfl (hb hby own_d_jdk_65_method_117_code_11) rfl kg_) ?_
  show own_Gl p e below _ (s₁.setTop (mkF m 12 #[.val (.ref w), .val (.ref one), .val (.int (0 : Int32)), .val (.int (3 : Int32))] [(.int (0 : Int32)), (.ref w)]))
  refine own_st (fun tg_ kg_ => XS.aloadN X0.here hx rfl (hb hby own_d_jdk_65_method_117_code_12) rfl rfl kg_) ?_
  show own_Gl p e below _ (s₁.setTop (mkF m 13 #[.val (.ref w), .val (.ref one), .val (.int (0 : Int32)), .val (.int (3 : Int32))] [(.ref one), (.int (0 : Int32)), (.ref w)]))
  obtain ⟨cl2, Ar2, qa2, Sa2, Na2, Ha2, Ga2⟩ := id V_w
  have hin3 : ¬ ((0 : Int32) < 0 ∨ cl2.slots.size ≤ ((0 : Int32)).toNatClampNeg) := inb_of Sa2 ⟨by decide, by decide⟩
  obtain ⟨T3, h3, X3, e3, W3, st3⟩ := stR X0 hx hZ e0 Ar2 (j := (0 : Int32)) hin3 rfl (Sto.ofV Ar2 qa2 O_w (Ins.self E_1)) (g := (mkF m 13 #[.val (.ref w), .val (.ref one), .val (.int (0 : Int32)), .val (.int (3 : Int32))] [(.ref one), (.int (0 : Int32)), (.ref w)])) rfl rfl (hb hby own_d_jdk_65_method_117_code_13)
  have N3 := Fr.snoc X3 N0 g_w
  replace E_1 := E_1.wr W3
  have K4 : Keep h0 h3 [w] := K0.wr W3 (Or.inl (List.mem_of_getElem? (i := 0) rfl))
  replace V_w : Arv Z h3 w kw (.object "java/math/BigDecimal") (3 : Int32) [(.ref one), .null, .null] .null := Arv.set Ar2 qa2 Sa2 Na2 Ha2 Ga2 rfl W3 0 rfl (Nat.le_of_ble_eq_true rfl)
  try clear Ga2
  try clear Ha2
  try clear Na2
  try clear Sa2
  try clear qa2
  try clear W3
  try clear hin3
  try clear Ar2
  try clear cl2
  refine own_st st3 ?_
  try clear st3
  show own_Gl p e below _ (T3.setTop (mkF m 14 #[.val (.ref w), .val (.ref one), .val (.int (0 : Int32)), .val (.int (3 : Int32))] []))
  refine own_st (fun tg_ kg_ => XS.iinc X3.here hx rfl (hb hby own_d_jdk_65_method_117_code_14) rfl (l' := #[.val (.ref w), .val (.ref one), .val (.int (1 : Int32)), .val (.int (3 : Int32))]) rfl kg_) ?_
  show own_Gl p e below _ (T3.setTop (mkF m 17 #[.val (.ref w), .val (.ref one), .val (.int (1 : Int32)), .val (.int (3 : Int32))] []))
  refine own_st (fun tg_ kg_ => XS.goto X3.here hx rfl (pc0 := 17) (pc' := 5) rfl (hb hby own_d_jdk_65_method_117_code_17) (by decide) (by decide) kg_) ?_
  show own_Gl p e below _ (T3.setTop (mkF m 5 #[.val (.ref w), .val (.ref one), .val (.int (1 : Int32)), .val (.int (3 : Int32))] []))
  refine own_st (fun tg_ kg_ => XS.iloadN X3.here hx rfl (hb hby own_d_jdk_65_method_117_code_5) rfl kg_) ?_
  show own_Gl p e below _ (T3.setTop (mkF m 6 #[.val (.ref w), .val (.ref one), .val (.int (1 : Int32)), .val (.int (3 : Int32))] [(.int (1 : Int32))]))
  refine own_st (fun tg_ kg_ => XS.iloadN X3.here hx rfl (hb hby own_d_jdk_65_method_117_code_6) rfl kg_) ?_
  show own_Gl p e below _ (T3.setTop (mkF m 7 #[.val (.ref w), .val (.ref one), .val (.int (1 : Int32)), .val (.int (3 : Int32))] [(.int (3 : Int32)), (.int (1 : Int32))]))
  refine own_st (fun tg_ kg_ => XS.icmpNo X3.here hx rfl (hb hby own_d_jdk_65_method_117_code_7) rfl (tlt ((by decide : (1 : Int32) < (3 : Int32)))).2.1 kg_) ?_
  show own_Gl p e below _ (T3.setTop (mkF m 10 #[.val (.ref w), .val (.ref one), .val (.int (1 : Int32)), .val (.int (3 : Int32))] []))
  refine own_st (fun tg_ kg_ => XS.aloadN X3.here hx rfl (hb hby own_d_jdk_65_method_117_code_10) rfl rfl kg_) ?_
  show own_Gl p e below _ (T3.setTop (mkF m 11 #[.val (.ref w), .val (.ref one), .val (.int (1 : Int32)), .val (.int (3 : Int32))] [(.ref w)]))
  refine own_st (fun tg_ kg_ => XS.iloadN X3.here hx rfl (hb hby own_d_jdk_65_method_117_code_11) rfl kg_) ?_
  show own_Gl p e below _ (T3.setTop (mkF m 12 #[.val (.ref w), .val (.ref one), .val (.int (1 : Int32)), .val (.int (3 : Int32))] [(.int (1 : Int32)), (.ref w)]))
  refine own_st (fun tg_ kg_ => XS.aloadN X3.here hx rfl (hb hby own_d_jdk_65_method_117_code_12) rfl rfl kg_) ?_
  show own_Gl p e below _ (T3.setTop (mkF m 13 #[.val (.ref w), .val (.ref one), .val (.int (1 : Int32)), .val (.int (3 : Int32))] [(.ref one), (.int (1 : Int32)), (.ref w)]))
  obtain ⟨cl5, Ar5, qa5, Sa5, Na5, Ha5, Ga5⟩ := id V_w
  have hin6 : ¬ ((1 : Int32) < 0 ∨ cl5.slots.size ≤ ((1 : Int32)).toNatClampNeg) := inb_of Sa5 ⟨by decide, by decide⟩
  obtain ⟨T6, h6, X6, e6, W6, st6⟩ := stR X3 hx hZ e3 Ar5 (j := (1 : Int32)) hin6 rfl (Sto.ofV Ar5 qa5 O_w (Ins.self E_1)) (g := (mkF m 13 #[.val (.ref w), .val (.ref one), .val (.int (1 : Int32)), .val (.int (3 : Int32))] [(.ref one), (.int (1 : Int32)), (.ref w)])) rfl rfl (hb hby own_d_jdk_65_method_117_code_13)
  have N6 := Fr.snoc X6 N3 g_w
  try clear N3
  replace E_1 := E_1.wr W6
  have K7 : Keep h0 h6 [w] := K4.wr W6 (Or.inl (List.mem_of_getElem? (i := 0) rfl))
  try clear K4
  replace V_w : Arv Z h6 w kw (.object "java/math/BigDecimal") (3 : Int32) [(.ref one), (.ref one), .null] .null := Arv.set Ar5 qa5 Sa5 Na5 Ha5 Ga5 rfl W6 1 rfl (Nat.le_of_ble_eq_true rfl)
  try clear Ga5
  try clear Ha5
  try clear Na5
  try clear Sa5
  try clear qa5
  try clear W6
  try clear hin6
  try clear Ar5
  try clear cl5
  refine own_st st6 ?_
  try clear st6
  try clear e3
  try clear X3
  try clear T3
  show own_Gl p e below _ (T6.setTop (mkF m 14 #[.val (.ref w), .val (.ref one), .val (.int (1 : Int32)), .val (.int (3 : Int32))] []))
  refine own_st (fun tg_ kg_ => XS.iinc X6.here hx rfl (hb hby own_d_jdk_65_method_117_code_14) rfl (l' := #[.val (.ref w), .val (.ref one), .val (.int (2 : Int32)), .val (.int (3 : Int32))]) rfl kg_) ?_
  show own_Gl p e below _ (T6.setTop (mkF m 17 #[.val (.ref w), .val (.ref one), .val (.int (2 : Int32)), .val (.int (3 : Int32))] []))
  refine own_st (fun tg_ kg_ => XS.goto X6.here hx rfl (pc0 := 17) (pc' := 5) rfl (hb hby own_d_jdk_65_method_117_code_17) (by decide) (by decide) kg_) ?_
  show own_Gl p e below _ (T6.setTop (mkF m 5 #[.val (.ref w), .val (.ref one), .val (.int (2 : Int32)), .val (.int (3 : Int32))] []))
  refine own_st (fun tg_ kg_ => XS.iloadN X6.here hx rfl (hb hby own_d_jdk_65_method_117_code_5) rfl kg_) ?_
  show own_Gl p e below _ (T6.setTop (mkF m 6 #[.val (.ref w), .val (.ref one), .val (.int (2 : Int32)), .val (.int (3 : Int32))] [(.int (2 : Int32))]))
  refine own_st (fun tg_ kg_ => XS.iloadN X6.here hx rfl (hb hby own_d_jdk_65_method_117_code_6) rfl kg_) ?_
  show own_Gl p e below _ (T6.setTop (mkF m 7 #[.val (.ref w), .val (.ref one), .val (.int (2 : Int32)), .val (.int (3 : Int32))] [(.int (3 : Int32)), (.int (2 : Int32))]))
  refine own_st (fun tg_ kg_ => XS.icmpNo X6.here hx rfl (hb hby own_d_jdk_65_method_117_code_7) rfl (tlt ((by decide : (2 : Int32) < (3 : Int32)))).2.1 kg_) ?_
  show own_Gl p e below _ (T6.setTop (mkF m 10 #[.val (.ref w), .val (.ref one), .val (.int (2 : Int32)), .val (.int (3 : Int32))] []))
  refine own_st (fun tg_ kg_ => XS.aloadN X6.here hx rfl (hb hby own_d_jdk_65_method_117_code_10) rfl rfl kg_) ?_
  show own_Gl p e below _ (T6.setTop (mkF m 11 #[.val (.ref w), .val (.ref one), .val (.int (2 : Int32)), .val (.int (3 : Int32))] [(.ref w)]))
  refine own_st (fun tg_ kg_ => XS.iloadN X6.here hx rfl (hb hby own_d_jdk_65_method_117_code_11) rfl kg_) ?_
  show own_Gl p e below _ (T6.setTop (mkF m 12 #[.val (.ref w), .val (.ref one), .val (.int (2 : Int32)), .val (.int (3 : Int32))] [(.int (2 : Int32)), (.ref w)]))
  refine own_st (fun tg_ kg_ => XS.aloadN X6.here hx rfl (hb hby own_d_jdk_65_method_117_code_12) rfl rfl kg_) ?_
  show own_Gl p e below _ (T6.setTop (mkF m 13 #[.val (.ref w), .val (.ref one), .val (.int (2 : Int32)), .val (.int (3 : Int32))] [(.ref one), (.int (2 : Int32)), (.ref w)]))
  obtain ⟨cl8, Ar8, qa8, Sa8, Na8, Ha8, Ga8⟩ := id V_w
  have hin9 : ¬ ((2 : Int32) < 0 ∨ cl8.slots.size ≤ ((2 : Int32)).toNatClampNeg) := inb_of Sa8 ⟨by decide, by decide⟩
  obtain ⟨T9, h9, X9, e9, W9, st9⟩ := stR X6 hx hZ e6 Ar8 (j := (2 : Int32)) hin9 rfl (Sto.ofV Ar8 qa8 O_w (Ins.self E_1)) (g := (mkF m 13 #[.val (.ref w), .val (.ref one), .val (.int (2 : Int32)), .val (.int (3 : Int32))] [(.ref one), (.int (2 : Int32)), (.ref w)])) rfl rfl (hb hby own_d_jdk_65_method_117_code_13)
  have N9 := Fr.snoc X9 N6 g_w
  try clear N6
  replace E_1 := E_1.wr W9
  have K10 : Keep h0 h9 [w] := K7.wr W9 (Or.inl (List.mem_of_getElem? (i := 0) rfl))
  try clear K7
  replace V_w : Arv Z h9 w kw (.object "java/math/BigDecimal") (3 : Int32) [(.ref one), (.ref one), (.ref one)] .null := Arv.set Ar8 qa8 Sa8 Na8 Ha8 Ga8 rfl W9 2 rfl (Nat.le_of_ble_eq_true rfl)
  try clear Ga8
  try clear Ha8
  try clear Na8
  try clear Sa8
  try clear qa8
  try clear W9
  try clear hin9
  try clear Ar8
  try clear cl8
  refine own_st st9 ?_
  try clear st9
  try clear e6
  try clear X6
  try clear T6
  show own_Gl p e below _ (T9.setTop (mkF m 14 #[.val (.ref w), .val (.ref one), .val (.int (2 : Int32)), .val (.int (3 : Int32))] []))
  refine own_st (fun tg_ kg_ => XS.iinc X9.here hx rfl (hb hby own_d_jdk_65_method_117_code_14) rfl (l' := #[.val (.ref w), .val (.ref one), .val (.int (3 : Int32)), .val (.int (3 : Int32))]) rfl kg_) ?_
  show own_Gl p e below _ (T9.setTop (mkF m 17 #[.val (.ref w), .val (.ref one), .val (.int (3 : Int32)), .val (.int (3 : Int32))] []))
  refine own_st (fun tg_ kg_ => XS.goto X9.here hx rfl (pc0 := 17) (pc' := 5) rfl (hb hby own_d_jdk_65_method_117_code_17) (by decide) (by decide) kg_) ?_
  show own_Gl p e below _ (T9.setTop (mkF m 5 #[.val (.ref w), .val (.ref one), .val (.int (3 : Int32)), .val (.int (3 : Int32))] []))
  refine own_st (fun tg_ kg_ => XS.iloadN X9.here hx rfl (hb hby own_d_jdk_65_method_117_code_5) rfl kg_) ?_
  show own_Gl p e below _ (T9.setTop (mkF m 6 #[.val (.ref w), .val (.ref one), .val (.int (3 : Int32)), .val (.int (3 : Int32))] [(.int (3 : Int32))]))
  refine own_st (fun tg_ kg_ => XS.iloadN X9.here hx rfl (hb hby own_d_jdk_65_method_117_code_6) rfl kg_) ?_
  show own_Gl p e below _ (T9.setTop (mkF m 7 #[.val (.ref w), .val (.ref one), .val (.int (3 : Int32)), .val (.int (3 : Int32))] [(.int (3 : Int32)), (.int (3 : Int32))]))
  refine own_st (fun tg_ kg_ => XS.icmpYes X9.here hx rfl (pc0 := 7) (pc' := 20) rfl (hb hby own_d_jdk_65_method_117_code_7) rfl (flt ((by decide : ¬ ((3 : Int32) < (3 : Int32))))).2.1 (by decide) (by decide) kg_) ?_
  show own_Gl p e below _ (T9.setTop (mkF m 20 #[.val (.ref w), .val (.ref one), .val (.int (3 : Int32)), .val (.int (3 : Int32))] []))
  exact own_retV X9 hx Bd.notSynchronized Bd.returns (hb hby own_d_jdk_65_method_117_code_20) (by decide) (by decide) e9 (⟨rfl, V_w, N9, K10⟩)
theorem own_ef_wei3 (m : MethodId) (x0 : Addr) (x1 : Addr) : entryFrame m #[(.ref x0), (.ref x1)] 3 = mkF m 0 #[.val (.ref x0), .val (.ref x1), .unset] [] := by first | (simp [entryFrame, mkF, argsToLocals, Value.category]; done) | rfl
def own_Q_wei3 (Z : State) (pt a one : Addr) (h0 : Heap) (n0 : Nat) (v : Option Value) (h : Heap) (L : List Loc) : Prop := (∃ w kw, v = some (.ref w) ∧ h0.size ≤ w ∧ Arv Z h w kw (.object "java/math/BigDecimal") (3 : Int32) [(.ref one), (.ref one), (.ref one)] .null) ∧ Fr n0 L ∧ Ext h0 h
set_option maxRecDepth 65536 in
set_option maxHeartbeats 40000000 in
theorem own_rm_wei3 (l : Launch) (Z : State) (a0 : Array Value) (hw : ∀ d ∈ tables_1, d.before a0 Z = true) (ws : List Jvm.Cond) (pt a one : Addr) (h0 : Heap) (n0 : Nat) (Z0 : n0 ≤ h0.size) (E_a : Exa Z h0 a "java/util/ArrayList") (F_s : Fld Z h0 a "java/util/ArrayList" "size" "I" (.int (3 : Int32)))(S_1 : Sta Z h0 "java/math/BigDecimal" "ONE" "Ljava/math/BigDecimal;" (.ref one)) (E_1 : Exa Z h0 one "java/math/BigDecimal") :
    MetFree l (⟨"com/example/ratably/ratably/method/EvenPeriods", "weights", "(Ljava/util/List;)[Ljava/math/BigDecimal;"⟩ : MethodName) (head1 (Jvm.Cond.code (⟨"com/example/ratably/ratably/method/EvenPeriods", "weights", "(Ljava/util/List;)[Ljava/math/BigDecimal;"⟩ : MethodName) prog_13_method_3_code 3 (some (.array (.object "java/math/BigDecimal"))) :: ws) ({ frames := 1, cells := 1, slots := 3, locals := 15 } : Room)) (fun aa UU => aa = #[(.ref pt), (.ref a)] ∧ Z.Warmed39 UU.vm ∧ UU.heap = h0) (fun _ _ _ _ _ => True) (fun _ UU oo UU' => ∃ vv LL, oo = .returned vv ∧ own_Q_wei3 Z pt a one h0 n0 vv UU'.heap LL ∧ FrameEnd UU oo UU' LL ({ frames := 1, cells := 1, slots := 3, locals := 15 } : Room).cells ({ frames := 1, cells := 1, slots := 3, locals := 15 } : Room).slots) := by
  refine MetFree.of_bodySF (plainFor_of_name own_pn4) hisR ?_
  intro p e s m args below meth c s₁ Bd hml0 hP hK
  obtain ⟨rfl, hZ, hh⟩ := hP
  have hx := Bd.exec
  have hby := Bd.bytes
  have hml : c.maxLocals = 3 := hml0
  have hown : s.vm.findClass "com/example/ratably/ratably/method/EvenPeriods" = some m.cls := findClass_of_methodNamed Bd.named
  have hnm := (name_of_methodNamed Bd.named Bd.method).1
  have X0 : Stand p l e ({ frames := 1, cells := 1, slots := 3, locals := 15 } : Room) s m #[(.ref pt), (.ref a)] below meth c s₁ [] 0 0 := Stand.of_body Bd
  have e0 : s₁.heap = h0 := by rw [← hh, Bd.state]; rfl
  have N0 := Fr.nil n0
  show own_Gl p e below (own_Post s (own_Q_wei3 Z pt a one h0 n0) ({ frames := 1, cells := 1, slots := 3, locals := 15 } : Room).cells ({ frames := 1, cells := 1, slots := 3, locals := 15 } : Room).slots) _
  refine own_st (fun tg_ kg_ => castTop (own_ef_wei3 m pt a) kg_) ?_
  show own_Gl p e below _ (s₁.setTop (mkF m 0 #[.val (.ref pt), .val (.ref a), .unset] []))
  refine own_st (fun tg_ kg_ => XS.aloadN X0.here hx rfl (hb hby own_d_prog_13_method_3_code_0) rfl rfl kg_) ?_
  show own_Gl p e below _ (s₁.setTop (mkF m 1 #[.val (.ref pt), .val (.ref a), .unset] [(.ref a)]))
  obtain ⟨cq1, kq1, q1a, q1b, q1c⟩ := isOf hZ e0 E_a
  obtain ⟨_, _, ⟨T1, L1, k1, n1⟩, -, X1, ⟨Lc1, hQ1, l1, y1, z1⟩, st1⟩ := X0.interfaceBack hx (xi := (⟨"java/util/List", "size", "()I"⟩ : MethodName)) (y := (⟨"java/util/ArrayList", "size", "()I"⟩ : MethodName)) hown (mvT hZ (hw _ (List.mem_of_getElem? (i := 49) rfl))) (mvT hZ (hw _ (List.mem_of_getElem? (i := 50) rfl))) (mvT hZ (hw _ (List.mem_of_getElem? (i := 51) rfl))) (mvT hZ (hw _ (List.mem_of_getElem? (i := 52) rfl))) (mvT hZ (hw _ (List.mem_of_getElem? (i := 53) rfl))) (mvT hZ (hw _ (List.mem_of_getElem? (i := 54) rfl))) (mvT hZ (hw _ (List.mem_of_getElem? (i := 55) rfl))) (mvT hZ (hw _ (List.mem_of_getElem? (i := 56) rfl))) (by decide) (backOf (W := 0) (own_rm_siz l Z a0 hw [] a (3 : Int32) h0 n0 Z0 F_s) hZ (hw _ (List.mem_of_getElem? (i := 57) rfl)) (hw _ (List.mem_of_getElem? (i := 15) rfl)) (by decide) (by decide)) q1a q1b q1c (g := (mkF m 1 #[.val (.ref pt), .val (.ref a), .unset] [(.ref a)])) rfl (by rw [hml]; rfl) (Steps.refl _) (argsL := []) (rest := []) (lenOf own_pd5 rfl) rfl (by show 2 * 0 + _ ≤ _; exact Nat.le_of_eq rfl) (hb hby own_d_prog_13_method_3_code_1) (fun _ _ => ⟨rfl, e0, (by decide : 0 + 0 ≤ _), (by decide : 0 + 0 ≤ _)⟩)
  dsimp only [Pt.U, Pt.locs, Pt.cells, Pt.slots] at X1 l1 y1 z1 st1 hQ1
  subst l1 y1 z1
  obtain ⟨rfl, N1q, e1⟩ := hQ1
  have N1 := Fr.app N0 N1q
  refine own_tr st1 ?_
  show own_Gl p e below _ (T1.setTop (mkF m 6 #[.val (.ref pt), .val (.ref a), .unset] [(.int (3 : Int32))]))
  try clear st1
  try clear N1q
  obtain ⟨T2, h2, k2, X2, e2, E2, A2, O2, st2⟩ := newR X1 hx hZ hown (hw _ (List.mem_of_getElem? (i := 60) rfl)) (hw _ (List.mem_of_getElem? (i := 61) rfl)) e1 (g := (mkF m 6 #[.val (.ref pt), .val (.ref a), .unset] [(.int (3 : Int32))])) rfl (hb hby own_d_prog_13_method_3_code_6) rfl (by decide) (cap := 3) (by decide) (by decide) (by decide) (by decide)
  obtain ⟨b2, g2⟩ : ∃ z, z = h0.size := ⟨_, rfl⟩
  have ne_a_b2 : a ≠ b2 := Nat.ne_of_lt (Nat.lt_of_lt_of_le E_a.lt (Nat.le_of_eq g2.symm))
  have ne_one_b2 : one ≠ b2 := Nat.ne_of_lt (Nat.lt_of_lt_of_le E_1.lt (Nat.le_of_eq g2.symm))
  have sz_b2 : h0.size ≤ b2 := Nat.le_of_eq g2.symm
  have g_b2 : n0 ≤ b2 := Nat.le_trans Z0 sz_b2
  rw [← g2] at A2 st2
  have V_b2 : Arv Z h2 b2 k2 (.object "java/math/BigDecimal") (3 : Int32) [.null, .null, .null] .null := (Arv.new A2 (by decide)).pad (pad_rep [] .null 3)
  refine own_st st2 ?_
  try clear st2
  try clear e1
  try clear X1
  try clear T1
  show own_Gl p e below _ (T2.setTop (mkF m 9 #[.val (.ref pt), .val (.ref a), .unset] [(.ref b2)]))
  refine own_st (fun tg_ kg_ => XS.astoreN X2.here hx rfl (hb hby own_d_prog_13_method_3_code_9) rfl rfl (l' := #[.val (.ref pt), .val (.ref a), .val (.ref b2)]) rfl kg_) ?_
  show own_Gl p e below _ (T2.setTop (mkF m 10 #[.val (.ref pt), .val (.ref a), .val (.ref b2)] []))
  refine own_st (fun tg_ kg_ => XS.aloadN X2.here hx rfl (hb hby own_d_prog_13_method_3_code_10) rfl rfl kg_) ?_
  show own_Gl p e below _ (T2.setTop (mkF m 11 #[.val (.ref pt), .val (.ref a), .val (.ref b2)] [(.ref b2)]))
  obtain ⟨T4, X4, e4, st4⟩ := getS2 X2 hx hZ hown (host := "") (Or.inl (hw _ (List.mem_of_getElem? (i := 62) rfl))) Via.refl e2 (S_1.ext E2) (g := (mkF m 11 #[.val (.ref pt), .val (.ref a), .val (.ref b2)] [(.ref b2)])) rfl (hb hby own_d_prog_13_method_3_code_11)
  refine own_st st4 ?_
  try clear st4
  try clear e2
  try clear X2
  try clear T2
  show own_Gl p e below _ (T4.setTop (mkF m 14 #[.val (.ref pt), .val (.ref a), .val (.ref b2)] [(.ref one), (.ref b2)]))
  obtain ⟨_, _, ⟨T5, L5, k5, n5⟩, -, X5, ⟨Lc5, hQ5, l5, y5, z5⟩, st5⟩ := Jvm.LawKit.callS X4 hx (y := (⟨"java/util/Arrays", "fill", "([Ljava/lang/Object;Ljava/lang/Object;)V"⟩ : MethodName)) hown (mvT hZ (hw _ (List.mem_of_getElem? (i := 64) rfl))) (mvT hZ (hw _ (List.mem_of_getElem? (i := 65) rfl))) (mvT hZ (hw _ (List.mem_of_getElem? (i := 66) rfl))) (mvT hZ (hw _ (List.mem_of_getElem? (i := 67) rfl))) (by decide) (backOf (W := 0) (own_rm_fil3 l Z a0 hw [] b2 one k2 h2 n0 (Nat.le_trans Z0 E2.1) V_b2 O2 (E_1.ext E2) g_b2) hZ (hw _ (List.mem_of_getElem? (i := 67) rfl)) (hw _ (List.mem_of_getElem? (i := 66) rfl)) (by decide) (by decide)) (g := (mkF m 14 #[.val (.ref pt), .val (.ref a), .val (.ref b2)] [(.ref one), (.ref b2)])) rfl (by rw [hml]; rfl) (argsL := [(.ref b2), (.ref one)]) (rest := []) (lenOf own_pd6 rfl) rfl (by show 2 * 0 + _ ≤ _; exact Nat.le_of_eq rfl) (hb hby own_d_prog_13_method_3_code_14) (fun _ _ => ⟨rfl, e4, (by decide : 1 + 0 ≤ _), (by decide : 3 + 0 ≤ _)⟩)
  dsimp only [Pt.U, Pt.locs, Pt.cells, Pt.slots] at X5 l5 y5 z5 st5 hQ5
  subst l5 y5 z5
  obtain ⟨rfl, V_b2, N5q, Kc5⟩ := hQ5
  have N5 := Fr.app N1 N5q
  refine own_st st5 ?_
  have K6 := own_ext_keep E2 Kc5 (allS sz_b2 all0)
  try clear Kc5
  try clear E2
  show own_Gl p e below _ (T5.setTop (mkF m 17 #[.val (.ref pt), .val (.ref a), .val (.ref b2)] []))
  try clear st5
  try clear N5q
  try clear N1
  try clear e4
  try clear X4
  try clear T4
  refine own_st (fun tg_ kg_ => XS.aloadN X5.here hx rfl (hb hby own_d_prog_13_method_3_code_17) rfl rfl kg_) ?_
  show own_Gl p e below _ (T5.setTop (mkF m 18 #[.val (.ref pt), .val (.ref a), .val (.ref b2)] [(.ref b2)]))
  exact own_retA X5 hx Bd.notSynchronized Bd.returns rfl rfl (hb hby own_d_prog_13_method_3_code_18) (by decide) (by decide) rfl (⟨⟨_, _, rfl, sz_b2, V_b2⟩, N5, K6⟩)
theorem own_pn6 : plainName "java/lang/Long" = true := by first | (simp [plainName, overriddenIn]; done) | decide +kernel
theorem own_d_jdk_35_method_57_code_0 : decode jdk_35_method_57_code 0 = .ok (.lload_n 0, 1) := by decide +kernel
theorem own_d_jdk_35_method_57_code_1 : decode jdk_35_method_57_code 1 = .ok (.bipush 63, 2) := by decide +kernel
theorem own_d_jdk_35_method_57_code_3 : decode jdk_35_method_57_code 3 = .ok (.lshr, 1) := by decide +kernel
theorem own_d_jdk_35_method_57_code_4 : decode jdk_35_method_57_code 4 = .ok (.lload_n 0, 1) := by decide +kernel
theorem own_d_jdk_35_method_57_code_5 : decode jdk_35_method_57_code 5 = .ok (.lneg, 1) := by decide +kernel
theorem own_d_jdk_35_method_57_code_6 : decode jdk_35_method_57_code 6 = .ok (.bipush 63, 2) := by decide +kernel
theorem own_d_jdk_35_method_57_code_8 : decode jdk_35_method_57_code 8 = .ok (.lushr, 1) := by decide +kernel
theorem own_d_jdk_35_method_57_code_9 : decode jdk_35_method_57_code 9 = .ok (.lor, 1) := by decide +kernel
theorem own_d_jdk_35_method_57_code_10 : decode jdk_35_method_57_code 10 = .ok (.l2i, 1) := by decide +kernel
theorem own_d_jdk_35_method_57_code_11 : decode jdk_35_method_57_code 11 = .ok (.ireturn, 1) := by decide +kernel
theorem own_ef_sgl (m : MethodId) (x0 : Int64) : entryFrame m #[(.long x0)] 2 = mkF m 0 #[.val (.long x0), .second] [] := by first | (simp [entryFrame, mkF, argsToLocals, Value.category]; done) | rfl
def own_Q_sgl (Z : State)  (h0 : Heap) (n0 : Nat) (v : Option Value) (h : Heap) (L : List Loc) : Prop := v = some (.int 1) ∧ Fr n0 L ∧ h = h0
set_option maxRecDepth 65536 in
set_option maxHeartbeats 40000000 in
theorem own_rm_sgl (l : Launch) (Z : State) (a0 : Array Value) (hw : ∀ d ∈ tables_1, d.before a0 Z = true) (ws : List Jvm.Cond)  (h0 : Heap) (n0 : Nat) (Z0 : n0 ≤ h0.size)  :
    MetFree l (⟨"java/lang/Long", "signum", "(J)I"⟩ : MethodName) (head1 (Jvm.Cond.code (⟨"java/lang/Long", "signum", "(J)I"⟩ : MethodName) jdk_35_method_57_code 2 (some .int) :: ws) ({ frames := 0, cells := 0, slots := 0, locals := 0 } : Room)) (fun aa UU => aa = #[(.long (1 : Int64))] ∧ Z.Warmed39 UU.vm ∧ UU.heap = h0) (fun _ _ _ _ _ => True) (fun _ UU oo UU' => ∃ vv LL, oo = .returned vv ∧ own_Q_sgl Z  h0 n0 vv UU'.heap LL ∧ FrameEnd UU oo UU' LL ({ frames := 0, cells := 0, slots := 0, locals := 0 } : Room).cells ({ frames := 0, cells := 0, slots := 0, locals := 0 } : Room).slots) := by
  refine MetFree.of_bodySF (plainFor_of_name own_pn6) hisR ?_
  intro p e s m args below meth c s₁ Bd hml0 hP hK
  obtain ⟨rfl, hZ, hh⟩ := hP
  have hx := Bd.exec
  have hby := Bd.bytes
  have hml : c.maxLocals = 2 := hml0
  have hown : s.vm.findClass "java/lang/Long" = some m.cls := findClass_of_methodNamed Bd.named
  have hnm := (name_of_methodNamed Bd.named Bd.method).1
  have X0 : Stand p l e ({ frames := 0, cells := 0, slots := 0, locals := 0 } : Room) s m #[(.long (1 : Int64))] below meth c s₁ [] 0 0 := Stand.of_body Bd
  have e0 : s₁.heap = h0 := by rw [← hh, Bd.state]; rfl
  have N0 := Fr.nil n0
  show own_Gl p e below (own_Post s (own_Q_sgl Z  h0 n0) ({ frames := 0, cells := 0, slots := 0, locals := 0 } : Room).cells ({ frames := 0, cells := 0, slots := 0, locals := 0 } : Room).slots) _
  refine own_st (fun tg_ kg_ => castTop (own_ef_sgl m (1 : Int64)) kg_) ?_
  show own_Gl p e below _ (s₁.setTop (mkF m 0 #[.val (.long (1 : Int64)), .second] []))
  refine own_st (fun tg_ kg_ => XS.lloadN X0.here hx rfl (hb hby own_d_jdk_35_method_57_code_0) rfl kg_) ?_
  show own_Gl p e below _ (s₁.setTop (mkF m 1 #[.val (.long (1 : Int64)), .second] [(.long (1 : Int64))]))
  refine own_st (fun tg_ kg_ => XS.bipush X0.here hx rfl (hb hby own_d_jdk_35_method_57_code_1) kg_) ?_
  show own_Gl p e below _ (s₁.setTop (mkF m 3 #[.val (.long (1 : Int64)), .second] [(.int (63 : Int32)), (.long (1 : Int64))]))
  refine own_st (fun tg_ kg_ => XS.lshr X0.here hx rfl (hb hby own_d_jdk_35_method_57_code_3) rfl kg_) ?_
  show own_Gl p e below _ (s₁.setTop (mkF m 4 #[.val (.long (1 : Int64)), .second] [(.long ((1 : Int64) >>> ((63 : Int32) &&& 0x3f).toInt64))]))
  refine own_st (fun tg_ kg_ => XS.lloadN X0.here hx rfl (hb hby own_d_jdk_35_method_57_code_4) rfl kg_) ?_
  show own_Gl p e below _ (s₁.setTop (mkF m 5 #[.val (.long (1 : Int64)), .second] [(.long (1 : Int64)), (.long ((1 : Int64) >>> ((63 : Int32) &&& 0x3f).toInt64))]))
  refine own_st (fun tg_ kg_ => XS.lneg X0.here hx rfl (hb hby own_d_jdk_35_method_57_code_5) rfl kg_) ?_
  show own_Gl p e below _ (s₁.setTop (mkF m 6 #[.val (.long (1 : Int64)), .second] [(.long (-(1 : Int64))), (.long ((1 : Int64) >>> ((63 : Int32) &&& 0x3f).toInt64))]))
  refine own_st (fun tg_ kg_ => XS.bipush X0.here hx rfl (hb hby own_d_jdk_35_method_57_code_6) kg_) ?_
  show own_Gl p e below _ (s₁.setTop (mkF m 8 #[.val (.long (1 : Int64)), .second] [(.int (63 : Int32)), (.long (-(1 : Int64))), (.long ((1 : Int64) >>> ((63 : Int32) &&& 0x3f).toInt64))]))
  refine own_st (fun tg_ kg_ => XS.lushr X0.here hx rfl (hb hby own_d_jdk_35_method_57_code_8) rfl kg_) ?_
  show own_Gl p e below _ (s₁.setTop (mkF m 9 #[.val (.long (1 : Int64)), .second] [(.long (((-(1 : Int64)).toUInt64 >>> ((63 : Int32) &&& 0x3f).toInt64.toUInt64).toInt64)), (.long ((1 : Int64) >>> ((63 : Int32) &&& 0x3f).toInt64))]))
  refine own_st (fun tg_ kg_ => XS.lor X0.here hx rfl (hb hby own_d_jdk_35_method_57_code_9) rfl kg_) ?_
  show own_Gl p e below _ (s₁.setTop (mkF m 10 #[.val (.long (1 : Int64)), .second] [(.long (((1 : Int64) >>> ((63 : Int32) &&& 0x3f).toInt64) ||| (((-(1 : Int64)).toUInt64 >>> ((63 : Int32) &&& 0x3f).toInt64.toUInt64).toInt64)))]))
  refine own_st (fun tg_ kg_ => XS.l2i X0.here hx rfl (hb hby own_d_jdk_35_method_57_code_10) rfl kg_) ?_
  show own_Gl p e below _ (s₁.setTop (mkF m 11 #[.val (.long (1 : Int64)), .second] [(.int ((((1 : Int64) >>> ((63 : Int32) &&& 0x3f).toInt64) ||| (((-(1 : Int64)).toUInt64 >>> ((63 : Int32) &&& 0x3f).toInt64.toUInt64).toInt64)).toInt32))]))
  exact own_retI X0 hx Bd.notSynchronized Bd.returns (hb hby own_d_jdk_35_method_57_code_11) (by decide) (by decide) e0 (⟨congrArg (fun z => some (Value.int z)) (by decide), N0, rfl⟩)
theorem own_pd7 : parseMethodDescriptor "(J)I" = some ⟨[.long], some .int⟩ := by decide +kernel
theorem own_pn7 : plainName "java/math/BigDecimal" = true := by first | (simp [plainName, overriddenIn]; done) | decide +kernel
theorem own_d_jdk_17_method_58_code_0 : decode jdk_17_method_58_code 0 = .ok (.aload_n 0, 1) := by decide +kernel
theorem own_d_jdk_17_method_58_code_1 : decode jdk_17_method_58_code 1 = .ok (.getfield 24, 3) := by decide +kernel
theorem own_d_jdk_17_method_58_code_4 : decode jdk_17_method_58_code 4 = .ok (.ldc2_w 125, 3) := by decide +kernel
theorem own_d_jdk_17_method_58_code_7 : decode jdk_17_method_58_code 7 = .ok (.lcmp, 1) := by decide +kernel
theorem own_d_jdk_17_method_58_code_8 : decode jdk_17_method_58_code 8 = .ok (.ifCond .eq 13, 3) := by decide +kernel
theorem own_d_jdk_17_method_58_code_11 : decode jdk_17_method_58_code 11 = .ok (.aload_n 0, 1) := by decide +kernel
theorem own_d_jdk_17_method_58_code_12 : decode jdk_17_method_58_code 12 = .ok (.getfield 24, 3) := by decide +kernel
theorem own_d_jdk_17_method_58_code_15 : decode jdk_17_method_58_code 15 = .ok (.invokestatic 596, 3) := by decide +kernel
theorem own_d_jdk_17_method_58_code_18 : decode jdk_17_method_58_code 18 = .ok (.goto 10, 3) := by decide +kernel
theorem own_d_jdk_17_method_58_code_28 : decode jdk_17_method_58_code 28 = .ok (.ireturn, 1) := by decide +kernel
theorem own_ef_sgn (m : MethodId) (x0 : Addr) : entryFrame m #[(.ref x0)] 1 = mkF m 0 #[.val (.ref x0)] [] := by first | (simp [entryFrame, mkF, argsToLocals, Value.category]; done) | rfl
def own_Q_sgn (Z : State) (one : Addr) (h0 : Heap) (n0 : Nat) (v : Option Value) (h : Heap) (L : List Loc) : Prop := v = some (.int 1) ∧ Fr n0 L ∧ h = h0
set_option maxRecDepth 65536 in
set_option maxHeartbeats 40000000 in
theorem own_rm_sgn (l : Launch) (Z : State) (a0 : Array Value) (hw : ∀ d ∈ tables_1, d.before a0 Z = true) (ws : List Jvm.Cond) (one : Addr) (h0 : Heap) (n0 : Nat) (Z0 : n0 ≤ h0.size) (F_c : Fld Z h0 one "java/math/BigDecimal" "intCompact" "J" (.long (1 : Int64))) :
    MetFree l (⟨"java/math/BigDecimal", "signum", "()I"⟩ : MethodName) (head1 (Jvm.Cond.code (⟨"java/math/BigDecimal", "signum", "()I"⟩ : MethodName) jdk_17_method_58_code 1 (some .int) :: ws) ({ frames := 1, cells := 0, slots := 0, locals := 13 } : Room)) (fun aa UU => aa = #[(.ref one)] ∧ Z.Warmed39 UU.vm ∧ UU.heap = h0) (fun _ _ _ _ _ => True) (fun _ UU oo UU' => ∃ vv LL, oo = .returned vv ∧ own_Q_sgn Z one h0 n0 vv UU'.heap LL ∧ FrameEnd UU oo UU' LL ({ frames := 1, cells := 0, slots := 0, locals := 13 } : Room).cells ({ frames := 1, cells := 0, slots := 0, locals := 13 } : Room).slots) := by
  refine MetFree.of_bodySF (plainFor_of_name own_pn7) hisR ?_
  intro p e s m args below meth c s₁ Bd hml0 hP hK
  obtain ⟨rfl, hZ, hh⟩ := hP
  have hx := Bd.exec
  have hby := Bd.bytes
  have hml : c.maxLocals = 1 := hml0
  have hown : s.vm.findClass "java/math/BigDecimal" = some m.cls := findClass_of_methodNamed Bd.named
  have hnm := (name_of_methodNamed Bd.named Bd.method).1
  have X0 : Stand p l e ({ frames := 1, cells := 0, slots := 0, locals := 13 } : Room) s m #[(.ref one)] below meth c s₁ [] 0 0 := Stand.of_body Bd
  have e0 : s₁.heap = h0 := by rw [← hh, Bd.state]; rfl
  have N0 := Fr.nil n0
  show own_Gl p e below (own_Post s (own_Q_sgn Z one h0 n0) ({ frames := 1, cells := 0, slots := 0, locals := 13 } : Room).cells ({ frames := 1, cells := 0, slots := 0, locals := 13 } : Room).slots) _
  refine own_st (fun tg_ kg_ => castTop (own_ef_sgn m one) kg_) ?_
  show own_Gl p e below _ (s₁.setTop (mkF m 0 #[.val (.ref one)] []))
  refine own_st (fun tg_ kg_ => XS.aloadN X0.here hx rfl (hb hby own_d_jdk_17_method_58_code_0) rfl rfl kg_) ?_
  show own_Gl p e below _ (s₁.setTop (mkF m 1 #[.val (.ref one)] [(.ref one)]))
  obtain ⟨T1, X1, e1, st1⟩ := getF X0 hx hZ hown (host := "") (Or.inl (hw _ (List.mem_of_getElem? (i := 103) rfl))) Via.refl e0 F_c (g := (mkF m 1 #[.val (.ref one)] [(.ref one)])) rfl rfl (hb hby own_d_jdk_17_method_58_code_1)
  refine own_st st1 ?_
  try clear st1
  show own_Gl p e below _ (T1.setTop (mkF m 4 #[.val (.ref one)] [(.long (1 : Int64))]))
  refine own_st (fun tg_ kg_ => X1.ldc2Long hx hown (mvT hZ (hw _ (List.mem_of_getElem? (i := 105) rfl))) (g := (mkF m 4 #[.val (.ref one)] [(.long (1 : Int64))])) rfl (hb hby own_d_jdk_17_method_58_code_4) _ kg_) ?_
  show own_Gl p e below _ (T1.setTop (mkF m 7 #[.val (.ref one)] [(.long (-9223372036854775808 : Int64)), (.long (1 : Int64))]))
  refine own_st (fun tg_ kg_ => XS.lcmp X1.here hx rfl (hb hby own_d_jdk_17_method_58_code_7) rfl kg_) ?_
  show own_Gl p e below _ (T1.setTop (mkF m 8 #[.val (.ref one)] [(.int (lcmpW (1 : Int64) (-9223372036854775808 : Int64)))]))
  refine own_st (fun tg_ kg_ => XS.ifNo X1.here hx rfl (hb hby own_d_jdk_17_method_58_code_8) rfl ((if0 _ _).trans (feq (by decide)).1) kg_) ?_
  show own_Gl p e below _ (T1.setTop (mkF m 11 #[.val (.ref one)] []))
  refine own_st (fun tg_ kg_ => XS.aloadN X1.here hx rfl (hb hby own_d_jdk_17_method_58_code_11) rfl rfl kg_) ?_
  show own_Gl p e below _ (T1.setTop (mkF m 12 #[.val (.ref one)] [(.ref one)]))
  obtain ⟨T2, X2, e2, st2⟩ := getF X1 hx hZ hown (host := "") (Or.inl (hw _ (List.mem_of_getElem? (i := 103) rfl))) Via.refl e1 F_c (g := (mkF m 12 #[.val (.ref one)] [(.ref one)])) rfl rfl (hb hby own_d_jdk_17_method_58_code_12)
  refine own_st st2 ?_
  try clear st2
  try clear e1
  try clear X1
  try clear T1
  show own_Gl p e below _ (T2.setTop (mkF m 15 #[.val (.ref one)] [(.long (1 : Int64))]))
  obtain ⟨_, _, ⟨T3, L3, k3, n3⟩, -, X3, ⟨Lc3, hQ3, l3, y3, z3⟩, st3⟩ := Jvm.LawKit.callS X2 hx (y := (⟨"java/lang/Long", "signum", "(J)I"⟩ : MethodName)) hown (mvT hZ (hw _ (List.mem_of_getElem? (i := 106) rfl))) (mvT hZ (hw _ (List.mem_of_getElem? (i := 107) rfl))) (mvT hZ (hw _ (List.mem_of_getElem? (i := 108) rfl))) (mvT hZ (hw _ (List.mem_of_getElem? (i := 109) rfl))) (by decide) (backOf (W := 0) (own_rm_sgl l Z a0 hw [] h0 n0 Z0) hZ (hw _ (List.mem_of_getElem? (i := 109) rfl)) (hw _ (List.mem_of_getElem? (i := 108) rfl)) (by decide) (by decide)) (g := (mkF m 15 #[.val (.ref one)] [(.long (1 : Int64))])) rfl (by rw [hml]; rfl) (argsL := [(.long (1 : Int64))]) (rest := []) (lenOf own_pd7 rfl) rfl (by show 2 * 0 + _ ≤ _; exact Nat.le_of_eq rfl) (hb hby own_d_jdk_17_method_58_code_15) (fun _ _ => ⟨rfl, e2, (by decide : 0 + 0 ≤ _), (by decide : 0 + 0 ≤ _)⟩)
  dsimp only [Pt.U, Pt.locs, Pt.cells, Pt.slots] at X3 l3 y3 z3 st3 hQ3
  subst l3 y3 z3
  obtain ⟨rfl, N3q, e3⟩ := hQ3
  have N3 := Fr.app N0 N3q
  refine own_st st3 ?_
  show own_Gl p e below _ (T3.setTop (mkF m 18 #[.val (.ref one)] [(.int (1 : Int32))]))
  try clear st3
  try clear N3q
  try clear e2
  try clear X2
  try clear T2
  refine own_st (fun tg_ kg_ => XS.goto X3.here hx rfl (pc0 := 18) (pc' := 28) rfl (hb hby own_d_jdk_17_method_58_code_18) (by decide) (by decide) kg_) ?_
  show own_Gl p e below _ (T3.setTop (mkF m 28 #[.val (.ref one)] [(.int (1 : Int32))]))
  exact own_retI X3 hx Bd.notSynchronized Bd.returns (hb hby own_d_jdk_17_method_58_code_28) (by decide) (by decide) e3 (⟨rfl, N3, rfl⟩)
theorem own_d_jdk_17_method_70_code_0 : decode jdk_17_method_70_code 0 = .ok (.aload_n 0, 1) := by decide +kernel
theorem own_d_jdk_17_method_70_code_1 : decode jdk_17_method_70_code 1 = .ok (.getfield 17, 3) := by decide +kernel
theorem own_d_jdk_17_method_70_code_4 : decode jdk_17_method_70_code 4 = .ok (.aload_n 1, 1) := by decide +kernel
theorem own_d_jdk_17_method_70_code_5 : decode jdk_17_method_70_code 5 = .ok (.getfield 17, 3) := by decide +kernel
theorem own_d_jdk_17_method_70_code_8 : decode jdk_17_method_70_code 8 = .ok (.if_icmp .ne 55, 3) := by decide +kernel
theorem own_d_jdk_17_method_70_code_11 : decode jdk_17_method_70_code 11 = .ok (.aload_n 0, 1) := by decide +kernel
theorem own_d_jdk_17_method_70_code_12 : decode jdk_17_method_70_code 12 = .ok (.getfield 24, 3) := by decide +kernel
theorem own_d_jdk_17_method_70_code_15 : decode jdk_17_method_70_code 15 = .ok (.lstore_n 2, 1) := by decide +kernel
theorem own_d_jdk_17_method_70_code_16 : decode jdk_17_method_70_code 16 = .ok (.aload_n 1, 1) := by decide +kernel
theorem own_d_jdk_17_method_70_code_17 : decode jdk_17_method_70_code 17 = .ok (.getfield 24, 3) := by decide +kernel
theorem own_d_jdk_17_method_70_code_20 : decode jdk_17_method_70_code 20 = .ok (.lstore 4, 2) := by decide +kernel
theorem own_d_jdk_17_method_70_code_22 : decode jdk_17_method_70_code 22 = .ok (.lload_n 2, 1) := by decide +kernel
theorem own_d_jdk_17_method_70_code_23 : decode jdk_17_method_70_code 23 = .ok (.ldc2_w 125, 3) := by decide +kernel
theorem own_d_jdk_17_method_70_code_26 : decode jdk_17_method_70_code 26 = .ok (.lcmp, 1) := by decide +kernel
theorem own_d_jdk_17_method_70_code_27 : decode jdk_17_method_70_code 27 = .ok (.ifCond .eq 36, 3) := by decide +kernel
theorem own_d_jdk_17_method_70_code_30 : decode jdk_17_method_70_code 30 = .ok (.lload 4, 2) := by decide +kernel
theorem own_d_jdk_17_method_70_code_32 : decode jdk_17_method_70_code 32 = .ok (.ldc2_w 125, 3) := by decide +kernel
theorem own_d_jdk_17_method_70_code_35 : decode jdk_17_method_70_code 35 = .ok (.lcmp, 1) := by decide +kernel
theorem own_d_jdk_17_method_70_code_36 : decode jdk_17_method_70_code 36 = .ok (.ifCond .eq 27, 3) := by decide +kernel
theorem own_d_jdk_17_method_70_code_39 : decode jdk_17_method_70_code 39 = .ok (.lload_n 2, 1) := by decide +kernel
theorem own_d_jdk_17_method_70_code_40 : decode jdk_17_method_70_code 40 = .ok (.lload 4, 2) := by decide +kernel
theorem own_d_jdk_17_method_70_code_42 : decode jdk_17_method_70_code 42 = .ok (.lcmp, 1) := by decide +kernel
theorem own_d_jdk_17_method_70_code_43 : decode jdk_17_method_70_code 43 = .ok (.ifCond .eq 18, 3) := by decide +kernel
theorem own_d_jdk_17_method_70_code_61 : decode jdk_17_method_70_code 61 = .ok (.iconst 0, 1) := by decide +kernel
theorem own_d_jdk_17_method_70_code_62 : decode jdk_17_method_70_code 62 = .ok (.ireturn, 1) := by decide +kernel
theorem own_ef_cmp (m : MethodId) (x0 : Addr) (x1 : Addr) : entryFrame m #[(.ref x0), (.ref x1)] 6 = mkF m 0 #[.val (.ref x0), .val (.ref x1), .unset, .unset, .unset, .unset] [] := by first | (simp [entryFrame, mkF, argsToLocals, Value.category]; done) | rfl
def own_Q_cmp (Z : State) (one : Addr) (h0 : Heap) (n0 : Nat) (v : Option Value) (h : Heap) (L : List Loc) : Prop := v = some (.int 0) ∧ Fr n0 L ∧ h = h0
set_option maxRecDepth 65536 in
set_option maxHeartbeats 40000000 in
theorem own_rm_cmp (l : Launch) (Z : State) (a0 : Array Value) (hw : ∀ d ∈ tables_1, d.before a0 Z = true) (ws : List Jvm.Cond) (one : Addr) (h0 : Heap) (n0 : Nat) (Z0 : n0 ≤ h0.size) (F_c : Fld Z h0 one "java/math/BigDecimal" "intCompact" "J" (.long (1 : Int64)))(F_z : Fld Z h0 one "java/math/BigDecimal" "scale" "I" (.int (0 : Int32))) :
    MetFree l (⟨"java/math/BigDecimal", "compareTo", "(Ljava/math/BigDecimal;)I"⟩ : MethodName) (head1 (Jvm.Cond.code (⟨"java/math/BigDecimal", "compareTo", "(Ljava/math/BigDecimal;)I"⟩ : MethodName) jdk_17_method_70_code 6 (some .int) :: ws) ({ frames := 0, cells := 0, slots := 0, locals := 0 } : Room)) (fun aa UU => aa = #[(.ref one), (.ref one)] ∧ Z.Warmed39 UU.vm ∧ UU.heap = h0) (fun _ _ _ _ _ => True) (fun _ UU oo UU' => ∃ vv LL, oo = .returned vv ∧ own_Q_cmp Z one h0 n0 vv UU'.heap LL ∧ FrameEnd UU oo UU' LL ({ frames := 0, cells := 0, slots := 0, locals := 0 } : Room).cells ({ frames := 0, cells := 0, slots := 0, locals := 0 } : Room).slots) := by
  refine MetFree.of_bodySF (plainFor_of_name own_pn7) hisR ?_
  intro p e s m args below meth c s₁ Bd hml0 hP hK
  obtain ⟨rfl, hZ, hh⟩ := hP
  have hx := Bd.exec
  have hby := Bd.bytes
  have hml : c.maxLocals = 6 := hml0
  have hown : s.vm.findClass "java/math/BigDecimal" = some m.cls := findClass_of_methodNamed Bd.named
  have hnm := (name_of_methodNamed Bd.named Bd.method).1
  have X0 : Stand p l e ({ frames := 0, cells := 0, slots := 0, locals := 0 } : Room) s m #[(.ref one), (.ref one)] below meth c s₁ [] 0 0 := Stand.of_body Bd
  have e0 : s₁.heap = h0 := by rw [← hh, Bd.state]; rfl
  have N0 := Fr.nil n0
  show own_Gl p e below (own_Post s (own_Q_cmp Z one h0 n0) ({ frames := 0, cells := 0, slots := 0, locals := 0 } : Room).cells ({ frames := 0, cells := 0, slots := 0, locals := 0 } : Room).slots) _
  refine own_st (fun tg_ kg_ => castTop (own_ef_cmp m one one) kg_) ?_
  show own_Gl p e below _ (s₁.setTop (mkF m 0 #[.val (.ref one), .val (.ref one), .unset, .unset, .unset, .unset] []))
  refine own_st (fun tg_ kg_ => XS.aloadN X0.here hx rfl (hb hby own_d_jdk_17_method_70_code_0) rfl rfl kg_) ?_
  show own_Gl p e below _ (s₁.setTop (mkF m 1 #[.val (.ref one), .val (.ref one), .unset, .unset, .unset, .unset] [(.ref one)]))
  obtain ⟨T1, X1, e1, st1⟩ := getF X0 hx hZ hown (host := "") (Or.inl (hw _ (List.mem_of_getElem? (i := 119) rfl))) Via.refl e0 F_z (g := (mkF m 1 #[.val (.ref one), .val (.ref one), .unset, .unset, .unset, .unset] [(.ref one)])) rfl rfl (hb hby own_d_jdk_17_method_70_code_1)
  refine own_st st1 ?_
  try clear st1
  show own_Gl p e below _ (T1.setTop (mkF m 4 #[.val (.ref one), .val (.ref one), .unset, .unset, .unset, .unset] [(.int (0 : Int32))]))
  refine own_st (fun tg_ kg_ => XS.aloadN X1.here hx rfl (hb hby own_d_jdk_17_method_70_code_4) rfl rfl kg_) ?_
  show own_Gl p e below _ (T1.setTop (mkF m 5 #[.val (.ref one), .val (.ref one), .unset, .unset, .unset, .unset] [(.ref one), (.int (0 : Int32))]))
  obtain ⟨T2, X2, e2, st2⟩ := getF X1 hx hZ hown (host := "") (Or.inl (hw _ (List.mem_of_getElem? (i := 119) rfl))) Via.refl e1 F_z (g := (mkF m 5 #[.val (.ref one), .val (.ref one), .unset, .unset, .unset, .unset] [(.ref one), (.int (0 : Int32))])) rfl rfl (hb hby own_d_jdk_17_method_70_code_5)
  refine own_st st2 ?_
  try clear st2
  try clear e1
  try clear X1
  try clear T1
  show own_Gl p e below _ (T2.setTop (mkF m 8 #[.val (.ref one), .val (.ref one), .unset, .unset, .unset, .unset] [(.int (0 : Int32)), (.int (0 : Int32))]))
  refine own_st (fun tg_ kg_ => XS.icmpNo X2.here hx rfl (hb hby own_d_jdk_17_method_70_code_8) rfl (teq ((rfl : (0 : Int32) = (0 : Int32)))).2 kg_) ?_
  show own_Gl p e below _ (T2.setTop (mkF m 11 #[.val (.ref one), .val (.ref one), .unset, .unset, .unset, .unset] []))
  refine own_st (fun tg_ kg_ => XS.aloadN X2.here hx rfl (hb hby own_d_jdk_17_method_70_code_11) rfl rfl kg_) ?_
  show own_Gl p e below _ (T2.setTop (mkF m 12 #[.val (.ref one), .val (.ref one), .unset, .unset, .unset, .unset] [(.ref one)]))
  obtain ⟨T3, X3, e3, st3⟩ := getF X2 hx hZ hown (host := "") (Or.inl (hw _ (List.mem_of_getElem? (i := 103) rfl))) Via.refl e2 F_c (g := (mkF m 12 #[.val (.ref one), .val (.ref one), .unset, .unset, .unset, .unset] [(.ref one)])) rfl rfl (hb hby own_d_jdk_17_method_70_code_12)
  refine own_st st3 ?_
  try clear st3
  try clear e2
  try clear X2
  try clear T2
  show own_Gl p e below _ (T3.setTop (mkF m 15 #[.val (.ref one), .val (.ref one), .unset, .unset, .unset, .unset] [(.long (1 : Int64))]))
  refine own_st (fun tg_ kg_ => XS.lstoreN X3.here hx rfl (hb hby own_d_jdk_17_method_70_code_15) rfl (l' := #[.val (.ref one), .val (.ref one), .val (.long (1 : Int64)), .second, .unset, .unset]) rfl kg_) ?_
  show own_Gl p e below _ (T3.setTop (mkF m 16 #[.val (.ref one), .val (.ref one), .val (.long (1 : Int64)), .second, .unset, .unset] []))
  refine own_st (fun tg_ kg_ => XS.aloadN X3.here hx rfl (hb hby own_d_jdk_17_method_70_code_16) rfl rfl kg_) ?_
  show own_Gl p e below _ (T3.setTop (mkF m 17 #[.val (.ref one), .val (.ref one), .val (.long (1 : Int64)), .second, .unset, .unset] [(.ref one)]))
  obtain ⟨T4, X4, e4, st4⟩ := getF X3 hx hZ hown (host := "") (Or.inl (hw _ (List.mem_of_getElem? (i := 103) rfl))) Via.refl e3 F_c (g := (mkF m 17 #[.val (.ref one), .val (.ref one), .val (.long (1 : Int64)), .second, .unset, .unset] [(.ref one)])) rfl rfl (hb hby own_d_jdk_17_method_70_code_17)
  refine own_st st4 ?_
  try clear st4
  try clear e3
  try clear X3
  try clear T3
  show own_Gl p e below _ (T4.setTop (mkF m 20 #[.val (.ref one), .val (.ref one), .val (.long (1 : Int64)), .second, .unset, .unset] [(.long (1 : Int64))]))
  refine own_st (fun tg_ kg_ => XS.lstore X4.here hx rfl (hb hby own_d_jdk_17_method_70_code_20) rfl (l' := #[.val (.ref one), .val (.ref one), .val (.long (1 : Int64)), .second, .val (.long (1 : Int64)), .second]) rfl kg_) ?_
  show own_Gl p e below _ (T4.setTop (mkF m 22 #[.val (.ref one), .val (.ref one), .val (.long (1 : Int64)), .second, .val (.long (1 : Int64)), .second] []))
  refine own_st (fun tg_ kg_ => XS.lloadN X4.here hx rfl (hb hby own_d_jdk_17_method_70_code_22) rfl kg_) ?_
  show own_Gl p e below _ (T4.setTop (mkF m 23 #[.val (.ref one), .val (.ref one), .val (.long (1 : Int64)), .second, .val (.long (1 : Int64)), .second] [(.long (1 : Int64))]))
  refine own_st (fun tg_ kg_ => X4.ldc2Long hx hown (mvT hZ (hw _ (List.mem_of_getElem? (i := 105) rfl))) (g := (mkF m 23 #[.val (.ref one), .val (.ref one), .val (.long (1 : Int64)), .second, .val (.long (1 : Int64)), .second] [(.long (1 : Int64))])) rfl (hb hby own_d_jdk_17_method_70_code_23) _ kg_) ?_
  show own_Gl p e below _ (T4.setTop (mkF m 26 #[.val (.ref one), .val (.ref one), .val (.long (1 : Int64)), .second, .val (.long (1 : Int64)), .second] [(.long (-9223372036854775808 : Int64)), (.long (1 : Int64))]))
  refine own_st (fun tg_ kg_ => XS.lcmp X4.here hx rfl (hb hby own_d_jdk_17_method_70_code_26) rfl kg_) ?_
  show own_Gl p e below _ (T4.setTop (mkF m 27 #[.val (.ref one), .val (.ref one), .val (.long (1 : Int64)), .second, .val (.long (1 : Int64)), .second] [(.int (lcmpW (1 : Int64) (-9223372036854775808 : Int64)))]))
  refine own_st (fun tg_ kg_ => XS.ifNo X4.here hx rfl (hb hby own_d_jdk_17_method_70_code_27) rfl ((if0 _ _).trans (feq (by decide)).1) kg_) ?_
  show own_Gl p e below _ (T4.setTop (mkF m 30 #[.val (.ref one), .val (.ref one), .val (.long (1 : Int64)), .second, .val (.long (1 : Int64)), .second] []))
  refine own_st (fun tg_ kg_ => XS.lload X4.here hx rfl (hb hby own_d_jdk_17_method_70_code_30) rfl kg_) ?_
  show own_Gl p e below _ (T4.setTop (mkF m 32 #[.val (.ref one), .val (.ref one), .val (.long (1 : Int64)), .second, .val (.long (1 : Int64)), .second] [(.long (1 : Int64))]))
  refine own_st (fun tg_ kg_ => X4.ldc2Long hx hown (mvT hZ (hw _ (List.mem_of_getElem? (i := 105) rfl))) (g := (mkF m 32 #[.val (.ref one), .val (.ref one), .val (.long (1 : Int64)), .second, .val (.long (1 : Int64)), .second] [(.long (1 : Int64))])) rfl (hb hby own_d_jdk_17_method_70_code_32) _ kg_) ?_
  show own_Gl p e below _ (T4.setTop (mkF m 35 #[.val (.ref one), .val (.ref one), .val (.long (1 : Int64)), .second, .val (.long (1 : Int64)), .second] [(.long (-9223372036854775808 : Int64)), (.long (1 : Int64))]))
  refine own_st (fun tg_ kg_ => XS.lcmp X4.here hx rfl (hb hby own_d_jdk_17_method_70_code_35) rfl kg_) ?_
  show own_Gl p e below _ (T4.setTop (mkF m 36 #[.val (.ref one), .val (.ref one), .val (.long (1 : Int64)), .second, .val (.long (1 : Int64)), .second] [(.int (lcmpW (1 : Int64) (-9223372036854775808 : Int64)))]))
  refine own_st (fun tg_ kg_ => XS.ifNo X4.here hx rfl (hb hby own_d_jdk_17_method_70_code_36) rfl ((if0 _ _).trans (feq (by decide)).1) kg_) ?_
  show own_Gl p e below _ (T4.setTop (mkF m 39 #[.val (.ref one), .val (.ref one), .val (.long (1 : Int64)), .second, .val (.long (1 : Int64)), .second] []))
  refine own_st (fun tg_ kg_ => XS.lloadN X4.here hx rfl (hb hby own_d_jdk_17_method_70_code_39) rfl kg_) ?_
  show own_Gl p e below _ (T4.setTop (mkF m 40 #[.val (.ref one), .val (.ref one), .val (.long (1 : Int64)), .second, .val (.long (1 : Int64)), .second] [(.long (1 : Int64))]))
  refine own_st (fun tg_ kg_ => XS.lload X4.here hx rfl (hb hby own_d_jdk_17_method_70_code_40) rfl kg_) ?_
  show own_Gl p e below _ (T4.setTop (mkF m 42 #[.val (.ref one), .val (.ref one), .val (.long (1 : Int64)), .second, .val (.long (1 : Int64)), .second] [(.long (1 : Int64)), (.long (1 : Int64))]))
  refine own_st (fun tg_ kg_ => XS.lcmp X4.here hx rfl (hb hby own_d_jdk_17_method_70_code_42) rfl kg_) ?_
  show own_Gl p e below _ (T4.setTop (mkF m 43 #[.val (.ref one), .val (.ref one), .val (.long (1 : Int64)), .second, .val (.long (1 : Int64)), .second] [(.int (lcmpW (1 : Int64) (1 : Int64)))]))
  refine own_st (fun tg_ kg_ => XS.ifYes X4.here hx rfl (pc0 := 43) (pc' := 61) rfl (hb hby own_d_jdk_17_method_70_code_43) rfl ((if0 _ _).trans (teq (by decide)).1) (by decide) (by decide) kg_) ?_
  show own_Gl p e below _ (T4.setTop (mkF m 61 #[.val (.ref one), .val (.ref one), .val (.long (1 : Int64)), .second, .val (.long (1 : Int64)), .second] []))
  refine own_st (fun tg_ kg_ => XS.iconst X4.here hx rfl (hb hby own_d_jdk_17_method_70_code_61) kg_) ?_
  show own_Gl p e below _ (T4.setTop (mkF m 62 #[.val (.ref one), .val (.ref one), .val (.long (1 : Int64)), .second, .val (.long (1 : Int64)), .second] [(.int (0 : Int32))]))
  exact own_retI X4 hx Bd.notSynchronized Bd.returns (hb hby own_d_jdk_17_method_70_code_62) (by decide) (by decide) e4 (⟨rfl, N0, rfl⟩)
theorem own_pd8 : parseMethodDescriptor "(Ljava/math/BigDecimal;)I" = some ⟨[(.object "java/math/BigDecimal")], some .int⟩ := by decide +kernel
theorem own_pn8 : plainName "com/example/ratably/ratably/method/EvenPeriodsWeightsPinLaw" = true := by first | (simp [plainName, overriddenIn]; done) | decide +kernel
theorem own_d_method_3_code_0 : decode method_3_code 0 = .ok (.aload_n 0, 1) := by decide +kernel
theorem own_d_method_3_code_1 : decode method_3_code 1 = .ok (.ifnull 15, 3) := by decide +kernel
theorem own_d_method_3_code_4 : decode method_3_code 4 = .ok (.aload_n 0, 1) := by decide +kernel
theorem own_d_method_3_code_5 : decode method_3_code 5 = .ok (.aload_n 1, 1) := by decide +kernel
theorem own_d_method_3_code_6 : decode method_3_code 6 = .ok (.invokevirtual 38, 3) := by decide +kernel
theorem own_d_method_3_code_9 : decode method_3_code 9 = .ok (.ifCond .ne 7, 3) := by decide +kernel
theorem own_d_method_3_code_12 : decode method_3_code 12 = .ok (.iconst 1, 1) := by decide +kernel
theorem own_d_method_3_code_13 : decode method_3_code 13 = .ok (.goto 4, 3) := by decide +kernel
theorem own_d_method_3_code_17 : decode method_3_code 17 = .ok (.ireturn, 1) := by decide +kernel
theorem own_ef_sam (m : MethodId) (x0 : Addr) (x1 : Addr) : entryFrame m #[(.ref x0), (.ref x1)] 2 = mkF m 0 #[.val (.ref x0), .val (.ref x1)] [] := by first | (simp [entryFrame, mkF, argsToLocals, Value.category]; done) | rfl
def own_Q_sam (Z : State) (one : Addr) (h0 : Heap) (n0 : Nat) (v : Option Value) (h : Heap) (L : List Loc) : Prop := v = some (.int 1) ∧ Fr n0 L ∧ h = h0
set_option maxRecDepth 65536 in
set_option maxHeartbeats 40000000 in
theorem own_rm_sam (l : Launch) (Z : State) (a0 : Array Value) (hw : ∀ d ∈ tables_1, d.before a0 Z = true) (ws : List Jvm.Cond) (one : Addr) (h0 : Heap) (n0 : Nat) (Z0 : n0 ≤ h0.size) (E_1 : Exa Z h0 one "java/math/BigDecimal")(F_c : Fld Z h0 one "java/math/BigDecimal" "intCompact" "J" (.long (1 : Int64)))(F_z : Fld Z h0 one "java/math/BigDecimal" "scale" "I" (.int (0 : Int32))) :
    MetFree l (⟨"com/example/ratably/ratably/method/EvenPeriodsWeightsPinLaw", "same", "(Ljava/math/BigDecimal;Ljava/math/BigDecimal;)Z"⟩ : MethodName) (head1 (Jvm.Cond.code (⟨"com/example/ratably/ratably/method/EvenPeriodsWeightsPinLaw", "same", "(Ljava/math/BigDecimal;Ljava/math/BigDecimal;)Z"⟩ : MethodName) method_3_code 2 (some .boolean) :: ws) ({ frames := 1, cells := 0, slots := 0, locals := 17 } : Room)) (fun aa UU => aa = #[(.ref one), (.ref one)] ∧ Z.Warmed39 UU.vm ∧ UU.heap = h0) (fun _ _ _ _ _ => True) (fun _ UU oo UU' => ∃ vv LL, oo = .returned vv ∧ own_Q_sam Z one h0 n0 vv UU'.heap LL ∧ FrameEnd UU oo UU' LL ({ frames := 1, cells := 0, slots := 0, locals := 17 } : Room).cells ({ frames := 1, cells := 0, slots := 0, locals := 17 } : Room).slots) := by
  refine MetFree.of_bodySF (plainFor_of_name own_pn8) hisR ?_
  intro p e s m args below meth c s₁ Bd hml0 hP hK
  obtain ⟨rfl, hZ, hh⟩ := hP
  have hx := Bd.exec
  have hby := Bd.bytes
  have hml : c.maxLocals = 2 := hml0
  have hown : s.vm.findClass "com/example/ratably/ratably/method/EvenPeriodsWeightsPinLaw" = some m.cls := findClass_of_methodNamed Bd.named
  have hnm := (name_of_methodNamed Bd.named Bd.method).1
  have X0 : Stand p l e ({ frames := 1, cells := 0, slots := 0, locals := 17 } : Room) s m #[(.ref one), (.ref one)] below meth c s₁ [] 0 0 := Stand.of_body Bd
  have e0 : s₁.heap = h0 := by rw [← hh, Bd.state]; rfl
  have N0 := Fr.nil n0
  show own_Gl p e below (own_Post s (own_Q_sam Z one h0 n0) ({ frames := 1, cells := 0, slots := 0, locals := 17 } : Room).cells ({ frames := 1, cells := 0, slots := 0, locals := 17 } : Room).slots) _
  refine own_st (fun tg_ kg_ => castTop (own_ef_sam m one one) kg_) ?_
  show own_Gl p e below _ (s₁.setTop (mkF m 0 #[.val (.ref one), .val (.ref one)] []))
  refine own_st (fun tg_ kg_ => XS.aloadN X0.here hx rfl (hb hby own_d_method_3_code_0) rfl rfl kg_) ?_
  show own_Gl p e below _ (s₁.setTop (mkF m 1 #[.val (.ref one), .val (.ref one)] [(.ref one)]))
  refine own_st (fun tg_ kg_ => XT.nullNo X0.here hx rfl (hb hby own_d_method_3_code_1) rfl rfl nofun kg_) ?_
  show own_Gl p e below _ (s₁.setTop (mkF m 4 #[.val (.ref one), .val (.ref one)] []))
  refine own_st (fun tg_ kg_ => XS.aloadN X0.here hx rfl (hb hby own_d_method_3_code_4) rfl rfl kg_) ?_
  show own_Gl p e below _ (s₁.setTop (mkF m 5 #[.val (.ref one), .val (.ref one)] [(.ref one)]))
  refine own_st (fun tg_ kg_ => XS.aloadN X0.here hx rfl (hb hby own_d_method_3_code_5) rfl rfl kg_) ?_
  show own_Gl p e below _ (s₁.setTop (mkF m 6 #[.val (.ref one), .val (.ref one)] [(.ref one), (.ref one)]))
  obtain ⟨cq1, kq1, q1a, q1b, q1c⟩ := isOf hZ e0 E_1
  obtain ⟨_, _, ⟨T1, L1, k1, n1⟩, -, X1, ⟨Lc1, hQ1, l1, y1, z1⟩, st1⟩ := X0.virtualBack hx (y := (⟨"java/math/BigDecimal", "compareTo", "(Ljava/math/BigDecimal;)I"⟩ : MethodName)) (z := (⟨"java/math/BigDecimal", "compareTo", "(Ljava/math/BigDecimal;)I"⟩ : MethodName)) hown (mvT hZ (hw _ (List.mem_of_getElem? (i := 114) rfl))) (mvT hZ (hw _ (List.mem_of_getElem? (i := 115) rfl))) (notFace_of_selects (args := #[]) (mvT hZ (hw _ (List.mem_of_getElem? (i := 117) rfl)))) (mvT hZ (hw _ (List.mem_of_getElem? (i := 117) rfl))) (mvT hZ (hw _ (List.mem_of_getElem? (i := 116) rfl))) (by decide) (backOf (W := 0) (own_rm_cmp l Z a0 hw [] one h0 n0 Z0 F_c F_z) hZ (hw _ (List.mem_of_getElem? (i := 118) rfl)) (hw _ (List.mem_of_getElem? (i := 63) rfl)) (by decide) (by decide)) q1a q1c (g := (mkF m 6 #[.val (.ref one), .val (.ref one)] [(.ref one), (.ref one)])) rfl (by rw [hml]; rfl) (Steps.refl _) (argsL := [(.ref one)]) (rest := []) (lenOf own_pd8 rfl) rfl (by show 2 * 0 + _ ≤ _; exact Nat.le_of_eq rfl) (hb hby own_d_method_3_code_6) (fun _ _ => ⟨rfl, e0, (by decide : 0 + 0 ≤ _), (by decide : 0 + 0 ≤ _)⟩)
  dsimp only [Pt.U, Pt.locs, Pt.cells, Pt.slots] at X1 l1 y1 z1 st1 hQ1
  subst l1 y1 z1
  obtain ⟨rfl, N1q, e1⟩ := hQ1
  have N1 := Fr.app N0 N1q
  refine own_tr st1 ?_
  show own_Gl p e below _ (T1.setTop (mkF m 9 #[.val (.ref one), .val (.ref one)] [(.int (0 : Int32))]))
  try clear st1
  try clear N1q
  refine own_st (fun tg_ kg_ => XS.ifNo X1.here hx rfl (hb hby own_d_method_3_code_9) rfl ((if0 _ _).trans (teq ((rfl : (0 : Int32) = (0 : Int32)))).2) kg_) ?_
  show own_Gl p e below _ (T1.setTop (mkF m 12 #[.val (.ref one), .val (.ref one)] []))
  refine own_st (fun tg_ kg_ => XS.iconst X1.here hx rfl (hb hby own_d_method_3_code_12) kg_) ?_
  show own_Gl p e below _ (T1.setTop (mkF m 13 #[.val (.ref one), .val (.ref one)] [(.int (1 : Int32))]))
  refine own_st (fun tg_ kg_ => XS.goto X1.here hx rfl (pc0 := 13) (pc' := 17) rfl (hb hby own_d_method_3_code_13) (by decide) (by decide) kg_) ?_
  show own_Gl p e below _ (T1.setTop (mkF m 17 #[.val (.ref one), .val (.ref one)] [(.int (1 : Int32))]))
  exact own_retN X1 hx Bd.notSynchronized (t := .boolean) Bd.returns (by simp) (hb hby own_d_method_3_code_17) (by decide) (by decide) e1 (⟨rfl, N1, rfl⟩)
theorem own_pd9 : parseMethodDescriptor "(Lcom/example/ratably/ratably/calendar/Period;I)V" = some ⟨[(.object "com/example/ratably/ratably/calendar/Period"), .int], none⟩ := by decide +kernel
theorem own_pd10 : parseMethodDescriptor "(Ljava/util/List;)[Ljava/math/BigDecimal;" = some ⟨[(.object "java/util/List")], some (.array (.object "java/math/BigDecimal"))⟩ := by decide +kernel
theorem own_pd11 : parseMethodDescriptor "(Ljava/lang/Object;)Z" = some ⟨[(.object "java/lang/Object")], some .boolean⟩ := by decide +kernel
theorem own_pd12 : parseMethodDescriptor "(Ljava/math/BigDecimal;Ljava/math/BigDecimal;)Z" = some ⟨[(.object "java/math/BigDecimal"), (.object "java/math/BigDecimal")], some .boolean⟩ := by decide +kernel
theorem own_ef_law (m : MethodId) (x0 : Int32) (x1 : Int32) (x2 : Int32) (x3 : Int32) : entryFrame m #[(.int x0), (.int x1), (.int x2), (.int x3)] maxLocals = mkF m 0 #[.val (.int x0), .val (.int x1), .val (.int x2), .val (.int x3), .unset, .unset, .unset, .unset, .unset, .unset] [] := by first | (simp [entryFrame, mkF, argsToLocals, Value.category, maxLocals]; done) | rfl
def own_Q_law (Z : State) (i0 i1 i2 i3 : Int32) (aD one : Addr) (kD : ClassId) (h0 : Heap) (n0 : Nat) (v : Option Value) (h : Heap) (L : List Loc) : Prop := v = some (.int 1) ∧ Fr n0 L
set_option maxRecDepth 65536 in
set_option maxHeartbeats 40000000 in
theorem own_rm_law (l : Launch) (Z : State) (a0 : Array Value) (hw : ∀ d ∈ tables_1, d.before a0 Z = true) (ws : List Jvm.Cond) (i0 i1 i2 i3 : Int32) (aD one : Addr) (kD : ClassId) (h0 : Heap) (n0 : Nat) (Z0 : n0 ≤ h0.size) (S_D : Sta Z h0 "java/util/ArrayList" "DEFAULTCAPACITY_EMPTY_ELEMENTDATA" "[Ljava/lang/Object;" (.ref aD))(V_aD : Arv Z h0 aD kD (.object "java/lang/Object") (0 : Int32) [] .null)(S_1 : Sta Z h0 "java/math/BigDecimal" "ONE" "Ljava/math/BigDecimal;" (.ref one)) (E_1 : Exa Z h0 one "java/math/BigDecimal")(F_c : Fld Z h0 one "java/math/BigDecimal" "intCompact" "J" (.long (1 : Int64)))(F_z : Fld Z h0 one "java/math/BigDecimal" "scale" "I" (.int (0 : Int32))) :
    MetFree l x (head1 (Jvm.Cond.code x code maxLocals ret :: ws) room_1) (fun aa UU => aa = #[(.int i0), (.int i1), (.int i2), (.int i3)] ∧ Z.Warmed39 UU.vm ∧ UU.heap = h0) (fun _ _ _ _ _ => True) (fun _ UU oo UU' => ∃ vv LL, oo = .returned vv ∧ own_Q_law Z i0 i1 i2 i3 aD one kD h0 n0 vv UU'.heap LL ∧ FrameEnd UU oo UU' LL room_1.cells room_1.slots) := by
  refine MetFree.of_bodySF (plainFor_of_name own_pn8) hisR ?_
  intro p e s m args below meth c s₁ Bd hml0 hP hK
  obtain ⟨rfl, hZ, hh⟩ := hP
  have hx := Bd.exec
  have hby := Bd.bytes
  have hml : c.maxLocals = 10 := hml0
  have hown : s.vm.findClass "com/example/ratably/ratably/method/EvenPeriodsWeightsPinLaw" = some m.cls := findClass_of_methodNamed Bd.named
  have hnm := (name_of_methodNamed Bd.named Bd.method).1
  have X0 : Stand p l e room_1 s m #[(.int i0), (.int i1), (.int i2), (.int i3)] below meth c s₁ [] 0 0 := Stand.of_body Bd
  have e0 : s₁.heap = h0 := by rw [← hh, Bd.state]; rfl
  have N0 := Fr.nil n0
  show own_Gl p e below (own_Post s (own_Q_law Z i0 i1 i2 i3 aD one kD h0 n0) room_1.cells room_1.slots) _
  refine own_st (fun tg_ kg_ => castTop (own_ef_law m i0 i1 i2 i3) kg_) ?_
  show own_Gl p e below _ (s₁.setTop (mkF m 0 #[.val (.int i0), .val (.int i1), .val (.int i2), .val (.int i3), .unset, .unset, .unset, .unset, .unset, .unset] []))
  refine own_st (fun tg_ kg_ => XS.iloadN X0.here hx rfl (hb hby at_0) rfl kg_) ?_
  show own_Gl p e below _ (s₁.setTop (mkF m 1 #[.val (.int i0), .val (.int i1), .val (.int i2), .val (.int i3), .unset, .unset, .unset, .unset, .unset, .unset] [(.int i0)]))
  refine own_st (fun tg_ kg_ => XS.iconst X0.here hx rfl (hb hby at_1) kg_) ?_
  show own_Gl p e below _ (s₁.setTop (mkF m 2 #[.val (.int i0), .val (.int i1), .val (.int i2), .val (.int i3), .unset, .unset, .unset, .unset, .unset, .unset] [(.int (3 : Int32)), (.int i0)]))
  refine own_st (fun tg_ kg_ => XS.iand X0.here hx rfl (hb hby at_2) rfl kg_) ?_
  show own_Gl p e below _ (s₁.setTop (mkF m 3 #[.val (.int i0), .val (.int i1), .val (.int i2), .val (.int i3), .unset, .unset, .unset, .unset, .unset, .unset] [(.int (i0 &&& (3 : Int32)))]))
  refine own_st (fun tg_ kg_ => XS.istore X0.here hx rfl (hb hby at_3) rfl (l' := #[.val (.int i0), .val (.int i1), .val (.int i2), .val (.int i3), .val (.int (i0 &&& (3 : Int32))), .unset, .unset, .unset, .unset, .unset]) rfl kg_) ?_
  show own_Gl p e below _ (s₁.setTop (mkF m 5 #[.val (.int i0), .val (.int i1), .val (.int i2), .val (.int i3), .val (.int (i0 &&& (3 : Int32))), .unset, .unset, .unset, .unset, .unset] []))
  rcases own_and3 i0 with hn3 | hn3 | hn3 | hn3
  ·
    rw [hn3]
    show own_Gl p e below _ (s₁.setTop (mkF m 5 #[.val (.int i0), .val (.int i1), .val (.int i2), .val (.int i3), .val (.int (0 : Int32)), .unset, .unset, .unset, .unset, .unset] []))
    obtain ⟨T1, h1, X1, e1, E1, A1, D1, -, st1⟩ := newO X0 hx hZ hown (hw _ (List.mem_of_getElem? (i := 0) rfl)) (hw _ (List.mem_of_getElem? (i := 1) rfl)) (hw _ (List.mem_of_getElem? (i := 2) rfl)) e0 (g := (mkF m 5 #[.val (.int i0), .val (.int i1), .val (.int i2), .val (.int i3), .val (.int (0 : Int32)), .unset, .unset, .unset, .unset, .unset] [])) rfl (hb hby at_5) (by decide) (by decide)
    obtain ⟨s0, g1⟩ : ∃ z, z = h0.size := ⟨_, rfl⟩
    have ne_aD_s0 : aD ≠ s0 := Nat.ne_of_lt (Nat.lt_of_lt_of_le V_aD.lt (Nat.le_of_eq g1.symm))
    have ne_one_s0 : one ≠ s0 := Nat.ne_of_lt (Nat.lt_of_lt_of_le F_c.lt (Nat.le_of_eq g1.symm))
    have sz_s0 : h0.size ≤ s0 := Nat.le_of_eq g1.symm
    have g_s0 : n0 ≤ s0 := Nat.le_trans Z0 sz_s0
    rw [← g1] at A1 D1 st1
    have E_s0 := A1
    have F_period_s0 : Fld Z h1 s0 "com/example/ratably/ratably/calendar/Slice" "period" "Lcom/example/ratably/ratably/calendar/Period;" .null := D1 (Or.inr (hw _ (List.mem_of_getElem? (i := 10) rfl))) (ty := (.object "com/example/ratably/ratably/calendar/Period")) (by decide)
    have F_days_s0 : Fld Z h1 s0 "com/example/ratably/ratably/calendar/Slice" "days" "I" (.int (0 : Int32)) := D1 (Or.inr (hw _ (List.mem_of_getElem? (i := 12) rfl))) (ty := .int) (by decide)
    refine own_st st1 ?_
    try clear st1
    show own_Gl p e below _ (T1.setTop (mkF m 8 #[.val (.int i0), .val (.int i1), .val (.int i2), .val (.int i3), .val (.int (0 : Int32)), .unset, .unset, .unset, .unset, .unset] [(.ref s0)]))
    refine own_st (fun tg_ kg_ => XS.dup X1.here hx rfl (hb hby at_8) rfl rfl kg_) ?_
    show own_Gl p e below _ (T1.setTop (mkF m 9 #[.val (.int i0), .val (.int i1), .val (.int i2), .val (.int i3), .val (.int (0 : Int32)), .unset, .unset, .unset, .unset, .unset] [(.ref s0), (.ref s0)]))
    refine own_st (fun tg_ kg_ => XS.aconstNull X1.here hx rfl (hb hby at_9) kg_) ?_
    show own_Gl p e below _ (T1.setTop (mkF m 10 #[.val (.int i0), .val (.int i1), .val (.int i2), .val (.int i3), .val (.int (0 : Int32)), .unset, .unset, .unset, .unset, .unset] [.null, (.ref s0), (.ref s0)]))
    refine own_st (fun tg_ kg_ => XS.iloadN X1.here hx rfl (hb hby at_10) rfl kg_) ?_
    show own_Gl p e below _ (T1.setTop (mkF m 11 #[.val (.int i0), .val (.int i1), .val (.int i2), .val (.int i3), .val (.int (0 : Int32)), .unset, .unset, .unset, .unset, .unset] [(.int i1), .null, (.ref s0), (.ref s0)]))
    obtain ⟨_, _, ⟨T3, L3, k3, n3⟩, -, X3, ⟨Lc3, hQ3, l3, y3, z3⟩, st3⟩ := X1.specialBack hx (y := (⟨"com/example/ratably/ratably/calendar/Slice", "<init>", "(Lcom/example/ratably/ratably/calendar/Period;I)V"⟩ : MethodName)) rfl hown (mvT hZ (hw _ (List.mem_of_getElem? (i := 3) rfl))) (mvT hZ (hw _ (List.mem_of_getElem? (i := 4) rfl))) (mvT hZ (hw _ (List.mem_of_getElem? (i := 5) rfl))) (by decide) (backOf (W := 1) (own_rm_sl l Z a0 hw [] s0 i1 h1 n0 (Nat.le_trans Z0 E1.1) E_s0 F_period_s0 F_days_s0 g_s0) hZ (hw _ (List.mem_of_getElem? (i := 5) rfl)) (hw _ (List.mem_of_getElem? (i := 2) rfl)) (by decide) (by decide)) (g := (mkF m 11 #[.val (.int i0), .val (.int i1), .val (.int i2), .val (.int i3), .val (.int (0 : Int32)), .unset, .unset, .unset, .unset, .unset] [(.int i1), .null, (.ref s0), (.ref s0)])) rfl (by rw [hml]; rfl) (Steps.refl _) (a := s0) (argsL := [.null, (.int i1)]) (rest := [(.ref s0)]) (lenOf own_pd9 rfl) rfl (by show 2 * 0 + _ ≤ _; exact Nat.le_of_eq rfl) (hb hby at_11) (fun _ _ => ⟨rfl, e1, (by decide : 1 + 0 ≤ _), (by decide : 2 + 0 ≤ _)⟩)
    dsimp only [Pt.U, Pt.locs, Pt.cells, Pt.slots] at X3 l3 y3 z3 st3 hQ3
    subst l3 y3 z3
    obtain ⟨rfl, N3q, Kc3⟩ := hQ3
    have N3 := Fr.app N0 N3q
    refine own_tr st3 ?_
    replace E_s0 := E_s0.keep Kc3
    have K4 := own_ext_keep E1 Kc3 (allS sz_s0 all0)
    try clear Kc3
    try clear E1
    show own_Gl p e below _ (T3.setTop (mkF m 14 #[.val (.int i0), .val (.int i1), .val (.int i2), .val (.int i3), .val (.int (0 : Int32)), .unset, .unset, .unset, .unset, .unset] [(.ref s0)]))
    try clear st3
    try clear N3q
    try clear e1
    try clear X1
    try clear T1
    refine own_st (fun tg_ kg_ => XS.astore X3.here hx rfl (hb hby at_14) rfl rfl (l' := #[.val (.int i0), .val (.int i1), .val (.int i2), .val (.int i3), .val (.int (0 : Int32)), .val (.ref s0), .unset, .unset, .unset, .unset]) rfl kg_) ?_
    show own_Gl p e below _ (T3.setTop (mkF m 16 #[.val (.int i0), .val (.int i1), .val (.int i2), .val (.int i3), .val (.int (0 : Int32)), .val (.ref s0), .unset, .unset, .unset, .unset] []))
    obtain ⟨T5, h5, X5, e5, E5, A5, D5, -, st5⟩ := newO X3 hx hZ hown (hw _ (List.mem_of_getElem? (i := 0) rfl)) (hw _ (List.mem_of_getElem? (i := 1) rfl)) (hw _ (List.mem_of_getElem? (i := 2) rfl)) rfl (g := (mkF m 16 #[.val (.int i0), .val (.int i1), .val (.int i2), .val (.int i3), .val (.int (0 : Int32)), .val (.ref s0), .unset, .unset, .unset, .unset] [])) rfl (hb hby at_16) (by decide) (by decide)
    obtain ⟨s1, g5⟩ : ∃ z, z = T3.heap.size := ⟨_, rfl⟩
    have ne_aD_s1 : aD ≠ s1 := Nat.ne_of_lt (Nat.lt_of_lt_of_le (V_aD.ext K4).lt (Nat.le_of_eq g5.symm))
    have ne_one_s1 : one ≠ s1 := Nat.ne_of_lt (Nat.lt_of_lt_of_le (F_c.ext K4).lt (Nat.le_of_eq g5.symm))
    have ne_s0_s1 : s0 ≠ s1 := Nat.ne_of_lt (Nat.lt_of_lt_of_le E_s0.lt (Nat.le_of_eq g5.symm))
    have sz_s1 : h0.size ≤ s1 := (Nat.le_trans K4.1 (Nat.le_of_eq g5.symm))
    have g_s1 : n0 ≤ s1 := Nat.le_trans Z0 sz_s1
    rw [← g5] at A5 D5 st5
    replace E_s0 := E_s0.ext E5
    have K6 := own_ext_tr K4 E5
    try clear E5
    try clear K4
    have E_s1 := A5
    have F_period_s1 : Fld Z h5 s1 "com/example/ratably/ratably/calendar/Slice" "period" "Lcom/example/ratably/ratably/calendar/Period;" .null := D5 (Or.inr (hw _ (List.mem_of_getElem? (i := 10) rfl))) (ty := (.object "com/example/ratably/ratably/calendar/Period")) (by decide)
    have F_days_s1 : Fld Z h5 s1 "com/example/ratably/ratably/calendar/Slice" "days" "I" (.int (0 : Int32)) := D5 (Or.inr (hw _ (List.mem_of_getElem? (i := 12) rfl))) (ty := .int) (by decide)
    refine own_st st5 ?_
    try clear st5
    try clear X3
    try clear T3
    show own_Gl p e below _ (T5.setTop (mkF m 19 #[.val (.int i0), .val (.int i1), .val (.int i2), .val (.int i3), .val (.int (0 : Int32)), .val (.ref s0), .unset, .unset, .unset, .unset] [(.ref s1)]))
    refine own_st (fun tg_ kg_ => XS.dup X5.here hx rfl (hb hby at_19) rfl rfl kg_) ?_
    show own_Gl p e below _ (T5.setTop (mkF m 20 #[.val (.int i0), .val (.int i1), .val (.int i2), .val (.int i3), .val (.int (0 : Int32)), .val (.ref s0), .unset, .unset, .unset, .unset] [(.ref s1), (.ref s1)]))
    refine own_st (fun tg_ kg_ => XS.aconstNull X5.here hx rfl (hb hby at_20) kg_) ?_
    show own_Gl p e below _ (T5.setTop (mkF m 21 #[.val (.int i0), .val (.int i1), .val (.int i2), .val (.int i3), .val (.int (0 : Int32)), .val (.ref s0), .unset, .unset, .unset, .unset] [.null, (.ref s1), (.ref s1)]))
    refine own_st (fun tg_ kg_ => XS.iloadN X5.here hx rfl (hb hby at_21) rfl kg_) ?_
    show own_Gl p e below _ (T5.setTop (mkF m 22 #[.val (.int i0), .val (.int i1), .val (.int i2), .val (.int i3), .val (.int (0 : Int32)), .val (.ref s0), .unset, .unset, .unset, .unset] [(.int i2), .null, (.ref s1), (.ref s1)]))
    obtain ⟨_, _, ⟨T7, L7, k7, n7⟩, -, X7, ⟨Lc7, hQ7, l7, y7, z7⟩, st7⟩ := X5.specialBack hx (y := (⟨"com/example/ratably/ratably/calendar/Slice", "<init>", "(Lcom/example/ratably/ratably/calendar/Period;I)V"⟩ : MethodName)) rfl hown (mvT hZ (hw _ (List.mem_of_getElem? (i := 3) rfl))) (mvT hZ (hw _ (List.mem_of_getElem? (i := 4) rfl))) (mvT hZ (hw _ (List.mem_of_getElem? (i := 5) rfl))) (by decide) (backOf (W := 1) (own_rm_sl l Z a0 hw [] s1 i2 h5 n0 (Nat.le_trans Z0 K6.1) E_s1 F_period_s1 F_days_s1 g_s1) hZ (hw _ (List.mem_of_getElem? (i := 5) rfl)) (hw _ (List.mem_of_getElem? (i := 2) rfl)) (by decide) (by decide)) (g := (mkF m 22 #[.val (.int i0), .val (.int i1), .val (.int i2), .val (.int i3), .val (.int (0 : Int32)), .val (.ref s0), .unset, .unset, .unset, .unset] [(.int i2), .null, (.ref s1), (.ref s1)])) rfl (by rw [hml]; rfl) (Steps.refl _) (a := s1) (argsL := [.null, (.int i2)]) (rest := [(.ref s1)]) (lenOf own_pd9 rfl) rfl (by show 2 * 0 + _ ≤ _; exact Nat.le_of_eq rfl) (hb hby at_22) (fun _ _ => ⟨rfl, e5, (by decide : 2 + 0 ≤ _), (by decide : 4 + 0 ≤ _)⟩)
    dsimp only [Pt.U, Pt.locs, Pt.cells, Pt.slots] at X7 l7 y7 z7 st7 hQ7
    subst l7 y7 z7
    obtain ⟨rfl, N7q, Kc7⟩ := hQ7
    have N7 := Fr.app N3 N7q
    refine own_tr st7 ?_
    replace E_s0 := E_s0.keep Kc7
    replace E_s1 := E_s1.keep Kc7
    have K8 := own_ext_keep K6 Kc7 (allS sz_s1 all0)
    try clear Kc7
    try clear K6
    show own_Gl p e below _ (T7.setTop (mkF m 25 #[.val (.int i0), .val (.int i1), .val (.int i2), .val (.int i3), .val (.int (0 : Int32)), .val (.ref s0), .unset, .unset, .unset, .unset] [(.ref s1)]))
    try clear st7
    try clear N7q
    try clear N3
    try clear e5
    try clear X5
    try clear T5
    refine own_st (fun tg_ kg_ => XS.astore X7.here hx rfl (hb hby at_25) rfl rfl (l' := #[.val (.int i0), .val (.int i1), .val (.int i2), .val (.int i3), .val (.int (0 : Int32)), .val (.ref s0), .val (.ref s1), .unset, .unset, .unset]) rfl kg_) ?_
    show own_Gl p e below _ (T7.setTop (mkF m 27 #[.val (.int i0), .val (.int i1), .val (.int i2), .val (.int i3), .val (.int (0 : Int32)), .val (.ref s0), .val (.ref s1), .unset, .unset, .unset] []))
    obtain ⟨T9, h9, X9, e9, E9, A9, D9, -, st9⟩ := newO X7 hx hZ hown (hw _ (List.mem_of_getElem? (i := 0) rfl)) (hw _ (List.mem_of_getElem? (i := 1) rfl)) (hw _ (List.mem_of_getElem? (i := 2) rfl)) rfl (g := (mkF m 27 #[.val (.int i0), .val (.int i1), .val (.int i2), .val (.int i3), .val (.int (0 : Int32)), .val (.ref s0), .val (.ref s1), .unset, .unset, .unset] [])) rfl (hb hby at_27) (by decide) (by decide)
    obtain ⟨s2, g9⟩ : ∃ z, z = T7.heap.size := ⟨_, rfl⟩
    have ne_aD_s2 : aD ≠ s2 := Nat.ne_of_lt (Nat.lt_of_lt_of_le (V_aD.ext K8).lt (Nat.le_of_eq g9.symm))
    have ne_one_s2 : one ≠ s2 := Nat.ne_of_lt (Nat.lt_of_lt_of_le (F_c.ext K8).lt (Nat.le_of_eq g9.symm))
    have ne_s0_s2 : s0 ≠ s2 := Nat.ne_of_lt (Nat.lt_of_lt_of_le E_s0.lt (Nat.le_of_eq g9.symm))
    have ne_s1_s2 : s1 ≠ s2 := Nat.ne_of_lt (Nat.lt_of_lt_of_le E_s1.lt (Nat.le_of_eq g9.symm))
    have sz_s2 : h0.size ≤ s2 := (Nat.le_trans K8.1 (Nat.le_of_eq g9.symm))
    have g_s2 : n0 ≤ s2 := Nat.le_trans Z0 sz_s2
    rw [← g9] at A9 D9 st9
    replace E_s0 := E_s0.ext E9
    replace E_s1 := E_s1.ext E9
    have K10 := own_ext_tr K8 E9
    try clear E9
    try clear K8
    have E_s2 := A9
    have F_period_s2 : Fld Z h9 s2 "com/example/ratably/ratably/calendar/Slice" "period" "Lcom/example/ratably/ratably/calendar/Period;" .null := D9 (Or.inr (hw _ (List.mem_of_getElem? (i := 10) rfl))) (ty := (.object "com/example/ratably/ratably/calendar/Period")) (by decide)
    have F_days_s2 : Fld Z h9 s2 "com/example/ratably/ratably/calendar/Slice" "days" "I" (.int (0 : Int32)) := D9 (Or.inr (hw _ (List.mem_of_getElem? (i := 12) rfl))) (ty := .int) (by decide)
    refine own_st st9 ?_
    try clear st9
    try clear X7
    try clear T7
    show own_Gl p e below _ (T9.setTop (mkF m 30 #[.val (.int i0), .val (.int i1), .val (.int i2), .val (.int i3), .val (.int (0 : Int32)), .val (.ref s0), .val (.ref s1), .unset, .unset, .unset] [(.ref s2)]))
    refine own_st (fun tg_ kg_ => XS.dup X9.here hx rfl (hb hby at_30) rfl rfl kg_) ?_
    show own_Gl p e below _ (T9.setTop (mkF m 31 #[.val (.int i0), .val (.int i1), .val (.int i2), .val (.int i3), .val (.int (0 : Int32)), .val (.ref s0), .val (.ref s1), .unset, .unset, .unset] [(.ref s2), (.ref s2)]))
    refine own_st (fun tg_ kg_ => XS.aconstNull X9.here hx rfl (hb hby at_31) kg_) ?_
    show own_Gl p e below _ (T9.setTop (mkF m 32 #[.val (.int i0), .val (.int i1), .val (.int i2), .val (.int i3), .val (.int (0 : Int32)), .val (.ref s0), .val (.ref s1), .unset, .unset, .unset] [.null, (.ref s2), (.ref s2)]))
    refine own_st (fun tg_ kg_ => XS.iloadN X9.here hx rfl (hb hby at_32) rfl kg_) ?_
    show own_Gl p e below _ (T9.setTop (mkF m 33 #[.val (.int i0), .val (.int i1), .val (.int i2), .val (.int i3), .val (.int (0 : Int32)), .val (.ref s0), .val (.ref s1), .unset, .unset, .unset] [(.int i3), .null, (.ref s2), (.ref s2)]))
    obtain ⟨_, _, ⟨T11, L11, k11, n11⟩, -, X11, ⟨Lc11, hQ11, l11, y11, z11⟩, st11⟩ := X9.specialBack hx (y := (⟨"com/example/ratably/ratably/calendar/Slice", "<init>", "(Lcom/example/ratably/ratably/calendar/Period;I)V"⟩ : MethodName)) rfl hown (mvT hZ (hw _ (List.mem_of_getElem? (i := 3) rfl))) (mvT hZ (hw _ (List.mem_of_getElem? (i := 4) rfl))) (mvT hZ (hw _ (List.mem_of_getElem? (i := 5) rfl))) (by decide) (backOf (W := 1) (own_rm_sl l Z a0 hw [] s2 i3 h9 n0 (Nat.le_trans Z0 K10.1) E_s2 F_period_s2 F_days_s2 g_s2) hZ (hw _ (List.mem_of_getElem? (i := 5) rfl)) (hw _ (List.mem_of_getElem? (i := 2) rfl)) (by decide) (by decide)) (g := (mkF m 33 #[.val (.int i0), .val (.int i1), .val (.int i2), .val (.int i3), .val (.int (0 : Int32)), .val (.ref s0), .val (.ref s1), .unset, .unset, .unset] [(.int i3), .null, (.ref s2), (.ref s2)])) rfl (by rw [hml]; rfl) (Steps.refl _) (a := s2) (argsL := [.null, (.int i3)]) (rest := [(.ref s2)]) (lenOf own_pd9 rfl) rfl (by show 2 * 0 + _ ≤ _; exact Nat.le_of_eq rfl) (hb hby at_33) (fun _ _ => ⟨rfl, e9, (by decide : 3 + 0 ≤ _), (by decide : 6 + 0 ≤ _)⟩)
    dsimp only [Pt.U, Pt.locs, Pt.cells, Pt.slots] at X11 l11 y11 z11 st11 hQ11
    subst l11 y11 z11
    obtain ⟨rfl, N11q, Kc11⟩ := hQ11
    have N11 := Fr.app N7 N11q
    refine own_tr st11 ?_
    replace E_s0 := E_s0.keep Kc11
    replace E_s1 := E_s1.keep Kc11
    replace E_s2 := E_s2.keep Kc11
    have K12 := own_ext_keep K10 Kc11 (allS sz_s2 all0)
    try clear Kc11
    try clear K10
    show own_Gl p e below _ (T11.setTop (mkF m 36 #[.val (.int i0), .val (.int i1), .val (.int i2), .val (.int i3), .val (.int (0 : Int32)), .val (.ref s0), .val (.ref s1), .unset, .unset, .unset] [(.ref s2)]))
    try clear st11
    try clear N11q
    try clear N7
    try clear e9
    try clear X9
    try clear T9
    refine own_st (fun tg_ kg_ => XS.astore X11.here hx rfl (hb hby at_36) rfl rfl (l' := #[.val (.int i0), .val (.int i1), .val (.int i2), .val (.int i3), .val (.int (0 : Int32)), .val (.ref s0), .val (.ref s1), .val (.ref s2), .unset, .unset]) rfl kg_) ?_
    show own_Gl p e below _ (T11.setTop (mkF m 38 #[.val (.int i0), .val (.int i1), .val (.int i2), .val (.int i3), .val (.int (0 : Int32)), .val (.ref s0), .val (.ref s1), .val (.ref s2), .unset, .unset] []))
    obtain ⟨T13, h13, X13, e13, E13, A13, D13, -, st13⟩ := newO X11 hx hZ hown (hw _ (List.mem_of_getElem? (i := 13) rfl)) (hw _ (List.mem_of_getElem? (i := 14) rfl)) (hw _ (List.mem_of_getElem? (i := 15) rfl)) rfl (g := (mkF m 38 #[.val (.int i0), .val (.int i1), .val (.int i2), .val (.int i3), .val (.int (0 : Int32)), .val (.ref s0), .val (.ref s1), .val (.ref s2), .unset, .unset] [])) rfl (hb hby at_38) (by decide) (by decide)
    obtain ⟨a, g13⟩ : ∃ z, z = T11.heap.size := ⟨_, rfl⟩
    have ne_aD_a : aD ≠ a := Nat.ne_of_lt (Nat.lt_of_lt_of_le (V_aD.ext K12).lt (Nat.le_of_eq g13.symm))
    have ne_one_a : one ≠ a := Nat.ne_of_lt (Nat.lt_of_lt_of_le (F_c.ext K12).lt (Nat.le_of_eq g13.symm))
    have ne_s0_a : s0 ≠ a := Nat.ne_of_lt (Nat.lt_of_lt_of_le E_s0.lt (Nat.le_of_eq g13.symm))
    have ne_s1_a : s1 ≠ a := Nat.ne_of_lt (Nat.lt_of_lt_of_le E_s1.lt (Nat.le_of_eq g13.symm))
    have ne_s2_a : s2 ≠ a := Nat.ne_of_lt (Nat.lt_of_lt_of_le E_s2.lt (Nat.le_of_eq g13.symm))
    have sz_a : h0.size ≤ a := (Nat.le_trans K12.1 (Nat.le_of_eq g13.symm))
    have g_a : n0 ≤ a := Nat.le_trans Z0 sz_a
    rw [← g13] at A13 D13 st13
    replace E_s0 := E_s0.ext E13
    replace E_s1 := E_s1.ext E13
    replace E_s2 := E_s2.ext E13
    have K14 := own_ext_tr K12 E13
    try clear E13
    try clear K12
    have E_a := A13
    have F_modCount_a : Fld Z h13 a "java/util/AbstractList" "modCount" "I" (.int (0 : Int32)) := D13 (Or.inl (hw _ (List.mem_of_getElem? (i := 33) rfl))) (ty := .int) (by decide)
    have F_elementData_a : Fld Z h13 a "java/util/ArrayList" "elementData" "[Ljava/lang/Object;" .null := D13 (Or.inl (hw _ (List.mem_of_getElem? (i := 36) rfl))) (ty := (.array (.object "java/lang/Object"))) (by decide)
    have F_size_a : Fld Z h13 a "java/util/ArrayList" "size" "I" (.int (0 : Int32)) := D13 (Or.inl (hw _ (List.mem_of_getElem? (i := 59) rfl))) (ty := .int) (by decide)
    refine own_st st13 ?_
    try clear st13
    try clear X11
    try clear T11
    show own_Gl p e below _ (T13.setTop (mkF m 41 #[.val (.int i0), .val (.int i1), .val (.int i2), .val (.int i3), .val (.int (0 : Int32)), .val (.ref s0), .val (.ref s1), .val (.ref s2), .unset, .unset] [(.ref a)]))
    refine own_st (fun tg_ kg_ => XS.dup X13.here hx rfl (hb hby at_41) rfl rfl kg_) ?_
    show own_Gl p e below _ (T13.setTop (mkF m 42 #[.val (.int i0), .val (.int i1), .val (.int i2), .val (.int i3), .val (.int (0 : Int32)), .val (.ref s0), .val (.ref s1), .val (.ref s2), .unset, .unset] [(.ref a), (.ref a)]))
    obtain ⟨_, _, ⟨T15, L15, k15, n15⟩, -, X15, ⟨Lc15, hQ15, l15, y15, z15⟩, st15⟩ := X13.specialBack hx (y := (⟨"java/util/ArrayList", "<init>", "()V"⟩ : MethodName)) rfl hown (mvT hZ (hw _ (List.mem_of_getElem? (i := 16) rfl))) (mvT hZ (hw _ (List.mem_of_getElem? (i := 17) rfl))) (mvT hZ (hw _ (List.mem_of_getElem? (i := 18) rfl))) (by decide) (backOf (W := 1) (own_rm_ali l Z a0 hw [] a aD h13 n0 (Nat.le_trans Z0 K14.1) E_a F_modCount_a F_elementData_a F_size_a g_a (S_D.ext K14)) hZ (hw _ (List.mem_of_getElem? (i := 18) rfl)) (hw _ (List.mem_of_getElem? (i := 15) rfl)) (by decide) (by decide)) (g := (mkF m 42 #[.val (.int i0), .val (.int i1), .val (.int i2), .val (.int i3), .val (.int (0 : Int32)), .val (.ref s0), .val (.ref s1), .val (.ref s2), .unset, .unset] [(.ref a), (.ref a)])) rfl (by rw [hml]; rfl) (Steps.refl _) (a := a) (argsL := []) (rest := [(.ref a)]) (lenOf own_pd0 rfl) rfl (by show 2 * 0 + _ ≤ _; exact Nat.le_of_eq rfl) (hb hby at_42) (fun _ _ => ⟨rfl, e13, (by decide : 4 + 0 ≤ _), (by decide : 9 + 0 ≤ _)⟩)
    dsimp only [Pt.U, Pt.locs, Pt.cells, Pt.slots] at X15 l15 y15 z15 st15 hQ15
    subst l15 y15 z15
    obtain ⟨rfl, N15q, Kc15, F_m, F_e, F_s⟩ := hQ15
    have N15 := Fr.app N11 N15q
    refine own_tr st15 ?_
    replace E_s0 := E_s0.keep Kc15
    replace E_s1 := E_s1.keep Kc15
    replace E_s2 := E_s2.keep Kc15
    replace E_a := E_a.keep Kc15
    have K16 := own_ext_keep K14 Kc15 (allS sz_a all0)
    try clear Kc15
    try clear K14
    show own_Gl p e below _ (T15.setTop (mkF m 45 #[.val (.int i0), .val (.int i1), .val (.int i2), .val (.int i3), .val (.int (0 : Int32)), .val (.ref s0), .val (.ref s1), .val (.ref s2), .unset, .unset] [(.ref a)]))
    try clear st15
    try clear N15q
    try clear N11
    try clear e13
    try clear X13
    try clear T13
    refine own_st (fun tg_ kg_ => XS.astore X15.here hx rfl (hb hby at_45) rfl rfl (l' := #[.val (.int i0), .val (.int i1), .val (.int i2), .val (.int i3), .val (.int (0 : Int32)), .val (.ref s0), .val (.ref s1), .val (.ref s2), .val (.ref a), .unset]) rfl kg_) ?_
    show own_Gl p e below _ (T15.setTop (mkF m 47 #[.val (.int i0), .val (.int i1), .val (.int i2), .val (.int i3), .val (.int (0 : Int32)), .val (.ref s0), .val (.ref s1), .val (.ref s2), .val (.ref a), .unset] []))
    refine own_st (fun tg_ kg_ => XS.iload X15.here hx rfl (hb hby at_47) rfl kg_) ?_
    show own_Gl p e below _ (T15.setTop (mkF m 49 #[.val (.int i0), .val (.int i1), .val (.int i2), .val (.int i3), .val (.int (0 : Int32)), .val (.ref s0), .val (.ref s1), .val (.ref s2), .val (.ref a), .unset] [(.int (0 : Int32))]))
    refine own_st (fun tg_ kg_ => XS.iconst X15.here hx rfl (hb hby at_49) kg_) ?_
    show own_Gl p e below _ (T15.setTop (mkF m 50 #[.val (.int i0), .val (.int i1), .val (.int i2), .val (.int i3), .val (.int (0 : Int32)), .val (.ref s0), .val (.ref s1), .val (.ref s2), .val (.ref a), .unset] [(.int (1 : Int32)), (.int (0 : Int32))]))
    refine own_st (fun tg_ kg_ => XS.icmpYes X15.here hx rfl (pc0 := 50) (pc' := 61) rfl (hb hby at_50) rfl (tlt ((by decide : (0 : Int32) < (1 : Int32)))).1 (by decide) (by decide) kg_) ?_
    show own_Gl p e below _ (T15.setTop (mkF m 61 #[.val (.int i0), .val (.int i1), .val (.int i2), .val (.int i3), .val (.int (0 : Int32)), .val (.ref s0), .val (.ref s1), .val (.ref s2), .val (.ref a), .unset] []))
    refine own_st (fun tg_ kg_ => XS.iload X15.here hx rfl (hb hby at_61) rfl kg_) ?_
    show own_Gl p e below _ (T15.setTop (mkF m 63 #[.val (.int i0), .val (.int i1), .val (.int i2), .val (.int i3), .val (.int (0 : Int32)), .val (.ref s0), .val (.ref s1), .val (.ref s2), .val (.ref a), .unset] [(.int (0 : Int32))]))
    refine own_st (fun tg_ kg_ => XS.iconst X15.here hx rfl (hb hby at_63) kg_) ?_
    show own_Gl p e below _ (T15.setTop (mkF m 64 #[.val (.int i0), .val (.int i1), .val (.int i2), .val (.int i3), .val (.int (0 : Int32)), .val (.ref s0), .val (.ref s1), .val (.ref s2), .val (.ref a), .unset] [(.int (2 : Int32)), (.int (0 : Int32))]))
    refine own_st (fun tg_ kg_ => XS.icmpYes X15.here hx rfl (pc0 := 64) (pc' := 75) rfl (hb hby at_64) rfl (tlt ((by decide : (0 : Int32) < (2 : Int32)))).1 (by decide) (by decide) kg_) ?_
    show own_Gl p e below _ (T15.setTop (mkF m 75 #[.val (.int i0), .val (.int i1), .val (.int i2), .val (.int i3), .val (.int (0 : Int32)), .val (.ref s0), .val (.ref s1), .val (.ref s2), .val (.ref a), .unset] []))
    refine own_st (fun tg_ kg_ => XS.iload X15.here hx rfl (hb hby at_75) rfl kg_) ?_
    show own_Gl p e below _ (T15.setTop (mkF m 77 #[.val (.int i0), .val (.int i1), .val (.int i2), .val (.int i3), .val (.int (0 : Int32)), .val (.ref s0), .val (.ref s1), .val (.ref s2), .val (.ref a), .unset] [(.int (0 : Int32))]))
    refine own_st (fun tg_ kg_ => XS.iconst X15.here hx rfl (hb hby at_77) kg_) ?_
    show own_Gl p e below _ (T15.setTop (mkF m 78 #[.val (.int i0), .val (.int i1), .val (.int i2), .val (.int i3), .val (.int (0 : Int32)), .val (.ref s0), .val (.ref s1), .val (.ref s2), .val (.ref a), .unset] [(.int (3 : Int32)), (.int (0 : Int32))]))
    refine own_st (fun tg_ kg_ => XS.icmpYes X15.here hx rfl (pc0 := 78) (pc' := 89) rfl (hb hby at_78) rfl (tlt ((by decide : (0 : Int32) < (3 : Int32)))).1 (by decide) (by decide) kg_) ?_
    show own_Gl p e below _ (T15.setTop (mkF m 89 #[.val (.int i0), .val (.int i1), .val (.int i2), .val (.int i3), .val (.int (0 : Int32)), .val (.ref s0), .val (.ref s1), .val (.ref s2), .val (.ref a), .unset] []))
    obtain ⟨T17, h17, X17, e17, E17, A17, D17, -, st17⟩ := newO X15 hx hZ hown (hw _ (List.mem_of_getElem? (i := 37) rfl)) (hw _ (List.mem_of_getElem? (i := 38) rfl)) (hw _ (List.mem_of_getElem? (i := 39) rfl)) rfl (g := (mkF m 89 #[.val (.int i0), .val (.int i1), .val (.int i2), .val (.int i3), .val (.int (0 : Int32)), .val (.ref s0), .val (.ref s1), .val (.ref s2), .val (.ref a), .unset] [])) rfl (hb hby at_89) (by decide) (by decide)
    obtain ⟨pt, g17⟩ : ∃ z, z = T15.heap.size := ⟨_, rfl⟩
    have ne_aD_pt : aD ≠ pt := Nat.ne_of_lt (Nat.lt_of_lt_of_le (V_aD.ext K16).lt (Nat.le_of_eq g17.symm))
    have ne_one_pt : one ≠ pt := Nat.ne_of_lt (Nat.lt_of_lt_of_le (F_c.ext K16).lt (Nat.le_of_eq g17.symm))
    have ne_s0_pt : s0 ≠ pt := Nat.ne_of_lt (Nat.lt_of_lt_of_le E_s0.lt (Nat.le_of_eq g17.symm))
    have ne_s1_pt : s1 ≠ pt := Nat.ne_of_lt (Nat.lt_of_lt_of_le E_s1.lt (Nat.le_of_eq g17.symm))
    have ne_s2_pt : s2 ≠ pt := Nat.ne_of_lt (Nat.lt_of_lt_of_le E_s2.lt (Nat.le_of_eq g17.symm))
    have ne_a_pt : a ≠ pt := Nat.ne_of_lt (Nat.lt_of_lt_of_le E_a.lt (Nat.le_of_eq g17.symm))
    have sz_pt : h0.size ≤ pt := (Nat.le_trans K16.1 (Nat.le_of_eq g17.symm))
    have g_pt : n0 ≤ pt := Nat.le_trans Z0 sz_pt
    rw [← g17] at A17 D17 st17
    replace E_s0 := E_s0.ext E17
    replace E_s1 := E_s1.ext E17
    replace E_s2 := E_s2.ext E17
    replace E_a := E_a.ext E17
    replace F_m := F_m.ext E17
    replace F_e := F_e.ext E17
    replace F_s := F_s.ext E17
    have K18 := own_ext_tr K16 E17
    try clear E17
    try clear K16
    have E_pt := A17
    refine own_st st17 ?_
    try clear st17
    try clear X15
    try clear T15
    show own_Gl p e below _ (T17.setTop (mkF m 92 #[.val (.int i0), .val (.int i1), .val (.int i2), .val (.int i3), .val (.int (0 : Int32)), .val (.ref s0), .val (.ref s1), .val (.ref s2), .val (.ref a), .unset] [(.ref pt)]))
    refine own_st (fun tg_ kg_ => XS.dup X17.here hx rfl (hb hby at_92) rfl rfl kg_) ?_
    show own_Gl p e below _ (T17.setTop (mkF m 93 #[.val (.int i0), .val (.int i1), .val (.int i2), .val (.int i3), .val (.int (0 : Int32)), .val (.ref s0), .val (.ref s1), .val (.ref s2), .val (.ref a), .unset] [(.ref pt), (.ref pt)]))
    obtain ⟨_, _, ⟨T19, L19, k19, n19⟩, -, X19, ⟨Lc19, hQ19, l19, y19, z19⟩, st19⟩ := X17.specialBack hx (y := (⟨"com/example/ratably/ratably/method/EvenPeriods", "<init>", "()V"⟩ : MethodName)) rfl hown (mvT hZ (hw _ (List.mem_of_getElem? (i := 40) rfl))) (mvT hZ (hw _ (List.mem_of_getElem? (i := 41) rfl))) (mvT hZ (hw _ (List.mem_of_getElem? (i := 42) rfl))) (by decide) (backOf (W := 1) (own_rm_epi l Z a0 hw [] pt h17 n0 (Nat.le_trans Z0 K18.1)) hZ (hw _ (List.mem_of_getElem? (i := 42) rfl)) (hw _ (List.mem_of_getElem? (i := 39) rfl)) (by decide) (by decide)) (g := (mkF m 93 #[.val (.int i0), .val (.int i1), .val (.int i2), .val (.int i3), .val (.int (0 : Int32)), .val (.ref s0), .val (.ref s1), .val (.ref s2), .val (.ref a), .unset] [(.ref pt), (.ref pt)])) rfl (by rw [hml]; rfl) (Steps.refl _) (a := pt) (argsL := []) (rest := [(.ref pt)]) (lenOf own_pd0 rfl) rfl (by show 2 * 0 + _ ≤ _; exact Nat.le_of_eq rfl) (hb hby at_93) (fun _ _ => ⟨rfl, e17, (by decide : 5 + 0 ≤ _), (by decide : 9 + 0 ≤ _)⟩)
    dsimp only [Pt.U, Pt.locs, Pt.cells, Pt.slots] at X19 l19 y19 z19 st19 hQ19
    subst l19 y19 z19
    obtain ⟨rfl, N19q, e19⟩ := hQ19
    have N19 := Fr.app N15 N19q
    refine own_tr st19 ?_
    show own_Gl p e below _ (T19.setTop (mkF m 96 #[.val (.int i0), .val (.int i1), .val (.int i2), .val (.int i3), .val (.int (0 : Int32)), .val (.ref s0), .val (.ref s1), .val (.ref s2), .val (.ref a), .unset] [(.ref pt)]))
    try clear st19
    try clear N19q
    try clear N15
    try clear e17
    try clear X17
    try clear T17
    refine own_st (fun tg_ kg_ => XS.aload X19.here hx rfl (hb hby at_96) rfl rfl kg_) ?_
    show own_Gl p e below _ (T19.setTop (mkF m 98 #[.val (.int i0), .val (.int i1), .val (.int i2), .val (.int i3), .val (.int (0 : Int32)), .val (.ref s0), .val (.ref s1), .val (.ref s2), .val (.ref a), .unset] [(.ref a), (.ref pt)]))
    obtain ⟨cq20, kq20, q20a, q20b, q20c⟩ := isOf hZ e19 E_pt
    obtain ⟨_, _, ⟨T20, L20, k20, n20⟩, -, X20, ⟨Lc20, hQ20, l20, y20, z20⟩, st20⟩ := X19.virtualBack hx (y := (⟨"com/example/ratably/ratably/method/EvenPeriods", "weights", "(Ljava/util/List;)[Ljava/math/BigDecimal;"⟩ : MethodName)) (z := (⟨"com/example/ratably/ratably/method/EvenPeriods", "weights", "(Ljava/util/List;)[Ljava/math/BigDecimal;"⟩ : MethodName)) hown (mvT hZ (hw _ (List.mem_of_getElem? (i := 44) rfl))) (mvT hZ (hw _ (List.mem_of_getElem? (i := 45) rfl))) (notFace_of_selects (args := #[]) (mvT hZ (hw _ (List.mem_of_getElem? (i := 47) rfl)))) (mvT hZ (hw _ (List.mem_of_getElem? (i := 47) rfl))) (mvT hZ (hw _ (List.mem_of_getElem? (i := 46) rfl))) (by decide) (backOf (W := 0) (own_rm_wei0 l Z a0 hw [] pt a one h17 n0 (Nat.le_trans Z0 K18.1) E_a F_s (S_1.ext K18) (E_1.ext K18)) hZ (hw _ (List.mem_of_getElem? (i := 48) rfl)) (hw _ (List.mem_of_getElem? (i := 39) rfl)) (by decide) (by decide)) q20a q20c (g := (mkF m 98 #[.val (.int i0), .val (.int i1), .val (.int i2), .val (.int i3), .val (.int (0 : Int32)), .val (.ref s0), .val (.ref s1), .val (.ref s2), .val (.ref a), .unset] [(.ref a), (.ref pt)])) rfl (by rw [hml]; rfl) (Steps.refl _) (argsL := [(.ref a)]) (rest := []) (lenOf own_pd10 rfl) rfl (by show 2 * 0 + _ ≤ _; exact Nat.le_of_eq rfl) (hb hby at_98) (fun _ _ => ⟨rfl, e19, (by decide : 5 + 1 ≤ _), (by decide : 9 + 0 ≤ _)⟩)
    dsimp only [Pt.U, Pt.locs, Pt.cells, Pt.slots] at X20 l20 y20 z20 st20 hQ20
    subst l20 y20 z20
    obtain ⟨⟨w, kw, rfl, szc20, V_w⟩, N20q, Kc20⟩ := hQ20
    have N20 := Fr.app N19 N20q
    refine own_tr st20 ?_
    have ne_aD_w : aD ≠ w := Nat.ne_of_lt (Nat.lt_of_lt_of_le (V_aD.ext K18).lt szc20)
    have ne_one_w : one ≠ w := Nat.ne_of_lt (Nat.lt_of_lt_of_le (F_c.ext K18).lt szc20)
    have ne_s0_w : s0 ≠ w := Nat.ne_of_lt (Nat.lt_of_lt_of_le E_s0.lt szc20)
    have ne_s1_w : s1 ≠ w := Nat.ne_of_lt (Nat.lt_of_lt_of_le E_s1.lt szc20)
    have ne_s2_w : s2 ≠ w := Nat.ne_of_lt (Nat.lt_of_lt_of_le E_s2.lt szc20)
    have ne_a_w : a ≠ w := Nat.ne_of_lt (Nat.lt_of_lt_of_le E_a.lt szc20)
    have ne_pt_w : pt ≠ w := Nat.ne_of_lt (Nat.lt_of_lt_of_le E_pt.lt szc20)
    have sz_w : h0.size ≤ w := Nat.le_trans K18.1 szc20
    have g_w : n0 ≤ w := Nat.le_trans Z0 sz_w
    replace E_s0 := E_s0.ext Kc20
    replace E_s1 := E_s1.ext Kc20
    replace E_s2 := E_s2.ext Kc20
    replace E_a := E_a.ext Kc20
    replace F_m := F_m.ext Kc20
    replace F_e := F_e.ext Kc20
    replace F_s := F_s.ext Kc20
    replace E_pt := E_pt.ext Kc20
    have K21 := own_ext_tr K18 Kc20
    try clear Kc20
    try clear K18
    show own_Gl p e below _ (T20.setTop (mkF m 101 #[.val (.int i0), .val (.int i1), .val (.int i2), .val (.int i3), .val (.int (0 : Int32)), .val (.ref s0), .val (.ref s1), .val (.ref s2), .val (.ref a), .unset] [(.ref w)]))
    try clear st20
    try clear N20q
    try clear N19
    try clear e19
    try clear X19
    try clear T19
    refine own_st (fun tg_ kg_ => XS.astore X20.here hx rfl (hb hby at_101) rfl rfl (l' := #[.val (.int i0), .val (.int i1), .val (.int i2), .val (.int i3), .val (.int (0 : Int32)), .val (.ref s0), .val (.ref s1), .val (.ref s2), .val (.ref a), .val (.ref w)]) rfl kg_) ?_
    show own_Gl p e below _ (T20.setTop (mkF m 103 #[.val (.int i0), .val (.int i1), .val (.int i2), .val (.int i3), .val (.int (0 : Int32)), .val (.ref s0), .val (.ref s1), .val (.ref s2), .val (.ref a), .val (.ref w)] []))
    refine own_st (fun tg_ kg_ => XS.aload X20.here hx rfl (hb hby at_103) rfl rfl kg_) ?_
    show own_Gl p e below _ (T20.setTop (mkF m 105 #[.val (.int i0), .val (.int i1), .val (.int i2), .val (.int i3), .val (.int (0 : Int32)), .val (.ref s0), .val (.ref s1), .val (.ref s2), .val (.ref a), .val (.ref w)] [(.ref w)]))
    refine own_st (fun tg_ kg_ => XT.nullNo X20.here hx rfl (hb hby at_105) rfl rfl nofun kg_) ?_
    show own_Gl p e below _ (T20.setTop (mkF m 108 #[.val (.int i0), .val (.int i1), .val (.int i2), .val (.int i3), .val (.int (0 : Int32)), .val (.ref s0), .val (.ref s1), .val (.ref s2), .val (.ref a), .val (.ref w)] []))
    refine own_st (fun tg_ kg_ => XS.aload X20.here hx rfl (hb hby at_108) rfl rfl kg_) ?_
    show own_Gl p e below _ (T20.setTop (mkF m 110 #[.val (.int i0), .val (.int i1), .val (.int i2), .val (.int i3), .val (.int (0 : Int32)), .val (.ref s0), .val (.ref s1), .val (.ref s2), .val (.ref a), .val (.ref w)] [(.ref w)]))
    obtain ⟨cl22, Ar22, qa22, Sa22, Na22, Ha22, Ga22⟩ := id V_w
    refine own_st (fun tg_ kg_ => X20.arraylength hx Ar22.1 (State.isArrayOf_alike hZ.alike Ar22.2.1) (g := (mkF m 110 #[.val (.int i0), .val (.int i1), .val (.int i2), .val (.int i3), .val (.int (0 : Int32)), .val (.ref s0), .val (.ref s1), .val (.ref s2), .val (.ref a), .val (.ref w)] [(.ref w)])) rfl rfl (hb hby at_110) _ kg_) ?_
    rw [len_of Sa22 Na22]
    show own_Gl p e below _ (T20.setTop (mkF m 111 #[.val (.int i0), .val (.int i1), .val (.int i2), .val (.int i3), .val (.int (0 : Int32)), .val (.ref s0), .val (.ref s1), .val (.ref s2), .val (.ref a), .val (.ref w)] [(.int (0 : Int32))]))
    refine own_st (fun tg_ kg_ => XS.iload X20.here hx rfl (hb hby at_111) rfl kg_) ?_
    show own_Gl p e below _ (T20.setTop (mkF m 113 #[.val (.int i0), .val (.int i1), .val (.int i2), .val (.int i3), .val (.int (0 : Int32)), .val (.ref s0), .val (.ref s1), .val (.ref s2), .val (.ref a), .val (.ref w)] [(.int (0 : Int32)), (.int (0 : Int32))]))
    refine own_st (fun tg_ kg_ => XS.icmpYes X20.here hx rfl (pc0 := 113) (pc' := 118) rfl (hb hby at_113) rfl (teq ((rfl : (0 : Int32) = (0 : Int32)))).1 (by decide) (by decide) kg_) ?_
    show own_Gl p e below _ (T20.setTop (mkF m 118 #[.val (.int i0), .val (.int i1), .val (.int i2), .val (.int i3), .val (.int (0 : Int32)), .val (.ref s0), .val (.ref s1), .val (.ref s2), .val (.ref a), .val (.ref w)] []))
    refine own_st (fun tg_ kg_ => XS.iload X20.here hx rfl (hb hby at_118) rfl kg_) ?_
    show own_Gl p e below _ (T20.setTop (mkF m 120 #[.val (.int i0), .val (.int i1), .val (.int i2), .val (.int i3), .val (.int (0 : Int32)), .val (.ref s0), .val (.ref s1), .val (.ref s2), .val (.ref a), .val (.ref w)] [(.int (0 : Int32))]))
    refine own_st (fun tg_ kg_ => XS.ifNo X20.here hx rfl (hb hby at_120) rfl ((if0 _ _).trans (teq ((rfl : (0 : Int32) = (0 : Int32)))).2) kg_) ?_
    show own_Gl p e below _ (T20.setTop (mkF m 123 #[.val (.int i0), .val (.int i1), .val (.int i2), .val (.int i3), .val (.int (0 : Int32)), .val (.ref s0), .val (.ref s1), .val (.ref s2), .val (.ref a), .val (.ref w)] []))
    refine own_st (fun tg_ kg_ => XS.iconst X20.here hx rfl (hb hby at_123) kg_) ?_
    show own_Gl p e below _ (T20.setTop (mkF m 124 #[.val (.int i0), .val (.int i1), .val (.int i2), .val (.int i3), .val (.int (0 : Int32)), .val (.ref s0), .val (.ref s1), .val (.ref s2), .val (.ref a), .val (.ref w)] [(.int (1 : Int32))]))
    exact own_retN X20 hx Bd.notSynchronized (t := .boolean) Bd.returns (by simp) (hb hby at_124) (by decide) (by decide) rfl (⟨rfl, N20⟩)
  ·
    rw [hn3]
    show own_Gl p e below _ (s₁.setTop (mkF m 5 #[.val (.int i0), .val (.int i1), .val (.int i2), .val (.int i3), .val (.int (1 : Int32)), .unset, .unset, .unset, .unset, .unset] []))
    obtain ⟨T23, h23, X23, e23, E23, A23, D23, -, st23⟩ := newO X0 hx hZ hown (hw _ (List.mem_of_getElem? (i := 0) rfl)) (hw _ (List.mem_of_getElem? (i := 1) rfl)) (hw _ (List.mem_of_getElem? (i := 2) rfl)) e0 (g := (mkF m 5 #[.val (.int i0), .val (.int i1), .val (.int i2), .val (.int i3), .val (.int (1 : Int32)), .unset, .unset, .unset, .unset, .unset] [])) rfl (hb hby at_5) (by decide) (by decide)
    obtain ⟨s0, g23⟩ : ∃ z, z = h0.size := ⟨_, rfl⟩
    have ne_aD_s0 : aD ≠ s0 := Nat.ne_of_lt (Nat.lt_of_lt_of_le V_aD.lt (Nat.le_of_eq g23.symm))
    have ne_one_s0 : one ≠ s0 := Nat.ne_of_lt (Nat.lt_of_lt_of_le F_c.lt (Nat.le_of_eq g23.symm))
    have sz_s0 : h0.size ≤ s0 := Nat.le_of_eq g23.symm
    have g_s0 : n0 ≤ s0 := Nat.le_trans Z0 sz_s0
    rw [← g23] at A23 D23 st23
    have E_s0 := A23
    have F_period_s0 : Fld Z h23 s0 "com/example/ratably/ratably/calendar/Slice" "period" "Lcom/example/ratably/ratably/calendar/Period;" .null := D23 (Or.inr (hw _ (List.mem_of_getElem? (i := 10) rfl))) (ty := (.object "com/example/ratably/ratably/calendar/Period")) (by decide)
    have F_days_s0 : Fld Z h23 s0 "com/example/ratably/ratably/calendar/Slice" "days" "I" (.int (0 : Int32)) := D23 (Or.inr (hw _ (List.mem_of_getElem? (i := 12) rfl))) (ty := .int) (by decide)
    refine own_st st23 ?_
    try clear st23
    show own_Gl p e below _ (T23.setTop (mkF m 8 #[.val (.int i0), .val (.int i1), .val (.int i2), .val (.int i3), .val (.int (1 : Int32)), .unset, .unset, .unset, .unset, .unset] [(.ref s0)]))
    refine own_st (fun tg_ kg_ => XS.dup X23.here hx rfl (hb hby at_8) rfl rfl kg_) ?_
    show own_Gl p e below _ (T23.setTop (mkF m 9 #[.val (.int i0), .val (.int i1), .val (.int i2), .val (.int i3), .val (.int (1 : Int32)), .unset, .unset, .unset, .unset, .unset] [(.ref s0), (.ref s0)]))
    refine own_st (fun tg_ kg_ => XS.aconstNull X23.here hx rfl (hb hby at_9) kg_) ?_
    show own_Gl p e below _ (T23.setTop (mkF m 10 #[.val (.int i0), .val (.int i1), .val (.int i2), .val (.int i3), .val (.int (1 : Int32)), .unset, .unset, .unset, .unset, .unset] [.null, (.ref s0), (.ref s0)]))
    refine own_st (fun tg_ kg_ => XS.iloadN X23.here hx rfl (hb hby at_10) rfl kg_) ?_
    show own_Gl p e below _ (T23.setTop (mkF m 11 #[.val (.int i0), .val (.int i1), .val (.int i2), .val (.int i3), .val (.int (1 : Int32)), .unset, .unset, .unset, .unset, .unset] [(.int i1), .null, (.ref s0), (.ref s0)]))
    obtain ⟨_, _, ⟨T25, L25, k25, n25⟩, -, X25, ⟨Lc25, hQ25, l25, y25, z25⟩, st25⟩ := X23.specialBack hx (y := (⟨"com/example/ratably/ratably/calendar/Slice", "<init>", "(Lcom/example/ratably/ratably/calendar/Period;I)V"⟩ : MethodName)) rfl hown (mvT hZ (hw _ (List.mem_of_getElem? (i := 3) rfl))) (mvT hZ (hw _ (List.mem_of_getElem? (i := 4) rfl))) (mvT hZ (hw _ (List.mem_of_getElem? (i := 5) rfl))) (by decide) (backOf (W := 1) (own_rm_sl l Z a0 hw [] s0 i1 h23 n0 (Nat.le_trans Z0 E23.1) E_s0 F_period_s0 F_days_s0 g_s0) hZ (hw _ (List.mem_of_getElem? (i := 5) rfl)) (hw _ (List.mem_of_getElem? (i := 2) rfl)) (by decide) (by decide)) (g := (mkF m 11 #[.val (.int i0), .val (.int i1), .val (.int i2), .val (.int i3), .val (.int (1 : Int32)), .unset, .unset, .unset, .unset, .unset] [(.int i1), .null, (.ref s0), (.ref s0)])) rfl (by rw [hml]; rfl) (Steps.refl _) (a := s0) (argsL := [.null, (.int i1)]) (rest := [(.ref s0)]) (lenOf own_pd9 rfl) rfl (by show 2 * 0 + _ ≤ _; exact Nat.le_of_eq rfl) (hb hby at_11) (fun _ _ => ⟨rfl, e23, (by decide : 1 + 0 ≤ _), (by decide : 2 + 0 ≤ _)⟩)
    dsimp only [Pt.U, Pt.locs, Pt.cells, Pt.slots] at X25 l25 y25 z25 st25 hQ25
    subst l25 y25 z25
    obtain ⟨rfl, N25q, Kc25⟩ := hQ25
    have N25 := Fr.app N0 N25q
    refine own_tr st25 ?_
    replace E_s0 := E_s0.keep Kc25
    have K26 := own_ext_keep E23 Kc25 (allS sz_s0 all0)
    try clear Kc25
    try clear E23
    show own_Gl p e below _ (T25.setTop (mkF m 14 #[.val (.int i0), .val (.int i1), .val (.int i2), .val (.int i3), .val (.int (1 : Int32)), .unset, .unset, .unset, .unset, .unset] [(.ref s0)]))
    try clear st25
    try clear N25q
    try clear e23
    try clear X23
    try clear T23
    refine own_st (fun tg_ kg_ => XS.astore X25.here hx rfl (hb hby at_14) rfl rfl (l' := #[.val (.int i0), .val (.int i1), .val (.int i2), .val (.int i3), .val (.int (1 : Int32)), .val (.ref s0), .unset, .unset, .unset, .unset]) rfl kg_) ?_
    show own_Gl p e below _ (T25.setTop (mkF m 16 #[.val (.int i0), .val (.int i1), .val (.int i2), .val (.int i3), .val (.int (1 : Int32)), .val (.ref s0), .unset, .unset, .unset, .unset] []))
    obtain ⟨T27, h27, X27, e27, E27, A27, D27, -, st27⟩ := newO X25 hx hZ hown (hw _ (List.mem_of_getElem? (i := 0) rfl)) (hw _ (List.mem_of_getElem? (i := 1) rfl)) (hw _ (List.mem_of_getElem? (i := 2) rfl)) rfl (g := (mkF m 16 #[.val (.int i0), .val (.int i1), .val (.int i2), .val (.int i3), .val (.int (1 : Int32)), .val (.ref s0), .unset, .unset, .unset, .unset] [])) rfl (hb hby at_16) (by decide) (by decide)
    obtain ⟨s1, g27⟩ : ∃ z, z = T25.heap.size := ⟨_, rfl⟩
    have ne_aD_s1 : aD ≠ s1 := Nat.ne_of_lt (Nat.lt_of_lt_of_le (V_aD.ext K26).lt (Nat.le_of_eq g27.symm))
    have ne_one_s1 : one ≠ s1 := Nat.ne_of_lt (Nat.lt_of_lt_of_le (F_c.ext K26).lt (Nat.le_of_eq g27.symm))
    have ne_s0_s1 : s0 ≠ s1 := Nat.ne_of_lt (Nat.lt_of_lt_of_le E_s0.lt (Nat.le_of_eq g27.symm))
    have sz_s1 : h0.size ≤ s1 := (Nat.le_trans K26.1 (Nat.le_of_eq g27.symm))
    have g_s1 : n0 ≤ s1 := Nat.le_trans Z0 sz_s1
    rw [← g27] at A27 D27 st27
    replace E_s0 := E_s0.ext E27
    have K28 := own_ext_tr K26 E27
    try clear E27
    try clear K26
    have E_s1 := A27
    have F_period_s1 : Fld Z h27 s1 "com/example/ratably/ratably/calendar/Slice" "period" "Lcom/example/ratably/ratably/calendar/Period;" .null := D27 (Or.inr (hw _ (List.mem_of_getElem? (i := 10) rfl))) (ty := (.object "com/example/ratably/ratably/calendar/Period")) (by decide)
    have F_days_s1 : Fld Z h27 s1 "com/example/ratably/ratably/calendar/Slice" "days" "I" (.int (0 : Int32)) := D27 (Or.inr (hw _ (List.mem_of_getElem? (i := 12) rfl))) (ty := .int) (by decide)
    refine own_st st27 ?_
    try clear st27
    try clear X25
    try clear T25
    show own_Gl p e below _ (T27.setTop (mkF m 19 #[.val (.int i0), .val (.int i1), .val (.int i2), .val (.int i3), .val (.int (1 : Int32)), .val (.ref s0), .unset, .unset, .unset, .unset] [(.ref s1)]))
    refine own_st (fun tg_ kg_ => XS.dup X27.here hx rfl (hb hby at_19) rfl rfl kg_) ?_
    show own_Gl p e below _ (T27.setTop (mkF m 20 #[.val (.int i0), .val (.int i1), .val (.int i2), .val (.int i3), .val (.int (1 : Int32)), .val (.ref s0), .unset, .unset, .unset, .unset] [(.ref s1), (.ref s1)]))
    refine own_st (fun tg_ kg_ => XS.aconstNull X27.here hx rfl (hb hby at_20) kg_) ?_
    show own_Gl p e below _ (T27.setTop (mkF m 21 #[.val (.int i0), .val (.int i1), .val (.int i2), .val (.int i3), .val (.int (1 : Int32)), .val (.ref s0), .unset, .unset, .unset, .unset] [.null, (.ref s1), (.ref s1)]))
    refine own_st (fun tg_ kg_ => XS.iloadN X27.here hx rfl (hb hby at_21) rfl kg_) ?_
    show own_Gl p e below _ (T27.setTop (mkF m 22 #[.val (.int i0), .val (.int i1), .val (.int i2), .val (.int i3), .val (.int (1 : Int32)), .val (.ref s0), .unset, .unset, .unset, .unset] [(.int i2), .null, (.ref s1), (.ref s1)]))
    obtain ⟨_, _, ⟨T29, L29, k29, n29⟩, -, X29, ⟨Lc29, hQ29, l29, y29, z29⟩, st29⟩ := X27.specialBack hx (y := (⟨"com/example/ratably/ratably/calendar/Slice", "<init>", "(Lcom/example/ratably/ratably/calendar/Period;I)V"⟩ : MethodName)) rfl hown (mvT hZ (hw _ (List.mem_of_getElem? (i := 3) rfl))) (mvT hZ (hw _ (List.mem_of_getElem? (i := 4) rfl))) (mvT hZ (hw _ (List.mem_of_getElem? (i := 5) rfl))) (by decide) (backOf (W := 1) (own_rm_sl l Z a0 hw [] s1 i2 h27 n0 (Nat.le_trans Z0 K28.1) E_s1 F_period_s1 F_days_s1 g_s1) hZ (hw _ (List.mem_of_getElem? (i := 5) rfl)) (hw _ (List.mem_of_getElem? (i := 2) rfl)) (by decide) (by decide)) (g := (mkF m 22 #[.val (.int i0), .val (.int i1), .val (.int i2), .val (.int i3), .val (.int (1 : Int32)), .val (.ref s0), .unset, .unset, .unset, .unset] [(.int i2), .null, (.ref s1), (.ref s1)])) rfl (by rw [hml]; rfl) (Steps.refl _) (a := s1) (argsL := [.null, (.int i2)]) (rest := [(.ref s1)]) (lenOf own_pd9 rfl) rfl (by show 2 * 0 + _ ≤ _; exact Nat.le_of_eq rfl) (hb hby at_22) (fun _ _ => ⟨rfl, e27, (by decide : 2 + 0 ≤ _), (by decide : 4 + 0 ≤ _)⟩)
    dsimp only [Pt.U, Pt.locs, Pt.cells, Pt.slots] at X29 l29 y29 z29 st29 hQ29
    subst l29 y29 z29
    obtain ⟨rfl, N29q, Kc29⟩ := hQ29
    have N29 := Fr.app N25 N29q
    refine own_tr st29 ?_
    replace E_s0 := E_s0.keep Kc29
    replace E_s1 := E_s1.keep Kc29
    have K30 := own_ext_keep K28 Kc29 (allS sz_s1 all0)
    try clear Kc29
    try clear K28
    show own_Gl p e below _ (T29.setTop (mkF m 25 #[.val (.int i0), .val (.int i1), .val (.int i2), .val (.int i3), .val (.int (1 : Int32)), .val (.ref s0), .unset, .unset, .unset, .unset] [(.ref s1)]))
    try clear st29
    try clear N29q
    try clear N25
    try clear e27
    try clear X27
    try clear T27
    refine own_st (fun tg_ kg_ => XS.astore X29.here hx rfl (hb hby at_25) rfl rfl (l' := #[.val (.int i0), .val (.int i1), .val (.int i2), .val (.int i3), .val (.int (1 : Int32)), .val (.ref s0), .val (.ref s1), .unset, .unset, .unset]) rfl kg_) ?_
    show own_Gl p e below _ (T29.setTop (mkF m 27 #[.val (.int i0), .val (.int i1), .val (.int i2), .val (.int i3), .val (.int (1 : Int32)), .val (.ref s0), .val (.ref s1), .unset, .unset, .unset] []))
    obtain ⟨T31, h31, X31, e31, E31, A31, D31, -, st31⟩ := newO X29 hx hZ hown (hw _ (List.mem_of_getElem? (i := 0) rfl)) (hw _ (List.mem_of_getElem? (i := 1) rfl)) (hw _ (List.mem_of_getElem? (i := 2) rfl)) rfl (g := (mkF m 27 #[.val (.int i0), .val (.int i1), .val (.int i2), .val (.int i3), .val (.int (1 : Int32)), .val (.ref s0), .val (.ref s1), .unset, .unset, .unset] [])) rfl (hb hby at_27) (by decide) (by decide)
    obtain ⟨s2, g31⟩ : ∃ z, z = T29.heap.size := ⟨_, rfl⟩
    have ne_aD_s2 : aD ≠ s2 := Nat.ne_of_lt (Nat.lt_of_lt_of_le (V_aD.ext K30).lt (Nat.le_of_eq g31.symm))
    have ne_one_s2 : one ≠ s2 := Nat.ne_of_lt (Nat.lt_of_lt_of_le (F_c.ext K30).lt (Nat.le_of_eq g31.symm))
    have ne_s0_s2 : s0 ≠ s2 := Nat.ne_of_lt (Nat.lt_of_lt_of_le E_s0.lt (Nat.le_of_eq g31.symm))
    have ne_s1_s2 : s1 ≠ s2 := Nat.ne_of_lt (Nat.lt_of_lt_of_le E_s1.lt (Nat.le_of_eq g31.symm))
    have sz_s2 : h0.size ≤ s2 := (Nat.le_trans K30.1 (Nat.le_of_eq g31.symm))
    have g_s2 : n0 ≤ s2 := Nat.le_trans Z0 sz_s2
    rw [← g31] at A31 D31 st31
    replace E_s0 := E_s0.ext E31
    replace E_s1 := E_s1.ext E31
    have K32 := own_ext_tr K30 E31
    try clear E31
    try clear K30
    have E_s2 := A31
    have F_period_s2 : Fld Z h31 s2 "com/example/ratably/ratably/calendar/Slice" "period" "Lcom/example/ratably/ratably/calendar/Period;" .null := D31 (Or.inr (hw _ (List.mem_of_getElem? (i := 10) rfl))) (ty := (.object "com/example/ratably/ratably/calendar/Period")) (by decide)
    have F_days_s2 : Fld Z h31 s2 "com/example/ratably/ratably/calendar/Slice" "days" "I" (.int (0 : Int32)) := D31 (Or.inr (hw _ (List.mem_of_getElem? (i := 12) rfl))) (ty := .int) (by decide)
    refine own_st st31 ?_
    try clear st31
    try clear X29
    try clear T29
    show own_Gl p e below _ (T31.setTop (mkF m 30 #[.val (.int i0), .val (.int i1), .val (.int i2), .val (.int i3), .val (.int (1 : Int32)), .val (.ref s0), .val (.ref s1), .unset, .unset, .unset] [(.ref s2)]))
    refine own_st (fun tg_ kg_ => XS.dup X31.here hx rfl (hb hby at_30) rfl rfl kg_) ?_
    show own_Gl p e below _ (T31.setTop (mkF m 31 #[.val (.int i0), .val (.int i1), .val (.int i2), .val (.int i3), .val (.int (1 : Int32)), .val (.ref s0), .val (.ref s1), .unset, .unset, .unset] [(.ref s2), (.ref s2)]))
    refine own_st (fun tg_ kg_ => XS.aconstNull X31.here hx rfl (hb hby at_31) kg_) ?_
    show own_Gl p e below _ (T31.setTop (mkF m 32 #[.val (.int i0), .val (.int i1), .val (.int i2), .val (.int i3), .val (.int (1 : Int32)), .val (.ref s0), .val (.ref s1), .unset, .unset, .unset] [.null, (.ref s2), (.ref s2)]))
    refine own_st (fun tg_ kg_ => XS.iloadN X31.here hx rfl (hb hby at_32) rfl kg_) ?_
    show own_Gl p e below _ (T31.setTop (mkF m 33 #[.val (.int i0), .val (.int i1), .val (.int i2), .val (.int i3), .val (.int (1 : Int32)), .val (.ref s0), .val (.ref s1), .unset, .unset, .unset] [(.int i3), .null, (.ref s2), (.ref s2)]))
    obtain ⟨_, _, ⟨T33, L33, k33, n33⟩, -, X33, ⟨Lc33, hQ33, l33, y33, z33⟩, st33⟩ := X31.specialBack hx (y := (⟨"com/example/ratably/ratably/calendar/Slice", "<init>", "(Lcom/example/ratably/ratably/calendar/Period;I)V"⟩ : MethodName)) rfl hown (mvT hZ (hw _ (List.mem_of_getElem? (i := 3) rfl))) (mvT hZ (hw _ (List.mem_of_getElem? (i := 4) rfl))) (mvT hZ (hw _ (List.mem_of_getElem? (i := 5) rfl))) (by decide) (backOf (W := 1) (own_rm_sl l Z a0 hw [] s2 i3 h31 n0 (Nat.le_trans Z0 K32.1) E_s2 F_period_s2 F_days_s2 g_s2) hZ (hw _ (List.mem_of_getElem? (i := 5) rfl)) (hw _ (List.mem_of_getElem? (i := 2) rfl)) (by decide) (by decide)) (g := (mkF m 33 #[.val (.int i0), .val (.int i1), .val (.int i2), .val (.int i3), .val (.int (1 : Int32)), .val (.ref s0), .val (.ref s1), .unset, .unset, .unset] [(.int i3), .null, (.ref s2), (.ref s2)])) rfl (by rw [hml]; rfl) (Steps.refl _) (a := s2) (argsL := [.null, (.int i3)]) (rest := [(.ref s2)]) (lenOf own_pd9 rfl) rfl (by show 2 * 0 + _ ≤ _; exact Nat.le_of_eq rfl) (hb hby at_33) (fun _ _ => ⟨rfl, e31, (by decide : 3 + 0 ≤ _), (by decide : 6 + 0 ≤ _)⟩)
    dsimp only [Pt.U, Pt.locs, Pt.cells, Pt.slots] at X33 l33 y33 z33 st33 hQ33
    subst l33 y33 z33
    obtain ⟨rfl, N33q, Kc33⟩ := hQ33
    have N33 := Fr.app N29 N33q
    refine own_tr st33 ?_
    replace E_s0 := E_s0.keep Kc33
    replace E_s1 := E_s1.keep Kc33
    replace E_s2 := E_s2.keep Kc33
    have K34 := own_ext_keep K32 Kc33 (allS sz_s2 all0)
    try clear Kc33
    try clear K32
    show own_Gl p e below _ (T33.setTop (mkF m 36 #[.val (.int i0), .val (.int i1), .val (.int i2), .val (.int i3), .val (.int (1 : Int32)), .val (.ref s0), .val (.ref s1), .unset, .unset, .unset] [(.ref s2)]))
    try clear st33
    try clear N33q
    try clear N29
    try clear e31
    try clear X31
    try clear T31
    refine own_st (fun tg_ kg_ => XS.astore X33.here hx rfl (hb hby at_36) rfl rfl (l' := #[.val (.int i0), .val (.int i1), .val (.int i2), .val (.int i3), .val (.int (1 : Int32)), .val (.ref s0), .val (.ref s1), .val (.ref s2), .unset, .unset]) rfl kg_) ?_
    show own_Gl p e below _ (T33.setTop (mkF m 38 #[.val (.int i0), .val (.int i1), .val (.int i2), .val (.int i3), .val (.int (1 : Int32)), .val (.ref s0), .val (.ref s1), .val (.ref s2), .unset, .unset] []))
    obtain ⟨T35, h35, X35, e35, E35, A35, D35, -, st35⟩ := newO X33 hx hZ hown (hw _ (List.mem_of_getElem? (i := 13) rfl)) (hw _ (List.mem_of_getElem? (i := 14) rfl)) (hw _ (List.mem_of_getElem? (i := 15) rfl)) rfl (g := (mkF m 38 #[.val (.int i0), .val (.int i1), .val (.int i2), .val (.int i3), .val (.int (1 : Int32)), .val (.ref s0), .val (.ref s1), .val (.ref s2), .unset, .unset] [])) rfl (hb hby at_38) (by decide) (by decide)
    obtain ⟨a, g35⟩ : ∃ z, z = T33.heap.size := ⟨_, rfl⟩
    have ne_aD_a : aD ≠ a := Nat.ne_of_lt (Nat.lt_of_lt_of_le (V_aD.ext K34).lt (Nat.le_of_eq g35.symm))
    have ne_one_a : one ≠ a := Nat.ne_of_lt (Nat.lt_of_lt_of_le (F_c.ext K34).lt (Nat.le_of_eq g35.symm))
    have ne_s0_a : s0 ≠ a := Nat.ne_of_lt (Nat.lt_of_lt_of_le E_s0.lt (Nat.le_of_eq g35.symm))
    have ne_s1_a : s1 ≠ a := Nat.ne_of_lt (Nat.lt_of_lt_of_le E_s1.lt (Nat.le_of_eq g35.symm))
    have ne_s2_a : s2 ≠ a := Nat.ne_of_lt (Nat.lt_of_lt_of_le E_s2.lt (Nat.le_of_eq g35.symm))
    have sz_a : h0.size ≤ a := (Nat.le_trans K34.1 (Nat.le_of_eq g35.symm))
    have g_a : n0 ≤ a := Nat.le_trans Z0 sz_a
    rw [← g35] at A35 D35 st35
    replace E_s0 := E_s0.ext E35
    replace E_s1 := E_s1.ext E35
    replace E_s2 := E_s2.ext E35
    have K36 := own_ext_tr K34 E35
    try clear E35
    try clear K34
    have E_a := A35
    have F_modCount_a : Fld Z h35 a "java/util/AbstractList" "modCount" "I" (.int (0 : Int32)) := D35 (Or.inl (hw _ (List.mem_of_getElem? (i := 33) rfl))) (ty := .int) (by decide)
    have F_elementData_a : Fld Z h35 a "java/util/ArrayList" "elementData" "[Ljava/lang/Object;" .null := D35 (Or.inl (hw _ (List.mem_of_getElem? (i := 36) rfl))) (ty := (.array (.object "java/lang/Object"))) (by decide)
    have F_size_a : Fld Z h35 a "java/util/ArrayList" "size" "I" (.int (0 : Int32)) := D35 (Or.inl (hw _ (List.mem_of_getElem? (i := 59) rfl))) (ty := .int) (by decide)
    refine own_st st35 ?_
    try clear st35
    try clear X33
    try clear T33
    show own_Gl p e below _ (T35.setTop (mkF m 41 #[.val (.int i0), .val (.int i1), .val (.int i2), .val (.int i3), .val (.int (1 : Int32)), .val (.ref s0), .val (.ref s1), .val (.ref s2), .unset, .unset] [(.ref a)]))
    refine own_st (fun tg_ kg_ => XS.dup X35.here hx rfl (hb hby at_41) rfl rfl kg_) ?_
    show own_Gl p e below _ (T35.setTop (mkF m 42 #[.val (.int i0), .val (.int i1), .val (.int i2), .val (.int i3), .val (.int (1 : Int32)), .val (.ref s0), .val (.ref s1), .val (.ref s2), .unset, .unset] [(.ref a), (.ref a)]))
    obtain ⟨_, _, ⟨T37, L37, k37, n37⟩, -, X37, ⟨Lc37, hQ37, l37, y37, z37⟩, st37⟩ := X35.specialBack hx (y := (⟨"java/util/ArrayList", "<init>", "()V"⟩ : MethodName)) rfl hown (mvT hZ (hw _ (List.mem_of_getElem? (i := 16) rfl))) (mvT hZ (hw _ (List.mem_of_getElem? (i := 17) rfl))) (mvT hZ (hw _ (List.mem_of_getElem? (i := 18) rfl))) (by decide) (backOf (W := 1) (own_rm_ali l Z a0 hw [] a aD h35 n0 (Nat.le_trans Z0 K36.1) E_a F_modCount_a F_elementData_a F_size_a g_a (S_D.ext K36)) hZ (hw _ (List.mem_of_getElem? (i := 18) rfl)) (hw _ (List.mem_of_getElem? (i := 15) rfl)) (by decide) (by decide)) (g := (mkF m 42 #[.val (.int i0), .val (.int i1), .val (.int i2), .val (.int i3), .val (.int (1 : Int32)), .val (.ref s0), .val (.ref s1), .val (.ref s2), .unset, .unset] [(.ref a), (.ref a)])) rfl (by rw [hml]; rfl) (Steps.refl _) (a := a) (argsL := []) (rest := [(.ref a)]) (lenOf own_pd0 rfl) rfl (by show 2 * 0 + _ ≤ _; exact Nat.le_of_eq rfl) (hb hby at_42) (fun _ _ => ⟨rfl, e35, (by decide : 4 + 0 ≤ _), (by decide : 9 + 0 ≤ _)⟩)
    dsimp only [Pt.U, Pt.locs, Pt.cells, Pt.slots] at X37 l37 y37 z37 st37 hQ37
    subst l37 y37 z37
    obtain ⟨rfl, N37q, Kc37, F_m, F_e, F_s⟩ := hQ37
    have N37 := Fr.app N33 N37q
    refine own_tr st37 ?_
    replace E_s0 := E_s0.keep Kc37
    replace E_s1 := E_s1.keep Kc37
    replace E_s2 := E_s2.keep Kc37
    replace E_a := E_a.keep Kc37
    have K38 := own_ext_keep K36 Kc37 (allS sz_a all0)
    try clear Kc37
    try clear K36
    show own_Gl p e below _ (T37.setTop (mkF m 45 #[.val (.int i0), .val (.int i1), .val (.int i2), .val (.int i3), .val (.int (1 : Int32)), .val (.ref s0), .val (.ref s1), .val (.ref s2), .unset, .unset] [(.ref a)]))
    try clear st37
    try clear N37q
    try clear N33
    try clear e35
    try clear X35
    try clear T35
    refine own_st (fun tg_ kg_ => XS.astore X37.here hx rfl (hb hby at_45) rfl rfl (l' := #[.val (.int i0), .val (.int i1), .val (.int i2), .val (.int i3), .val (.int (1 : Int32)), .val (.ref s0), .val (.ref s1), .val (.ref s2), .val (.ref a), .unset]) rfl kg_) ?_
    show own_Gl p e below _ (T37.setTop (mkF m 47 #[.val (.int i0), .val (.int i1), .val (.int i2), .val (.int i3), .val (.int (1 : Int32)), .val (.ref s0), .val (.ref s1), .val (.ref s2), .val (.ref a), .unset] []))
    refine own_st (fun tg_ kg_ => XS.iload X37.here hx rfl (hb hby at_47) rfl kg_) ?_
    show own_Gl p e below _ (T37.setTop (mkF m 49 #[.val (.int i0), .val (.int i1), .val (.int i2), .val (.int i3), .val (.int (1 : Int32)), .val (.ref s0), .val (.ref s1), .val (.ref s2), .val (.ref a), .unset] [(.int (1 : Int32))]))
    refine own_st (fun tg_ kg_ => XS.iconst X37.here hx rfl (hb hby at_49) kg_) ?_
    show own_Gl p e below _ (T37.setTop (mkF m 50 #[.val (.int i0), .val (.int i1), .val (.int i2), .val (.int i3), .val (.int (1 : Int32)), .val (.ref s0), .val (.ref s1), .val (.ref s2), .val (.ref a), .unset] [(.int (1 : Int32)), (.int (1 : Int32))]))
    refine own_st (fun tg_ kg_ => XS.icmpNo X37.here hx rfl (hb hby at_50) rfl (flt ((by decide : ¬ ((1 : Int32) < (1 : Int32))))).1 kg_) ?_
    show own_Gl p e below _ (T37.setTop (mkF m 53 #[.val (.int i0), .val (.int i1), .val (.int i2), .val (.int i3), .val (.int (1 : Int32)), .val (.ref s0), .val (.ref s1), .val (.ref s2), .val (.ref a), .unset] []))
    refine own_st (fun tg_ kg_ => XS.aload X37.here hx rfl (hb hby at_53) rfl rfl kg_) ?_
    show own_Gl p e below _ (T37.setTop (mkF m 55 #[.val (.int i0), .val (.int i1), .val (.int i2), .val (.int i3), .val (.int (1 : Int32)), .val (.ref s0), .val (.ref s1), .val (.ref s2), .val (.ref a), .unset] [(.ref a)]))
    refine own_st (fun tg_ kg_ => XS.aload X37.here hx rfl (hb hby at_55) rfl rfl kg_) ?_
    show own_Gl p e below _ (T37.setTop (mkF m 57 #[.val (.int i0), .val (.int i1), .val (.int i2), .val (.int i3), .val (.int (1 : Int32)), .val (.ref s0), .val (.ref s1), .val (.ref s2), .val (.ref a), .unset] [(.ref s0), (.ref a)]))
    obtain ⟨cq39, kq39, q39a, q39b, q39c⟩ := isOf hZ rfl E_a
    obtain ⟨_, _, ⟨T39, L39, k39, n39⟩, -, X39, ⟨Lc39, hQ39, l39, y39, z39⟩, st39⟩ := X37.virtualBack hx (y := (⟨"java/util/ArrayList", "add", "(Ljava/lang/Object;)Z"⟩ : MethodName)) (z := (⟨"java/util/ArrayList", "add", "(Ljava/lang/Object;)Z"⟩ : MethodName)) hown (mvT hZ (hw _ (List.mem_of_getElem? (i := 68) rfl))) (mvT hZ (hw _ (List.mem_of_getElem? (i := 69) rfl))) (notFace_of_selects (args := #[]) (mvT hZ (hw _ (List.mem_of_getElem? (i := 71) rfl)))) (mvT hZ (hw _ (List.mem_of_getElem? (i := 71) rfl))) (mvT hZ (hw _ (List.mem_of_getElem? (i := 70) rfl))) (by decide) (backOf (W := 0) (own_rm_adA l Z a0 hw [] a s0 aD kD (0 : Int32) T37.heap n0 (Nat.le_trans Z0 K38.1) E_a F_m F_e F_s g_a (S_D.ext K38) (V_aD.ext K38) (ne_aD_a.symm) E_s0) hZ (hw _ (List.mem_of_getElem? (i := 72) rfl)) (hw _ (List.mem_of_getElem? (i := 15) rfl)) (by decide) (by decide)) q39a q39c (g := (mkF m 57 #[.val (.int i0), .val (.int i1), .val (.int i2), .val (.int i3), .val (.int (1 : Int32)), .val (.ref s0), .val (.ref s1), .val (.ref s2), .val (.ref a), .unset] [(.ref s0), (.ref a)])) rfl (by rw [hml]; rfl) (Steps.refl _) (argsL := [(.ref s0)]) (rest := []) (lenOf own_pd11 rfl) rfl (by show 2 * 0 + _ ≤ _; exact Nat.le_of_eq rfl) (hb hby at_57) (fun _ _ => ⟨rfl, rfl, (by decide : 4 + 1 ≤ _), (by decide : 9 + 10 ≤ _)⟩)
    dsimp only [Pt.U, Pt.locs, Pt.cells, Pt.slots] at X39 l39 y39 z39 st39 hQ39
    subst l39 y39 z39
    obtain ⟨rfl, ⟨b, kb, szc39, V_b, O_b, F_m, F_e, F_s⟩, N39q, Kc39⟩ := hQ39
    have N39 := Fr.app N37 N39q
    refine own_tr st39 ?_
    have ne_aD_b : aD ≠ b := Nat.ne_of_lt (Nat.lt_of_lt_of_le (V_aD.ext K38).lt szc39)
    have ne_one_b : one ≠ b := Nat.ne_of_lt (Nat.lt_of_lt_of_le (F_c.ext K38).lt szc39)
    have ne_s0_b : s0 ≠ b := Nat.ne_of_lt (Nat.lt_of_lt_of_le E_s0.lt szc39)
    have ne_s1_b : s1 ≠ b := Nat.ne_of_lt (Nat.lt_of_lt_of_le E_s1.lt szc39)
    have ne_s2_b : s2 ≠ b := Nat.ne_of_lt (Nat.lt_of_lt_of_le E_s2.lt szc39)
    have ne_a_b : a ≠ b := Nat.ne_of_lt (Nat.lt_of_lt_of_le E_a.lt szc39)
    have sz_b : h0.size ≤ b := Nat.le_trans K38.1 szc39
    have g_b : n0 ≤ b := Nat.le_trans Z0 sz_b
    replace E_s0 := E_s0.keep Kc39
    replace E_s1 := E_s1.keep Kc39
    replace E_s2 := E_s2.keep Kc39
    replace E_a := E_a.keep Kc39
    have K40 := own_ext_keep K38 Kc39 (allS sz_a all0)
    try clear Kc39
    try clear K38
    show own_Gl p e below _ (T39.setTop (mkF m 60 #[.val (.int i0), .val (.int i1), .val (.int i2), .val (.int i3), .val (.int (1 : Int32)), .val (.ref s0), .val (.ref s1), .val (.ref s2), .val (.ref a), .unset] [(.int (1 : Int32))]))
    try clear st39
    try clear N39q
    try clear N37
    try clear X37
    try clear T37
    refine own_st (fun tg_ kg_ => XS.pop X39.here hx rfl (hb hby at_60) rfl rfl kg_) ?_
    show own_Gl p e below _ (T39.setTop (mkF m 61 #[.val (.int i0), .val (.int i1), .val (.int i2), .val (.int i3), .val (.int (1 : Int32)), .val (.ref s0), .val (.ref s1), .val (.ref s2), .val (.ref a), .unset] []))
    refine own_st (fun tg_ kg_ => XS.iload X39.here hx rfl (hb hby at_61) rfl kg_) ?_
    show own_Gl p e below _ (T39.setTop (mkF m 63 #[.val (.int i0), .val (.int i1), .val (.int i2), .val (.int i3), .val (.int (1 : Int32)), .val (.ref s0), .val (.ref s1), .val (.ref s2), .val (.ref a), .unset] [(.int (1 : Int32))]))
    refine own_st (fun tg_ kg_ => XS.iconst X39.here hx rfl (hb hby at_63) kg_) ?_
    show own_Gl p e below _ (T39.setTop (mkF m 64 #[.val (.int i0), .val (.int i1), .val (.int i2), .val (.int i3), .val (.int (1 : Int32)), .val (.ref s0), .val (.ref s1), .val (.ref s2), .val (.ref a), .unset] [(.int (2 : Int32)), (.int (1 : Int32))]))
    refine own_st (fun tg_ kg_ => XS.icmpYes X39.here hx rfl (pc0 := 64) (pc' := 75) rfl (hb hby at_64) rfl (tlt ((by decide : (1 : Int32) < (2 : Int32)))).1 (by decide) (by decide) kg_) ?_
    show own_Gl p e below _ (T39.setTop (mkF m 75 #[.val (.int i0), .val (.int i1), .val (.int i2), .val (.int i3), .val (.int (1 : Int32)), .val (.ref s0), .val (.ref s1), .val (.ref s2), .val (.ref a), .unset] []))
    refine own_st (fun tg_ kg_ => XS.iload X39.here hx rfl (hb hby at_75) rfl kg_) ?_
    show own_Gl p e below _ (T39.setTop (mkF m 77 #[.val (.int i0), .val (.int i1), .val (.int i2), .val (.int i3), .val (.int (1 : Int32)), .val (.ref s0), .val (.ref s1), .val (.ref s2), .val (.ref a), .unset] [(.int (1 : Int32))]))
    refine own_st (fun tg_ kg_ => XS.iconst X39.here hx rfl (hb hby at_77) kg_) ?_
    show own_Gl p e below _ (T39.setTop (mkF m 78 #[.val (.int i0), .val (.int i1), .val (.int i2), .val (.int i3), .val (.int (1 : Int32)), .val (.ref s0), .val (.ref s1), .val (.ref s2), .val (.ref a), .unset] [(.int (3 : Int32)), (.int (1 : Int32))]))
    refine own_st (fun tg_ kg_ => XS.icmpYes X39.here hx rfl (pc0 := 78) (pc' := 89) rfl (hb hby at_78) rfl (tlt ((by decide : (1 : Int32) < (3 : Int32)))).1 (by decide) (by decide) kg_) ?_
    show own_Gl p e below _ (T39.setTop (mkF m 89 #[.val (.int i0), .val (.int i1), .val (.int i2), .val (.int i3), .val (.int (1 : Int32)), .val (.ref s0), .val (.ref s1), .val (.ref s2), .val (.ref a), .unset] []))
    obtain ⟨T41, h41, X41, e41, E41, A41, D41, -, st41⟩ := newO X39 hx hZ hown (hw _ (List.mem_of_getElem? (i := 37) rfl)) (hw _ (List.mem_of_getElem? (i := 38) rfl)) (hw _ (List.mem_of_getElem? (i := 39) rfl)) rfl (g := (mkF m 89 #[.val (.int i0), .val (.int i1), .val (.int i2), .val (.int i3), .val (.int (1 : Int32)), .val (.ref s0), .val (.ref s1), .val (.ref s2), .val (.ref a), .unset] [])) rfl (hb hby at_89) (by decide) (by decide)
    obtain ⟨pt, g41⟩ : ∃ z, z = T39.heap.size := ⟨_, rfl⟩
    have ne_aD_pt : aD ≠ pt := Nat.ne_of_lt (Nat.lt_of_lt_of_le (V_aD.ext K40).lt (Nat.le_of_eq g41.symm))
    have ne_one_pt : one ≠ pt := Nat.ne_of_lt (Nat.lt_of_lt_of_le (F_c.ext K40).lt (Nat.le_of_eq g41.symm))
    have ne_s0_pt : s0 ≠ pt := Nat.ne_of_lt (Nat.lt_of_lt_of_le E_s0.lt (Nat.le_of_eq g41.symm))
    have ne_s1_pt : s1 ≠ pt := Nat.ne_of_lt (Nat.lt_of_lt_of_le E_s1.lt (Nat.le_of_eq g41.symm))
    have ne_s2_pt : s2 ≠ pt := Nat.ne_of_lt (Nat.lt_of_lt_of_le E_s2.lt (Nat.le_of_eq g41.symm))
    have ne_a_pt : a ≠ pt := Nat.ne_of_lt (Nat.lt_of_lt_of_le E_a.lt (Nat.le_of_eq g41.symm))
    have ne_b_pt : b ≠ pt := Nat.ne_of_lt (Nat.lt_of_lt_of_le V_b.lt (Nat.le_of_eq g41.symm))
    have sz_pt : h0.size ≤ pt := (Nat.le_trans K40.1 (Nat.le_of_eq g41.symm))
    have g_pt : n0 ≤ pt := Nat.le_trans Z0 sz_pt
    rw [← g41] at A41 D41 st41
    replace E_s0 := E_s0.ext E41
    replace E_s1 := E_s1.ext E41
    replace E_s2 := E_s2.ext E41
    replace E_a := E_a.ext E41
    replace F_m := F_m.ext E41
    replace F_e := F_e.ext E41
    replace F_s := F_s.ext E41
    replace V_b := V_b.ext E41
    have K42 := own_ext_tr K40 E41
    try clear E41
    try clear K40
    have E_pt := A41
    refine own_st st41 ?_
    try clear st41
    try clear X39
    try clear T39
    show own_Gl p e below _ (T41.setTop (mkF m 92 #[.val (.int i0), .val (.int i1), .val (.int i2), .val (.int i3), .val (.int (1 : Int32)), .val (.ref s0), .val (.ref s1), .val (.ref s2), .val (.ref a), .unset] [(.ref pt)]))
    refine own_st (fun tg_ kg_ => XS.dup X41.here hx rfl (hb hby at_92) rfl rfl kg_) ?_
    show own_Gl p e below _ (T41.setTop (mkF m 93 #[.val (.int i0), .val (.int i1), .val (.int i2), .val (.int i3), .val (.int (1 : Int32)), .val (.ref s0), .val (.ref s1), .val (.ref s2), .val (.ref a), .unset] [(.ref pt), (.ref pt)]))
    obtain ⟨_, _, ⟨T43, L43, k43, n43⟩, -, X43, ⟨Lc43, hQ43, l43, y43, z43⟩, st43⟩ := X41.specialBack hx (y := (⟨"com/example/ratably/ratably/method/EvenPeriods", "<init>", "()V"⟩ : MethodName)) rfl hown (mvT hZ (hw _ (List.mem_of_getElem? (i := 40) rfl))) (mvT hZ (hw _ (List.mem_of_getElem? (i := 41) rfl))) (mvT hZ (hw _ (List.mem_of_getElem? (i := 42) rfl))) (by decide) (backOf (W := 1) (own_rm_epi l Z a0 hw [] pt h41 n0 (Nat.le_trans Z0 K42.1)) hZ (hw _ (List.mem_of_getElem? (i := 42) rfl)) (hw _ (List.mem_of_getElem? (i := 39) rfl)) (by decide) (by decide)) (g := (mkF m 93 #[.val (.int i0), .val (.int i1), .val (.int i2), .val (.int i3), .val (.int (1 : Int32)), .val (.ref s0), .val (.ref s1), .val (.ref s2), .val (.ref a), .unset] [(.ref pt), (.ref pt)])) rfl (by rw [hml]; rfl) (Steps.refl _) (a := pt) (argsL := []) (rest := [(.ref pt)]) (lenOf own_pd0 rfl) rfl (by show 2 * 0 + _ ≤ _; exact Nat.le_of_eq rfl) (hb hby at_93) (fun _ _ => ⟨rfl, e41, (by decide : 6 + 0 ≤ _), (by decide : 19 + 0 ≤ _)⟩)
    dsimp only [Pt.U, Pt.locs, Pt.cells, Pt.slots] at X43 l43 y43 z43 st43 hQ43
    subst l43 y43 z43
    obtain ⟨rfl, N43q, e43⟩ := hQ43
    have N43 := Fr.app N39 N43q
    refine own_tr st43 ?_
    show own_Gl p e below _ (T43.setTop (mkF m 96 #[.val (.int i0), .val (.int i1), .val (.int i2), .val (.int i3), .val (.int (1 : Int32)), .val (.ref s0), .val (.ref s1), .val (.ref s2), .val (.ref a), .unset] [(.ref pt)]))
    try clear st43
    try clear N43q
    try clear N39
    try clear e41
    try clear X41
    try clear T41
    refine own_st (fun tg_ kg_ => XS.aload X43.here hx rfl (hb hby at_96) rfl rfl kg_) ?_
    show own_Gl p e below _ (T43.setTop (mkF m 98 #[.val (.int i0), .val (.int i1), .val (.int i2), .val (.int i3), .val (.int (1 : Int32)), .val (.ref s0), .val (.ref s1), .val (.ref s2), .val (.ref a), .unset] [(.ref a), (.ref pt)]))
    obtain ⟨cq44, kq44, q44a, q44b, q44c⟩ := isOf hZ e43 E_pt
    obtain ⟨_, _, ⟨T44, L44, k44, n44⟩, -, X44, ⟨Lc44, hQ44, l44, y44, z44⟩, st44⟩ := X43.virtualBack hx (y := (⟨"com/example/ratably/ratably/method/EvenPeriods", "weights", "(Ljava/util/List;)[Ljava/math/BigDecimal;"⟩ : MethodName)) (z := (⟨"com/example/ratably/ratably/method/EvenPeriods", "weights", "(Ljava/util/List;)[Ljava/math/BigDecimal;"⟩ : MethodName)) hown (mvT hZ (hw _ (List.mem_of_getElem? (i := 44) rfl))) (mvT hZ (hw _ (List.mem_of_getElem? (i := 45) rfl))) (notFace_of_selects (args := #[]) (mvT hZ (hw _ (List.mem_of_getElem? (i := 47) rfl)))) (mvT hZ (hw _ (List.mem_of_getElem? (i := 47) rfl))) (mvT hZ (hw _ (List.mem_of_getElem? (i := 46) rfl))) (by decide) (backOf (W := 0) (own_rm_wei1 l Z a0 hw [] pt a one h41 n0 (Nat.le_trans Z0 K42.1) E_a F_s (S_1.ext K42) (E_1.ext K42)) hZ (hw _ (List.mem_of_getElem? (i := 48) rfl)) (hw _ (List.mem_of_getElem? (i := 39) rfl)) (by decide) (by decide)) q44a q44c (g := (mkF m 98 #[.val (.int i0), .val (.int i1), .val (.int i2), .val (.int i3), .val (.int (1 : Int32)), .val (.ref s0), .val (.ref s1), .val (.ref s2), .val (.ref a), .unset] [(.ref a), (.ref pt)])) rfl (by rw [hml]; rfl) (Steps.refl _) (argsL := [(.ref a)]) (rest := []) (lenOf own_pd10 rfl) rfl (by show 2 * 0 + _ ≤ _; exact Nat.le_of_eq rfl) (hb hby at_98) (fun _ _ => ⟨rfl, e43, (by decide : 6 + 1 ≤ _), (by decide : 19 + 1 ≤ _)⟩)
    dsimp only [Pt.U, Pt.locs, Pt.cells, Pt.slots] at X44 l44 y44 z44 st44 hQ44
    subst l44 y44 z44
    obtain ⟨⟨w, kw, rfl, szc44, V_w⟩, N44q, Kc44⟩ := hQ44
    have N44 := Fr.app N43 N44q
    refine own_tr st44 ?_
    have ne_aD_w : aD ≠ w := Nat.ne_of_lt (Nat.lt_of_lt_of_le (V_aD.ext K42).lt szc44)
    have ne_one_w : one ≠ w := Nat.ne_of_lt (Nat.lt_of_lt_of_le (F_c.ext K42).lt szc44)
    have ne_s0_w : s0 ≠ w := Nat.ne_of_lt (Nat.lt_of_lt_of_le E_s0.lt szc44)
    have ne_s1_w : s1 ≠ w := Nat.ne_of_lt (Nat.lt_of_lt_of_le E_s1.lt szc44)
    have ne_s2_w : s2 ≠ w := Nat.ne_of_lt (Nat.lt_of_lt_of_le E_s2.lt szc44)
    have ne_a_w : a ≠ w := Nat.ne_of_lt (Nat.lt_of_lt_of_le E_a.lt szc44)
    have ne_b_w : b ≠ w := Nat.ne_of_lt (Nat.lt_of_lt_of_le V_b.lt szc44)
    have ne_pt_w : pt ≠ w := Nat.ne_of_lt (Nat.lt_of_lt_of_le E_pt.lt szc44)
    have sz_w : h0.size ≤ w := Nat.le_trans K42.1 szc44
    have g_w : n0 ≤ w := Nat.le_trans Z0 sz_w
    replace E_s0 := E_s0.ext Kc44
    replace E_s1 := E_s1.ext Kc44
    replace E_s2 := E_s2.ext Kc44
    replace E_a := E_a.ext Kc44
    replace F_m := F_m.ext Kc44
    replace F_e := F_e.ext Kc44
    replace F_s := F_s.ext Kc44
    replace V_b := V_b.ext Kc44
    replace E_pt := E_pt.ext Kc44
    have K45 := own_ext_tr K42 Kc44
    try clear Kc44
    try clear K42
    show own_Gl p e below _ (T44.setTop (mkF m 101 #[.val (.int i0), .val (.int i1), .val (.int i2), .val (.int i3), .val (.int (1 : Int32)), .val (.ref s0), .val (.ref s1), .val (.ref s2), .val (.ref a), .unset] [(.ref w)]))
    try clear st44
    try clear N44q
    try clear N43
    try clear e43
    try clear X43
    try clear T43
    refine own_st (fun tg_ kg_ => XS.astore X44.here hx rfl (hb hby at_101) rfl rfl (l' := #[.val (.int i0), .val (.int i1), .val (.int i2), .val (.int i3), .val (.int (1 : Int32)), .val (.ref s0), .val (.ref s1), .val (.ref s2), .val (.ref a), .val (.ref w)]) rfl kg_) ?_
    show own_Gl p e below _ (T44.setTop (mkF m 103 #[.val (.int i0), .val (.int i1), .val (.int i2), .val (.int i3), .val (.int (1 : Int32)), .val (.ref s0), .val (.ref s1), .val (.ref s2), .val (.ref a), .val (.ref w)] []))
    refine own_st (fun tg_ kg_ => XS.aload X44.here hx rfl (hb hby at_103) rfl rfl kg_) ?_
    show own_Gl p e below _ (T44.setTop (mkF m 105 #[.val (.int i0), .val (.int i1), .val (.int i2), .val (.int i3), .val (.int (1 : Int32)), .val (.ref s0), .val (.ref s1), .val (.ref s2), .val (.ref a), .val (.ref w)] [(.ref w)]))
    refine own_st (fun tg_ kg_ => XT.nullNo X44.here hx rfl (hb hby at_105) rfl rfl nofun kg_) ?_
    show own_Gl p e below _ (T44.setTop (mkF m 108 #[.val (.int i0), .val (.int i1), .val (.int i2), .val (.int i3), .val (.int (1 : Int32)), .val (.ref s0), .val (.ref s1), .val (.ref s2), .val (.ref a), .val (.ref w)] []))
    refine own_st (fun tg_ kg_ => XS.aload X44.here hx rfl (hb hby at_108) rfl rfl kg_) ?_
    show own_Gl p e below _ (T44.setTop (mkF m 110 #[.val (.int i0), .val (.int i1), .val (.int i2), .val (.int i3), .val (.int (1 : Int32)), .val (.ref s0), .val (.ref s1), .val (.ref s2), .val (.ref a), .val (.ref w)] [(.ref w)]))
    obtain ⟨cl46, Ar46, qa46, Sa46, Na46, Ha46, Ga46⟩ := id V_w
    refine own_st (fun tg_ kg_ => X44.arraylength hx Ar46.1 (State.isArrayOf_alike hZ.alike Ar46.2.1) (g := (mkF m 110 #[.val (.int i0), .val (.int i1), .val (.int i2), .val (.int i3), .val (.int (1 : Int32)), .val (.ref s0), .val (.ref s1), .val (.ref s2), .val (.ref a), .val (.ref w)] [(.ref w)])) rfl rfl (hb hby at_110) _ kg_) ?_
    rw [len_of Sa46 Na46]
    show own_Gl p e below _ (T44.setTop (mkF m 111 #[.val (.int i0), .val (.int i1), .val (.int i2), .val (.int i3), .val (.int (1 : Int32)), .val (.ref s0), .val (.ref s1), .val (.ref s2), .val (.ref a), .val (.ref w)] [(.int (1 : Int32))]))
    refine own_st (fun tg_ kg_ => XS.iload X44.here hx rfl (hb hby at_111) rfl kg_) ?_
    show own_Gl p e below _ (T44.setTop (mkF m 113 #[.val (.int i0), .val (.int i1), .val (.int i2), .val (.int i3), .val (.int (1 : Int32)), .val (.ref s0), .val (.ref s1), .val (.ref s2), .val (.ref a), .val (.ref w)] [(.int (1 : Int32)), (.int (1 : Int32))]))
    refine own_st (fun tg_ kg_ => XS.icmpYes X44.here hx rfl (pc0 := 113) (pc' := 118) rfl (hb hby at_113) rfl (teq ((rfl : (1 : Int32) = (1 : Int32)))).1 (by decide) (by decide) kg_) ?_
    show own_Gl p e below _ (T44.setTop (mkF m 118 #[.val (.int i0), .val (.int i1), .val (.int i2), .val (.int i3), .val (.int (1 : Int32)), .val (.ref s0), .val (.ref s1), .val (.ref s2), .val (.ref a), .val (.ref w)] []))
    refine own_st (fun tg_ kg_ => XS.iload X44.here hx rfl (hb hby at_118) rfl kg_) ?_
    show own_Gl p e below _ (T44.setTop (mkF m 120 #[.val (.int i0), .val (.int i1), .val (.int i2), .val (.int i3), .val (.int (1 : Int32)), .val (.ref s0), .val (.ref s1), .val (.ref s2), .val (.ref a), .val (.ref w)] [(.int (1 : Int32))]))
    refine own_st (fun tg_ kg_ => XS.ifYes X44.here hx rfl (pc0 := 120) (pc' := 125) rfl (hb hby at_120) rfl ((if0 _ _).trans (feq ((by decide : ¬ ((1 : Int32) = (0 : Int32))))).2) (by decide) (by decide) kg_) ?_
    show own_Gl p e below _ (T44.setTop (mkF m 125 #[.val (.int i0), .val (.int i1), .val (.int i2), .val (.int i3), .val (.int (1 : Int32)), .val (.ref s0), .val (.ref s1), .val (.ref s2), .val (.ref a), .val (.ref w)] []))
    refine own_st (fun tg_ kg_ => XS.aload X44.here hx rfl (hb hby at_125) rfl rfl kg_) ?_
    show own_Gl p e below _ (T44.setTop (mkF m 127 #[.val (.int i0), .val (.int i1), .val (.int i2), .val (.int i3), .val (.int (1 : Int32)), .val (.ref s0), .val (.ref s1), .val (.ref s2), .val (.ref a), .val (.ref w)] [(.ref w)]))
    refine own_st (fun tg_ kg_ => XS.iconst X44.here hx rfl (hb hby at_127) kg_) ?_
    show own_Gl p e below _ (T44.setTop (mkF m 128 #[.val (.int i0), .val (.int i1), .val (.int i2), .val (.int i3), .val (.int (1 : Int32)), .val (.ref s0), .val (.ref s1), .val (.ref s2), .val (.ref a), .val (.ref w)] [(.int (0 : Int32)), (.ref w)]))
    obtain ⟨cl47, Ar47, qa47, Sa47, Na47, Ha47, Ga47⟩ := id V_w
    have hin48 : ¬ ((0 : Int32) < 0 ∨ cl47.slots.size ≤ ((0 : Int32)).toNatClampNeg) := inb_of Sa47 ⟨by decide, by decide⟩
    have hat48 : cl47.slots[((0 : Int32)).toNatClampNeg]? = some (.ref one) := Has.at Ha47 hin48 rfl
    refine own_st (fun tg_ kg_ => X44.aaload hx (j := (0 : Int32)) (v := (.ref one)) Ar47.1 (State.isArrayOf_alike hZ.alike Ar47.2.1) rfl Ar47.2.2 hin48 hat48 (g := (mkF m 128 #[.val (.int i0), .val (.int i1), .val (.int i2), .val (.int i3), .val (.int (1 : Int32)), .val (.ref s0), .val (.ref s1), .val (.ref s2), .val (.ref a), .val (.ref w)] [(.int (0 : Int32)), (.ref w)])) rfl rfl (hb hby at_128) _ kg_) ?_
    show own_Gl p e below _ (T44.setTop (mkF m 129 #[.val (.int i0), .val (.int i1), .val (.int i2), .val (.int i3), .val (.int (1 : Int32)), .val (.ref s0), .val (.ref s1), .val (.ref s2), .val (.ref a), .val (.ref w)] [(.ref one)]))
    refine own_st (fun tg_ kg_ => XT.nullNo X44.here hx rfl (hb hby at_129) rfl rfl nofun kg_) ?_
    show own_Gl p e below _ (T44.setTop (mkF m 132 #[.val (.int i0), .val (.int i1), .val (.int i2), .val (.int i3), .val (.int (1 : Int32)), .val (.ref s0), .val (.ref s1), .val (.ref s2), .val (.ref a), .val (.ref w)] []))
    refine own_st (fun tg_ kg_ => XS.aload X44.here hx rfl (hb hby at_132) rfl rfl kg_) ?_
    show own_Gl p e below _ (T44.setTop (mkF m 134 #[.val (.int i0), .val (.int i1), .val (.int i2), .val (.int i3), .val (.int (1 : Int32)), .val (.ref s0), .val (.ref s1), .val (.ref s2), .val (.ref a), .val (.ref w)] [(.ref w)]))
    refine own_st (fun tg_ kg_ => XS.iconst X44.here hx rfl (hb hby at_134) kg_) ?_
    show own_Gl p e below _ (T44.setTop (mkF m 135 #[.val (.int i0), .val (.int i1), .val (.int i2), .val (.int i3), .val (.int (1 : Int32)), .val (.ref s0), .val (.ref s1), .val (.ref s2), .val (.ref a), .val (.ref w)] [(.int (0 : Int32)), (.ref w)]))
    obtain ⟨cl49, Ar49, qa49, Sa49, Na49, Ha49, Ga49⟩ := id V_w
    have hin50 : ¬ ((0 : Int32) < 0 ∨ cl49.slots.size ≤ ((0 : Int32)).toNatClampNeg) := inb_of Sa49 ⟨by decide, by decide⟩
    have hat50 : cl49.slots[((0 : Int32)).toNatClampNeg]? = some (.ref one) := Has.at Ha49 hin50 rfl
    refine own_st (fun tg_ kg_ => X44.aaload hx (j := (0 : Int32)) (v := (.ref one)) Ar49.1 (State.isArrayOf_alike hZ.alike Ar49.2.1) rfl Ar49.2.2 hin50 hat50 (g := (mkF m 135 #[.val (.int i0), .val (.int i1), .val (.int i2), .val (.int i3), .val (.int (1 : Int32)), .val (.ref s0), .val (.ref s1), .val (.ref s2), .val (.ref a), .val (.ref w)] [(.int (0 : Int32)), (.ref w)])) rfl rfl (hb hby at_135) _ kg_) ?_
    show own_Gl p e below _ (T44.setTop (mkF m 136 #[.val (.int i0), .val (.int i1), .val (.int i2), .val (.int i3), .val (.int (1 : Int32)), .val (.ref s0), .val (.ref s1), .val (.ref s2), .val (.ref a), .val (.ref w)] [(.ref one)]))
    obtain ⟨cq51, kq51, q51a, q51b, q51c⟩ := isOf hZ rfl (E_1.ext K45)
    obtain ⟨_, _, ⟨T51, L51, k51, n51⟩, -, X51, ⟨Lc51, hQ51, l51, y51, z51⟩, st51⟩ := X44.virtualBack hx (y := (⟨"java/math/BigDecimal", "signum", "()I"⟩ : MethodName)) (z := (⟨"java/math/BigDecimal", "signum", "()I"⟩ : MethodName)) hown (mvT hZ (hw _ (List.mem_of_getElem? (i := 98) rfl))) (mvT hZ (hw _ (List.mem_of_getElem? (i := 99) rfl))) (notFace_of_selects (args := #[]) (mvT hZ (hw _ (List.mem_of_getElem? (i := 101) rfl)))) (mvT hZ (hw _ (List.mem_of_getElem? (i := 101) rfl))) (mvT hZ (hw _ (List.mem_of_getElem? (i := 100) rfl))) (by decide) (backOf (W := 0) (own_rm_sgn l Z a0 hw [] one T44.heap n0 (Nat.le_trans Z0 K45.1) (F_c.ext K45)) hZ (hw _ (List.mem_of_getElem? (i := 102) rfl)) (hw _ (List.mem_of_getElem? (i := 63) rfl)) (by decide) (by decide)) q51a q51c (g := (mkF m 136 #[.val (.int i0), .val (.int i1), .val (.int i2), .val (.int i3), .val (.int (1 : Int32)), .val (.ref s0), .val (.ref s1), .val (.ref s2), .val (.ref a), .val (.ref w)] [(.ref one)])) rfl (by rw [hml]; rfl) (Steps.refl _) (argsL := []) (rest := []) (lenOf own_pd5 rfl) rfl (by show 2 * 0 + _ ≤ _; exact Nat.le_of_eq rfl) (hb hby at_136) (fun _ _ => ⟨rfl, rfl, (by decide : 7 + 0 ≤ _), (by decide : 20 + 0 ≤ _)⟩)
    dsimp only [Pt.U, Pt.locs, Pt.cells, Pt.slots] at X51 l51 y51 z51 st51 hQ51
    subst l51 y51 z51
    obtain ⟨rfl, N51q, e51⟩ := hQ51
    have N51 := Fr.app N44 N51q
    refine own_tr st51 ?_
    show own_Gl p e below _ (T51.setTop (mkF m 139 #[.val (.int i0), .val (.int i1), .val (.int i2), .val (.int i3), .val (.int (1 : Int32)), .val (.ref s0), .val (.ref s1), .val (.ref s2), .val (.ref a), .val (.ref w)] [(.int (1 : Int32))]))
    try clear st51
    try clear N51q
    try clear N44
    try clear X44
    refine own_st (fun tg_ kg_ => XS.ifYes X51.here hx rfl (pc0 := 139) (pc' := 144) rfl (hb hby at_139) rfl ((if0 _ _).trans (tlt ((by decide : (0 : Int32) < (1 : Int32)))).2.2.1) (by decide) (by decide) kg_) ?_
    show own_Gl p e below _ (T51.setTop (mkF m 144 #[.val (.int i0), .val (.int i1), .val (.int i2), .val (.int i3), .val (.int (1 : Int32)), .val (.ref s0), .val (.ref s1), .val (.ref s2), .val (.ref a), .val (.ref w)] []))
    refine own_st (fun tg_ kg_ => XS.iload X51.here hx rfl (hb hby at_144) rfl kg_) ?_
    show own_Gl p e below _ (T51.setTop (mkF m 146 #[.val (.int i0), .val (.int i1), .val (.int i2), .val (.int i3), .val (.int (1 : Int32)), .val (.ref s0), .val (.ref s1), .val (.ref s2), .val (.ref a), .val (.ref w)] [(.int (1 : Int32))]))
    refine own_st (fun tg_ kg_ => XS.iconst X51.here hx rfl (hb hby at_146) kg_) ?_
    show own_Gl p e below _ (T51.setTop (mkF m 147 #[.val (.int i0), .val (.int i1), .val (.int i2), .val (.int i3), .val (.int (1 : Int32)), .val (.ref s0), .val (.ref s1), .val (.ref s2), .val (.ref a), .val (.ref w)] [(.int (2 : Int32)), (.int (1 : Int32))]))
    refine own_st (fun tg_ kg_ => XS.icmpYes X51.here hx rfl (pc0 := 147) (pc' := 166) rfl (hb hby at_147) rfl (tlt ((by decide : (1 : Int32) < (2 : Int32)))).1 (by decide) (by decide) kg_) ?_
    show own_Gl p e below _ (T51.setTop (mkF m 166 #[.val (.int i0), .val (.int i1), .val (.int i2), .val (.int i3), .val (.int (1 : Int32)), .val (.ref s0), .val (.ref s1), .val (.ref s2), .val (.ref a), .val (.ref w)] []))
    refine own_st (fun tg_ kg_ => XS.iload X51.here hx rfl (hb hby at_166) rfl kg_) ?_
    show own_Gl p e below _ (T51.setTop (mkF m 168 #[.val (.int i0), .val (.int i1), .val (.int i2), .val (.int i3), .val (.int (1 : Int32)), .val (.ref s0), .val (.ref s1), .val (.ref s2), .val (.ref a), .val (.ref w)] [(.int (1 : Int32))]))
    refine own_st (fun tg_ kg_ => XS.iconst X51.here hx rfl (hb hby at_168) kg_) ?_
    show own_Gl p e below _ (T51.setTop (mkF m 169 #[.val (.int i0), .val (.int i1), .val (.int i2), .val (.int i3), .val (.int (1 : Int32)), .val (.ref s0), .val (.ref s1), .val (.ref s2), .val (.ref a), .val (.ref w)] [(.int (3 : Int32)), (.int (1 : Int32))]))
    refine own_st (fun tg_ kg_ => XS.icmpYes X51.here hx rfl (pc0 := 169) (pc' := 188) rfl (hb hby at_169) rfl (tlt ((by decide : (1 : Int32) < (3 : Int32)))).1 (by decide) (by decide) kg_) ?_
    show own_Gl p e below _ (T51.setTop (mkF m 188 #[.val (.int i0), .val (.int i1), .val (.int i2), .val (.int i3), .val (.int (1 : Int32)), .val (.ref s0), .val (.ref s1), .val (.ref s2), .val (.ref a), .val (.ref w)] []))
    refine own_st (fun tg_ kg_ => XS.iconst X51.here hx rfl (hb hby at_188) kg_) ?_
    show own_Gl p e below _ (T51.setTop (mkF m 189 #[.val (.int i0), .val (.int i1), .val (.int i2), .val (.int i3), .val (.int (1 : Int32)), .val (.ref s0), .val (.ref s1), .val (.ref s2), .val (.ref a), .val (.ref w)] [(.int (1 : Int32))]))
    exact own_retN X51 hx Bd.notSynchronized (t := .boolean) Bd.returns (by simp) (hb hby at_189) (by decide) (by decide) e51 (⟨rfl, N51⟩)
  ·
    rw [hn3]
    show own_Gl p e below _ (s₁.setTop (mkF m 5 #[.val (.int i0), .val (.int i1), .val (.int i2), .val (.int i3), .val (.int (2 : Int32)), .unset, .unset, .unset, .unset, .unset] []))
    obtain ⟨T52, h52, X52, e52, E52, A52, D52, -, st52⟩ := newO X0 hx hZ hown (hw _ (List.mem_of_getElem? (i := 0) rfl)) (hw _ (List.mem_of_getElem? (i := 1) rfl)) (hw _ (List.mem_of_getElem? (i := 2) rfl)) e0 (g := (mkF m 5 #[.val (.int i0), .val (.int i1), .val (.int i2), .val (.int i3), .val (.int (2 : Int32)), .unset, .unset, .unset, .unset, .unset] [])) rfl (hb hby at_5) (by decide) (by decide)
    obtain ⟨s0, g52⟩ : ∃ z, z = h0.size := ⟨_, rfl⟩
    have ne_aD_s0 : aD ≠ s0 := Nat.ne_of_lt (Nat.lt_of_lt_of_le V_aD.lt (Nat.le_of_eq g52.symm))
    have ne_one_s0 : one ≠ s0 := Nat.ne_of_lt (Nat.lt_of_lt_of_le F_c.lt (Nat.le_of_eq g52.symm))
    have sz_s0 : h0.size ≤ s0 := Nat.le_of_eq g52.symm
    have g_s0 : n0 ≤ s0 := Nat.le_trans Z0 sz_s0
    rw [← g52] at A52 D52 st52
    have E_s0 := A52
    have F_period_s0 : Fld Z h52 s0 "com/example/ratably/ratably/calendar/Slice" "period" "Lcom/example/ratably/ratably/calendar/Period;" .null := D52 (Or.inr (hw _ (List.mem_of_getElem? (i := 10) rfl))) (ty := (.object "com/example/ratably/ratably/calendar/Period")) (by decide)
    have F_days_s0 : Fld Z h52 s0 "com/example/ratably/ratably/calendar/Slice" "days" "I" (.int (0 : Int32)) := D52 (Or.inr (hw _ (List.mem_of_getElem? (i := 12) rfl))) (ty := .int) (by decide)
    refine own_st st52 ?_
    try clear st52
    show own_Gl p e below _ (T52.setTop (mkF m 8 #[.val (.int i0), .val (.int i1), .val (.int i2), .val (.int i3), .val (.int (2 : Int32)), .unset, .unset, .unset, .unset, .unset] [(.ref s0)]))
    refine own_st (fun tg_ kg_ => XS.dup X52.here hx rfl (hb hby at_8) rfl rfl kg_) ?_
    show own_Gl p e below _ (T52.setTop (mkF m 9 #[.val (.int i0), .val (.int i1), .val (.int i2), .val (.int i3), .val (.int (2 : Int32)), .unset, .unset, .unset, .unset, .unset] [(.ref s0), (.ref s0)]))
    refine own_st (fun tg_ kg_ => XS.aconstNull X52.here hx rfl (hb hby at_9) kg_) ?_
    show own_Gl p e below _ (T52.setTop (mkF m 10 #[.val (.int i0), .val (.int i1), .val (.int i2), .val (.int i3), .val (.int (2 : Int32)), .unset, .unset, .unset, .unset, .unset] [.null, (.ref s0), (.ref s0)]))
    refine own_st (fun tg_ kg_ => XS.iloadN X52.here hx rfl (hb hby at_10) rfl kg_) ?_
    show own_Gl p e below _ (T52.setTop (mkF m 11 #[.val (.int i0), .val (.int i1), .val (.int i2), .val (.int i3), .val (.int (2 : Int32)), .unset, .unset, .unset, .unset, .unset] [(.int i1), .null, (.ref s0), (.ref s0)]))
    obtain ⟨_, _, ⟨T54, L54, k54, n54⟩, -, X54, ⟨Lc54, hQ54, l54, y54, z54⟩, st54⟩ := X52.specialBack hx (y := (⟨"com/example/ratably/ratably/calendar/Slice", "<init>", "(Lcom/example/ratably/ratably/calendar/Period;I)V"⟩ : MethodName)) rfl hown (mvT hZ (hw _ (List.mem_of_getElem? (i := 3) rfl))) (mvT hZ (hw _ (List.mem_of_getElem? (i := 4) rfl))) (mvT hZ (hw _ (List.mem_of_getElem? (i := 5) rfl))) (by decide) (backOf (W := 1) (own_rm_sl l Z a0 hw [] s0 i1 h52 n0 (Nat.le_trans Z0 E52.1) E_s0 F_period_s0 F_days_s0 g_s0) hZ (hw _ (List.mem_of_getElem? (i := 5) rfl)) (hw _ (List.mem_of_getElem? (i := 2) rfl)) (by decide) (by decide)) (g := (mkF m 11 #[.val (.int i0), .val (.int i1), .val (.int i2), .val (.int i3), .val (.int (2 : Int32)), .unset, .unset, .unset, .unset, .unset] [(.int i1), .null, (.ref s0), (.ref s0)])) rfl (by rw [hml]; rfl) (Steps.refl _) (a := s0) (argsL := [.null, (.int i1)]) (rest := [(.ref s0)]) (lenOf own_pd9 rfl) rfl (by show 2 * 0 + _ ≤ _; exact Nat.le_of_eq rfl) (hb hby at_11) (fun _ _ => ⟨rfl, e52, (by decide : 1 + 0 ≤ _), (by decide : 2 + 0 ≤ _)⟩)
    dsimp only [Pt.U, Pt.locs, Pt.cells, Pt.slots] at X54 l54 y54 z54 st54 hQ54
    subst l54 y54 z54
    obtain ⟨rfl, N54q, Kc54⟩ := hQ54
    have N54 := Fr.app N0 N54q
    refine own_tr st54 ?_
    replace E_s0 := E_s0.keep Kc54
    have K55 := own_ext_keep E52 Kc54 (allS sz_s0 all0)
    try clear Kc54
    try clear E52
    show own_Gl p e below _ (T54.setTop (mkF m 14 #[.val (.int i0), .val (.int i1), .val (.int i2), .val (.int i3), .val (.int (2 : Int32)), .unset, .unset, .unset, .unset, .unset] [(.ref s0)]))
    try clear st54
    try clear N54q
    try clear e52
    try clear X52
    try clear T52
    refine own_st (fun tg_ kg_ => XS.astore X54.here hx rfl (hb hby at_14) rfl rfl (l' := #[.val (.int i0), .val (.int i1), .val (.int i2), .val (.int i3), .val (.int (2 : Int32)), .val (.ref s0), .unset, .unset, .unset, .unset]) rfl kg_) ?_
    show own_Gl p e below _ (T54.setTop (mkF m 16 #[.val (.int i0), .val (.int i1), .val (.int i2), .val (.int i3), .val (.int (2 : Int32)), .val (.ref s0), .unset, .unset, .unset, .unset] []))
    obtain ⟨T56, h56, X56, e56, E56, A56, D56, -, st56⟩ := newO X54 hx hZ hown (hw _ (List.mem_of_getElem? (i := 0) rfl)) (hw _ (List.mem_of_getElem? (i := 1) rfl)) (hw _ (List.mem_of_getElem? (i := 2) rfl)) rfl (g := (mkF m 16 #[.val (.int i0), .val (.int i1), .val (.int i2), .val (.int i3), .val (.int (2 : Int32)), .val (.ref s0), .unset, .unset, .unset, .unset] [])) rfl (hb hby at_16) (by decide) (by decide)
    obtain ⟨s1, g56⟩ : ∃ z, z = T54.heap.size := ⟨_, rfl⟩
    have ne_aD_s1 : aD ≠ s1 := Nat.ne_of_lt (Nat.lt_of_lt_of_le (V_aD.ext K55).lt (Nat.le_of_eq g56.symm))
    have ne_one_s1 : one ≠ s1 := Nat.ne_of_lt (Nat.lt_of_lt_of_le (F_c.ext K55).lt (Nat.le_of_eq g56.symm))
    have ne_s0_s1 : s0 ≠ s1 := Nat.ne_of_lt (Nat.lt_of_lt_of_le E_s0.lt (Nat.le_of_eq g56.symm))
    have sz_s1 : h0.size ≤ s1 := (Nat.le_trans K55.1 (Nat.le_of_eq g56.symm))
    have g_s1 : n0 ≤ s1 := Nat.le_trans Z0 sz_s1
    rw [← g56] at A56 D56 st56
    replace E_s0 := E_s0.ext E56
    have K57 := own_ext_tr K55 E56
    try clear E56
    try clear K55
    have E_s1 := A56
    have F_period_s1 : Fld Z h56 s1 "com/example/ratably/ratably/calendar/Slice" "period" "Lcom/example/ratably/ratably/calendar/Period;" .null := D56 (Or.inr (hw _ (List.mem_of_getElem? (i := 10) rfl))) (ty := (.object "com/example/ratably/ratably/calendar/Period")) (by decide)
    have F_days_s1 : Fld Z h56 s1 "com/example/ratably/ratably/calendar/Slice" "days" "I" (.int (0 : Int32)) := D56 (Or.inr (hw _ (List.mem_of_getElem? (i := 12) rfl))) (ty := .int) (by decide)
    refine own_st st56 ?_
    try clear st56
    try clear X54
    try clear T54
    show own_Gl p e below _ (T56.setTop (mkF m 19 #[.val (.int i0), .val (.int i1), .val (.int i2), .val (.int i3), .val (.int (2 : Int32)), .val (.ref s0), .unset, .unset, .unset, .unset] [(.ref s1)]))
    refine own_st (fun tg_ kg_ => XS.dup X56.here hx rfl (hb hby at_19) rfl rfl kg_) ?_
    show own_Gl p e below _ (T56.setTop (mkF m 20 #[.val (.int i0), .val (.int i1), .val (.int i2), .val (.int i3), .val (.int (2 : Int32)), .val (.ref s0), .unset, .unset, .unset, .unset] [(.ref s1), (.ref s1)]))
    refine own_st (fun tg_ kg_ => XS.aconstNull X56.here hx rfl (hb hby at_20) kg_) ?_
    show own_Gl p e below _ (T56.setTop (mkF m 21 #[.val (.int i0), .val (.int i1), .val (.int i2), .val (.int i3), .val (.int (2 : Int32)), .val (.ref s0), .unset, .unset, .unset, .unset] [.null, (.ref s1), (.ref s1)]))
    refine own_st (fun tg_ kg_ => XS.iloadN X56.here hx rfl (hb hby at_21) rfl kg_) ?_
    show own_Gl p e below _ (T56.setTop (mkF m 22 #[.val (.int i0), .val (.int i1), .val (.int i2), .val (.int i3), .val (.int (2 : Int32)), .val (.ref s0), .unset, .unset, .unset, .unset] [(.int i2), .null, (.ref s1), (.ref s1)]))
    obtain ⟨_, _, ⟨T58, L58, k58, n58⟩, -, X58, ⟨Lc58, hQ58, l58, y58, z58⟩, st58⟩ := X56.specialBack hx (y := (⟨"com/example/ratably/ratably/calendar/Slice", "<init>", "(Lcom/example/ratably/ratably/calendar/Period;I)V"⟩ : MethodName)) rfl hown (mvT hZ (hw _ (List.mem_of_getElem? (i := 3) rfl))) (mvT hZ (hw _ (List.mem_of_getElem? (i := 4) rfl))) (mvT hZ (hw _ (List.mem_of_getElem? (i := 5) rfl))) (by decide) (backOf (W := 1) (own_rm_sl l Z a0 hw [] s1 i2 h56 n0 (Nat.le_trans Z0 K57.1) E_s1 F_period_s1 F_days_s1 g_s1) hZ (hw _ (List.mem_of_getElem? (i := 5) rfl)) (hw _ (List.mem_of_getElem? (i := 2) rfl)) (by decide) (by decide)) (g := (mkF m 22 #[.val (.int i0), .val (.int i1), .val (.int i2), .val (.int i3), .val (.int (2 : Int32)), .val (.ref s0), .unset, .unset, .unset, .unset] [(.int i2), .null, (.ref s1), (.ref s1)])) rfl (by rw [hml]; rfl) (Steps.refl _) (a := s1) (argsL := [.null, (.int i2)]) (rest := [(.ref s1)]) (lenOf own_pd9 rfl) rfl (by show 2 * 0 + _ ≤ _; exact Nat.le_of_eq rfl) (hb hby at_22) (fun _ _ => ⟨rfl, e56, (by decide : 2 + 0 ≤ _), (by decide : 4 + 0 ≤ _)⟩)
    dsimp only [Pt.U, Pt.locs, Pt.cells, Pt.slots] at X58 l58 y58 z58 st58 hQ58
    subst l58 y58 z58
    obtain ⟨rfl, N58q, Kc58⟩ := hQ58
    have N58 := Fr.app N54 N58q
    refine own_tr st58 ?_
    replace E_s0 := E_s0.keep Kc58
    replace E_s1 := E_s1.keep Kc58
    have K59 := own_ext_keep K57 Kc58 (allS sz_s1 all0)
    try clear Kc58
    try clear K57
    show own_Gl p e below _ (T58.setTop (mkF m 25 #[.val (.int i0), .val (.int i1), .val (.int i2), .val (.int i3), .val (.int (2 : Int32)), .val (.ref s0), .unset, .unset, .unset, .unset] [(.ref s1)]))
    try clear st58
    try clear N58q
    try clear N54
    try clear e56
    try clear X56
    try clear T56
    refine own_st (fun tg_ kg_ => XS.astore X58.here hx rfl (hb hby at_25) rfl rfl (l' := #[.val (.int i0), .val (.int i1), .val (.int i2), .val (.int i3), .val (.int (2 : Int32)), .val (.ref s0), .val (.ref s1), .unset, .unset, .unset]) rfl kg_) ?_
    show own_Gl p e below _ (T58.setTop (mkF m 27 #[.val (.int i0), .val (.int i1), .val (.int i2), .val (.int i3), .val (.int (2 : Int32)), .val (.ref s0), .val (.ref s1), .unset, .unset, .unset] []))
    obtain ⟨T60, h60, X60, e60, E60, A60, D60, -, st60⟩ := newO X58 hx hZ hown (hw _ (List.mem_of_getElem? (i := 0) rfl)) (hw _ (List.mem_of_getElem? (i := 1) rfl)) (hw _ (List.mem_of_getElem? (i := 2) rfl)) rfl (g := (mkF m 27 #[.val (.int i0), .val (.int i1), .val (.int i2), .val (.int i3), .val (.int (2 : Int32)), .val (.ref s0), .val (.ref s1), .unset, .unset, .unset] [])) rfl (hb hby at_27) (by decide) (by decide)
    obtain ⟨s2, g60⟩ : ∃ z, z = T58.heap.size := ⟨_, rfl⟩
    have ne_aD_s2 : aD ≠ s2 := Nat.ne_of_lt (Nat.lt_of_lt_of_le (V_aD.ext K59).lt (Nat.le_of_eq g60.symm))
    have ne_one_s2 : one ≠ s2 := Nat.ne_of_lt (Nat.lt_of_lt_of_le (F_c.ext K59).lt (Nat.le_of_eq g60.symm))
    have ne_s0_s2 : s0 ≠ s2 := Nat.ne_of_lt (Nat.lt_of_lt_of_le E_s0.lt (Nat.le_of_eq g60.symm))
    have ne_s1_s2 : s1 ≠ s2 := Nat.ne_of_lt (Nat.lt_of_lt_of_le E_s1.lt (Nat.le_of_eq g60.symm))
    have sz_s2 : h0.size ≤ s2 := (Nat.le_trans K59.1 (Nat.le_of_eq g60.symm))
    have g_s2 : n0 ≤ s2 := Nat.le_trans Z0 sz_s2
    rw [← g60] at A60 D60 st60
    replace E_s0 := E_s0.ext E60
    replace E_s1 := E_s1.ext E60
    have K61 := own_ext_tr K59 E60
    try clear E60
    try clear K59
    have E_s2 := A60
    have F_period_s2 : Fld Z h60 s2 "com/example/ratably/ratably/calendar/Slice" "period" "Lcom/example/ratably/ratably/calendar/Period;" .null := D60 (Or.inr (hw _ (List.mem_of_getElem? (i := 10) rfl))) (ty := (.object "com/example/ratably/ratably/calendar/Period")) (by decide)
    have F_days_s2 : Fld Z h60 s2 "com/example/ratably/ratably/calendar/Slice" "days" "I" (.int (0 : Int32)) := D60 (Or.inr (hw _ (List.mem_of_getElem? (i := 12) rfl))) (ty := .int) (by decide)
    refine own_st st60 ?_
    try clear st60
    try clear X58
    try clear T58
    show own_Gl p e below _ (T60.setTop (mkF m 30 #[.val (.int i0), .val (.int i1), .val (.int i2), .val (.int i3), .val (.int (2 : Int32)), .val (.ref s0), .val (.ref s1), .unset, .unset, .unset] [(.ref s2)]))
    refine own_st (fun tg_ kg_ => XS.dup X60.here hx rfl (hb hby at_30) rfl rfl kg_) ?_
    show own_Gl p e below _ (T60.setTop (mkF m 31 #[.val (.int i0), .val (.int i1), .val (.int i2), .val (.int i3), .val (.int (2 : Int32)), .val (.ref s0), .val (.ref s1), .unset, .unset, .unset] [(.ref s2), (.ref s2)]))
    refine own_st (fun tg_ kg_ => XS.aconstNull X60.here hx rfl (hb hby at_31) kg_) ?_
    show own_Gl p e below _ (T60.setTop (mkF m 32 #[.val (.int i0), .val (.int i1), .val (.int i2), .val (.int i3), .val (.int (2 : Int32)), .val (.ref s0), .val (.ref s1), .unset, .unset, .unset] [.null, (.ref s2), (.ref s2)]))
    refine own_st (fun tg_ kg_ => XS.iloadN X60.here hx rfl (hb hby at_32) rfl kg_) ?_
    show own_Gl p e below _ (T60.setTop (mkF m 33 #[.val (.int i0), .val (.int i1), .val (.int i2), .val (.int i3), .val (.int (2 : Int32)), .val (.ref s0), .val (.ref s1), .unset, .unset, .unset] [(.int i3), .null, (.ref s2), (.ref s2)]))
    obtain ⟨_, _, ⟨T62, L62, k62, n62⟩, -, X62, ⟨Lc62, hQ62, l62, y62, z62⟩, st62⟩ := X60.specialBack hx (y := (⟨"com/example/ratably/ratably/calendar/Slice", "<init>", "(Lcom/example/ratably/ratably/calendar/Period;I)V"⟩ : MethodName)) rfl hown (mvT hZ (hw _ (List.mem_of_getElem? (i := 3) rfl))) (mvT hZ (hw _ (List.mem_of_getElem? (i := 4) rfl))) (mvT hZ (hw _ (List.mem_of_getElem? (i := 5) rfl))) (by decide) (backOf (W := 1) (own_rm_sl l Z a0 hw [] s2 i3 h60 n0 (Nat.le_trans Z0 K61.1) E_s2 F_period_s2 F_days_s2 g_s2) hZ (hw _ (List.mem_of_getElem? (i := 5) rfl)) (hw _ (List.mem_of_getElem? (i := 2) rfl)) (by decide) (by decide)) (g := (mkF m 33 #[.val (.int i0), .val (.int i1), .val (.int i2), .val (.int i3), .val (.int (2 : Int32)), .val (.ref s0), .val (.ref s1), .unset, .unset, .unset] [(.int i3), .null, (.ref s2), (.ref s2)])) rfl (by rw [hml]; rfl) (Steps.refl _) (a := s2) (argsL := [.null, (.int i3)]) (rest := [(.ref s2)]) (lenOf own_pd9 rfl) rfl (by show 2 * 0 + _ ≤ _; exact Nat.le_of_eq rfl) (hb hby at_33) (fun _ _ => ⟨rfl, e60, (by decide : 3 + 0 ≤ _), (by decide : 6 + 0 ≤ _)⟩)
    dsimp only [Pt.U, Pt.locs, Pt.cells, Pt.slots] at X62 l62 y62 z62 st62 hQ62
    subst l62 y62 z62
    obtain ⟨rfl, N62q, Kc62⟩ := hQ62
    have N62 := Fr.app N58 N62q
    refine own_tr st62 ?_
    replace E_s0 := E_s0.keep Kc62
    replace E_s1 := E_s1.keep Kc62
    replace E_s2 := E_s2.keep Kc62
    have K63 := own_ext_keep K61 Kc62 (allS sz_s2 all0)
    try clear Kc62
    try clear K61
    show own_Gl p e below _ (T62.setTop (mkF m 36 #[.val (.int i0), .val (.int i1), .val (.int i2), .val (.int i3), .val (.int (2 : Int32)), .val (.ref s0), .val (.ref s1), .unset, .unset, .unset] [(.ref s2)]))
    try clear st62
    try clear N62q
    try clear N58
    try clear e60
    try clear X60
    try clear T60
    refine own_st (fun tg_ kg_ => XS.astore X62.here hx rfl (hb hby at_36) rfl rfl (l' := #[.val (.int i0), .val (.int i1), .val (.int i2), .val (.int i3), .val (.int (2 : Int32)), .val (.ref s0), .val (.ref s1), .val (.ref s2), .unset, .unset]) rfl kg_) ?_
    show own_Gl p e below _ (T62.setTop (mkF m 38 #[.val (.int i0), .val (.int i1), .val (.int i2), .val (.int i3), .val (.int (2 : Int32)), .val (.ref s0), .val (.ref s1), .val (.ref s2), .unset, .unset] []))
    obtain ⟨T64, h64, X64, e64, E64, A64, D64, -, st64⟩ := newO X62 hx hZ hown (hw _ (List.mem_of_getElem? (i := 13) rfl)) (hw _ (List.mem_of_getElem? (i := 14) rfl)) (hw _ (List.mem_of_getElem? (i := 15) rfl)) rfl (g := (mkF m 38 #[.val (.int i0), .val (.int i1), .val (.int i2), .val (.int i3), .val (.int (2 : Int32)), .val (.ref s0), .val (.ref s1), .val (.ref s2), .unset, .unset] [])) rfl (hb hby at_38) (by decide) (by decide)
    obtain ⟨a, g64⟩ : ∃ z, z = T62.heap.size := ⟨_, rfl⟩
    have ne_aD_a : aD ≠ a := Nat.ne_of_lt (Nat.lt_of_lt_of_le (V_aD.ext K63).lt (Nat.le_of_eq g64.symm))
    have ne_one_a : one ≠ a := Nat.ne_of_lt (Nat.lt_of_lt_of_le (F_c.ext K63).lt (Nat.le_of_eq g64.symm))
    have ne_s0_a : s0 ≠ a := Nat.ne_of_lt (Nat.lt_of_lt_of_le E_s0.lt (Nat.le_of_eq g64.symm))
    have ne_s1_a : s1 ≠ a := Nat.ne_of_lt (Nat.lt_of_lt_of_le E_s1.lt (Nat.le_of_eq g64.symm))
    have ne_s2_a : s2 ≠ a := Nat.ne_of_lt (Nat.lt_of_lt_of_le E_s2.lt (Nat.le_of_eq g64.symm))
    have sz_a : h0.size ≤ a := (Nat.le_trans K63.1 (Nat.le_of_eq g64.symm))
    have g_a : n0 ≤ a := Nat.le_trans Z0 sz_a
    rw [← g64] at A64 D64 st64
    replace E_s0 := E_s0.ext E64
    replace E_s1 := E_s1.ext E64
    replace E_s2 := E_s2.ext E64
    have K65 := own_ext_tr K63 E64
    try clear E64
    try clear K63
    have E_a := A64
    have F_modCount_a : Fld Z h64 a "java/util/AbstractList" "modCount" "I" (.int (0 : Int32)) := D64 (Or.inl (hw _ (List.mem_of_getElem? (i := 33) rfl))) (ty := .int) (by decide)
    have F_elementData_a : Fld Z h64 a "java/util/ArrayList" "elementData" "[Ljava/lang/Object;" .null := D64 (Or.inl (hw _ (List.mem_of_getElem? (i := 36) rfl))) (ty := (.array (.object "java/lang/Object"))) (by decide)
    have F_size_a : Fld Z h64 a "java/util/ArrayList" "size" "I" (.int (0 : Int32)) := D64 (Or.inl (hw _ (List.mem_of_getElem? (i := 59) rfl))) (ty := .int) (by decide)
    refine own_st st64 ?_
    try clear st64
    try clear X62
    try clear T62
    show own_Gl p e below _ (T64.setTop (mkF m 41 #[.val (.int i0), .val (.int i1), .val (.int i2), .val (.int i3), .val (.int (2 : Int32)), .val (.ref s0), .val (.ref s1), .val (.ref s2), .unset, .unset] [(.ref a)]))
    refine own_st (fun tg_ kg_ => XS.dup X64.here hx rfl (hb hby at_41) rfl rfl kg_) ?_
    show own_Gl p e below _ (T64.setTop (mkF m 42 #[.val (.int i0), .val (.int i1), .val (.int i2), .val (.int i3), .val (.int (2 : Int32)), .val (.ref s0), .val (.ref s1), .val (.ref s2), .unset, .unset] [(.ref a), (.ref a)]))
    obtain ⟨_, _, ⟨T66, L66, k66, n66⟩, -, X66, ⟨Lc66, hQ66, l66, y66, z66⟩, st66⟩ := X64.specialBack hx (y := (⟨"java/util/ArrayList", "<init>", "()V"⟩ : MethodName)) rfl hown (mvT hZ (hw _ (List.mem_of_getElem? (i := 16) rfl))) (mvT hZ (hw _ (List.mem_of_getElem? (i := 17) rfl))) (mvT hZ (hw _ (List.mem_of_getElem? (i := 18) rfl))) (by decide) (backOf (W := 1) (own_rm_ali l Z a0 hw [] a aD h64 n0 (Nat.le_trans Z0 K65.1) E_a F_modCount_a F_elementData_a F_size_a g_a (S_D.ext K65)) hZ (hw _ (List.mem_of_getElem? (i := 18) rfl)) (hw _ (List.mem_of_getElem? (i := 15) rfl)) (by decide) (by decide)) (g := (mkF m 42 #[.val (.int i0), .val (.int i1), .val (.int i2), .val (.int i3), .val (.int (2 : Int32)), .val (.ref s0), .val (.ref s1), .val (.ref s2), .unset, .unset] [(.ref a), (.ref a)])) rfl (by rw [hml]; rfl) (Steps.refl _) (a := a) (argsL := []) (rest := [(.ref a)]) (lenOf own_pd0 rfl) rfl (by show 2 * 0 + _ ≤ _; exact Nat.le_of_eq rfl) (hb hby at_42) (fun _ _ => ⟨rfl, e64, (by decide : 4 + 0 ≤ _), (by decide : 9 + 0 ≤ _)⟩)
    dsimp only [Pt.U, Pt.locs, Pt.cells, Pt.slots] at X66 l66 y66 z66 st66 hQ66
    subst l66 y66 z66
    obtain ⟨rfl, N66q, Kc66, F_m, F_e, F_s⟩ := hQ66
    have N66 := Fr.app N62 N66q
    refine own_tr st66 ?_
    replace E_s0 := E_s0.keep Kc66
    replace E_s1 := E_s1.keep Kc66
    replace E_s2 := E_s2.keep Kc66
    replace E_a := E_a.keep Kc66
    have K67 := own_ext_keep K65 Kc66 (allS sz_a all0)
    try clear Kc66
    try clear K65
    show own_Gl p e below _ (T66.setTop (mkF m 45 #[.val (.int i0), .val (.int i1), .val (.int i2), .val (.int i3), .val (.int (2 : Int32)), .val (.ref s0), .val (.ref s1), .val (.ref s2), .unset, .unset] [(.ref a)]))
    try clear st66
    try clear N66q
    try clear N62
    try clear e64
    try clear X64
    try clear T64
    refine own_st (fun tg_ kg_ => XS.astore X66.here hx rfl (hb hby at_45) rfl rfl (l' := #[.val (.int i0), .val (.int i1), .val (.int i2), .val (.int i3), .val (.int (2 : Int32)), .val (.ref s0), .val (.ref s1), .val (.ref s2), .val (.ref a), .unset]) rfl kg_) ?_
    show own_Gl p e below _ (T66.setTop (mkF m 47 #[.val (.int i0), .val (.int i1), .val (.int i2), .val (.int i3), .val (.int (2 : Int32)), .val (.ref s0), .val (.ref s1), .val (.ref s2), .val (.ref a), .unset] []))
    refine own_st (fun tg_ kg_ => XS.iload X66.here hx rfl (hb hby at_47) rfl kg_) ?_
    show own_Gl p e below _ (T66.setTop (mkF m 49 #[.val (.int i0), .val (.int i1), .val (.int i2), .val (.int i3), .val (.int (2 : Int32)), .val (.ref s0), .val (.ref s1), .val (.ref s2), .val (.ref a), .unset] [(.int (2 : Int32))]))
    refine own_st (fun tg_ kg_ => XS.iconst X66.here hx rfl (hb hby at_49) kg_) ?_
    show own_Gl p e below _ (T66.setTop (mkF m 50 #[.val (.int i0), .val (.int i1), .val (.int i2), .val (.int i3), .val (.int (2 : Int32)), .val (.ref s0), .val (.ref s1), .val (.ref s2), .val (.ref a), .unset] [(.int (1 : Int32)), (.int (2 : Int32))]))
    refine own_st (fun tg_ kg_ => XS.icmpNo X66.here hx rfl (hb hby at_50) rfl (flt ((by decide : ¬ ((2 : Int32) < (1 : Int32))))).1 kg_) ?_
    show own_Gl p e below _ (T66.setTop (mkF m 53 #[.val (.int i0), .val (.int i1), .val (.int i2), .val (.int i3), .val (.int (2 : Int32)), .val (.ref s0), .val (.ref s1), .val (.ref s2), .val (.ref a), .unset] []))
    refine own_st (fun tg_ kg_ => XS.aload X66.here hx rfl (hb hby at_53) rfl rfl kg_) ?_
    show own_Gl p e below _ (T66.setTop (mkF m 55 #[.val (.int i0), .val (.int i1), .val (.int i2), .val (.int i3), .val (.int (2 : Int32)), .val (.ref s0), .val (.ref s1), .val (.ref s2), .val (.ref a), .unset] [(.ref a)]))
    refine own_st (fun tg_ kg_ => XS.aload X66.here hx rfl (hb hby at_55) rfl rfl kg_) ?_
    show own_Gl p e below _ (T66.setTop (mkF m 57 #[.val (.int i0), .val (.int i1), .val (.int i2), .val (.int i3), .val (.int (2 : Int32)), .val (.ref s0), .val (.ref s1), .val (.ref s2), .val (.ref a), .unset] [(.ref s0), (.ref a)]))
    obtain ⟨cq68, kq68, q68a, q68b, q68c⟩ := isOf hZ rfl E_a
    obtain ⟨_, _, ⟨T68, L68, k68, n68⟩, -, X68, ⟨Lc68, hQ68, l68, y68, z68⟩, st68⟩ := X66.virtualBack hx (y := (⟨"java/util/ArrayList", "add", "(Ljava/lang/Object;)Z"⟩ : MethodName)) (z := (⟨"java/util/ArrayList", "add", "(Ljava/lang/Object;)Z"⟩ : MethodName)) hown (mvT hZ (hw _ (List.mem_of_getElem? (i := 68) rfl))) (mvT hZ (hw _ (List.mem_of_getElem? (i := 69) rfl))) (notFace_of_selects (args := #[]) (mvT hZ (hw _ (List.mem_of_getElem? (i := 71) rfl)))) (mvT hZ (hw _ (List.mem_of_getElem? (i := 71) rfl))) (mvT hZ (hw _ (List.mem_of_getElem? (i := 70) rfl))) (by decide) (backOf (W := 0) (own_rm_adA l Z a0 hw [] a s0 aD kD (0 : Int32) T66.heap n0 (Nat.le_trans Z0 K67.1) E_a F_m F_e F_s g_a (S_D.ext K67) (V_aD.ext K67) (ne_aD_a.symm) E_s0) hZ (hw _ (List.mem_of_getElem? (i := 72) rfl)) (hw _ (List.mem_of_getElem? (i := 15) rfl)) (by decide) (by decide)) q68a q68c (g := (mkF m 57 #[.val (.int i0), .val (.int i1), .val (.int i2), .val (.int i3), .val (.int (2 : Int32)), .val (.ref s0), .val (.ref s1), .val (.ref s2), .val (.ref a), .unset] [(.ref s0), (.ref a)])) rfl (by rw [hml]; rfl) (Steps.refl _) (argsL := [(.ref s0)]) (rest := []) (lenOf own_pd11 rfl) rfl (by show 2 * 0 + _ ≤ _; exact Nat.le_of_eq rfl) (hb hby at_57) (fun _ _ => ⟨rfl, rfl, (by decide : 4 + 1 ≤ _), (by decide : 9 + 10 ≤ _)⟩)
    dsimp only [Pt.U, Pt.locs, Pt.cells, Pt.slots] at X68 l68 y68 z68 st68 hQ68
    subst l68 y68 z68
    obtain ⟨rfl, ⟨b, kb, szc68, V_b, O_b, F_m, F_e, F_s⟩, N68q, Kc68⟩ := hQ68
    have N68 := Fr.app N66 N68q
    refine own_tr st68 ?_
    have ne_aD_b : aD ≠ b := Nat.ne_of_lt (Nat.lt_of_lt_of_le (V_aD.ext K67).lt szc68)
    have ne_one_b : one ≠ b := Nat.ne_of_lt (Nat.lt_of_lt_of_le (F_c.ext K67).lt szc68)
    have ne_s0_b : s0 ≠ b := Nat.ne_of_lt (Nat.lt_of_lt_of_le E_s0.lt szc68)
    have ne_s1_b : s1 ≠ b := Nat.ne_of_lt (Nat.lt_of_lt_of_le E_s1.lt szc68)
    have ne_s2_b : s2 ≠ b := Nat.ne_of_lt (Nat.lt_of_lt_of_le E_s2.lt szc68)
    have ne_a_b : a ≠ b := Nat.ne_of_lt (Nat.lt_of_lt_of_le E_a.lt szc68)
    have sz_b : h0.size ≤ b := Nat.le_trans K67.1 szc68
    have g_b : n0 ≤ b := Nat.le_trans Z0 sz_b
    replace E_s0 := E_s0.keep Kc68
    replace E_s1 := E_s1.keep Kc68
    replace E_s2 := E_s2.keep Kc68
    replace E_a := E_a.keep Kc68
    have K69 := own_ext_keep K67 Kc68 (allS sz_a all0)
    try clear Kc68
    try clear K67
    show own_Gl p e below _ (T68.setTop (mkF m 60 #[.val (.int i0), .val (.int i1), .val (.int i2), .val (.int i3), .val (.int (2 : Int32)), .val (.ref s0), .val (.ref s1), .val (.ref s2), .val (.ref a), .unset] [(.int (1 : Int32))]))
    try clear st68
    try clear N68q
    try clear N66
    try clear X66
    try clear T66
    refine own_st (fun tg_ kg_ => XS.pop X68.here hx rfl (hb hby at_60) rfl rfl kg_) ?_
    show own_Gl p e below _ (T68.setTop (mkF m 61 #[.val (.int i0), .val (.int i1), .val (.int i2), .val (.int i3), .val (.int (2 : Int32)), .val (.ref s0), .val (.ref s1), .val (.ref s2), .val (.ref a), .unset] []))
    refine own_st (fun tg_ kg_ => XS.iload X68.here hx rfl (hb hby at_61) rfl kg_) ?_
    show own_Gl p e below _ (T68.setTop (mkF m 63 #[.val (.int i0), .val (.int i1), .val (.int i2), .val (.int i3), .val (.int (2 : Int32)), .val (.ref s0), .val (.ref s1), .val (.ref s2), .val (.ref a), .unset] [(.int (2 : Int32))]))
    refine own_st (fun tg_ kg_ => XS.iconst X68.here hx rfl (hb hby at_63) kg_) ?_
    show own_Gl p e below _ (T68.setTop (mkF m 64 #[.val (.int i0), .val (.int i1), .val (.int i2), .val (.int i3), .val (.int (2 : Int32)), .val (.ref s0), .val (.ref s1), .val (.ref s2), .val (.ref a), .unset] [(.int (2 : Int32)), (.int (2 : Int32))]))
    refine own_st (fun tg_ kg_ => XS.icmpNo X68.here hx rfl (hb hby at_64) rfl (flt ((by decide : ¬ ((2 : Int32) < (2 : Int32))))).1 kg_) ?_
    show own_Gl p e below _ (T68.setTop (mkF m 67 #[.val (.int i0), .val (.int i1), .val (.int i2), .val (.int i3), .val (.int (2 : Int32)), .val (.ref s0), .val (.ref s1), .val (.ref s2), .val (.ref a), .unset] []))
    refine own_st (fun tg_ kg_ => XS.aload X68.here hx rfl (hb hby at_67) rfl rfl kg_) ?_
    show own_Gl p e below _ (T68.setTop (mkF m 69 #[.val (.int i0), .val (.int i1), .val (.int i2), .val (.int i3), .val (.int (2 : Int32)), .val (.ref s0), .val (.ref s1), .val (.ref s2), .val (.ref a), .unset] [(.ref a)]))
    refine own_st (fun tg_ kg_ => XS.aload X68.here hx rfl (hb hby at_69) rfl rfl kg_) ?_
    show own_Gl p e below _ (T68.setTop (mkF m 71 #[.val (.int i0), .val (.int i1), .val (.int i2), .val (.int i3), .val (.int (2 : Int32)), .val (.ref s0), .val (.ref s1), .val (.ref s2), .val (.ref a), .unset] [(.ref s1), (.ref a)]))
    obtain ⟨cq70, kq70, q70a, q70b, q70c⟩ := isOf hZ rfl E_a
    obtain ⟨_, _, ⟨T70, L70, k70, n70⟩, -, X70, ⟨Lc70, hQ70, l70, y70, z70⟩, st70⟩ := X68.virtualBack hx (y := (⟨"java/util/ArrayList", "add", "(Ljava/lang/Object;)Z"⟩ : MethodName)) (z := (⟨"java/util/ArrayList", "add", "(Ljava/lang/Object;)Z"⟩ : MethodName)) hown (mvT hZ (hw _ (List.mem_of_getElem? (i := 68) rfl))) (mvT hZ (hw _ (List.mem_of_getElem? (i := 69) rfl))) (notFace_of_selects (args := #[]) (mvT hZ (hw _ (List.mem_of_getElem? (i := 71) rfl)))) (mvT hZ (hw _ (List.mem_of_getElem? (i := 71) rfl))) (mvT hZ (hw _ (List.mem_of_getElem? (i := 70) rfl))) (by decide) (backOf (W := 0) (own_rm_adB1 l Z a0 hw [] a s1 b kb ((0 : Int32) + (1 : Int32)) (.ref s0) T68.heap n0 (Nat.le_trans Z0 K69.1) E_a F_m F_e F_s g_a V_b O_b ne_a_b g_b E_s1) hZ (hw _ (List.mem_of_getElem? (i := 72) rfl)) (hw _ (List.mem_of_getElem? (i := 15) rfl)) (by decide) (by decide)) q70a q70c (g := (mkF m 71 #[.val (.int i0), .val (.int i1), .val (.int i2), .val (.int i3), .val (.int (2 : Int32)), .val (.ref s0), .val (.ref s1), .val (.ref s2), .val (.ref a), .unset] [(.ref s1), (.ref a)])) rfl (by rw [hml]; rfl) (Steps.refl _) (argsL := [(.ref s1)]) (rest := []) (lenOf own_pd11 rfl) rfl (by show 2 * 0 + _ ≤ _; exact Nat.le_of_eq rfl) (hb hby at_71) (fun _ _ => ⟨rfl, rfl, (by decide : 5 + 0 ≤ _), (by decide : 19 + 0 ≤ _)⟩)
    dsimp only [Pt.U, Pt.locs, Pt.cells, Pt.slots] at X70 l70 y70 z70 st70 hQ70
    subst l70 y70 z70
    obtain ⟨rfl, V_b, F_m, F_e, F_s, N70q, Kc70⟩ := hQ70
    have N70 := Fr.app N68 N70q
    refine own_tr st70 ?_
    replace E_s0 := E_s0.keep Kc70
    replace E_s1 := E_s1.keep Kc70
    replace E_s2 := E_s2.keep Kc70
    replace E_a := E_a.keep Kc70
    have K71 := own_ext_keep K69 Kc70 (allS sz_a (allS sz_b all0))
    try clear Kc70
    try clear K69
    show own_Gl p e below _ (T70.setTop (mkF m 74 #[.val (.int i0), .val (.int i1), .val (.int i2), .val (.int i3), .val (.int (2 : Int32)), .val (.ref s0), .val (.ref s1), .val (.ref s2), .val (.ref a), .unset] [(.int (1 : Int32))]))
    try clear st70
    try clear N70q
    try clear N68
    try clear X68
    try clear T68
    refine own_st (fun tg_ kg_ => XS.pop X70.here hx rfl (hb hby at_74) rfl rfl kg_) ?_
    show own_Gl p e below _ (T70.setTop (mkF m 75 #[.val (.int i0), .val (.int i1), .val (.int i2), .val (.int i3), .val (.int (2 : Int32)), .val (.ref s0), .val (.ref s1), .val (.ref s2), .val (.ref a), .unset] []))
    refine own_st (fun tg_ kg_ => XS.iload X70.here hx rfl (hb hby at_75) rfl kg_) ?_
    show own_Gl p e below _ (T70.setTop (mkF m 77 #[.val (.int i0), .val (.int i1), .val (.int i2), .val (.int i3), .val (.int (2 : Int32)), .val (.ref s0), .val (.ref s1), .val (.ref s2), .val (.ref a), .unset] [(.int (2 : Int32))]))
    refine own_st (fun tg_ kg_ => XS.iconst X70.here hx rfl (hb hby at_77) kg_) ?_
    show own_Gl p e below _ (T70.setTop (mkF m 78 #[.val (.int i0), .val (.int i1), .val (.int i2), .val (.int i3), .val (.int (2 : Int32)), .val (.ref s0), .val (.ref s1), .val (.ref s2), .val (.ref a), .unset] [(.int (3 : Int32)), (.int (2 : Int32))]))
    refine own_st (fun tg_ kg_ => XS.icmpYes X70.here hx rfl (pc0 := 78) (pc' := 89) rfl (hb hby at_78) rfl (tlt ((by decide : (2 : Int32) < (3 : Int32)))).1 (by decide) (by decide) kg_) ?_
    show own_Gl p e below _ (T70.setTop (mkF m 89 #[.val (.int i0), .val (.int i1), .val (.int i2), .val (.int i3), .val (.int (2 : Int32)), .val (.ref s0), .val (.ref s1), .val (.ref s2), .val (.ref a), .unset] []))
    obtain ⟨T72, h72, X72, e72, E72, A72, D72, -, st72⟩ := newO X70 hx hZ hown (hw _ (List.mem_of_getElem? (i := 37) rfl)) (hw _ (List.mem_of_getElem? (i := 38) rfl)) (hw _ (List.mem_of_getElem? (i := 39) rfl)) rfl (g := (mkF m 89 #[.val (.int i0), .val (.int i1), .val (.int i2), .val (.int i3), .val (.int (2 : Int32)), .val (.ref s0), .val (.ref s1), .val (.ref s2), .val (.ref a), .unset] [])) rfl (hb hby at_89) (by decide) (by decide)
    obtain ⟨pt, g72⟩ : ∃ z, z = T70.heap.size := ⟨_, rfl⟩
    have ne_aD_pt : aD ≠ pt := Nat.ne_of_lt (Nat.lt_of_lt_of_le (V_aD.ext K71).lt (Nat.le_of_eq g72.symm))
    have ne_one_pt : one ≠ pt := Nat.ne_of_lt (Nat.lt_of_lt_of_le (F_c.ext K71).lt (Nat.le_of_eq g72.symm))
    have ne_s0_pt : s0 ≠ pt := Nat.ne_of_lt (Nat.lt_of_lt_of_le E_s0.lt (Nat.le_of_eq g72.symm))
    have ne_s1_pt : s1 ≠ pt := Nat.ne_of_lt (Nat.lt_of_lt_of_le E_s1.lt (Nat.le_of_eq g72.symm))
    have ne_s2_pt : s2 ≠ pt := Nat.ne_of_lt (Nat.lt_of_lt_of_le E_s2.lt (Nat.le_of_eq g72.symm))
    have ne_a_pt : a ≠ pt := Nat.ne_of_lt (Nat.lt_of_lt_of_le E_a.lt (Nat.le_of_eq g72.symm))
    have ne_b_pt : b ≠ pt := Nat.ne_of_lt (Nat.lt_of_lt_of_le V_b.lt (Nat.le_of_eq g72.symm))
    have sz_pt : h0.size ≤ pt := (Nat.le_trans K71.1 (Nat.le_of_eq g72.symm))
    have g_pt : n0 ≤ pt := Nat.le_trans Z0 sz_pt
    rw [← g72] at A72 D72 st72
    replace E_s0 := E_s0.ext E72
    replace E_s1 := E_s1.ext E72
    replace E_s2 := E_s2.ext E72
    replace E_a := E_a.ext E72
    replace F_m := F_m.ext E72
    replace F_e := F_e.ext E72
    replace F_s := F_s.ext E72
    replace V_b := V_b.ext E72
    have K73 := own_ext_tr K71 E72
    try clear E72
    try clear K71
    have E_pt := A72
    refine own_st st72 ?_
    try clear st72
    try clear X70
    try clear T70
    show own_Gl p e below _ (T72.setTop (mkF m 92 #[.val (.int i0), .val (.int i1), .val (.int i2), .val (.int i3), .val (.int (2 : Int32)), .val (.ref s0), .val (.ref s1), .val (.ref s2), .val (.ref a), .unset] [(.ref pt)]))
    refine own_st (fun tg_ kg_ => XS.dup X72.here hx rfl (hb hby at_92) rfl rfl kg_) ?_
    show own_Gl p e below _ (T72.setTop (mkF m 93 #[.val (.int i0), .val (.int i1), .val (.int i2), .val (.int i3), .val (.int (2 : Int32)), .val (.ref s0), .val (.ref s1), .val (.ref s2), .val (.ref a), .unset] [(.ref pt), (.ref pt)]))
    obtain ⟨_, _, ⟨T74, L74, k74, n74⟩, -, X74, ⟨Lc74, hQ74, l74, y74, z74⟩, st74⟩ := X72.specialBack hx (y := (⟨"com/example/ratably/ratably/method/EvenPeriods", "<init>", "()V"⟩ : MethodName)) rfl hown (mvT hZ (hw _ (List.mem_of_getElem? (i := 40) rfl))) (mvT hZ (hw _ (List.mem_of_getElem? (i := 41) rfl))) (mvT hZ (hw _ (List.mem_of_getElem? (i := 42) rfl))) (by decide) (backOf (W := 1) (own_rm_epi l Z a0 hw [] pt h72 n0 (Nat.le_trans Z0 K73.1)) hZ (hw _ (List.mem_of_getElem? (i := 42) rfl)) (hw _ (List.mem_of_getElem? (i := 39) rfl)) (by decide) (by decide)) (g := (mkF m 93 #[.val (.int i0), .val (.int i1), .val (.int i2), .val (.int i3), .val (.int (2 : Int32)), .val (.ref s0), .val (.ref s1), .val (.ref s2), .val (.ref a), .unset] [(.ref pt), (.ref pt)])) rfl (by rw [hml]; rfl) (Steps.refl _) (a := pt) (argsL := []) (rest := [(.ref pt)]) (lenOf own_pd0 rfl) rfl (by show 2 * 0 + _ ≤ _; exact Nat.le_of_eq rfl) (hb hby at_93) (fun _ _ => ⟨rfl, e72, (by decide : 6 + 0 ≤ _), (by decide : 19 + 0 ≤ _)⟩)
    dsimp only [Pt.U, Pt.locs, Pt.cells, Pt.slots] at X74 l74 y74 z74 st74 hQ74
    subst l74 y74 z74
    obtain ⟨rfl, N74q, e74⟩ := hQ74
    have N74 := Fr.app N70 N74q
    refine own_tr st74 ?_
    show own_Gl p e below _ (T74.setTop (mkF m 96 #[.val (.int i0), .val (.int i1), .val (.int i2), .val (.int i3), .val (.int (2 : Int32)), .val (.ref s0), .val (.ref s1), .val (.ref s2), .val (.ref a), .unset] [(.ref pt)]))
    try clear st74
    try clear N74q
    try clear N70
    try clear e72
    try clear X72
    try clear T72
    refine own_st (fun tg_ kg_ => XS.aload X74.here hx rfl (hb hby at_96) rfl rfl kg_) ?_
    show own_Gl p e below _ (T74.setTop (mkF m 98 #[.val (.int i0), .val (.int i1), .val (.int i2), .val (.int i3), .val (.int (2 : Int32)), .val (.ref s0), .val (.ref s1), .val (.ref s2), .val (.ref a), .unset] [(.ref a), (.ref pt)]))
    obtain ⟨cq75, kq75, q75a, q75b, q75c⟩ := isOf hZ e74 E_pt
    obtain ⟨_, _, ⟨T75, L75, k75, n75⟩, -, X75, ⟨Lc75, hQ75, l75, y75, z75⟩, st75⟩ := X74.virtualBack hx (y := (⟨"com/example/ratably/ratably/method/EvenPeriods", "weights", "(Ljava/util/List;)[Ljava/math/BigDecimal;"⟩ : MethodName)) (z := (⟨"com/example/ratably/ratably/method/EvenPeriods", "weights", "(Ljava/util/List;)[Ljava/math/BigDecimal;"⟩ : MethodName)) hown (mvT hZ (hw _ (List.mem_of_getElem? (i := 44) rfl))) (mvT hZ (hw _ (List.mem_of_getElem? (i := 45) rfl))) (notFace_of_selects (args := #[]) (mvT hZ (hw _ (List.mem_of_getElem? (i := 47) rfl)))) (mvT hZ (hw _ (List.mem_of_getElem? (i := 47) rfl))) (mvT hZ (hw _ (List.mem_of_getElem? (i := 46) rfl))) (by decide) (backOf (W := 0) (own_rm_wei2 l Z a0 hw [] pt a one h72 n0 (Nat.le_trans Z0 K73.1) E_a F_s (S_1.ext K73) (E_1.ext K73)) hZ (hw _ (List.mem_of_getElem? (i := 48) rfl)) (hw _ (List.mem_of_getElem? (i := 39) rfl)) (by decide) (by decide)) q75a q75c (g := (mkF m 98 #[.val (.int i0), .val (.int i1), .val (.int i2), .val (.int i3), .val (.int (2 : Int32)), .val (.ref s0), .val (.ref s1), .val (.ref s2), .val (.ref a), .unset] [(.ref a), (.ref pt)])) rfl (by rw [hml]; rfl) (Steps.refl _) (argsL := [(.ref a)]) (rest := []) (lenOf own_pd10 rfl) rfl (by show 2 * 0 + _ ≤ _; exact Nat.le_of_eq rfl) (hb hby at_98) (fun _ _ => ⟨rfl, e74, (by decide : 6 + 1 ≤ _), (by decide : 19 + 2 ≤ _)⟩)
    dsimp only [Pt.U, Pt.locs, Pt.cells, Pt.slots] at X75 l75 y75 z75 st75 hQ75
    subst l75 y75 z75
    obtain ⟨⟨w, kw, rfl, szc75, V_w⟩, N75q, Kc75⟩ := hQ75
    have N75 := Fr.app N74 N75q
    refine own_tr st75 ?_
    have ne_aD_w : aD ≠ w := Nat.ne_of_lt (Nat.lt_of_lt_of_le (V_aD.ext K73).lt szc75)
    have ne_one_w : one ≠ w := Nat.ne_of_lt (Nat.lt_of_lt_of_le (F_c.ext K73).lt szc75)
    have ne_s0_w : s0 ≠ w := Nat.ne_of_lt (Nat.lt_of_lt_of_le E_s0.lt szc75)
    have ne_s1_w : s1 ≠ w := Nat.ne_of_lt (Nat.lt_of_lt_of_le E_s1.lt szc75)
    have ne_s2_w : s2 ≠ w := Nat.ne_of_lt (Nat.lt_of_lt_of_le E_s2.lt szc75)
    have ne_a_w : a ≠ w := Nat.ne_of_lt (Nat.lt_of_lt_of_le E_a.lt szc75)
    have ne_b_w : b ≠ w := Nat.ne_of_lt (Nat.lt_of_lt_of_le V_b.lt szc75)
    have ne_pt_w : pt ≠ w := Nat.ne_of_lt (Nat.lt_of_lt_of_le E_pt.lt szc75)
    have sz_w : h0.size ≤ w := Nat.le_trans K73.1 szc75
    have g_w : n0 ≤ w := Nat.le_trans Z0 sz_w
    replace E_s0 := E_s0.ext Kc75
    replace E_s1 := E_s1.ext Kc75
    replace E_s2 := E_s2.ext Kc75
    replace E_a := E_a.ext Kc75
    replace F_m := F_m.ext Kc75
    replace F_e := F_e.ext Kc75
    replace F_s := F_s.ext Kc75
    replace V_b := V_b.ext Kc75
    replace E_pt := E_pt.ext Kc75
    have K76 := own_ext_tr K73 Kc75
    try clear Kc75
    try clear K73
    show own_Gl p e below _ (T75.setTop (mkF m 101 #[.val (.int i0), .val (.int i1), .val (.int i2), .val (.int i3), .val (.int (2 : Int32)), .val (.ref s0), .val (.ref s1), .val (.ref s2), .val (.ref a), .unset] [(.ref w)]))
    try clear st75
    try clear N75q
    try clear N74
    try clear e74
    try clear X74
    try clear T74
    refine own_st (fun tg_ kg_ => XS.astore X75.here hx rfl (hb hby at_101) rfl rfl (l' := #[.val (.int i0), .val (.int i1), .val (.int i2), .val (.int i3), .val (.int (2 : Int32)), .val (.ref s0), .val (.ref s1), .val (.ref s2), .val (.ref a), .val (.ref w)]) rfl kg_) ?_
    show own_Gl p e below _ (T75.setTop (mkF m 103 #[.val (.int i0), .val (.int i1), .val (.int i2), .val (.int i3), .val (.int (2 : Int32)), .val (.ref s0), .val (.ref s1), .val (.ref s2), .val (.ref a), .val (.ref w)] []))
    refine own_st (fun tg_ kg_ => XS.aload X75.here hx rfl (hb hby at_103) rfl rfl kg_) ?_
    show own_Gl p e below _ (T75.setTop (mkF m 105 #[.val (.int i0), .val (.int i1), .val (.int i2), .val (.int i3), .val (.int (2 : Int32)), .val (.ref s0), .val (.ref s1), .val (.ref s2), .val (.ref a), .val (.ref w)] [(.ref w)]))
    refine own_st (fun tg_ kg_ => XT.nullNo X75.here hx rfl (hb hby at_105) rfl rfl nofun kg_) ?_
    show own_Gl p e below _ (T75.setTop (mkF m 108 #[.val (.int i0), .val (.int i1), .val (.int i2), .val (.int i3), .val (.int (2 : Int32)), .val (.ref s0), .val (.ref s1), .val (.ref s2), .val (.ref a), .val (.ref w)] []))
    refine own_st (fun tg_ kg_ => XS.aload X75.here hx rfl (hb hby at_108) rfl rfl kg_) ?_
    show own_Gl p e below _ (T75.setTop (mkF m 110 #[.val (.int i0), .val (.int i1), .val (.int i2), .val (.int i3), .val (.int (2 : Int32)), .val (.ref s0), .val (.ref s1), .val (.ref s2), .val (.ref a), .val (.ref w)] [(.ref w)]))
    obtain ⟨cl77, Ar77, qa77, Sa77, Na77, Ha77, Ga77⟩ := id V_w
    refine own_st (fun tg_ kg_ => X75.arraylength hx Ar77.1 (State.isArrayOf_alike hZ.alike Ar77.2.1) (g := (mkF m 110 #[.val (.int i0), .val (.int i1), .val (.int i2), .val (.int i3), .val (.int (2 : Int32)), .val (.ref s0), .val (.ref s1), .val (.ref s2), .val (.ref a), .val (.ref w)] [(.ref w)])) rfl rfl (hb hby at_110) _ kg_) ?_
    rw [len_of Sa77 Na77]
    show own_Gl p e below _ (T75.setTop (mkF m 111 #[.val (.int i0), .val (.int i1), .val (.int i2), .val (.int i3), .val (.int (2 : Int32)), .val (.ref s0), .val (.ref s1), .val (.ref s2), .val (.ref a), .val (.ref w)] [(.int (2 : Int32))]))
    refine own_st (fun tg_ kg_ => XS.iload X75.here hx rfl (hb hby at_111) rfl kg_) ?_
    show own_Gl p e below _ (T75.setTop (mkF m 113 #[.val (.int i0), .val (.int i1), .val (.int i2), .val (.int i3), .val (.int (2 : Int32)), .val (.ref s0), .val (.ref s1), .val (.ref s2), .val (.ref a), .val (.ref w)] [(.int (2 : Int32)), (.int (2 : Int32))]))
    refine own_st (fun tg_ kg_ => XS.icmpYes X75.here hx rfl (pc0 := 113) (pc' := 118) rfl (hb hby at_113) rfl (teq ((rfl : (2 : Int32) = (2 : Int32)))).1 (by decide) (by decide) kg_) ?_
    show own_Gl p e below _ (T75.setTop (mkF m 118 #[.val (.int i0), .val (.int i1), .val (.int i2), .val (.int i3), .val (.int (2 : Int32)), .val (.ref s0), .val (.ref s1), .val (.ref s2), .val (.ref a), .val (.ref w)] []))
    refine own_st (fun tg_ kg_ => XS.iload X75.here hx rfl (hb hby at_118) rfl kg_) ?_
    show own_Gl p e below _ (T75.setTop (mkF m 120 #[.val (.int i0), .val (.int i1), .val (.int i2), .val (.int i3), .val (.int (2 : Int32)), .val (.ref s0), .val (.ref s1), .val (.ref s2), .val (.ref a), .val (.ref w)] [(.int (2 : Int32))]))
    refine own_st (fun tg_ kg_ => XS.ifYes X75.here hx rfl (pc0 := 120) (pc' := 125) rfl (hb hby at_120) rfl ((if0 _ _).trans (feq ((by decide : ¬ ((2 : Int32) = (0 : Int32))))).2) (by decide) (by decide) kg_) ?_
    show own_Gl p e below _ (T75.setTop (mkF m 125 #[.val (.int i0), .val (.int i1), .val (.int i2), .val (.int i3), .val (.int (2 : Int32)), .val (.ref s0), .val (.ref s1), .val (.ref s2), .val (.ref a), .val (.ref w)] []))
    refine own_st (fun tg_ kg_ => XS.aload X75.here hx rfl (hb hby at_125) rfl rfl kg_) ?_
    show own_Gl p e below _ (T75.setTop (mkF m 127 #[.val (.int i0), .val (.int i1), .val (.int i2), .val (.int i3), .val (.int (2 : Int32)), .val (.ref s0), .val (.ref s1), .val (.ref s2), .val (.ref a), .val (.ref w)] [(.ref w)]))
    refine own_st (fun tg_ kg_ => XS.iconst X75.here hx rfl (hb hby at_127) kg_) ?_
    show own_Gl p e below _ (T75.setTop (mkF m 128 #[.val (.int i0), .val (.int i1), .val (.int i2), .val (.int i3), .val (.int (2 : Int32)), .val (.ref s0), .val (.ref s1), .val (.ref s2), .val (.ref a), .val (.ref w)] [(.int (0 : Int32)), (.ref w)]))
    obtain ⟨cl78, Ar78, qa78, Sa78, Na78, Ha78, Ga78⟩ := id V_w
    have hin79 : ¬ ((0 : Int32) < 0 ∨ cl78.slots.size ≤ ((0 : Int32)).toNatClampNeg) := inb_of Sa78 ⟨by decide, by decide⟩
    have hat79 : cl78.slots[((0 : Int32)).toNatClampNeg]? = some (.ref one) := Has.at Ha78 hin79 rfl
    refine own_st (fun tg_ kg_ => X75.aaload hx (j := (0 : Int32)) (v := (.ref one)) Ar78.1 (State.isArrayOf_alike hZ.alike Ar78.2.1) rfl Ar78.2.2 hin79 hat79 (g := (mkF m 128 #[.val (.int i0), .val (.int i1), .val (.int i2), .val (.int i3), .val (.int (2 : Int32)), .val (.ref s0), .val (.ref s1), .val (.ref s2), .val (.ref a), .val (.ref w)] [(.int (0 : Int32)), (.ref w)])) rfl rfl (hb hby at_128) _ kg_) ?_
    show own_Gl p e below _ (T75.setTop (mkF m 129 #[.val (.int i0), .val (.int i1), .val (.int i2), .val (.int i3), .val (.int (2 : Int32)), .val (.ref s0), .val (.ref s1), .val (.ref s2), .val (.ref a), .val (.ref w)] [(.ref one)]))
    refine own_st (fun tg_ kg_ => XT.nullNo X75.here hx rfl (hb hby at_129) rfl rfl nofun kg_) ?_
    show own_Gl p e below _ (T75.setTop (mkF m 132 #[.val (.int i0), .val (.int i1), .val (.int i2), .val (.int i3), .val (.int (2 : Int32)), .val (.ref s0), .val (.ref s1), .val (.ref s2), .val (.ref a), .val (.ref w)] []))
    refine own_st (fun tg_ kg_ => XS.aload X75.here hx rfl (hb hby at_132) rfl rfl kg_) ?_
    show own_Gl p e below _ (T75.setTop (mkF m 134 #[.val (.int i0), .val (.int i1), .val (.int i2), .val (.int i3), .val (.int (2 : Int32)), .val (.ref s0), .val (.ref s1), .val (.ref s2), .val (.ref a), .val (.ref w)] [(.ref w)]))
    refine own_st (fun tg_ kg_ => XS.iconst X75.here hx rfl (hb hby at_134) kg_) ?_
    show own_Gl p e below _ (T75.setTop (mkF m 135 #[.val (.int i0), .val (.int i1), .val (.int i2), .val (.int i3), .val (.int (2 : Int32)), .val (.ref s0), .val (.ref s1), .val (.ref s2), .val (.ref a), .val (.ref w)] [(.int (0 : Int32)), (.ref w)]))
    obtain ⟨cl80, Ar80, qa80, Sa80, Na80, Ha80, Ga80⟩ := id V_w
    have hin81 : ¬ ((0 : Int32) < 0 ∨ cl80.slots.size ≤ ((0 : Int32)).toNatClampNeg) := inb_of Sa80 ⟨by decide, by decide⟩
    have hat81 : cl80.slots[((0 : Int32)).toNatClampNeg]? = some (.ref one) := Has.at Ha80 hin81 rfl
    refine own_st (fun tg_ kg_ => X75.aaload hx (j := (0 : Int32)) (v := (.ref one)) Ar80.1 (State.isArrayOf_alike hZ.alike Ar80.2.1) rfl Ar80.2.2 hin81 hat81 (g := (mkF m 135 #[.val (.int i0), .val (.int i1), .val (.int i2), .val (.int i3), .val (.int (2 : Int32)), .val (.ref s0), .val (.ref s1), .val (.ref s2), .val (.ref a), .val (.ref w)] [(.int (0 : Int32)), (.ref w)])) rfl rfl (hb hby at_135) _ kg_) ?_
    show own_Gl p e below _ (T75.setTop (mkF m 136 #[.val (.int i0), .val (.int i1), .val (.int i2), .val (.int i3), .val (.int (2 : Int32)), .val (.ref s0), .val (.ref s1), .val (.ref s2), .val (.ref a), .val (.ref w)] [(.ref one)]))
    obtain ⟨cq82, kq82, q82a, q82b, q82c⟩ := isOf hZ rfl (E_1.ext K76)
    obtain ⟨_, _, ⟨T82, L82, k82, n82⟩, -, X82, ⟨Lc82, hQ82, l82, y82, z82⟩, st82⟩ := X75.virtualBack hx (y := (⟨"java/math/BigDecimal", "signum", "()I"⟩ : MethodName)) (z := (⟨"java/math/BigDecimal", "signum", "()I"⟩ : MethodName)) hown (mvT hZ (hw _ (List.mem_of_getElem? (i := 98) rfl))) (mvT hZ (hw _ (List.mem_of_getElem? (i := 99) rfl))) (notFace_of_selects (args := #[]) (mvT hZ (hw _ (List.mem_of_getElem? (i := 101) rfl)))) (mvT hZ (hw _ (List.mem_of_getElem? (i := 101) rfl))) (mvT hZ (hw _ (List.mem_of_getElem? (i := 100) rfl))) (by decide) (backOf (W := 0) (own_rm_sgn l Z a0 hw [] one T75.heap n0 (Nat.le_trans Z0 K76.1) (F_c.ext K76)) hZ (hw _ (List.mem_of_getElem? (i := 102) rfl)) (hw _ (List.mem_of_getElem? (i := 63) rfl)) (by decide) (by decide)) q82a q82c (g := (mkF m 136 #[.val (.int i0), .val (.int i1), .val (.int i2), .val (.int i3), .val (.int (2 : Int32)), .val (.ref s0), .val (.ref s1), .val (.ref s2), .val (.ref a), .val (.ref w)] [(.ref one)])) rfl (by rw [hml]; rfl) (Steps.refl _) (argsL := []) (rest := []) (lenOf own_pd5 rfl) rfl (by show 2 * 0 + _ ≤ _; exact Nat.le_of_eq rfl) (hb hby at_136) (fun _ _ => ⟨rfl, rfl, (by decide : 7 + 0 ≤ _), (by decide : 21 + 0 ≤ _)⟩)
    dsimp only [Pt.U, Pt.locs, Pt.cells, Pt.slots] at X82 l82 y82 z82 st82 hQ82
    subst l82 y82 z82
    obtain ⟨rfl, N82q, e82⟩ := hQ82
    have N82 := Fr.app N75 N82q
    refine own_tr st82 ?_
    show own_Gl p e below _ (T82.setTop (mkF m 139 #[.val (.int i0), .val (.int i1), .val (.int i2), .val (.int i3), .val (.int (2 : Int32)), .val (.ref s0), .val (.ref s1), .val (.ref s2), .val (.ref a), .val (.ref w)] [(.int (1 : Int32))]))
    try clear st82
    try clear N82q
    try clear N75
    try clear X75
    refine own_st (fun tg_ kg_ => XS.ifYes X82.here hx rfl (pc0 := 139) (pc' := 144) rfl (hb hby at_139) rfl ((if0 _ _).trans (tlt ((by decide : (0 : Int32) < (1 : Int32)))).2.2.1) (by decide) (by decide) kg_) ?_
    show own_Gl p e below _ (T82.setTop (mkF m 144 #[.val (.int i0), .val (.int i1), .val (.int i2), .val (.int i3), .val (.int (2 : Int32)), .val (.ref s0), .val (.ref s1), .val (.ref s2), .val (.ref a), .val (.ref w)] []))
    refine own_st (fun tg_ kg_ => XS.iload X82.here hx rfl (hb hby at_144) rfl kg_) ?_
    show own_Gl p e below _ (T82.setTop (mkF m 146 #[.val (.int i0), .val (.int i1), .val (.int i2), .val (.int i3), .val (.int (2 : Int32)), .val (.ref s0), .val (.ref s1), .val (.ref s2), .val (.ref a), .val (.ref w)] [(.int (2 : Int32))]))
    refine own_st (fun tg_ kg_ => XS.iconst X82.here hx rfl (hb hby at_146) kg_) ?_
    show own_Gl p e below _ (T82.setTop (mkF m 147 #[.val (.int i0), .val (.int i1), .val (.int i2), .val (.int i3), .val (.int (2 : Int32)), .val (.ref s0), .val (.ref s1), .val (.ref s2), .val (.ref a), .val (.ref w)] [(.int (2 : Int32)), (.int (2 : Int32))]))
    refine own_st (fun tg_ kg_ => XS.icmpNo X82.here hx rfl (hb hby at_147) rfl (flt ((by decide : ¬ ((2 : Int32) < (2 : Int32))))).1 kg_) ?_
    show own_Gl p e below _ (T82.setTop (mkF m 150 #[.val (.int i0), .val (.int i1), .val (.int i2), .val (.int i3), .val (.int (2 : Int32)), .val (.ref s0), .val (.ref s1), .val (.ref s2), .val (.ref a), .val (.ref w)] []))
    refine own_st (fun tg_ kg_ => XS.aload X82.here hx rfl (hb hby at_150) rfl rfl kg_) ?_
    show own_Gl p e below _ (T82.setTop (mkF m 152 #[.val (.int i0), .val (.int i1), .val (.int i2), .val (.int i3), .val (.int (2 : Int32)), .val (.ref s0), .val (.ref s1), .val (.ref s2), .val (.ref a), .val (.ref w)] [(.ref w)]))
    refine own_st (fun tg_ kg_ => XS.iconst X82.here hx rfl (hb hby at_152) kg_) ?_
    show own_Gl p e below _ (T82.setTop (mkF m 153 #[.val (.int i0), .val (.int i1), .val (.int i2), .val (.int i3), .val (.int (2 : Int32)), .val (.ref s0), .val (.ref s1), .val (.ref s2), .val (.ref a), .val (.ref w)] [(.int (1 : Int32)), (.ref w)]))
    obtain ⟨cl83, Ar83, qa83, Sa83, Na83, Ha83, Ga83⟩ := id V_w
    have hin84 : ¬ ((1 : Int32) < 0 ∨ cl83.slots.size ≤ ((1 : Int32)).toNatClampNeg) := inb_of Sa83 ⟨by decide, by decide⟩
    have hat84 : cl83.slots[((1 : Int32)).toNatClampNeg]? = some (.ref one) := Has.at Ha83 hin84 rfl
    refine own_st (fun tg_ kg_ => X82.aaload hx (j := (1 : Int32)) (v := (.ref one)) (by rw [e82]; exact Ar83.1) (State.isArrayOf_alike hZ.alike Ar83.2.1) rfl Ar83.2.2 hin84 hat84 (g := (mkF m 153 #[.val (.int i0), .val (.int i1), .val (.int i2), .val (.int i3), .val (.int (2 : Int32)), .val (.ref s0), .val (.ref s1), .val (.ref s2), .val (.ref a), .val (.ref w)] [(.int (1 : Int32)), (.ref w)])) rfl rfl (hb hby at_153) _ kg_) ?_
    show own_Gl p e below _ (T82.setTop (mkF m 154 #[.val (.int i0), .val (.int i1), .val (.int i2), .val (.int i3), .val (.int (2 : Int32)), .val (.ref s0), .val (.ref s1), .val (.ref s2), .val (.ref a), .val (.ref w)] [(.ref one)]))
    refine own_st (fun tg_ kg_ => XS.aload X82.here hx rfl (hb hby at_154) rfl rfl kg_) ?_
    show own_Gl p e below _ (T82.setTop (mkF m 156 #[.val (.int i0), .val (.int i1), .val (.int i2), .val (.int i3), .val (.int (2 : Int32)), .val (.ref s0), .val (.ref s1), .val (.ref s2), .val (.ref a), .val (.ref w)] [(.ref w), (.ref one)]))
    refine own_st (fun tg_ kg_ => XS.iconst X82.here hx rfl (hb hby at_156) kg_) ?_
    show own_Gl p e below _ (T82.setTop (mkF m 157 #[.val (.int i0), .val (.int i1), .val (.int i2), .val (.int i3), .val (.int (2 : Int32)), .val (.ref s0), .val (.ref s1), .val (.ref s2), .val (.ref a), .val (.ref w)] [(.int (0 : Int32)), (.ref w), (.ref one)]))
    obtain ⟨cl85, Ar85, qa85, Sa85, Na85, Ha85, Ga85⟩ := id V_w
    have hin86 : ¬ ((0 : Int32) < 0 ∨ cl85.slots.size ≤ ((0 : Int32)).toNatClampNeg) := inb_of Sa85 ⟨by decide, by decide⟩
    have hat86 : cl85.slots[((0 : Int32)).toNatClampNeg]? = some (.ref one) := Has.at Ha85 hin86 rfl
    refine own_st (fun tg_ kg_ => X82.aaload hx (j := (0 : Int32)) (v := (.ref one)) (by rw [e82]; exact Ar85.1) (State.isArrayOf_alike hZ.alike Ar85.2.1) rfl Ar85.2.2 hin86 hat86 (g := (mkF m 157 #[.val (.int i0), .val (.int i1), .val (.int i2), .val (.int i3), .val (.int (2 : Int32)), .val (.ref s0), .val (.ref s1), .val (.ref s2), .val (.ref a), .val (.ref w)] [(.int (0 : Int32)), (.ref w), (.ref one)])) rfl rfl (hb hby at_157) _ kg_) ?_
    show own_Gl p e below _ (T82.setTop (mkF m 158 #[.val (.int i0), .val (.int i1), .val (.int i2), .val (.int i3), .val (.int (2 : Int32)), .val (.ref s0), .val (.ref s1), .val (.ref s2), .val (.ref a), .val (.ref w)] [(.ref one), (.ref one)]))
    obtain ⟨_, _, ⟨T87, L87, k87, n87⟩, -, X87, ⟨Lc87, hQ87, l87, y87, z87⟩, st87⟩ := Jvm.LawKit.callS X82 hx (y := (⟨"com/example/ratably/ratably/method/EvenPeriodsWeightsPinLaw", "same", "(Ljava/math/BigDecimal;Ljava/math/BigDecimal;)Z"⟩ : MethodName)) hown (mvT hZ (hw _ (List.mem_of_getElem? (i := 110) rfl))) (mvT hZ (hw _ (List.mem_of_getElem? (i := 111) rfl))) (mvT hZ (hw _ (List.mem_of_getElem? (i := 112) rfl))) (mvT hZ (hw _ (List.mem_of_getElem? (i := 113) rfl))) (by decide) (backOf (W := 0) (own_rm_sam l Z a0 hw [] one T75.heap n0 (Nat.le_trans Z0 K76.1) (E_1.ext K76) (F_c.ext K76) (F_z.ext K76)) hZ (hw _ (List.mem_of_getElem? (i := 113) rfl)) (hw _ (List.mem_of_getElem? (i := 112) rfl)) (by decide) (by decide)) (g := (mkF m 158 #[.val (.int i0), .val (.int i1), .val (.int i2), .val (.int i3), .val (.int (2 : Int32)), .val (.ref s0), .val (.ref s1), .val (.ref s2), .val (.ref a), .val (.ref w)] [(.ref one), (.ref one)])) rfl (by rw [hml]; rfl) (argsL := [(.ref one), (.ref one)]) (rest := []) (lenOf own_pd12 rfl) rfl (by show 2 * 0 + _ ≤ _; exact Nat.le_of_eq rfl) (hb hby at_158) (fun _ _ => ⟨rfl, e82, (by decide : 7 + 0 ≤ _), (by decide : 21 + 0 ≤ _)⟩)
    dsimp only [Pt.U, Pt.locs, Pt.cells, Pt.slots] at X87 l87 y87 z87 st87 hQ87
    subst l87 y87 z87
    obtain ⟨rfl, N87q, e87⟩ := hQ87
    have N87 := Fr.app N82 N87q
    refine own_st st87 ?_
    show own_Gl p e below _ (T87.setTop (mkF m 161 #[.val (.int i0), .val (.int i1), .val (.int i2), .val (.int i3), .val (.int (2 : Int32)), .val (.ref s0), .val (.ref s1), .val (.ref s2), .val (.ref a), .val (.ref w)] [(.int (1 : Int32))]))
    try clear st87
    try clear N87q
    try clear N82
    try clear e82
    try clear X82
    try clear T82
    refine own_st (fun tg_ kg_ => XS.ifYes X87.here hx rfl (pc0 := 161) (pc' := 166) rfl (hb hby at_161) rfl ((if0 _ _).trans (feq ((by decide : ¬ ((1 : Int32) = (0 : Int32))))).2) (by decide) (by decide) kg_) ?_
    show own_Gl p e below _ (T87.setTop (mkF m 166 #[.val (.int i0), .val (.int i1), .val (.int i2), .val (.int i3), .val (.int (2 : Int32)), .val (.ref s0), .val (.ref s1), .val (.ref s2), .val (.ref a), .val (.ref w)] []))
    refine own_st (fun tg_ kg_ => XS.iload X87.here hx rfl (hb hby at_166) rfl kg_) ?_
    show own_Gl p e below _ (T87.setTop (mkF m 168 #[.val (.int i0), .val (.int i1), .val (.int i2), .val (.int i3), .val (.int (2 : Int32)), .val (.ref s0), .val (.ref s1), .val (.ref s2), .val (.ref a), .val (.ref w)] [(.int (2 : Int32))]))
    refine own_st (fun tg_ kg_ => XS.iconst X87.here hx rfl (hb hby at_168) kg_) ?_
    show own_Gl p e below _ (T87.setTop (mkF m 169 #[.val (.int i0), .val (.int i1), .val (.int i2), .val (.int i3), .val (.int (2 : Int32)), .val (.ref s0), .val (.ref s1), .val (.ref s2), .val (.ref a), .val (.ref w)] [(.int (3 : Int32)), (.int (2 : Int32))]))
    refine own_st (fun tg_ kg_ => XS.icmpYes X87.here hx rfl (pc0 := 169) (pc' := 188) rfl (hb hby at_169) rfl (tlt ((by decide : (2 : Int32) < (3 : Int32)))).1 (by decide) (by decide) kg_) ?_
    show own_Gl p e below _ (T87.setTop (mkF m 188 #[.val (.int i0), .val (.int i1), .val (.int i2), .val (.int i3), .val (.int (2 : Int32)), .val (.ref s0), .val (.ref s1), .val (.ref s2), .val (.ref a), .val (.ref w)] []))
    refine own_st (fun tg_ kg_ => XS.iconst X87.here hx rfl (hb hby at_188) kg_) ?_
    show own_Gl p e below _ (T87.setTop (mkF m 189 #[.val (.int i0), .val (.int i1), .val (.int i2), .val (.int i3), .val (.int (2 : Int32)), .val (.ref s0), .val (.ref s1), .val (.ref s2), .val (.ref a), .val (.ref w)] [(.int (1 : Int32))]))
    exact own_retN X87 hx Bd.notSynchronized (t := .boolean) Bd.returns (by simp) (hb hby at_189) (by decide) (by decide) e87 (⟨rfl, N87⟩)
  ·
    rw [hn3]
    show own_Gl p e below _ (s₁.setTop (mkF m 5 #[.val (.int i0), .val (.int i1), .val (.int i2), .val (.int i3), .val (.int (3 : Int32)), .unset, .unset, .unset, .unset, .unset] []))
    obtain ⟨T88, h88, X88, e88, E88, A88, D88, -, st88⟩ := newO X0 hx hZ hown (hw _ (List.mem_of_getElem? (i := 0) rfl)) (hw _ (List.mem_of_getElem? (i := 1) rfl)) (hw _ (List.mem_of_getElem? (i := 2) rfl)) e0 (g := (mkF m 5 #[.val (.int i0), .val (.int i1), .val (.int i2), .val (.int i3), .val (.int (3 : Int32)), .unset, .unset, .unset, .unset, .unset] [])) rfl (hb hby at_5) (by decide) (by decide)
    obtain ⟨s0, g88⟩ : ∃ z, z = h0.size := ⟨_, rfl⟩
    have ne_aD_s0 : aD ≠ s0 := Nat.ne_of_lt (Nat.lt_of_lt_of_le V_aD.lt (Nat.le_of_eq g88.symm))
    have ne_one_s0 : one ≠ s0 := Nat.ne_of_lt (Nat.lt_of_lt_of_le F_c.lt (Nat.le_of_eq g88.symm))
    have sz_s0 : h0.size ≤ s0 := Nat.le_of_eq g88.symm
    have g_s0 : n0 ≤ s0 := Nat.le_trans Z0 sz_s0
    rw [← g88] at A88 D88 st88
    have E_s0 := A88
    have F_period_s0 : Fld Z h88 s0 "com/example/ratably/ratably/calendar/Slice" "period" "Lcom/example/ratably/ratably/calendar/Period;" .null := D88 (Or.inr (hw _ (List.mem_of_getElem? (i := 10) rfl))) (ty := (.object "com/example/ratably/ratably/calendar/Period")) (by decide)
    have F_days_s0 : Fld Z h88 s0 "com/example/ratably/ratably/calendar/Slice" "days" "I" (.int (0 : Int32)) := D88 (Or.inr (hw _ (List.mem_of_getElem? (i := 12) rfl))) (ty := .int) (by decide)
    refine own_st st88 ?_
    try clear st88
    show own_Gl p e below _ (T88.setTop (mkF m 8 #[.val (.int i0), .val (.int i1), .val (.int i2), .val (.int i3), .val (.int (3 : Int32)), .unset, .unset, .unset, .unset, .unset] [(.ref s0)]))
    refine own_st (fun tg_ kg_ => XS.dup X88.here hx rfl (hb hby at_8) rfl rfl kg_) ?_
    show own_Gl p e below _ (T88.setTop (mkF m 9 #[.val (.int i0), .val (.int i1), .val (.int i2), .val (.int i3), .val (.int (3 : Int32)), .unset, .unset, .unset, .unset, .unset] [(.ref s0), (.ref s0)]))
    refine own_st (fun tg_ kg_ => XS.aconstNull X88.here hx rfl (hb hby at_9) kg_) ?_
    show own_Gl p e below _ (T88.setTop (mkF m 10 #[.val (.int i0), .val (.int i1), .val (.int i2), .val (.int i3), .val (.int (3 : Int32)), .unset, .unset, .unset, .unset, .unset] [.null, (.ref s0), (.ref s0)]))
    refine own_st (fun tg_ kg_ => XS.iloadN X88.here hx rfl (hb hby at_10) rfl kg_) ?_
    show own_Gl p e below _ (T88.setTop (mkF m 11 #[.val (.int i0), .val (.int i1), .val (.int i2), .val (.int i3), .val (.int (3 : Int32)), .unset, .unset, .unset, .unset, .unset] [(.int i1), .null, (.ref s0), (.ref s0)]))
    obtain ⟨_, _, ⟨T90, L90, k90, n90⟩, -, X90, ⟨Lc90, hQ90, l90, y90, z90⟩, st90⟩ := X88.specialBack hx (y := (⟨"com/example/ratably/ratably/calendar/Slice", "<init>", "(Lcom/example/ratably/ratably/calendar/Period;I)V"⟩ : MethodName)) rfl hown (mvT hZ (hw _ (List.mem_of_getElem? (i := 3) rfl))) (mvT hZ (hw _ (List.mem_of_getElem? (i := 4) rfl))) (mvT hZ (hw _ (List.mem_of_getElem? (i := 5) rfl))) (by decide) (backOf (W := 1) (own_rm_sl l Z a0 hw [] s0 i1 h88 n0 (Nat.le_trans Z0 E88.1) E_s0 F_period_s0 F_days_s0 g_s0) hZ (hw _ (List.mem_of_getElem? (i := 5) rfl)) (hw _ (List.mem_of_getElem? (i := 2) rfl)) (by decide) (by decide)) (g := (mkF m 11 #[.val (.int i0), .val (.int i1), .val (.int i2), .val (.int i3), .val (.int (3 : Int32)), .unset, .unset, .unset, .unset, .unset] [(.int i1), .null, (.ref s0), (.ref s0)])) rfl (by rw [hml]; rfl) (Steps.refl _) (a := s0) (argsL := [.null, (.int i1)]) (rest := [(.ref s0)]) (lenOf own_pd9 rfl) rfl (by show 2 * 0 + _ ≤ _; exact Nat.le_of_eq rfl) (hb hby at_11) (fun _ _ => ⟨rfl, e88, (by decide : 1 + 0 ≤ _), (by decide : 2 + 0 ≤ _)⟩)
    dsimp only [Pt.U, Pt.locs, Pt.cells, Pt.slots] at X90 l90 y90 z90 st90 hQ90
    subst l90 y90 z90
    obtain ⟨rfl, N90q, Kc90⟩ := hQ90
    have N90 := Fr.app N0 N90q
    refine own_tr st90 ?_
    replace E_s0 := E_s0.keep Kc90
    have K91 := own_ext_keep E88 Kc90 (allS sz_s0 all0)
    try clear Kc90
    try clear E88
    show own_Gl p e below _ (T90.setTop (mkF m 14 #[.val (.int i0), .val (.int i1), .val (.int i2), .val (.int i3), .val (.int (3 : Int32)), .unset, .unset, .unset, .unset, .unset] [(.ref s0)]))
    try clear st90
    try clear N90q
    try clear e88
    try clear X88
    try clear T88
    refine own_st (fun tg_ kg_ => XS.astore X90.here hx rfl (hb hby at_14) rfl rfl (l' := #[.val (.int i0), .val (.int i1), .val (.int i2), .val (.int i3), .val (.int (3 : Int32)), .val (.ref s0), .unset, .unset, .unset, .unset]) rfl kg_) ?_
    show own_Gl p e below _ (T90.setTop (mkF m 16 #[.val (.int i0), .val (.int i1), .val (.int i2), .val (.int i3), .val (.int (3 : Int32)), .val (.ref s0), .unset, .unset, .unset, .unset] []))
    obtain ⟨T92, h92, X92, e92, E92, A92, D92, -, st92⟩ := newO X90 hx hZ hown (hw _ (List.mem_of_getElem? (i := 0) rfl)) (hw _ (List.mem_of_getElem? (i := 1) rfl)) (hw _ (List.mem_of_getElem? (i := 2) rfl)) rfl (g := (mkF m 16 #[.val (.int i0), .val (.int i1), .val (.int i2), .val (.int i3), .val (.int (3 : Int32)), .val (.ref s0), .unset, .unset, .unset, .unset] [])) rfl (hb hby at_16) (by decide) (by decide)
    obtain ⟨s1, g92⟩ : ∃ z, z = T90.heap.size := ⟨_, rfl⟩
    have ne_aD_s1 : aD ≠ s1 := Nat.ne_of_lt (Nat.lt_of_lt_of_le (V_aD.ext K91).lt (Nat.le_of_eq g92.symm))
    have ne_one_s1 : one ≠ s1 := Nat.ne_of_lt (Nat.lt_of_lt_of_le (F_c.ext K91).lt (Nat.le_of_eq g92.symm))
    have ne_s0_s1 : s0 ≠ s1 := Nat.ne_of_lt (Nat.lt_of_lt_of_le E_s0.lt (Nat.le_of_eq g92.symm))
    have sz_s1 : h0.size ≤ s1 := (Nat.le_trans K91.1 (Nat.le_of_eq g92.symm))
    have g_s1 : n0 ≤ s1 := Nat.le_trans Z0 sz_s1
    rw [← g92] at A92 D92 st92
    replace E_s0 := E_s0.ext E92
    have K93 := own_ext_tr K91 E92
    try clear E92
    try clear K91
    have E_s1 := A92
    have F_period_s1 : Fld Z h92 s1 "com/example/ratably/ratably/calendar/Slice" "period" "Lcom/example/ratably/ratably/calendar/Period;" .null := D92 (Or.inr (hw _ (List.mem_of_getElem? (i := 10) rfl))) (ty := (.object "com/example/ratably/ratably/calendar/Period")) (by decide)
    have F_days_s1 : Fld Z h92 s1 "com/example/ratably/ratably/calendar/Slice" "days" "I" (.int (0 : Int32)) := D92 (Or.inr (hw _ (List.mem_of_getElem? (i := 12) rfl))) (ty := .int) (by decide)
    refine own_st st92 ?_
    try clear st92
    try clear X90
    try clear T90
    show own_Gl p e below _ (T92.setTop (mkF m 19 #[.val (.int i0), .val (.int i1), .val (.int i2), .val (.int i3), .val (.int (3 : Int32)), .val (.ref s0), .unset, .unset, .unset, .unset] [(.ref s1)]))
    refine own_st (fun tg_ kg_ => XS.dup X92.here hx rfl (hb hby at_19) rfl rfl kg_) ?_
    show own_Gl p e below _ (T92.setTop (mkF m 20 #[.val (.int i0), .val (.int i1), .val (.int i2), .val (.int i3), .val (.int (3 : Int32)), .val (.ref s0), .unset, .unset, .unset, .unset] [(.ref s1), (.ref s1)]))
    refine own_st (fun tg_ kg_ => XS.aconstNull X92.here hx rfl (hb hby at_20) kg_) ?_
    show own_Gl p e below _ (T92.setTop (mkF m 21 #[.val (.int i0), .val (.int i1), .val (.int i2), .val (.int i3), .val (.int (3 : Int32)), .val (.ref s0), .unset, .unset, .unset, .unset] [.null, (.ref s1), (.ref s1)]))
    refine own_st (fun tg_ kg_ => XS.iloadN X92.here hx rfl (hb hby at_21) rfl kg_) ?_
    show own_Gl p e below _ (T92.setTop (mkF m 22 #[.val (.int i0), .val (.int i1), .val (.int i2), .val (.int i3), .val (.int (3 : Int32)), .val (.ref s0), .unset, .unset, .unset, .unset] [(.int i2), .null, (.ref s1), (.ref s1)]))
    obtain ⟨_, _, ⟨T94, L94, k94, n94⟩, -, X94, ⟨Lc94, hQ94, l94, y94, z94⟩, st94⟩ := X92.specialBack hx (y := (⟨"com/example/ratably/ratably/calendar/Slice", "<init>", "(Lcom/example/ratably/ratably/calendar/Period;I)V"⟩ : MethodName)) rfl hown (mvT hZ (hw _ (List.mem_of_getElem? (i := 3) rfl))) (mvT hZ (hw _ (List.mem_of_getElem? (i := 4) rfl))) (mvT hZ (hw _ (List.mem_of_getElem? (i := 5) rfl))) (by decide) (backOf (W := 1) (own_rm_sl l Z a0 hw [] s1 i2 h92 n0 (Nat.le_trans Z0 K93.1) E_s1 F_period_s1 F_days_s1 g_s1) hZ (hw _ (List.mem_of_getElem? (i := 5) rfl)) (hw _ (List.mem_of_getElem? (i := 2) rfl)) (by decide) (by decide)) (g := (mkF m 22 #[.val (.int i0), .val (.int i1), .val (.int i2), .val (.int i3), .val (.int (3 : Int32)), .val (.ref s0), .unset, .unset, .unset, .unset] [(.int i2), .null, (.ref s1), (.ref s1)])) rfl (by rw [hml]; rfl) (Steps.refl _) (a := s1) (argsL := [.null, (.int i2)]) (rest := [(.ref s1)]) (lenOf own_pd9 rfl) rfl (by show 2 * 0 + _ ≤ _; exact Nat.le_of_eq rfl) (hb hby at_22) (fun _ _ => ⟨rfl, e92, (by decide : 2 + 0 ≤ _), (by decide : 4 + 0 ≤ _)⟩)
    dsimp only [Pt.U, Pt.locs, Pt.cells, Pt.slots] at X94 l94 y94 z94 st94 hQ94
    subst l94 y94 z94
    obtain ⟨rfl, N94q, Kc94⟩ := hQ94
    have N94 := Fr.app N90 N94q
    refine own_tr st94 ?_
    replace E_s0 := E_s0.keep Kc94
    replace E_s1 := E_s1.keep Kc94
    have K95 := own_ext_keep K93 Kc94 (allS sz_s1 all0)
    try clear Kc94
    try clear K93
    show own_Gl p e below _ (T94.setTop (mkF m 25 #[.val (.int i0), .val (.int i1), .val (.int i2), .val (.int i3), .val (.int (3 : Int32)), .val (.ref s0), .unset, .unset, .unset, .unset] [(.ref s1)]))
    try clear st94
    try clear N94q
    try clear N90
    try clear e92
    try clear X92
    try clear T92
    refine own_st (fun tg_ kg_ => XS.astore X94.here hx rfl (hb hby at_25) rfl rfl (l' := #[.val (.int i0), .val (.int i1), .val (.int i2), .val (.int i3), .val (.int (3 : Int32)), .val (.ref s0), .val (.ref s1), .unset, .unset, .unset]) rfl kg_) ?_
    show own_Gl p e below _ (T94.setTop (mkF m 27 #[.val (.int i0), .val (.int i1), .val (.int i2), .val (.int i3), .val (.int (3 : Int32)), .val (.ref s0), .val (.ref s1), .unset, .unset, .unset] []))
    obtain ⟨T96, h96, X96, e96, E96, A96, D96, -, st96⟩ := newO X94 hx hZ hown (hw _ (List.mem_of_getElem? (i := 0) rfl)) (hw _ (List.mem_of_getElem? (i := 1) rfl)) (hw _ (List.mem_of_getElem? (i := 2) rfl)) rfl (g := (mkF m 27 #[.val (.int i0), .val (.int i1), .val (.int i2), .val (.int i3), .val (.int (3 : Int32)), .val (.ref s0), .val (.ref s1), .unset, .unset, .unset] [])) rfl (hb hby at_27) (by decide) (by decide)
    obtain ⟨s2, g96⟩ : ∃ z, z = T94.heap.size := ⟨_, rfl⟩
    have ne_aD_s2 : aD ≠ s2 := Nat.ne_of_lt (Nat.lt_of_lt_of_le (V_aD.ext K95).lt (Nat.le_of_eq g96.symm))
    have ne_one_s2 : one ≠ s2 := Nat.ne_of_lt (Nat.lt_of_lt_of_le (F_c.ext K95).lt (Nat.le_of_eq g96.symm))
    have ne_s0_s2 : s0 ≠ s2 := Nat.ne_of_lt (Nat.lt_of_lt_of_le E_s0.lt (Nat.le_of_eq g96.symm))
    have ne_s1_s2 : s1 ≠ s2 := Nat.ne_of_lt (Nat.lt_of_lt_of_le E_s1.lt (Nat.le_of_eq g96.symm))
    have sz_s2 : h0.size ≤ s2 := (Nat.le_trans K95.1 (Nat.le_of_eq g96.symm))
    have g_s2 : n0 ≤ s2 := Nat.le_trans Z0 sz_s2
    rw [← g96] at A96 D96 st96
    replace E_s0 := E_s0.ext E96
    replace E_s1 := E_s1.ext E96
    have K97 := own_ext_tr K95 E96
    try clear E96
    try clear K95
    have E_s2 := A96
    have F_period_s2 : Fld Z h96 s2 "com/example/ratably/ratably/calendar/Slice" "period" "Lcom/example/ratably/ratably/calendar/Period;" .null := D96 (Or.inr (hw _ (List.mem_of_getElem? (i := 10) rfl))) (ty := (.object "com/example/ratably/ratably/calendar/Period")) (by decide)
    have F_days_s2 : Fld Z h96 s2 "com/example/ratably/ratably/calendar/Slice" "days" "I" (.int (0 : Int32)) := D96 (Or.inr (hw _ (List.mem_of_getElem? (i := 12) rfl))) (ty := .int) (by decide)
    refine own_st st96 ?_
    try clear st96
    try clear X94
    try clear T94
    show own_Gl p e below _ (T96.setTop (mkF m 30 #[.val (.int i0), .val (.int i1), .val (.int i2), .val (.int i3), .val (.int (3 : Int32)), .val (.ref s0), .val (.ref s1), .unset, .unset, .unset] [(.ref s2)]))
    refine own_st (fun tg_ kg_ => XS.dup X96.here hx rfl (hb hby at_30) rfl rfl kg_) ?_
    show own_Gl p e below _ (T96.setTop (mkF m 31 #[.val (.int i0), .val (.int i1), .val (.int i2), .val (.int i3), .val (.int (3 : Int32)), .val (.ref s0), .val (.ref s1), .unset, .unset, .unset] [(.ref s2), (.ref s2)]))
    refine own_st (fun tg_ kg_ => XS.aconstNull X96.here hx rfl (hb hby at_31) kg_) ?_
    show own_Gl p e below _ (T96.setTop (mkF m 32 #[.val (.int i0), .val (.int i1), .val (.int i2), .val (.int i3), .val (.int (3 : Int32)), .val (.ref s0), .val (.ref s1), .unset, .unset, .unset] [.null, (.ref s2), (.ref s2)]))
    refine own_st (fun tg_ kg_ => XS.iloadN X96.here hx rfl (hb hby at_32) rfl kg_) ?_
    show own_Gl p e below _ (T96.setTop (mkF m 33 #[.val (.int i0), .val (.int i1), .val (.int i2), .val (.int i3), .val (.int (3 : Int32)), .val (.ref s0), .val (.ref s1), .unset, .unset, .unset] [(.int i3), .null, (.ref s2), (.ref s2)]))
    obtain ⟨_, _, ⟨T98, L98, k98, n98⟩, -, X98, ⟨Lc98, hQ98, l98, y98, z98⟩, st98⟩ := X96.specialBack hx (y := (⟨"com/example/ratably/ratably/calendar/Slice", "<init>", "(Lcom/example/ratably/ratably/calendar/Period;I)V"⟩ : MethodName)) rfl hown (mvT hZ (hw _ (List.mem_of_getElem? (i := 3) rfl))) (mvT hZ (hw _ (List.mem_of_getElem? (i := 4) rfl))) (mvT hZ (hw _ (List.mem_of_getElem? (i := 5) rfl))) (by decide) (backOf (W := 1) (own_rm_sl l Z a0 hw [] s2 i3 h96 n0 (Nat.le_trans Z0 K97.1) E_s2 F_period_s2 F_days_s2 g_s2) hZ (hw _ (List.mem_of_getElem? (i := 5) rfl)) (hw _ (List.mem_of_getElem? (i := 2) rfl)) (by decide) (by decide)) (g := (mkF m 33 #[.val (.int i0), .val (.int i1), .val (.int i2), .val (.int i3), .val (.int (3 : Int32)), .val (.ref s0), .val (.ref s1), .unset, .unset, .unset] [(.int i3), .null, (.ref s2), (.ref s2)])) rfl (by rw [hml]; rfl) (Steps.refl _) (a := s2) (argsL := [.null, (.int i3)]) (rest := [(.ref s2)]) (lenOf own_pd9 rfl) rfl (by show 2 * 0 + _ ≤ _; exact Nat.le_of_eq rfl) (hb hby at_33) (fun _ _ => ⟨rfl, e96, (by decide : 3 + 0 ≤ _), (by decide : 6 + 0 ≤ _)⟩)
    dsimp only [Pt.U, Pt.locs, Pt.cells, Pt.slots] at X98 l98 y98 z98 st98 hQ98
    subst l98 y98 z98
    obtain ⟨rfl, N98q, Kc98⟩ := hQ98
    have N98 := Fr.app N94 N98q
    refine own_tr st98 ?_
    replace E_s0 := E_s0.keep Kc98
    replace E_s1 := E_s1.keep Kc98
    replace E_s2 := E_s2.keep Kc98
    have K99 := own_ext_keep K97 Kc98 (allS sz_s2 all0)
    try clear Kc98
    try clear K97
    show own_Gl p e below _ (T98.setTop (mkF m 36 #[.val (.int i0), .val (.int i1), .val (.int i2), .val (.int i3), .val (.int (3 : Int32)), .val (.ref s0), .val (.ref s1), .unset, .unset, .unset] [(.ref s2)]))
    try clear st98
    try clear N98q
    try clear N94
    try clear e96
    try clear X96
    try clear T96
    refine own_st (fun tg_ kg_ => XS.astore X98.here hx rfl (hb hby at_36) rfl rfl (l' := #[.val (.int i0), .val (.int i1), .val (.int i2), .val (.int i3), .val (.int (3 : Int32)), .val (.ref s0), .val (.ref s1), .val (.ref s2), .unset, .unset]) rfl kg_) ?_
    show own_Gl p e below _ (T98.setTop (mkF m 38 #[.val (.int i0), .val (.int i1), .val (.int i2), .val (.int i3), .val (.int (3 : Int32)), .val (.ref s0), .val (.ref s1), .val (.ref s2), .unset, .unset] []))
    obtain ⟨T100, h100, X100, e100, E100, A100, D100, -, st100⟩ := newO X98 hx hZ hown (hw _ (List.mem_of_getElem? (i := 13) rfl)) (hw _ (List.mem_of_getElem? (i := 14) rfl)) (hw _ (List.mem_of_getElem? (i := 15) rfl)) rfl (g := (mkF m 38 #[.val (.int i0), .val (.int i1), .val (.int i2), .val (.int i3), .val (.int (3 : Int32)), .val (.ref s0), .val (.ref s1), .val (.ref s2), .unset, .unset] [])) rfl (hb hby at_38) (by decide) (by decide)
    obtain ⟨a, g100⟩ : ∃ z, z = T98.heap.size := ⟨_, rfl⟩
    have ne_aD_a : aD ≠ a := Nat.ne_of_lt (Nat.lt_of_lt_of_le (V_aD.ext K99).lt (Nat.le_of_eq g100.symm))
    have ne_one_a : one ≠ a := Nat.ne_of_lt (Nat.lt_of_lt_of_le (F_c.ext K99).lt (Nat.le_of_eq g100.symm))
    have ne_s0_a : s0 ≠ a := Nat.ne_of_lt (Nat.lt_of_lt_of_le E_s0.lt (Nat.le_of_eq g100.symm))
    have ne_s1_a : s1 ≠ a := Nat.ne_of_lt (Nat.lt_of_lt_of_le E_s1.lt (Nat.le_of_eq g100.symm))
    have ne_s2_a : s2 ≠ a := Nat.ne_of_lt (Nat.lt_of_lt_of_le E_s2.lt (Nat.le_of_eq g100.symm))
    have sz_a : h0.size ≤ a := (Nat.le_trans K99.1 (Nat.le_of_eq g100.symm))
    have g_a : n0 ≤ a := Nat.le_trans Z0 sz_a
    rw [← g100] at A100 D100 st100
    replace E_s0 := E_s0.ext E100
    replace E_s1 := E_s1.ext E100
    replace E_s2 := E_s2.ext E100
    have K101 := own_ext_tr K99 E100
    try clear E100
    try clear K99
    have E_a := A100
    have F_modCount_a : Fld Z h100 a "java/util/AbstractList" "modCount" "I" (.int (0 : Int32)) := D100 (Or.inl (hw _ (List.mem_of_getElem? (i := 33) rfl))) (ty := .int) (by decide)
    have F_elementData_a : Fld Z h100 a "java/util/ArrayList" "elementData" "[Ljava/lang/Object;" .null := D100 (Or.inl (hw _ (List.mem_of_getElem? (i := 36) rfl))) (ty := (.array (.object "java/lang/Object"))) (by decide)
    have F_size_a : Fld Z h100 a "java/util/ArrayList" "size" "I" (.int (0 : Int32)) := D100 (Or.inl (hw _ (List.mem_of_getElem? (i := 59) rfl))) (ty := .int) (by decide)
    refine own_st st100 ?_
    try clear st100
    try clear X98
    try clear T98
    show own_Gl p e below _ (T100.setTop (mkF m 41 #[.val (.int i0), .val (.int i1), .val (.int i2), .val (.int i3), .val (.int (3 : Int32)), .val (.ref s0), .val (.ref s1), .val (.ref s2), .unset, .unset] [(.ref a)]))
    refine own_st (fun tg_ kg_ => XS.dup X100.here hx rfl (hb hby at_41) rfl rfl kg_) ?_
    show own_Gl p e below _ (T100.setTop (mkF m 42 #[.val (.int i0), .val (.int i1), .val (.int i2), .val (.int i3), .val (.int (3 : Int32)), .val (.ref s0), .val (.ref s1), .val (.ref s2), .unset, .unset] [(.ref a), (.ref a)]))
    obtain ⟨_, _, ⟨T102, L102, k102, n102⟩, -, X102, ⟨Lc102, hQ102, l102, y102, z102⟩, st102⟩ := X100.specialBack hx (y := (⟨"java/util/ArrayList", "<init>", "()V"⟩ : MethodName)) rfl hown (mvT hZ (hw _ (List.mem_of_getElem? (i := 16) rfl))) (mvT hZ (hw _ (List.mem_of_getElem? (i := 17) rfl))) (mvT hZ (hw _ (List.mem_of_getElem? (i := 18) rfl))) (by decide) (backOf (W := 1) (own_rm_ali l Z a0 hw [] a aD h100 n0 (Nat.le_trans Z0 K101.1) E_a F_modCount_a F_elementData_a F_size_a g_a (S_D.ext K101)) hZ (hw _ (List.mem_of_getElem? (i := 18) rfl)) (hw _ (List.mem_of_getElem? (i := 15) rfl)) (by decide) (by decide)) (g := (mkF m 42 #[.val (.int i0), .val (.int i1), .val (.int i2), .val (.int i3), .val (.int (3 : Int32)), .val (.ref s0), .val (.ref s1), .val (.ref s2), .unset, .unset] [(.ref a), (.ref a)])) rfl (by rw [hml]; rfl) (Steps.refl _) (a := a) (argsL := []) (rest := [(.ref a)]) (lenOf own_pd0 rfl) rfl (by show 2 * 0 + _ ≤ _; exact Nat.le_of_eq rfl) (hb hby at_42) (fun _ _ => ⟨rfl, e100, (by decide : 4 + 0 ≤ _), (by decide : 9 + 0 ≤ _)⟩)
    dsimp only [Pt.U, Pt.locs, Pt.cells, Pt.slots] at X102 l102 y102 z102 st102 hQ102
    subst l102 y102 z102
    obtain ⟨rfl, N102q, Kc102, F_m, F_e, F_s⟩ := hQ102
    have N102 := Fr.app N98 N102q
    refine own_tr st102 ?_
    replace E_s0 := E_s0.keep Kc102
    replace E_s1 := E_s1.keep Kc102
    replace E_s2 := E_s2.keep Kc102
    replace E_a := E_a.keep Kc102
    have K103 := own_ext_keep K101 Kc102 (allS sz_a all0)
    try clear Kc102
    try clear K101
    show own_Gl p e below _ (T102.setTop (mkF m 45 #[.val (.int i0), .val (.int i1), .val (.int i2), .val (.int i3), .val (.int (3 : Int32)), .val (.ref s0), .val (.ref s1), .val (.ref s2), .unset, .unset] [(.ref a)]))
    try clear st102
    try clear N102q
    try clear N98
    try clear e100
    try clear X100
    try clear T100
    refine own_st (fun tg_ kg_ => XS.astore X102.here hx rfl (hb hby at_45) rfl rfl (l' := #[.val (.int i0), .val (.int i1), .val (.int i2), .val (.int i3), .val (.int (3 : Int32)), .val (.ref s0), .val (.ref s1), .val (.ref s2), .val (.ref a), .unset]) rfl kg_) ?_
    show own_Gl p e below _ (T102.setTop (mkF m 47 #[.val (.int i0), .val (.int i1), .val (.int i2), .val (.int i3), .val (.int (3 : Int32)), .val (.ref s0), .val (.ref s1), .val (.ref s2), .val (.ref a), .unset] []))
    refine own_st (fun tg_ kg_ => XS.iload X102.here hx rfl (hb hby at_47) rfl kg_) ?_
    show own_Gl p e below _ (T102.setTop (mkF m 49 #[.val (.int i0), .val (.int i1), .val (.int i2), .val (.int i3), .val (.int (3 : Int32)), .val (.ref s0), .val (.ref s1), .val (.ref s2), .val (.ref a), .unset] [(.int (3 : Int32))]))
    refine own_st (fun tg_ kg_ => XS.iconst X102.here hx rfl (hb hby at_49) kg_) ?_
    show own_Gl p e below _ (T102.setTop (mkF m 50 #[.val (.int i0), .val (.int i1), .val (.int i2), .val (.int i3), .val (.int (3 : Int32)), .val (.ref s0), .val (.ref s1), .val (.ref s2), .val (.ref a), .unset] [(.int (1 : Int32)), (.int (3 : Int32))]))
    refine own_st (fun tg_ kg_ => XS.icmpNo X102.here hx rfl (hb hby at_50) rfl (flt ((by decide : ¬ ((3 : Int32) < (1 : Int32))))).1 kg_) ?_
    show own_Gl p e below _ (T102.setTop (mkF m 53 #[.val (.int i0), .val (.int i1), .val (.int i2), .val (.int i3), .val (.int (3 : Int32)), .val (.ref s0), .val (.ref s1), .val (.ref s2), .val (.ref a), .unset] []))
    refine own_st (fun tg_ kg_ => XS.aload X102.here hx rfl (hb hby at_53) rfl rfl kg_) ?_
    show own_Gl p e below _ (T102.setTop (mkF m 55 #[.val (.int i0), .val (.int i1), .val (.int i2), .val (.int i3), .val (.int (3 : Int32)), .val (.ref s0), .val (.ref s1), .val (.ref s2), .val (.ref a), .unset] [(.ref a)]))
    refine own_st (fun tg_ kg_ => XS.aload X102.here hx rfl (hb hby at_55) rfl rfl kg_) ?_
    show own_Gl p e below _ (T102.setTop (mkF m 57 #[.val (.int i0), .val (.int i1), .val (.int i2), .val (.int i3), .val (.int (3 : Int32)), .val (.ref s0), .val (.ref s1), .val (.ref s2), .val (.ref a), .unset] [(.ref s0), (.ref a)]))
    obtain ⟨cq104, kq104, q104a, q104b, q104c⟩ := isOf hZ rfl E_a
    obtain ⟨_, _, ⟨T104, L104, k104, n104⟩, -, X104, ⟨Lc104, hQ104, l104, y104, z104⟩, st104⟩ := X102.virtualBack hx (y := (⟨"java/util/ArrayList", "add", "(Ljava/lang/Object;)Z"⟩ : MethodName)) (z := (⟨"java/util/ArrayList", "add", "(Ljava/lang/Object;)Z"⟩ : MethodName)) hown (mvT hZ (hw _ (List.mem_of_getElem? (i := 68) rfl))) (mvT hZ (hw _ (List.mem_of_getElem? (i := 69) rfl))) (notFace_of_selects (args := #[]) (mvT hZ (hw _ (List.mem_of_getElem? (i := 71) rfl)))) (mvT hZ (hw _ (List.mem_of_getElem? (i := 71) rfl))) (mvT hZ (hw _ (List.mem_of_getElem? (i := 70) rfl))) (by decide) (backOf (W := 0) (own_rm_adA l Z a0 hw [] a s0 aD kD (0 : Int32) T102.heap n0 (Nat.le_trans Z0 K103.1) E_a F_m F_e F_s g_a (S_D.ext K103) (V_aD.ext K103) (ne_aD_a.symm) E_s0) hZ (hw _ (List.mem_of_getElem? (i := 72) rfl)) (hw _ (List.mem_of_getElem? (i := 15) rfl)) (by decide) (by decide)) q104a q104c (g := (mkF m 57 #[.val (.int i0), .val (.int i1), .val (.int i2), .val (.int i3), .val (.int (3 : Int32)), .val (.ref s0), .val (.ref s1), .val (.ref s2), .val (.ref a), .unset] [(.ref s0), (.ref a)])) rfl (by rw [hml]; rfl) (Steps.refl _) (argsL := [(.ref s0)]) (rest := []) (lenOf own_pd11 rfl) rfl (by show 2 * 0 + _ ≤ _; exact Nat.le_of_eq rfl) (hb hby at_57) (fun _ _ => ⟨rfl, rfl, (by decide : 4 + 1 ≤ _), (by decide : 9 + 10 ≤ _)⟩)
    dsimp only [Pt.U, Pt.locs, Pt.cells, Pt.slots] at X104 l104 y104 z104 st104 hQ104
    subst l104 y104 z104
    obtain ⟨rfl, ⟨b, kb, szc104, V_b, O_b, F_m, F_e, F_s⟩, N104q, Kc104⟩ := hQ104
    have N104 := Fr.app N102 N104q
    refine own_tr st104 ?_
    have ne_aD_b : aD ≠ b := Nat.ne_of_lt (Nat.lt_of_lt_of_le (V_aD.ext K103).lt szc104)
    have ne_one_b : one ≠ b := Nat.ne_of_lt (Nat.lt_of_lt_of_le (F_c.ext K103).lt szc104)
    have ne_s0_b : s0 ≠ b := Nat.ne_of_lt (Nat.lt_of_lt_of_le E_s0.lt szc104)
    have ne_s1_b : s1 ≠ b := Nat.ne_of_lt (Nat.lt_of_lt_of_le E_s1.lt szc104)
    have ne_s2_b : s2 ≠ b := Nat.ne_of_lt (Nat.lt_of_lt_of_le E_s2.lt szc104)
    have ne_a_b : a ≠ b := Nat.ne_of_lt (Nat.lt_of_lt_of_le E_a.lt szc104)
    have sz_b : h0.size ≤ b := Nat.le_trans K103.1 szc104
    have g_b : n0 ≤ b := Nat.le_trans Z0 sz_b
    replace E_s0 := E_s0.keep Kc104
    replace E_s1 := E_s1.keep Kc104
    replace E_s2 := E_s2.keep Kc104
    replace E_a := E_a.keep Kc104
    have K105 := own_ext_keep K103 Kc104 (allS sz_a all0)
    try clear Kc104
    try clear K103
    show own_Gl p e below _ (T104.setTop (mkF m 60 #[.val (.int i0), .val (.int i1), .val (.int i2), .val (.int i3), .val (.int (3 : Int32)), .val (.ref s0), .val (.ref s1), .val (.ref s2), .val (.ref a), .unset] [(.int (1 : Int32))]))
    try clear st104
    try clear N104q
    try clear N102
    try clear X102
    try clear T102
    refine own_st (fun tg_ kg_ => XS.pop X104.here hx rfl (hb hby at_60) rfl rfl kg_) ?_
    show own_Gl p e below _ (T104.setTop (mkF m 61 #[.val (.int i0), .val (.int i1), .val (.int i2), .val (.int i3), .val (.int (3 : Int32)), .val (.ref s0), .val (.ref s1), .val (.ref s2), .val (.ref a), .unset] []))
    refine own_st (fun tg_ kg_ => XS.iload X104.here hx rfl (hb hby at_61) rfl kg_) ?_
    show own_Gl p e below _ (T104.setTop (mkF m 63 #[.val (.int i0), .val (.int i1), .val (.int i2), .val (.int i3), .val (.int (3 : Int32)), .val (.ref s0), .val (.ref s1), .val (.ref s2), .val (.ref a), .unset] [(.int (3 : Int32))]))
    refine own_st (fun tg_ kg_ => XS.iconst X104.here hx rfl (hb hby at_63) kg_) ?_
    show own_Gl p e below _ (T104.setTop (mkF m 64 #[.val (.int i0), .val (.int i1), .val (.int i2), .val (.int i3), .val (.int (3 : Int32)), .val (.ref s0), .val (.ref s1), .val (.ref s2), .val (.ref a), .unset] [(.int (2 : Int32)), (.int (3 : Int32))]))
    refine own_st (fun tg_ kg_ => XS.icmpNo X104.here hx rfl (hb hby at_64) rfl (flt ((by decide : ¬ ((3 : Int32) < (2 : Int32))))).1 kg_) ?_
    show own_Gl p e below _ (T104.setTop (mkF m 67 #[.val (.int i0), .val (.int i1), .val (.int i2), .val (.int i3), .val (.int (3 : Int32)), .val (.ref s0), .val (.ref s1), .val (.ref s2), .val (.ref a), .unset] []))
    refine own_st (fun tg_ kg_ => XS.aload X104.here hx rfl (hb hby at_67) rfl rfl kg_) ?_
    show own_Gl p e below _ (T104.setTop (mkF m 69 #[.val (.int i0), .val (.int i1), .val (.int i2), .val (.int i3), .val (.int (3 : Int32)), .val (.ref s0), .val (.ref s1), .val (.ref s2), .val (.ref a), .unset] [(.ref a)]))
    refine own_st (fun tg_ kg_ => XS.aload X104.here hx rfl (hb hby at_69) rfl rfl kg_) ?_
    show own_Gl p e below _ (T104.setTop (mkF m 71 #[.val (.int i0), .val (.int i1), .val (.int i2), .val (.int i3), .val (.int (3 : Int32)), .val (.ref s0), .val (.ref s1), .val (.ref s2), .val (.ref a), .unset] [(.ref s1), (.ref a)]))
    obtain ⟨cq106, kq106, q106a, q106b, q106c⟩ := isOf hZ rfl E_a
    obtain ⟨_, _, ⟨T106, L106, k106, n106⟩, -, X106, ⟨Lc106, hQ106, l106, y106, z106⟩, st106⟩ := X104.virtualBack hx (y := (⟨"java/util/ArrayList", "add", "(Ljava/lang/Object;)Z"⟩ : MethodName)) (z := (⟨"java/util/ArrayList", "add", "(Ljava/lang/Object;)Z"⟩ : MethodName)) hown (mvT hZ (hw _ (List.mem_of_getElem? (i := 68) rfl))) (mvT hZ (hw _ (List.mem_of_getElem? (i := 69) rfl))) (notFace_of_selects (args := #[]) (mvT hZ (hw _ (List.mem_of_getElem? (i := 71) rfl)))) (mvT hZ (hw _ (List.mem_of_getElem? (i := 71) rfl))) (mvT hZ (hw _ (List.mem_of_getElem? (i := 70) rfl))) (by decide) (backOf (W := 0) (own_rm_adB1 l Z a0 hw [] a s1 b kb ((0 : Int32) + (1 : Int32)) (.ref s0) T104.heap n0 (Nat.le_trans Z0 K105.1) E_a F_m F_e F_s g_a V_b O_b ne_a_b g_b E_s1) hZ (hw _ (List.mem_of_getElem? (i := 72) rfl)) (hw _ (List.mem_of_getElem? (i := 15) rfl)) (by decide) (by decide)) q106a q106c (g := (mkF m 71 #[.val (.int i0), .val (.int i1), .val (.int i2), .val (.int i3), .val (.int (3 : Int32)), .val (.ref s0), .val (.ref s1), .val (.ref s2), .val (.ref a), .unset] [(.ref s1), (.ref a)])) rfl (by rw [hml]; rfl) (Steps.refl _) (argsL := [(.ref s1)]) (rest := []) (lenOf own_pd11 rfl) rfl (by show 2 * 0 + _ ≤ _; exact Nat.le_of_eq rfl) (hb hby at_71) (fun _ _ => ⟨rfl, rfl, (by decide : 5 + 0 ≤ _), (by decide : 19 + 0 ≤ _)⟩)
    dsimp only [Pt.U, Pt.locs, Pt.cells, Pt.slots] at X106 l106 y106 z106 st106 hQ106
    subst l106 y106 z106
    obtain ⟨rfl, V_b, F_m, F_e, F_s, N106q, Kc106⟩ := hQ106
    have N106 := Fr.app N104 N106q
    refine own_tr st106 ?_
    replace E_s0 := E_s0.keep Kc106
    replace E_s1 := E_s1.keep Kc106
    replace E_s2 := E_s2.keep Kc106
    replace E_a := E_a.keep Kc106
    have K107 := own_ext_keep K105 Kc106 (allS sz_a (allS sz_b all0))
    try clear Kc106
    try clear K105
    show own_Gl p e below _ (T106.setTop (mkF m 74 #[.val (.int i0), .val (.int i1), .val (.int i2), .val (.int i3), .val (.int (3 : Int32)), .val (.ref s0), .val (.ref s1), .val (.ref s2), .val (.ref a), .unset] [(.int (1 : Int32))]))
    try clear st106
    try clear N106q
    try clear N104
    try clear X104
    try clear T104
    refine own_st (fun tg_ kg_ => XS.pop X106.here hx rfl (hb hby at_74) rfl rfl kg_) ?_
    show own_Gl p e below _ (T106.setTop (mkF m 75 #[.val (.int i0), .val (.int i1), .val (.int i2), .val (.int i3), .val (.int (3 : Int32)), .val (.ref s0), .val (.ref s1), .val (.ref s2), .val (.ref a), .unset] []))
    refine own_st (fun tg_ kg_ => XS.iload X106.here hx rfl (hb hby at_75) rfl kg_) ?_
    show own_Gl p e below _ (T106.setTop (mkF m 77 #[.val (.int i0), .val (.int i1), .val (.int i2), .val (.int i3), .val (.int (3 : Int32)), .val (.ref s0), .val (.ref s1), .val (.ref s2), .val (.ref a), .unset] [(.int (3 : Int32))]))
    refine own_st (fun tg_ kg_ => XS.iconst X106.here hx rfl (hb hby at_77) kg_) ?_
    show own_Gl p e below _ (T106.setTop (mkF m 78 #[.val (.int i0), .val (.int i1), .val (.int i2), .val (.int i3), .val (.int (3 : Int32)), .val (.ref s0), .val (.ref s1), .val (.ref s2), .val (.ref a), .unset] [(.int (3 : Int32)), (.int (3 : Int32))]))
    refine own_st (fun tg_ kg_ => XS.icmpNo X106.here hx rfl (hb hby at_78) rfl (flt ((by decide : ¬ ((3 : Int32) < (3 : Int32))))).1 kg_) ?_
    show own_Gl p e below _ (T106.setTop (mkF m 81 #[.val (.int i0), .val (.int i1), .val (.int i2), .val (.int i3), .val (.int (3 : Int32)), .val (.ref s0), .val (.ref s1), .val (.ref s2), .val (.ref a), .unset] []))
    refine own_st (fun tg_ kg_ => XS.aload X106.here hx rfl (hb hby at_81) rfl rfl kg_) ?_
    show own_Gl p e below _ (T106.setTop (mkF m 83 #[.val (.int i0), .val (.int i1), .val (.int i2), .val (.int i3), .val (.int (3 : Int32)), .val (.ref s0), .val (.ref s1), .val (.ref s2), .val (.ref a), .unset] [(.ref a)]))
    refine own_st (fun tg_ kg_ => XS.aload X106.here hx rfl (hb hby at_83) rfl rfl kg_) ?_
    show own_Gl p e below _ (T106.setTop (mkF m 85 #[.val (.int i0), .val (.int i1), .val (.int i2), .val (.int i3), .val (.int (3 : Int32)), .val (.ref s0), .val (.ref s1), .val (.ref s2), .val (.ref a), .unset] [(.ref s2), (.ref a)]))
    obtain ⟨cq108, kq108, q108a, q108b, q108c⟩ := isOf hZ rfl E_a
    obtain ⟨_, _, ⟨T108, L108, k108, n108⟩, -, X108, ⟨Lc108, hQ108, l108, y108, z108⟩, st108⟩ := X106.virtualBack hx (y := (⟨"java/util/ArrayList", "add", "(Ljava/lang/Object;)Z"⟩ : MethodName)) (z := (⟨"java/util/ArrayList", "add", "(Ljava/lang/Object;)Z"⟩ : MethodName)) hown (mvT hZ (hw _ (List.mem_of_getElem? (i := 68) rfl))) (mvT hZ (hw _ (List.mem_of_getElem? (i := 69) rfl))) (notFace_of_selects (args := #[]) (mvT hZ (hw _ (List.mem_of_getElem? (i := 71) rfl)))) (mvT hZ (hw _ (List.mem_of_getElem? (i := 71) rfl))) (mvT hZ (hw _ (List.mem_of_getElem? (i := 70) rfl))) (by decide) (backOf (W := 0) (own_rm_adB2 l Z a0 hw [] a s2 b kb (((0 : Int32) + (1 : Int32)) + (1 : Int32)) (.ref s0) (.ref s1) T106.heap n0 (Nat.le_trans Z0 K107.1) E_a F_m F_e F_s g_a V_b O_b ne_a_b g_b E_s2) hZ (hw _ (List.mem_of_getElem? (i := 72) rfl)) (hw _ (List.mem_of_getElem? (i := 15) rfl)) (by decide) (by decide)) q108a q108c (g := (mkF m 85 #[.val (.int i0), .val (.int i1), .val (.int i2), .val (.int i3), .val (.int (3 : Int32)), .val (.ref s0), .val (.ref s1), .val (.ref s2), .val (.ref a), .unset] [(.ref s2), (.ref a)])) rfl (by rw [hml]; rfl) (Steps.refl _) (argsL := [(.ref s2)]) (rest := []) (lenOf own_pd11 rfl) rfl (by show 2 * 0 + _ ≤ _; exact Nat.le_of_eq rfl) (hb hby at_85) (fun _ _ => ⟨rfl, rfl, (by decide : 5 + 0 ≤ _), (by decide : 19 + 0 ≤ _)⟩)
    dsimp only [Pt.U, Pt.locs, Pt.cells, Pt.slots] at X108 l108 y108 z108 st108 hQ108
    subst l108 y108 z108
    obtain ⟨rfl, V_b, F_m, F_e, F_s, N108q, Kc108⟩ := hQ108
    have N108 := Fr.app N106 N108q
    refine own_tr st108 ?_
    replace E_s0 := E_s0.keep Kc108
    replace E_s1 := E_s1.keep Kc108
    replace E_s2 := E_s2.keep Kc108
    replace E_a := E_a.keep Kc108
    have K109 := own_ext_keep K107 Kc108 (allS sz_a (allS sz_b all0))
    try clear Kc108
    try clear K107
    show own_Gl p e below _ (T108.setTop (mkF m 88 #[.val (.int i0), .val (.int i1), .val (.int i2), .val (.int i3), .val (.int (3 : Int32)), .val (.ref s0), .val (.ref s1), .val (.ref s2), .val (.ref a), .unset] [(.int (1 : Int32))]))
    try clear st108
    try clear N108q
    try clear N106
    try clear X106
    try clear T106
    refine own_st (fun tg_ kg_ => XS.pop X108.here hx rfl (hb hby at_88) rfl rfl kg_) ?_
    show own_Gl p e below _ (T108.setTop (mkF m 89 #[.val (.int i0), .val (.int i1), .val (.int i2), .val (.int i3), .val (.int (3 : Int32)), .val (.ref s0), .val (.ref s1), .val (.ref s2), .val (.ref a), .unset] []))
    obtain ⟨T110, h110, X110, e110, E110, A110, D110, -, st110⟩ := newO X108 hx hZ hown (hw _ (List.mem_of_getElem? (i := 37) rfl)) (hw _ (List.mem_of_getElem? (i := 38) rfl)) (hw _ (List.mem_of_getElem? (i := 39) rfl)) rfl (g := (mkF m 89 #[.val (.int i0), .val (.int i1), .val (.int i2), .val (.int i3), .val (.int (3 : Int32)), .val (.ref s0), .val (.ref s1), .val (.ref s2), .val (.ref a), .unset] [])) rfl (hb hby at_89) (by decide) (by decide)
    obtain ⟨pt, g110⟩ : ∃ z, z = T108.heap.size := ⟨_, rfl⟩
    have ne_aD_pt : aD ≠ pt := Nat.ne_of_lt (Nat.lt_of_lt_of_le (V_aD.ext K109).lt (Nat.le_of_eq g110.symm))
    have ne_one_pt : one ≠ pt := Nat.ne_of_lt (Nat.lt_of_lt_of_le (F_c.ext K109).lt (Nat.le_of_eq g110.symm))
    have ne_s0_pt : s0 ≠ pt := Nat.ne_of_lt (Nat.lt_of_lt_of_le E_s0.lt (Nat.le_of_eq g110.symm))
    have ne_s1_pt : s1 ≠ pt := Nat.ne_of_lt (Nat.lt_of_lt_of_le E_s1.lt (Nat.le_of_eq g110.symm))
    have ne_s2_pt : s2 ≠ pt := Nat.ne_of_lt (Nat.lt_of_lt_of_le E_s2.lt (Nat.le_of_eq g110.symm))
    have ne_a_pt : a ≠ pt := Nat.ne_of_lt (Nat.lt_of_lt_of_le E_a.lt (Nat.le_of_eq g110.symm))
    have ne_b_pt : b ≠ pt := Nat.ne_of_lt (Nat.lt_of_lt_of_le V_b.lt (Nat.le_of_eq g110.symm))
    have sz_pt : h0.size ≤ pt := (Nat.le_trans K109.1 (Nat.le_of_eq g110.symm))
    have g_pt : n0 ≤ pt := Nat.le_trans Z0 sz_pt
    rw [← g110] at A110 D110 st110
    replace E_s0 := E_s0.ext E110
    replace E_s1 := E_s1.ext E110
    replace E_s2 := E_s2.ext E110
    replace E_a := E_a.ext E110
    replace F_m := F_m.ext E110
    replace F_e := F_e.ext E110
    replace F_s := F_s.ext E110
    replace V_b := V_b.ext E110
    have K111 := own_ext_tr K109 E110
    try clear E110
    try clear K109
    have E_pt := A110
    refine own_st st110 ?_
    try clear st110
    try clear X108
    try clear T108
    show own_Gl p e below _ (T110.setTop (mkF m 92 #[.val (.int i0), .val (.int i1), .val (.int i2), .val (.int i3), .val (.int (3 : Int32)), .val (.ref s0), .val (.ref s1), .val (.ref s2), .val (.ref a), .unset] [(.ref pt)]))
    refine own_st (fun tg_ kg_ => XS.dup X110.here hx rfl (hb hby at_92) rfl rfl kg_) ?_
    show own_Gl p e below _ (T110.setTop (mkF m 93 #[.val (.int i0), .val (.int i1), .val (.int i2), .val (.int i3), .val (.int (3 : Int32)), .val (.ref s0), .val (.ref s1), .val (.ref s2), .val (.ref a), .unset] [(.ref pt), (.ref pt)]))
    obtain ⟨_, _, ⟨T112, L112, k112, n112⟩, -, X112, ⟨Lc112, hQ112, l112, y112, z112⟩, st112⟩ := X110.specialBack hx (y := (⟨"com/example/ratably/ratably/method/EvenPeriods", "<init>", "()V"⟩ : MethodName)) rfl hown (mvT hZ (hw _ (List.mem_of_getElem? (i := 40) rfl))) (mvT hZ (hw _ (List.mem_of_getElem? (i := 41) rfl))) (mvT hZ (hw _ (List.mem_of_getElem? (i := 42) rfl))) (by decide) (backOf (W := 1) (own_rm_epi l Z a0 hw [] pt h110 n0 (Nat.le_trans Z0 K111.1)) hZ (hw _ (List.mem_of_getElem? (i := 42) rfl)) (hw _ (List.mem_of_getElem? (i := 39) rfl)) (by decide) (by decide)) (g := (mkF m 93 #[.val (.int i0), .val (.int i1), .val (.int i2), .val (.int i3), .val (.int (3 : Int32)), .val (.ref s0), .val (.ref s1), .val (.ref s2), .val (.ref a), .unset] [(.ref pt), (.ref pt)])) rfl (by rw [hml]; rfl) (Steps.refl _) (a := pt) (argsL := []) (rest := [(.ref pt)]) (lenOf own_pd0 rfl) rfl (by show 2 * 0 + _ ≤ _; exact Nat.le_of_eq rfl) (hb hby at_93) (fun _ _ => ⟨rfl, e110, (by decide : 6 + 0 ≤ _), (by decide : 19 + 0 ≤ _)⟩)
    dsimp only [Pt.U, Pt.locs, Pt.cells, Pt.slots] at X112 l112 y112 z112 st112 hQ112
    subst l112 y112 z112
    obtain ⟨rfl, N112q, e112⟩ := hQ112
    have N112 := Fr.app N108 N112q
    refine own_tr st112 ?_
    show own_Gl p e below _ (T112.setTop (mkF m 96 #[.val (.int i0), .val (.int i1), .val (.int i2), .val (.int i3), .val (.int (3 : Int32)), .val (.ref s0), .val (.ref s1), .val (.ref s2), .val (.ref a), .unset] [(.ref pt)]))
    try clear st112
    try clear N112q
    try clear N108
    try clear e110
    try clear X110
    try clear T110
    refine own_st (fun tg_ kg_ => XS.aload X112.here hx rfl (hb hby at_96) rfl rfl kg_) ?_
    show own_Gl p e below _ (T112.setTop (mkF m 98 #[.val (.int i0), .val (.int i1), .val (.int i2), .val (.int i3), .val (.int (3 : Int32)), .val (.ref s0), .val (.ref s1), .val (.ref s2), .val (.ref a), .unset] [(.ref a), (.ref pt)]))
    obtain ⟨cq113, kq113, q113a, q113b, q113c⟩ := isOf hZ e112 E_pt
    obtain ⟨_, _, ⟨T113, L113, k113, n113⟩, -, X113, ⟨Lc113, hQ113, l113, y113, z113⟩, st113⟩ := X112.virtualBack hx (y := (⟨"com/example/ratably/ratably/method/EvenPeriods", "weights", "(Ljava/util/List;)[Ljava/math/BigDecimal;"⟩ : MethodName)) (z := (⟨"com/example/ratably/ratably/method/EvenPeriods", "weights", "(Ljava/util/List;)[Ljava/math/BigDecimal;"⟩ : MethodName)) hown (mvT hZ (hw _ (List.mem_of_getElem? (i := 44) rfl))) (mvT hZ (hw _ (List.mem_of_getElem? (i := 45) rfl))) (notFace_of_selects (args := #[]) (mvT hZ (hw _ (List.mem_of_getElem? (i := 47) rfl)))) (mvT hZ (hw _ (List.mem_of_getElem? (i := 47) rfl))) (mvT hZ (hw _ (List.mem_of_getElem? (i := 46) rfl))) (by decide) (backOf (W := 0) (own_rm_wei3 l Z a0 hw [] pt a one h110 n0 (Nat.le_trans Z0 K111.1) E_a F_s (S_1.ext K111) (E_1.ext K111)) hZ (hw _ (List.mem_of_getElem? (i := 48) rfl)) (hw _ (List.mem_of_getElem? (i := 39) rfl)) (by decide) (by decide)) q113a q113c (g := (mkF m 98 #[.val (.int i0), .val (.int i1), .val (.int i2), .val (.int i3), .val (.int (3 : Int32)), .val (.ref s0), .val (.ref s1), .val (.ref s2), .val (.ref a), .unset] [(.ref a), (.ref pt)])) rfl (by rw [hml]; rfl) (Steps.refl _) (argsL := [(.ref a)]) (rest := []) (lenOf own_pd10 rfl) rfl (by show 2 * 0 + _ ≤ _; exact Nat.le_of_eq rfl) (hb hby at_98) (fun _ _ => ⟨rfl, e112, (by decide : 6 + 1 ≤ _), (by decide : 19 + 3 ≤ _)⟩)
    dsimp only [Pt.U, Pt.locs, Pt.cells, Pt.slots] at X113 l113 y113 z113 st113 hQ113
    subst l113 y113 z113
    obtain ⟨⟨w, kw, rfl, szc113, V_w⟩, N113q, Kc113⟩ := hQ113
    have N113 := Fr.app N112 N113q
    refine own_tr st113 ?_
    have ne_aD_w : aD ≠ w := Nat.ne_of_lt (Nat.lt_of_lt_of_le (V_aD.ext K111).lt szc113)
    have ne_one_w : one ≠ w := Nat.ne_of_lt (Nat.lt_of_lt_of_le (F_c.ext K111).lt szc113)
    have ne_s0_w : s0 ≠ w := Nat.ne_of_lt (Nat.lt_of_lt_of_le E_s0.lt szc113)
    have ne_s1_w : s1 ≠ w := Nat.ne_of_lt (Nat.lt_of_lt_of_le E_s1.lt szc113)
    have ne_s2_w : s2 ≠ w := Nat.ne_of_lt (Nat.lt_of_lt_of_le E_s2.lt szc113)
    have ne_a_w : a ≠ w := Nat.ne_of_lt (Nat.lt_of_lt_of_le E_a.lt szc113)
    have ne_b_w : b ≠ w := Nat.ne_of_lt (Nat.lt_of_lt_of_le V_b.lt szc113)
    have ne_pt_w : pt ≠ w := Nat.ne_of_lt (Nat.lt_of_lt_of_le E_pt.lt szc113)
    have sz_w : h0.size ≤ w := Nat.le_trans K111.1 szc113
    have g_w : n0 ≤ w := Nat.le_trans Z0 sz_w
    replace E_s0 := E_s0.ext Kc113
    replace E_s1 := E_s1.ext Kc113
    replace E_s2 := E_s2.ext Kc113
    replace E_a := E_a.ext Kc113
    replace F_m := F_m.ext Kc113
    replace F_e := F_e.ext Kc113
    replace F_s := F_s.ext Kc113
    replace V_b := V_b.ext Kc113
    replace E_pt := E_pt.ext Kc113
    have K114 := own_ext_tr K111 Kc113
    try clear Kc113
    try clear K111
    show own_Gl p e below _ (T113.setTop (mkF m 101 #[.val (.int i0), .val (.int i1), .val (.int i2), .val (.int i3), .val (.int (3 : Int32)), .val (.ref s0), .val (.ref s1), .val (.ref s2), .val (.ref a), .unset] [(.ref w)]))
    try clear st113
    try clear N113q
    try clear N112
    try clear e112
    try clear X112
    try clear T112
    refine own_st (fun tg_ kg_ => XS.astore X113.here hx rfl (hb hby at_101) rfl rfl (l' := #[.val (.int i0), .val (.int i1), .val (.int i2), .val (.int i3), .val (.int (3 : Int32)), .val (.ref s0), .val (.ref s1), .val (.ref s2), .val (.ref a), .val (.ref w)]) rfl kg_) ?_
    show own_Gl p e below _ (T113.setTop (mkF m 103 #[.val (.int i0), .val (.int i1), .val (.int i2), .val (.int i3), .val (.int (3 : Int32)), .val (.ref s0), .val (.ref s1), .val (.ref s2), .val (.ref a), .val (.ref w)] []))
    refine own_st (fun tg_ kg_ => XS.aload X113.here hx rfl (hb hby at_103) rfl rfl kg_) ?_
    show own_Gl p e below _ (T113.setTop (mkF m 105 #[.val (.int i0), .val (.int i1), .val (.int i2), .val (.int i3), .val (.int (3 : Int32)), .val (.ref s0), .val (.ref s1), .val (.ref s2), .val (.ref a), .val (.ref w)] [(.ref w)]))
    refine own_st (fun tg_ kg_ => XT.nullNo X113.here hx rfl (hb hby at_105) rfl rfl nofun kg_) ?_
    show own_Gl p e below _ (T113.setTop (mkF m 108 #[.val (.int i0), .val (.int i1), .val (.int i2), .val (.int i3), .val (.int (3 : Int32)), .val (.ref s0), .val (.ref s1), .val (.ref s2), .val (.ref a), .val (.ref w)] []))
    refine own_st (fun tg_ kg_ => XS.aload X113.here hx rfl (hb hby at_108) rfl rfl kg_) ?_
    show own_Gl p e below _ (T113.setTop (mkF m 110 #[.val (.int i0), .val (.int i1), .val (.int i2), .val (.int i3), .val (.int (3 : Int32)), .val (.ref s0), .val (.ref s1), .val (.ref s2), .val (.ref a), .val (.ref w)] [(.ref w)]))
    obtain ⟨cl115, Ar115, qa115, Sa115, Na115, Ha115, Ga115⟩ := id V_w
    refine own_st (fun tg_ kg_ => X113.arraylength hx Ar115.1 (State.isArrayOf_alike hZ.alike Ar115.2.1) (g := (mkF m 110 #[.val (.int i0), .val (.int i1), .val (.int i2), .val (.int i3), .val (.int (3 : Int32)), .val (.ref s0), .val (.ref s1), .val (.ref s2), .val (.ref a), .val (.ref w)] [(.ref w)])) rfl rfl (hb hby at_110) _ kg_) ?_
    rw [len_of Sa115 Na115]
    show own_Gl p e below _ (T113.setTop (mkF m 111 #[.val (.int i0), .val (.int i1), .val (.int i2), .val (.int i3), .val (.int (3 : Int32)), .val (.ref s0), .val (.ref s1), .val (.ref s2), .val (.ref a), .val (.ref w)] [(.int (3 : Int32))]))
    refine own_st (fun tg_ kg_ => XS.iload X113.here hx rfl (hb hby at_111) rfl kg_) ?_
    show own_Gl p e below _ (T113.setTop (mkF m 113 #[.val (.int i0), .val (.int i1), .val (.int i2), .val (.int i3), .val (.int (3 : Int32)), .val (.ref s0), .val (.ref s1), .val (.ref s2), .val (.ref a), .val (.ref w)] [(.int (3 : Int32)), (.int (3 : Int32))]))
    refine own_st (fun tg_ kg_ => XS.icmpYes X113.here hx rfl (pc0 := 113) (pc' := 118) rfl (hb hby at_113) rfl (teq ((rfl : (3 : Int32) = (3 : Int32)))).1 (by decide) (by decide) kg_) ?_
    show own_Gl p e below _ (T113.setTop (mkF m 118 #[.val (.int i0), .val (.int i1), .val (.int i2), .val (.int i3), .val (.int (3 : Int32)), .val (.ref s0), .val (.ref s1), .val (.ref s2), .val (.ref a), .val (.ref w)] []))
    refine own_st (fun tg_ kg_ => XS.iload X113.here hx rfl (hb hby at_118) rfl kg_) ?_
    show own_Gl p e below _ (T113.setTop (mkF m 120 #[.val (.int i0), .val (.int i1), .val (.int i2), .val (.int i3), .val (.int (3 : Int32)), .val (.ref s0), .val (.ref s1), .val (.ref s2), .val (.ref a), .val (.ref w)] [(.int (3 : Int32))]))
    refine own_st (fun tg_ kg_ => XS.ifYes X113.here hx rfl (pc0 := 120) (pc' := 125) rfl (hb hby at_120) rfl ((if0 _ _).trans (feq ((by decide : ¬ ((3 : Int32) = (0 : Int32))))).2) (by decide) (by decide) kg_) ?_
    show own_Gl p e below _ (T113.setTop (mkF m 125 #[.val (.int i0), .val (.int i1), .val (.int i2), .val (.int i3), .val (.int (3 : Int32)), .val (.ref s0), .val (.ref s1), .val (.ref s2), .val (.ref a), .val (.ref w)] []))
    refine own_st (fun tg_ kg_ => XS.aload X113.here hx rfl (hb hby at_125) rfl rfl kg_) ?_
    show own_Gl p e below _ (T113.setTop (mkF m 127 #[.val (.int i0), .val (.int i1), .val (.int i2), .val (.int i3), .val (.int (3 : Int32)), .val (.ref s0), .val (.ref s1), .val (.ref s2), .val (.ref a), .val (.ref w)] [(.ref w)]))
    refine own_st (fun tg_ kg_ => XS.iconst X113.here hx rfl (hb hby at_127) kg_) ?_
    show own_Gl p e below _ (T113.setTop (mkF m 128 #[.val (.int i0), .val (.int i1), .val (.int i2), .val (.int i3), .val (.int (3 : Int32)), .val (.ref s0), .val (.ref s1), .val (.ref s2), .val (.ref a), .val (.ref w)] [(.int (0 : Int32)), (.ref w)]))
    obtain ⟨cl116, Ar116, qa116, Sa116, Na116, Ha116, Ga116⟩ := id V_w
    have hin117 : ¬ ((0 : Int32) < 0 ∨ cl116.slots.size ≤ ((0 : Int32)).toNatClampNeg) := inb_of Sa116 ⟨by decide, by decide⟩
    have hat117 : cl116.slots[((0 : Int32)).toNatClampNeg]? = some (.ref one) := Has.at Ha116 hin117 rfl
    refine own_st (fun tg_ kg_ => X113.aaload hx (j := (0 : Int32)) (v := (.ref one)) Ar116.1 (State.isArrayOf_alike hZ.alike Ar116.2.1) rfl Ar116.2.2 hin117 hat117 (g := (mkF m 128 #[.val (.int i0), .val (.int i1), .val (.int i2), .val (.int i3), .val (.int (3 : Int32)), .val (.ref s0), .val (.ref s1), .val (.ref s2), .val (.ref a), .val (.ref w)] [(.int (0 : Int32)), (.ref w)])) rfl rfl (hb hby at_128) _ kg_) ?_
    show own_Gl p e below _ (T113.setTop (mkF m 129 #[.val (.int i0), .val (.int i1), .val (.int i2), .val (.int i3), .val (.int (3 : Int32)), .val (.ref s0), .val (.ref s1), .val (.ref s2), .val (.ref a), .val (.ref w)] [(.ref one)]))
    refine own_st (fun tg_ kg_ => XT.nullNo X113.here hx rfl (hb hby at_129) rfl rfl nofun kg_) ?_
    show own_Gl p e below _ (T113.setTop (mkF m 132 #[.val (.int i0), .val (.int i1), .val (.int i2), .val (.int i3), .val (.int (3 : Int32)), .val (.ref s0), .val (.ref s1), .val (.ref s2), .val (.ref a), .val (.ref w)] []))
    refine own_st (fun tg_ kg_ => XS.aload X113.here hx rfl (hb hby at_132) rfl rfl kg_) ?_
    show own_Gl p e below _ (T113.setTop (mkF m 134 #[.val (.int i0), .val (.int i1), .val (.int i2), .val (.int i3), .val (.int (3 : Int32)), .val (.ref s0), .val (.ref s1), .val (.ref s2), .val (.ref a), .val (.ref w)] [(.ref w)]))
    refine own_st (fun tg_ kg_ => XS.iconst X113.here hx rfl (hb hby at_134) kg_) ?_
    show own_Gl p e below _ (T113.setTop (mkF m 135 #[.val (.int i0), .val (.int i1), .val (.int i2), .val (.int i3), .val (.int (3 : Int32)), .val (.ref s0), .val (.ref s1), .val (.ref s2), .val (.ref a), .val (.ref w)] [(.int (0 : Int32)), (.ref w)]))
    obtain ⟨cl118, Ar118, qa118, Sa118, Na118, Ha118, Ga118⟩ := id V_w
    have hin119 : ¬ ((0 : Int32) < 0 ∨ cl118.slots.size ≤ ((0 : Int32)).toNatClampNeg) := inb_of Sa118 ⟨by decide, by decide⟩
    have hat119 : cl118.slots[((0 : Int32)).toNatClampNeg]? = some (.ref one) := Has.at Ha118 hin119 rfl
    refine own_st (fun tg_ kg_ => X113.aaload hx (j := (0 : Int32)) (v := (.ref one)) Ar118.1 (State.isArrayOf_alike hZ.alike Ar118.2.1) rfl Ar118.2.2 hin119 hat119 (g := (mkF m 135 #[.val (.int i0), .val (.int i1), .val (.int i2), .val (.int i3), .val (.int (3 : Int32)), .val (.ref s0), .val (.ref s1), .val (.ref s2), .val (.ref a), .val (.ref w)] [(.int (0 : Int32)), (.ref w)])) rfl rfl (hb hby at_135) _ kg_) ?_
    show own_Gl p e below _ (T113.setTop (mkF m 136 #[.val (.int i0), .val (.int i1), .val (.int i2), .val (.int i3), .val (.int (3 : Int32)), .val (.ref s0), .val (.ref s1), .val (.ref s2), .val (.ref a), .val (.ref w)] [(.ref one)]))
    obtain ⟨cq120, kq120, q120a, q120b, q120c⟩ := isOf hZ rfl (E_1.ext K114)
    obtain ⟨_, _, ⟨T120, L120, k120, n120⟩, -, X120, ⟨Lc120, hQ120, l120, y120, z120⟩, st120⟩ := X113.virtualBack hx (y := (⟨"java/math/BigDecimal", "signum", "()I"⟩ : MethodName)) (z := (⟨"java/math/BigDecimal", "signum", "()I"⟩ : MethodName)) hown (mvT hZ (hw _ (List.mem_of_getElem? (i := 98) rfl))) (mvT hZ (hw _ (List.mem_of_getElem? (i := 99) rfl))) (notFace_of_selects (args := #[]) (mvT hZ (hw _ (List.mem_of_getElem? (i := 101) rfl)))) (mvT hZ (hw _ (List.mem_of_getElem? (i := 101) rfl))) (mvT hZ (hw _ (List.mem_of_getElem? (i := 100) rfl))) (by decide) (backOf (W := 0) (own_rm_sgn l Z a0 hw [] one T113.heap n0 (Nat.le_trans Z0 K114.1) (F_c.ext K114)) hZ (hw _ (List.mem_of_getElem? (i := 102) rfl)) (hw _ (List.mem_of_getElem? (i := 63) rfl)) (by decide) (by decide)) q120a q120c (g := (mkF m 136 #[.val (.int i0), .val (.int i1), .val (.int i2), .val (.int i3), .val (.int (3 : Int32)), .val (.ref s0), .val (.ref s1), .val (.ref s2), .val (.ref a), .val (.ref w)] [(.ref one)])) rfl (by rw [hml]; rfl) (Steps.refl _) (argsL := []) (rest := []) (lenOf own_pd5 rfl) rfl (by show 2 * 0 + _ ≤ _; exact Nat.le_of_eq rfl) (hb hby at_136) (fun _ _ => ⟨rfl, rfl, (by decide : 7 + 0 ≤ _), (by decide : 22 + 0 ≤ _)⟩)
    dsimp only [Pt.U, Pt.locs, Pt.cells, Pt.slots] at X120 l120 y120 z120 st120 hQ120
    subst l120 y120 z120
    obtain ⟨rfl, N120q, e120⟩ := hQ120
    have N120 := Fr.app N113 N120q
    refine own_tr st120 ?_
    show own_Gl p e below _ (T120.setTop (mkF m 139 #[.val (.int i0), .val (.int i1), .val (.int i2), .val (.int i3), .val (.int (3 : Int32)), .val (.ref s0), .val (.ref s1), .val (.ref s2), .val (.ref a), .val (.ref w)] [(.int (1 : Int32))]))
    try clear st120
    try clear N120q
    try clear N113
    try clear X113
    refine own_st (fun tg_ kg_ => XS.ifYes X120.here hx rfl (pc0 := 139) (pc' := 144) rfl (hb hby at_139) rfl ((if0 _ _).trans (tlt ((by decide : (0 : Int32) < (1 : Int32)))).2.2.1) (by decide) (by decide) kg_) ?_
    show own_Gl p e below _ (T120.setTop (mkF m 144 #[.val (.int i0), .val (.int i1), .val (.int i2), .val (.int i3), .val (.int (3 : Int32)), .val (.ref s0), .val (.ref s1), .val (.ref s2), .val (.ref a), .val (.ref w)] []))
    refine own_st (fun tg_ kg_ => XS.iload X120.here hx rfl (hb hby at_144) rfl kg_) ?_
    show own_Gl p e below _ (T120.setTop (mkF m 146 #[.val (.int i0), .val (.int i1), .val (.int i2), .val (.int i3), .val (.int (3 : Int32)), .val (.ref s0), .val (.ref s1), .val (.ref s2), .val (.ref a), .val (.ref w)] [(.int (3 : Int32))]))
    refine own_st (fun tg_ kg_ => XS.iconst X120.here hx rfl (hb hby at_146) kg_) ?_
    show own_Gl p e below _ (T120.setTop (mkF m 147 #[.val (.int i0), .val (.int i1), .val (.int i2), .val (.int i3), .val (.int (3 : Int32)), .val (.ref s0), .val (.ref s1), .val (.ref s2), .val (.ref a), .val (.ref w)] [(.int (2 : Int32)), (.int (3 : Int32))]))
    refine own_st (fun tg_ kg_ => XS.icmpNo X120.here hx rfl (hb hby at_147) rfl (flt ((by decide : ¬ ((3 : Int32) < (2 : Int32))))).1 kg_) ?_
    show own_Gl p e below _ (T120.setTop (mkF m 150 #[.val (.int i0), .val (.int i1), .val (.int i2), .val (.int i3), .val (.int (3 : Int32)), .val (.ref s0), .val (.ref s1), .val (.ref s2), .val (.ref a), .val (.ref w)] []))
    refine own_st (fun tg_ kg_ => XS.aload X120.here hx rfl (hb hby at_150) rfl rfl kg_) ?_
    show own_Gl p e below _ (T120.setTop (mkF m 152 #[.val (.int i0), .val (.int i1), .val (.int i2), .val (.int i3), .val (.int (3 : Int32)), .val (.ref s0), .val (.ref s1), .val (.ref s2), .val (.ref a), .val (.ref w)] [(.ref w)]))
    refine own_st (fun tg_ kg_ => XS.iconst X120.here hx rfl (hb hby at_152) kg_) ?_
    show own_Gl p e below _ (T120.setTop (mkF m 153 #[.val (.int i0), .val (.int i1), .val (.int i2), .val (.int i3), .val (.int (3 : Int32)), .val (.ref s0), .val (.ref s1), .val (.ref s2), .val (.ref a), .val (.ref w)] [(.int (1 : Int32)), (.ref w)]))
    obtain ⟨cl121, Ar121, qa121, Sa121, Na121, Ha121, Ga121⟩ := id V_w
    have hin122 : ¬ ((1 : Int32) < 0 ∨ cl121.slots.size ≤ ((1 : Int32)).toNatClampNeg) := inb_of Sa121 ⟨by decide, by decide⟩
    have hat122 : cl121.slots[((1 : Int32)).toNatClampNeg]? = some (.ref one) := Has.at Ha121 hin122 rfl
    refine own_st (fun tg_ kg_ => X120.aaload hx (j := (1 : Int32)) (v := (.ref one)) (by rw [e120]; exact Ar121.1) (State.isArrayOf_alike hZ.alike Ar121.2.1) rfl Ar121.2.2 hin122 hat122 (g := (mkF m 153 #[.val (.int i0), .val (.int i1), .val (.int i2), .val (.int i3), .val (.int (3 : Int32)), .val (.ref s0), .val (.ref s1), .val (.ref s2), .val (.ref a), .val (.ref w)] [(.int (1 : Int32)), (.ref w)])) rfl rfl (hb hby at_153) _ kg_) ?_
    show own_Gl p e below _ (T120.setTop (mkF m 154 #[.val (.int i0), .val (.int i1), .val (.int i2), .val (.int i3), .val (.int (3 : Int32)), .val (.ref s0), .val (.ref s1), .val (.ref s2), .val (.ref a), .val (.ref w)] [(.ref one)]))
    refine own_st (fun tg_ kg_ => XS.aload X120.here hx rfl (hb hby at_154) rfl rfl kg_) ?_
    show own_Gl p e below _ (T120.setTop (mkF m 156 #[.val (.int i0), .val (.int i1), .val (.int i2), .val (.int i3), .val (.int (3 : Int32)), .val (.ref s0), .val (.ref s1), .val (.ref s2), .val (.ref a), .val (.ref w)] [(.ref w), (.ref one)]))
    refine own_st (fun tg_ kg_ => XS.iconst X120.here hx rfl (hb hby at_156) kg_) ?_
    show own_Gl p e below _ (T120.setTop (mkF m 157 #[.val (.int i0), .val (.int i1), .val (.int i2), .val (.int i3), .val (.int (3 : Int32)), .val (.ref s0), .val (.ref s1), .val (.ref s2), .val (.ref a), .val (.ref w)] [(.int (0 : Int32)), (.ref w), (.ref one)]))
    obtain ⟨cl123, Ar123, qa123, Sa123, Na123, Ha123, Ga123⟩ := id V_w
    have hin124 : ¬ ((0 : Int32) < 0 ∨ cl123.slots.size ≤ ((0 : Int32)).toNatClampNeg) := inb_of Sa123 ⟨by decide, by decide⟩
    have hat124 : cl123.slots[((0 : Int32)).toNatClampNeg]? = some (.ref one) := Has.at Ha123 hin124 rfl
    refine own_st (fun tg_ kg_ => X120.aaload hx (j := (0 : Int32)) (v := (.ref one)) (by rw [e120]; exact Ar123.1) (State.isArrayOf_alike hZ.alike Ar123.2.1) rfl Ar123.2.2 hin124 hat124 (g := (mkF m 157 #[.val (.int i0), .val (.int i1), .val (.int i2), .val (.int i3), .val (.int (3 : Int32)), .val (.ref s0), .val (.ref s1), .val (.ref s2), .val (.ref a), .val (.ref w)] [(.int (0 : Int32)), (.ref w), (.ref one)])) rfl rfl (hb hby at_157) _ kg_) ?_
    show own_Gl p e below _ (T120.setTop (mkF m 158 #[.val (.int i0), .val (.int i1), .val (.int i2), .val (.int i3), .val (.int (3 : Int32)), .val (.ref s0), .val (.ref s1), .val (.ref s2), .val (.ref a), .val (.ref w)] [(.ref one), (.ref one)]))
    obtain ⟨_, _, ⟨T125, L125, k125, n125⟩, -, X125, ⟨Lc125, hQ125, l125, y125, z125⟩, st125⟩ := Jvm.LawKit.callS X120 hx (y := (⟨"com/example/ratably/ratably/method/EvenPeriodsWeightsPinLaw", "same", "(Ljava/math/BigDecimal;Ljava/math/BigDecimal;)Z"⟩ : MethodName)) hown (mvT hZ (hw _ (List.mem_of_getElem? (i := 110) rfl))) (mvT hZ (hw _ (List.mem_of_getElem? (i := 111) rfl))) (mvT hZ (hw _ (List.mem_of_getElem? (i := 112) rfl))) (mvT hZ (hw _ (List.mem_of_getElem? (i := 113) rfl))) (by decide) (backOf (W := 0) (own_rm_sam l Z a0 hw [] one T113.heap n0 (Nat.le_trans Z0 K114.1) (E_1.ext K114) (F_c.ext K114) (F_z.ext K114)) hZ (hw _ (List.mem_of_getElem? (i := 113) rfl)) (hw _ (List.mem_of_getElem? (i := 112) rfl)) (by decide) (by decide)) (g := (mkF m 158 #[.val (.int i0), .val (.int i1), .val (.int i2), .val (.int i3), .val (.int (3 : Int32)), .val (.ref s0), .val (.ref s1), .val (.ref s2), .val (.ref a), .val (.ref w)] [(.ref one), (.ref one)])) rfl (by rw [hml]; rfl) (argsL := [(.ref one), (.ref one)]) (rest := []) (lenOf own_pd12 rfl) rfl (by show 2 * 0 + _ ≤ _; exact Nat.le_of_eq rfl) (hb hby at_158) (fun _ _ => ⟨rfl, e120, (by decide : 7 + 0 ≤ _), (by decide : 22 + 0 ≤ _)⟩)
    dsimp only [Pt.U, Pt.locs, Pt.cells, Pt.slots] at X125 l125 y125 z125 st125 hQ125
    subst l125 y125 z125
    obtain ⟨rfl, N125q, e125⟩ := hQ125
    have N125 := Fr.app N120 N125q
    refine own_st st125 ?_
    show own_Gl p e below _ (T125.setTop (mkF m 161 #[.val (.int i0), .val (.int i1), .val (.int i2), .val (.int i3), .val (.int (3 : Int32)), .val (.ref s0), .val (.ref s1), .val (.ref s2), .val (.ref a), .val (.ref w)] [(.int (1 : Int32))]))
    try clear st125
    try clear N125q
    try clear N120
    try clear e120
    try clear X120
    try clear T120
    refine own_st (fun tg_ kg_ => XS.ifYes X125.here hx rfl (pc0 := 161) (pc' := 166) rfl (hb hby at_161) rfl ((if0 _ _).trans (feq ((by decide : ¬ ((1 : Int32) = (0 : Int32))))).2) (by decide) (by decide) kg_) ?_
    show own_Gl p e below _ (T125.setTop (mkF m 166 #[.val (.int i0), .val (.int i1), .val (.int i2), .val (.int i3), .val (.int (3 : Int32)), .val (.ref s0), .val (.ref s1), .val (.ref s2), .val (.ref a), .val (.ref w)] []))
    refine own_st (fun tg_ kg_ => XS.iload X125.here hx rfl (hb hby at_166) rfl kg_) ?_
    show own_Gl p e below _ (T125.setTop (mkF m 168 #[.val (.int i0), .val (.int i1), .val (.int i2), .val (.int i3), .val (.int (3 : Int32)), .val (.ref s0), .val (.ref s1), .val (.ref s2), .val (.ref a), .val (.ref w)] [(.int (3 : Int32))]))
    refine own_st (fun tg_ kg_ => XS.iconst X125.here hx rfl (hb hby at_168) kg_) ?_
    show own_Gl p e below _ (T125.setTop (mkF m 169 #[.val (.int i0), .val (.int i1), .val (.int i2), .val (.int i3), .val (.int (3 : Int32)), .val (.ref s0), .val (.ref s1), .val (.ref s2), .val (.ref a), .val (.ref w)] [(.int (3 : Int32)), (.int (3 : Int32))]))
    refine own_st (fun tg_ kg_ => XS.icmpNo X125.here hx rfl (hb hby at_169) rfl (flt ((by decide : ¬ ((3 : Int32) < (3 : Int32))))).1 kg_) ?_
    show own_Gl p e below _ (T125.setTop (mkF m 172 #[.val (.int i0), .val (.int i1), .val (.int i2), .val (.int i3), .val (.int (3 : Int32)), .val (.ref s0), .val (.ref s1), .val (.ref s2), .val (.ref a), .val (.ref w)] []))
    refine own_st (fun tg_ kg_ => XS.aload X125.here hx rfl (hb hby at_172) rfl rfl kg_) ?_
    show own_Gl p e below _ (T125.setTop (mkF m 174 #[.val (.int i0), .val (.int i1), .val (.int i2), .val (.int i3), .val (.int (3 : Int32)), .val (.ref s0), .val (.ref s1), .val (.ref s2), .val (.ref a), .val (.ref w)] [(.ref w)]))
    refine own_st (fun tg_ kg_ => XS.iconst X125.here hx rfl (hb hby at_174) kg_) ?_
    show own_Gl p e below _ (T125.setTop (mkF m 175 #[.val (.int i0), .val (.int i1), .val (.int i2), .val (.int i3), .val (.int (3 : Int32)), .val (.ref s0), .val (.ref s1), .val (.ref s2), .val (.ref a), .val (.ref w)] [(.int (2 : Int32)), (.ref w)]))
    obtain ⟨cl126, Ar126, qa126, Sa126, Na126, Ha126, Ga126⟩ := id V_w
    have hin127 : ¬ ((2 : Int32) < 0 ∨ cl126.slots.size ≤ ((2 : Int32)).toNatClampNeg) := inb_of Sa126 ⟨by decide, by decide⟩
    have hat127 : cl126.slots[((2 : Int32)).toNatClampNeg]? = some (.ref one) := Has.at Ha126 hin127 rfl
    refine own_st (fun tg_ kg_ => X125.aaload hx (j := (2 : Int32)) (v := (.ref one)) (by rw [e125]; exact Ar126.1) (State.isArrayOf_alike hZ.alike Ar126.2.1) rfl Ar126.2.2 hin127 hat127 (g := (mkF m 175 #[.val (.int i0), .val (.int i1), .val (.int i2), .val (.int i3), .val (.int (3 : Int32)), .val (.ref s0), .val (.ref s1), .val (.ref s2), .val (.ref a), .val (.ref w)] [(.int (2 : Int32)), (.ref w)])) rfl rfl (hb hby at_175) _ kg_) ?_
    show own_Gl p e below _ (T125.setTop (mkF m 176 #[.val (.int i0), .val (.int i1), .val (.int i2), .val (.int i3), .val (.int (3 : Int32)), .val (.ref s0), .val (.ref s1), .val (.ref s2), .val (.ref a), .val (.ref w)] [(.ref one)]))
    refine own_st (fun tg_ kg_ => XS.aload X125.here hx rfl (hb hby at_176) rfl rfl kg_) ?_
    show own_Gl p e below _ (T125.setTop (mkF m 178 #[.val (.int i0), .val (.int i1), .val (.int i2), .val (.int i3), .val (.int (3 : Int32)), .val (.ref s0), .val (.ref s1), .val (.ref s2), .val (.ref a), .val (.ref w)] [(.ref w), (.ref one)]))
    refine own_st (fun tg_ kg_ => XS.iconst X125.here hx rfl (hb hby at_178) kg_) ?_
    show own_Gl p e below _ (T125.setTop (mkF m 179 #[.val (.int i0), .val (.int i1), .val (.int i2), .val (.int i3), .val (.int (3 : Int32)), .val (.ref s0), .val (.ref s1), .val (.ref s2), .val (.ref a), .val (.ref w)] [(.int (0 : Int32)), (.ref w), (.ref one)]))
    obtain ⟨cl128, Ar128, qa128, Sa128, Na128, Ha128, Ga128⟩ := id V_w
    have hin129 : ¬ ((0 : Int32) < 0 ∨ cl128.slots.size ≤ ((0 : Int32)).toNatClampNeg) := inb_of Sa128 ⟨by decide, by decide⟩
    have hat129 : cl128.slots[((0 : Int32)).toNatClampNeg]? = some (.ref one) := Has.at Ha128 hin129 rfl
    refine own_st (fun tg_ kg_ => X125.aaload hx (j := (0 : Int32)) (v := (.ref one)) (by rw [e125]; exact Ar128.1) (State.isArrayOf_alike hZ.alike Ar128.2.1) rfl Ar128.2.2 hin129 hat129 (g := (mkF m 179 #[.val (.int i0), .val (.int i1), .val (.int i2), .val (.int i3), .val (.int (3 : Int32)), .val (.ref s0), .val (.ref s1), .val (.ref s2), .val (.ref a), .val (.ref w)] [(.int (0 : Int32)), (.ref w), (.ref one)])) rfl rfl (hb hby at_179) _ kg_) ?_
    show own_Gl p e below _ (T125.setTop (mkF m 180 #[.val (.int i0), .val (.int i1), .val (.int i2), .val (.int i3), .val (.int (3 : Int32)), .val (.ref s0), .val (.ref s1), .val (.ref s2), .val (.ref a), .val (.ref w)] [(.ref one), (.ref one)]))
    obtain ⟨_, _, ⟨T130, L130, k130, n130⟩, -, X130, ⟨Lc130, hQ130, l130, y130, z130⟩, st130⟩ := Jvm.LawKit.callS X125 hx (y := (⟨"com/example/ratably/ratably/method/EvenPeriodsWeightsPinLaw", "same", "(Ljava/math/BigDecimal;Ljava/math/BigDecimal;)Z"⟩ : MethodName)) hown (mvT hZ (hw _ (List.mem_of_getElem? (i := 110) rfl))) (mvT hZ (hw _ (List.mem_of_getElem? (i := 111) rfl))) (mvT hZ (hw _ (List.mem_of_getElem? (i := 112) rfl))) (mvT hZ (hw _ (List.mem_of_getElem? (i := 113) rfl))) (by decide) (backOf (W := 0) (own_rm_sam l Z a0 hw [] one T113.heap n0 (Nat.le_trans Z0 K114.1) (E_1.ext K114) (F_c.ext K114) (F_z.ext K114)) hZ (hw _ (List.mem_of_getElem? (i := 113) rfl)) (hw _ (List.mem_of_getElem? (i := 112) rfl)) (by decide) (by decide)) (g := (mkF m 180 #[.val (.int i0), .val (.int i1), .val (.int i2), .val (.int i3), .val (.int (3 : Int32)), .val (.ref s0), .val (.ref s1), .val (.ref s2), .val (.ref a), .val (.ref w)] [(.ref one), (.ref one)])) rfl (by rw [hml]; rfl) (argsL := [(.ref one), (.ref one)]) (rest := []) (lenOf own_pd12 rfl) rfl (by show 2 * 0 + _ ≤ _; exact Nat.le_of_eq rfl) (hb hby at_180) (fun _ _ => ⟨rfl, e125, (by decide : 7 + 0 ≤ _), (by decide : 22 + 0 ≤ _)⟩)
    dsimp only [Pt.U, Pt.locs, Pt.cells, Pt.slots] at X130 l130 y130 z130 st130 hQ130
    subst l130 y130 z130
    obtain ⟨rfl, N130q, e130⟩ := hQ130
    have N130 := Fr.app N125 N130q
    refine own_st st130 ?_
    show own_Gl p e below _ (T130.setTop (mkF m 183 #[.val (.int i0), .val (.int i1), .val (.int i2), .val (.int i3), .val (.int (3 : Int32)), .val (.ref s0), .val (.ref s1), .val (.ref s2), .val (.ref a), .val (.ref w)] [(.int (1 : Int32))]))
    try clear st130
    try clear N130q
    try clear N125
    try clear e125
    try clear X125
    try clear T125
    refine own_st (fun tg_ kg_ => XS.ifYes X130.here hx rfl (pc0 := 183) (pc' := 188) rfl (hb hby at_183) rfl ((if0 _ _).trans (feq ((by decide : ¬ ((1 : Int32) = (0 : Int32))))).2) (by decide) (by decide) kg_) ?_
    show own_Gl p e below _ (T130.setTop (mkF m 188 #[.val (.int i0), .val (.int i1), .val (.int i2), .val (.int i3), .val (.int (3 : Int32)), .val (.ref s0), .val (.ref s1), .val (.ref s2), .val (.ref a), .val (.ref w)] []))
    refine own_st (fun tg_ kg_ => XS.iconst X130.here hx rfl (hb hby at_188) kg_) ?_
    show own_Gl p e below _ (T130.setTop (mkF m 189 #[.val (.int i0), .val (.int i1), .val (.int i2), .val (.int i3), .val (.int (3 : Int32)), .val (.ref s0), .val (.ref s1), .val (.ref s2), .val (.ref a), .val (.ref w)] [(.int (1 : Int32))]))
    exact own_retN X130 hx Bd.notSynchronized (t := .boolean) Bd.returns (by simp) (hb hby at_189) (by decide) (by decide) e130 (⟨rfl, N130⟩)
set_option maxRecDepth 65536 in
set_option maxHeartbeats 40000000 in
theorem comes_1 {Post : Tables → Env → Array Value → State → Outcome → State → Prop} (hpost : ∀ tb e args s v u, (limb_1_1.after args s (.returned v) u = true ∧ limb_1_2.after args s (.returned v) u = true ∧ True) → FrameEnd s (.returned v) u (Jvm.fieldLocs frame_1_writes args s ++ Jvm.arrayLocs frame_1_arrays args s ++ Jvm.staticLocs frame_1_statics s) 24 128 → Post tb e args s (.returned v) u) :
    ArmFor flags0 classFile x code maxLocals ret World_1 tables_1 room_1 Calls_1 rest_1 Pre_1 Post := by
  intro l hfl _ _ p e ha hc hk s m args below hf hA hF happ hP
  obtain ⟨hcalls, hrest, hpre⟩ := hP
  obtain ⟨-, -, -, hnamed, -, -, -, hat⟩ := (Spec.applies_iff hf).mp happ
  obtain ⟨hg, hn⟩ := and_e (Cond.before_iff.mp (show (Jvm.Cond.and given_1 narrow_1).before args s = true from hpre))
  obtain ⟨g0a, g0b⟩ := and_e hg
  obtain ⟨g1a, g1b⟩ := and_e g0b
  obtain ⟨g2a, g2b⟩ := and_e g1b
  obtain ⟨g3a, g3b⟩ := and_e g2b
  obtain ⟨w0, w1, w2, w3, rfl⟩ : ∃ w0 w1 w2 w3 : Value, args = #[w0, w1, w2, w3] := by
    have hs : args.size = 4 := by simpa [Cond.value, given_1] using g0a
    obtain ⟨L⟩ := args
    match L, hs with
    | [w0, w1, w2, w3], _ => exact ⟨w0, w1, w2, w3, rfl⟩
  have hw := fun d (hd : d ∈ tables_1) => atoms_spec (ws := Jvm.Cond.code x code maxLocals ret :: tables_1) hat d (List.mem_cons_of_mem _ hd)
  have hfit : Fit s := fun {y c} hc i hi => by
    obtain ⟨ha, rfl⟩ := Array.getElem?_eq_some_iff.mp hc
    have q := List.all_eq_true.mp ((Array.all_eq_true_iff_forall_mem.mp hF) _ (Array.getElem_mem ha)) i (List.mem_range.mpr hi)
    simpa [Array.getElem?_eq_getElem hi] using q
  obtain ⟨hsets, hown0⟩ := atoms_of _ (rest_1_c_eq ▸ (show rest_1_c.before _ s = true from hrest))
  have hr0 := Cond.before_iff.mp hown0
  obtain ⟨i0, ei0⟩ := is_v g1a
  obtain rfl : w0 = (.int i0) := Option.some.inj ei0
  obtain ⟨i1, ei1⟩ := is_v g2a
  obtain rfl : w1 = (.int i1) := Option.some.inj ei1
  obtain ⟨i2, ei2⟩ := is_v g3a
  obtain rfl : w2 = (.int i2) := Option.some.inj ei2
  obtain ⟨i3, ei3⟩ := is_v g3b
  obtain rfl : w3 = (.int i3) := Option.some.inj ei3
  obtain ⟨aD, ev_D⟩ := arr_v (Cond.before_iff.mp (hsets _ (List.mem_of_getElem? (i := 6) rfl)))
  have S_D := Sta.start ev_D (Or.inr ⟨(hw _ (List.mem_of_getElem? (i := 15) rfl)), (hsets _ (List.mem_of_getElem? (i := 2) rfl))⟩)
  obtain ⟨c_D, A_D⟩ := Arr.start ev_D (Cond.before_iff.mp (hsets _ (List.mem_of_getElem? (i := 6) rfl)))
  obtain ⟨l_D, m_D⟩ := own_len ev_D A_D (Cond.before_iff.mp (hsets _ (List.mem_of_getElem? (i := 8) rfl)))
  have V_aD : Arv s s.heap aD c_D.cls (.object "java/lang/Object") (0 : Int32) [] .null := Arv.start hfit A_D l_D m_D (by decide) rfl trivial
  obtain ⟨one, ev_1⟩ := exa_v (Cond.before_iff.mp (hsets _ (List.mem_of_getElem? (i := 13) rfl)))
  have S_1 := Sta.start ev_1 (Or.inl (hsets _ (List.mem_of_getElem? (i := 10) rfl)))
  have E_1 := Exa.start ev_1 (Cond.before_iff.mp (hsets _ (List.mem_of_getElem? (i := 13) rfl)))
  have F_z := own_fldI ev_1 (Cond.before_iff.mp (hsets _ (List.mem_of_getElem? (i := 14) rfl)))
  have F_c := own_fldL ev_1 (Cond.before_iff.mp (hsets _ (List.mem_of_getElem? (i := 15) rfl)))
  obtain ⟨n, o, h1, h2, h3, _, L, rfl, ⟨rfl, N⟩, hq⟩ := own_rm_law l s _ hw tables_1 i0 i1 i2 i3 aD one c_D.cls s.heap s.heap.size (Nat.le_refl _) S_D V_aD S_1 E_1 F_c F_z p e ha hc hk s m _ below hf ((Spec.applies_iff_loose hf).mp happ).1 ⟨rfl, State.Warmed39.refl s, rfl⟩ trivial
  refine ⟨n, _, h1, h2, h3, hpost _ _ _ _ _ _ ⟨Cond.after_iff.mpr rfl, Cond.after_iff.mpr (eq_i res_at (Term.int_eval (1)) rfl), trivial⟩ ⟨hq.1, hq.2.1, (hq.2.2.sift fun y hy => Or.inr (N y hy)).mono (by decide) (by decide)⟩⟩
theorem main_1_1 : Claimed_1_1 := comes_1 fun _ _ _ _ _ _ h hF => ⟨h.1, hF⟩
theorem main_1_2 : Claimed_1_2 := comes_1 fun _ _ _ _ _ _ h hF => ⟨h.2.1, hF⟩
end Jvm.Pilot.@@N@@
namespace Jvm.Pilot.@@N@@
open Jvm Jvm.ClassFile Sem Op Lib Jvm.Free Jvm.Stand Jvm.Pilot.@@N@@.Jvm.D
/-! MADE BY PROGRAM (witnessworld.py) out of the Statement's table words and the real class files: 31 classes; the members and pool entries that the words name. The judged class is class 1, her method 1. -/
namespace start1
open Jvm.ClassFile
def u (s : String) : CpInfo := .utf8 (stringToUtf16 s)
/-- a pool by its gaps: so many unusable entries, then the entry; so many at the end -/
def gap : Nat → List CpInfo → List CpInfo
  | 0, r => r
  | n + 1, r => .unusable :: gap n r
def poolList (es : List (Nat × CpInfo)) (last : Nat) : List CpInfo := es.foldr (fun e r => gap e.1 (e.2 :: r)) (gap last [])
def pool (es : List (Nat × CpInfo)) (last : Nat) : Array CpInfo := ⟨poolList es last⟩
def fileOf (pool : Array CpInfo) (this : Nat) (attrs : Array Attribute := #[]) (ms : Array MethodInfo := #[]) (fl : Nat := 33) (sup : Nat := 0) (ifs : Array Nat := #[]) (fds : Array FieldInfo := #[]) : ClassFile where
  minorVersion := 0
  majorVersion := 65
  constantPool := pool
  accessFlags := fl
  thisClass := this
  superClass := sup
  interfaces := ifs
  fields := fds
  methods := ms
  attributes := attrs
def plain (name : String) (sup : Option ClassId) : Class where
  name := name
  kind := .ordinary
  loader := none
  accessFlags := 33
  super := sup
  interfaces := #[]
  cf := none
  fields := #[]
  methods := #[]
  instanceTypes := #[]
  staticTypes := #[]
  resolved := #[]
  callSites := []
  init := .initialized
  statics := none
  mirror := none

def pool0 : Array CpInfo := pool [(5, u "<init>"), (0, u "()V"), (1, .class_ 10), (1, u "java/lang/Object")] 113

def k0c0 : Code := { maxStack := 0, maxLocals := 1, code := object_method_1_code, exceptionTable := #[], attributes := #[] }
def k0m0 : Method := { name := "<init>", desc := "()V", sig := { parameters := [], returnType := none }, accessFlags := 1, code := some k0c0 }
/-- java/lang/Object -/
def k0 : Class := { plain "java/lang/Object" none with
  accessFlags := 33
  interfaces := #[]
  cf := some (fileOf pool0 8 #[] #[{ accessFlags := 1, nameIndex := 5, descriptorIndex := 6, attributes := #[] }] 33 0 #[] #[])
  fields := #[]
  methods := #[k0m0]
  instanceTypes := #[]
  staticTypes := #[]
  resolved := Array.replicate 124 none
  statics := none }

def pool1 : Array CpInfo := pool [(2, .class_ 4), (0, .nameAndType 5 6), (0, u "java/lang/Object"), (0, u "<init>"), (0, u "()V"), (0, .class_ 8), (0, u "com/example/ratably/ratably/calendar/Slice"), (0, .methodref 7 10), (0, .nameAndType 5 11), (0, u "(Lcom/example/ratably/ratably/calendar/Period;I)V"), (0, .class_ 13), (0, u "java/util/ArrayList"), (0, .methodref 12 3), (0, .methodref 12 16), (0, .nameAndType 17 18), (0, u "add"), (0, u "(Ljava/lang/Object;)Z"), (0, .class_ 20), (0, u "com/example/ratably/ratably/method/EvenPeriods"), (0, .methodref 19 3), (0, .methodref 19 23), (0, .nameAndType 24 25), (0, u "weights"), (0, u "(Ljava/util/List;)[Ljava/math/BigDecimal;"), (0, .methodref 27 28), (0, .class_ 29), (0, .nameAndType 30 31), (0, u "java/math/BigDecimal"), (0, u "signum"), (0, u "()I"), (0, .methodref 33 34), (0, .class_ 35), (0, .nameAndType 36 37), (0, u "com/example/ratably/ratably/method/EvenPeriodsWeightsPinLaw"), (0, u "same"), (0, u "(Ljava/math/BigDecimal;Ljava/math/BigDecimal;)Z"), (0, .methodref 27 39), (0, .nameAndType 40 41), (0, u "compareTo"), (0, u "(Ljava/math/BigDecimal;)I"), (2, u "law"), (0, u "(IIII)Z")] 5

def k1m0 : Method := { name := "<init>", desc := "()V", sig := { parameters := [], returnType := none }, accessFlags := 1, code := none }
def k1c1 : Code := { maxStack := 4, maxLocals := 10, code := code, exceptionTable := #[], attributes := #[] }
def k1m1 : Method := { name := "law", desc := "(IIII)Z", sig := { parameters := [.int, .int, .int, .int], returnType := some .boolean }, accessFlags := 9, code := some k1c1 }
def k1c2 : Code := { maxStack := 2, maxLocals := 2, code := method_3_code, exceptionTable := #[], attributes := #[] }
def k1m2 : Method := { name := "same", desc := "(Ljava/math/BigDecimal;Ljava/math/BigDecimal;)Z", sig := { parameters := [(.object "java/math/BigDecimal"), (.object "java/math/BigDecimal")], returnType := some .boolean }, accessFlags := 10, code := some k1c2 }
/-- com/example/ratably/ratably/method/EvenPeriodsWeightsPinLaw -/
def k1 : Class := { plain "com/example/ratably/ratably/method/EvenPeriodsWeightsPinLaw" (some 0) with
  accessFlags := 49
  interfaces := #[]
  cf := some (fileOf pool1 33 #[] #[{ accessFlags := 1, nameIndex := 5, descriptorIndex := 6, attributes := #[] }, { accessFlags := 9, nameIndex := 44, descriptorIndex := 45, attributes := #[] }, { accessFlags := 10, nameIndex := 36, descriptorIndex := 37, attributes := #[] }] 49 2 #[] #[])
  fields := #[]
  methods := #[k1m0, k1m1, k1m2]
  instanceTypes := #[]
  staticTypes := #[]
  resolved := Array.replicate 51 none
  statics := none }

def pool2 : Array CpInfo := pool [(1, .methodref 2 3), (0, .class_ 4), (0, .nameAndType 5 6), (0, u "java/lang/Object"), (0, u "<init>"), (0, u "()V"), (0, .fieldref 8 9), (0, .class_ 10), (0, .nameAndType 11 12), (0, u "com/example/ratably/ratably/calendar/Slice"), (0, u "period"), (0, u "Lcom/example/ratably/ratably/calendar/Period;"), (0, .fieldref 8 14), (0, .nameAndType 15 16), (0, u "days"), (0, u "I"), (5, u "(Lcom/example/ratably/ratably/calendar/Period;I)V")] 8

def k2c0 : Code := { maxStack := 2, maxLocals := 3, code := prog_5_method_1_code, exceptionTable := #[], attributes := #[] }
def k2m0 : Method := { name := "<init>", desc := "(Lcom/example/ratably/ratably/calendar/Period;I)V", sig := { parameters := [(.object "com/example/ratably/ratably/calendar/Period"), .int], returnType := none }, accessFlags := 1, code := some k2c0 }
/-- com/example/ratably/ratably/calendar/Slice -/
def k2 : Class := { plain "com/example/ratably/ratably/calendar/Slice" (some 0) with
  accessFlags := 33
  interfaces := #[]
  cf := some (fileOf pool2 8 #[] #[{ accessFlags := 1, nameIndex := 5, descriptorIndex := 22, attributes := #[] }] 33 2 #[] #[{ accessFlags := 18, nameIndex := 11, descriptorIndex := 12, attributes := #[] }, { accessFlags := 18, nameIndex := 15, descriptorIndex := 16, attributes := #[] }])
  fields := #[{ name := "period", type := (.object "com/example/ratably/ratably/calendar/Period"), accessFlags := 18, slot := 0, constantValue := 0 }, { name := "days", type := .int, accessFlags := 18, slot := 1, constantValue := 0 }]
  methods := #[k2m0]
  instanceTypes := #[(.object "com/example/ratably/ratably/calendar/Period"), .int]
  staticTypes := #[]
  resolved := Array.replicate 31 none
  statics := none }

def pool3 : Array CpInfo := pool [(8, .class_ 10), (1, u "java/lang/Iterable"), (24, .class_ 36), (0, u "java/lang/Object")] 25

/-- java/lang/Iterable -/
def k3 : Class := { plain "java/lang/Iterable" (some 0) with
  accessFlags := 1537
  interfaces := #[]
  cf := some (fileOf pool3 8 #[] #[] 1537 35 #[] #[])
  fields := #[]
  methods := #[]
  instanceTypes := #[]
  staticTypes := #[]
  resolved := Array.replicate 62 none
  statics := none }

def pool4 : Array CpInfo := pool [(10, .class_ 12), (1, u "java/util/Collection"), (47, .class_ 61), (0, u "java/lang/Object"), (0, .class_ 63), (0, u "java/lang/Iterable")] 51

/-- java/util/Collection -/
def k4 : Class := { plain "java/util/Collection" (some 0) with
  accessFlags := 1537
  interfaces := #[3]
  cf := some (fileOf pool4 10 #[] #[] 1537 60 #[62] #[])
  fields := #[]
  methods := #[]
  instanceTypes := #[]
  staticTypes := #[]
  resolved := Array.replicate 115 none
  statics := none }

def pool5 : Array CpInfo := pool [(1, .methodref 2 3), (0, .class_ 4), (0, .nameAndType 5 6), (0, u "java/lang/Object"), (0, u "<init>"), (0, u "()V"), (1, .class_ 10), (1, u "java/util/AbstractCollection"), (66, .class_ 78), (0, u "java/util/Collection")] 81

def k5c0 : Code := { maxStack := 1, maxLocals := 1, code := jdk_22_method_1_code, exceptionTable := #[], attributes := #[] }
def k5m0 : Method := { name := "<init>", desc := "()V", sig := { parameters := [], returnType := none }, accessFlags := 4, code := some k5c0 }
/-- java/util/AbstractCollection -/
def k5 : Class := { plain "java/util/AbstractCollection" (some 0) with
  accessFlags := 1057
  interfaces := #[4]
  cf := some (fileOf pool5 8 #[] #[{ accessFlags := 4, nameIndex := 5, descriptorIndex := 6, attributes := #[] }] 1057 2 #[77] #[])
  fields := #[]
  methods := #[k5m0]
  instanceTypes := #[]
  staticTypes := #[]
  resolved := Array.replicate 160 none
  statics := none }

def pool6 : Array CpInfo := pool [(8, .class_ 10), (1, u "java/util/SequencedCollection"), (15, .class_ 27), (0, u "java/lang/Object"), (0, .class_ 29), (0, u "java/util/Collection")] 27

/-- java/util/SequencedCollection -/
def k6 : Class := { plain "java/util/SequencedCollection" (some 0) with
  accessFlags := 1537
  interfaces := #[4]
  cf := some (fileOf pool6 8 #[] #[] 1537 26 #[28] #[])
  fields := #[]
  methods := #[]
  instanceTypes := #[]
  staticTypes := #[]
  resolved := Array.replicate 57 none
  statics := none }

def pool7 : Array CpInfo := pool [(8, .class_ 10), (1, u "java/util/List"), (68, u "size"), (0, u "()I"), (22, .class_ 104), (0, u "java/lang/Object"), (15, .class_ 121), (0, u "java/util/SequencedCollection")] 129

def k7m0 : Method := { name := "size", desc := "()I", sig := { parameters := [], returnType := some .int }, accessFlags := 1025, code := none }
/-- java/util/List -/
def k7 : Class := { plain "java/util/List" (some 0) with
  accessFlags := 1537
  interfaces := #[6]
  cf := some (fileOf pool7 8 #[] #[{ accessFlags := 1025, nameIndex := 79, descriptorIndex := 80, attributes := #[] }] 1537 103 #[120] #[])
  fields := #[]
  methods := #[k7m0]
  instanceTypes := #[]
  staticTypes := #[]
  resolved := Array.replicate 251 none
  statics := none }

def pool8 : Array CpInfo := pool [(1, .methodref 2 3), (0, .class_ 4), (0, .nameAndType 5 6), (0, u "java/util/AbstractCollection"), (0, u "<init>"), (0, u "()V"), (0, .fieldref 8 9), (0, .class_ 10), (0, .nameAndType 11 12), (0, u "java/util/AbstractList"), (0, u "modCount"), (0, u "I"), (64, .class_ 78), (0, u "java/util/AbstractList$Itr"), (3, .class_ 83), (0, u "java/util/AbstractList$ListItr"), (9, .class_ 94), (0, u "java/util/AbstractList$RandomAccessSubList"), (3, .class_ 99), (0, u "java/util/AbstractList$SubList"), (33, .class_ 134), (0, u "java/util/List"), (73, .class_ 209), (0, u "java/util/AbstractList$SubList$1"), (0, .class_ 211), (0, u "java/util/AbstractList$RandomAccessSpliterator")] 6

def k8c0 : Code := { maxStack := 2, maxLocals := 1, code := jdk_39_method_1_code, exceptionTable := #[], attributes := #[] }
def k8m0 : Method := { name := "<init>", desc := "()V", sig := { parameters := [], returnType := none }, accessFlags := 4, code := some k8c0 }
/-- java/util/AbstractList -/
def k8 : Class := { plain "java/util/AbstractList" (some 5) with
  accessFlags := 1057
  interfaces := #[7]
  cf := some (fileOf pool8 8 #[.nestMembers #[93, 98, 208, 210, 82, 77]] #[{ accessFlags := 4, nameIndex := 5, descriptorIndex := 6, attributes := #[] }] 1057 2 #[133] #[{ accessFlags := 132, nameIndex := 11, descriptorIndex := 12, attributes := #[] }])
  fields := #[{ name := "modCount", type := .int, accessFlags := 132, slot := 0, constantValue := 0 }]
  methods := #[k8m0]
  instanceTypes := #[.int]
  staticTypes := #[]
  resolved := Array.replicate 218 none
  statics := none }

def pool9 : Array CpInfo := pool [(1, .class_ 2), (0, u "java/util/RandomAccess"), (0, .class_ 4), (0, u "java/lang/Object")] 2

/-- java/util/RandomAccess -/
def k9 : Class := { plain "java/util/RandomAccess" (some 0) with
  accessFlags := 1537
  interfaces := #[]
  cf := some (fileOf pool9 1 #[] #[] 1537 3 #[] #[])
  fields := #[]
  methods := #[]
  instanceTypes := #[]
  staticTypes := #[]
  resolved := Array.replicate 7 none
  statics := none }

def pool10 : Array CpInfo := pool [(1, .class_ 2), (0, u "java/lang/Cloneable"), (0, .class_ 4), (0, u "java/lang/Object")] 2

/-- java/lang/Cloneable -/
def k10 : Class := { plain "java/lang/Cloneable" (some 0) with
  accessFlags := 1537
  interfaces := #[]
  cf := some (fileOf pool10 1 #[] #[] 1537 3 #[] #[])
  fields := #[]
  methods := #[]
  instanceTypes := #[]
  staticTypes := #[]
  resolved := Array.replicate 7 none
  statics := none }

def pool11 : Array CpInfo := pool [(1, .class_ 2), (0, u "java/io/Serializable"), (0, .class_ 4), (0, u "java/lang/Object")] 2

/-- java/io/Serializable -/
def k11 : Class := { plain "java/io/Serializable" (some 0) with
  accessFlags := 1537
  interfaces := #[]
  cf := some (fileOf pool11 1 #[] #[] 1537 3 #[] #[])
  fields := #[]
  methods := #[]
  instanceTypes := #[]
  staticTypes := #[]
  resolved := Array.replicate 7 none
  statics := none }

def pool12 : Array CpInfo := pool [(1, .methodref 2 3), (0, .class_ 4), (0, .nameAndType 5 6), (0, u "java/util/AbstractList"), (0, u "<init>"), (0, u "()V"), (0, .class_ 8), (0, u "java/lang/Object"), (0, .fieldref 10 11), (0, .class_ 12), (0, .nameAndType 13 14), (0, u "java/util/ArrayList"), (0, u "elementData"), (0, u "[Ljava/lang/Object;"), (2, u "EMPTY_ELEMENTDATA"), (21, .fieldref 10 40), (0, .nameAndType 41 14), (0, u "DEFAULTCAPACITY_EMPTY_ELEMENTDATA"), (5, u "()[Ljava/lang/Object;"), (0, .fieldref 10 49), (0, .nameAndType 50 51), (0, u "size"), (0, u "I"), (11, .fieldref 10 64), (0, .nameAndType 65 51), (0, u "modCount"), (3, .methodref 10 70), (0, .nameAndType 71 72), (0, u "grow"), (0, u "(I)[Ljava/lang/Object;"), (6, .methodref 80 81), (0, .class_ 82), (0, .nameAndType 83 84), (0, u "java/lang/Math"), (0, u "max"), (0, u "(II)I"), (11, u "(Ljava/lang/Object;)Z"), (32, .methodref 10 130), (0, .nameAndType 71 47), (0, .methodref 10 132), (0, .nameAndType 133 134), (0, u "add"), (0, u "(Ljava/lang/Object;[Ljava/lang/Object;I)V"), (13, .class_ 149), (0, u "java/util/List"), (36, u "()I"), (75, .class_ 263), (0, u "java/util/ArrayList$ListItr"), (3, .class_ 268), (0, u "java/util/ArrayList$Itr"), (7, .class_ 277), (0, u "java/util/ArrayList$SubList"), (12, .class_ 291), (0, u "java/util/ArrayList$ArrayListSpliterator"), (37, .class_ 330), (0, u "java/util/RandomAccess"), (0, .class_ 332), (0, u "java/lang/Cloneable"), (0, .class_ 334), (0, u "java/io/Serializable"), (0, u "serialVersionUID"), (0, u "J"), (3, u "DEFAULT_CAPACITY"), (159, .class_ 501), (0, u "java/util/ArrayList$SubList$2"), (0, .class_ 503), (0, u "java/util/ArrayList$SubList$1")] 5

def k12c0 : Code := { maxStack := 2, maxLocals := 1, code := jdk_38_method_2_code, exceptionTable := #[], attributes := #[] }
def k12m0 : Method := { name := "<init>", desc := "()V", sig := { parameters := [], returnType := none }, accessFlags := 1, code := some k12c0 }
def k12c1 : Code := { maxStack := 4, maxLocals := 4, code := jdk_38_method_6_code, exceptionTable := #[], attributes := #[] }
def k12m1 : Method := { name := "grow", desc := "(I)[Ljava/lang/Object;", sig := { parameters := [.int], returnType := some (.array (.object "java/lang/Object")) }, accessFlags := 2, code := some k12c1 }
def k12c2 : Code := { maxStack := 3, maxLocals := 1, code := jdk_38_method_7_code, exceptionTable := #[], attributes := #[] }
def k12m2 : Method := { name := "grow", desc := "()[Ljava/lang/Object;", sig := { parameters := [], returnType := some (.array (.object "java/lang/Object")) }, accessFlags := 2, code := some k12c2 }
def k12c3 : Code := { maxStack := 1, maxLocals := 1, code := jdk_38_method_8_code, exceptionTable := #[], attributes := #[] }
def k12m3 : Method := { name := "size", desc := "()I", sig := { parameters := [], returnType := some .int }, accessFlags := 1, code := some k12c3 }
def k12c4 : Code := { maxStack := 3, maxLocals := 4, code := jdk_38_method_24_code, exceptionTable := #[], attributes := #[] }
def k12m4 : Method := { name := "add", desc := "(Ljava/lang/Object;[Ljava/lang/Object;I)V", sig := { parameters := [(.object "java/lang/Object"), (.array (.object "java/lang/Object")), .int], returnType := none }, accessFlags := 2, code := some k12c4 }
def k12c5 : Code := { maxStack := 4, maxLocals := 2, code := jdk_38_method_25_code, exceptionTable := #[], attributes := #[] }
def k12m5 : Method := { name := "add", desc := "(Ljava/lang/Object;)Z", sig := { parameters := [(.object "java/lang/Object")], returnType := some .boolean }, accessFlags := 1, code := some k12c5 }
/-- java/util/ArrayList -/
def k12 : Class := { plain "java/util/ArrayList" (some 8) with
  accessFlags := 33
  interfaces := #[7, 9, 10, 11]
  cf := some (fileOf pool12 10 #[.nestMembers #[290, 276, 500, 502, 262, 267]] #[{ accessFlags := 1, nameIndex := 5, descriptorIndex := 6, attributes := #[] }, { accessFlags := 2, nameIndex := 71, descriptorIndex := 72, attributes := #[] }, { accessFlags := 2, nameIndex := 71, descriptorIndex := 47, attributes := #[] }, { accessFlags := 1, nameIndex := 50, descriptorIndex := 186, attributes := #[] }, { accessFlags := 2, nameIndex := 133, descriptorIndex := 134, attributes := #[] }, { accessFlags := 1, nameIndex := 133, descriptorIndex := 96, attributes := #[] }] 33 2 #[148, 329, 331, 333] #[{ accessFlags := 26, nameIndex := 335, descriptorIndex := 336, attributes := #[] }, { accessFlags := 26, nameIndex := 340, descriptorIndex := 51, attributes := #[] }, { accessFlags := 26, nameIndex := 17, descriptorIndex := 14, attributes := #[] }, { accessFlags := 26, nameIndex := 41, descriptorIndex := 14, attributes := #[] }, { accessFlags := 128, nameIndex := 13, descriptorIndex := 14, attributes := #[] }, { accessFlags := 2, nameIndex := 50, descriptorIndex := 51, attributes := #[] }])
  fields := #[{ name := "serialVersionUID", type := .long, accessFlags := 26, slot := 0, constantValue := 0 }, { name := "DEFAULT_CAPACITY", type := .int, accessFlags := 26, slot := 1, constantValue := 0 }, { name := "EMPTY_ELEMENTDATA", type := (.array (.object "java/lang/Object")), accessFlags := 26, slot := 2, constantValue := 0 }, { name := "DEFAULTCAPACITY_EMPTY_ELEMENTDATA", type := (.array (.object "java/lang/Object")), accessFlags := 26, slot := 3, constantValue := 0 }, { name := "elementData", type := (.array (.object "java/lang/Object")), accessFlags := 128, slot := 1, constantValue := 0 }, { name := "size", type := .int, accessFlags := 2, slot := 2, constantValue := 0 }]
  methods := #[k12m0, k12m1, k12m2, k12m3, k12m4, k12m5]
  instanceTypes := #[.int, (.array (.object "java/lang/Object")), .int]
  staticTypes := #[.long, .int, (.array (.object "java/lang/Object")), (.array (.object "java/lang/Object"))]
  resolved := Array.replicate 509 none
  statics := some 0 }

def pool13 : Array CpInfo := pool [(1, .class_ 2), (0, u "com/example/ratably/ratably/method/Method"), (0, .class_ 4), (0, u "java/lang/Object")] 8

/-- com/example/ratably/ratably/method/Method -/
def k13 : Class := { plain "com/example/ratably/ratably/method/Method" (some 0) with
  accessFlags := 1537
  interfaces := #[]
  cf := some (fileOf pool13 1 #[] #[] 1537 3 #[] #[])
  fields := #[]
  methods := #[]
  instanceTypes := #[]
  staticTypes := #[]
  resolved := Array.replicate 13 none
  statics := none }

def pool14 : Array CpInfo := pool [(2, .class_ 4), (1, u "com/example/ratably/ratably/method/WeightedMethod"), (18, .class_ 24), (0, u "java/lang/Object"), (0, .class_ 26), (0, u "com/example/ratably/ratably/method/Method")] 14

/-- com/example/ratably/ratably/method/WeightedMethod -/
def k14 : Class := { plain "com/example/ratably/ratably/method/WeightedMethod" (some 0) with
  accessFlags := 1537
  interfaces := #[13]
  cf := some (fileOf pool14 2 #[] #[] 1537 23 #[25] #[])
  fields := #[]
  methods := #[]
  instanceTypes := #[]
  staticTypes := #[]
  resolved := Array.replicate 41 none
  statics := none }

def pool15 : Array CpInfo := pool [(1, .methodref 2 3), (0, .class_ 4), (0, .nameAndType 5 6), (0, u "java/lang/Object"), (0, u "<init>"), (0, u "()V"), (2, .interfaceMethodref 10 11), (0, .class_ 12), (0, .nameAndType 13 14), (0, u "java/util/List"), (0, u "size"), (0, u "()I"), (0, .class_ 16), (0, u "java/math/BigDecimal"), (0, .fieldref 15 18), (0, .nameAndType 19 20), (0, u "ONE"), (0, u "Ljava/math/BigDecimal;"), (0, .methodref 22 23), (0, .class_ 24), (0, .nameAndType 25 26), (0, u "java/util/Arrays"), (0, u "fill"), (0, u "([Ljava/lang/Object;Ljava/lang/Object;)V"), (0, .class_ 28), (0, u "com/example/ratably/ratably/method/EvenPeriods"), (0, .class_ 30), (0, u "com/example/ratably/ratably/method/WeightedMethod"), (4, u "weights"), (0, u "(Ljava/util/List;)[Ljava/math/BigDecimal;")] 4

def k15c0 : Code := { maxStack := 1, maxLocals := 1, code := prog_13_method_1_code, exceptionTable := #[], attributes := #[] }
def k15m0 : Method := { name := "<init>", desc := "()V", sig := { parameters := [], returnType := none }, accessFlags := 1, code := some k15c0 }
def k15c1 : Code := { maxStack := 2, maxLocals := 3, code := prog_13_method_3_code, exceptionTable := #[], attributes := #[] }
def k15m1 : Method := { name := "weights", desc := "(Ljava/util/List;)[Ljava/math/BigDecimal;", sig := { parameters := [(.object "java/util/List")], returnType := some (.array (.object "java/math/BigDecimal")) }, accessFlags := 1, code := some k15c1 }
/-- com/example/ratably/ratably/method/EvenPeriods -/
def k15 : Class := { plain "com/example/ratably/ratably/method/EvenPeriods" (some 0) with
  accessFlags := 33
  interfaces := #[14]
  cf := some (fileOf pool15 27 #[] #[{ accessFlags := 1, nameIndex := 5, descriptorIndex := 6, attributes := #[] }, { accessFlags := 1, nameIndex := 35, descriptorIndex := 36, attributes := #[] }] 33 2 #[29] #[])
  fields := #[]
  methods := #[k15m0, k15m1]
  instanceTypes := #[]
  staticTypes := #[]
  resolved := Array.replicate 41 none
  statics := none }

def pool16 : Array CpInfo := pool [(2, .class_ 4), (1, u "java/lang/Object"), (0, u "<init>"), (0, u "()V"), (1, .class_ 10), (1, u "java/lang/Number"), (2, .class_ 14), (0, u "java/io/Serializable"), (0, u "serialVersionUID"), (0, u "J")] 20

def k16m0 : Method := { name := "<init>", desc := "()V", sig := { parameters := [], returnType := none }, accessFlags := 1, code := none }
/-- java/lang/Number -/
def k16 : Class := { plain "java/lang/Number" (some 0) with
  accessFlags := 1057
  interfaces := #[11]
  cf := some (fileOf pool16 8 #[] #[{ accessFlags := 1, nameIndex := 5, descriptorIndex := 6, attributes := #[] }] 1057 2 #[13] #[{ accessFlags := 26, nameIndex := 15, descriptorIndex := 16, attributes := #[] }])
  fields := #[{ name := "serialVersionUID", type := .long, accessFlags := 26, slot := 0, constantValue := 0 }]
  methods := #[k16m0]
  instanceTypes := #[]
  staticTypes := #[.long]
  resolved := Array.replicate 37 none
  statics := none }

def pool17 : Array CpInfo := pool [(1, .class_ 2), (0, u "java/lang/Comparable"), (0, .class_ 4), (0, u "java/lang/Object")] 7

/-- java/lang/Comparable -/
def k17 : Class := { plain "java/lang/Comparable" (some 0) with
  accessFlags := 1537
  interfaces := #[]
  cf := some (fileOf pool17 1 #[] #[] 1537 3 #[] #[])
  fields := #[]
  methods := #[]
  instanceTypes := #[]
  staticTypes := #[]
  resolved := Array.replicate 12 none
  statics := none }

def pool18 : Array CpInfo := pool [(3, .class_ 4), (0, u "java/math/BigDecimal"), (2, .class_ 8), (0, u "java/lang/Long"), (3, .class_ 14), (1, u "java/lang/Number"), (2, .fieldref 3 18), (0, .nameAndType 19 20), (0, u "scale"), (0, u "I"), (2, u "precision"), (0, .fieldref 3 25), (0, .nameAndType 26 27), (0, u "intCompact"), (0, u "J"), (2, u "intVal"), (0, u "Ljava/math/BigInteger;"), (65, u "LONG_TEN_POWERS_TABLE"), (0, u "[J"), (16, u "(J)I"), (9, .long 9223372036854775808), (36, u "()I"), (24, u "ZERO"), (2, u "INFLATED_BIGINT"), (15, u "TWO"), (41, u "ZERO_THROUGH_TEN"), (0, u "[Ljava/math/BigDecimal;"), (2, u "ZERO_SCALED_BY"), (19, u "signum"), (40, u "$assertionsDisabled"), (0, u "Z"), (124, u "(Ljava/math/BigDecimal;)I"), (38, u "ONE_TENTH"), (0, u "Ljava/math/BigDecimal;"), (2, u "compareTo"), (2, u "TEN"), (14, .class_ 502), (1, u "java/math/BigDecimal$1"), (15, u "ONE_HALF"), (16, u "ONE"), (60, .methodref 7 597), (0, .nameAndType 272 115), (45, u "stringCache"), (0, u "Ljava/lang/String;"), (52, .class_ 699), (1, u "java/math/BigDecimal$LongOverflow"), (8, u "FLOAT_10_POW"), (0, u "[F"), (39, u "DOUBLE_10_POW"), (0, u "[D"), (19, .class_ 772), (1, u "java/math/BigDecimal$StringBuilderHelper"), (35, u "BIG_TEN_POWERS_TABLE_MAX"), (2, u "BIG_TEN_POWERS_TABLE"), (0, u "[Ljava/math/BigInteger;"), (14, u "THRESHOLDS_TABLE"), (23, .class_ 853), (1, u "java/math/BigDecimal$UnsafeHolder"), (214, u "LONGLONG_TEN_POWERS_TABLE"), (0, u "[[J"), (112, u "BIG_TEN_POWERS_TABLE_INITLEN"), (113, .class_ 1297), (0, u "java/lang/Comparable"), (0, u "L"), (0, u "D"), (1, u "P_F"), (1, u "Q_MIN_F"), (1, u "Q_MAX_F"), (1, u "P_D"), (1, u "Q_MIN_D"), (1, u "Q_MAX_D"), (1, u "INFLATED"), (0, u "MAX_COMPACT_DIGITS"), (1, u "serialVersionUID"), (2, u "HALF_LONG_MAX_VALUE"), (0, u "HALF_LONG_MIN_VALUE"), (0, u "ROUND_UP"), (6, u "ROUND_DOWN"), (1, u "ROUND_CEILING"), (1, u "ROUND_FLOOR"), (1, u "ROUND_HALF_UP"), (1, u "ROUND_HALF_DOWN"), (1, u "ROUND_HALF_EVEN"), (1, u "ROUND_UNNECESSARY"), (1, u "DIV_NUM_BASE")] 294

def k18c0 : Code := { maxStack := 4, maxLocals := 1, code := jdk_17_method_58_code, exceptionTable := #[], attributes := #[] }
def k18m0 : Method := { name := "signum", desc := "()I", sig := { parameters := [], returnType := some .int }, accessFlags := 1, code := some k18c0 }
def k18c1 : Code := { maxStack := 4, maxLocals := 6, code := jdk_17_method_70_code, exceptionTable := #[], attributes := #[] }
def k18m1 : Method := { name := "compareTo", desc := "(Ljava/math/BigDecimal;)I", sig := { parameters := [(.object "java/math/BigDecimal")], returnType := some .int }, accessFlags := 1, code := some k18c1 }
/-- java/math/BigDecimal -/
def k18 : Class := { plain "java/math/BigDecimal" (some 16) with
  accessFlags := 33
  interfaces := #[17]
  cf := some (fileOf pool18 3 #[.nestMembers #[500, 851, 770, 697]] #[{ accessFlags := 1, nameIndex := 272, descriptorIndex := 162, attributes := #[] }, { accessFlags := 1, nameIndex := 482, descriptorIndex := 439, attributes := #[] }] 33 12 #[1296] #[{ accessFlags := 26, nameIndex := 1298, descriptorIndex := 1299, attributes := #[] }, { accessFlags := 26, nameIndex := 1301, descriptorIndex := 20, attributes := #[] }, { accessFlags := 26, nameIndex := 1303, descriptorIndex := 20, attributes := #[] }, { accessFlags := 26, nameIndex := 1305, descriptorIndex := 20, attributes := #[] }, { accessFlags := 26, nameIndex := 1307, descriptorIndex := 20, attributes := #[] }, { accessFlags := 26, nameIndex := 1309, descriptorIndex := 20, attributes := #[] }, { accessFlags := 26, nameIndex := 1311, descriptorIndex := 20, attributes := #[] }, { accessFlags := 18, nameIndex := 30, descriptorIndex := 31, attributes := #[] }, { accessFlags := 18, nameIndex := 19, descriptorIndex := 20, attributes := #[] }, { accessFlags := 130, nameIndex := 23, descriptorIndex := 20, attributes := #[] }, { accessFlags := 130, nameIndex := 643, descriptorIndex := 644, attributes := #[] }, { accessFlags := 24, nameIndex := 1313, descriptorIndex := 27, attributes := #[] }, { accessFlags := 26, nameIndex := 190, descriptorIndex := 31, attributes := #[] }, { accessFlags := 146, nameIndex := 26, descriptorIndex := 27, attributes := #[] }, { accessFlags := 26, nameIndex := 1314, descriptorIndex := 20, attributes := #[] }, { accessFlags := 26, nameIndex := 1316, descriptorIndex := 27, attributes := #[] }, { accessFlags := 26, nameIndex := 248, descriptorIndex := 249, attributes := #[] }, { accessFlags := 26, nameIndex := 252, descriptorIndex := 249, attributes := #[] }, { accessFlags := 26, nameIndex := 1319, descriptorIndex := 27, attributes := #[] }, { accessFlags := 26, nameIndex := 1320, descriptorIndex := 27, attributes := #[] }, { accessFlags := 25, nameIndex := 187, descriptorIndex := 479, attributes := #[] }, { accessFlags := 25, nameIndex := 535, descriptorIndex := 479, attributes := #[] }, { accessFlags := 25, nameIndex := 206, descriptorIndex := 479, attributes := #[] }, { accessFlags := 25, nameIndex := 485, descriptorIndex := 479, attributes := #[] }, { accessFlags := 26, nameIndex := 478, descriptorIndex := 479, attributes := #[] }, { accessFlags := 26, nameIndex := 518, descriptorIndex := 479, attributes := #[] }, { accessFlags := 25, nameIndex := 1321, descriptorIndex := 20, attributes := #[] }, { accessFlags := 25, nameIndex := 1328, descriptorIndex := 20, attributes := #[] }, { accessFlags := 25, nameIndex := 1330, descriptorIndex := 20, attributes := #[] }, { accessFlags := 25, nameIndex := 1332, descriptorIndex := 20, attributes := #[] }, { accessFlags := 25, nameIndex := 1334, descriptorIndex := 20, attributes := #[] }, { accessFlags := 25, nameIndex := 1336, descriptorIndex := 20, attributes := #[] }, { accessFlags := 25, nameIndex := 1338, descriptorIndex := 20, attributes := #[] }, { accessFlags := 25, nameIndex := 1340, descriptorIndex := 20, attributes := #[] }, { accessFlags := 26, nameIndex := 749, descriptorIndex := 750, attributes := #[] }, { accessFlags := 26, nameIndex := 708, descriptorIndex := 709, attributes := #[] }, { accessFlags := 26, nameIndex := 97, descriptorIndex := 98, attributes := #[] }, { accessFlags := 74, nameIndex := 811, descriptorIndex := 812, attributes := #[] }, { accessFlags := 26, nameIndex := 1182, descriptorIndex := 20, attributes := #[] }, { accessFlags := 26, nameIndex := 808, descriptorIndex := 20, attributes := #[] }, { accessFlags := 26, nameIndex := 827, descriptorIndex := 98, attributes := #[] }, { accessFlags := 26, nameIndex := 1342, descriptorIndex := 27, attributes := #[] }, { accessFlags := 26, nameIndex := 1068, descriptorIndex := 1069, attributes := #[] }, { accessFlags := 4120, nameIndex := 313, descriptorIndex := 314, attributes := #[] }])
  fields := #[{ name := "L", type := .double, accessFlags := 26, slot := 0, constantValue := 0 }, { name := "P_F", type := .int, accessFlags := 26, slot := 1, constantValue := 0 }, { name := "Q_MIN_F", type := .int, accessFlags := 26, slot := 2, constantValue := 0 }, { name := "Q_MAX_F", type := .int, accessFlags := 26, slot := 3, constantValue := 0 }, { name := "P_D", type := .int, accessFlags := 26, slot := 4, constantValue := 0 }, { name := "Q_MIN_D", type := .int, accessFlags := 26, slot := 5, constantValue := 0 }, { name := "Q_MAX_D", type := .int, accessFlags := 26, slot := 6, constantValue := 0 }, { name := "intVal", type := (.object "java/math/BigInteger"), accessFlags := 18, slot := 0, constantValue := 0 }, { name := "scale", type := .int, accessFlags := 18, slot := 1, constantValue := 0 }, { name := "precision", type := .int, accessFlags := 130, slot := 2, constantValue := 0 }, { name := "stringCache", type := (.object "java/lang/String"), accessFlags := 130, slot := 3, constantValue := 0 }, { name := "INFLATED", type := .long, accessFlags := 24, slot := 7, constantValue := 0 }, { name := "INFLATED_BIGINT", type := (.object "java/math/BigInteger"), accessFlags := 26, slot := 8, constantValue := 0 }, { name := "intCompact", type := .long, accessFlags := 146, slot := 4, constantValue := 0 }, { name := "MAX_COMPACT_DIGITS", type := .int, accessFlags := 26, slot := 9, constantValue := 0 }, { name := "serialVersionUID", type := .long, accessFlags := 26, slot := 10, constantValue := 0 }, { name := "ZERO_THROUGH_TEN", type := (.array (.object "java/math/BigDecimal")), accessFlags := 26, slot := 11, constantValue := 0 }, { name := "ZERO_SCALED_BY", type := (.array (.object "java/math/BigDecimal")), accessFlags := 26, slot := 12, constantValue := 0 }, { name := "HALF_LONG_MAX_VALUE", type := .long, accessFlags := 26, slot := 13, constantValue := 0 }, { name := "HALF_LONG_MIN_VALUE", type := .long, accessFlags := 26, slot := 14, constantValue := 0 }, { name := "ZERO", type := (.object "java/math/BigDecimal"), accessFlags := 25, slot := 15, constantValue := 0 }, { name := "ONE", type := (.object "java/math/BigDecimal"), accessFlags := 25, slot := 16, constantValue := 0 }, { name := "TWO", type := (.object "java/math/BigDecimal"), accessFlags := 25, slot := 17, constantValue := 0 }, { name := "TEN", type := (.object "java/math/BigDecimal"), accessFlags := 25, slot := 18, constantValue := 0 }, { name := "ONE_TENTH", type := (.object "java/math/BigDecimal"), accessFlags := 26, slot := 19, constantValue := 0 }, { name := "ONE_HALF", type := (.object "java/math/BigDecimal"), accessFlags := 26, slot := 20, constantValue := 0 }, { name := "ROUND_UP", type := .int, accessFlags := 25, slot := 21, constantValue := 0 }, { name := "ROUND_DOWN", type := .int, accessFlags := 25, slot := 22, constantValue := 0 }, { name := "ROUND_CEILING", type := .int, accessFlags := 25, slot := 23, constantValue := 0 }, { name := "ROUND_FLOOR", type := .int, accessFlags := 25, slot := 24, constantValue := 0 }, { name := "ROUND_HALF_UP", type := .int, accessFlags := 25, slot := 25, constantValue := 0 }, { name := "ROUND_HALF_DOWN", type := .int, accessFlags := 25, slot := 26, constantValue := 0 }, { name := "ROUND_HALF_EVEN", type := .int, accessFlags := 25, slot := 27, constantValue := 0 }, { name := "ROUND_UNNECESSARY", type := .int, accessFlags := 25, slot := 28, constantValue := 0 }, { name := "DOUBLE_10_POW", type := (.array .double), accessFlags := 26, slot := 29, constantValue := 0 }, { name := "FLOAT_10_POW", type := (.array .float), accessFlags := 26, slot := 30, constantValue := 0 }, { name := "LONG_TEN_POWERS_TABLE", type := (.array .long), accessFlags := 26, slot := 31, constantValue := 0 }, { name := "BIG_TEN_POWERS_TABLE", type := (.array (.object "java/math/BigInteger")), accessFlags := 74, slot := 32, constantValue := 0 }, { name := "BIG_TEN_POWERS_TABLE_INITLEN", type := .int, accessFlags := 26, slot := 33, constantValue := 0 }, { name := "BIG_TEN_POWERS_TABLE_MAX", type := .int, accessFlags := 26, slot := 34, constantValue := 0 }, { name := "THRESHOLDS_TABLE", type := (.array .long), accessFlags := 26, slot := 35, constantValue := 0 }, { name := "DIV_NUM_BASE", type := .long, accessFlags := 26, slot := 36, constantValue := 0 }, { name := "LONGLONG_TEN_POWERS_TABLE", type := (.array (.array .long)), accessFlags := 26, slot := 37, constantValue := 0 }, { name := "$assertionsDisabled", type := .boolean, accessFlags := 4120, slot := 38, constantValue := 0 }]
  methods := #[k18m0, k18m1]
  instanceTypes := #[(.object "java/math/BigInteger"), .int, .int, (.object "java/lang/String"), .long]
  staticTypes := #[.double, .int, .int, .int, .int, .int, .int, .long, (.object "java/math/BigInteger"), .int, .long, (.array (.object "java/math/BigDecimal")), (.array (.object "java/math/BigDecimal")), .long, .long, (.object "java/math/BigDecimal"), (.object "java/math/BigDecimal"), (.object "java/math/BigDecimal"), (.object "java/math/BigDecimal"), (.object "java/math/BigDecimal"), (.object "java/math/BigDecimal"), .int, .int, .int, .int, .int, .int, .int, .int, (.array .double), (.array .float), (.array .long), (.array (.object "java/math/BigInteger")), .int, .int, (.array .long), .long, (.array (.array .long)), .boolean]
  resolved := Array.replicate 1637 none
  statics := some 1 }

def pool19 : Array CpInfo := pool [(2, .class_ 4), (1, u "java/lang/Object"), (0, u "<init>"), (0, u "()V"), (7, .class_ 16), (1, u "java/util/Arrays"), (57, .class_ 76), (1, u "java/util/Arrays$NaturalOrder"), (36, .class_ 115), (1, u "java/util/Arrays$LegacyMergeSort"), (1, u "Z"), (257, .class_ 376), (0, u "java/util/Arrays$ArrayList"), (68, u "$assertionsDisabled"), (269, u "MIN_ARRAY_SORT_GRAN"), (0, u "I"), (2, u "INSERTIONSORT_THRESHOLD"), (120, u "fill"), (17, u "([Ljava/lang/Object;Ljava/lang/Object;)V"), (116, .class_ 976), (0, u "java/util/Arrays$ArrayItr")] 52

def k19m0 : Method := { name := "<init>", desc := "()V", sig := { parameters := [], returnType := none }, accessFlags := 2, code := none }
def k19c1 : Code := { maxStack := 3, maxLocals := 4, code := jdk_65_method_117_code, exceptionTable := #[], attributes := #[] }
def k19m1 : Method := { name := "fill", desc := "([Ljava/lang/Object;Ljava/lang/Object;)V", sig := { parameters := [(.array (.object "java/lang/Object")), (.object "java/lang/Object")], returnType := none }, accessFlags := 9, code := some k19c1 }
/-- java/util/Arrays -/
def k19 : Class := { plain "java/util/Arrays" (some 0) with
  accessFlags := 49
  interfaces := #[]
  cf := some (fileOf pool19 14 #[.nestMembers #[975, 375, 113, 74]] #[{ accessFlags := 2, nameIndex := 5, descriptorIndex := 6, attributes := #[] }, { accessFlags := 9, nameIndex := 840, descriptorIndex := 858, attributes := #[] }] 49 2 #[] #[{ accessFlags := 26, nameIndex := 715, descriptorIndex := 716, attributes := #[] }, { accessFlags := 26, nameIndex := 719, descriptorIndex := 716, attributes := #[] }, { accessFlags := 4120, nameIndex := 445, descriptorIndex := 117, attributes := #[] }])
  fields := #[{ name := "MIN_ARRAY_SORT_GRAN", type := .int, accessFlags := 26, slot := 0, constantValue := 0 }, { name := "INSERTIONSORT_THRESHOLD", type := .int, accessFlags := 26, slot := 1, constantValue := 0 }, { name := "$assertionsDisabled", type := .boolean, accessFlags := 4120, slot := 2, constantValue := 0 }]
  methods := #[k19m0, k19m1]
  instanceTypes := #[]
  staticTypes := #[.int, .int, .boolean]
  resolved := Array.replicate 1029 none
  statics := none }

def pool20 : Array CpInfo := pool [(1, .class_ 2), (0, u "java/lang/Math"), (1, .class_ 6), (1, u "java/lang/Object"), (0, u "<init>"), (0, u "()V"), (89, .class_ 100), (1, u "java/lang/Math$RandomNumberGeneratorHolder"), (71, u "negativeZeroFloatBits"), (0, u "J"), (2, u "negativeZeroDoubleBits"), (21, u "max"), (46, u "$assertionsDisabled"), (0, u "Z"), (88, u "(II)I"), (2, u "twoToTheDoubleScaleDown"), (0, u "D"), (4, u "twoToTheDoubleScaleUp"), (9, u "E"), (3, u "PI"), (2, u "TAU"), (2, u "DEGREES_TO_RADIANS"), (0, u "RADIANS_TO_DEGREES")] 94

def k20m0 : Method := { name := "<init>", desc := "()V", sig := { parameters := [], returnType := none }, accessFlags := 2, code := none }
def k20c1 : Code := { maxStack := 2, maxLocals := 2, code := jdk_29_method_65_code, exceptionTable := #[], attributes := #[] }
def k20m1 : Method := { name := "max", desc := "(II)I", sig := { parameters := [.int, .int], returnType := some .int }, accessFlags := 9, code := some k20c1 }
/-- java/lang/Math -/
def k20 : Class := { plain "java/lang/Math" (some 0) with
  accessFlags := 49
  interfaces := #[]
  cf := some (fileOf pool20 1 #[.nestMembers #[98]] #[{ accessFlags := 2, nameIndex := 7, descriptorIndex := 8, attributes := #[] }, { accessFlags := 9, nameIndex := 198, descriptorIndex := 335, attributes := #[] }] 49 4 #[] #[{ accessFlags := 25, nameIndex := 354, descriptorIndex := 339, attributes := #[] }, { accessFlags := 25, nameIndex := 358, descriptorIndex := 339, attributes := #[] }, { accessFlags := 25, nameIndex := 361, descriptorIndex := 339, attributes := #[] }, { accessFlags := 26, nameIndex := 364, descriptorIndex := 339, attributes := #[] }, { accessFlags := 26, nameIndex := 365, descriptorIndex := 339, attributes := #[] }, { accessFlags := 26, nameIndex := 172, descriptorIndex := 173, attributes := #[] }, { accessFlags := 26, nameIndex := 176, descriptorIndex := 173, attributes := #[] }, { accessFlags := 8, nameIndex := 344, descriptorIndex := 339, attributes := #[] }, { accessFlags := 8, nameIndex := 338, descriptorIndex := 339, attributes := #[] }, { accessFlags := 4120, nameIndex := 245, descriptorIndex := 246, attributes := #[] }])
  fields := #[{ name := "E", type := .double, accessFlags := 25, slot := 0, constantValue := 0 }, { name := "PI", type := .double, accessFlags := 25, slot := 1, constantValue := 0 }, { name := "TAU", type := .double, accessFlags := 25, slot := 2, constantValue := 0 }, { name := "DEGREES_TO_RADIANS", type := .double, accessFlags := 26, slot := 3, constantValue := 0 }, { name := "RADIANS_TO_DEGREES", type := .double, accessFlags := 26, slot := 4, constantValue := 0 }, { name := "negativeZeroFloatBits", type := .long, accessFlags := 26, slot := 5, constantValue := 0 }, { name := "negativeZeroDoubleBits", type := .long, accessFlags := 26, slot := 6, constantValue := 0 }, { name := "twoToTheDoubleScaleUp", type := .double, accessFlags := 8, slot := 7, constantValue := 0 }, { name := "twoToTheDoubleScaleDown", type := .double, accessFlags := 8, slot := 8, constantValue := 0 }, { name := "$assertionsDisabled", type := .boolean, accessFlags := 4120, slot := 9, constantValue := 0 }]
  methods := #[k20m0, k20m1]
  instanceTypes := #[]
  staticTypes := #[.double, .double, .double, .double, .double, .long, .long, .double, .double, .boolean]
  resolved := Array.replicate 460 none
  statics := none }

def pool21 : Array CpInfo := pool [(1, .class_ 2), (0, u "java/lang/constant/Constable"), (0, .class_ 4), (0, u "java/lang/Object")] 6

/-- java/lang/constant/Constable -/
def k21 : Class := { plain "java/lang/constant/Constable" (some 0) with
  accessFlags := 1537
  interfaces := #[]
  cf := some (fileOf pool21 1 #[] #[] 1537 3 #[] #[])
  fields := #[]
  methods := #[]
  instanceTypes := #[]
  staticTypes := #[]
  resolved := Array.replicate 11 none
  statics := none }

def pool22 : Array CpInfo := pool [(1, .class_ 2), (0, u "java/lang/constant/ConstantDesc"), (0, .class_ 4), (0, u "java/lang/Object")] 32

/-- java/lang/constant/ConstantDesc -/
def k22 : Class := { plain "java/lang/constant/ConstantDesc" (some 0) with
  accessFlags := 1537
  interfaces := #[]
  cf := some (fileOf pool22 1 #[] #[] 1537 3 #[] #[])
  fields := #[]
  methods := #[]
  instanceTypes := #[]
  staticTypes := #[]
  resolved := Array.replicate 37 none
  statics := none }

def pool23 : Array CpInfo := pool [(1, .class_ 2), (0, u "java/lang/Long"), (98, u "(J)I"), (133, .class_ 237), (1, u "java/lang/Long$LongCache"), (33, .class_ 272), (0, u "java/lang/Number"), (2, u "value"), (0, u "J"), (84, u "TYPE"), (0, u "Ljava/lang/Class;"), (0, .class_ 364), (0, u "java/lang/Comparable"), (0, .class_ 366), (0, u "java/lang/constant/Constable"), (0, .class_ 368), (0, u "java/lang/constant/ConstantDesc"), (0, u "MIN_VALUE"), (1, u "MAX_VALUE"), (4, u "SIZE"), (0, u "I"), (1, u "BYTES"), (1, u "serialVersionUID"), (115, u "signum")] 26

def k23c0 : Code := { maxStack := 5, maxLocals := 2, code := jdk_35_method_57_code, exceptionTable := #[], attributes := #[] }
def k23m0 : Method := { name := "signum", desc := "(J)I", sig := { parameters := [.long], returnType := some .int }, accessFlags := 9, code := some k23c0 }
/-- java/lang/Long -/
def k23 : Class := { plain "java/lang/Long" (some 16) with
  accessFlags := 49
  interfaces := #[17, 21, 22]
  cf := some (fileOf pool23 1 #[.nestMembers #[235]] #[{ accessFlags := 9, nameIndex := 497, descriptorIndex := 101, attributes := #[] }] 49 271 #[363, 365, 367] #[{ accessFlags := 25, nameIndex := 369, descriptorIndex := 276, attributes := #[] }, { accessFlags := 25, nameIndex := 371, descriptorIndex := 276, attributes := #[] }, { accessFlags := 25, nameIndex := 361, descriptorIndex := 362, attributes := #[] }, { accessFlags := 18, nameIndex := 275, descriptorIndex := 276, attributes := #[] }, { accessFlags := 25, nameIndex := 376, descriptorIndex := 377, attributes := #[] }, { accessFlags := 25, nameIndex := 379, descriptorIndex := 377, attributes := #[] }, { accessFlags := 26, nameIndex := 381, descriptorIndex := 276, attributes := #[] }])
  fields := #[{ name := "MIN_VALUE", type := .long, accessFlags := 25, slot := 0, constantValue := 0 }, { name := "MAX_VALUE", type := .long, accessFlags := 25, slot := 1, constantValue := 0 }, { name := "TYPE", type := (.object "java/lang/Class"), accessFlags := 25, slot := 2, constantValue := 0 }, { name := "value", type := .long, accessFlags := 18, slot := 0, constantValue := 0 }, { name := "SIZE", type := .int, accessFlags := 25, slot := 3, constantValue := 0 }, { name := "BYTES", type := .int, accessFlags := 25, slot := 4, constantValue := 0 }, { name := "serialVersionUID", type := .long, accessFlags := 26, slot := 5, constantValue := 0 }]
  methods := #[k23m0]
  instanceTypes := #[.long]
  staticTypes := #[.long, .long, (.object "java/lang/Class"), .int, .int, .long]
  resolved := Array.replicate 524 none
  statics := none }

def pool24 : Array CpInfo := pool [(4, .class_ 6), (1, u "java/lang/Number"), (16, .class_ 25), (1, u "java/math/BigInteger"), (0, u "ZERO"), (0, u "Ljava/math/BigInteger;"), (2, u "mag"), (0, u "[I"), (2, u "signum"), (0, u "I"), (59, u "bitsPerDigit"), (0, u "[J"), (9, u "digitsPerInt"), (12, u "intRadix"), (60, u "SMALL_PRIME_PRODUCT"), (79, u "ONE"), (6, u "TWO"), (43, u "$assertionsDisabled"), (0, u "Z"), (36, u "posConst"), (0, u "[Ljava/math/BigInteger;"), (4, u "negConst"), (116, .class_ 474), (1, u "java/math/BigInteger$RecursiveOp"), (106, u "NEGATIVE_ONE"), (91, u "bnExpModThreshTable"), (72, u "lowestSetBitPlusTwo"), (2, u "bitLengthPlusOne"), (2, u "bitCountPlusOne"), (6, u "LOG_TWO"), (0, u "D"), (2, u "logCache"), (0, u "[D"), (13, u "NUM_ZEROS"), (2, u "ZEROS"), (0, u "Ljava/lang/String;"), (9, u "longRadix"), (5, u "digitsPerLong"), (22, u "powerCache"), (0, u "[[Ljava/math/BigInteger;"), (45, u "firstNonzeroIntNumPlusTwo"), (38, .class_ 909), (1, u "java/math/BigInteger$UnsafeHolder"), (141, u "TEN"), (106, u "serialPersistentFields"), (0, u "[Ljava/io/ObjectStreamField;"), (0, .class_ 1161), (0, u "java/lang/Comparable"), (0, u "LONG_MASK"), (0, u "J"), (1, u "MAX_MAG_LENGTH"), (0, u "PRIME_SEARCH_BIT_LENGTH_LIMIT"), (1, u "KARATSUBA_THRESHOLD"), (1, u "TOOM_COOK_THRESHOLD"), (1, u "KARATSUBA_SQUARE_THRESHOLD"), (1, u "TOOM_COOK_SQUARE_THRESHOLD"), (1, u "BURNIKEL_ZIEGLER_THRESHOLD"), (0, u "BURNIKEL_ZIEGLER_OFFSET"), (1, u "SCHOENHAGE_BASE_CONVERSION_THRESHOLD"), (1, u "MULTIPLY_SQUARE_THRESHOLD"), (0, u "MONTGOMERY_INTRINSIC_THRESHOLD"), (1, u "SMALL_PRIME_THRESHOLD"), (1, u "DEFAULT_PRIME_CERTAINTY"), (1, u "MAX_CONSTANT"), (3, u "serialVersionUID"), (338, .class_ 1532), (0, u "java/math/BigInteger$RecursiveOp$RecursiveSquare"), (0, .class_ 1534), (0, u "java/math/BigInteger$RecursiveOp$RecursiveMultiply")] 7

/-- java/math/BigInteger -/
def k24 : Class := { plain "java/math/BigInteger" (some 16) with
  accessFlags := 33
  interfaces := #[17]
  cf := some (fileOf pool24 23 #[.nestMembers #[907, 472, 1531, 1533]] #[] 33 4 #[1160] #[{ accessFlags := 16, nameIndex := 34, descriptorIndex := 35, attributes := #[] }, { accessFlags := 16, nameIndex := 30, descriptorIndex := 31, attributes := #[] }, { accessFlags := 2, nameIndex := 752, descriptorIndex := 35, attributes := #[] }, { accessFlags := 2, nameIndex := 749, descriptorIndex := 35, attributes := #[] }, { accessFlags := 2, nameIndex := 746, descriptorIndex := 35, attributes := #[] }, { accessFlags := 2, nameIndex := 868, descriptorIndex := 35, attributes := #[] }, { accessFlags := 24, nameIndex := 1162, descriptorIndex := 1163, attributes := #[] }, { accessFlags := 26, nameIndex := 1165, descriptorIndex := 35, attributes := #[] }, { accessFlags := 26, nameIndex := 1166, descriptorIndex := 35, attributes := #[] }, { accessFlags := 26, nameIndex := 1168, descriptorIndex := 35, attributes := #[] }, { accessFlags := 26, nameIndex := 1170, descriptorIndex := 35, attributes := #[] }, { accessFlags := 26, nameIndex := 1172, descriptorIndex := 35, attributes := #[] }, { accessFlags := 26, nameIndex := 1174, descriptorIndex := 35, attributes := #[] }, { accessFlags := 24, nameIndex := 1176, descriptorIndex := 35, attributes := #[] }, { accessFlags := 24, nameIndex := 1177, descriptorIndex := 35, attributes := #[] }, { accessFlags := 26, nameIndex := 1179, descriptorIndex := 35, attributes := #[] }, { accessFlags := 26, nameIndex := 1181, descriptorIndex := 35, attributes := #[] }, { accessFlags := 26, nameIndex := 1182, descriptorIndex := 35, attributes := #[] }, { accessFlags := 10, nameIndex := 95, descriptorIndex := 96, attributes := #[] }, { accessFlags := 26, nameIndex := 1184, descriptorIndex := 35, attributes := #[] }, { accessFlags := 26, nameIndex := 1186, descriptorIndex := 35, attributes := #[] }, { accessFlags := 26, nameIndex := 180, descriptorIndex := 27, attributes := #[] }, { accessFlags := 26, nameIndex := 1188, descriptorIndex := 35, attributes := #[] }, { accessFlags := 26, nameIndex := 349, descriptorIndex := 350, attributes := #[] }, { accessFlags := 26, nameIndex := 355, descriptorIndex := 350, attributes := #[] }, { accessFlags := 74, nameIndex := 821, descriptorIndex := 822, attributes := #[] }, { accessFlags := 26, nameIndex := 763, descriptorIndex := 764, attributes := #[] }, { accessFlags := 26, nameIndex := 759, descriptorIndex := 760, attributes := #[] }, { accessFlags := 25, nameIndex := 26, descriptorIndex := 27, attributes := #[] }, { accessFlags := 25, nameIndex := 260, descriptorIndex := 27, attributes := #[] }, { accessFlags := 25, nameIndex := 267, descriptorIndex := 27, attributes := #[] }, { accessFlags := 26, nameIndex := 581, descriptorIndex := 27, attributes := #[] }, { accessFlags := 25, nameIndex := 1051, descriptorIndex := 27, attributes := #[] }, { accessFlags := 8, nameIndex := 673, descriptorIndex := 31, attributes := #[] }, { accessFlags := 10, nameIndex := 778, descriptorIndex := 35, attributes := #[] }, { accessFlags := 26, nameIndex := 781, descriptorIndex := 782, attributes := #[] }, { accessFlags := 10, nameIndex := 798, descriptorIndex := 31, attributes := #[] }, { accessFlags := 10, nameIndex := 792, descriptorIndex := 350, attributes := #[] }, { accessFlags := 10, nameIndex := 106, descriptorIndex := 31, attributes := #[] }, { accessFlags := 10, nameIndex := 119, descriptorIndex := 31, attributes := #[] }, { accessFlags := 26, nameIndex := 1192, descriptorIndex := 1163, attributes := #[] }, { accessFlags := 26, nameIndex := 1158, descriptorIndex := 1159, attributes := #[] }, { accessFlags := 4120, nameIndex := 311, descriptorIndex := 312, attributes := #[] }])
  fields := #[{ name := "signum", type := .int, accessFlags := 16, slot := 0, constantValue := 0 }, { name := "mag", type := (.array .int), accessFlags := 16, slot := 1, constantValue := 0 }, { name := "bitCountPlusOne", type := .int, accessFlags := 2, slot := 2, constantValue := 0 }, { name := "bitLengthPlusOne", type := .int, accessFlags := 2, slot := 3, constantValue := 0 }, { name := "lowestSetBitPlusTwo", type := .int, accessFlags := 2, slot := 4, constantValue := 0 }, { name := "firstNonzeroIntNumPlusTwo", type := .int, accessFlags := 2, slot := 5, constantValue := 0 }, { name := "LONG_MASK", type := .long, accessFlags := 24, slot := 0, constantValue := 0 }, { name := "MAX_MAG_LENGTH", type := .int, accessFlags := 26, slot := 1, constantValue := 0 }, { name := "PRIME_SEARCH_BIT_LENGTH_LIMIT", type := .int, accessFlags := 26, slot := 2, constantValue := 0 }, { name := "KARATSUBA_THRESHOLD", type := .int, accessFlags := 26, slot := 3, constantValue := 0 }, { name := "TOOM_COOK_THRESHOLD", type := .int, accessFlags := 26, slot := 4, constantValue := 0 }, { name := "KARATSUBA_SQUARE_THRESHOLD", type := .int, accessFlags := 26, slot := 5, constantValue := 0 }, { name := "TOOM_COOK_SQUARE_THRESHOLD", type := .int, accessFlags := 26, slot := 6, constantValue := 0 }, { name := "BURNIKEL_ZIEGLER_THRESHOLD", type := .int, accessFlags := 24, slot := 7, constantValue := 0 }, { name := "BURNIKEL_ZIEGLER_OFFSET", type := .int, accessFlags := 24, slot := 8, constantValue := 0 }, { name := "SCHOENHAGE_BASE_CONVERSION_THRESHOLD", type := .int, accessFlags := 26, slot := 9, constantValue := 0 }, { name := "MULTIPLY_SQUARE_THRESHOLD", type := .int, accessFlags := 26, slot := 10, constantValue := 0 }, { name := "MONTGOMERY_INTRINSIC_THRESHOLD", type := .int, accessFlags := 26, slot := 11, constantValue := 0 }, { name := "bitsPerDigit", type := (.array .long), accessFlags := 10, slot := 12, constantValue := 0 }, { name := "SMALL_PRIME_THRESHOLD", type := .int, accessFlags := 26, slot := 13, constantValue := 0 }, { name := "DEFAULT_PRIME_CERTAINTY", type := .int, accessFlags := 26, slot := 14, constantValue := 0 }, { name := "SMALL_PRIME_PRODUCT", type := (.object "java/math/BigInteger"), accessFlags := 26, slot := 15, constantValue := 0 }, { name := "MAX_CONSTANT", type := .int, accessFlags := 26, slot := 16, constantValue := 0 }, { name := "posConst", type := (.array (.object "java/math/BigInteger")), accessFlags := 26, slot := 17, constantValue := 0 }, { name := "negConst", type := (.array (.object "java/math/BigInteger")), accessFlags := 26, slot := 18, constantValue := 0 }, { name := "powerCache", type := (.array (.array (.object "java/math/BigInteger"))), accessFlags := 74, slot := 19, constantValue := 0 }, { name := "logCache", type := (.array .double), accessFlags := 26, slot := 20, constantValue := 0 }, { name := "LOG_TWO", type := .double, accessFlags := 26, slot := 21, constantValue := 0 }, { name := "ZERO", type := (.object "java/math/BigInteger"), accessFlags := 25, slot := 22, constantValue := 0 }, { name := "ONE", type := (.object "java/math/BigInteger"), accessFlags := 25, slot := 23, constantValue := 0 }, { name := "TWO", type := (.object "java/math/BigInteger"), accessFlags := 25, slot := 24, constantValue := 0 }, { name := "NEGATIVE_ONE", type := (.object "java/math/BigInteger"), accessFlags := 26, slot := 25, constantValue := 0 }, { name := "TEN", type := (.object "java/math/BigInteger"), accessFlags := 25, slot := 26, constantValue := 0 }, { name := "bnExpModThreshTable", type := (.array .int), accessFlags := 8, slot := 27, constantValue := 0 }, { name := "NUM_ZEROS", type := .int, accessFlags := 10, slot := 28, constantValue := 0 }, { name := "ZEROS", type := (.object "java/lang/String"), accessFlags := 26, slot := 29, constantValue := 0 }, { name := "digitsPerLong", type := (.array .int), accessFlags := 10, slot := 30, constantValue := 0 }, { name := "longRadix", type := (.array (.object "java/math/BigInteger")), accessFlags := 10, slot := 31, constantValue := 0 }, { name := "digitsPerInt", type := (.array .int), accessFlags := 10, slot := 32, constantValue := 0 }, { name := "intRadix", type := (.array .int), accessFlags := 10, slot := 33, constantValue := 0 }, { name := "serialVersionUID", type := .long, accessFlags := 26, slot := 34, constantValue := 0 }, { name := "serialPersistentFields", type := (.array (.object "java/io/ObjectStreamField")), accessFlags := 26, slot := 35, constantValue := 0 }, { name := "$assertionsDisabled", type := .boolean, accessFlags := 4120, slot := 36, constantValue := 0 }]
  methods := #[]
  instanceTypes := #[.int, (.array .int), .int, .int, .int, .int]
  staticTypes := #[.long, .int, .int, .int, .int, .int, .int, .int, .int, .int, .int, .int, (.array .long), .int, .int, (.object "java/math/BigInteger"), .int, (.array (.object "java/math/BigInteger")), (.array (.object "java/math/BigInteger")), (.array (.array (.object "java/math/BigInteger"))), (.array .double), .double, (.object "java/math/BigInteger"), (.object "java/math/BigInteger"), (.object "java/math/BigInteger"), (.object "java/math/BigInteger"), (.object "java/math/BigInteger"), (.array .int), .int, (.object "java/lang/String"), (.array .int), (.array (.object "java/math/BigInteger")), (.array .int), (.array .int), .long, (.array (.object "java/io/ObjectStreamField")), .boolean]
  resolved := Array.replicate 1542 none
  statics := some 2 }

/-- the primitive byte -/
def k25 : Class := { plain "byte" none with kind := .primitive 'B', accessFlags := 0x411 }
/-- [B -/
def k26 : Class := { plain "[B" (some 0) with kind := .array 25 .byte, interfaces := #[10, 11], accessFlags := 1041 }

/-- the primitive int -/
def k27 : Class := { plain "int" none with kind := .primitive 'I', accessFlags := 0x411 }
/-- [I -/
def k28 : Class := { plain "[I" (some 0) with kind := .array 27 .int, interfaces := #[10, 11], accessFlags := 1041 }

/-- [Ljava/lang/Object; -/
def k29 : Class := { plain "[Ljava/lang/Object;" (some 0) with kind := .array 0 (.object "java/lang/Object"), interfaces := #[10, 11], accessFlags := 1041 }

/-- [Ljava/math/BigDecimal; -/
def k30 : Class := { plain "[Ljava/math/BigDecimal;" (some 0) with kind := .array 18 (.object "java/math/BigDecimal"), interfaces := #[10, 11], accessFlags := 1041 }

def heap : Heap := #[{ cls := 12, slots := #[.long 0, .int 0, .ref 6, .ref 7], vm := .statics 12 },
  { cls := 18, slots := #[.double 0, .int 0, .int 0, .int 0, .int 0, .int 0, .int 0, .long 0, .null, .int 0, .long 0, .null, .null, .long 0, .long 0, .null, .ref 5, .null, .null, .null, .null, .int 0, .int 0, .int 0, .int 0, .int 0, .int 0, .int 0, .int 0, .null, .null, .null, .null, .int 0, .int 0, .null, .long 0, .null, .int 0], vm := .statics 18 },
  { cls := 24, slots := #[.long 0, .int 0, .int 0, .int 0, .int 0, .int 0, .int 0, .int 0, .int 0, .int 0, .int 0, .int 0, .null, .int 0, .int 0, .null, .int 0, .null, .null, .null, .null, .double 0, .null, .ref 4, .null, .null, .null, .null, .int 0, .null, .null, .null, .null, .null, .long 0, .null, .int 0], vm := .statics 24 },
  { cls := 28, slots := #[.int 1], vm := .none },
  { cls := 24, slots := #[.int 1, .ref 3, .int 0, .int 0, .int 0, .int 0], vm := .none },
  { cls := 18, slots := #[.ref 4, .int 0, .int 1, .null, .long 1], vm := .none },
  { cls := 29, slots := #[], vm := .none },
  { cls := 29, slots := #[], vm := .none }]
def classes : Array Class := #[k0, k1, k2, k3, k4, k5, k6, k7, k8, k9, k10, k11, k12, k13, k14, k15, k16, k17, k18, k19, k20, k21, k22, k23, k24, k25, k26, k27, k28, k29, k30]
def interned : List (Array UInt16 × Addr) := []
def slotsUsed : Nat := 92
def theMethod : MethodId := ⟨1, 1⟩
def args0 : Array Value := #[.int 2, .int 5, .int 6, .int 7]
def aboutOver (below : List Frame) : State where
  vm := { classes := classes, interned := interned.toArray }
  heap := heap
  slotsUsed := slotsUsed
  threads := #[{ frames := .invoking theMethod args0 :: below }]
def below0 : List Frame := [.native { method := ⟨0, 0⟩, args := #[] }]
def about1 : State := aboutOver below0
def p0 : Program := .bare "" "" ""
def e0 : Env := launch0.env 0 0 0
theorem w_frames : about1.frames = Frame.invoking theMethod args0 :: below0 := rfl
set_option maxRecDepth 65536 in
theorem w_args : argsFit about1.vm theMethod args0 = true := by decide +kernel
set_option maxRecDepth 65536 in
theorem w_heap : heapFits about1 = true := by decide +kernel
set_option maxRecDepth 65536 in
theorem w_runnable : about1.curStatus? = some .runnable := by decide +kernel
set_option maxRecDepth 65536 in
theorem w_alone : about1.alone = true := by decide +kernel
set_option maxRecDepth 65536 in
theorem w_named : about1.methodNamed? x = some theMethod := by decide +kernel
set_option maxRecDepth 65536 in
theorem w_hears : about1.hears theMethod below0 = true := by decide +kernel
set_option maxRecDepth 65536 in
theorem w_ripe : about1.ripe theMethod args0 below0 = true := by decide +kernel
theorem w_running : about1.status = .running := rfl
set_option maxRecDepth 65536 in
theorem w_room : about1.hasRoom e0.platform room_1 = true :=
  launch0.hasRoom_least _ room_1 (by decide +kernel) (by decide +kernel) (by decide +kernel) (by decide +kernel) (by decide +kernel) (by decide +kernel)
theorem allAtoms_all (ts : List Jvm.Cond) (a : Array Jvm.Value) (st : Jvm.State) : (allAtoms ts).before a st = ts.all (fun c => c.before a st) := by
  induction ts with
  | nil => rfl
  | cons c t ih =>
    show (Jvm.Cond.and c (allAtoms t)).before a st = _
    rw [Jvm.Cond.before_and, ih, List.all_cons]
def words1 : List Jvm.Cond := Jvm.Cond.code x code maxLocals ret :: tables_1
/-- a 'code' word, met by the world's own term for the bytes: nothing is compared byte by byte -/
theorem code_word {y : MethodName} {bytes : ByteArray} {mx : Nat} {rt : Option FieldType} {a : Array Value} {s : State} {m : MethodId} {meth : Method} {c : Code} (h1 : s.methodNamed? y = some m) (h2 : s.vm.method? m = some meth) (h3 : meth.code = some c) (h4 : c.code = bytes)
    (h5 : (c.maxLocals == mx && c.exceptionTable.isEmpty && decide (c.maxStack ≤ mostOperands) && decide (meth.sig.returnType = rt) && !meth.locks && decide (parseMethodDescriptor y.desc = some meth.sig)) = true) : (Jvm.Cond.code y bytes mx rt).before a s = true := by
  simp only [Bool.and_eq_true, beq_iff_eq, Bool.not_eq_true', decide_eq_true_eq] at h5
  obtain ⟨⟨⟨⟨⟨g1, g2⟩, g3⟩, g4⟩, g5⟩, g6⟩ := h5
  simp [Cond.before, Cond.holds, Cond.value, h1, h2, h3, h4, g1, g2, g3, g4, g5, g6]
def isCode : Jvm.Cond → Bool
  | .code _ _ _ _ => true
  | _ => false
theorem all_split {L : List Jvm.Cond} {P : Jvm.Cond → Bool} (h1 : L.all (fun c => isCode c || P c) = true) (h2 : ∀ c ∈ L.filter isCode, P c = true) : L.all P = true := by
  refine List.all_eq_true.mpr fun c hc => ?_
  have h := List.all_eq_true.mp h1 c hc
  rcases Bool.eq_false_or_eq_true (isCode c) with hi | hi
  · exact h2 c (List.mem_filter.mpr ⟨hc, hi⟩)
  · simpa [hi] using h
set_option maxRecDepth 65536 in
theorem w_c0 : (Jvm.Cond.code x code maxLocals ret).before args0 about1 = true := code_word (m := ⟨1, 1⟩) (meth := k1m1) (c := k1c1) (by decide +kernel) rfl rfl rfl (by decide +kernel)
set_option maxRecDepth 65536 in
theorem w_c1 : (Jvm.Cond.code ({ cls := "com/example/ratably/ratably/calendar/Slice", name := "<init>", desc := "(Lcom/example/ratably/ratably/calendar/Period;I)V" } : Jvm.MethodName) prog_5_method_1_code (3 : Nat) (Option.none : Option Jvm.ClassFile.FieldType)).before args0 about1 = true := code_word (m := ⟨2, 0⟩) (meth := k2m0) (c := k2c0) (by decide +kernel) rfl rfl rfl (by decide +kernel)
set_option maxRecDepth 65536 in
theorem w_c2 : (Jvm.Cond.code ({ cls := "java/lang/Object", name := "<init>", desc := "()V" } : Jvm.MethodName) object_method_1_code (1 : Nat) (Option.none : Option Jvm.ClassFile.FieldType)).before args0 about1 = true := code_word (m := ⟨0, 0⟩) (meth := k0m0) (c := k0c0) (by decide +kernel) rfl rfl rfl (by decide +kernel)
set_option maxRecDepth 65536 in
theorem w_c3 : (Jvm.Cond.code ({ cls := "java/util/ArrayList", name := "<init>", desc := "()V" } : Jvm.MethodName) jdk_38_method_2_code (1 : Nat) (Option.none : Option Jvm.ClassFile.FieldType)).before args0 about1 = true := code_word (m := ⟨12, 0⟩) (meth := k12m0) (c := k12c0) (by decide +kernel) rfl rfl rfl (by decide +kernel)
set_option maxRecDepth 65536 in
theorem w_c4 : (Jvm.Cond.code ({ cls := "java/util/AbstractList", name := "<init>", desc := "()V" } : Jvm.MethodName) jdk_39_method_1_code (1 : Nat) (Option.none : Option Jvm.ClassFile.FieldType)).before args0 about1 = true := code_word (m := ⟨8, 0⟩) (meth := k8m0) (c := k8c0) (by decide +kernel) rfl rfl rfl (by decide +kernel)
set_option maxRecDepth 65536 in
theorem w_c5 : (Jvm.Cond.code ({ cls := "java/util/AbstractCollection", name := "<init>", desc := "()V" } : Jvm.MethodName) jdk_22_method_1_code (1 : Nat) (Option.none : Option Jvm.ClassFile.FieldType)).before args0 about1 = true := code_word (m := ⟨5, 0⟩) (meth := k5m0) (c := k5c0) (by decide +kernel) rfl rfl rfl (by decide +kernel)
set_option maxRecDepth 65536 in
theorem w_c6 : (Jvm.Cond.code ({ cls := "com/example/ratably/ratably/method/EvenPeriods", name := "<init>", desc := "()V" } : Jvm.MethodName) prog_13_method_1_code (1 : Nat) (Option.none : Option Jvm.ClassFile.FieldType)).before args0 about1 = true := code_word (m := ⟨15, 0⟩) (meth := k15m0) (c := k15c0) (by decide +kernel) rfl rfl rfl (by decide +kernel)
set_option maxRecDepth 65536 in
theorem w_c7 : (Jvm.Cond.code ({ cls := "com/example/ratably/ratably/method/EvenPeriods", name := "weights", desc := "(Ljava/util/List;)[Ljava/math/BigDecimal;" } : Jvm.MethodName) prog_13_method_3_code (3 : Nat) (Option.some (Jvm.ClassFile.FieldType.array (Jvm.ClassFile.FieldType.object "java/math/BigDecimal")))).before args0 about1 = true := code_word (m := ⟨15, 1⟩) (meth := k15m1) (c := k15c1) (by decide +kernel) rfl rfl rfl (by decide +kernel)
set_option maxRecDepth 65536 in
theorem w_c8 : (Jvm.Cond.code ({ cls := "java/util/ArrayList", name := "size", desc := "()I" } : Jvm.MethodName) jdk_38_method_8_code (1 : Nat) (Option.some Jvm.ClassFile.FieldType.int)).before args0 about1 = true := code_word (m := ⟨12, 3⟩) (meth := k12m3) (c := k12c3) (by decide +kernel) rfl rfl rfl (by decide +kernel)
set_option maxRecDepth 65536 in
theorem w_c9 : (Jvm.Cond.code ({ cls := "java/util/Arrays", name := "fill", desc := "([Ljava/lang/Object;Ljava/lang/Object;)V" } : Jvm.MethodName) jdk_65_method_117_code (4 : Nat) (Option.none : Option Jvm.ClassFile.FieldType)).before args0 about1 = true := code_word (m := ⟨19, 1⟩) (meth := k19m1) (c := k19c1) (by decide +kernel) rfl rfl rfl (by decide +kernel)
set_option maxRecDepth 65536 in
theorem w_c10 : (Jvm.Cond.code ({ cls := "java/util/ArrayList", name := "add", desc := "(Ljava/lang/Object;)Z" } : Jvm.MethodName) jdk_38_method_25_code (2 : Nat) (Option.some Jvm.ClassFile.FieldType.boolean)).before args0 about1 = true := code_word (m := ⟨12, 5⟩) (meth := k12m5) (c := k12c5) (by decide +kernel) rfl rfl rfl (by decide +kernel)
set_option maxRecDepth 65536 in
theorem w_c11 : (Jvm.Cond.code ({ cls := "java/util/ArrayList", name := "add", desc := "(Ljava/lang/Object;[Ljava/lang/Object;I)V" } : Jvm.MethodName) jdk_38_method_24_code (4 : Nat) (Option.none : Option Jvm.ClassFile.FieldType)).before args0 about1 = true := code_word (m := ⟨12, 4⟩) (meth := k12m4) (c := k12c4) (by decide +kernel) rfl rfl rfl (by decide +kernel)
set_option maxRecDepth 65536 in
theorem w_c12 : (Jvm.Cond.code ({ cls := "java/util/ArrayList", name := "grow", desc := "()[Ljava/lang/Object;" } : Jvm.MethodName) jdk_38_method_7_code (1 : Nat) (Option.some (Jvm.ClassFile.FieldType.array (Jvm.ClassFile.FieldType.object "java/lang/Object")))).before args0 about1 = true := code_word (m := ⟨12, 2⟩) (meth := k12m2) (c := k12c2) (by decide +kernel) rfl rfl rfl (by decide +kernel)
set_option maxRecDepth 65536 in
theorem w_c13 : (Jvm.Cond.code ({ cls := "java/util/ArrayList", name := "grow", desc := "(I)[Ljava/lang/Object;" } : Jvm.MethodName) jdk_38_method_6_code (4 : Nat) (Option.some (Jvm.ClassFile.FieldType.array (Jvm.ClassFile.FieldType.object "java/lang/Object")))).before args0 about1 = true := code_word (m := ⟨12, 1⟩) (meth := k12m1) (c := k12c1) (by decide +kernel) rfl rfl rfl (by decide +kernel)
set_option maxRecDepth 65536 in
theorem w_c14 : (Jvm.Cond.code ({ cls := "java/lang/Math", name := "max", desc := "(II)I" } : Jvm.MethodName) jdk_29_method_65_code (2 : Nat) (Option.some Jvm.ClassFile.FieldType.int)).before args0 about1 = true := code_word (m := ⟨20, 1⟩) (meth := k20m1) (c := k20c1) (by decide +kernel) rfl rfl rfl (by decide +kernel)
set_option maxRecDepth 65536 in
theorem w_c15 : (Jvm.Cond.code ({ cls := "java/math/BigDecimal", name := "signum", desc := "()I" } : Jvm.MethodName) jdk_17_method_58_code (1 : Nat) (Option.some Jvm.ClassFile.FieldType.int)).before args0 about1 = true := code_word (m := ⟨18, 0⟩) (meth := k18m0) (c := k18c0) (by decide +kernel) rfl rfl rfl (by decide +kernel)
set_option maxRecDepth 65536 in
theorem w_c16 : (Jvm.Cond.code ({ cls := "java/lang/Long", name := "signum", desc := "(J)I" } : Jvm.MethodName) jdk_35_method_57_code (2 : Nat) (Option.some Jvm.ClassFile.FieldType.int)).before args0 about1 = true := code_word (m := ⟨23, 0⟩) (meth := k23m0) (c := k23c0) (by decide +kernel) rfl rfl rfl (by decide +kernel)
set_option maxRecDepth 65536 in
theorem w_c17 : (Jvm.Cond.code ({ cls := "com/example/ratably/ratably/method/EvenPeriodsWeightsPinLaw", name := "same", desc := "(Ljava/math/BigDecimal;Ljava/math/BigDecimal;)Z" } : Jvm.MethodName) method_3_code (2 : Nat) (Option.some Jvm.ClassFile.FieldType.boolean)).before args0 about1 = true := code_word (m := ⟨1, 2⟩) (meth := k1m2) (c := k1c2) (by decide +kernel) rfl rfl rfl (by decide +kernel)
set_option maxRecDepth 65536 in
theorem w_c18 : (Jvm.Cond.code ({ cls := "java/math/BigDecimal", name := "compareTo", desc := "(Ljava/math/BigDecimal;)I" } : Jvm.MethodName) jdk_17_method_70_code (6 : Nat) (Option.some Jvm.ClassFile.FieldType.int)).before args0 about1 = true := code_word (m := ⟨18, 1⟩) (meth := k18m1) (c := k18c1) (by decide +kernel) rfl rfl rfl (by decide +kernel)
def codes1 : List Jvm.Cond := [Jvm.Cond.code x code maxLocals ret, Jvm.Cond.code ({ cls := "com/example/ratably/ratably/calendar/Slice", name := "<init>", desc := "(Lcom/example/ratably/ratably/calendar/Period;I)V" } : Jvm.MethodName) prog_5_method_1_code (3 : Nat) (Option.none : Option Jvm.ClassFile.FieldType), Jvm.Cond.code ({ cls := "java/lang/Object", name := "<init>", desc := "()V" } : Jvm.MethodName) object_method_1_code (1 : Nat) (Option.none : Option Jvm.ClassFile.FieldType), Jvm.Cond.code ({ cls := "java/util/ArrayList", name := "<init>", desc := "()V" } : Jvm.MethodName) jdk_38_method_2_code (1 : Nat) (Option.none : Option Jvm.ClassFile.FieldType), Jvm.Cond.code ({ cls := "java/util/AbstractList", name := "<init>", desc := "()V" } : Jvm.MethodName) jdk_39_method_1_code (1 : Nat) (Option.none : Option Jvm.ClassFile.FieldType), Jvm.Cond.code ({ cls := "java/util/AbstractCollection", name := "<init>", desc := "()V" } : Jvm.MethodName) jdk_22_method_1_code (1 : Nat) (Option.none : Option Jvm.ClassFile.FieldType), Jvm.Cond.code ({ cls := "com/example/ratably/ratably/method/EvenPeriods", name := "<init>", desc := "()V" } : Jvm.MethodName) prog_13_method_1_code (1 : Nat) (Option.none : Option Jvm.ClassFile.FieldType), Jvm.Cond.code ({ cls := "com/example/ratably/ratably/method/EvenPeriods", name := "weights", desc := "(Ljava/util/List;)[Ljava/math/BigDecimal;" } : Jvm.MethodName) prog_13_method_3_code (3 : Nat) (Option.some (Jvm.ClassFile.FieldType.array (Jvm.ClassFile.FieldType.object "java/math/BigDecimal"))), Jvm.Cond.code ({ cls := "java/util/ArrayList", name := "size", desc := "()I" } : Jvm.MethodName) jdk_38_method_8_code (1 : Nat) (Option.some Jvm.ClassFile.FieldType.int), Jvm.Cond.code ({ cls := "java/util/Arrays", name := "fill", desc := "([Ljava/lang/Object;Ljava/lang/Object;)V" } : Jvm.MethodName) jdk_65_method_117_code (4 : Nat) (Option.none : Option Jvm.ClassFile.FieldType), Jvm.Cond.code ({ cls := "java/util/ArrayList", name := "add", desc := "(Ljava/lang/Object;)Z" } : Jvm.MethodName) jdk_38_method_25_code (2 : Nat) (Option.some Jvm.ClassFile.FieldType.boolean), Jvm.Cond.code ({ cls := "java/util/ArrayList", name := "add", desc := "(Ljava/lang/Object;[Ljava/lang/Object;I)V" } : Jvm.MethodName) jdk_38_method_24_code (4 : Nat) (Option.none : Option Jvm.ClassFile.FieldType), Jvm.Cond.code ({ cls := "java/util/ArrayList", name := "grow", desc := "()[Ljava/lang/Object;" } : Jvm.MethodName) jdk_38_method_7_code (1 : Nat) (Option.some (Jvm.ClassFile.FieldType.array (Jvm.ClassFile.FieldType.object "java/lang/Object"))), Jvm.Cond.code ({ cls := "java/util/ArrayList", name := "grow", desc := "(I)[Ljava/lang/Object;" } : Jvm.MethodName) jdk_38_method_6_code (4 : Nat) (Option.some (Jvm.ClassFile.FieldType.array (Jvm.ClassFile.FieldType.object "java/lang/Object"))), Jvm.Cond.code ({ cls := "java/lang/Math", name := "max", desc := "(II)I" } : Jvm.MethodName) jdk_29_method_65_code (2 : Nat) (Option.some Jvm.ClassFile.FieldType.int), Jvm.Cond.code ({ cls := "java/math/BigDecimal", name := "signum", desc := "()I" } : Jvm.MethodName) jdk_17_method_58_code (1 : Nat) (Option.some Jvm.ClassFile.FieldType.int), Jvm.Cond.code ({ cls := "java/lang/Long", name := "signum", desc := "(J)I" } : Jvm.MethodName) jdk_35_method_57_code (2 : Nat) (Option.some Jvm.ClassFile.FieldType.int), Jvm.Cond.code ({ cls := "com/example/ratably/ratably/method/EvenPeriodsWeightsPinLaw", name := "same", desc := "(Ljava/math/BigDecimal;Ljava/math/BigDecimal;)Z" } : Jvm.MethodName) method_3_code (2 : Nat) (Option.some Jvm.ClassFile.FieldType.boolean), Jvm.Cond.code ({ cls := "java/math/BigDecimal", name := "compareTo", desc := "(Ljava/math/BigDecimal;)I" } : Jvm.MethodName) jdk_17_method_70_code (6 : Nat) (Option.some Jvm.ClassFile.FieldType.int)]
set_option maxRecDepth 65536 in
theorem codes_eq : words1.filter isCode = codes1 := rfl
theorem w_codes : ∀ c ∈ words1.filter isCode, c.before args0 about1 = true := by
  rw [codes_eq]
  intro c hc
  simp only [codes1, List.mem_cons, List.not_mem_nil, or_false] at hc
  rcases hc with rfl | rfl | rfl | rfl | rfl | rfl | rfl | rfl | rfl | rfl | rfl | rfl | rfl | rfl | rfl | rfl | rfl | rfl | rfl
  · exact w_c0
  · exact w_c1
  · exact w_c2
  · exact w_c3
  · exact w_c4
  · exact w_c5
  · exact w_c6
  · exact w_c7
  · exact w_c8
  · exact w_c9
  · exact w_c10
  · exact w_c11
  · exact w_c12
  · exact w_c13
  · exact w_c14
  · exact w_c15
  · exact w_c16
  · exact w_c17
  · exact w_c18
set_option maxRecDepth 65536 in
theorem w_t1 : (words1.take 24).all (fun c => isCode c || c.before args0 about1) = true := by decide +kernel
set_option maxRecDepth 65536 in
theorem w_t2 : ((words1.drop 24).take 24).all (fun c => isCode c || c.before args0 about1) = true := by decide +kernel
set_option maxRecDepth 65536 in
theorem w_t3 : (((words1.drop 24).drop 24).take 24).all (fun c => isCode c || c.before args0 about1) = true := by decide +kernel
set_option maxRecDepth 65536 in
theorem w_t4 : ((((words1.drop 24).drop 24).drop 24).take 24).all (fun c => isCode c || c.before args0 about1) = true := by decide +kernel
set_option maxRecDepth 65536 in
theorem w_t5 : (((((words1.drop 24).drop 24).drop 24).drop 24).take 24).all (fun c => isCode c || c.before args0 about1) = true := by decide +kernel
set_option maxRecDepth 65536 in
theorem w_t6 : (((((words1.drop 24).drop 24).drop 24).drop 24).drop 24).all (fun c => isCode c || c.before args0 about1) = true := by decide +kernel
theorem w_tables : (allAtoms (Jvm.Cond.code x code maxLocals ret :: tables_1)).before args0 about1 = true := by
  rw [allAtoms_all]
  show words1.all (fun c => c.before args0 about1) = true
  refine all_split ?_ w_codes
  rw [← List.take_append_drop 24 words1, List.all_append, w_t1, ← List.take_append_drop 24 (words1.drop 24), List.all_append, w_t2, ← List.take_append_drop 24 ((words1.drop 24).drop 24), List.all_append, w_t3, ← List.take_append_drop 24 (((words1.drop 24).drop 24).drop 24), List.all_append, w_t4, ← List.take_append_drop 24 ((((words1.drop 24).drop 24).drop 24).drop 24), List.all_append, w_t5, w_t6]
  rfl
set_option maxRecDepth 65536 in
theorem w_rest : rest_1_c.before args0 about1 = true := by decide +kernel
set_option maxRecDepth 65536 in
theorem w_case : (Jvm.Cond.and given_1 narrow_1).before args0 about1 = true := by decide +kernel
theorem w_applies : (headSpec (Jvm.Cond.code x code maxLocals ret :: tables_1) room_1).applies x e0.platform about1 = true :=
  (Spec.applies_iff w_frames).mpr ⟨w_running, w_runnable, w_alone, w_named, w_hears, w_ripe, w_room, w_tables⟩
theorem atStart : AtStart classFile x code maxLocals ret World_1 tables_1 room_1 Calls_1 rest_1 Pre_1 launch0 p0 e0 about1 theMethod args0 below0 :=
  ⟨lists_1, trivial, launch0.admits_env _ _ _, launch0.least_env, fairChoices_fair.cas, fairChoices_fair.clock, w_frames, w_args, w_heap, w_applies, trivial, w_rest, w_case⟩
end start1
theorem witness_1 : WitnessClaimed_1 := ⟨start1.p0, start1.e0, start1.about1, start1.theMethod, start1.args0, start1.below0, start1.atStart⟩
end Jvm.Pilot.@@N@@
