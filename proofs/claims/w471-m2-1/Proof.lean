import JvmDerived
import JvmDerived.Pilot.@@N@@Statement
import JvmDerived.Pilot.@@N@@Code
set_option linter.unusedVariables false
set_option linter.unusedSimpArgs false
namespace Jvm.Pilot.@@N@@
open Jvm Jvm.ClassFile Sem Op Lib Jvm.Free Jvm.Stand Jvm.LawKit Jvm.RoadKit Bundle Jvm.Pilot.@@N@@.Jvm.D
/-! the goal form of a walk: from S the run ends in Q -/
def own_Gl (p : Program) (e : Env) (below : List Frame) (Q : Outcome → State → Prop) (S : State) : Prop := ∃ s₂ o, Steps p.tables e below S s₂ ∧ s₂.status = .running ∧ Ended s₂ below o ∧ Q o s₂
def own_Post (s : State) (Q : Option Value → Heap → List Loc → Prop) (C N : Nat) : Outcome → State → Prop := fun o U' => ∃ v L, o = .returned v ∧ Q v U'.heap L ∧ FrameEnd s o U' L C N
section Own
variable {p : Program} {l : Launch} {e : Env} {R : Room} {s : State} {m : MethodId} {args : Array Value} {below : List Frame} {meth : Method} {c : Code} {T : State} {locs : List Loc} {cells slots : Nat} {Q : Outcome → State → Prop} {QQ : Option Value → Heap → List Loc → Prop} {S S' : State} {C N : Nat} {h : Heap}
theorem own_st (st : ∀ t, Steps p.tables e below S' t → Steps p.tables e below S t) (g : own_Gl p e below Q S') : own_Gl p e below Q S := by
  obtain ⟨s₂, o, h1, h2⟩ := g; exact ⟨s₂, o, st _ h1, h2⟩
theorem own_tr (st : Steps p.tables e below S S') (g : own_Gl p e below Q S') : own_Gl p e below Q S := by
  obtain ⟨s₂, o, h1, h2⟩ := g; exact ⟨s₂, o, st.trans h1, h2⟩
theorem own_retO (X : Stand p l e R s m args below meth c T locs cells slots) (hx : p.tables.exec = Jvm.exec) (hlk : meth.locks = false) {pc : Nat} {Ls : Array Slot} {w : Value} {t : FieldType} {i : Instr} {rest : List Value} (hret : meth.sig.returnType = some t) (hn : narrow t w = w)
    (hi : (i = .ireturn ∧ (t = .int ∨ t = .boolean ∨ t = .byte ∨ t = .char ∨ t = .short) ∧ ∃ z, w = .int z) ∨ (i = .lreturn ∧ t = .long ∧ ∃ z, w = .long z) ∨ (i = .dreturn ∧ t = .double ∧ ∃ z, w = .double z) ∨ (i = .freturn ∧ t = .float ∧ ∃ z, w = .float z) ∨ (i = .areturn ∧ t.isReference = true ∧ w.isRef = true))
    (hd : decode c.code pc = .ok (i, 1)) (hc : cells ≤ C) (hs : slots ≤ N) (eT : T.heap = h) (hq : QQ (some w) h locs) : own_Gl p e below (own_Post s QQ C N) (T.setTop (mkF m pc Ls (w :: rest))) := by
  obtain ⟨fs, hr, hrun, hended, hW, hsame⟩ := X.leave (v := some w) (fun h => by rw [hret] at h; cases h) hlk
  subst eT
  exact ⟨_, _, retOut X hx hret hn hi hd hr, hrun, hended, _, _, rfl, hq, ⟨_, rfl⟩, hW, hsame.mono hc hs⟩
theorem own_retI (X : Stand p l e R s m args below meth c T locs cells slots) (hx : p.tables.exec = Jvm.exec) (hlk : meth.locks = false) {pc : Nat} {Ls : Array Slot} {z : Int32} {rest : List Value} (hret : meth.sig.returnType = some .int)
    (hd : decode c.code pc = .ok (.ireturn, 1)) (hc : cells ≤ C) (hs : slots ≤ N) (eT : T.heap = h) (hq : QQ (some (.int z)) h locs) : own_Gl p e below (own_Post s QQ C N) (T.setTop (mkF m pc Ls (.int z :: rest))) :=
  own_retO X hx hlk hret rfl (Or.inl ⟨rfl, Or.inl rfl, z, rfl⟩) hd hc hs eT hq
theorem own_retL (X : Stand p l e R s m args below meth c T locs cells slots) (hx : p.tables.exec = Jvm.exec) (hlk : meth.locks = false) {pc : Nat} {Ls : Array Slot} {z : Int64} {rest : List Value} (hret : meth.sig.returnType = some .long)
    (hd : decode c.code pc = .ok (.lreturn, 1)) (hc : cells ≤ C) (hs : slots ≤ N) (eT : T.heap = h) (hq : QQ (some (.long z)) h locs) : own_Gl p e below (own_Post s QQ C N) (T.setTop (mkF m pc Ls (.long z :: rest))) :=
  own_retO X hx hlk hret rfl (Or.inr (Or.inl ⟨rfl, rfl, z, rfl⟩)) hd hc hs eT hq
theorem own_nref {t : FieldType} {w : Value} (h : w.isRef = true) : narrow t w = w := by cases t <;> cases w <;> first | rfl | simp [Value.isRef] at h
theorem own_retA (X : Stand p l e R s m args below meth c T locs cells slots) (hx : p.tables.exec = Jvm.exec) (hlk : meth.locks = false) {pc : Nat} {Ls : Array Slot} {w : Value} {t : FieldType} {rest : List Value} (hret : meth.sig.returnType = some t) (ht : t.isReference = true) (hw : w.isRef = true)
    (hd : decode c.code pc = .ok (.areturn, 1)) (hc : cells ≤ C) (hs : slots ≤ N) (eT : T.heap = h) (hq : QQ (some w) h locs) : own_Gl p e below (own_Post s QQ C N) (T.setTop (mkF m pc Ls (w :: rest))) :=
  own_retO X hx hlk hret (own_nref hw) (Or.inr (Or.inr (Or.inr (Or.inr ⟨rfl, ht, hw⟩)))) hd hc hs eT hq
theorem own_retN (X : Stand p l e R s m args below meth c T locs cells slots) (hx : p.tables.exec = Jvm.exec) (hlk : meth.locks = false) {pc : Nat} {Ls : Array Slot} {z : Int32} {t : FieldType} {rest : List Value} (hret : meth.sig.returnType = some t) (ht : t = .boolean ∨ t = .byte ∨ t = .char ∨ t = .short)
    (hd : decode c.code pc = .ok (.ireturn, 1)) (hc : cells ≤ C) (hs : slots ≤ N) (eT : T.heap = h) (hq : QQ (some (.int (nar t z))) h locs) : own_Gl p e below (own_Post s QQ C N) (T.setTop (mkF m pc Ls (.int z :: rest))) := by
  obtain ⟨fs, hr, hrun, hended, hW, hsame⟩ := X.leave (v := some (.int (nar t z))) (fun h => by rw [hret] at h; cases h) hlk
  subst eT
  exact ⟨_, _, retN X hx hret ht hd hr, hrun, hended, _, _, rfl, hq, ⟨_, rfl⟩, hW, hsame.mono hc hs⟩
theorem own_retV (X : Stand p l e R s m args below meth c T locs cells slots) (hx : p.tables.exec = Jvm.exec) (hlk : meth.locks = false) {pc : Nat} {Ls : Array Slot} (hret : meth.sig.returnType = none)
    (hd : decode c.code pc = .ok (.return_, 1)) (hc : cells ≤ C) (hs : slots ≤ N) (eT : T.heap = h) (hq : QQ none h locs) : own_Gl p e below (own_Post s QQ C N) (T.setTop (mkF m pc Ls [])) := by
  obtain ⟨fs, hr, hrun, hended, hW, hsame⟩ := X.leave (v := none) (fun _ => rfl) hlk
  subst eT
  exact ⟨_, _, X.returnOut hx hret hd hr, hrun, hended, _, _, rfl, hq, ⟨_, rfl⟩, hW, hsame.mono hc hs⟩
theorem own_ext_refl (h : Heap) : Ext h h := ⟨Nat.le_refl _, fun _ _ q => q⟩
theorem own_ext_tr {h0 h h' : Heap} (A : Ext h0 h) (B : Ext h h') : Ext h0 h' := ⟨Nat.le_trans A.1 B.1, fun x c q => B.2 x c (A.2 x c q)⟩
theorem own_ext_keep {h0 h h' : Heap} {ws : List Addr} (A : Ext h0 h) (K : Keep h h' ws) (q : ∀ x ∈ ws, h0.size ≤ x) : Ext h0 h' := ⟨Nat.le_trans A.1 K.1, fun x c r => K.2.1 x c (A.2 x c r) fun z => absurd (Array.getElem?_eq_some_iff.mp r).1 (Nat.not_lt.mpr (q x z))⟩
theorem own_ext_wr {h0 h h' : Heap} {a : Addr} {sl : Nat} {v : Value} (A : Ext h0 h) (W : Wr h h' a sl v) (q : h0.size ≤ a) : Ext h0 h' := own_ext_keep A (Keep.of_wr W) (allS q all0)
theorem own_sta_keep {Z : State} {h h' : Heap} {ws : List Addr} {C n d : String} {v : Value} (F : Sta Z h C n d v) (K : Keep h h' ws) (q : ∀ x ∈ ws, ∀ cell : Cell, h[x]? = some cell → cell.vm.isStatics = false) : Sta Z h' C n d v := by
  obtain ⟨cf, i, k, f, st, cell, h1, h2, h3, h4, h5, h6, h7⟩ := F
  exact ⟨cf, i, k, f, st, cell, h1, h2, h3, h4, K.2.1 _ _ h5 (fun z => by rw [q _ z _ h5] at h6; cases h6), h6, h7⟩
end Own
section Words
variable {Z : State} {args : Array Value} {t u : Term} {a : Addr} {cl : Cell} {ty : FieldType}
theorem own_fldI {C n d : String} {k : Int32} (ht : t.eval args Z none [] Z = some (.ref a)) (h : (Cond.eq (Term.field t C n d) (Term.int k)).value args Z none Z [] = some true) : Fld Z Z.heap a C n d (.int k) := by
  refine Fld.start ?_
  have e := fld_at (C := C) (n := n) (dd := d) ht
  cases hv : Z.fieldOf? a C n d with
  | none => rw [hv] at e; simp [Cond.value, e] at h
  | some v => rw [hv] at e; have ek := Term.int_eval (args := args) (first := Z) (o := none) (idx := []) (s := Z) k; cases v <;> simp only [Cond.value, e, ek] at h <;> first | (cases h; done) | (simp at h; rw [h])
theorem own_fldL {C n d : String} {k : Int64} (ht : t.eval args Z none [] Z = some (.ref a)) (h : (Cond.eq (Term.field t C n d) (Term.long k)).value args Z none Z [] = some true) : Fld Z Z.heap a C n d (.long k) := by
  refine Fld.start ?_
  have e := fld_at (C := C) (n := n) (dd := d) ht
  cases hv : Z.fieldOf? a C n d with
  | none => rw [hv] at e; simp [Cond.value, e] at h
  | some v => rw [hv] at e; have ek : (Term.long k).eval args Z none [] Z = some (.long k) := rfl; cases v <;> simp only [Cond.value, e, ek] at h <;> first | (cases h; done) | (simp at h; rw [h])
theorem own_fldR {C n d : String} {b : Addr} (ht : t.eval args Z none [] Z = some (.ref a)) (h : (Term.field t C n d).eval args Z none [] Z = some (.ref b)) : Fld Z Z.heap a C n d (.ref b) := Fld.start ((fld_at ht).symm.trans h)
theorem own_len {n : Int32} (ht : t.eval args Z none [] Z = some (.ref a)) (A : Arr Z Z.heap a cl ty) (h : (Cond.eq (Term.length t) (Term.int n)).value args Z none Z [] = some true) : cl.slots.size < 2 ^ 31 ∧ cl.slots.size.toInt32 = n := by
  have ha := A.fin (Vm.Alike.refl _)
  have ek : (Term.int n).eval args Z none [] Z = some (.int n) := rfl
  by_cases hl : cl.slots.size < 2 ^ 31
  · have e := len_f ht ha hl
    simp only [Cond.value, e, ek] at h
    exact ⟨hl, by simpa using h⟩
  · exfalso
    have e : (Term.length t).eval args Z none [] Z = none := by simp [Term.eval, ht, ha, hl]
    simp [Cond.value, e] at h
theorem own_elemI {j k : Int32} (ht : t.eval args Z none [] Z = some (.ref a)) (A : Arr Z Z.heap a cl ty) (h : (Cond.eq (Term.elem t (Term.int j)) (Term.int k)).value args Z none Z [] = some true) : cl.slots[j.toNatClampNeg]? = some (.int k) := by
  have ek : (Term.int k).eval args Z none [] Z = some (.int k) := rfl
  cases hv : (Term.elem t (Term.int j)).eval args Z none [] Z with
  | none => simp [Cond.value, hv] at h
  | some v =>
    have q := (elem_in hv ht (Term.int_eval j) A.1).2
    rw [q]
    cases v <;> simp only [Cond.value, hv, ek] at h <;> first | (cases h; done) | (simp at h; rw [h])
theorem own_elemR {j : Int32} {b : Addr} (ht : t.eval args Z none [] Z = some (.ref a)) (A : Arr Z Z.heap a cl ty) (hu : u.eval args Z none [] Z = some (.ref b)) (h : (Cond.eq (Term.elem t (Term.int j)) u).value args Z none Z [] = some true) : cl.slots[j.toNatClampNeg]? = some (.ref b) := by
  cases hv : (Term.elem t (Term.int j)).eval args Z none [] Z with
  | none => simp [Cond.value, hv] at h
  | some v =>
    have q := (elem_in hv ht (Term.int_eval j) A.1).2
    rw [q]
    cases v <;> simp only [Cond.value, hv, hu] at h <;> first | (cases h; done) | (simp at h; rw [h])
end Words
def own_or (x y aI aO aU : Addr) : Addr := if x = aI ∨ y = aI then aI else if x = aO ∧ y = aO then aO else aU
def own_rank (x aI aO aU : Addr) : Int32 := if x = aO then 0 else if x = aU then 1 else if x = aI then 2 else -1
def own_max (x y : Int32) : Int32 := if x < y then y else x
theorem own_law {x y aI aO aU : Addr} (n1 : aI ≠ aO) (n2 : aI ≠ aU) (n3 : aO ≠ aU) (hx : x = aI ∨ x = aO ∨ x = aU) (hy : y = aI ∨ y = aO ∨ y = aU) : own_rank (own_or x y aI aO aU) aI aO aU = own_max (own_rank x aI aO aU) (own_rank y aI aO aU) := by
  rcases hx with rfl | rfl | rfl <;> rcases hy with rfl | rfl | rfl <;> simp [own_or, own_rank, own_max, n1, n2, n3, n1.symm, n2.symm, n3.symm] <;> decide
theorem own_vr {a b : Addr} (h : (Value.ref a) = Value.ref b) : a = b := Value.ref.inj h
theorem own_pn0 : plainName "com/example/crown1/crown1/value/MembershipOrPinLaw" = true := by first | (simp [plainName, overriddenIn]; done) | decide +kernel
theorem own_d_method_2_code_0 : decode method_2_code 0 = .ok (.iload_n 0, 1) := by decide +kernel
theorem own_d_method_2_code_1 : decode method_2_code 1 = .ok (.ldc 7, 2) := by decide +kernel
theorem own_d_method_2_code_3 : decode method_2_code 3 = .ok (.iand, 1) := by decide +kernel
theorem own_d_method_2_code_4 : decode method_2_code 4 = .ok (.iconst 3, 1) := by decide +kernel
theorem own_d_method_2_code_5 : decode method_2_code 5 = .ok (.irem, 1) := by decide +kernel
theorem own_d_method_2_code_6 : decode method_2_code 6 = .ok (.istore_n 1, 1) := by decide +kernel
theorem own_d_method_2_code_7 : decode method_2_code 7 = .ok (.iload_n 1, 1) := by decide +kernel
theorem own_d_method_2_code_8 : decode method_2_code 8 = .ok (.ifCond .ne 7, 3) := by decide +kernel
theorem own_d_method_2_code_11 : decode method_2_code 11 = .ok (.getstatic 8, 3) := by decide +kernel
theorem own_d_method_2_code_14 : decode method_2_code 14 = .ok (.areturn, 1) := by decide +kernel
theorem own_d_method_2_code_15 : decode method_2_code 15 = .ok (.iload_n 1, 1) := by decide +kernel
theorem own_d_method_2_code_16 : decode method_2_code 16 = .ok (.iconst 1, 1) := by decide +kernel
theorem own_d_method_2_code_17 : decode method_2_code 17 = .ok (.if_icmp .ne 7, 3) := by decide +kernel
theorem own_d_method_2_code_20 : decode method_2_code 20 = .ok (.getstatic 14, 3) := by decide +kernel
theorem own_d_method_2_code_23 : decode method_2_code 23 = .ok (.areturn, 1) := by decide +kernel
theorem own_d_method_2_code_24 : decode method_2_code 24 = .ok (.getstatic 17, 3) := by decide +kernel
theorem own_d_method_2_code_27 : decode method_2_code 27 = .ok (.areturn, 1) := by decide +kernel
theorem own_ef_pick (m : MethodId) (x0 : Int32) : entryFrame m #[(.int x0)] 2 = mkF m 0 #[.val (.int x0), .unset] [] := by first | (simp [entryFrame, mkF, argsToLocals, Value.category]; done) | rfl
def own_Q_pick (Z : State) (p1 : Int32) (aI aO aU : Addr) (h0 : Heap) (n0 : Nat) (v : Option Value) (h : Heap) (L : List Loc) : Prop := (∃ r, v = some (.ref r) ∧ (r = aI ∨ r = aO ∨ r = aU)) ∧ Fr n0 L ∧ h = h0
set_option maxRecDepth 65536 in
set_option maxHeartbeats 40000000 in
theorem own_rm_pick (l : Launch) (Z : State) (a0 : Array Value) (hw : ∀ d ∈ tables_1, d.before a0 Z = true) (ws : List Jvm.Cond) (p1 : Int32) (aI aO aU : Addr) (h0 : Heap) (n0 : Nat) (Z0 : n0 ≤ h0.size) (S_aI : Sta Z h0 "com/example/crown1/crown1/value/Membership" "IN" "Lcom/example/crown1/crown1/value/Membership;" (.ref aI)) (S_aO : Sta Z h0 "com/example/crown1/crown1/value/Membership" "OUT" "Lcom/example/crown1/crown1/value/Membership;" (.ref aO)) (S_aU : Sta Z h0 "com/example/crown1/crown1/value/Membership" "UNDECIDED" "Lcom/example/crown1/crown1/value/Membership;" (.ref aU)) :
    MetFree l (⟨"com/example/crown1/crown1/value/MembershipOrPinLaw", "pick", "(I)Lcom/example/crown1/crown1/value/Membership;"⟩ : MethodName) (head1 (Jvm.Cond.code (⟨"com/example/crown1/crown1/value/MembershipOrPinLaw", "pick", "(I)Lcom/example/crown1/crown1/value/Membership;"⟩ : MethodName) method_2_code 2 (some (.object "com/example/crown1/crown1/value/Membership")) :: ws) ({ frames := 0, cells := 0, slots := 0, locals := 0 } : Room)) (fun a U => a = #[(.int p1)] ∧ Z.Warmed39 U.vm ∧ U.heap = h0) (fun _ _ _ _ _ => True) (fun _ U o U' => ∃ v L, o = .returned v ∧ own_Q_pick Z p1 aI aO aU h0 n0 v U'.heap L ∧ FrameEnd U o U' L ({ frames := 0, cells := 0, slots := 0, locals := 0 } : Room).cells ({ frames := 0, cells := 0, slots := 0, locals := 0 } : Room).slots) := by
  refine MetFree.of_bodySF (plainFor_of_name own_pn0) hisR ?_
  intro p e s m args below meth c s₁ Bd hml0 hP hK
  obtain ⟨rfl, hZ, hh⟩ := hP
  have hx := Bd.exec
  have hby := Bd.bytes
  have hml : c.maxLocals = 2 := hml0
  have hown : s.vm.findClass "com/example/crown1/crown1/value/MembershipOrPinLaw" = some m.cls := findClass_of_methodNamed Bd.named
  have hnm := (name_of_methodNamed Bd.named Bd.method).1
  have X0 : Stand p l e ({ frames := 0, cells := 0, slots := 0, locals := 0 } : Room) s m #[(.int p1)] below meth c s₁ [] 0 0 := Stand.of_body Bd
  have e0 : s₁.heap = h0 := by rw [← hh, Bd.state]; rfl
  have N0 := Fr.nil n0
  show own_Gl p e below (own_Post s (own_Q_pick Z p1 aI aO aU h0 n0) ({ frames := 0, cells := 0, slots := 0, locals := 0 } : Room).cells ({ frames := 0, cells := 0, slots := 0, locals := 0 } : Room).slots) _
  refine own_st (fun t k => castTop (own_ef_pick m p1) k) ?_
  show own_Gl p e below _ (s₁.setTop (mkF m 0 #[.val (.int p1), .unset] []))
  refine own_st (fun t k => XS.iloadN X0.here hx rfl (hb hby own_d_method_2_code_0) rfl k) ?_
  show own_Gl p e below _ (s₁.setTop (mkF m 1 #[.val (.int p1), .unset] [(.int p1)]))
  refine own_st (fun t k => X0.ldcInt hx hown (mvT hZ (hw _ (List.mem_of_getElem? (i := 4) rfl))) (g := (mkF m 1 #[.val (.int p1), .unset] [(.int p1)])) rfl (hb hby own_d_method_2_code_1) _ k) ?_
  show own_Gl p e below _ (s₁.setTop (mkF m 3 #[.val (.int p1), .unset] [(.int (2147483647 : Int32)), (.int p1)]))
  refine own_st (fun t k => XS.iand X0.here hx rfl (hb hby own_d_method_2_code_3) rfl k) ?_
  show own_Gl p e below _ (s₁.setTop (mkF m 4 #[.val (.int p1), .unset] [(.int (p1 &&& (2147483647 : Int32)))]))
  refine own_st (fun t k => XS.iconst X0.here hx rfl (hb hby own_d_method_2_code_4) k) ?_
  show own_Gl p e below _ (s₁.setTop (mkF m 5 #[.val (.int p1), .unset] [(.int (3 : Int32)), (.int (p1 &&& (2147483647 : Int32)))]))
  refine own_st (fun t k => iremM X0 hx (g := (mkF m 5 #[.val (.int p1), .unset] [(.int (3 : Int32)), (.int (p1 &&& (2147483647 : Int32)))])) rfl (hb hby own_d_method_2_code_5) rfl (by decide) k) ?_
  show own_Gl p e below _ (s₁.setTop (mkF m 6 #[.val (.int p1), .unset] [(.int ((p1 &&& (2147483647 : Int32)) % (3 : Int32)))]))
  refine own_st (fun t k => XS.istoreN X0.here hx rfl (hb hby own_d_method_2_code_6) rfl (l' := #[.val (.int p1), .val (.int ((p1 &&& (2147483647 : Int32)) % (3 : Int32)))]) rfl k) ?_
  show own_Gl p e below _ (s₁.setTop (mkF m 7 #[.val (.int p1), .val (.int ((p1 &&& (2147483647 : Int32)) % (3 : Int32)))] []))
  refine own_st (fun t k => XS.iloadN X0.here hx rfl (hb hby own_d_method_2_code_7) rfl k) ?_
  show own_Gl p e below _ (s₁.setTop (mkF m 8 #[.val (.int p1), .val (.int ((p1 &&& (2147483647 : Int32)) % (3 : Int32)))] [(.int ((p1 &&& (2147483647 : Int32)) % (3 : Int32)))]))
  by_cases hc8_1 : ((p1 &&& (2147483647 : Int32)) % (3 : Int32)) = (0 : Int32)
  ·
    show own_Gl p e below _ (s₁.setTop (mkF m 8 #[.val (.int p1), .val (.int ((p1 &&& (2147483647 : Int32)) % (3 : Int32)))] [(.int ((p1 &&& (2147483647 : Int32)) % (3 : Int32)))]))
    refine own_st (fun t k => XS.ifNo X0.here hx rfl (hb hby own_d_method_2_code_8) rfl ((if0 _ _).trans (teq (hc8_1)).2) k) ?_
    show own_Gl p e below _ (s₁.setTop (mkF m 11 #[.val (.int p1), .val (.int ((p1 &&& (2147483647 : Int32)) % (3 : Int32)))] []))
    obtain ⟨T2, X2, e2, st2⟩ := getS2 X0 hx hZ hown (host := "") (Or.inl (hw _ (List.mem_of_getElem? (i := 5) rfl))) Via.refl e0 S_aI (g := (mkF m 11 #[.val (.int p1), .val (.int ((p1 &&& (2147483647 : Int32)) % (3 : Int32)))] [])) rfl (hb hby own_d_method_2_code_11)
    refine own_st st2 ?_
    show own_Gl p e below _ (T2.setTop (mkF m 14 #[.val (.int p1), .val (.int ((p1 &&& (2147483647 : Int32)) % (3 : Int32)))] [(.ref aI)]))
    exact own_retA X2 hx Bd.notSynchronized Bd.returns rfl rfl (hb hby own_d_method_2_code_14) (by decide) (by decide) e2 (⟨⟨_, rfl, Or.inl rfl⟩, N0, rfl⟩)
  ·
    show own_Gl p e below _ (s₁.setTop (mkF m 8 #[.val (.int p1), .val (.int ((p1 &&& (2147483647 : Int32)) % (3 : Int32)))] [(.int ((p1 &&& (2147483647 : Int32)) % (3 : Int32)))]))
    refine own_st (fun t k => XS.ifYes X0.here hx rfl (pc0 := 8) (pc' := 15) rfl (hb hby own_d_method_2_code_8) rfl ((if0 _ _).trans (feq (hc8_1)).2) (by decide) (by decide) k) ?_
    show own_Gl p e below _ (s₁.setTop (mkF m 15 #[.val (.int p1), .val (.int ((p1 &&& (2147483647 : Int32)) % (3 : Int32)))] []))
    refine own_st (fun t k => XS.iloadN X0.here hx rfl (hb hby own_d_method_2_code_15) rfl k) ?_
    show own_Gl p e below _ (s₁.setTop (mkF m 16 #[.val (.int p1), .val (.int ((p1 &&& (2147483647 : Int32)) % (3 : Int32)))] [(.int ((p1 &&& (2147483647 : Int32)) % (3 : Int32)))]))
    refine own_st (fun t k => XS.iconst X0.here hx rfl (hb hby own_d_method_2_code_16) k) ?_
    show own_Gl p e below _ (s₁.setTop (mkF m 17 #[.val (.int p1), .val (.int ((p1 &&& (2147483647 : Int32)) % (3 : Int32)))] [(.int (1 : Int32)), (.int ((p1 &&& (2147483647 : Int32)) % (3 : Int32)))]))
    by_cases hc17_3 : ((p1 &&& (2147483647 : Int32)) % (3 : Int32)) = (1 : Int32)
    ·
      show own_Gl p e below _ (s₁.setTop (mkF m 17 #[.val (.int p1), .val (.int ((p1 &&& (2147483647 : Int32)) % (3 : Int32)))] [(.int (1 : Int32)), (.int ((p1 &&& (2147483647 : Int32)) % (3 : Int32)))]))
      refine own_st (fun t k => XS.icmpNo X0.here hx rfl (hb hby own_d_method_2_code_17) rfl (teq (hc17_3)).2 k) ?_
      show own_Gl p e below _ (s₁.setTop (mkF m 20 #[.val (.int p1), .val (.int ((p1 &&& (2147483647 : Int32)) % (3 : Int32)))] []))
      obtain ⟨T4, X4, e4, st4⟩ := getS2 X0 hx hZ hown (host := "") (Or.inl (hw _ (List.mem_of_getElem? (i := 17) rfl))) Via.refl e0 S_aO (g := (mkF m 20 #[.val (.int p1), .val (.int ((p1 &&& (2147483647 : Int32)) % (3 : Int32)))] [])) rfl (hb hby own_d_method_2_code_20)
      refine own_st st4 ?_
      show own_Gl p e below _ (T4.setTop (mkF m 23 #[.val (.int p1), .val (.int ((p1 &&& (2147483647 : Int32)) % (3 : Int32)))] [(.ref aO)]))
      exact own_retA X4 hx Bd.notSynchronized Bd.returns rfl rfl (hb hby own_d_method_2_code_23) (by decide) (by decide) e4 (⟨⟨_, rfl, Or.inr (Or.inl rfl)⟩, N0, rfl⟩)
    ·
      show own_Gl p e below _ (s₁.setTop (mkF m 17 #[.val (.int p1), .val (.int ((p1 &&& (2147483647 : Int32)) % (3 : Int32)))] [(.int (1 : Int32)), (.int ((p1 &&& (2147483647 : Int32)) % (3 : Int32)))]))
      refine own_st (fun t k => XS.icmpYes X0.here hx rfl (pc0 := 17) (pc' := 24) rfl (hb hby own_d_method_2_code_17) rfl (feq (hc17_3)).2 (by decide) (by decide) k) ?_
      show own_Gl p e below _ (s₁.setTop (mkF m 24 #[.val (.int p1), .val (.int ((p1 &&& (2147483647 : Int32)) % (3 : Int32)))] []))
      obtain ⟨T5, X5, e5, st5⟩ := getS2 X0 hx hZ hown (host := "") (Or.inl (hw _ (List.mem_of_getElem? (i := 19) rfl))) Via.refl e0 S_aU (g := (mkF m 24 #[.val (.int p1), .val (.int ((p1 &&& (2147483647 : Int32)) % (3 : Int32)))] [])) rfl (hb hby own_d_method_2_code_24)
      refine own_st st5 ?_
      show own_Gl p e below _ (T5.setTop (mkF m 27 #[.val (.int p1), .val (.int ((p1 &&& (2147483647 : Int32)) % (3 : Int32)))] [(.ref aU)]))
      exact own_retA X5 hx Bd.notSynchronized Bd.returns rfl rfl (hb hby own_d_method_2_code_27) (by decide) (by decide) e5 (⟨⟨_, rfl, Or.inr (Or.inr rfl)⟩, N0, rfl⟩)
theorem own_pn1 : plainName "com/example/crown1/crown1/value/Membership" = true := by first | (simp [plainName, overriddenIn]; done) | decide +kernel
theorem own_d_prog_180_method_5_code_0 : decode prog_180_method_5_code 0 = .ok (.aload_n 0, 1) := by decide +kernel
theorem own_d_prog_180_method_5_code_1 : decode prog_180_method_5_code 1 = .ok (.getstatic 3, 3) := by decide +kernel
theorem own_d_prog_180_method_5_code_4 : decode prog_180_method_5_code 4 = .ok (.if_acmp .eq 10, 3) := by decide +kernel
theorem own_d_prog_180_method_5_code_7 : decode prog_180_method_5_code 7 = .ok (.aload_n 1, 1) := by decide +kernel
theorem own_d_prog_180_method_5_code_8 : decode prog_180_method_5_code 8 = .ok (.getstatic 3, 3) := by decide +kernel
theorem own_d_prog_180_method_5_code_11 : decode prog_180_method_5_code 11 = .ok (.if_acmp .ne 10, 3) := by decide +kernel
theorem own_d_prog_180_method_5_code_14 : decode prog_180_method_5_code 14 = .ok (.getstatic 3, 3) := by decide +kernel
theorem own_d_prog_180_method_5_code_17 : decode prog_180_method_5_code 17 = .ok (.astore_n 2, 1) := by decide +kernel
theorem own_d_prog_180_method_5_code_18 : decode prog_180_method_5_code 18 = .ok (.goto 28, 3) := by decide +kernel
theorem own_d_prog_180_method_5_code_21 : decode prog_180_method_5_code 21 = .ok (.aload_n 0, 1) := by decide +kernel
theorem own_d_prog_180_method_5_code_22 : decode prog_180_method_5_code 22 = .ok (.getstatic 7, 3) := by decide +kernel
theorem own_d_prog_180_method_5_code_25 : decode prog_180_method_5_code 25 = .ok (.if_acmp .ne 17, 3) := by decide +kernel
theorem own_d_prog_180_method_5_code_28 : decode prog_180_method_5_code 28 = .ok (.aload_n 1, 1) := by decide +kernel
theorem own_d_prog_180_method_5_code_29 : decode prog_180_method_5_code 29 = .ok (.getstatic 7, 3) := by decide +kernel
theorem own_d_prog_180_method_5_code_32 : decode prog_180_method_5_code 32 = .ok (.if_acmp .ne 10, 3) := by decide +kernel
theorem own_d_prog_180_method_5_code_35 : decode prog_180_method_5_code 35 = .ok (.getstatic 7, 3) := by decide +kernel
theorem own_d_prog_180_method_5_code_38 : decode prog_180_method_5_code 38 = .ok (.astore_n 2, 1) := by decide +kernel
theorem own_d_prog_180_method_5_code_39 : decode prog_180_method_5_code 39 = .ok (.goto 7, 3) := by decide +kernel
theorem own_d_prog_180_method_5_code_42 : decode prog_180_method_5_code 42 = .ok (.getstatic 10, 3) := by decide +kernel
theorem own_d_prog_180_method_5_code_45 : decode prog_180_method_5_code 45 = .ok (.astore_n 2, 1) := by decide +kernel
theorem own_d_prog_180_method_5_code_46 : decode prog_180_method_5_code 46 = .ok (.aload_n 2, 1) := by decide +kernel
theorem own_d_prog_180_method_5_code_47 : decode prog_180_method_5_code 47 = .ok (.areturn, 1) := by decide +kernel
theorem own_ef_or (m : MethodId) (x0 : Addr) (x1 : Addr) : entryFrame m #[(.ref x0), (.ref x1)] 3 = mkF m 0 #[.val (.ref x0), .val (.ref x1), .unset] [] := by first | (simp [entryFrame, mkF, argsToLocals, Value.category]; done) | rfl
def own_Q_or (Z : State) (x y : Addr) (aI aO aU : Addr) (h0 : Heap) (n0 : Nat) (v : Option Value) (h : Heap) (L : List Loc) : Prop := v = some (.ref (own_or x y aI aO aU)) ∧ Fr n0 L ∧ h = h0
set_option maxRecDepth 65536 in
set_option maxHeartbeats 40000000 in
theorem own_rm_or (l : Launch) (Z : State) (a0 : Array Value) (hw : ∀ d ∈ tables_1, d.before a0 Z = true) (ws : List Jvm.Cond) (x y : Addr) (aI aO aU : Addr) (h0 : Heap) (n0 : Nat) (Z0 : n0 ≤ h0.size) (S_aI : Sta Z h0 "com/example/crown1/crown1/value/Membership" "IN" "Lcom/example/crown1/crown1/value/Membership;" (.ref aI)) (S_aO : Sta Z h0 "com/example/crown1/crown1/value/Membership" "OUT" "Lcom/example/crown1/crown1/value/Membership;" (.ref aO)) (S_aU : Sta Z h0 "com/example/crown1/crown1/value/Membership" "UNDECIDED" "Lcom/example/crown1/crown1/value/Membership;" (.ref aU)) :
    MetFree l (⟨"com/example/crown1/crown1/value/Membership", "or", "(Lcom/example/crown1/crown1/value/Membership;)Lcom/example/crown1/crown1/value/Membership;"⟩ : MethodName) (head1 (Jvm.Cond.code (⟨"com/example/crown1/crown1/value/Membership", "or", "(Lcom/example/crown1/crown1/value/Membership;)Lcom/example/crown1/crown1/value/Membership;"⟩ : MethodName) prog_180_method_5_code 3 (some (.object "com/example/crown1/crown1/value/Membership")) :: ws) ({ frames := 0, cells := 0, slots := 0, locals := 0 } : Room)) (fun a U => a = #[(.ref x), (.ref y)] ∧ Z.Warmed39 U.vm ∧ U.heap = h0) (fun _ _ _ _ _ => True) (fun _ U o U' => ∃ v L, o = .returned v ∧ own_Q_or Z x y aI aO aU h0 n0 v U'.heap L ∧ FrameEnd U o U' L ({ frames := 0, cells := 0, slots := 0, locals := 0 } : Room).cells ({ frames := 0, cells := 0, slots := 0, locals := 0 } : Room).slots) := by
  refine MetFree.of_bodySF (plainFor_of_name own_pn1) hisR ?_
  intro p e s m args below meth c s₁ Bd hml0 hP hK
  obtain ⟨rfl, hZ, hh⟩ := hP
  have hx := Bd.exec
  have hby := Bd.bytes
  have hml : c.maxLocals = 3 := hml0
  have hown : s.vm.findClass "com/example/crown1/crown1/value/Membership" = some m.cls := findClass_of_methodNamed Bd.named
  have hnm := (name_of_methodNamed Bd.named Bd.method).1
  have X0 : Stand p l e ({ frames := 0, cells := 0, slots := 0, locals := 0 } : Room) s m #[(.ref x), (.ref y)] below meth c s₁ [] 0 0 := Stand.of_body Bd
  have e0 : s₁.heap = h0 := by rw [← hh, Bd.state]; rfl
  have N0 := Fr.nil n0
  show own_Gl p e below (own_Post s (own_Q_or Z x y aI aO aU h0 n0) ({ frames := 0, cells := 0, slots := 0, locals := 0 } : Room).cells ({ frames := 0, cells := 0, slots := 0, locals := 0 } : Room).slots) _
  refine own_st (fun t k => castTop (own_ef_or m x y) k) ?_
  show own_Gl p e below _ (s₁.setTop (mkF m 0 #[.val (.ref x), .val (.ref y), .unset] []))
  refine own_st (fun t k => XS.aloadN X0.here hx rfl (hb hby own_d_prog_180_method_5_code_0) rfl rfl k) ?_
  show own_Gl p e below _ (s₁.setTop (mkF m 1 #[.val (.ref x), .val (.ref y), .unset] [(.ref x)]))
  obtain ⟨T1, X1, e1, st1⟩ := getS2 X0 hx hZ hown (host := "") (Or.inl (hw _ (List.mem_of_getElem? (i := 13) rfl))) Via.refl e0 S_aI (g := (mkF m 1 #[.val (.ref x), .val (.ref y), .unset] [(.ref x)])) rfl (hb hby own_d_prog_180_method_5_code_1)
  refine own_st st1 ?_
  show own_Gl p e below _ (T1.setTop (mkF m 4 #[.val (.ref x), .val (.ref y), .unset] [(.ref aI), (.ref x)]))
  by_cases ha4_2 : x = aI
  ·
    show own_Gl p e below _ (T1.setTop (mkF m 4 #[.val (.ref x), .val (.ref y), .unset] [(.ref aI), (.ref x)]))
    refine own_st (fun t k => Jvm.RoadKit.acmp (g := (mkF m 4 #[.val (.ref x), .val (.ref y), .unset] [(.ref aI), (.ref x)])) X1 hx rfl rfl rfl (pc0 := 4) (pc' := 14) (same := true) rfl (hb hby own_d_prog_180_method_5_code_4) rfl (decide_eq_true (congrArg Value.ref ha4_2)) (by decide) (by decide) k) ?_
    show own_Gl p e below _ (T1.setTop (mkF m 14 #[.val (.ref x), .val (.ref y), .unset] []))
    obtain ⟨T3, X3, e3, st3⟩ := getS2 X1 hx hZ hown (host := "") (Or.inl (hw _ (List.mem_of_getElem? (i := 13) rfl))) Via.refl e1 S_aI (g := (mkF m 14 #[.val (.ref x), .val (.ref y), .unset] [])) rfl (hb hby own_d_prog_180_method_5_code_14)
    refine own_st st3 ?_
    show own_Gl p e below _ (T3.setTop (mkF m 17 #[.val (.ref x), .val (.ref y), .unset] [(.ref aI)]))
    refine own_st (fun t k => XS.astoreN X3.here hx rfl (hb hby own_d_prog_180_method_5_code_17) rfl rfl (l' := #[.val (.ref x), .val (.ref y), .val (.ref aI)]) rfl k) ?_
    show own_Gl p e below _ (T3.setTop (mkF m 18 #[.val (.ref x), .val (.ref y), .val (.ref aI)] []))
    refine own_st (fun t k => XS.goto X3.here hx rfl (pc0 := 18) (pc' := 46) rfl (hb hby own_d_prog_180_method_5_code_18) (by decide) (by decide) k) ?_
    show own_Gl p e below _ (T3.setTop (mkF m 46 #[.val (.ref x), .val (.ref y), .val (.ref aI)] []))
    refine own_st (fun t k => XS.aloadN X3.here hx rfl (hb hby own_d_prog_180_method_5_code_46) rfl rfl k) ?_
    show own_Gl p e below _ (T3.setTop (mkF m 47 #[.val (.ref x), .val (.ref y), .val (.ref aI)] [(.ref aI)]))
    exact own_retA X3 hx Bd.notSynchronized Bd.returns rfl rfl (hb hby own_d_prog_180_method_5_code_47) (by decide) (by decide) e3 (⟨by simp [own_or, eq_true ha4_2], N0, rfl⟩)
  ·
    show own_Gl p e below _ (T1.setTop (mkF m 4 #[.val (.ref x), .val (.ref y), .unset] [(.ref aI), (.ref x)]))
    refine own_st (fun t k => Jvm.RoadKit.acmp (g := (mkF m 4 #[.val (.ref x), .val (.ref y), .unset] [(.ref aI), (.ref x)])) X1 hx rfl rfl rfl (pc0 := 4) (pc' := 7) (same := false) rfl (hb hby own_d_prog_180_method_5_code_4) rfl (decide_eq_false (fun q => ha4_2 (Value.ref.inj q))) (by decide) (by decide) k) ?_
    show own_Gl p e below _ (T1.setTop (mkF m 7 #[.val (.ref x), .val (.ref y), .unset] []))
    refine own_st (fun t k => XS.aloadN X1.here hx rfl (hb hby own_d_prog_180_method_5_code_7) rfl rfl k) ?_
    show own_Gl p e below _ (T1.setTop (mkF m 8 #[.val (.ref x), .val (.ref y), .unset] [(.ref y)]))
    obtain ⟨T4, X4, e4, st4⟩ := getS2 X1 hx hZ hown (host := "") (Or.inl (hw _ (List.mem_of_getElem? (i := 13) rfl))) Via.refl e1 S_aI (g := (mkF m 8 #[.val (.ref x), .val (.ref y), .unset] [(.ref y)])) rfl (hb hby own_d_prog_180_method_5_code_8)
    refine own_st st4 ?_
    show own_Gl p e below _ (T4.setTop (mkF m 11 #[.val (.ref x), .val (.ref y), .unset] [(.ref aI), (.ref y)]))
    by_cases ha11_5 : y = aI
    ·
      show own_Gl p e below _ (T4.setTop (mkF m 11 #[.val (.ref x), .val (.ref y), .unset] [(.ref aI), (.ref y)]))
      refine own_st (fun t k => Jvm.RoadKit.acmp (g := (mkF m 11 #[.val (.ref x), .val (.ref y), .unset] [(.ref aI), (.ref y)])) X4 hx rfl rfl rfl (pc0 := 11) (pc' := 14) (same := true) rfl (hb hby own_d_prog_180_method_5_code_11) rfl (decide_eq_true (congrArg Value.ref ha11_5)) (by decide) (by decide) k) ?_
      show own_Gl p e below _ (T4.setTop (mkF m 14 #[.val (.ref x), .val (.ref y), .unset] []))
      obtain ⟨T6, X6, e6, st6⟩ := getS2 X4 hx hZ hown (host := "") (Or.inl (hw _ (List.mem_of_getElem? (i := 13) rfl))) Via.refl e4 S_aI (g := (mkF m 14 #[.val (.ref x), .val (.ref y), .unset] [])) rfl (hb hby own_d_prog_180_method_5_code_14)
      refine own_st st6 ?_
      show own_Gl p e below _ (T6.setTop (mkF m 17 #[.val (.ref x), .val (.ref y), .unset] [(.ref aI)]))
      refine own_st (fun t k => XS.astoreN X6.here hx rfl (hb hby own_d_prog_180_method_5_code_17) rfl rfl (l' := #[.val (.ref x), .val (.ref y), .val (.ref aI)]) rfl k) ?_
      show own_Gl p e below _ (T6.setTop (mkF m 18 #[.val (.ref x), .val (.ref y), .val (.ref aI)] []))
      refine own_st (fun t k => XS.goto X6.here hx rfl (pc0 := 18) (pc' := 46) rfl (hb hby own_d_prog_180_method_5_code_18) (by decide) (by decide) k) ?_
      show own_Gl p e below _ (T6.setTop (mkF m 46 #[.val (.ref x), .val (.ref y), .val (.ref aI)] []))
      refine own_st (fun t k => XS.aloadN X6.here hx rfl (hb hby own_d_prog_180_method_5_code_46) rfl rfl k) ?_
      show own_Gl p e below _ (T6.setTop (mkF m 47 #[.val (.ref x), .val (.ref y), .val (.ref aI)] [(.ref aI)]))
      exact own_retA X6 hx Bd.notSynchronized Bd.returns rfl rfl (hb hby own_d_prog_180_method_5_code_47) (by decide) (by decide) e6 (⟨by simp [own_or, eq_false ha4_2, eq_true ha11_5], N0, rfl⟩)
    ·
      show own_Gl p e below _ (T4.setTop (mkF m 11 #[.val (.ref x), .val (.ref y), .unset] [(.ref aI), (.ref y)]))
      refine own_st (fun t k => Jvm.RoadKit.acmp (g := (mkF m 11 #[.val (.ref x), .val (.ref y), .unset] [(.ref aI), (.ref y)])) X4 hx rfl rfl rfl (pc0 := 11) (pc' := 21) (same := false) rfl (hb hby own_d_prog_180_method_5_code_11) rfl (decide_eq_false (fun q => ha11_5 (Value.ref.inj q))) (by decide) (by decide) k) ?_
      show own_Gl p e below _ (T4.setTop (mkF m 21 #[.val (.ref x), .val (.ref y), .unset] []))
      refine own_st (fun t k => XS.aloadN X4.here hx rfl (hb hby own_d_prog_180_method_5_code_21) rfl rfl k) ?_
      show own_Gl p e below _ (T4.setTop (mkF m 22 #[.val (.ref x), .val (.ref y), .unset] [(.ref x)]))
      obtain ⟨T7, X7, e7, st7⟩ := getS2 X4 hx hZ hown (host := "") (Or.inl (hw _ (List.mem_of_getElem? (i := 25) rfl))) Via.refl e4 S_aO (g := (mkF m 22 #[.val (.ref x), .val (.ref y), .unset] [(.ref x)])) rfl (hb hby own_d_prog_180_method_5_code_22)
      refine own_st st7 ?_
      show own_Gl p e below _ (T7.setTop (mkF m 25 #[.val (.ref x), .val (.ref y), .unset] [(.ref aO), (.ref x)]))
      by_cases ha25_8 : x = aO
      ·
        show own_Gl p e below _ (T7.setTop (mkF m 25 #[.val (.ref x), .val (.ref y), .unset] [(.ref aO), (.ref x)]))
        refine own_st (fun t k => Jvm.RoadKit.acmp (g := (mkF m 25 #[.val (.ref x), .val (.ref y), .unset] [(.ref aO), (.ref x)])) X7 hx rfl rfl rfl (pc0 := 25) (pc' := 28) (same := true) rfl (hb hby own_d_prog_180_method_5_code_25) rfl (decide_eq_true (congrArg Value.ref ha25_8)) (by decide) (by decide) k) ?_
        show own_Gl p e below _ (T7.setTop (mkF m 28 #[.val (.ref x), .val (.ref y), .unset] []))
        refine own_st (fun t k => XS.aloadN X7.here hx rfl (hb hby own_d_prog_180_method_5_code_28) rfl rfl k) ?_
        show own_Gl p e below _ (T7.setTop (mkF m 29 #[.val (.ref x), .val (.ref y), .unset] [(.ref y)]))
        obtain ⟨T9, X9, e9, st9⟩ := getS2 X7 hx hZ hown (host := "") (Or.inl (hw _ (List.mem_of_getElem? (i := 25) rfl))) Via.refl e7 S_aO (g := (mkF m 29 #[.val (.ref x), .val (.ref y), .unset] [(.ref y)])) rfl (hb hby own_d_prog_180_method_5_code_29)
        refine own_st st9 ?_
        show own_Gl p e below _ (T9.setTop (mkF m 32 #[.val (.ref x), .val (.ref y), .unset] [(.ref aO), (.ref y)]))
        by_cases ha32_10 : y = aO
        ·
          show own_Gl p e below _ (T9.setTop (mkF m 32 #[.val (.ref x), .val (.ref y), .unset] [(.ref aO), (.ref y)]))
          refine own_st (fun t k => Jvm.RoadKit.acmp (g := (mkF m 32 #[.val (.ref x), .val (.ref y), .unset] [(.ref aO), (.ref y)])) X9 hx rfl rfl rfl (pc0 := 32) (pc' := 35) (same := true) rfl (hb hby own_d_prog_180_method_5_code_32) rfl (decide_eq_true (congrArg Value.ref ha32_10)) (by decide) (by decide) k) ?_
          show own_Gl p e below _ (T9.setTop (mkF m 35 #[.val (.ref x), .val (.ref y), .unset] []))
          obtain ⟨T11, X11, e11, st11⟩ := getS2 X9 hx hZ hown (host := "") (Or.inl (hw _ (List.mem_of_getElem? (i := 25) rfl))) Via.refl e9 S_aO (g := (mkF m 35 #[.val (.ref x), .val (.ref y), .unset] [])) rfl (hb hby own_d_prog_180_method_5_code_35)
          refine own_st st11 ?_
          show own_Gl p e below _ (T11.setTop (mkF m 38 #[.val (.ref x), .val (.ref y), .unset] [(.ref aO)]))
          refine own_st (fun t k => XS.astoreN X11.here hx rfl (hb hby own_d_prog_180_method_5_code_38) rfl rfl (l' := #[.val (.ref x), .val (.ref y), .val (.ref aO)]) rfl k) ?_
          show own_Gl p e below _ (T11.setTop (mkF m 39 #[.val (.ref x), .val (.ref y), .val (.ref aO)] []))
          refine own_st (fun t k => XS.goto X11.here hx rfl (pc0 := 39) (pc' := 46) rfl (hb hby own_d_prog_180_method_5_code_39) (by decide) (by decide) k) ?_
          show own_Gl p e below _ (T11.setTop (mkF m 46 #[.val (.ref x), .val (.ref y), .val (.ref aO)] []))
          refine own_st (fun t k => XS.aloadN X11.here hx rfl (hb hby own_d_prog_180_method_5_code_46) rfl rfl k) ?_
          show own_Gl p e below _ (T11.setTop (mkF m 47 #[.val (.ref x), .val (.ref y), .val (.ref aO)] [(.ref aO)]))
          exact own_retA X11 hx Bd.notSynchronized Bd.returns rfl rfl (hb hby own_d_prog_180_method_5_code_47) (by decide) (by decide) e11 (⟨by simp [own_or, eq_false ha4_2, eq_false ha11_5, eq_true ha25_8, eq_true ha32_10], N0, rfl⟩)
        ·
          show own_Gl p e below _ (T9.setTop (mkF m 32 #[.val (.ref x), .val (.ref y), .unset] [(.ref aO), (.ref y)]))
          refine own_st (fun t k => Jvm.RoadKit.acmp (g := (mkF m 32 #[.val (.ref x), .val (.ref y), .unset] [(.ref aO), (.ref y)])) X9 hx rfl rfl rfl (pc0 := 32) (pc' := 42) (same := false) rfl (hb hby own_d_prog_180_method_5_code_32) rfl (decide_eq_false (fun q => ha32_10 (Value.ref.inj q))) (by decide) (by decide) k) ?_
          show own_Gl p e below _ (T9.setTop (mkF m 42 #[.val (.ref x), .val (.ref y), .unset] []))
          obtain ⟨T12, X12, e12, st12⟩ := getS2 X9 hx hZ hown (host := "") (Or.inl (hw _ (List.mem_of_getElem? (i := 26) rfl))) Via.refl e9 S_aU (g := (mkF m 42 #[.val (.ref x), .val (.ref y), .unset] [])) rfl (hb hby own_d_prog_180_method_5_code_42)
          refine own_st st12 ?_
          show own_Gl p e below _ (T12.setTop (mkF m 45 #[.val (.ref x), .val (.ref y), .unset] [(.ref aU)]))
          refine own_st (fun t k => XS.astoreN X12.here hx rfl (hb hby own_d_prog_180_method_5_code_45) rfl rfl (l' := #[.val (.ref x), .val (.ref y), .val (.ref aU)]) rfl k) ?_
          show own_Gl p e below _ (T12.setTop (mkF m 46 #[.val (.ref x), .val (.ref y), .val (.ref aU)] []))
          refine own_st (fun t k => XS.aloadN X12.here hx rfl (hb hby own_d_prog_180_method_5_code_46) rfl rfl k) ?_
          show own_Gl p e below _ (T12.setTop (mkF m 47 #[.val (.ref x), .val (.ref y), .val (.ref aU)] [(.ref aU)]))
          exact own_retA X12 hx Bd.notSynchronized Bd.returns rfl rfl (hb hby own_d_prog_180_method_5_code_47) (by decide) (by decide) e12 (⟨by simp [own_or, eq_false ha4_2, eq_false ha11_5, eq_true ha25_8, eq_false ha32_10], N0, rfl⟩)
      ·
        show own_Gl p e below _ (T7.setTop (mkF m 25 #[.val (.ref x), .val (.ref y), .unset] [(.ref aO), (.ref x)]))
        refine own_st (fun t k => Jvm.RoadKit.acmp (g := (mkF m 25 #[.val (.ref x), .val (.ref y), .unset] [(.ref aO), (.ref x)])) X7 hx rfl rfl rfl (pc0 := 25) (pc' := 42) (same := false) rfl (hb hby own_d_prog_180_method_5_code_25) rfl (decide_eq_false (fun q => ha25_8 (Value.ref.inj q))) (by decide) (by decide) k) ?_
        show own_Gl p e below _ (T7.setTop (mkF m 42 #[.val (.ref x), .val (.ref y), .unset] []))
        obtain ⟨T13, X13, e13, st13⟩ := getS2 X7 hx hZ hown (host := "") (Or.inl (hw _ (List.mem_of_getElem? (i := 26) rfl))) Via.refl e7 S_aU (g := (mkF m 42 #[.val (.ref x), .val (.ref y), .unset] [])) rfl (hb hby own_d_prog_180_method_5_code_42)
        refine own_st st13 ?_
        show own_Gl p e below _ (T13.setTop (mkF m 45 #[.val (.ref x), .val (.ref y), .unset] [(.ref aU)]))
        refine own_st (fun t k => XS.astoreN X13.here hx rfl (hb hby own_d_prog_180_method_5_code_45) rfl rfl (l' := #[.val (.ref x), .val (.ref y), .val (.ref aU)]) rfl k) ?_
        show own_Gl p e below _ (T13.setTop (mkF m 46 #[.val (.ref x), .val (.ref y), .val (.ref aU)] []))
        refine own_st (fun t k => XS.aloadN X13.here hx rfl (hb hby own_d_prog_180_method_5_code_46) rfl rfl k) ?_
        show own_Gl p e below _ (T13.setTop (mkF m 47 #[.val (.ref x), .val (.ref y), .val (.ref aU)] [(.ref aU)]))
        exact own_retA X13 hx Bd.notSynchronized Bd.returns rfl rfl (hb hby own_d_prog_180_method_5_code_47) (by decide) (by decide) e13 (⟨by simp [own_or, eq_false ha4_2, eq_false ha11_5, eq_false ha25_8], N0, rfl⟩)
theorem own_d_method_3_code_0 : decode method_3_code 0 = .ok (.aload_n 0, 1) := by decide +kernel
theorem own_d_method_3_code_1 : decode method_3_code 1 = .ok (.getstatic 14, 3) := by decide +kernel
theorem own_d_method_3_code_4 : decode method_3_code 4 = .ok (.if_acmp .ne 5, 3) := by decide +kernel
theorem own_d_method_3_code_7 : decode method_3_code 7 = .ok (.iconst 0, 1) := by decide +kernel
theorem own_d_method_3_code_8 : decode method_3_code 8 = .ok (.ireturn, 1) := by decide +kernel
theorem own_d_method_3_code_9 : decode method_3_code 9 = .ok (.aload_n 0, 1) := by decide +kernel
theorem own_d_method_3_code_10 : decode method_3_code 10 = .ok (.getstatic 17, 3) := by decide +kernel
theorem own_d_method_3_code_13 : decode method_3_code 13 = .ok (.if_acmp .ne 5, 3) := by decide +kernel
theorem own_d_method_3_code_16 : decode method_3_code 16 = .ok (.iconst 1, 1) := by decide +kernel
theorem own_d_method_3_code_17 : decode method_3_code 17 = .ok (.ireturn, 1) := by decide +kernel
theorem own_d_method_3_code_18 : decode method_3_code 18 = .ok (.aload_n 0, 1) := by decide +kernel
theorem own_d_method_3_code_19 : decode method_3_code 19 = .ok (.getstatic 8, 3) := by decide +kernel
theorem own_d_method_3_code_22 : decode method_3_code 22 = .ok (.if_acmp .ne 5, 3) := by decide +kernel
theorem own_d_method_3_code_25 : decode method_3_code 25 = .ok (.iconst 2, 1) := by decide +kernel
theorem own_d_method_3_code_26 : decode method_3_code 26 = .ok (.ireturn, 1) := by decide +kernel
theorem own_d_method_3_code_27 : decode method_3_code 27 = .ok (.iconst (-1), 1) := by decide +kernel
theorem own_d_method_3_code_28 : decode method_3_code 28 = .ok (.ireturn, 1) := by decide +kernel
theorem own_ef_rank (m : MethodId) (x0 : Addr) : entryFrame m #[(.ref x0)] 1 = mkF m 0 #[.val (.ref x0)] [] := by first | (simp [entryFrame, mkF, argsToLocals, Value.category]; done) | rfl
def own_Q_rank (Z : State) (x : Addr) (aI aO aU : Addr) (h0 : Heap) (n0 : Nat) (v : Option Value) (h : Heap) (L : List Loc) : Prop := v = some (.int (own_rank x aI aO aU)) ∧ Fr n0 L ∧ h = h0
set_option maxRecDepth 65536 in
set_option maxHeartbeats 40000000 in
theorem own_rm_rank (l : Launch) (Z : State) (a0 : Array Value) (hw : ∀ d ∈ tables_1, d.before a0 Z = true) (ws : List Jvm.Cond) (x : Addr) (aI aO aU : Addr) (h0 : Heap) (n0 : Nat) (Z0 : n0 ≤ h0.size) (S_aI : Sta Z h0 "com/example/crown1/crown1/value/Membership" "IN" "Lcom/example/crown1/crown1/value/Membership;" (.ref aI)) (S_aO : Sta Z h0 "com/example/crown1/crown1/value/Membership" "OUT" "Lcom/example/crown1/crown1/value/Membership;" (.ref aO)) (S_aU : Sta Z h0 "com/example/crown1/crown1/value/Membership" "UNDECIDED" "Lcom/example/crown1/crown1/value/Membership;" (.ref aU)) :
    MetFree l (⟨"com/example/crown1/crown1/value/MembershipOrPinLaw", "rank", "(Lcom/example/crown1/crown1/value/Membership;)I"⟩ : MethodName) (head1 (Jvm.Cond.code (⟨"com/example/crown1/crown1/value/MembershipOrPinLaw", "rank", "(Lcom/example/crown1/crown1/value/Membership;)I"⟩ : MethodName) method_3_code 1 (some .int) :: ws) ({ frames := 0, cells := 0, slots := 0, locals := 0 } : Room)) (fun a U => a = #[(.ref x)] ∧ Z.Warmed39 U.vm ∧ U.heap = h0) (fun _ _ _ _ _ => True) (fun _ U o U' => ∃ v L, o = .returned v ∧ own_Q_rank Z x aI aO aU h0 n0 v U'.heap L ∧ FrameEnd U o U' L ({ frames := 0, cells := 0, slots := 0, locals := 0 } : Room).cells ({ frames := 0, cells := 0, slots := 0, locals := 0 } : Room).slots) := by
  refine MetFree.of_bodySF (plainFor_of_name own_pn0) hisR ?_
  intro p e s m args below meth c s₁ Bd hml0 hP hK
  obtain ⟨rfl, hZ, hh⟩ := hP
  have hx := Bd.exec
  have hby := Bd.bytes
  have hml : c.maxLocals = 1 := hml0
  have hown : s.vm.findClass "com/example/crown1/crown1/value/MembershipOrPinLaw" = some m.cls := findClass_of_methodNamed Bd.named
  have hnm := (name_of_methodNamed Bd.named Bd.method).1
  have X0 : Stand p l e ({ frames := 0, cells := 0, slots := 0, locals := 0 } : Room) s m #[(.ref x)] below meth c s₁ [] 0 0 := Stand.of_body Bd
  have e0 : s₁.heap = h0 := by rw [← hh, Bd.state]; rfl
  have N0 := Fr.nil n0
  show own_Gl p e below (own_Post s (own_Q_rank Z x aI aO aU h0 n0) ({ frames := 0, cells := 0, slots := 0, locals := 0 } : Room).cells ({ frames := 0, cells := 0, slots := 0, locals := 0 } : Room).slots) _
  refine own_st (fun t k => castTop (own_ef_rank m x) k) ?_
  show own_Gl p e below _ (s₁.setTop (mkF m 0 #[.val (.ref x)] []))
  refine own_st (fun t k => XS.aloadN X0.here hx rfl (hb hby own_d_method_3_code_0) rfl rfl k) ?_
  show own_Gl p e below _ (s₁.setTop (mkF m 1 #[.val (.ref x)] [(.ref x)]))
  obtain ⟨T1, X1, e1, st1⟩ := getS2 X0 hx hZ hown (host := "") (Or.inl (hw _ (List.mem_of_getElem? (i := 17) rfl))) Via.refl e0 S_aO (g := (mkF m 1 #[.val (.ref x)] [(.ref x)])) rfl (hb hby own_d_method_3_code_1)
  refine own_st st1 ?_
  show own_Gl p e below _ (T1.setTop (mkF m 4 #[.val (.ref x)] [(.ref aO), (.ref x)]))
  by_cases ha4_2 : x = aO
  ·
    show own_Gl p e below _ (T1.setTop (mkF m 4 #[.val (.ref x)] [(.ref aO), (.ref x)]))
    refine own_st (fun t k => Jvm.RoadKit.acmp (g := (mkF m 4 #[.val (.ref x)] [(.ref aO), (.ref x)])) X1 hx rfl rfl rfl (pc0 := 4) (pc' := 7) (same := true) rfl (hb hby own_d_method_3_code_4) rfl (decide_eq_true (congrArg Value.ref ha4_2)) (by decide) (by decide) k) ?_
    show own_Gl p e below _ (T1.setTop (mkF m 7 #[.val (.ref x)] []))
    refine own_st (fun t k => XS.iconst X1.here hx rfl (hb hby own_d_method_3_code_7) k) ?_
    show own_Gl p e below _ (T1.setTop (mkF m 8 #[.val (.ref x)] [(.int (0 : Int32))]))
    exact own_retI X1 hx Bd.notSynchronized Bd.returns (hb hby own_d_method_3_code_8) (by decide) (by decide) e1 (⟨by simp [own_rank, eq_true ha4_2], N0, rfl⟩)
  ·
    show own_Gl p e below _ (T1.setTop (mkF m 4 #[.val (.ref x)] [(.ref aO), (.ref x)]))
    refine own_st (fun t k => Jvm.RoadKit.acmp (g := (mkF m 4 #[.val (.ref x)] [(.ref aO), (.ref x)])) X1 hx rfl rfl rfl (pc0 := 4) (pc' := 9) (same := false) rfl (hb hby own_d_method_3_code_4) rfl (decide_eq_false (fun q => ha4_2 (Value.ref.inj q))) (by decide) (by decide) k) ?_
    show own_Gl p e below _ (T1.setTop (mkF m 9 #[.val (.ref x)] []))
    refine own_st (fun t k => XS.aloadN X1.here hx rfl (hb hby own_d_method_3_code_9) rfl rfl k) ?_
    show own_Gl p e below _ (T1.setTop (mkF m 10 #[.val (.ref x)] [(.ref x)]))
    obtain ⟨T3, X3, e3, st3⟩ := getS2 X1 hx hZ hown (host := "") (Or.inl (hw _ (List.mem_of_getElem? (i := 19) rfl))) Via.refl e1 S_aU (g := (mkF m 10 #[.val (.ref x)] [(.ref x)])) rfl (hb hby own_d_method_3_code_10)
    refine own_st st3 ?_
    show own_Gl p e below _ (T3.setTop (mkF m 13 #[.val (.ref x)] [(.ref aU), (.ref x)]))
    by_cases ha13_4 : x = aU
    ·
      show own_Gl p e below _ (T3.setTop (mkF m 13 #[.val (.ref x)] [(.ref aU), (.ref x)]))
      refine own_st (fun t k => Jvm.RoadKit.acmp (g := (mkF m 13 #[.val (.ref x)] [(.ref aU), (.ref x)])) X3 hx rfl rfl rfl (pc0 := 13) (pc' := 16) (same := true) rfl (hb hby own_d_method_3_code_13) rfl (decide_eq_true (congrArg Value.ref ha13_4)) (by decide) (by decide) k) ?_
      show own_Gl p e below _ (T3.setTop (mkF m 16 #[.val (.ref x)] []))
      refine own_st (fun t k => XS.iconst X3.here hx rfl (hb hby own_d_method_3_code_16) k) ?_
      show own_Gl p e below _ (T3.setTop (mkF m 17 #[.val (.ref x)] [(.int (1 : Int32))]))
      exact own_retI X3 hx Bd.notSynchronized Bd.returns (hb hby own_d_method_3_code_17) (by decide) (by decide) e3 (⟨by simp [own_rank, eq_false ha4_2, eq_true ha13_4], N0, rfl⟩)
    ·
      show own_Gl p e below _ (T3.setTop (mkF m 13 #[.val (.ref x)] [(.ref aU), (.ref x)]))
      refine own_st (fun t k => Jvm.RoadKit.acmp (g := (mkF m 13 #[.val (.ref x)] [(.ref aU), (.ref x)])) X3 hx rfl rfl rfl (pc0 := 13) (pc' := 18) (same := false) rfl (hb hby own_d_method_3_code_13) rfl (decide_eq_false (fun q => ha13_4 (Value.ref.inj q))) (by decide) (by decide) k) ?_
      show own_Gl p e below _ (T3.setTop (mkF m 18 #[.val (.ref x)] []))
      refine own_st (fun t k => XS.aloadN X3.here hx rfl (hb hby own_d_method_3_code_18) rfl rfl k) ?_
      show own_Gl p e below _ (T3.setTop (mkF m 19 #[.val (.ref x)] [(.ref x)]))
      obtain ⟨T5, X5, e5, st5⟩ := getS2 X3 hx hZ hown (host := "") (Or.inl (hw _ (List.mem_of_getElem? (i := 5) rfl))) Via.refl e3 S_aI (g := (mkF m 19 #[.val (.ref x)] [(.ref x)])) rfl (hb hby own_d_method_3_code_19)
      refine own_st st5 ?_
      show own_Gl p e below _ (T5.setTop (mkF m 22 #[.val (.ref x)] [(.ref aI), (.ref x)]))
      by_cases ha22_6 : x = aI
      ·
        show own_Gl p e below _ (T5.setTop (mkF m 22 #[.val (.ref x)] [(.ref aI), (.ref x)]))
        refine own_st (fun t k => Jvm.RoadKit.acmp (g := (mkF m 22 #[.val (.ref x)] [(.ref aI), (.ref x)])) X5 hx rfl rfl rfl (pc0 := 22) (pc' := 25) (same := true) rfl (hb hby own_d_method_3_code_22) rfl (decide_eq_true (congrArg Value.ref ha22_6)) (by decide) (by decide) k) ?_
        show own_Gl p e below _ (T5.setTop (mkF m 25 #[.val (.ref x)] []))
        refine own_st (fun t k => XS.iconst X5.here hx rfl (hb hby own_d_method_3_code_25) k) ?_
        show own_Gl p e below _ (T5.setTop (mkF m 26 #[.val (.ref x)] [(.int (2 : Int32))]))
        exact own_retI X5 hx Bd.notSynchronized Bd.returns (hb hby own_d_method_3_code_26) (by decide) (by decide) e5 (⟨by simp [own_rank, eq_false ha4_2, eq_false ha13_4, eq_true ha22_6], N0, rfl⟩)
      ·
        show own_Gl p e below _ (T5.setTop (mkF m 22 #[.val (.ref x)] [(.ref aI), (.ref x)]))
        refine own_st (fun t k => Jvm.RoadKit.acmp (g := (mkF m 22 #[.val (.ref x)] [(.ref aI), (.ref x)])) X5 hx rfl rfl rfl (pc0 := 22) (pc' := 27) (same := false) rfl (hb hby own_d_method_3_code_22) rfl (decide_eq_false (fun q => ha22_6 (Value.ref.inj q))) (by decide) (by decide) k) ?_
        show own_Gl p e below _ (T5.setTop (mkF m 27 #[.val (.ref x)] []))
        refine own_st (fun t k => XS.iconst X5.here hx rfl (hb hby own_d_method_3_code_27) k) ?_
        show own_Gl p e below _ (T5.setTop (mkF m 28 #[.val (.ref x)] [(.int (-1 : Int32))]))
        exact own_retI X5 hx Bd.notSynchronized Bd.returns (hb hby own_d_method_3_code_28) (by decide) (by decide) e5 (⟨by simp [own_rank, eq_false ha4_2, eq_false ha13_4, eq_false ha22_6], N0, rfl⟩)
theorem own_d_jdk_29_method_65_code_0 : decode jdk_29_method_65_code 0 = .ok (.iload_n 0, 1) := by decide +kernel
theorem own_d_jdk_29_method_65_code_1 : decode jdk_29_method_65_code 1 = .ok (.iload_n 1, 1) := by decide +kernel
theorem own_d_jdk_29_method_65_code_2 : decode jdk_29_method_65_code 2 = .ok (.if_icmp .lt 7, 3) := by decide +kernel
theorem own_d_jdk_29_method_65_code_5 : decode jdk_29_method_65_code 5 = .ok (.iload_n 0, 1) := by decide +kernel
theorem own_d_jdk_29_method_65_code_6 : decode jdk_29_method_65_code 6 = .ok (.goto 4, 3) := by decide +kernel
theorem own_d_jdk_29_method_65_code_9 : decode jdk_29_method_65_code 9 = .ok (.iload_n 1, 1) := by decide +kernel
theorem own_d_jdk_29_method_65_code_10 : decode jdk_29_method_65_code 10 = .ok (.ireturn, 1) := by decide +kernel
theorem own_ef_max (m : MethodId) (x0 : Int32) (x1 : Int32) : entryFrame m #[(.int x0), (.int x1)] 2 = mkF m 0 #[.val (.int x0), .val (.int x1)] [] := by first | (simp [entryFrame, mkF, argsToLocals, Value.category]; done) | rfl
def own_Q_max (Z : State) (p1 p2 : Int32) (h0 : Heap) (n0 : Nat) (v : Option Value) (h : Heap) (L : List Loc) : Prop := v = some (.int (own_max p1 p2)) ∧ Fr n0 L ∧ h = h0
set_option maxRecDepth 65536 in
set_option maxHeartbeats 40000000 in
theorem own_rm_max (l : Launch) (Z : State) (a0 : Array Value) (hw : ∀ d ∈ tables_1, d.before a0 Z = true) (ws : List Jvm.Cond) (p1 p2 : Int32) (h0 : Heap) (n0 : Nat) (Z0 : n0 ≤ h0.size)  :
    MetFree l (⟨"java/lang/Math", "max", "(II)I"⟩ : MethodName) (head1 (Jvm.Cond.code (⟨"java/lang/Math", "max", "(II)I"⟩ : MethodName) jdk_29_method_65_code 2 (some .int) :: ws) ({ frames := 0, cells := 0, slots := 0, locals := 0 } : Room)) (fun a U => a = #[(.int p1), (.int p2)] ∧ Z.Warmed39 U.vm ∧ U.heap = h0) (fun _ _ _ _ _ => True) (fun _ U o U' => ∃ v L, o = .returned v ∧ own_Q_max Z p1 p2 h0 n0 v U'.heap L ∧ FrameEnd U o U' L ({ frames := 0, cells := 0, slots := 0, locals := 0 } : Room).cells ({ frames := 0, cells := 0, slots := 0, locals := 0 } : Room).slots) := by
  refine MetFree.of_bodySF (Jvm.Free.JP.mathPlain rfl (by decide +kernel)) hisR ?_
  intro p e s m args below meth c s₁ Bd hml0 hP hK
  obtain ⟨rfl, hZ, hh⟩ := hP
  have hx := Bd.exec
  have hby := Bd.bytes
  have hml : c.maxLocals = 2 := hml0
  have hown : s.vm.findClass "java/lang/Math" = some m.cls := findClass_of_methodNamed Bd.named
  have hnm := (name_of_methodNamed Bd.named Bd.method).1
  have X0 : Stand p l e ({ frames := 0, cells := 0, slots := 0, locals := 0 } : Room) s m #[(.int p1), (.int p2)] below meth c s₁ [] 0 0 := Stand.of_body Bd
  have e0 : s₁.heap = h0 := by rw [← hh, Bd.state]; rfl
  have N0 := Fr.nil n0
  show own_Gl p e below (own_Post s (own_Q_max Z p1 p2 h0 n0) ({ frames := 0, cells := 0, slots := 0, locals := 0 } : Room).cells ({ frames := 0, cells := 0, slots := 0, locals := 0 } : Room).slots) _
  refine own_st (fun t k => castTop (own_ef_max m p1 p2) k) ?_
  show own_Gl p e below _ (s₁.setTop (mkF m 0 #[.val (.int p1), .val (.int p2)] []))
  refine own_st (fun t k => XS.iloadN X0.here hx rfl (hb hby own_d_jdk_29_method_65_code_0) rfl k) ?_
  show own_Gl p e below _ (s₁.setTop (mkF m 1 #[.val (.int p1), .val (.int p2)] [(.int p1)]))
  refine own_st (fun t k => XS.iloadN X0.here hx rfl (hb hby own_d_jdk_29_method_65_code_1) rfl k) ?_
  show own_Gl p e below _ (s₁.setTop (mkF m 2 #[.val (.int p1), .val (.int p2)] [(.int p2), (.int p1)]))
  by_cases hc2_1 : p1 < p2
  ·
    show own_Gl p e below _ (s₁.setTop (mkF m 2 #[.val (.int p1), .val (.int p2)] [(.int p2), (.int p1)]))
    refine own_st (fun t k => XS.icmpYes X0.here hx rfl (pc0 := 2) (pc' := 9) rfl (hb hby own_d_jdk_29_method_65_code_2) rfl (tlt (hc2_1)).1 (by decide) (by decide) k) ?_
    show own_Gl p e below _ (s₁.setTop (mkF m 9 #[.val (.int p1), .val (.int p2)] []))
    refine own_st (fun t k => XS.iloadN X0.here hx rfl (hb hby own_d_jdk_29_method_65_code_9) rfl k) ?_
    show own_Gl p e below _ (s₁.setTop (mkF m 10 #[.val (.int p1), .val (.int p2)] [(.int p2)]))
    exact own_retI X0 hx Bd.notSynchronized Bd.returns (hb hby own_d_jdk_29_method_65_code_10) (by decide) (by decide) e0 (⟨by simp [own_max, eq_true hc2_1], N0, rfl⟩)
  ·
    show own_Gl p e below _ (s₁.setTop (mkF m 2 #[.val (.int p1), .val (.int p2)] [(.int p2), (.int p1)]))
    refine own_st (fun t k => XS.icmpNo X0.here hx rfl (hb hby own_d_jdk_29_method_65_code_2) rfl (flt (hc2_1)).1 k) ?_
    show own_Gl p e below _ (s₁.setTop (mkF m 5 #[.val (.int p1), .val (.int p2)] []))
    refine own_st (fun t k => XS.iloadN X0.here hx rfl (hb hby own_d_jdk_29_method_65_code_5) rfl k) ?_
    show own_Gl p e below _ (s₁.setTop (mkF m 6 #[.val (.int p1), .val (.int p2)] [(.int p1)]))
    refine own_st (fun t k => XS.goto X0.here hx rfl (pc0 := 6) (pc' := 10) rfl (hb hby own_d_jdk_29_method_65_code_6) (by decide) (by decide) k) ?_
    show own_Gl p e below _ (s₁.setTop (mkF m 10 #[.val (.int p1), .val (.int p2)] [(.int p1)]))
    exact own_retI X0 hx Bd.notSynchronized Bd.returns (hb hby own_d_jdk_29_method_65_code_10) (by decide) (by decide) e0 (⟨by simp [own_max, eq_false hc2_1], N0, rfl⟩)
theorem own_pd0 : parseMethodDescriptor "(I)Lcom/example/crown1/crown1/value/Membership;" = some ⟨[.int], some (.object "com/example/crown1/crown1/value/Membership")⟩ := by decide +kernel
theorem own_pd1 : parseMethodDescriptor "(Lcom/example/crown1/crown1/value/Membership;)Lcom/example/crown1/crown1/value/Membership;" = some ⟨[(.object "com/example/crown1/crown1/value/Membership")], some (.object "com/example/crown1/crown1/value/Membership")⟩ := by decide +kernel
theorem own_pd2 : parseMethodDescriptor "(Lcom/example/crown1/crown1/value/Membership;)I" = some ⟨[(.object "com/example/crown1/crown1/value/Membership")], some .int⟩ := by decide +kernel
theorem own_pd3 : parseMethodDescriptor "(II)I" = some ⟨[.int, .int], some .int⟩ := by decide +kernel
theorem own_ef_law (m : MethodId) (x0 : Int32) (x1 : Int32) : entryFrame m #[(.int x0), (.int x1)] maxLocals = mkF m 0 #[.val (.int x0), .val (.int x1), .unset, .unset, .unset] [] := by first | (simp [entryFrame, mkF, argsToLocals, Value.category, maxLocals]; done) | rfl
def own_Q_law (Z : State) (i0 i1 : Int32) (aI aO aU : Addr) (h0 : Heap) (n0 : Nat) (v : Option Value) (h : Heap) (L : List Loc) : Prop := v = some (.int 1) ∧ Fr n0 L
set_option maxRecDepth 65536 in
set_option maxHeartbeats 40000000 in
theorem own_rm_law (l : Launch) (Z : State) (a0 : Array Value) (hw : ∀ d ∈ tables_1, d.before a0 Z = true) (ws : List Jvm.Cond) (i0 i1 : Int32) (aI aO aU : Addr) (h0 : Heap) (n0 : Nat) (Z0 : n0 ≤ h0.size) (S_aI : Sta Z h0 "com/example/crown1/crown1/value/Membership" "IN" "Lcom/example/crown1/crown1/value/Membership;" (.ref aI)) (S_aO : Sta Z h0 "com/example/crown1/crown1/value/Membership" "OUT" "Lcom/example/crown1/crown1/value/Membership;" (.ref aO)) (S_aU : Sta Z h0 "com/example/crown1/crown1/value/Membership" "UNDECIDED" "Lcom/example/crown1/crown1/value/Membership;" (.ref aU)) (E_aI : Exa Z h0 aI "com/example/crown1/crown1/value/Membership") (E_aO : Exa Z h0 aO "com/example/crown1/crown1/value/Membership") (E_aU : Exa Z h0 aU "com/example/crown1/crown1/value/Membership") (n1 : aI ≠ aO) (n2 : aI ≠ aU) (n3 : aO ≠ aU) :
    MetFree l x (head1 (Jvm.Cond.code x code maxLocals ret :: ws) room_1) (fun a U => a = #[(.int i0), (.int i1)] ∧ Z.Warmed39 U.vm ∧ U.heap = h0) (fun _ _ _ _ _ => True) (fun _ U o U' => ∃ v L, o = .returned v ∧ own_Q_law Z i0 i1 aI aO aU h0 n0 v U'.heap L ∧ FrameEnd U o U' L room_1.cells room_1.slots) := by
  refine MetFree.of_bodySF (plainFor_of_name own_pn0) hisR ?_
  intro p e s m args below meth c s₁ Bd hml0 hP hK
  obtain ⟨rfl, hZ, hh⟩ := hP
  have hx := Bd.exec
  have hby := Bd.bytes
  have hml : c.maxLocals = 5 := hml0
  have hown : s.vm.findClass "com/example/crown1/crown1/value/MembershipOrPinLaw" = some m.cls := findClass_of_methodNamed Bd.named
  have hnm := (name_of_methodNamed Bd.named Bd.method).1
  have X0 : Stand p l e room_1 s m #[(.int i0), (.int i1)] below meth c s₁ [] 0 0 := Stand.of_body Bd
  have e0 : s₁.heap = h0 := by rw [← hh, Bd.state]; rfl
  have N0 := Fr.nil n0
  show own_Gl p e below (own_Post s (own_Q_law Z i0 i1 aI aO aU h0 n0) room_1.cells room_1.slots) _
  refine own_st (fun t k => castTop (own_ef_law m i0 i1) k) ?_
  show own_Gl p e below _ (s₁.setTop (mkF m 0 #[.val (.int i0), .val (.int i1), .unset, .unset, .unset] []))
  refine own_st (fun t k => XS.iloadN X0.here hx rfl (hb hby at_0) rfl k) ?_
  show own_Gl p e below _ (s₁.setTop (mkF m 1 #[.val (.int i0), .val (.int i1), .unset, .unset, .unset] [(.int i0)]))
  obtain ⟨_, _, ⟨T1, L1, k1, n1⟩, -, X1, ⟨Lc1, hQ1, l1, y1, z1⟩, st1⟩ := Jvm.LawKit.callS X0 hx (y := (⟨"com/example/crown1/crown1/value/MembershipOrPinLaw", "pick", "(I)Lcom/example/crown1/crown1/value/Membership;"⟩ : MethodName)) hown (mvT hZ (hw _ (List.mem_of_getElem? (i := 0) rfl))) (mvT hZ (hw _ (List.mem_of_getElem? (i := 1) rfl))) (mvT hZ (hw _ (List.mem_of_getElem? (i := 2) rfl))) (mvT hZ (hw _ (List.mem_of_getElem? (i := 3) rfl))) (by decide) (backOf (W := 0) (own_rm_pick l Z a0 hw [] i0 aI aO aU h0 n0 Z0 S_aI S_aO S_aU) hZ (hw _ (List.mem_of_getElem? (i := 3) rfl)) (hw _ (List.mem_of_getElem? (i := 2) rfl)) (by decide) (by decide)) (g := (mkF m 1 #[.val (.int i0), .val (.int i1), .unset, .unset, .unset] [(.int i0)])) rfl (by rw [hml]; rfl) (argsL := [(.int i0)]) (rest := []) (lenOf own_pd0 rfl) rfl (by show 2 * 0 + _ ≤ _; exact Nat.le_of_eq rfl) (hb hby at_1) (fun _ _ => ⟨rfl, e0, (by decide : 0 + 0 ≤ _), (by decide : 0 + 0 ≤ _)⟩)
  dsimp only [Pt.U, Pt.locs, Pt.cells, Pt.slots] at X1 l1 y1 z1 st1 hQ1
  subst l1 y1 z1
  obtain ⟨⟨m1, rfl, hm1⟩, N1q, e1⟩ := hQ1
  have N1 := Fr.app N0 N1q
  refine own_st st1 ?_
  show own_Gl p e below _ (T1.setTop (mkF m 4 #[.val (.int i0), .val (.int i1), .unset, .unset, .unset] [(.ref m1)]))
  have E_m1 : Exa Z h0 m1 "com/example/crown1/crown1/value/Membership" := by rcases hm1 with rfl | rfl | rfl <;> assumption
  have hm1_ := hm1
  refine own_st (fun t k => XS.astoreN X1.here hx rfl (hb hby at_4) rfl rfl (l' := #[.val (.int i0), .val (.int i1), .val (.ref m1), .unset, .unset]) rfl k) ?_
  show own_Gl p e below _ (T1.setTop (mkF m 5 #[.val (.int i0), .val (.int i1), .val (.ref m1), .unset, .unset] []))
  refine own_st (fun t k => XS.iloadN X1.here hx rfl (hb hby at_5) rfl k) ?_
  show own_Gl p e below _ (T1.setTop (mkF m 6 #[.val (.int i0), .val (.int i1), .val (.ref m1), .unset, .unset] [(.int i1)]))
  obtain ⟨_, _, ⟨T2, L2, k2, n2⟩, -, X2, ⟨Lc2, hQ2, l2, y2, z2⟩, st2⟩ := Jvm.LawKit.callS X1 hx (y := (⟨"com/example/crown1/crown1/value/MembershipOrPinLaw", "pick", "(I)Lcom/example/crown1/crown1/value/Membership;"⟩ : MethodName)) hown (mvT hZ (hw _ (List.mem_of_getElem? (i := 0) rfl))) (mvT hZ (hw _ (List.mem_of_getElem? (i := 1) rfl))) (mvT hZ (hw _ (List.mem_of_getElem? (i := 2) rfl))) (mvT hZ (hw _ (List.mem_of_getElem? (i := 3) rfl))) (by decide) (backOf (W := 0) (own_rm_pick l Z a0 hw [] i1 aI aO aU h0 n0 Z0 S_aI S_aO S_aU) hZ (hw _ (List.mem_of_getElem? (i := 3) rfl)) (hw _ (List.mem_of_getElem? (i := 2) rfl)) (by decide) (by decide)) (g := (mkF m 6 #[.val (.int i0), .val (.int i1), .val (.ref m1), .unset, .unset] [(.int i1)])) rfl (by rw [hml]; rfl) (argsL := [(.int i1)]) (rest := []) (lenOf own_pd0 rfl) rfl (by show 2 * 0 + _ ≤ _; exact Nat.le_of_eq rfl) (hb hby at_6) (fun _ _ => ⟨rfl, e1, (by decide : 0 + 0 ≤ _), (by decide : 0 + 0 ≤ _)⟩)
  dsimp only [Pt.U, Pt.locs, Pt.cells, Pt.slots] at X2 l2 y2 z2 st2 hQ2
  subst l2 y2 z2
  obtain ⟨⟨m2, rfl, hm2⟩, N2q, e2⟩ := hQ2
  have N2 := Fr.app N1 N2q
  refine own_st st2 ?_
  show own_Gl p e below _ (T2.setTop (mkF m 9 #[.val (.int i0), .val (.int i1), .val (.ref m1), .unset, .unset] [(.ref m2)]))
  have E_m2 : Exa Z h0 m2 "com/example/crown1/crown1/value/Membership" := by rcases hm2 with rfl | rfl | rfl <;> assumption
  have hm2_ := hm2
  refine own_st (fun t k => XS.astoreN X2.here hx rfl (hb hby at_9) rfl rfl (l' := #[.val (.int i0), .val (.int i1), .val (.ref m1), .val (.ref m2), .unset]) rfl k) ?_
  show own_Gl p e below _ (T2.setTop (mkF m 10 #[.val (.int i0), .val (.int i1), .val (.ref m1), .val (.ref m2), .unset] []))
  refine own_st (fun t k => XS.aloadN X2.here hx rfl (hb hby at_10) rfl rfl k) ?_
  show own_Gl p e below _ (T2.setTop (mkF m 11 #[.val (.int i0), .val (.int i1), .val (.ref m1), .val (.ref m2), .unset] [(.ref m1)]))
  refine own_st (fun t k => XS.aloadN X2.here hx rfl (hb hby at_11) rfl rfl k) ?_
  show own_Gl p e below _ (T2.setTop (mkF m 12 #[.val (.int i0), .val (.int i1), .val (.ref m1), .val (.ref m2), .unset] [(.ref m2), (.ref m1)]))
  obtain ⟨cq3, kq3, q3a, q3b, q3c⟩ := isOf hZ e2 E_m1
  obtain ⟨_, _, ⟨T3, L3, k3, n3⟩, -, X3, ⟨Lc3, hQ3, l3, y3, z3⟩, st3⟩ := X2.virtualBack hx (y := (⟨"com/example/crown1/crown1/value/Membership", "or", "(Lcom/example/crown1/crown1/value/Membership;)Lcom/example/crown1/crown1/value/Membership;"⟩ : MethodName)) (z := (⟨"com/example/crown1/crown1/value/Membership", "or", "(Lcom/example/crown1/crown1/value/Membership;)Lcom/example/crown1/crown1/value/Membership;"⟩ : MethodName)) hown (mvT hZ (hw _ (List.mem_of_getElem? (i := 8) rfl))) (mvT hZ (hw _ (List.mem_of_getElem? (i := 9) rfl))) (notFace_of_selects (args := #[]) (mvT hZ (hw _ (List.mem_of_getElem? (i := 11) rfl)))) (mvT hZ (hw _ (List.mem_of_getElem? (i := 11) rfl))) (mvT hZ (hw _ (List.mem_of_getElem? (i := 10) rfl))) (by decide) (backOf (W := 0) (own_rm_or l Z a0 hw [] m1 m2 aI aO aU h0 n0 Z0 S_aI S_aO S_aU) hZ (hw _ (List.mem_of_getElem? (i := 12) rfl)) (hw _ (List.mem_of_getElem? (i := 6) rfl)) (by decide) (by decide)) q3a q3c (g := (mkF m 12 #[.val (.int i0), .val (.int i1), .val (.ref m1), .val (.ref m2), .unset] [(.ref m2), (.ref m1)])) rfl (by rw [hml]; rfl) (Steps.refl _) (argsL := [(.ref m2)]) (rest := []) (lenOf own_pd1 rfl) rfl (by show 2 * 0 + _ ≤ _; exact Nat.le_of_eq rfl) (hb hby at_12) (fun _ _ => ⟨rfl, e2, (by decide : 0 + 0 ≤ _), (by decide : 0 + 0 ≤ _)⟩)
  dsimp only [Pt.U, Pt.locs, Pt.cells, Pt.slots] at X3 l3 y3 z3 st3 hQ3
  subst l3 y3 z3
  obtain ⟨rfl, N3q, e3⟩ := hQ3
  have N3 := Fr.app N2 N3q
  refine own_tr st3 ?_
  show own_Gl p e below _ (T3.setTop (mkF m 15 #[.val (.int i0), .val (.int i1), .val (.ref m1), .val (.ref m2), .unset] [(.ref (own_or m1 m2 aI aO aU))]))
  refine own_st (fun t k => XS.astore X3.here hx rfl (hb hby at_15) rfl rfl (l' := #[.val (.int i0), .val (.int i1), .val (.ref m1), .val (.ref m2), .val (.ref (own_or m1 m2 aI aO aU))]) rfl k) ?_
  show own_Gl p e below _ (T3.setTop (mkF m 17 #[.val (.int i0), .val (.int i1), .val (.ref m1), .val (.ref m2), .val (.ref (own_or m1 m2 aI aO aU))] []))
  refine own_st (fun t k => XS.aload X3.here hx rfl (hb hby at_17) rfl rfl k) ?_
  show own_Gl p e below _ (T3.setTop (mkF m 19 #[.val (.int i0), .val (.int i1), .val (.ref m1), .val (.ref m2), .val (.ref (own_or m1 m2 aI aO aU))] [(.ref (own_or m1 m2 aI aO aU))]))
  refine own_st (fun t k => XT.nonnullYes X3.here hx rfl (pc0 := 19) (pc' := 24) rfl (hb hby at_19) rfl rfl nofun (by decide) (by decide) k) ?_
  show own_Gl p e below _ (T3.setTop (mkF m 24 #[.val (.int i0), .val (.int i1), .val (.ref m1), .val (.ref m2), .val (.ref (own_or m1 m2 aI aO aU))] []))
  refine own_st (fun t k => XS.aload X3.here hx rfl (hb hby at_24) rfl rfl k) ?_
  show own_Gl p e below _ (T3.setTop (mkF m 26 #[.val (.int i0), .val (.int i1), .val (.ref m1), .val (.ref m2), .val (.ref (own_or m1 m2 aI aO aU))] [(.ref (own_or m1 m2 aI aO aU))]))
  obtain ⟨_, _, ⟨T4, L4, k4, n4⟩, -, X4, ⟨Lc4, hQ4, l4, y4, z4⟩, st4⟩ := Jvm.LawKit.callS X3 hx (y := (⟨"com/example/crown1/crown1/value/MembershipOrPinLaw", "rank", "(Lcom/example/crown1/crown1/value/Membership;)I"⟩ : MethodName)) hown (mvT hZ (hw _ (List.mem_of_getElem? (i := 14) rfl))) (mvT hZ (hw _ (List.mem_of_getElem? (i := 15) rfl))) (mvT hZ (hw _ (List.mem_of_getElem? (i := 2) rfl))) (mvT hZ (hw _ (List.mem_of_getElem? (i := 16) rfl))) (by decide) (backOf (W := 0) (own_rm_rank l Z a0 hw [] (own_or m1 m2 aI aO aU) aI aO aU h0 n0 Z0 S_aI S_aO S_aU) hZ (hw _ (List.mem_of_getElem? (i := 16) rfl)) (hw _ (List.mem_of_getElem? (i := 2) rfl)) (by decide) (by decide)) (g := (mkF m 26 #[.val (.int i0), .val (.int i1), .val (.ref m1), .val (.ref m2), .val (.ref (own_or m1 m2 aI aO aU))] [(.ref (own_or m1 m2 aI aO aU))])) rfl (by rw [hml]; rfl) (argsL := [(.ref (own_or m1 m2 aI aO aU))]) (rest := []) (lenOf own_pd2 rfl) rfl (by show 2 * 0 + _ ≤ _; exact Nat.le_of_eq rfl) (hb hby at_26) (fun _ _ => ⟨rfl, e3, (by decide : 0 + 0 ≤ _), (by decide : 0 + 0 ≤ _)⟩)
  dsimp only [Pt.U, Pt.locs, Pt.cells, Pt.slots] at X4 l4 y4 z4 st4 hQ4
  subst l4 y4 z4
  obtain ⟨rfl, N4q, e4⟩ := hQ4
  have N4 := Fr.app N3 N4q
  refine own_st st4 ?_
  show own_Gl p e below _ (T4.setTop (mkF m 29 #[.val (.int i0), .val (.int i1), .val (.ref m1), .val (.ref m2), .val (.ref (own_or m1 m2 aI aO aU))] [(.int (own_rank (own_or m1 m2 aI aO aU) aI aO aU))]))
  refine own_st (fun t k => XS.aloadN X4.here hx rfl (hb hby at_29) rfl rfl k) ?_
  show own_Gl p e below _ (T4.setTop (mkF m 30 #[.val (.int i0), .val (.int i1), .val (.ref m1), .val (.ref m2), .val (.ref (own_or m1 m2 aI aO aU))] [(.ref m1), (.int (own_rank (own_or m1 m2 aI aO aU) aI aO aU))]))
  obtain ⟨_, _, ⟨T5, L5, k5, n5⟩, -, X5, ⟨Lc5, hQ5, l5, y5, z5⟩, st5⟩ := Jvm.LawKit.callS X4 hx (y := (⟨"com/example/crown1/crown1/value/MembershipOrPinLaw", "rank", "(Lcom/example/crown1/crown1/value/Membership;)I"⟩ : MethodName)) hown (mvT hZ (hw _ (List.mem_of_getElem? (i := 14) rfl))) (mvT hZ (hw _ (List.mem_of_getElem? (i := 15) rfl))) (mvT hZ (hw _ (List.mem_of_getElem? (i := 2) rfl))) (mvT hZ (hw _ (List.mem_of_getElem? (i := 16) rfl))) (by decide) (backOf (W := 1) (own_rm_rank l Z a0 hw [] m1 aI aO aU h0 n0 Z0 S_aI S_aO S_aU) hZ (hw _ (List.mem_of_getElem? (i := 16) rfl)) (hw _ (List.mem_of_getElem? (i := 2) rfl)) (by decide) (by decide)) (g := (mkF m 30 #[.val (.int i0), .val (.int i1), .val (.ref m1), .val (.ref m2), .val (.ref (own_or m1 m2 aI aO aU))] [(.ref m1), (.int (own_rank (own_or m1 m2 aI aO aU) aI aO aU))])) rfl (by rw [hml]; rfl) (argsL := [(.ref m1)]) (rest := [(.int (own_rank (own_or m1 m2 aI aO aU) aI aO aU))]) (lenOf own_pd2 rfl) rfl (by show 2 * 0 + _ ≤ _; exact Nat.le_of_eq rfl) (hb hby at_30) (fun _ _ => ⟨rfl, e4, (by decide : 0 + 0 ≤ _), (by decide : 0 + 0 ≤ _)⟩)
  dsimp only [Pt.U, Pt.locs, Pt.cells, Pt.slots] at X5 l5 y5 z5 st5 hQ5
  subst l5 y5 z5
  obtain ⟨rfl, N5q, e5⟩ := hQ5
  have N5 := Fr.app N4 N5q
  refine own_st st5 ?_
  show own_Gl p e below _ (T5.setTop (mkF m 33 #[.val (.int i0), .val (.int i1), .val (.ref m1), .val (.ref m2), .val (.ref (own_or m1 m2 aI aO aU))] [(.int (own_rank m1 aI aO aU)), (.int (own_rank (own_or m1 m2 aI aO aU) aI aO aU))]))
  refine own_st (fun t k => XS.aloadN X5.here hx rfl (hb hby at_33) rfl rfl k) ?_
  show own_Gl p e below _ (T5.setTop (mkF m 34 #[.val (.int i0), .val (.int i1), .val (.ref m1), .val (.ref m2), .val (.ref (own_or m1 m2 aI aO aU))] [(.ref m2), (.int (own_rank m1 aI aO aU)), (.int (own_rank (own_or m1 m2 aI aO aU) aI aO aU))]))
  obtain ⟨_, _, ⟨T6, L6, k6, n6⟩, -, X6, ⟨Lc6, hQ6, l6, y6, z6⟩, st6⟩ := Jvm.LawKit.callS X5 hx (y := (⟨"com/example/crown1/crown1/value/MembershipOrPinLaw", "rank", "(Lcom/example/crown1/crown1/value/Membership;)I"⟩ : MethodName)) hown (mvT hZ (hw _ (List.mem_of_getElem? (i := 14) rfl))) (mvT hZ (hw _ (List.mem_of_getElem? (i := 15) rfl))) (mvT hZ (hw _ (List.mem_of_getElem? (i := 2) rfl))) (mvT hZ (hw _ (List.mem_of_getElem? (i := 16) rfl))) (by decide) (backOf (W := 2) (own_rm_rank l Z a0 hw [] m2 aI aO aU h0 n0 Z0 S_aI S_aO S_aU) hZ (hw _ (List.mem_of_getElem? (i := 16) rfl)) (hw _ (List.mem_of_getElem? (i := 2) rfl)) (by decide) (by decide)) (g := (mkF m 34 #[.val (.int i0), .val (.int i1), .val (.ref m1), .val (.ref m2), .val (.ref (own_or m1 m2 aI aO aU))] [(.ref m2), (.int (own_rank m1 aI aO aU)), (.int (own_rank (own_or m1 m2 aI aO aU) aI aO aU))])) rfl (by rw [hml]; rfl) (argsL := [(.ref m2)]) (rest := [(.int (own_rank m1 aI aO aU)), (.int (own_rank (own_or m1 m2 aI aO aU) aI aO aU))]) (lenOf own_pd2 rfl) rfl (by show 2 * 0 + _ ≤ _; exact Nat.le_of_eq rfl) (hb hby at_34) (fun _ _ => ⟨rfl, e5, (by decide : 0 + 0 ≤ _), (by decide : 0 + 0 ≤ _)⟩)
  dsimp only [Pt.U, Pt.locs, Pt.cells, Pt.slots] at X6 l6 y6 z6 st6 hQ6
  subst l6 y6 z6
  obtain ⟨rfl, N6q, e6⟩ := hQ6
  have N6 := Fr.app N5 N6q
  refine own_st st6 ?_
  show own_Gl p e below _ (T6.setTop (mkF m 37 #[.val (.int i0), .val (.int i1), .val (.ref m1), .val (.ref m2), .val (.ref (own_or m1 m2 aI aO aU))] [(.int (own_rank m2 aI aO aU)), (.int (own_rank m1 aI aO aU)), (.int (own_rank (own_or m1 m2 aI aO aU) aI aO aU))]))
  obtain ⟨_, _, ⟨T7, L7, k7, n7⟩, -, X7, ⟨Lc7, hQ7, l7, y7, z7⟩, st7⟩ := Jvm.LawKit.callS X6 hx (y := (⟨"java/lang/Math", "max", "(II)I"⟩ : MethodName)) hown (mvT hZ (hw _ (List.mem_of_getElem? (i := 21) rfl))) (mvT hZ (hw _ (List.mem_of_getElem? (i := 22) rfl))) (mvT hZ (hw _ (List.mem_of_getElem? (i := 23) rfl))) (mvT hZ (hw _ (List.mem_of_getElem? (i := 24) rfl))) (by decide) (backOf (W := 1) (own_rm_max l Z a0 hw [] (own_rank m1 aI aO aU) (own_rank m2 aI aO aU) h0 n0 Z0) hZ (hw _ (List.mem_of_getElem? (i := 24) rfl)) (hw _ (List.mem_of_getElem? (i := 23) rfl)) (by decide) (by decide)) (g := (mkF m 37 #[.val (.int i0), .val (.int i1), .val (.ref m1), .val (.ref m2), .val (.ref (own_or m1 m2 aI aO aU))] [(.int (own_rank m2 aI aO aU)), (.int (own_rank m1 aI aO aU)), (.int (own_rank (own_or m1 m2 aI aO aU) aI aO aU))])) rfl (by rw [hml]; rfl) (argsL := [(.int (own_rank m1 aI aO aU)), (.int (own_rank m2 aI aO aU))]) (rest := [(.int (own_rank (own_or m1 m2 aI aO aU) aI aO aU))]) (lenOf own_pd3 rfl) rfl (by show 2 * 0 + _ ≤ _; exact Nat.le_of_eq rfl) (hb hby at_37) (fun _ _ => ⟨rfl, e6, (by decide : 0 + 0 ≤ _), (by decide : 0 + 0 ≤ _)⟩)
  dsimp only [Pt.U, Pt.locs, Pt.cells, Pt.slots] at X7 l7 y7 z7 st7 hQ7
  subst l7 y7 z7
  obtain ⟨rfl, N7q, e7⟩ := hQ7
  have N7 := Fr.app N6 N7q
  refine own_st st7 ?_
  show own_Gl p e below _ (T7.setTop (mkF m 40 #[.val (.int i0), .val (.int i1), .val (.ref m1), .val (.ref m2), .val (.ref (own_or m1 m2 aI aO aU))] [(.int (own_max (own_rank m1 aI aO aU) (own_rank m2 aI aO aU))), (.int (own_rank (own_or m1 m2 aI aO aU) aI aO aU))]))
  refine own_st (fun t k => XS.icmpNo X7.here hx rfl (hb hby at_40) rfl (teq (own_law n1 n2 n3 hm1_ hm2_)).2 k) ?_
  show own_Gl p e below _ (T7.setTop (mkF m 43 #[.val (.int i0), .val (.int i1), .val (.ref m1), .val (.ref m2), .val (.ref (own_or m1 m2 aI aO aU))] []))
  refine own_st (fun t k => XS.iconst X7.here hx rfl (hb hby at_43) k) ?_
  show own_Gl p e below _ (T7.setTop (mkF m 44 #[.val (.int i0), .val (.int i1), .val (.ref m1), .val (.ref m2), .val (.ref (own_or m1 m2 aI aO aU))] [(.int (1 : Int32))]))
  refine own_st (fun t k => XS.goto X7.here hx rfl (pc0 := 44) (pc' := 48) rfl (hb hby at_44) (by decide) (by decide) k) ?_
  show own_Gl p e below _ (T7.setTop (mkF m 48 #[.val (.int i0), .val (.int i1), .val (.ref m1), .val (.ref m2), .val (.ref (own_or m1 m2 aI aO aU))] [(.int (1 : Int32))]))
  exact own_retN X7 hx Bd.notSynchronized (t := .boolean) Bd.returns (by simp) (hb hby at_48) (by decide) (by decide) e7 (⟨rfl, N7⟩)
set_option maxRecDepth 65536 in
set_option maxHeartbeats 40000000 in
theorem comes_1 {Post : Tables → Env → Array Value → State → Outcome → State → Prop} (hpost : ∀ tb e args s v u, (limb_1_1.after args s (.returned v) u = true ∧ limb_1_2.after args s (.returned v) u = true ∧ True) → FrameEnd s (.returned v) u (Jvm.fieldLocs frame_1_writes args s ++ Jvm.arrayLocs frame_1_arrays args s ++ Jvm.staticLocs frame_1_statics s) 0 0 → Post tb e args s (.returned v) u) :
    ArmFor flags0 classFile x code maxLocals ret World_1 tables_1 room_1 Calls_1 rest_1 Pre_1 Post := by
  intro l hfl _ _ p e ha hc hk s m args below hf hA hF happ hP
  obtain ⟨hcalls, hrest, hpre⟩ := hP
  obtain ⟨-, -, -, hnamed, -, -, -, hat⟩ := (Spec.applies_iff hf).mp happ
  obtain ⟨hg, hn⟩ := and_e (Cond.before_iff.mp (show (Jvm.Cond.and given_1 narrow_1).before args s = true from hpre))
  obtain ⟨g0a, g0b⟩ := and_e hg
  obtain ⟨g1a, g1b⟩ := and_e g0b
  obtain ⟨w0, w1, rfl⟩ : ∃ w0 w1 : Value, args = #[w0, w1] := by
    have hs : args.size = 2 := by simpa [Cond.value, given_1] using g0a
    obtain ⟨L⟩ := args
    match L, hs with
    | [w0, w1], _ => exact ⟨w0, w1, rfl⟩
  have hw := fun d (hd : d ∈ tables_1) => atoms_spec (ws := Jvm.Cond.code x code maxLocals ret :: tables_1) hat d (List.mem_cons_of_mem _ hd)
  have hfit : Fit s := fun {y c} hc i hi => by
    obtain ⟨ha, rfl⟩ := Array.getElem?_eq_some_iff.mp hc
    have q := List.all_eq_true.mp ((Array.all_eq_true_iff_forall_mem.mp hF) _ (Array.getElem_mem ha)) i (List.mem_range.mpr hi)
    simpa [Array.getElem?_eq_getElem hi] using q
  obtain ⟨i0, ei0⟩ := is_v g1a
  obtain rfl : w0 = (.int i0) := Option.some.inj ei0
  obtain ⟨i1, ei1⟩ := is_v g1b
  obtain rfl : w1 = (.int i1) := Option.some.inj ei1
  obtain ⟨w_0a, w_0b⟩ := and_e hn
  obtain ⟨w_1a, w_1b⟩ := and_e w_0b
  obtain ⟨w_2a, w_2b⟩ := and_e w_1b
  obtain ⟨w_3a, w_3b⟩ := and_e w_2b
  obtain ⟨w_4a, w_4b⟩ := and_e w_3b
  obtain ⟨aI, ev_aI⟩ := exa_v w_0a
  have S_aI := Sta.start ev_aI (Or.inr ⟨(hw _ (List.mem_of_getElem? (i := 6) rfl)), (hw _ (List.mem_of_getElem? (i := 7) rfl))⟩)
  have E_aI := Exa.start ev_aI w_0a
  obtain ⟨aO, ev_aO⟩ := exa_v w_1a
  have S_aO := Sta.start ev_aO (Or.inr ⟨(hw _ (List.mem_of_getElem? (i := 6) rfl)), (hw _ (List.mem_of_getElem? (i := 18) rfl))⟩)
  have E_aO := Exa.start ev_aO w_1a
  obtain ⟨aU, ev_aU⟩ := exa_v w_4a
  have S_aU := Sta.start ev_aU (Or.inr ⟨(hw _ (List.mem_of_getElem? (i := 6) rfl)), (hw _ (List.mem_of_getElem? (i := 20) rfl))⟩)
  have E_aU := Exa.start ev_aU w_4a
  have O_aI := own_fldI ev_aI w_2a
  have O_aO := own_fldI ev_aO w_3a
  have O_aU := own_fldI ev_aU w_4b
  have n1 : aI ≠ aO := O_aI.ne O_aO (by decide)
  have n2 : aI ≠ aU := O_aI.ne O_aU (by decide)
  have n3 : aO ≠ aU := O_aO.ne O_aU (by decide)
  obtain ⟨n, o, h1, h2, h3, _, L, rfl, ⟨rfl, N⟩, hq⟩ := own_rm_law l s _ hw tables_1 i0 i1 aI aO aU s.heap s.heap.size (Nat.le_refl _) S_aI S_aO S_aU E_aI E_aO E_aU n1 n2 n3 p e ha hc hk s m _ below hf ((Spec.applies_iff_loose hf).mp happ).1 ⟨rfl, State.Warmed39.refl s, rfl⟩ trivial
  refine ⟨n, _, h1, h2, h3, hpost _ _ _ _ _ _ ⟨Cond.after_iff.mpr rfl, Cond.after_iff.mpr (eq_i res_at (Term.int_eval (1)) rfl), trivial⟩ ⟨hq.1, hq.2.1, (hq.2.2.sift fun y hy => Or.inr (N y hy)).mono (by decide) (by decide)⟩⟩
theorem main_1_1 : Claimed_1_1 := comes_1 fun _ _ _ _ _ _ h hF => ⟨h.1, hF⟩
theorem main_1_2 : Claimed_1_2 := comes_1 fun _ _ _ _ _ _ h hF => ⟨h.2.1, hF⟩
end Jvm.Pilot.@@N@@
namespace Jvm.Pilot.@@N@@
open Jvm Jvm.ClassFile Sem Op Lib Jvm.Free Jvm.Stand Jvm.Pilot.@@N@@.Jvm.D
/-! MADE BY PROGRAM (witnessworld.py) out of the Statement's table words and the real class files: 13 classes; the members and pool entries that the words name. The judged class is class 1, her method 3. -/
namespace start1
open Jvm.ClassFile
def u (s : String) : CpInfo := .utf8 (stringToUtf16 s)
/-- a pool by its gaps: so many unusable entries, then the entry; so many at the end -/
def gap : Nat → List CpInfo → List CpInfo
  | 0, r => r
  | n + 1, r => .unusable :: gap n r
def poolList (es : List (Nat × CpInfo)) (last : Nat) : List CpInfo := es.foldr (fun e r => gap e.1 (e.2 :: r)) (gap last [])
def pool (es : List (Nat × CpInfo)) (last : Nat) : Array CpInfo := ⟨poolList es last⟩
def fileOf (pool : Array CpInfo) (this : Nat) (attrs : Array Attribute := #[]) (ms : Array MethodInfo := #[]) (fl : Nat := 33) (sup : Nat := 0) (ifs : Array Nat := #[]) (fds : Array FieldInfo := #[]) : ClassFile where
  minorVersion := 0
  majorVersion := 65
  constantPool := pool
  accessFlags := fl
  thisClass := this
  superClass := sup
  interfaces := ifs
  fields := fds
  methods := ms
  attributes := attrs
def plain (name : String) (sup : Option ClassId) : Class where
  name := name
  kind := .ordinary
  loader := none
  accessFlags := 33
  super := sup
  interfaces := #[]
  cf := none
  fields := #[]
  methods := #[]
  instanceTypes := #[]
  staticTypes := #[]
  resolved := #[]
  callSites := []
  init := .initialized
  statics := none
  mirror := none

def pool0 : Array CpInfo := pool [(5, u "<init>"), (0, u "()V"), (1, .class_ 10), (1, u "java/lang/Object")] 113

def k0m0 : Method := { name := "<init>", desc := "()V", sig := { parameters := [], returnType := none }, accessFlags := 1, code := none }
/-- java/lang/Object -/
def k0 : Class := { plain "java/lang/Object" none with
  accessFlags := 33
  interfaces := #[]
  cf := some (fileOf pool0 8 #[] #[{ accessFlags := 1, nameIndex := 5, descriptorIndex := 6, attributes := #[] }] 33 0 #[] #[])
  fields := #[]
  methods := #[k0m0]
  instanceTypes := #[]
  staticTypes := #[]
  resolved := Array.replicate 124 none
  statics := none }

def pool1 : Array CpInfo := pool [(2, .class_ 4), (1, u "java/lang/Object"), (0, u "<init>"), (0, u "()V"), (0, .integer 2147483647), (0, .fieldref 9 10), (0, .class_ 11), (0, .nameAndType 12 13), (0, u "com/example/crown1/crown1/value/Membership"), (0, u "IN"), (0, u "Lcom/example/crown1/crown1/value/Membership;"), (0, .fieldref 9 15), (0, .nameAndType 16 13), (0, u "OUT"), (0, .fieldref 9 18), (0, .nameAndType 19 13), (0, u "UNDECIDED"), (0, .methodref 21 22), (0, .class_ 23), (0, .nameAndType 24 25), (0, u "com/example/crown1/crown1/value/MembershipOrPinLaw"), (0, u "pick"), (0, u "(I)Lcom/example/crown1/crown1/value/Membership;"), (0, .methodref 9 27), (0, .nameAndType 28 29), (0, u "or"), (0, u "(Lcom/example/crown1/crown1/value/Membership;)Lcom/example/crown1/crown1/value/Membership;"), (0, .methodref 21 31), (0, .nameAndType 32 33), (0, u "rank"), (0, u "(Lcom/example/crown1/crown1/value/Membership;)I"), (0, .methodref 35 36), (0, .class_ 37), (0, .nameAndType 38 39), (0, u "java/lang/Math"), (0, u "max"), (0, u "(II)I"), (3, u "law"), (0, u "(II)Z")] 2

def k1m0 : Method := { name := "<init>", desc := "()V", sig := { parameters := [], returnType := none }, accessFlags := 2, code := none }
def k1c1 : Code := { maxStack := 2, maxLocals := 2, code := method_2_code, exceptionTable := #[], attributes := #[] }
def k1m1 : Method := { name := "pick", desc := "(I)Lcom/example/crown1/crown1/value/Membership;", sig := { parameters := [.int], returnType := some (.object "com/example/crown1/crown1/value/Membership") }, accessFlags := 10, code := some k1c1 }
def k1c2 : Code := { maxStack := 2, maxLocals := 1, code := method_3_code, exceptionTable := #[], attributes := #[] }
def k1m2 : Method := { name := "rank", desc := "(Lcom/example/crown1/crown1/value/Membership;)I", sig := { parameters := [(.object "com/example/crown1/crown1/value/Membership")], returnType := some .int }, accessFlags := 10, code := some k1c2 }
def k1c3 : Code := { maxStack := 3, maxLocals := 5, code := code, exceptionTable := #[], attributes := #[] }
def k1m3 : Method := { name := "law", desc := "(II)Z", sig := { parameters := [.int, .int], returnType := some .boolean }, accessFlags := 9, code := some k1c3 }
/-- com/example/crown1/crown1/value/MembershipOrPinLaw -/
def k1 : Class := { plain "com/example/crown1/crown1/value/MembershipOrPinLaw" (some 0) with
  accessFlags := 49
  interfaces := #[]
  cf := some (fileOf pool1 21 #[] #[{ accessFlags := 2, nameIndex := 5, descriptorIndex := 6, attributes := #[] }, { accessFlags := 10, nameIndex := 24, descriptorIndex := 25, attributes := #[] }, { accessFlags := 10, nameIndex := 32, descriptorIndex := 33, attributes := #[] }, { accessFlags := 9, nameIndex := 43, descriptorIndex := 44, attributes := #[] }] 49 2 #[] #[])
  fields := #[]
  methods := #[k1m0, k1m1, k1m2, k1m3]
  instanceTypes := #[]
  staticTypes := #[]
  resolved := Array.replicate 47 none
  statics := none }

def pool2 : Array CpInfo := pool [(1, .class_ 2), (0, u "java/lang/constant/Constable"), (0, .class_ 4), (0, u "java/lang/Object")] 6

/-- java/lang/constant/Constable -/
def k2 : Class := { plain "java/lang/constant/Constable" (some 0) with
  accessFlags := 1537
  interfaces := #[]
  cf := some (fileOf pool2 1 #[] #[] 1537 3 #[] #[])
  fields := #[]
  methods := #[]
  instanceTypes := #[]
  staticTypes := #[]
  resolved := Array.replicate 11 none
  statics := none }

def pool3 : Array CpInfo := pool [(1, .class_ 2), (0, u "java/lang/Comparable"), (0, .class_ 4), (0, u "java/lang/Object")] 7

/-- java/lang/Comparable -/
def k3 : Class := { plain "java/lang/Comparable" (some 0) with
  accessFlags := 1537
  interfaces := #[]
  cf := some (fileOf pool3 1 #[] #[] 1537 3 #[] #[])
  fields := #[]
  methods := #[]
  instanceTypes := #[]
  staticTypes := #[]
  resolved := Array.replicate 12 none
  statics := none }

def pool4 : Array CpInfo := pool [(1, .class_ 2), (0, u "java/io/Serializable"), (0, .class_ 4), (0, u "java/lang/Object")] 2

/-- java/io/Serializable -/
def k4 : Class := { plain "java/io/Serializable" (some 0) with
  accessFlags := 1537
  interfaces := #[]
  cf := some (fileOf pool4 1 #[] #[] 1537 3 #[] #[])
  fields := #[]
  methods := #[]
  instanceTypes := #[]
  staticTypes := #[]
  resolved := Array.replicate 7 none
  statics := none }

def pool5 : Array CpInfo := pool [(2, .class_ 4), (1, u "java/lang/Enum"), (0, u "name"), (0, u "Ljava/lang/String;"), (2, u "ordinal"), (0, u "I"), (1, .class_ 14), (1, u "java/lang/Object"), (4, u "hash"), (86, .class_ 108), (1, u "java/lang/Enum$EnumDesc"), (2, .class_ 112), (0, u "java/lang/constant/Constable"), (0, .class_ 114), (0, u "java/lang/Comparable"), (0, .class_ 116), (0, u "java/io/Serializable")] 87

/-- java/lang/Enum -/
def k5 : Class := { plain "java/lang/Enum" (some 0) with
  accessFlags := 1057
  interfaces := #[2, 3, 4]
  cf := some (fileOf pool5 2 #[.nestMembers #[106]] #[] 1057 12 #[111, 113, 115] #[{ accessFlags := 18, nameIndex := 5, descriptorIndex := 6, attributes := #[] }, { accessFlags := 18, nameIndex := 9, descriptorIndex := 10, attributes := #[] }, { accessFlags := 2, nameIndex := 19, descriptorIndex := 10, attributes := #[] }])
  fields := #[{ name := "name", type := (.object "java/lang/String"), accessFlags := 18, slot := 0, constantValue := 0 }, { name := "ordinal", type := .int, accessFlags := 18, slot := 1, constantValue := 0 }, { name := "hash", type := .int, accessFlags := 2, slot := 2, constantValue := 0 }]
  methods := #[]
  instanceTypes := #[(.object "java/lang/String"), .int, .int]
  staticTypes := #[]
  resolved := Array.replicate 204 none
  statics := none }

def pool6 : Array CpInfo := pool [(1, .class_ 2), (0, u "com/example/crown1/crown1/value/Membership"), (0, .fieldref 1 4), (0, .nameAndType 5 6), (0, u "IN"), (0, u "Lcom/example/crown1/crown1/value/Membership;"), (0, .fieldref 1 8), (0, .nameAndType 9 6), (0, u "OUT"), (0, .fieldref 1 11), (0, .nameAndType 12 6), (0, u "UNDECIDED"), (2, u "$VALUES"), (0, u "[Lcom/example/crown1/crown1/value/Membership;"), (6, .class_ 25), (1, u "java/lang/Enum"), (12, u "or"), (0, u "(Lcom/example/crown1/crown1/value/Membership;)Lcom/example/crown1/crown1/value/Membership;")] 32

def k6c0 : Code := { maxStack := 2, maxLocals := 3, code := prog_180_method_5_code, exceptionTable := #[], attributes := #[] }
def k6m0 : Method := { name := "or", desc := "(Lcom/example/crown1/crown1/value/Membership;)Lcom/example/crown1/crown1/value/Membership;", sig := { parameters := [(.object "com/example/crown1/crown1/value/Membership")], returnType := some (.object "com/example/crown1/crown1/value/Membership") }, accessFlags := 0, code := some k6c0 }
/-- com/example/crown1/crown1/value/Membership -/
def k6 : Class := { plain "com/example/crown1/crown1/value/Membership" (some 5) with
  accessFlags := 16432
  interfaces := #[]
  cf := some (fileOf pool6 1 #[] #[{ accessFlags := 0, nameIndex := 38, descriptorIndex := 39, attributes := #[] }] 16432 23 #[] #[{ accessFlags := 16409, nameIndex := 5, descriptorIndex := 6, attributes := #[] }, { accessFlags := 16409, nameIndex := 9, descriptorIndex := 6, attributes := #[] }, { accessFlags := 16409, nameIndex := 12, descriptorIndex := 6, attributes := #[] }, { accessFlags := 4122, nameIndex := 15, descriptorIndex := 16, attributes := #[] }])
  fields := #[{ name := "IN", type := (.object "com/example/crown1/crown1/value/Membership"), accessFlags := 16409, slot := 0, constantValue := 0 }, { name := "OUT", type := (.object "com/example/crown1/crown1/value/Membership"), accessFlags := 16409, slot := 1, constantValue := 0 }, { name := "UNDECIDED", type := (.object "com/example/crown1/crown1/value/Membership"), accessFlags := 16409, slot := 2, constantValue := 0 }, { name := "$VALUES", type := (.array (.object "com/example/crown1/crown1/value/Membership")), accessFlags := 4122, slot := 3, constantValue := 0 }]
  methods := #[k6m0]
  instanceTypes := #[(.object "java/lang/String"), .int, .int]
  staticTypes := #[(.object "com/example/crown1/crown1/value/Membership"), (.object "com/example/crown1/crown1/value/Membership"), (.object "com/example/crown1/crown1/value/Membership"), (.array (.object "com/example/crown1/crown1/value/Membership"))]
  resolved := Array.replicate 72 none
  statics := some 0 }

def pool7 : Array CpInfo := pool [(1, .class_ 2), (0, u "java/lang/Math"), (1, .class_ 6), (1, u "java/lang/Object"), (0, u "<init>"), (0, u "()V"), (89, .class_ 100), (1, u "java/lang/Math$RandomNumberGeneratorHolder"), (71, u "negativeZeroFloatBits"), (0, u "J"), (2, u "negativeZeroDoubleBits"), (21, u "max"), (46, u "$assertionsDisabled"), (0, u "Z"), (88, u "(II)I"), (2, u "twoToTheDoubleScaleDown"), (0, u "D"), (4, u "twoToTheDoubleScaleUp"), (9, u "E"), (3, u "PI"), (2, u "TAU"), (2, u "DEGREES_TO_RADIANS"), (0, u "RADIANS_TO_DEGREES")] 94

def k7m0 : Method := { name := "<init>", desc := "()V", sig := { parameters := [], returnType := none }, accessFlags := 2, code := none }
def k7c1 : Code := { maxStack := 2, maxLocals := 2, code := jdk_29_method_65_code, exceptionTable := #[], attributes := #[] }
def k7m1 : Method := { name := "max", desc := "(II)I", sig := { parameters := [.int, .int], returnType := some .int }, accessFlags := 9, code := some k7c1 }
/-- java/lang/Math -/
def k7 : Class := { plain "java/lang/Math" (some 0) with
  accessFlags := 49
  interfaces := #[]
  cf := some (fileOf pool7 1 #[.nestMembers #[98]] #[{ accessFlags := 2, nameIndex := 7, descriptorIndex := 8, attributes := #[] }, { accessFlags := 9, nameIndex := 198, descriptorIndex := 335, attributes := #[] }] 49 4 #[] #[{ accessFlags := 25, nameIndex := 354, descriptorIndex := 339, attributes := #[] }, { accessFlags := 25, nameIndex := 358, descriptorIndex := 339, attributes := #[] }, { accessFlags := 25, nameIndex := 361, descriptorIndex := 339, attributes := #[] }, { accessFlags := 26, nameIndex := 364, descriptorIndex := 339, attributes := #[] }, { accessFlags := 26, nameIndex := 365, descriptorIndex := 339, attributes := #[] }, { accessFlags := 26, nameIndex := 172, descriptorIndex := 173, attributes := #[] }, { accessFlags := 26, nameIndex := 176, descriptorIndex := 173, attributes := #[] }, { accessFlags := 8, nameIndex := 344, descriptorIndex := 339, attributes := #[] }, { accessFlags := 8, nameIndex := 338, descriptorIndex := 339, attributes := #[] }, { accessFlags := 4120, nameIndex := 245, descriptorIndex := 246, attributes := #[] }])
  fields := #[{ name := "E", type := .double, accessFlags := 25, slot := 0, constantValue := 0 }, { name := "PI", type := .double, accessFlags := 25, slot := 1, constantValue := 0 }, { name := "TAU", type := .double, accessFlags := 25, slot := 2, constantValue := 0 }, { name := "DEGREES_TO_RADIANS", type := .double, accessFlags := 26, slot := 3, constantValue := 0 }, { name := "RADIANS_TO_DEGREES", type := .double, accessFlags := 26, slot := 4, constantValue := 0 }, { name := "negativeZeroFloatBits", type := .long, accessFlags := 26, slot := 5, constantValue := 0 }, { name := "negativeZeroDoubleBits", type := .long, accessFlags := 26, slot := 6, constantValue := 0 }, { name := "twoToTheDoubleScaleUp", type := .double, accessFlags := 8, slot := 7, constantValue := 0 }, { name := "twoToTheDoubleScaleDown", type := .double, accessFlags := 8, slot := 8, constantValue := 0 }, { name := "$assertionsDisabled", type := .boolean, accessFlags := 4120, slot := 9, constantValue := 0 }]
  methods := #[k7m0, k7m1]
  instanceTypes := #[]
  staticTypes := #[.double, .double, .double, .double, .double, .long, .long, .double, .double, .boolean]
  resolved := Array.replicate 460 none
  statics := none }

def pool8 : Array CpInfo := pool [(1, u "java/lang/Cloneable"), (0, .class_ 1), (0, u "java/lang/Object"), (0, .class_ 3)] 3

/-- java/lang/Cloneable -/
def k8 : Class := { plain "java/lang/Cloneable" (some 0) with
  accessFlags := 1537
  interfaces := #[]
  cf := some (fileOf pool8 2 #[] #[] 1537 4 #[] #[])
  fields := #[]
  methods := #[]
  instanceTypes := #[]
  staticTypes := #[]
  resolved := Array.replicate 8 none
  statics := none }

/-- the primitive byte -/
def k9 : Class := { plain "byte" none with kind := .primitive 'B', accessFlags := 0x411 }
/-- [B -/
def k10 : Class := { plain "[B" (some 0) with kind := .array 9 .byte, interfaces := #[8, 4], accessFlags := 1041 }

/-- the primitive int -/
def k11 : Class := { plain "int" none with kind := .primitive 'I', accessFlags := 0x411 }
/-- [I -/
def k12 : Class := { plain "[I" (some 0) with kind := .array 11 .int, interfaces := #[8, 4], accessFlags := 1041 }

def heap : Heap := #[{ cls := 6, slots := #[.ref 1, .ref 2, .ref 3, .null], vm := .statics 6 },
  { cls := 6, slots := #[.null, .int 0, .int 0], vm := .none },
  { cls := 6, slots := #[.null, .int 1, .int 0], vm := .none },
  { cls := 6, slots := #[.null, .int 2, .int 0], vm := .none }]
def classes : Array Class := #[k0, k1, k2, k3, k4, k5, k6, k7, k8, k9, k10, k11, k12]
def interned : List (Array UInt16 × Addr) := []
def slotsUsed : Nat := 13
def theMethod : MethodId := ⟨1, 3⟩
def args0 : Array Value := #[.int 3, .int 1]
def aboutOver (below : List Frame) : State where
  vm := { classes := classes, interned := interned.toArray }
  heap := heap
  slotsUsed := slotsUsed
  threads := #[{ frames := .invoking theMethod args0 :: below }]
def below0 : List Frame := [.native { method := ⟨0, 0⟩, args := #[] }]
def about1 : State := aboutOver below0
def p0 : Program := .bare "" "" ""
def e0 : Env := launch0.env 0 0 0
theorem w_frames : about1.frames = Frame.invoking theMethod args0 :: below0 := rfl
set_option maxRecDepth 65536 in
theorem w_args : argsFit about1.vm theMethod args0 = true := by decide +kernel
set_option maxRecDepth 65536 in
theorem w_heap : heapFits about1 = true := by decide +kernel
set_option maxRecDepth 65536 in
theorem w_runnable : about1.curStatus? = some .runnable := by decide +kernel
set_option maxRecDepth 65536 in
theorem w_alone : about1.alone = true := by decide +kernel
set_option maxRecDepth 65536 in
theorem w_named : about1.methodNamed? x = some theMethod := by decide +kernel
set_option maxRecDepth 65536 in
theorem w_hears : about1.hears theMethod below0 = true := by decide +kernel
set_option maxRecDepth 65536 in
theorem w_ripe : about1.ripe theMethod args0 below0 = true := by decide +kernel
theorem w_running : about1.status = .running := rfl
set_option maxRecDepth 65536 in
theorem w_room : about1.hasRoom e0.platform room_1 = true :=
  launch0.hasRoom_least _ room_1 (by decide +kernel) (by decide +kernel) (by decide +kernel) (by decide +kernel) (by decide +kernel) (by decide +kernel)
theorem allAtoms_all (ts : List Jvm.Cond) (a : Array Jvm.Value) (st : Jvm.State) : (allAtoms ts).before a st = ts.all (fun c => c.before a st) := by
  induction ts with
  | nil => rfl
  | cons c t ih =>
    show (Jvm.Cond.and c (allAtoms t)).before a st = _
    rw [Jvm.Cond.before_and, ih, List.all_cons]
def words1 : List Jvm.Cond := Jvm.Cond.code x code maxLocals ret :: tables_1
/-- a 'code' word, met by the world's own term for the bytes: nothing is compared byte by byte -/
theorem code_word {y : MethodName} {bytes : ByteArray} {mx : Nat} {rt : Option FieldType} {a : Array Value} {s : State} {m : MethodId} {meth : Method} {c : Code} (h1 : s.methodNamed? y = some m) (h2 : s.vm.method? m = some meth) (h3 : meth.code = some c) (h4 : c.code = bytes)
    (h5 : (c.maxLocals == mx && c.exceptionTable.isEmpty && decide (c.maxStack ≤ mostOperands) && decide (meth.sig.returnType = rt) && !meth.locks && decide (parseMethodDescriptor y.desc = some meth.sig)) = true) : (Jvm.Cond.code y bytes mx rt).before a s = true := by
  simp only [Bool.and_eq_true, beq_iff_eq, Bool.not_eq_true', decide_eq_true_eq] at h5
  obtain ⟨⟨⟨⟨⟨g1, g2⟩, g3⟩, g4⟩, g5⟩, g6⟩ := h5
  simp [Cond.before, Cond.holds, Cond.value, h1, h2, h3, h4, g1, g2, g3, g4, g5, g6]
def isCode : Jvm.Cond → Bool
  | .code _ _ _ _ => true
  | _ => false
theorem all_split {L : List Jvm.Cond} {P : Jvm.Cond → Bool} (h1 : L.all (fun c => isCode c || P c) = true) (h2 : ∀ c ∈ L.filter isCode, P c = true) : L.all P = true := by
  refine List.all_eq_true.mpr fun c hc => ?_
  have h := List.all_eq_true.mp h1 c hc
  rcases Bool.eq_false_or_eq_true (isCode c) with hi | hi
  · exact h2 c (List.mem_filter.mpr ⟨hc, hi⟩)
  · simpa [hi] using h
set_option maxRecDepth 65536 in
theorem w_c0 : (Jvm.Cond.code x code maxLocals ret).before args0 about1 = true := code_word (m := ⟨1, 3⟩) (meth := k1m3) (c := k1c3) (by decide +kernel) rfl rfl rfl (by decide +kernel)
set_option maxRecDepth 65536 in
theorem w_c1 : (Jvm.Cond.code ({ cls := "com/example/crown1/crown1/value/MembershipOrPinLaw", name := "pick", desc := "(I)Lcom/example/crown1/crown1/value/Membership;" } : Jvm.MethodName) method_2_code (2 : Nat) (Option.some (Jvm.ClassFile.FieldType.object "com/example/crown1/crown1/value/Membership"))).before args0 about1 = true := code_word (m := ⟨1, 1⟩) (meth := k1m1) (c := k1c1) (by decide +kernel) rfl rfl rfl (by decide +kernel)
set_option maxRecDepth 65536 in
theorem w_c2 : (Jvm.Cond.code ({ cls := "com/example/crown1/crown1/value/Membership", name := "or", desc := "(Lcom/example/crown1/crown1/value/Membership;)Lcom/example/crown1/crown1/value/Membership;" } : Jvm.MethodName) prog_180_method_5_code (3 : Nat) (Option.some (Jvm.ClassFile.FieldType.object "com/example/crown1/crown1/value/Membership"))).before args0 about1 = true := code_word (m := ⟨6, 0⟩) (meth := k6m0) (c := k6c0) (by decide +kernel) rfl rfl rfl (by decide +kernel)
set_option maxRecDepth 65536 in
theorem w_c3 : (Jvm.Cond.code ({ cls := "com/example/crown1/crown1/value/MembershipOrPinLaw", name := "rank", desc := "(Lcom/example/crown1/crown1/value/Membership;)I" } : Jvm.MethodName) method_3_code (1 : Nat) (Option.some Jvm.ClassFile.FieldType.int)).before args0 about1 = true := code_word (m := ⟨1, 2⟩) (meth := k1m2) (c := k1c2) (by decide +kernel) rfl rfl rfl (by decide +kernel)
set_option maxRecDepth 65536 in
theorem w_c4 : (Jvm.Cond.code ({ cls := "java/lang/Math", name := "max", desc := "(II)I" } : Jvm.MethodName) jdk_29_method_65_code (2 : Nat) (Option.some Jvm.ClassFile.FieldType.int)).before args0 about1 = true := code_word (m := ⟨7, 1⟩) (meth := k7m1) (c := k7c1) (by decide +kernel) rfl rfl rfl (by decide +kernel)
def codes1 : List Jvm.Cond := [Jvm.Cond.code x code maxLocals ret, Jvm.Cond.code ({ cls := "com/example/crown1/crown1/value/MembershipOrPinLaw", name := "pick", desc := "(I)Lcom/example/crown1/crown1/value/Membership;" } : Jvm.MethodName) method_2_code (2 : Nat) (Option.some (Jvm.ClassFile.FieldType.object "com/example/crown1/crown1/value/Membership")), Jvm.Cond.code ({ cls := "com/example/crown1/crown1/value/Membership", name := "or", desc := "(Lcom/example/crown1/crown1/value/Membership;)Lcom/example/crown1/crown1/value/Membership;" } : Jvm.MethodName) prog_180_method_5_code (3 : Nat) (Option.some (Jvm.ClassFile.FieldType.object "com/example/crown1/crown1/value/Membership")), Jvm.Cond.code ({ cls := "com/example/crown1/crown1/value/MembershipOrPinLaw", name := "rank", desc := "(Lcom/example/crown1/crown1/value/Membership;)I" } : Jvm.MethodName) method_3_code (1 : Nat) (Option.some Jvm.ClassFile.FieldType.int), Jvm.Cond.code ({ cls := "java/lang/Math", name := "max", desc := "(II)I" } : Jvm.MethodName) jdk_29_method_65_code (2 : Nat) (Option.some Jvm.ClassFile.FieldType.int)]
set_option maxRecDepth 65536 in
theorem codes_eq : words1.filter isCode = codes1 := rfl
theorem w_codes : ∀ c ∈ words1.filter isCode, c.before args0 about1 = true := by
  rw [codes_eq]
  intro c hc
  simp only [codes1, List.mem_cons, List.not_mem_nil, or_false] at hc
  rcases hc with rfl | rfl | rfl | rfl | rfl
  · exact w_c0
  · exact w_c1
  · exact w_c2
  · exact w_c3
  · exact w_c4
set_option maxRecDepth 65536 in
theorem w_t1 : (words1.take 24).all (fun c => isCode c || c.before args0 about1) = true := by decide +kernel
set_option maxRecDepth 65536 in
theorem w_t2 : (words1.drop 24).all (fun c => isCode c || c.before args0 about1) = true := by decide +kernel
theorem w_tables : (allAtoms (Jvm.Cond.code x code maxLocals ret :: tables_1)).before args0 about1 = true := by
  rw [allAtoms_all]
  show words1.all (fun c => c.before args0 about1) = true
  refine all_split ?_ w_codes
  rw [← List.take_append_drop 24 words1, List.all_append, w_t1, w_t2]
  rfl
set_option maxRecDepth 65536 in
theorem w_case : (Jvm.Cond.and given_1 narrow_1).before args0 about1 = true := by decide +kernel
theorem w_applies : (headSpec (Jvm.Cond.code x code maxLocals ret :: tables_1) room_1).applies x e0.platform about1 = true :=
  (Spec.applies_iff w_frames).mpr ⟨w_running, w_runnable, w_alone, w_named, w_hears, w_ripe, w_room, w_tables⟩
theorem atStart : AtStart classFile x code maxLocals ret World_1 tables_1 room_1 Calls_1 rest_1 Pre_1 launch0 p0 e0 about1 theMethod args0 below0 :=
  ⟨lists_1, trivial, launch0.admits_env _ _ _, launch0.least_env, fairChoices_fair.cas, fairChoices_fair.clock, w_frames, w_args, w_heap, w_applies, trivial, trivial, w_case⟩
end start1
theorem witness_1 : WitnessClaimed_1 := ⟨start1.p0, start1.e0, start1.about1, start1.theMethod, start1.args0, start1.below0, start1.atStart⟩
end Jvm.Pilot.@@N@@
