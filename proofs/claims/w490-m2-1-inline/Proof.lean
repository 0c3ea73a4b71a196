import JvmDerived
import JvmDerived.Pilot.@@N@@Statement
import JvmDerived.Pilot.@@N@@Code
set_option linter.unusedVariables false
set_option linter.unusedSimpArgs false
namespace Jvm.Pilot.@@N@@
open Jvm Jvm.ClassFile Sem Op Lib Jvm.Free Jvm.Stand Jvm.LawKit Jvm.RoadKit Bundle Jvm.Pilot.@@N@@.Jvm.D
/-! the goal form of a walk: from S the run ends in Q -/
def own_Gl (p : Program) (e : Env) (below : List Frame) (Q : Outcome → State → Prop) (S : State) : Prop := ∃ s₂ o, Steps p.tables e below S s₂ ∧ s₂.status = .running ∧ Ended s₂ below o ∧ Q o s₂
def own_Post (s : State) (Q : Option Value → Heap → List Loc → Prop) (C N : Nat) : Outcome → State → Prop := fun o U' => ∃ v L, o = .returned v ∧ Q v U'.heap L ∧ FrameEnd s o U' L C N
section Own
variable {p : Program} {l : Launch} {e : Env} {R : Room} {s : State} {m : MethodId} {args : Array Value} {below : List Frame} {meth : Method} {c : Code} {T : State} {locs : List Loc} {cells slots : Nat} {Q : Outcome → State → Prop} {QQ : Option Value → Heap → List Loc → Prop} {S S' : State} {C N : Nat} {h : Heap}
theorem own_st (st : ∀ t, Steps p.tables e below S' t → Steps p.tables e below S t) (g : own_Gl p e below Q S') : own_Gl p e below Q S := by
  obtain ⟨s₂, o, h1, h2⟩ := g; exact ⟨s₂, o, st _ h1, h2⟩
theorem own_tr (st : Steps p.tables e below S S') (g : own_Gl p e below Q S') : own_Gl p e below Q S := by
  obtain ⟨s₂, o, h1, h2⟩ := g; exact ⟨s₂, o, st.trans h1, h2⟩
theorem own_retO (X : Stand p l e R s m args below meth c T locs cells slots) (hx : p.tables.exec = Jvm.exec) (hlk : meth.locks = false) {pc : Nat} {Ls : Array Slot} {w : Value} {t : FieldType} {i : Instr} {rest : List Value} (hret : meth.sig.returnType = some t) (hn : narrow t w = w)
    (hi : (i = .ireturn ∧ (t = .int ∨ t = .boolean ∨ t = .byte ∨ t = .char ∨ t = .short) ∧ ∃ z, w = .int z) ∨ (i = .lreturn ∧ t = .long ∧ ∃ z, w = .long z) ∨ (i = .dreturn ∧ t = .double ∧ ∃ z, w = .double z) ∨ (i = .freturn ∧ t = .float ∧ ∃ z, w = .float z) ∨ (i = .areturn ∧ t.isReference = true ∧ w.isRef = true))
    (hd : decode c.code pc = .ok (i, 1)) (hc : cells ≤ C) (hs : slots ≤ N) (eT : T.heap = h) (hq : QQ (some w) h locs) : own_Gl p e below (own_Post s QQ C N) (T.setTop (mkF m pc Ls (w :: rest))) := by
  obtain ⟨fs, hr, hrun, hended, hW, hsame⟩ := X.leave (v := some w) (fun h => by rw [hret] at h; cases h) hlk
  subst eT
  exact ⟨_, _, retOut X hx hret hn hi hd hr, hrun, hended, _, _, rfl, hq, ⟨_, rfl⟩, hW, hsame.mono hc hs⟩
theorem own_retI (X : Stand p l e R s m args below meth c T locs cells slots) (hx : p.tables.exec = Jvm.exec) (hlk : meth.locks = false) {pc : Nat} {Ls : Array Slot} {z : Int32} {rest : List Value} (hret : meth.sig.returnType = some .int)
    (hd : decode c.code pc = .ok (.ireturn, 1)) (hc : cells ≤ C) (hs : slots ≤ N) (eT : T.heap = h) (hq : QQ (some (.int z)) h locs) : own_Gl p e below (own_Post s QQ C N) (T.setTop (mkF m pc Ls (.int z :: rest))) :=
  own_retO X hx hlk hret rfl (Or.inl ⟨rfl, Or.inl rfl, z, rfl⟩) hd hc hs eT hq
theorem own_retL (X : Stand p l e R s m args below meth c T locs cells slots) (hx : p.tables.exec = Jvm.exec) (hlk : meth.locks = false) {pc : Nat} {Ls : Array Slot} {z : Int64} {rest : List Value} (hret : meth.sig.returnType = some .long)
    (hd : decode c.code pc = .ok (.lreturn, 1)) (hc : cells ≤ C) (hs : slots ≤ N) (eT : T.heap = h) (hq : QQ (some (.long z)) h locs) : own_Gl p e below (own_Post s QQ C N) (T.setTop (mkF m pc Ls (.long z :: rest))) :=
  own_retO X hx hlk hret rfl (Or.inr (Or.inl ⟨rfl, rfl, z, rfl⟩)) hd hc hs eT hq
theorem own_nref {t : FieldType} {w : Value} (h : w.isRef = true) : narrow t w = w := by cases t <;> cases w <;> first | rfl | simp [Value.isRef] at h
theorem own_retA (X : Stand p l e R s m args below meth c T locs cells slots) (hx : p.tables.exec = Jvm.exec) (hlk : meth.locks = false) {pc : Nat} {Ls : Array Slot} {w : Value} {t : FieldType} {rest : List Value} (hret : meth.sig.returnType = some t) (ht : t.isReference = true) (hw : w.isRef = true)
    (hd : decode c.code pc = .ok (.areturn, 1)) (hc : cells ≤ C) (hs : slots ≤ N) (eT : T.heap = h) (hq : QQ (some w) h locs) : own_Gl p e below (own_Post s QQ C N) (T.setTop (mkF m pc Ls (w :: rest))) :=
  own_retO X hx hlk hret (own_nref hw) (Or.inr (Or.inr (Or.inr (Or.inr ⟨rfl, ht, hw⟩)))) hd hc hs eT hq
theorem own_retN (X : Stand p l e R s m args below meth c T locs cells slots) (hx : p.tables.exec = Jvm.exec) (hlk : meth.locks = false) {pc : Nat} {Ls : Array Slot} {z : Int32} {t : FieldType} {rest : List Value} (hret : meth.sig.returnType = some t) (ht : t = .boolean ∨ t = .byte ∨ t = .char ∨ t = .short)
    (hd : decode c.code pc = .ok (.ireturn, 1)) (hc : cells ≤ C) (hs : slots ≤ N) (eT : T.heap = h) (hq : QQ (some (.int (nar t z))) h locs) : own_Gl p e below (own_Post s QQ C N) (T.setTop (mkF m pc Ls (.int z :: rest))) := by
  obtain ⟨fs, hr, hrun, hended, hW, hsame⟩ := X.leave (v := some (.int (nar t z))) (fun h => by rw [hret] at h; cases h) hlk
  subst eT
  exact ⟨_, _, retN X hx hret ht hd hr, hrun, hended, _, _, rfl, hq, ⟨_, rfl⟩, hW, hsame.mono hc hs⟩
theorem own_retV (X : Stand p l e R s m args below meth c T locs cells slots) (hx : p.tables.exec = Jvm.exec) (hlk : meth.locks = false) {pc : Nat} {Ls : Array Slot} (hret : meth.sig.returnType = none)
    (hd : decode c.code pc = .ok (.return_, 1)) (hc : cells ≤ C) (hs : slots ≤ N) (eT : T.heap = h) (hq : QQ none h locs) : own_Gl p e below (own_Post s QQ C N) (T.setTop (mkF m pc Ls [])) := by
  obtain ⟨fs, hr, hrun, hended, hW, hsame⟩ := X.leave (v := none) (fun _ => rfl) hlk
  subst eT
  exact ⟨_, _, X.returnOut hx hret hd hr, hrun, hended, _, _, rfl, hq, ⟨_, rfl⟩, hW, hsame.mono hc hs⟩
theorem own_ext_refl (h : Heap) : Ext h h := ⟨Nat.le_refl _, fun _ _ q => q⟩
theorem own_ext_tr {h0 h h' : Heap} (A : Ext h0 h) (B : Ext h h') : Ext h0 h' := ⟨Nat.le_trans A.1 B.1, fun x c q => B.2 x c (A.2 x c q)⟩
theorem own_ext_keep {h0 h h' : Heap} {ws : List Addr} (A : Ext h0 h) (K : Keep h h' ws) (q : ∀ x ∈ ws, h0.size ≤ x) : Ext h0 h' := ⟨Nat.le_trans A.1 K.1, fun x c r => K.2.1 x c (A.2 x c r) fun z => absurd (Array.getElem?_eq_some_iff.mp r).1 (Nat.not_lt.mpr (q x z))⟩
theorem own_ext_wr {h0 h h' : Heap} {a : Addr} {sl : Nat} {v : Value} (A : Ext h0 h) (W : Wr h h' a sl v) (q : h0.size ≤ a) : Ext h0 h' := own_ext_keep A (Keep.of_wr W) (allS q all0)
theorem own_sta_keep {Z : State} {h h' : Heap} {ws : List Addr} {C n d : String} {v : Value} (F : Sta Z h C n d v) (K : Keep h h' ws) (q : ∀ x ∈ ws, ∀ cell : Cell, h[x]? = some cell → cell.vm.isStatics = false) : Sta Z h' C n d v := by
  obtain ⟨cf, i, k, f, st, cell, h1, h2, h3, h4, h5, h6, h7⟩ := F
  exact ⟨cf, i, k, f, st, cell, h1, h2, h3, h4, K.2.1 _ _ h5 (fun z => by rw [q _ z _ h5] at h6; cases h6), h6, h7⟩
end Own
section Words
variable {Z : State} {args : Array Value} {t u : Term} {a : Addr} {cl : Cell} {ty : FieldType}
theorem own_fldI {C n d : String} {k : Int32} (ht : t.eval args Z none [] Z = some (.ref a)) (h : (Cond.eq (Term.field t C n d) (Term.int k)).value args Z none Z [] = some true) : Fld Z Z.heap a C n d (.int k) := by
  refine Fld.start ?_
  have e := fld_at (C := C) (n := n) (dd := d) ht
  cases hv : Z.fieldOf? a C n d with
  | none => rw [hv] at e; simp [Cond.value, e] at h
  | some v => rw [hv] at e; have ek := Term.int_eval (args := args) (first := Z) (o := none) (idx := []) (s := Z) k; cases v <;> simp only [Cond.value, e, ek] at h <;> first | (cases h; done) | (simp at h; rw [h])
theorem own_fldL {C n d : String} {k : Int64} (ht : t.eval args Z none [] Z = some (.ref a)) (h : (Cond.eq (Term.field t C n d) (Term.long k)).value args Z none Z [] = some true) : Fld Z Z.heap a C n d (.long k) := by
  refine Fld.start ?_
  have e := fld_at (C := C) (n := n) (dd := d) ht
  cases hv : Z.fieldOf? a C n d with
  | none => rw [hv] at e; simp [Cond.value, e] at h
  | some v => rw [hv] at e; have ek : (Term.long k).eval args Z none [] Z = some (.long k) := rfl; cases v <;> simp only [Cond.value, e, ek] at h <;> first | (cases h; done) | (simp at h; rw [h])
theorem own_fldR {C n d : String} {b : Addr} (ht : t.eval args Z none [] Z = some (.ref a)) (h : (Term.field t C n d).eval args Z none [] Z = some (.ref b)) : Fld Z Z.heap a C n d (.ref b) := Fld.start ((fld_at ht).symm.trans h)
theorem own_len {n : Int32} (ht : t.eval args Z none [] Z = some (.ref a)) (A : Arr Z Z.heap a cl ty) (h : (Cond.eq (Term.length t) (Term.int n)).value args Z none Z [] = some true) : cl.slots.size < 2 ^ 31 ∧ cl.slots.size.toInt32 = n := by
  have ha := A.fin (Vm.Alike.refl _)
  have ek : (Term.int n).eval args Z none [] Z = some (.int n) := rfl
  by_cases hl : cl.slots.size < 2 ^ 31
  · have e := len_f ht ha hl
    simp only [Cond.value, e, ek] at h
    exact ⟨hl, by simpa using h⟩
  · exfalso
    have e : (Term.length t).eval args Z none [] Z = none := by simp [Term.eval, ht, ha, hl]
    simp [Cond.value, e] at h
theorem own_elemI {j k : Int32} (ht : t.eval args Z none [] Z = some (.ref a)) (A : Arr Z Z.heap a cl ty) (h : (Cond.eq (Term.elem t (Term.int j)) (Term.int k)).value args Z none Z [] = some true) : cl.slots[j.toNatClampNeg]? = some (.int k) := by
  have ek : (Term.int k).eval args Z none [] Z = some (.int k) := rfl
  cases hv : (Term.elem t (Term.int j)).eval args Z none [] Z with
  | none => simp [Cond.value, hv] at h
  | some v =>
    have q := (elem_in hv ht (Term.int_eval j) A.1).2
    rw [q]
    cases v <;> simp only [Cond.value, hv, ek] at h <;> first | (cases h; done) | (simp at h; rw [h])
theorem own_elemR {j : Int32} {b : Addr} (ht : t.eval args Z none [] Z = some (.ref a)) (A : Arr Z Z.heap a cl ty) (hu : u.eval args Z none [] Z = some (.ref b)) (h : (Cond.eq (Term.elem t (Term.int j)) u).value args Z none Z [] = some true) : cl.slots[j.toNatClampNeg]? = some (.ref b) := by
  cases hv : (Term.elem t (Term.int j)).eval args Z none [] Z with
  | none => simp [Cond.value, hv] at h
  | some v =>
    have q := (elem_in hv ht (Term.int_eval j) A.1).2
    rw [q]
    cases v <;> simp only [Cond.value, hv, hu] at h <;> first | (cases h; done) | (simp at h; rw [h])
end Words
theorem own_ofn {n : Nat} (h : n < 2 ^ 31) : (Int32.ofNat n).toInt = n := Int32.toInt_ofNat_of_lt h
theorem own_ofn_lt {a b : Nat} (ha : a < 2 ^ 31) (hb : b < 2 ^ 31) : (Int32.ofNat a < Int32.ofNat b) ↔ a < b := by rw [Int32.lt_iff_toInt_lt, own_ofn ha, own_ofn hb]; omega
theorem own_ofn_nn {n : Nat} (h : n < 2 ^ 31) : ¬ Int32.ofNat n < 0 := by rw [Int32.lt_iff_toInt_lt, own_ofn h]; simp
theorem own_ofn_clamp {n : Nat} (h : n < 2 ^ 31) : (Int32.ofNat n).toNatClampNeg = n := by simp only [Int32.toNatClampNeg, own_ofn h]; omega
theorem own_ofn_add (a b : Nat) : Int32.ofNat a + Int32.ofNat b = Int32.ofNat (a + b) := (Int32.ofNat_add a b).symm
theorem own_ofn_inj {a b : Nat} (ha : a < 2 ^ 31) (hb : b < 2 ^ 31) (h : Int32.ofNat a = Int32.ofNat b) : a = b := by have := congrArg Int32.toInt h; rw [own_ofn ha, own_ofn hb] at this; omega
/-! an array's next place -/
section Push
variable {Z : State} {h h' : Heap} {a : Addr} {k : ClassId} {ty : FieldType} {z : Int32} {vs : List Value} {dv v : Value} {c : Cell}
theorem own_pad (F : Arv Z h a k ty z vs dv) : Arv Z h a k ty z (vs ++ [dv]) dv := F.pad (pad_rep vs dv 1)
theorem own_push {j : Int32} (A : Arr Z h a c ty) (q1 : c.cls = k) (S : c.slots.size = z.toNatClampNeg) (q3 : ¬ z < 0) (H : Has c (vs ++ [dv]) dv) (G : ∀ i, i < c.slots.size → fits ty ((vs ++ [dv]).getD i dv) = true) (hv : fits ty v = true) (W : Wr h h' a j.toNatClampNeg v) (hj : j.toNatClampNeg = vs.length) : Arv Z h' a k ty z (vs ++ [v]) dv := by
  have q := Arv.set A q1 S q3 H G hv W vs.length hj (by simp)
  have e : (vs ++ [dv]).set vs.length v = vs ++ [v] := by rw [List.set_append_right _ _ (Nat.le_refl _)]; simp
  rw [e] at q; exact q
end Push
theorem own_narb {b : Int32} (h : fits .byte (.int b) = true) : nar .byte b = b := by
  have := rng_byte h
  have c := c_i2b b
  show b.toInt8.toInt32 = b
  rw [Int32.lt_iff_toInt_lt, Int32.lt_iff_toInt_lt] at this
  have e1 : (-128 : Int32).toInt = -128 := by decide
  have e2 : (127 : Int32).toInt = 127 := by decide
  exact Int32.toInt_inj.mp (by omega)
theorem own_narb8 (x : Int32) : nar .byte x.toInt8.toInt32 = x.toInt8.toInt32 := own_narb (fits_nar_byte x)
theorem own_narc {c : Int32} (h0 : ¬ c < 0) (h1 : ¬ (255 : Int32) < c) : nar .char c = c := by
  have q := c_i2c c
  show c.toUInt32.toUInt16.toUInt32.toInt32 = c
  rw [Int32.lt_iff_toInt_lt] at h0 h1
  have e1 : (0 : Int32).toInt = 0 := by decide
  have e2 : (255 : Int32).toInt = 255 := by decide
  exact Int32.toInt_inj.mp (by omega)
theorem own_fitc {c : Int32} (h0 : ¬ c < 0) (h1 : ¬ (255 : Int32) < c) : fits .char (.int c) = true := by
  have := fits_nar_char c; rwa [own_narc h0 h1] at this
section Decl
variable {Z : State} {a0 : Array Value} {y z : MethodName} {bytes : ByteArray} {maxL : Nat} {rt : Option FieldType} {C : String}
theorem own_decl (h1 : (Cond.instanceMethod y).before a0 Z = true) (h2 : (Cond.code y bytes maxL rt).before a0 Z = true) : (Cond.declares y).before a0 Z = true := by
  obtain ⟨mk, methM, hnamed, hmethM, hstM, habM⟩ := Cond.instanceMethod_spec h1
  obtain ⟨m2, cM, q1, -, -, -, -, -, -, hsig⟩ := Cond.code_spec hnamed h2
  cases hmethM.symm.trans q1
  simp [Cond.before, Cond.holds, Cond.value, hnamed, hmethM, hstM, hsig]
theorem own_nf (hsel : (Cond.selects C z z).before a0 Z = true) (hz : z.cls = y.cls) : NotFace Z y := fun r0 h0 => by
  obtain ⟨c2, r2, m2, q1, q2, q3, q4, kP, hkP, hkPi⟩ := Cond.selects_spec hsel
  have e1 := findClass_of_methodNamed h0
  have e2 := findClass_of_methodNamed q3
  rw [hz] at e2
  have e3 := Option.some.inj (e1.symm.trans e2)
  exact ⟨kP, by rw [e3]; exact hkP, hkPi⟩
theorem own_same (h1 : (Cond.instanceMethod y).before a0 Z = true) (hsel : (Cond.selects C z z).before a0 Z = true) (hz : z.cls = y.cls) (hy : y.cls ≠ "java/lang/invoke/MethodHandle" ∧ y.cls ≠ "java/lang/invoke/VarHandle") : (Cond.sameMethod y.cls y.cls y.name y.desc).before a0 Z = true := by
  obtain ⟨mk, methM, hnamed, hmethM, hstM, habM⟩ := Cond.instanceMethod_spec h1
  obtain ⟨kP, hkP, hkPi⟩ := own_nf (y := y) hsel hz mk hnamed
  have hf := State.methodFound?_of_named hnamed hy
  have e1 := findClass_of_methodNamed hnamed
  simp [Cond.before, Cond.holds, Cond.value, e1, hf, hnamed, hkP, hkPi]
end Decl
/-! the table of digits -/
section Tab
variable {Z : State} {args : Array Value} {t : Term}
theorem own_tab (h1 : (Cond.exactly t "[B").value args Z none Z [] = some true) (h2 : (Cond.eq (Term.length t) (Term.int (100 : Int32))).value args Z none Z [] = some true) (h3 : (Cond.arrayClass .byte).before args Z = true) : ∃ (d : Addr) (D : Cell), t.eval args Z none [] Z = some (.ref d) ∧ Arr Z Z.heap d D .byte ∧ D.slots.size = 100 := by
  obtain ⟨d, ev⟩ := exa_v h1
  have E := Exa.start ev h1
  cases hq : Z.arrayAt? d with
  | none => exfalso; have e : (Term.length t).eval args Z none [] Z = none := by simp [Term.eval, ev, hq]
            simp [Cond.value, e] at h2
  | some D =>
    have hD := State.arrayAt?_spec hq
    have A : Arr Z Z.heap d D .byte := by
      obtain ⟨cell, k, e1, e2, e3, e4, -⟩ := E
      obtain rfl : cell = D := Option.some.inj (e1.symm.trans hD.1)
      obtain ⟨cb, kb, comp, f1, f2, f3⟩ := Cond.arrayClass_spec h3
      have f1 : Z.vm.findClass "[B" = some cb := f1
      obtain rfl : cb = cell.cls := Option.some.inj (f1.symm.trans e2)
      exact ⟨e1, ⟨fun q h => (by rw [h] at e4; cases e4), kb, f2, comp, f3⟩, hD.2.1⟩
    obtain ⟨q1, q2⟩ := own_len ev A h2
    refine ⟨d, D, ev, A, ?_⟩
    have := congrArg Int32.toInt q2
    rw [len_toInt q1] at this
    have e : (100 : Int32).toInt = 100 := by decide
    omega
def own_ones : List Value := (List.range 100).map fun i => Value.int (Int32.ofNat (48 + i % 10))
theorem own_ones_at {r : Nat} (h : r < 100) : own_ones.getD r (.int 0) = .int (Int32.ofNat (48 + r % 10)) := by simp [own_ones, h]
theorem own_hasL {D : Cell} : ∀ (vs : List Value) (i : Nat), (∀ j, j < vs.length → D.slots[i + j]? = some (vs.getD j (.int 0))) → HasL D i vs
  | [], _, _ => trivial
  | v :: r, i, h => ⟨h 0 (by simp), own_hasL r (i + 1) fun j hj => by rw [Nat.add_right_comm, Nat.add_assoc]; exact h (j + 1) (by simpa using hj)⟩
theorem own_arv100 {d : Addr} {D : Cell} {vs : List Value} (hf : Fit Z) (A : Arr Z Z.heap d D .byte) (hs : D.slots.size = 100) (hl : vs.length = 100) (H : ∀ i, i < 100 → D.slots[i]? = some (vs.getD i (.int 0))) : Arv Z Z.heap d D.cls .byte (100 : Int32) vs (.int 0) :=
  Arv.start hf A (by omega) (by rw [hs]; rfl) (by decide) (by rw [hl]; rfl) (own_hasL vs 0 fun j hj => by rw [Nat.zero_add]; exact H j (by omega))
theorem own_fitI {v : Value} (h : fits .byte v = true) : ∃ x, v = .int x := by cases v <;> simp [fits] at h; exact ⟨_, rfl⟩
theorem own_ten_arv {d : Addr} {D : Cell} (hf : Fit Z) (A : Arr Z Z.heap d D .byte) (hs : D.slots.size = 100) : ∃ K : List Int32, Arv Z Z.heap d D.cls .byte (100 : Int32) (K.map Value.int) (.int 0) := by
  have V := own_arv100 (vs := D.slots.toList) hf A hs (by simpa using hs) (fun i hi => by simp [List.getD_eq_getElem?_getD, show i < D.slots.size by omega])
  obtain ⟨D', A', -, S', -, H', G'⟩ := id V
  cases A.1.symm.trans A'.1
  refine ⟨(List.range 100).map fun i => (match D.slots.toList.getD i (.int 0) with | .int x => x | _ => 0), own_arv100 hf A hs (by simp) fun i hi => ?_⟩
  rw [H' i (by omega)]
  obtain ⟨x, ex⟩ := own_fitI (G' i (by omega))
  rw [ex]; simp [hi, ex]
  all_goals (try (rw [List.getD_eq_getElem?_getD] at ex; simp_all))
theorem own_one_arv {d : Addr} {D : Cell} (hf : Fit Z) (hev : ∀ idx, t.eval args Z none idx Z = some (.ref d)) (A : Arr Z Z.heap d D .byte) (hs : D.slots.size = 100) (h : (Cond.all t (Cond.eq (Term.elem t (Term.index (0 : Nat))) (Term.add (Term.int (48 : Int32)) (Term.rem (Term.index (0 : Nat)) (Term.int (10 : Int32)))))).value args Z none Z [] = some true) : Arv Z Z.heap d D.cls .byte (100 : Int32) own_ones (.int 0) := by
  refine own_arv100 hf A hs (by simp [own_ones]) fun i hi => ?_
  have hA := A.fin (Vm.Alike.refl _)
  have q := Cond.all_elim (hev []) hA h i (by omega)
  have ei : (Term.index (0 : Nat)).eval args Z none [i] Z = some (.int (Nat.toInt32 i)) := rfl
  have er : (Term.add (Term.int (48 : Int32)) (Term.rem (Term.index (0 : Nat)) (Term.int (10 : Int32)))).eval args Z none [i] Z = some (.int (48 + Nat.toInt32 i % 10)) := by simp [Term.eval]
  cases hv : (Term.elem t (Term.index (0 : Nat))).eval args Z none [i] Z with
  | none => simp only [Cond.value, hv] at q; cases q
  | some v =>
    have q2 := (elem_in hv (hev [i]) ei A.1).2
    have e1 : (Nat.toInt32 i).toNatClampNeg = i := by simp only [Int32.toNatClampNeg, len_toInt (show i < 2 ^ 31 by omega)]; rfl
    rw [e1] at q2
    rw [q2, own_ones_at hi]
    have e2 : (48 + Nat.toInt32 i % 10 : Int32) = Int32.ofNat (48 + i % 10) := (by decide +kernel : ∀ i : Fin 100, (48 + Nat.toInt32 i.1 % 10 : Int32) = Int32.ofNat (48 + i.1 % 10)) ⟨i, hi⟩
    rw [e2] at er
    cases v <;> simp only [Cond.value, hv, er] at q <;> first | (cases q; done) | (simp at q; rw [q, Int32.ofNat_add]; rfl)
end Tab
/-! digits -/
def own_D (k : Int) (n : Nat) : Prop := (n = 1 ∧ 1 ≤ k ∧ k < 10) ∨ (n = 2 ∧ 10 ≤ k ∧ k < 100) ∨ (n = 3 ∧ 100 ≤ k ∧ k < 1000) ∨ (n = 4 ∧ 1000 ≤ k ∧ k < 10000) ∨ (n = 5 ∧ 10000 ≤ k ∧ k < 100000) ∨ (n = 6 ∧ 100000 ≤ k ∧ k < 1000000) ∨ (n = 7 ∧ 1000000 ≤ k ∧ k < 10000000) ∨ (n = 8 ∧ 10000000 ≤ k ∧ k < 100000000) ∨ (n = 9 ∧ 100000000 ≤ k ∧ k < 1000000000) ∨ (n = 10 ∧ 1000000000 ≤ k ∧ k < 10000000000)
theorem own_D_le {k : Int} {n : Nat} (h : own_D k n) : 1 ≤ n ∧ n ≤ 10 ∧ 1 ≤ k := by unfold own_D at h; rcases h with h | h | h | h | h | h | h | h | h | h <;> omega
theorem own_D_uniq {k : Int} {n n' : Nat} (h : own_D k n) (h' : own_D k n') : n = n' := by
  unfold own_D at h h'; rcases h with h | h | h | h | h | h | h | h | h | h <;> omega
theorem own_D_step {k : Int} {n : Nat} (h : own_D k n) (hk : ¬ k < 100) : own_D (k / 100) (n - 1 - 1) ∧ 3 ≤ n := by
  unfold own_D at h ⊢; rcases h with h | h | h | h | h | h | h | h | h | h <;> omega
theorem own_D_end {k : Int} {n : Nat} (h : own_D k n) (hk : k < 100) : (n = 1 ∧ 1 ≤ k ∧ k < 10) ∨ (n = 2 ∧ 10 ≤ k ∧ k < 100) := by
  unfold own_D at h; rcases h with h | h | h | h | h | h | h | h | h | h <;> omega
def own_dg (sv : Int32) : Int32 := Int32.ofNat (48 + sv.toInt.toNat % 10)
theorem own_neg {sv : Int32} (h1 : 1 ≤ sv.toInt) : (-sv).toInt = -sv.toInt := by
  have r := rng32 sv; have n1 := c_ineg sv; have n2 := rng32 (-sv); omega
theorem own_cm {z sv : Int32} {k : Int} (hc : z.toInt = -k) (h1 : 1 ≤ sv.toInt) : (z < -sv) ↔ sv.toInt < k := by rw [Int32.lt_iff_toInt_lt, own_neg h1]; omega
theorem own_cl {z sv : Int32} {k : Int} (hc : z.toInt = k) : sv < z ↔ sv.toInt < k := by rw [Int32.lt_iff_toInt_lt, hc]
theorem own_nn {sv : Int32} (h1 : 1 ≤ sv.toInt) : ¬ sv < 0 := by
  rw [Int32.lt_iff_toInt_lt]; have e : (0 : Int32).toInt = 0 := by decide
  omega
theorem own_gt {q z : Int32} {k : Int} (hq : q.toInt = -k) (j : Int) (hc : z.toInt = -j) : (z < q) ↔ k < j := by rw [Int32.lt_iff_toInt_lt]; omega
theorem own_lt {q z : Int32} {k : Int} (hq : q.toInt = -k) (j : Int) (hc : z.toInt = -j) : (q < z) ↔ j < k := by rw [Int32.lt_iff_toInt_lt]; omega
theorem own_div100 {q : Int32} {k : Int} (hq : q.toInt = -k) (hk : 1 ≤ k) : (q / (100 : Int32)).toInt = -(k / 100) := by
  have h := (c_idiv q 100 100 (by decide) (by decide)).2 (by omega)
  rw [h, hq, Int.neg_neg]
theorem own_rem100 {q : Int32} {k : Int} (hq : q.toInt = -k) (hk : 1 ≤ k) : ((q / (100 : Int32)) * (100 : Int32) - q).toInt = k % 100 := by
  have d := own_div100 hq hk
  have a := c_imul (q / (100 : Int32)) 100
  have b := c_isub ((q / (100 : Int32)) * (100 : Int32)) q
  have e : (100 : Int32).toInt = 100 := by decide
  rw [e, d] at a
  have r1 := rng32 ((q / (100 : Int32)) * (100 : Int32)); have r2 := rng32 ((q / (100 : Int32)) * (100 : Int32) - q); have r3 := rng32 q
  omega
theorem own_toofn {x : Int32} {j : Nat} (hj : j < 2 ^ 31) (h : x.toInt = j) : x = Int32.ofNat j := Int32.toInt_inj.mp (by rw [own_ofn hj]; exact h)
theorem own_pred {n : Nat} (h1 : 1 ≤ n) (h2 : n ≤ 10) : Int32.ofNat n + (-1 : Int32) = Int32.ofNat (n - 1) := (by decide +kernel : ∀ i : Fin 11, 1 ≤ i.1 → Int32.ofNat i.1 + (-1 : Int32) = Int32.ofNat (i.1 - 1)) ⟨n, by omega⟩ h1
theorem own_pred' {n : Nat} (h1 : 1 ≤ n) (h2 : n ≤ 10) : Int32.ofNat n - (1 : Int32) = Int32.ofNat (n - 1) := (by decide +kernel : ∀ i : Fin 11, 1 ≤ i.1 → Int32.ofNat i.1 - (1 : Int32) = Int32.ofNat (i.1 - 1)) ⟨n, by omega⟩ h1
theorem own_nb10 (x : Nat) : nar .byte (Int32.ofNat (48 + x % 10)) = Int32.ofNat (48 + x % 10) := (by decide +kernel : ∀ i : Fin 10, nar .byte (Int32.ofNat (48 + i.1)) = Int32.ofNat (48 + i.1)) ⟨x % 10, by omega⟩
theorem own_fb10 (x : Nat) : fits .byte (.int (Int32.ofNat (48 + x % 10))) = true := (by decide +kernel : ∀ i : Fin 10, fits .byte (.int (Int32.ofNat (48 + i.1))) = true) ⟨x % 10, by omega⟩
theorem own_set_same {P : List Value} {i : Nat} {w d : Value} (h : i < P.length) : (P.set i w).getD i d = w := by simp [List.getD_eq_getElem?_getD, h]
theorem own_set_ne {P : List Value} {i j : Nat} {w d : Value} (h : i ≠ j) : (P.set i w).getD j d = P.getD j d := by simp [List.getD_eq_getElem?_getD, List.getElem?_set_ne h]
theorem own_inv1 {P : List Value} {pp dn : Nat} {kk sk : Int} {a w d : Value} (hP : P.length = 16) (hd : pp ≤ 10) (h1 : 1 ≤ pp) (inv : (pp = dn ∧ kk = sk) ∨ (pp < dn ∧ P.getD (dn - 1) d = w)) (ha : kk = sk → a = w) : (P.set (pp - 1) a).getD (dn - 1) d = w := by
  rcases inv with ⟨rfl, e⟩ | ⟨h, e⟩
  · rw [own_set_same (by omega)]; exact ha e
  · rw [own_set_ne (by omega)]; exact e
theorem own_inv2 {P : List Value} {pp dn : Nat} {kk sk : Int} {a b w d : Value} (hP : P.length = 16) (hd : pp ≤ 10) (h1 : 2 ≤ pp) (inv : (pp = dn ∧ kk = sk) ∨ (pp < dn ∧ P.getD (dn - 1) d = w)) (ha : kk = sk → a = w) : ((P.set (pp - 1) a).set (pp - 1 - 1) b).getD (dn - 1) d = w := by
  have := own_inv1 hP hd (by omega) inv ha
  rw [own_set_ne (by rcases inv with ⟨rfl, e⟩ | ⟨h, e⟩ <;> omega)]; exact this
theorem own_getm (bs : List Int32) (i : Nat) : (bs.map Value.int).getD i (.int 0) = .int (bs.getD i 0) := by
  simp only [List.getD_eq_getElem?_getD, List.getElem?_map]; cases bs[i]? <;> rfl
/-! the text: a last digit, then the suffix -/
def own_T (P : List Value) (dn : Nat) (w : Value) (suf : List Value) : Prop := P.getD (dn - 1) (.int 0) = w ∧ ∀ j, j < suf.length → P.getD (dn + j) (.int 0) = suf.getD j (.int 0)
theorem own_T_mk {P suf : List Value} {dn : Nat} {w : Value} (h1 : 1 ≤ dn) (hl : dn + suf.length ≤ P.length) (hw : P.getD (dn - 1) (.int 0) = w) : own_T (P.take dn ++ suf ++ P.drop (dn + suf.length)) dn w suf ∧ (P.take dn ++ suf ++ P.drop (dn + suf.length)).length = P.length := by
  have ht : (P.take dn).length = dn := by rw [List.length_take]; omega
  refine ⟨⟨?_, fun j hj => ?_⟩, ?_⟩
  · rw [← hw]
    simp only [List.getD_eq_getElem?_getD]
    rw [List.append_assoc, List.getElem?_append_left (by omega), List.getElem?_take_of_lt (by omega)]
  · simp only [List.getD_eq_getElem?_getD]
    rw [List.append_assoc, List.getElem?_append_right (by omega), ht, List.getElem?_append_left (by omega)]
    congr 2; omega
  · simp only [List.length_append, List.length_drop, ht]; omega
theorem own_T_move {P R suf : List Value} {dn : Nat} {w : Value} (h1 : 1 ≤ dn) (hs : 1 ≤ suf.length) (h : own_T P dn w suf) (hR : ∀ i, i < dn + suf.length → R.getD i (.int 0) = P.getD i (.int 0)) : own_T R dn w suf := ⟨by rw [hR _ (by omega)]; exact h.1, fun j hj => by rw [hR _ (by omega)]; exact h.2 j hj⟩
theorem own_id (vs : List Value) : (List.range vs.length).map (fun i => vs.getD (0 + i) (.int 0)) = vs := by
  apply List.ext_getElem
  · simp
  · intro i h1 h2; simp at h1; simp [h1]
theorem own_new {P : List Value} {m : Nat} : (List.replicate m (Value.int 0)).take 0 ++ (List.range m).map (fun i => P.getD (0 + i) (.int 0)) ++ (List.replicate m (Value.int 0)).drop (0 + m) = (List.range m).map (fun i => P.getD (0 + i) (.int 0)) := by simp
theorem own_new_at {P : List Value} {m i : Nat} (h : i < m) : ((List.range m).map (fun i => P.getD (0 + i) (.int 0))).getD i (.int 0) = P.getD i (.int 0) := by simp [h]
theorem own_grow {P : List Value} (hP : P.length = 16) : (List.replicate 34 (Value.int 0)).take 0 ++ (List.range 16).map (fun i => P.getD (0 + i) (.int 0)) ++ (List.replicate 34 (Value.int 0)).drop (0 + 16) = P ++ List.replicate 18 (Value.int 0) := by
  have := own_id P; rw [hP] at this; rw [this]; rfl
theorem own_grow_at {P : List Value} {j : Nat} (hP : P.length = 16) (hj : j < 16) : (P ++ List.replicate 18 (Value.int 0)).getD j (.int 0) = P.getD j (.int 0) := by
  simp only [List.getD_eq_getElem?_getD]; rw [List.getElem?_append_left (by omega)]
theorem own_shl0 {i : Nat} (h : i ≤ 34) : Int32.ofNat i <<< ((0 : Int32) &&& 31) = Int32.ofNat i := (by decide +kernel : ∀ i : Fin 35, Int32.ofNat i.1 <<< ((0 : Int32) &&& 31) = Int32.ofNat i.1) ⟨i, by omega⟩
theorem own_shr0 {i : Nat} (h : i ≤ 34) : Int32.ofNat i >>> ((0 : Int32) &&& 31) = Int32.ofNat i := (by decide +kernel : ∀ i : Fin 35, Int32.ofNat i.1 >>> ((0 : Int32) &&& 31) = Int32.ofNat i.1) ⟨i, by omega⟩
theorem own_ec0 {i : Nat} (h : i ≤ 16) : ¬ (0 : Int32) < Int32.ofNat i - (16 : Int32) := (by decide +kernel : ∀ i : Fin 17, ¬ (0 : Int32) < Int32.ofNat i.1 - (16 : Int32)) ⟨i, by omega⟩
theorem own_nb0 : nar .byte (0 : Int32) = 0 := by decide
def own_min (x y : Int32) : Int32 := if y < x then y else x
theorem own_minN {m cN : Nat} (h : m ≤ cN) (hc : cN ≤ 34) : own_min (Int32.ofNat cN) (Int32.ofNat m) = Int32.ofNat m := by
  unfold own_min
  split
  · rfl
  · rename_i q
    rw [own_ofn_lt (by omega) (by omega)] at q
    rw [show cN = m by omega]
theorem own_l1_chr {z : Int32} (h : 0 ≤ z.toInt ∧ z.toInt < 128) : nar .char ((z &&& (255 : Int32)).toUInt32.toUInt16.toUInt32.toInt32) = z := by
  have m1 := c_mask z 255 8 (by decide) (by decide)
  have q2 := c_i2c (z &&& (255 : Int32))
  have q3 := c_i2c (z &&& (255 : Int32)).toUInt32.toUInt16.toUInt32.toInt32
  show ((z &&& (255 : Int32)).toUInt32.toUInt16.toUInt32.toInt32).toUInt32.toUInt16.toUInt32.toInt32 = z
  exact Int32.toInt_inj.mp (by omega)
theorem own_narC {z : Int32} (h : 0 ≤ z.toInt ∧ z.toInt < 128) : nar .char z = z := by
  have q3 := c_i2c z
  show z.toUInt32.toUInt16.toUInt32.toInt32 = z
  exact Int32.toInt_inj.mp (by omega)
theorem own_dg_r (sv : Int32) : 0 ≤ (own_dg sv).toInt ∧ (own_dg sv).toInt < 128 := by unfold own_dg; rw [own_ofn (by omega)]; omega
theorem own_dgc {sv : Int32} (h1 : 1 ≤ sv.toInt) : own_dg sv = ((48 : Int32) + (sv % (10 : Int32))).toUInt32.toUInt16.toUInt32.toInt32 := by
  have a := (c_irem sv 10 10 (by decide)).1 (by omega)
  have b := c_iadd 48 (sv % (10 : Int32))
  have e : (48 : Int32).toInt = 48 := by decide
  have r := rng32 ((48 : Int32) + (sv % (10 : Int32)))
  have q := c_i2c ((48 : Int32) + (sv % (10 : Int32)))
  have d := own_ofn (n := 48 + sv.toInt.toNat % 10) (by omega)
  exact Int32.toInt_inj.mp (by unfold own_dg; rw [d]; omega)
theorem own_lc1 (sv : Int32) : ¬ (0 : Int32) < lcmpW sv.toInt64 (9223372036 : Int64) := by
  have a := c_lcmp sv.toInt64 (9223372036 : Int64); have b := c_i2l sv; have r := rng32 sv
  have e : (9223372036 : Int64).toInt = 9223372036 := by decide
  have e0 : (0 : Int32).toInt = 0 := by decide
  rw [Int32.lt_iff_toInt_lt, e0]; have := a.1 (by omega); omega
theorem own_lc2 (sv : Int32) : ¬ lcmpW sv.toInt64 (-(9223372036 : Int64)) < (0 : Int32) := by
  have a := c_lcmp sv.toInt64 (-(9223372036 : Int64)); have b := c_i2l sv; have r := rng32 sv
  have e : (-(9223372036 : Int64)).toInt = -9223372036 := by decide
  have e0 : (0 : Int32).toInt = 0 := by decide
  rw [Int32.lt_iff_toInt_lt, e0]; have := a.2.2 (by omega); omega
theorem own_s1 {y : Int32} (h : ¬ (y &&& (2147483647 : Int32)) = 0) : 1 ≤ (y &&& (2147483647 : Int32)).toInt := by
  have a := c_and y 2147483647 (by decide)
  have : (y &&& (2147483647 : Int32)).toInt ≠ 0 := fun e => h (Int32.toInt_inj.mp (by rw [e]; decide))
  omega
theorem own_nz {Z : State} {args : Array Value} {t : Term} {z : Int32} (ht : t.eval args Z none [] Z = some (.int z)) (h : (Cond.not (Cond.eq t (Term.int 0))).value args Z none Z [] = some true) : ¬ z = 0 := fun e => by
  subst e; simp [Cond.value, ht, Term.eval] at h
def own_EL : List (String × Nat) := [("org/samehood/calls/CallLimit", 78), ("org/samehood/calls/CallLimit", 80), ("org/samehood/calls/CallLimitOfPinLaw", 24)]
/-! the same, where a String constant may be loaded: the wide end -/
def own_WPost (Z s : State) (Q : Option Value → Heap → List Loc → Prop) (C N : Nat) : Outcome → State → Prop := fun o U' => ∃ v L, o = .returned v ∧ Q v U'.heap L ∧ CHr Z own_EL s.vm s.heap U'.vm U'.heap ∧ ReturnedEndW s o U' L C N
def own_LPost (s : State) (Q : Option Value → Heap → List Loc → Prop) (C N : Nat) : Outcome → State → Prop := fun o U' => ∃ v L, o = .returned v ∧ Q v U'.heap L ∧ ReturnedEndW s o U' L C N
theorem own_endW {s t : State} {o : Outcome} {L : List Loc} {k n k' n' : Nat} (h : ReturnedEndW s o t L k n) (hk : k ≤ k') (hn : n ≤ n') : ReturnedEndW s o t L k' n' := ⟨h.1, h.2.1, h.2.2.1, h.2.2.2.mono hk hn⟩
section OwnW
variable {p : Program} {l : Launch} {e : Env} {R : Room} {s : State} {m : MethodId} {args : Array Value} {below : List Frame} {meth : Method} {c : Code} {T : State} {locs : List Loc} {cells slots : Nat} {QQ : Option Value → Heap → List Loc → Prop} {C N : Nat} {h h0 : Heap} {vm0 : Vm} {k0 : Nat} {Z : State}
theorem own_lretO (X : Stand p l e R (s.setVm vm0) m args below meth c T locs cells slots) (hx : p.tables.exec = Jvm.exec) (hlk : meth.locks = false) {pc : Nat} {Ls : Array Slot} {w : Value} {t : FieldType} {i : Instr} {rest : List Value} (hret : meth.sig.returnType = some t) (hn : narrow t w = w)
    (hi : (i = .ireturn ∧ (t = .int ∨ t = .boolean ∨ t = .byte ∨ t = .char ∨ t = .short) ∧ ∃ z, w = .int z) ∨ (i = .lreturn ∧ t = .long ∧ ∃ z, w = .long z) ∨ (i = .dreturn ∧ t = .double ∧ ∃ z, w = .double z) ∨ (i = .freturn ∧ t = .float ∧ ∃ z, w = .float z) ∨ (i = .areturn ∧ t.isReference = true ∧ w.isRef = true))
    (hd : decode c.code pc = .ok (i, 1)) (hc : cells ≤ C) (hs : slots ≤ N) (eT : T.heap = h) (hS : s.Since vm0 k0) (hk : k0 ≤ h.size) (hq : QQ (some w) h locs) : own_Gl p e below (fun o U' => (∃ v L, o = .returned v ∧ QQ v U'.heap L ∧ ReturnedEndW s o U' L C N) ∧ U'.vm = T.vm ∧ U'.heap = T.heap) (T.setTop (mkF m pc Ls (w :: rest))) := by
  subst eT
  obtain ⟨fs, hr, hrun, hended, hE⟩ := X.leaveW hS hk (v := some w) (fun h => by rw [hret] at h; cases h) hlk
  exact ⟨_, _, retOut X hx hret hn hi hd hr, hrun, hended, ⟨_, _, rfl, hq, own_endW hE hc hs⟩, rfl, rfl⟩
theorem own_gl_mono {Q Q' : Outcome → State → Prop} {S : State} (g : own_Gl p e below Q S) (hm : ∀ o U, Q o U → Q' o U) : own_Gl p e below Q' S := by
  obtain ⟨s₂, o, h1, h2, h3, h4⟩ := g; exact ⟨s₂, o, h1, h2, h3, hm _ _ h4⟩
theorem own_wretO (X : Stand p l e R (s.setVm vm0) m args below meth c T locs cells slots) (hx : p.tables.exec = Jvm.exec) (hlk : meth.locks = false) {pc : Nat} {Ls : Array Slot} {w : Value} {t : FieldType} {i : Instr} {rest : List Value} (hret : meth.sig.returnType = some t) (hn : narrow t w = w)
    (hi : (i = .ireturn ∧ (t = .int ∨ t = .boolean ∨ t = .byte ∨ t = .char ∨ t = .short) ∧ ∃ z, w = .int z) ∨ (i = .lreturn ∧ t = .long ∧ ∃ z, w = .long z) ∨ (i = .dreturn ∧ t = .double ∧ ∃ z, w = .double z) ∨ (i = .freturn ∧ t = .float ∧ ∃ z, w = .float z) ∨ (i = .areturn ∧ t.isReference = true ∧ w.isRef = true))
    (hd : decode c.code pc = .ok (i, 1)) (hc : cells ≤ C) (hs : slots ≤ N) (eT : T.heap = h) (hS : s.Since vm0 k0) (hk : k0 ≤ h.size) (hh : s.heap = h0) (hC : CHr Z own_EL s.vm h0 T.vm h) (hq : QQ (some w) h locs) : own_Gl p e below (own_WPost Z s QQ C N) (T.setTop (mkF m pc Ls (w :: rest))) := by
  refine own_gl_mono (own_lretO X hx hlk hret hn hi hd hc hs eT hS hk hq) fun o U ⟨⟨v, L, h1, h2, h3⟩, h4, h5⟩ => ⟨v, L, h1, h2, ?_, h3⟩
  rw [h4, h5, eT, hh]; exact hC
theorem own_wretA (X : Stand p l e R (s.setVm vm0) m args below meth c T locs cells slots) (hx : p.tables.exec = Jvm.exec) (hlk : meth.locks = false) {pc : Nat} {Ls : Array Slot} {w : Value} {t : FieldType} {rest : List Value} (hret : meth.sig.returnType = some t) (ht : t.isReference = true) (hw : w.isRef = true)
    (hd : decode c.code pc = .ok (.areturn, 1)) (hc : cells ≤ C) (hs : slots ≤ N) (eT : T.heap = h) (hS : s.Since vm0 k0) (hk : k0 ≤ h.size) (hh : s.heap = h0) (hC : CHr Z own_EL s.vm h0 T.vm h) (hq : QQ (some w) h locs) : own_Gl p e below (own_WPost Z s QQ C N) (T.setTop (mkF m pc Ls (w :: rest))) :=
  own_wretO X hx hlk hret (own_nref hw) (Or.inr (Or.inr (Or.inr (Or.inr ⟨rfl, ht, hw⟩)))) hd hc hs eT hS hk hh hC hq
theorem own_wlretN (X : Stand p l e R (s.setVm vm0) m args below meth c T locs cells slots) (hx : p.tables.exec = Jvm.exec) (hlk : meth.locks = false) {pc : Nat} {Ls : Array Slot} {z : Int32} {t : FieldType} {rest : List Value} (hret : meth.sig.returnType = some t) (ht : t = .boolean ∨ t = .byte ∨ t = .char ∨ t = .short)
    (hd : decode c.code pc = .ok (.ireturn, 1)) (hc : cells ≤ C) (hs : slots ≤ N) (eT : T.heap = h) (hS : s.Since vm0 k0) (hk : k0 ≤ h.size) (hq : QQ (some (.int (nar t z))) h locs) : own_Gl p e below (own_LPost s QQ C N) (T.setTop (mkF m pc Ls (.int z :: rest))) := by
  subst eT
  obtain ⟨fs, hr, hrun, hended, hE⟩ := X.leaveW hS hk (v := some (.int (nar t z))) (fun h => by rw [hret] at h; cases h) hlk
  exact ⟨_, _, retN X hx hret ht hd hr, hrun, hended, _, _, rfl, hq, own_endW hE hc hs⟩
theorem own_wretV (X : Stand p l e R (s.setVm vm0) m args below meth c T locs cells slots) (hx : p.tables.exec = Jvm.exec) (hlk : meth.locks = false) {pc : Nat} {Ls : Array Slot} (hret : meth.sig.returnType = none)
    (hd : decode c.code pc = .ok (.return_, 1)) (hc : cells ≤ C) (hs : slots ≤ N) (eT : T.heap = h) (hS : s.Since vm0 k0) (hk : k0 ≤ h.size) (hh : s.heap = h0) (hC : CHr Z own_EL s.vm h0 T.vm h) (hq : QQ none h locs) : own_Gl p e below (own_WPost Z s QQ C N) (T.setTop (mkF m pc Ls [])) := by
  subst eT
  obtain ⟨fs, hr, hrun, hended, hE⟩ := X.leaveW hS hk (v := none) (fun _ => rfl) hlk
  refine ⟨_, _, X.returnOut hx hret hd hr, hrun, hended, _, _, rfl, hq, ?_, own_endW hE hc hs⟩
  rw [hh]; exact hC
theorem own_wretN (X : Stand p l e R (s.setVm vm0) m args below meth c T locs cells slots) (hx : p.tables.exec = Jvm.exec) (hlk : meth.locks = false) {pc : Nat} {Ls : Array Slot} {z : Int32} {t : FieldType} {rest : List Value} (hret : meth.sig.returnType = some t) (ht : t = .boolean ∨ t = .byte ∨ t = .char ∨ t = .short)
    (hd : decode c.code pc = .ok (.ireturn, 1)) (hc : cells ≤ C) (hs : slots ≤ N) (eT : T.heap = h) (hS : s.Since vm0 k0) (hk : k0 ≤ h.size) (hh : s.heap = h0) (hC : CHr Z own_EL s.vm h0 T.vm h) (hq : QQ (some (.int (nar t z))) h locs) : own_Gl p e below (own_WPost Z s QQ C N) (T.setTop (mkF m pc Ls (.int z :: rest))) := by
  subst eT
  obtain ⟨fs, hr, hrun, hended, hE⟩ := X.leaveW hS hk (v := some (.int (nar t z))) (fun h => by rw [hret] at h; cases h) hlk
  refine ⟨_, _, retN X hx hret ht hd hr, hrun, hended, _, _, rfl, hq, ?_, own_endW hE hc hs⟩
  rw [hh]; exact hC
end OwnW
theorem own_ew {Z : State} {a0 : Array Value} (hw : ∀ d ∈ tables_1, d.before a0 Z = true) : EW Z a0 own_EL := EW.cons (text := " second") (hw _ (List.mem_of_getElem? (i := 87) rfl)) (by decide) (EW.cons (text := " seconds") (hw _ (List.mem_of_getElem? (i := 189) rfl)) (by decide) (EW.cons (text := "1 second") (hw _ (List.mem_of_getElem? (i := 178) rfl)) (by decide) EW.nil))
theorem own_wS {Z : State} {a0 : Array Value} (hw : ∀ d ∈ tables_1, d.before a0 Z = true) : ∀ d ∈ Bundle.stringAtoms, d.before a0 Z = true := fun d hd => hw d ((by decide +kernel : ∀ d ∈ Bundle.stringAtoms, d ∈ tables_1) d hd)
def own_A : List Value := [(.int 32), (.int 115), (.int 101), (.int 99), (.int 111), (.int 110), (.int 100)]
def own_B : List Value := [(.int 32), (.int 115), (.int 101), (.int 99), (.int 111), (.int 110), (.int 100), (.int 115)]
def own_C : List Value := [(.int 49), (.int 32), (.int 115), (.int 101), (.int 99), (.int 111), (.int 110), (.int 100)]
def own_S (Z : State) (h : Heap) (x : Addr) (sv : Int32) (suf : List Value) : Prop := ∃ (u : Addr) (ku : ClassId) (R : List Value) (dn : Nat), Fld Z h x "java/lang/String" "value" "[B" (.ref u) ∧ Fld Z h x "java/lang/String" "coder" "B" (.int 0) ∧ own_D sv.toInt dn ∧ Arv Z h u ku .byte (Int32.ofNat (dn + suf.length)) R (.int 0) ∧ own_T R dn (.int (own_dg sv)) suf
theorem own_eq8 {R : List Value} (h : own_T R 1 (.int (own_dg 1)) own_A) : ∀ i, i < 8 → R.getD i (.int 0) = own_C.getD i (.int 0) := fun i hi => by
  cases i with
  | zero => exact h.1
  | succ j =>
    have q := h.2 j (by show j < 7; omega)
    rw [Nat.add_comm] at q
    rw [q]; rfl
theorem own_pn0 : plainName "java/lang/Integer" = true := by first | (simp [plainName, overriddenIn]; done) | decide +kernel
theorem own_d_jdk_33_method_13_code_0 : decode jdk_33_method_13_code 0 = .ok (.iconst 1, 1) := by decide +kernel
theorem own_d_jdk_33_method_13_code_1 : decode jdk_33_method_13_code 1 = .ok (.istore_n 1, 1) := by decide +kernel
theorem own_d_jdk_33_method_13_code_2 : decode jdk_33_method_13_code 2 = .ok (.iload_n 0, 1) := by decide +kernel
theorem own_d_jdk_33_method_13_code_3 : decode jdk_33_method_13_code 3 = .ok (.ifCond .lt 8, 3) := by decide +kernel
theorem own_d_jdk_33_method_13_code_6 : decode jdk_33_method_13_code 6 = .ok (.iconst 0, 1) := by decide +kernel
theorem own_d_jdk_33_method_13_code_7 : decode jdk_33_method_13_code 7 = .ok (.istore_n 1, 1) := by decide +kernel
theorem own_d_jdk_33_method_13_code_8 : decode jdk_33_method_13_code 8 = .ok (.iload_n 0, 1) := by decide +kernel
theorem own_d_jdk_33_method_13_code_9 : decode jdk_33_method_13_code 9 = .ok (.ineg, 1) := by decide +kernel
theorem own_d_jdk_33_method_13_code_10 : decode jdk_33_method_13_code 10 = .ok (.istore_n 0, 1) := by decide +kernel
theorem own_d_jdk_33_method_13_code_11 : decode jdk_33_method_13_code 11 = .ok (.bipush (-10), 2) := by decide +kernel
theorem own_d_jdk_33_method_13_code_13 : decode jdk_33_method_13_code 13 = .ok (.istore_n 2, 1) := by decide +kernel
theorem own_d_jdk_33_method_13_code_14 : decode jdk_33_method_13_code 14 = .ok (.iconst 1, 1) := by decide +kernel
theorem own_d_jdk_33_method_13_code_15 : decode jdk_33_method_13_code 15 = .ok (.istore_n 3, 1) := by decide +kernel
theorem own_d_jdk_33_method_13_code_16 : decode jdk_33_method_13_code 16 = .ok (.iload_n 3, 1) := by decide +kernel
theorem own_d_jdk_33_method_13_code_17 : decode jdk_33_method_13_code 17 = .ok (.bipush 10, 2) := by decide +kernel
theorem own_d_jdk_33_method_13_code_19 : decode jdk_33_method_13_code 19 = .ok (.if_icmp .ge 23, 3) := by decide +kernel
theorem own_d_jdk_33_method_13_code_22 : decode jdk_33_method_13_code 22 = .ok (.iload_n 0, 1) := by decide +kernel
theorem own_d_jdk_33_method_13_code_23 : decode jdk_33_method_13_code 23 = .ok (.iload_n 2, 1) := by decide +kernel
theorem own_d_jdk_33_method_13_code_24 : decode jdk_33_method_13_code 24 = .ok (.if_icmp .le 7, 3) := by decide +kernel
theorem own_d_jdk_33_method_13_code_27 : decode jdk_33_method_13_code 27 = .ok (.iload_n 3, 1) := by decide +kernel
theorem own_d_jdk_33_method_13_code_28 : decode jdk_33_method_13_code 28 = .ok (.iload_n 1, 1) := by decide +kernel
theorem own_d_jdk_33_method_13_code_29 : decode jdk_33_method_13_code 29 = .ok (.iadd, 1) := by decide +kernel
theorem own_d_jdk_33_method_13_code_30 : decode jdk_33_method_13_code 30 = .ok (.ireturn, 1) := by decide +kernel
theorem own_d_jdk_33_method_13_code_31 : decode jdk_33_method_13_code 31 = .ok (.bipush 10, 2) := by decide +kernel
theorem own_d_jdk_33_method_13_code_33 : decode jdk_33_method_13_code 33 = .ok (.iload_n 2, 1) := by decide +kernel
theorem own_d_jdk_33_method_13_code_34 : decode jdk_33_method_13_code 34 = .ok (.imul, 1) := by decide +kernel
theorem own_d_jdk_33_method_13_code_35 : decode jdk_33_method_13_code 35 = .ok (.istore_n 2, 1) := by decide +kernel
theorem own_d_jdk_33_method_13_code_36 : decode jdk_33_method_13_code 36 = .ok (.iinc 3 1, 3) := by decide +kernel
theorem own_d_jdk_33_method_13_code_39 : decode jdk_33_method_13_code 39 = .ok (.goto (-23), 3) := by decide +kernel
theorem own_d_jdk_33_method_13_code_42 : decode jdk_33_method_13_code 42 = .ok (.bipush 10, 2) := by decide +kernel
theorem own_d_jdk_33_method_13_code_44 : decode jdk_33_method_13_code 44 = .ok (.iload_n 1, 1) := by decide +kernel
theorem own_d_jdk_33_method_13_code_45 : decode jdk_33_method_13_code 45 = .ok (.iadd, 1) := by decide +kernel
theorem own_d_jdk_33_method_13_code_46 : decode jdk_33_method_13_code 46 = .ok (.ireturn, 1) := by decide +kernel
theorem own_ef_sz (m : MethodId) (x0 : Int32) : entryFrame m #[(.int x0)] 4 = mkF m 0 #[.val (.int x0), .unset, .unset, .unset] [] := by first | (simp [entryFrame, mkF, argsToLocals, Value.category]; done) | rfl
def own_Q_sz (Z : State) (sv : Int32) (h0 : Heap) (n0 : Nat) (v : Option Value) (h : Heap) (L : List Loc) : Prop := (∃ dn : Nat, v = some (.int (Int32.ofNat dn)) ∧ own_D sv.toInt dn) ∧ Fr n0 L ∧ h = h0
set_option maxRecDepth 65536 in
set_option maxHeartbeats 40000000 in
theorem own_rm_sz (l : Launch) (Z : State) (a0 : Array Value) (hw : ∀ d ∈ tables_1, d.before a0 Z = true) (ws : List Jvm.Cond) (sv : Int32) (h0 : Heap) (n0 : Nat) (Z0 : n0 ≤ h0.size) (hone : 1 ≤ sv.toInt) :
    MetFree l (⟨"java/lang/Integer", "stringSize", "(I)I"⟩ : MethodName) (head1 (Jvm.Cond.code (⟨"java/lang/Integer", "stringSize", "(I)I"⟩ : MethodName) jdk_33_method_13_code 4 (some .int) :: ws) ({ frames := 0, cells := 0, slots := 0, locals := 0 } : Room)) (fun aa UU => aa = #[(.int sv)] ∧ Z.Warmed39 UU.vm ∧ UU.heap = h0) (fun _ _ _ _ _ => True) (fun _ UU oo UU' => ∃ vv LL, oo = .returned vv ∧ own_Q_sz Z sv h0 n0 vv UU'.heap LL ∧ FrameEnd UU oo UU' LL ({ frames := 0, cells := 0, slots := 0, locals := 0 } : Room).cells ({ frames := 0, cells := 0, slots := 0, locals := 0 } : Room).slots) := by
  refine MetFree.of_bodySF (plainFor_of_name own_pn0) hisR ?_
  intro p e s m args below meth c s₁ Bd hml0 hP hK
  obtain ⟨rfl, hZ, hh⟩ := hP
  have hx := Bd.exec
  have hby := Bd.bytes
  have hml : c.maxLocals = 4 := hml0
  have hown : s.vm.findClass "java/lang/Integer" = some m.cls := findClass_of_methodNamed Bd.named
  have hnm := (name_of_methodNamed Bd.named Bd.method).1
  have X0 : Stand p l e ({ frames := 0, cells := 0, slots := 0, locals := 0 } : Room) s m #[(.int sv)] below meth c s₁ [] 0 0 := Stand.of_body Bd
  have e0 : s₁.heap = h0 := by rw [← hh, Bd.state]; rfl
  have N0 := Fr.nil n0
  show own_Gl p e below (own_Post s (own_Q_sz Z sv h0 n0) ({ frames := 0, cells := 0, slots := 0, locals := 0 } : Room).cells ({ frames := 0, cells := 0, slots := 0, locals := 0 } : Room).slots) _
  refine own_st (fun tg_ kg_ => castTop (own_ef_sz m sv) kg_) ?_
  show own_Gl p e below _ (s₁.setTop (mkF m 0 #[.val (.int sv), .unset, .unset, .unset] []))
  refine own_st (fun tg_ kg_ => XS.iconst X0.here hx rfl (hb hby own_d_jdk_33_method_13_code_0) kg_) ?_
  show own_Gl p e below _ (s₁.setTop (mkF m 1 #[.val (.int sv), .unset, .unset, .unset] [(.int (1 : Int32))]))
  refine own_st (fun tg_ kg_ => XS.istoreN X0.here hx rfl (hb hby own_d_jdk_33_method_13_code_1) rfl (l' := #[.val (.int sv), .val (.int (1 : Int32)), .unset, .unset]) rfl kg_) ?_
  show own_Gl p e below _ (s₁.setTop (mkF m 2 #[.val (.int sv), .val (.int (1 : Int32)), .unset, .unset] []))
  refine own_st (fun tg_ kg_ => XS.iloadN X0.here hx rfl (hb hby own_d_jdk_33_method_13_code_2) rfl kg_) ?_
  show own_Gl p e below _ (s₁.setTop (mkF m 3 #[.val (.int sv), .val (.int (1 : Int32)), .unset, .unset] [(.int sv)]))
  refine own_st (fun tg_ kg_ => XS.ifNo X0.here hx rfl (hb hby own_d_jdk_33_method_13_code_3) rfl ((if0 _ _).trans (flt (own_nn hone)).1) kg_) ?_
  show own_Gl p e below _ (s₁.setTop (mkF m 6 #[.val (.int sv), .val (.int (1 : Int32)), .unset, .unset] []))
  refine own_st (fun tg_ kg_ => XS.iconst X0.here hx rfl (hb hby own_d_jdk_33_method_13_code_6) kg_) ?_
  show own_Gl p e below _ (s₁.setTop (mkF m 7 #[.val (.int sv), .val (.int (1 : Int32)), .unset, .unset] [(.int (0 : Int32))]))
  refine own_st (fun tg_ kg_ => XS.istoreN X0.here hx rfl (hb hby own_d_jdk_33_method_13_code_7) rfl (l' := #[.val (.int sv), .val (.int (0 : Int32)), .unset, .unset]) rfl kg_) ?_
  show own_Gl p e below _ (s₁.setTop (mkF m 8 #[.val (.int sv), .val (.int (0 : Int32)), .unset, .unset] []))
  refine own_st (fun tg_ kg_ => XS.iloadN X0.here hx rfl (hb hby own_d_jdk_33_method_13_code_8) rfl kg_) ?_
  show own_Gl p e below _ (s₁.setTop (mkF m 9 #[.val (.int sv), .val (.int (0 : Int32)), .unset, .unset] [(.int sv)]))
  refine own_st (fun tg_ kg_ => XS.ineg X0.here hx rfl (hb hby own_d_jdk_33_method_13_code_9) rfl kg_) ?_
  show own_Gl p e below _ (s₁.setTop (mkF m 10 #[.val (.int sv), .val (.int (0 : Int32)), .unset, .unset] [(.int (-sv))]))
  refine own_st (fun tg_ kg_ => XS.istoreN X0.here hx rfl (hb hby own_d_jdk_33_method_13_code_10) rfl (l' := #[.val (.int (-sv)), .val (.int (0 : Int32)), .unset, .unset]) rfl kg_) ?_
  show own_Gl p e below _ (s₁.setTop (mkF m 11 #[.val (.int (-sv)), .val (.int (0 : Int32)), .unset, .unset] []))
  refine own_st (fun tg_ kg_ => XS.bipush X0.here hx rfl (hb hby own_d_jdk_33_method_13_code_11) kg_) ?_
  show own_Gl p e below _ (s₁.setTop (mkF m 13 #[.val (.int (-sv)), .val (.int (0 : Int32)), .unset, .unset] [(.int (-10 : Int32))]))
  refine own_st (fun tg_ kg_ => XS.istoreN X0.here hx rfl (hb hby own_d_jdk_33_method_13_code_13) rfl (l' := #[.val (.int (-sv)), .val (.int (0 : Int32)), .val (.int (-10 : Int32)), .unset]) rfl kg_) ?_
  show own_Gl p e below _ (s₁.setTop (mkF m 14 #[.val (.int (-sv)), .val (.int (0 : Int32)), .val (.int (-10 : Int32)), .unset] []))
  refine own_st (fun tg_ kg_ => XS.iconst X0.here hx rfl (hb hby own_d_jdk_33_method_13_code_14) kg_) ?_
  show own_Gl p e below _ (s₁.setTop (mkF m 15 #[.val (.int (-sv)), .val (.int (0 : Int32)), .val (.int (-10 : Int32)), .unset] [(.int (1 : Int32))]))
  refine own_st (fun tg_ kg_ => XS.istoreN X0.here hx rfl (hb hby own_d_jdk_33_method_13_code_15) rfl (l' := #[.val (.int (-sv)), .val (.int (0 : Int32)), .val (.int (-10 : Int32)), .val (.int (1 : Int32))]) rfl kg_) ?_
  show own_Gl p e below _ (s₁.setTop (mkF m 16 #[.val (.int (-sv)), .val (.int (0 : Int32)), .val (.int (-10 : Int32)), .val (.int (1 : Int32))] []))
  refine own_st (fun tg_ kg_ => XS.iloadN X0.here hx rfl (hb hby own_d_jdk_33_method_13_code_16) rfl kg_) ?_
  show own_Gl p e below _ (s₁.setTop (mkF m 17 #[.val (.int (-sv)), .val (.int (0 : Int32)), .val (.int (-10 : Int32)), .val (.int (1 : Int32))] [(.int (1 : Int32))]))
  refine own_st (fun tg_ kg_ => XS.bipush X0.here hx rfl (hb hby own_d_jdk_33_method_13_code_17) kg_) ?_
  show own_Gl p e below _ (s₁.setTop (mkF m 19 #[.val (.int (-sv)), .val (.int (0 : Int32)), .val (.int (-10 : Int32)), .val (.int (1 : Int32))] [(.int (10 : Int32)), (.int (1 : Int32))]))
  refine own_st (fun tg_ kg_ => XS.icmpNo X0.here hx rfl (hb hby own_d_jdk_33_method_13_code_19) rfl (tlt ((by decide : (1 : Int32) < (10 : Int32)))).2.1 kg_) ?_
  show own_Gl p e below _ (s₁.setTop (mkF m 22 #[.val (.int (-sv)), .val (.int (0 : Int32)), .val (.int (-10 : Int32)), .val (.int (1 : Int32))] []))
  refine own_st (fun tg_ kg_ => XS.iloadN X0.here hx rfl (hb hby own_d_jdk_33_method_13_code_22) rfl kg_) ?_
  show own_Gl p e below _ (s₁.setTop (mkF m 23 #[.val (.int (-sv)), .val (.int (0 : Int32)), .val (.int (-10 : Int32)), .val (.int (1 : Int32))] [(.int (-sv))]))
  refine own_st (fun tg_ kg_ => XS.iloadN X0.here hx rfl (hb hby own_d_jdk_33_method_13_code_23) rfl kg_) ?_
  show own_Gl p e below _ (s₁.setTop (mkF m 24 #[.val (.int (-sv)), .val (.int (0 : Int32)), .val (.int (-10 : Int32)), .val (.int (1 : Int32))] [(.int (-10 : Int32)), (.int (-sv))]))
  by_cases hc1 : sv.toInt < 10
  ·
    show own_Gl p e below _ (s₁.setTop (mkF m 24 #[.val (.int (-sv)), .val (.int (0 : Int32)), .val (.int (-10 : Int32)), .val (.int (1 : Int32))] [(.int (-10 : Int32)), (.int (-sv))]))
    refine own_st (fun tg_ kg_ => XS.icmpNo X0.here hx rfl (hb hby own_d_jdk_33_method_13_code_24) rfl (tlt ((own_cm (k := 10) (by decide) hone).mpr hc1)).2.2.2 kg_) ?_
    show own_Gl p e below _ (s₁.setTop (mkF m 27 #[.val (.int (-sv)), .val (.int (0 : Int32)), .val (.int (-10 : Int32)), .val (.int (1 : Int32))] []))
    refine own_st (fun tg_ kg_ => XS.iloadN X0.here hx rfl (hb hby own_d_jdk_33_method_13_code_27) rfl kg_) ?_
    show own_Gl p e below _ (s₁.setTop (mkF m 28 #[.val (.int (-sv)), .val (.int (0 : Int32)), .val (.int (-10 : Int32)), .val (.int (1 : Int32))] [(.int (1 : Int32))]))
    refine own_st (fun tg_ kg_ => XS.iloadN X0.here hx rfl (hb hby own_d_jdk_33_method_13_code_28) rfl kg_) ?_
    show own_Gl p e below _ (s₁.setTop (mkF m 29 #[.val (.int (-sv)), .val (.int (0 : Int32)), .val (.int (-10 : Int32)), .val (.int (1 : Int32))] [(.int (0 : Int32)), (.int (1 : Int32))]))
    refine own_st (fun tg_ kg_ => XS.iadd X0.here hx rfl (hb hby own_d_jdk_33_method_13_code_29) rfl kg_) ?_
    show own_Gl p e below _ (s₁.setTop (mkF m 30 #[.val (.int (-sv)), .val (.int (0 : Int32)), .val (.int (-10 : Int32)), .val (.int (1 : Int32))] [(.int (1 : Int32))]))
    exact own_retI X0 hx Bd.notSynchronized Bd.returns (hb hby own_d_jdk_33_method_13_code_30) (by decide) (by decide) e0 (⟨⟨1, rfl, by unfold own_D; have := rng32 sv; omega⟩, N0, rfl⟩)
  ·
    show own_Gl p e below _ (s₁.setTop (mkF m 24 #[.val (.int (-sv)), .val (.int (0 : Int32)), .val (.int (-10 : Int32)), .val (.int (1 : Int32))] [(.int (-10 : Int32)), (.int (-sv))]))
    refine own_st (fun tg_ kg_ => XS.icmpYes X0.here hx rfl (pc0 := 24) (pc' := 31) rfl (hb hby own_d_jdk_33_method_13_code_24) rfl (flt (fun q => hc1 ((own_cm (k := 10) (by decide) hone).mp q))).2.2.2 (by decide) (by decide) kg_) ?_
    show own_Gl p e below _ (s₁.setTop (mkF m 31 #[.val (.int (-sv)), .val (.int (0 : Int32)), .val (.int (-10 : Int32)), .val (.int (1 : Int32))] []))
    refine own_st (fun tg_ kg_ => XS.bipush X0.here hx rfl (hb hby own_d_jdk_33_method_13_code_31) kg_) ?_
    show own_Gl p e below _ (s₁.setTop (mkF m 33 #[.val (.int (-sv)), .val (.int (0 : Int32)), .val (.int (-10 : Int32)), .val (.int (1 : Int32))] [(.int (10 : Int32))]))
    refine own_st (fun tg_ kg_ => XS.iloadN X0.here hx rfl (hb hby own_d_jdk_33_method_13_code_33) rfl kg_) ?_
    show own_Gl p e below _ (s₁.setTop (mkF m 34 #[.val (.int (-sv)), .val (.int (0 : Int32)), .val (.int (-10 : Int32)), .val (.int (1 : Int32))] [(.int (-10 : Int32)), (.int (10 : Int32))]))
    refine own_st (fun tg_ kg_ => XS.imul X0.here hx rfl (hb hby own_d_jdk_33_method_13_code_34) rfl kg_) ?_
    show own_Gl p e below _ (s₁.setTop (mkF m 35 #[.val (.int (-sv)), .val (.int (0 : Int32)), .val (.int (-10 : Int32)), .val (.int (1 : Int32))] [(.int ((10 : Int32) * (-10 : Int32)))]))
    rw [(by decide : ((10 : Int32) * (-10 : Int32)) = (-100 : Int32))]
    show own_Gl p e below _ (s₁.setTop (mkF m 35 #[.val (.int (-sv)), .val (.int (0 : Int32)), .val (.int (-10 : Int32)), .val (.int (1 : Int32))] [(.int (-100 : Int32))]))
    refine own_st (fun tg_ kg_ => XS.istoreN X0.here hx rfl (hb hby own_d_jdk_33_method_13_code_35) rfl (l' := #[.val (.int (-sv)), .val (.int (0 : Int32)), .val (.int (-100 : Int32)), .val (.int (1 : Int32))]) rfl kg_) ?_
    show own_Gl p e below _ (s₁.setTop (mkF m 36 #[.val (.int (-sv)), .val (.int (0 : Int32)), .val (.int (-100 : Int32)), .val (.int (1 : Int32))] []))
    refine own_st (fun tg_ kg_ => XS.iinc X0.here hx rfl (hb hby own_d_jdk_33_method_13_code_36) rfl (l' := #[.val (.int (-sv)), .val (.int (0 : Int32)), .val (.int (-100 : Int32)), .val (.int (2 : Int32))]) rfl kg_) ?_
    show own_Gl p e below _ (s₁.setTop (mkF m 39 #[.val (.int (-sv)), .val (.int (0 : Int32)), .val (.int (-100 : Int32)), .val (.int (2 : Int32))] []))
    refine own_st (fun tg_ kg_ => XS.goto X0.here hx rfl (pc0 := 39) (pc' := 16) rfl (hb hby own_d_jdk_33_method_13_code_39) (by decide) (by decide) kg_) ?_
    show own_Gl p e below _ (s₁.setTop (mkF m 16 #[.val (.int (-sv)), .val (.int (0 : Int32)), .val (.int (-100 : Int32)), .val (.int (2 : Int32))] []))
    refine own_st (fun tg_ kg_ => XS.iloadN X0.here hx rfl (hb hby own_d_jdk_33_method_13_code_16) rfl kg_) ?_
    show own_Gl p e below _ (s₁.setTop (mkF m 17 #[.val (.int (-sv)), .val (.int (0 : Int32)), .val (.int (-100 : Int32)), .val (.int (2 : Int32))] [(.int (2 : Int32))]))
    refine own_st (fun tg_ kg_ => XS.bipush X0.here hx rfl (hb hby own_d_jdk_33_method_13_code_17) kg_) ?_
    show own_Gl p e below _ (s₁.setTop (mkF m 19 #[.val (.int (-sv)), .val (.int (0 : Int32)), .val (.int (-100 : Int32)), .val (.int (2 : Int32))] [(.int (10 : Int32)), (.int (2 : Int32))]))
    refine own_st (fun tg_ kg_ => XS.icmpNo X0.here hx rfl (hb hby own_d_jdk_33_method_13_code_19) rfl (tlt ((by decide : (2 : Int32) < (10 : Int32)))).2.1 kg_) ?_
    show own_Gl p e below _ (s₁.setTop (mkF m 22 #[.val (.int (-sv)), .val (.int (0 : Int32)), .val (.int (-100 : Int32)), .val (.int (2 : Int32))] []))
    refine own_st (fun tg_ kg_ => XS.iloadN X0.here hx rfl (hb hby own_d_jdk_33_method_13_code_22) rfl kg_) ?_
    show own_Gl p e below _ (s₁.setTop (mkF m 23 #[.val (.int (-sv)), .val (.int (0 : Int32)), .val (.int (-100 : Int32)), .val (.int (2 : Int32))] [(.int (-sv))]))
    refine own_st (fun tg_ kg_ => XS.iloadN X0.here hx rfl (hb hby own_d_jdk_33_method_13_code_23) rfl kg_) ?_
    show own_Gl p e below _ (s₁.setTop (mkF m 24 #[.val (.int (-sv)), .val (.int (0 : Int32)), .val (.int (-100 : Int32)), .val (.int (2 : Int32))] [(.int (-100 : Int32)), (.int (-sv))]))
    by_cases hc2 : sv.toInt < 100
    ·
      show own_Gl p e below _ (s₁.setTop (mkF m 24 #[.val (.int (-sv)), .val (.int (0 : Int32)), .val (.int (-100 : Int32)), .val (.int (2 : Int32))] [(.int (-100 : Int32)), (.int (-sv))]))
      refine own_st (fun tg_ kg_ => XS.icmpNo X0.here hx rfl (hb hby own_d_jdk_33_method_13_code_24) rfl (tlt ((own_cm (k := 100) (by decide) hone).mpr hc2)).2.2.2 kg_) ?_
      show own_Gl p e below _ (s₁.setTop (mkF m 27 #[.val (.int (-sv)), .val (.int (0 : Int32)), .val (.int (-100 : Int32)), .val (.int (2 : Int32))] []))
      refine own_st (fun tg_ kg_ => XS.iloadN X0.here hx rfl (hb hby own_d_jdk_33_method_13_code_27) rfl kg_) ?_
      show own_Gl p e below _ (s₁.setTop (mkF m 28 #[.val (.int (-sv)), .val (.int (0 : Int32)), .val (.int (-100 : Int32)), .val (.int (2 : Int32))] [(.int (2 : Int32))]))
      refine own_st (fun tg_ kg_ => XS.iloadN X0.here hx rfl (hb hby own_d_jdk_33_method_13_code_28) rfl kg_) ?_
      show own_Gl p e below _ (s₁.setTop (mkF m 29 #[.val (.int (-sv)), .val (.int (0 : Int32)), .val (.int (-100 : Int32)), .val (.int (2 : Int32))] [(.int (0 : Int32)), (.int (2 : Int32))]))
      refine own_st (fun tg_ kg_ => XS.iadd X0.here hx rfl (hb hby own_d_jdk_33_method_13_code_29) rfl kg_) ?_
      show own_Gl p e below _ (s₁.setTop (mkF m 30 #[.val (.int (-sv)), .val (.int (0 : Int32)), .val (.int (-100 : Int32)), .val (.int (2 : Int32))] [(.int (2 : Int32))]))
      exact own_retI X0 hx Bd.notSynchronized Bd.returns (hb hby own_d_jdk_33_method_13_code_30) (by decide) (by decide) e0 (⟨⟨2, rfl, by unfold own_D; have := rng32 sv; omega⟩, N0, rfl⟩)
    ·
      show own_Gl p e below _ (s₁.setTop (mkF m 24 #[.val (.int (-sv)), .val (.int (0 : Int32)), .val (.int (-100 : Int32)), .val (.int (2 : Int32))] [(.int (-100 : Int32)), (.int (-sv))]))
      refine own_st (fun tg_ kg_ => XS.icmpYes X0.here hx rfl (pc0 := 24) (pc' := 31) rfl (hb hby own_d_jdk_33_method_13_code_24) rfl (flt (fun q => hc2 ((own_cm (k := 100) (by decide) hone).mp q))).2.2.2 (by decide) (by decide) kg_) ?_
      show own_Gl p e below _ (s₁.setTop (mkF m 31 #[.val (.int (-sv)), .val (.int (0 : Int32)), .val (.int (-100 : Int32)), .val (.int (2 : Int32))] []))
      refine own_st (fun tg_ kg_ => XS.bipush X0.here hx rfl (hb hby own_d_jdk_33_method_13_code_31) kg_) ?_
      show own_Gl p e below _ (s₁.setTop (mkF m 33 #[.val (.int (-sv)), .val (.int (0 : Int32)), .val (.int (-100 : Int32)), .val (.int (2 : Int32))] [(.int (10 : Int32))]))
      refine own_st (fun tg_ kg_ => XS.iloadN X0.here hx rfl (hb hby own_d_jdk_33_method_13_code_33) rfl kg_) ?_
      show own_Gl p e below _ (s₁.setTop (mkF m 34 #[.val (.int (-sv)), .val (.int (0 : Int32)), .val (.int (-100 : Int32)), .val (.int (2 : Int32))] [(.int (-100 : Int32)), (.int (10 : Int32))]))
      refine own_st (fun tg_ kg_ => XS.imul X0.here hx rfl (hb hby own_d_jdk_33_method_13_code_34) rfl kg_) ?_
      show own_Gl p e below _ (s₁.setTop (mkF m 35 #[.val (.int (-sv)), .val (.int (0 : Int32)), .val (.int (-100 : Int32)), .val (.int (2 : Int32))] [(.int ((10 : Int32) * (-100 : Int32)))]))
      rw [(by decide : ((10 : Int32) * (-100 : Int32)) = (-1000 : Int32))]
      show own_Gl p e below _ (s₁.setTop (mkF m 35 #[.val (.int (-sv)), .val (.int (0 : Int32)), .val (.int (-100 : Int32)), .val (.int (2 : Int32))] [(.int (-1000 : Int32))]))
      refine own_st (fun tg_ kg_ => XS.istoreN X0.here hx rfl (hb hby own_d_jdk_33_method_13_code_35) rfl (l' := #[.val (.int (-sv)), .val (.int (0 : Int32)), .val (.int (-1000 : Int32)), .val (.int (2 : Int32))]) rfl kg_) ?_
      show own_Gl p e below _ (s₁.setTop (mkF m 36 #[.val (.int (-sv)), .val (.int (0 : Int32)), .val (.int (-1000 : Int32)), .val (.int (2 : Int32))] []))
      refine own_st (fun tg_ kg_ => XS.iinc X0.here hx rfl (hb hby own_d_jdk_33_method_13_code_36) rfl (l' := #[.val (.int (-sv)), .val (.int (0 : Int32)), .val (.int (-1000 : Int32)), .val (.int (3 : Int32))]) rfl kg_) ?_
      show own_Gl p e below _ (s₁.setTop (mkF m 39 #[.val (.int (-sv)), .val (.int (0 : Int32)), .val (.int (-1000 : Int32)), .val (.int (3 : Int32))] []))
      refine own_st (fun tg_ kg_ => XS.goto X0.here hx rfl (pc0 := 39) (pc' := 16) rfl (hb hby own_d_jdk_33_method_13_code_39) (by decide) (by decide) kg_) ?_
      show own_Gl p e below _ (s₁.setTop (mkF m 16 #[.val (.int (-sv)), .val (.int (0 : Int32)), .val (.int (-1000 : Int32)), .val (.int (3 : Int32))] []))
      refine own_st (fun tg_ kg_ => XS.iloadN X0.here hx rfl (hb hby own_d_jdk_33_method_13_code_16) rfl kg_) ?_
      show own_Gl p e below _ (s₁.setTop (mkF m 17 #[.val (.int (-sv)), .val (.int (0 : Int32)), .val (.int (-1000 : Int32)), .val (.int (3 : Int32))] [(.int (3 : Int32))]))
      refine own_st (fun tg_ kg_ => XS.bipush X0.here hx rfl (hb hby own_d_jdk_33_method_13_code_17) kg_) ?_
      show own_Gl p e below _ (s₁.setTop (mkF m 19 #[.val (.int (-sv)), .val (.int (0 : Int32)), .val (.int (-1000 : Int32)), .val (.int (3 : Int32))] [(.int (10 : Int32)), (.int (3 : Int32))]))
      refine own_st (fun tg_ kg_ => XS.icmpNo X0.here hx rfl (hb hby own_d_jdk_33_method_13_code_19) rfl (tlt ((by decide : (3 : Int32) < (10 : Int32)))).2.1 kg_) ?_
      show own_Gl p e below _ (s₁.setTop (mkF m 22 #[.val (.int (-sv)), .val (.int (0 : Int32)), .val (.int (-1000 : Int32)), .val (.int (3 : Int32))] []))
      refine own_st (fun tg_ kg_ => XS.iloadN X0.here hx rfl (hb hby own_d_jdk_33_method_13_code_22) rfl kg_) ?_
      show own_Gl p e below _ (s₁.setTop (mkF m 23 #[.val (.int (-sv)), .val (.int (0 : Int32)), .val (.int (-1000 : Int32)), .val (.int (3 : Int32))] [(.int (-sv))]))
      refine own_st (fun tg_ kg_ => XS.iloadN X0.here hx rfl (hb hby own_d_jdk_33_method_13_code_23) rfl kg_) ?_
      show own_Gl p e below _ (s₁.setTop (mkF m 24 #[.val (.int (-sv)), .val (.int (0 : Int32)), .val (.int (-1000 : Int32)), .val (.int (3 : Int32))] [(.int (-1000 : Int32)), (.int (-sv))]))
      by_cases hc3 : sv.toInt < 1000
      ·
        show own_Gl p e below _ (s₁.setTop (mkF m 24 #[.val (.int (-sv)), .val (.int (0 : Int32)), .val (.int (-1000 : Int32)), .val (.int (3 : Int32))] [(.int (-1000 : Int32)), (.int (-sv))]))
        refine own_st (fun tg_ kg_ => XS.icmpNo X0.here hx rfl (hb hby own_d_jdk_33_method_13_code_24) rfl (tlt ((own_cm (k := 1000) (by decide) hone).mpr hc3)).2.2.2 kg_) ?_
        show own_Gl p e below _ (s₁.setTop (mkF m 27 #[.val (.int (-sv)), .val (.int (0 : Int32)), .val (.int (-1000 : Int32)), .val (.int (3 : Int32))] []))
        refine own_st (fun tg_ kg_ => XS.iloadN X0.here hx rfl (hb hby own_d_jdk_33_method_13_code_27) rfl kg_) ?_
        show own_Gl p e below _ (s₁.setTop (mkF m 28 #[.val (.int (-sv)), .val (.int (0 : Int32)), .val (.int (-1000 : Int32)), .val (.int (3 : Int32))] [(.int (3 : Int32))]))
        refine own_st (fun tg_ kg_ => XS.iloadN X0.here hx rfl (hb hby own_d_jdk_33_method_13_code_28) rfl kg_) ?_
        show own_Gl p e below _ (s₁.setTop (mkF m 29 #[.val (.int (-sv)), .val (.int (0 : Int32)), .val (.int (-1000 : Int32)), .val (.int (3 : Int32))] [(.int (0 : Int32)), (.int (3 : Int32))]))
        refine own_st (fun tg_ kg_ => XS.iadd X0.here hx rfl (hb hby own_d_jdk_33_method_13_code_29) rfl kg_) ?_
        show own_Gl p e below _ (s₁.setTop (mkF m 30 #[.val (.int (-sv)), .val (.int (0 : Int32)), .val (.int (-1000 : Int32)), .val (.int (3 : Int32))] [(.int (3 : Int32))]))
        exact own_retI X0 hx Bd.notSynchronized Bd.returns (hb hby own_d_jdk_33_method_13_code_30) (by decide) (by decide) e0 (⟨⟨3, rfl, by unfold own_D; have := rng32 sv; omega⟩, N0, rfl⟩)
      ·
        show own_Gl p e below _ (s₁.setTop (mkF m 24 #[.val (.int (-sv)), .val (.int (0 : Int32)), .val (.int (-1000 : Int32)), .val (.int (3 : Int32))] [(.int (-1000 : Int32)), (.int (-sv))]))
        refine own_st (fun tg_ kg_ => XS.icmpYes X0.here hx rfl (pc0 := 24) (pc' := 31) rfl (hb hby own_d_jdk_33_method_13_code_24) rfl (flt (fun q => hc3 ((own_cm (k := 1000) (by decide) hone).mp q))).2.2.2 (by decide) (by decide) kg_) ?_
        show own_Gl p e below _ (s₁.setTop (mkF m 31 #[.val (.int (-sv)), .val (.int (0 : Int32)), .val (.int (-1000 : Int32)), .val (.int (3 : Int32))] []))
        refine own_st (fun tg_ kg_ => XS.bipush X0.here hx rfl (hb hby own_d_jdk_33_method_13_code_31) kg_) ?_
        show own_Gl p e below _ (s₁.setTop (mkF m 33 #[.val (.int (-sv)), .val (.int (0 : Int32)), .val (.int (-1000 : Int32)), .val (.int (3 : Int32))] [(.int (10 : Int32))]))
        refine own_st (fun tg_ kg_ => XS.iloadN X0.here hx rfl (hb hby own_d_jdk_33_method_13_code_33) rfl kg_) ?_
        show own_Gl p e below _ (s₁.setTop (mkF m 34 #[.val (.int (-sv)), .val (.int (0 : Int32)), .val (.int (-1000 : Int32)), .val (.int (3 : Int32))] [(.int (-1000 : Int32)), (.int (10 : Int32))]))
        refine own_st (fun tg_ kg_ => XS.imul X0.here hx rfl (hb hby own_d_jdk_33_method_13_code_34) rfl kg_) ?_
        show own_Gl p e below _ (s₁.setTop (mkF m 35 #[.val (.int (-sv)), .val (.int (0 : Int32)), .val (.int (-1000 : Int32)), .val (.int (3 : Int32))] [(.int ((10 : Int32) * (-1000 : Int32)))]))
        rw [(by decide : ((10 : Int32) * (-1000 : Int32)) = (-10000 : Int32))]
        show own_Gl p e below _ (s₁.setTop (mkF m 35 #[.val (.int (-sv)), .val (.int (0 : Int32)), .val (.int (-1000 : Int32)), .val (.int (3 : Int32))] [(.int (-10000 : Int32))]))
        refine own_st (fun tg_ kg_ => XS.istoreN X0.here hx rfl (hb hby own_d_jdk_33_method_13_code_35) rfl (l' := #[.val (.int (-sv)), .val (.int (0 : Int32)), .val (.int (-10000 : Int32)), .val (.int (3 : Int32))]) rfl kg_) ?_
        show own_Gl p e below _ (s₁.setTop (mkF m 36 #[.val (.int (-sv)), .val (.int (0 : Int32)), .val (.int (-10000 : Int32)), .val (.int (3 : Int32))] []))
        refine own_st (fun tg_ kg_ => XS.iinc X0.here hx rfl (hb hby own_d_jdk_33_method_13_code_36) rfl (l' := #[.val (.int (-sv)), .val (.int (0 : Int32)), .val (.int (-10000 : Int32)), .val (.int (4 : Int32))]) rfl kg_) ?_
        show own_Gl p e below _ (s₁.setTop (mkF m 39 #[.val (.int (-sv)), .val (.int (0 : Int32)), .val (.int (-10000 : Int32)), .val (.int (4 : Int32))] []))
        refine own_st (fun tg_ kg_ => XS.goto X0.here hx rfl (pc0 := 39) (pc' := 16) rfl (hb hby own_d_jdk_33_method_13_code_39) (by decide) (by decide) kg_) ?_
        show own_Gl p e below _ (s₁.setTop (mkF m 16 #[.val (.int (-sv)), .val (.int (0 : Int32)), .val (.int (-10000 : Int32)), .val (.int (4 : Int32))] []))
        refine own_st (fun tg_ kg_ => XS.iloadN X0.here hx rfl (hb hby own_d_jdk_33_method_13_code_16) rfl kg_) ?_
        show own_Gl p e below _ (s₁.setTop (mkF m 17 #[.val (.int (-sv)), .val (.int (0 : Int32)), .val (.int (-10000 : Int32)), .val (.int (4 : Int32))] [(.int (4 : Int32))]))
        refine own_st (fun tg_ kg_ => XS.bipush X0.here hx rfl (hb hby own_d_jdk_33_method_13_code_17) kg_) ?_
        show own_Gl p e below _ (s₁.setTop (mkF m 19 #[.val (.int (-sv)), .val (.int (0 : Int32)), .val (.int (-10000 : Int32)), .val (.int (4 : Int32))] [(.int (10 : Int32)), (.int (4 : Int32))]))
        refine own_st (fun tg_ kg_ => XS.icmpNo X0.here hx rfl (hb hby own_d_jdk_33_method_13_code_19) rfl (tlt ((by decide : (4 : Int32) < (10 : Int32)))).2.1 kg_) ?_
        show own_Gl p e below _ (s₁.setTop (mkF m 22 #[.val (.int (-sv)), .val (.int (0 : Int32)), .val (.int (-10000 : Int32)), .val (.int (4 : Int32))] []))
        refine own_st (fun tg_ kg_ => XS.iloadN X0.here hx rfl (hb hby own_d_jdk_33_method_13_code_22) rfl kg_) ?_
        show own_Gl p e below _ (s₁.setTop (mkF m 23 #[.val (.int (-sv)), .val (.int (0 : Int32)), .val (.int (-10000 : Int32)), .val (.int (4 : Int32))] [(.int (-sv))]))
        refine own_st (fun tg_ kg_ => XS.iloadN X0.here hx rfl (hb hby own_d_jdk_33_method_13_code_23) rfl kg_) ?_
        show own_Gl p e below _ (s₁.setTop (mkF m 24 #[.val (.int (-sv)), .val (.int (0 : Int32)), .val (.int (-10000 : Int32)), .val (.int (4 : Int32))] [(.int (-10000 : Int32)), (.int (-sv))]))
        by_cases hc4 : sv.toInt < 10000
        ·
          show own_Gl p e below _ (s₁.setTop (mkF m 24 #[.val (.int (-sv)), .val (.int (0 : Int32)), .val (.int (-10000 : Int32)), .val (.int (4 : Int32))] [(.int (-10000 : Int32)), (.int (-sv))]))
          refine own_st (fun tg_ kg_ => XS.icmpNo X0.here hx rfl (hb hby own_d_jdk_33_method_13_code_24) rfl (tlt ((own_cm (k := 10000) (by decide) hone).mpr hc4)).2.2.2 kg_) ?_
          show own_Gl p e below _ (s₁.setTop (mkF m 27 #[.val (.int (-sv)), .val (.int (0 : Int32)), .val (.int (-10000 : Int32)), .val (.int (4 : Int32))] []))
          refine own_st (fun tg_ kg_ => XS.iloadN X0.here hx rfl (hb hby own_d_jdk_33_method_13_code_27) rfl kg_) ?_
          show own_Gl p e below _ (s₁.setTop (mkF m 28 #[.val (.int (-sv)), .val (.int (0 : Int32)), .val (.int (-10000 : Int32)), .val (.int (4 : Int32))] [(.int (4 : Int32))]))
          refine own_st (fun tg_ kg_ => XS.iloadN X0.here hx rfl (hb hby own_d_jdk_33_method_13_code_28) rfl kg_) ?_
          show own_Gl p e below _ (s₁.setTop (mkF m 29 #[.val (.int (-sv)), .val (.int (0 : Int32)), .val (.int (-10000 : Int32)), .val (.int (4 : Int32))] [(.int (0 : Int32)), (.int (4 : Int32))]))
          refine own_st (fun tg_ kg_ => XS.iadd X0.here hx rfl (hb hby own_d_jdk_33_method_13_code_29) rfl kg_) ?_
          show own_Gl p e below _ (s₁.setTop (mkF m 30 #[.val (.int (-sv)), .val (.int (0 : Int32)), .val (.int (-10000 : Int32)), .val (.int (4 : Int32))] [(.int (4 : Int32))]))
          exact own_retI X0 hx Bd.notSynchronized Bd.returns (hb hby own_d_jdk_33_method_13_code_30) (by decide) (by decide) e0 (⟨⟨4, rfl, by unfold own_D; have := rng32 sv; omega⟩, N0, rfl⟩)
        ·
          show own_Gl p e below _ (s₁.setTop (mkF m 24 #[.val (.int (-sv)), .val (.int (0 : Int32)), .val (.int (-10000 : Int32)), .val (.int (4 : Int32))] [(.int (-10000 : Int32)), (.int (-sv))]))
          refine own_st (fun tg_ kg_ => XS.icmpYes X0.here hx rfl (pc0 := 24) (pc' := 31) rfl (hb hby own_d_jdk_33_method_13_code_24) rfl (flt (fun q => hc4 ((own_cm (k := 10000) (by decide) hone).mp q))).2.2.2 (by decide) (by decide) kg_) ?_
          show own_Gl p e below _ (s₁.setTop (mkF m 31 #[.val (.int (-sv)), .val (.int (0 : Int32)), .val (.int (-10000 : Int32)), .val (.int (4 : Int32))] []))
          refine own_st (fun tg_ kg_ => XS.bipush X0.here hx rfl (hb hby own_d_jdk_33_method_13_code_31) kg_) ?_
          show own_Gl p e below _ (s₁.setTop (mkF m 33 #[.val (.int (-sv)), .val (.int (0 : Int32)), .val (.int (-10000 : Int32)), .val (.int (4 : Int32))] [(.int (10 : Int32))]))
          refine own_st (fun tg_ kg_ => XS.iloadN X0.here hx rfl (hb hby own_d_jdk_33_method_13_code_33) rfl kg_) ?_
          show own_Gl p e below _ (s₁.setTop (mkF m 34 #[.val (.int (-sv)), .val (.int (0 : Int32)), .val (.int (-10000 : Int32)), .val (.int (4 : Int32))] [(.int (-10000 : Int32)), (.int (10 : Int32))]))
          refine own_st (fun tg_ kg_ => XS.imul X0.here hx rfl (hb hby own_d_jdk_33_method_13_code_34) rfl kg_) ?_
          show own_Gl p e below _ (s₁.setTop (mkF m 35 #[.val (.int (-sv)), .val (.int (0 : Int32)), .val (.int (-10000 : Int32)), .val (.int (4 : Int32))] [(.int ((10 : Int32) * (-10000 : Int32)))]))
          rw [(by decide : ((10 : Int32) * (-10000 : Int32)) = (-100000 : Int32))]
          show own_Gl p e below _ (s₁.setTop (mkF m 35 #[.val (.int (-sv)), .val (.int (0 : Int32)), .val (.int (-10000 : Int32)), .val (.int (4 : Int32))] [(.int (-100000 : Int32))]))
          refine own_st (fun tg_ kg_ => XS.istoreN X0.here hx rfl (hb hby own_d_jdk_33_method_13_code_35) rfl (l' := #[.val (.int (-sv)), .val (.int (0 : Int32)), .val (.int (-100000 : Int32)), .val (.int (4 : Int32))]) rfl kg_) ?_
          show own_Gl p e below _ (s₁.setTop (mkF m 36 #[.val (.int (-sv)), .val (.int (0 : Int32)), .val (.int (-100000 : Int32)), .val (.int (4 : Int32))] []))
          refine own_st (fun tg_ kg_ => XS.iinc X0.here hx rfl (hb hby own_d_jdk_33_method_13_code_36) rfl (l' := #[.val (.int (-sv)), .val (.int (0 : Int32)), .val (.int (-100000 : Int32)), .val (.int (5 : Int32))]) rfl kg_) ?_
          show own_Gl p e below _ (s₁.setTop (mkF m 39 #[.val (.int (-sv)), .val (.int (0 : Int32)), .val (.int (-100000 : Int32)), .val (.int (5 : Int32))] []))
          refine own_st (fun tg_ kg_ => XS.goto X0.here hx rfl (pc0 := 39) (pc' := 16) rfl (hb hby own_d_jdk_33_method_13_code_39) (by decide) (by decide) kg_) ?_
          show own_Gl p e below _ (s₁.setTop (mkF m 16 #[.val (.int (-sv)), .val (.int (0 : Int32)), .val (.int (-100000 : Int32)), .val (.int (5 : Int32))] []))
          refine own_st (fun tg_ kg_ => XS.iloadN X0.here hx rfl (hb hby own_d_jdk_33_method_13_code_16) rfl kg_) ?_
          show own_Gl p e below _ (s₁.setTop (mkF m 17 #[.val (.int (-sv)), .val (.int (0 : Int32)), .val (.int (-100000 : Int32)), .val (.int (5 : Int32))] [(.int (5 : Int32))]))
          refine own_st (fun tg_ kg_ => XS.bipush X0.here hx rfl (hb hby own_d_jdk_33_method_13_code_17) kg_) ?_
          show own_Gl p e below _ (s₁.setTop (mkF m 19 #[.val (.int (-sv)), .val (.int (0 : Int32)), .val (.int (-100000 : Int32)), .val (.int (5 : Int32))] [(.int (10 : Int32)), (.int (5 : Int32))]))
          refine own_st (fun tg_ kg_ => XS.icmpNo X0.here hx rfl (hb hby own_d_jdk_33_method_13_code_19) rfl (tlt ((by decide : (5 : Int32) < (10 : Int32)))).2.1 kg_) ?_
          show own_Gl p e below _ (s₁.setTop (mkF m 22 #[.val (.int (-sv)), .val (.int (0 : Int32)), .val (.int (-100000 : Int32)), .val (.int (5 : Int32))] []))
          refine own_st (fun tg_ kg_ => XS.iloadN X0.here hx rfl (hb hby own_d_jdk_33_method_13_code_22) rfl kg_) ?_
          show own_Gl p e below _ (s₁.setTop (mkF m 23 #[.val (.int (-sv)), .val (.int (0 : Int32)), .val (.int (-100000 : Int32)), .val (.int (5 : Int32))] [(.int (-sv))]))
          refine own_st (fun tg_ kg_ => XS.iloadN X0.here hx rfl (hb hby own_d_jdk_33_method_13_code_23) rfl kg_) ?_
          show own_Gl p e below _ (s₁.setTop (mkF m 24 #[.val (.int (-sv)), .val (.int (0 : Int32)), .val (.int (-100000 : Int32)), .val (.int (5 : Int32))] [(.int (-100000 : Int32)), (.int (-sv))]))
          by_cases hc5 : sv.toInt < 100000
          ·
            show own_Gl p e below _ (s₁.setTop (mkF m 24 #[.val (.int (-sv)), .val (.int (0 : Int32)), .val (.int (-100000 : Int32)), .val (.int (5 : Int32))] [(.int (-100000 : Int32)), (.int (-sv))]))
            refine own_st (fun tg_ kg_ => XS.icmpNo X0.here hx rfl (hb hby own_d_jdk_33_method_13_code_24) rfl (tlt ((own_cm (k := 100000) (by decide) hone).mpr hc5)).2.2.2 kg_) ?_
            show own_Gl p e below _ (s₁.setTop (mkF m 27 #[.val (.int (-sv)), .val (.int (0 : Int32)), .val (.int (-100000 : Int32)), .val (.int (5 : Int32))] []))
            refine own_st (fun tg_ kg_ => XS.iloadN X0.here hx rfl (hb hby own_d_jdk_33_method_13_code_27) rfl kg_) ?_
            show own_Gl p e below _ (s₁.setTop (mkF m 28 #[.val (.int (-sv)), .val (.int (0 : Int32)), .val (.int (-100000 : Int32)), .val (.int (5 : Int32))] [(.int (5 : Int32))]))
            refine own_st (fun tg_ kg_ => XS.iloadN X0.here hx rfl (hb hby own_d_jdk_33_method_13_code_28) rfl kg_) ?_
            show own_Gl p e below _ (s₁.setTop (mkF m 29 #[.val (.int (-sv)), .val (.int (0 : Int32)), .val (.int (-100000 : Int32)), .val (.int (5 : Int32))] [(.int (0 : Int32)), (.int (5 : Int32))]))
            refine own_st (fun tg_ kg_ => XS.iadd X0.here hx rfl (hb hby own_d_jdk_33_method_13_code_29) rfl kg_) ?_
            show own_Gl p e below _ (s₁.setTop (mkF m 30 #[.val (.int (-sv)), .val (.int (0 : Int32)), .val (.int (-100000 : Int32)), .val (.int (5 : Int32))] [(.int (5 : Int32))]))
            exact own_retI X0 hx Bd.notSynchronized Bd.returns (hb hby own_d_jdk_33_method_13_code_30) (by decide) (by decide) e0 (⟨⟨5, rfl, by unfold own_D; have := rng32 sv; omega⟩, N0, rfl⟩)
          ·
            show own_Gl p e below _ (s₁.setTop (mkF m 24 #[.val (.int (-sv)), .val (.int (0 : Int32)), .val (.int (-100000 : Int32)), .val (.int (5 : Int32))] [(.int (-100000 : Int32)), (.int (-sv))]))
            refine own_st (fun tg_ kg_ => XS.icmpYes X0.here hx rfl (pc0 := 24) (pc' := 31) rfl (hb hby own_d_jdk_33_method_13_code_24) rfl (flt (fun q => hc5 ((own_cm (k := 100000) (by decide) hone).mp q))).2.2.2 (by decide) (by decide) kg_) ?_
            show own_Gl p e below _ (s₁.setTop (mkF m 31 #[.val (.int (-sv)), .val (.int (0 : Int32)), .val (.int (-100000 : Int32)), .val (.int (5 : Int32))] []))
            refine own_st (fun tg_ kg_ => XS.bipush X0.here hx rfl (hb hby own_d_jdk_33_method_13_code_31) kg_) ?_
            show own_Gl p e below _ (s₁.setTop (mkF m 33 #[.val (.int (-sv)), .val (.int (0 : Int32)), .val (.int (-100000 : Int32)), .val (.int (5 : Int32))] [(.int (10 : Int32))]))
            refine own_st (fun tg_ kg_ => XS.iloadN X0.here hx rfl (hb hby own_d_jdk_33_method_13_code_33) rfl kg_) ?_
            show own_Gl p e below _ (s₁.setTop (mkF m 34 #[.val (.int (-sv)), .val (.int (0 : Int32)), .val (.int (-100000 : Int32)), .val (.int (5 : Int32))] [(.int (-100000 : Int32)), (.int (10 : Int32))]))
            refine own_st (fun tg_ kg_ => XS.imul X0.here hx rfl (hb hby own_d_jdk_33_method_13_code_34) rfl kg_) ?_
            show own_Gl p e below _ (s₁.setTop (mkF m 35 #[.val (.int (-sv)), .val (.int (0 : Int32)), .val (.int (-100000 : Int32)), .val (.int (5 : Int32))] [(.int ((10 : Int32) * (-100000 : Int32)))]))
            rw [(by decide : ((10 : Int32) * (-100000 : Int32)) = (-1000000 : Int32))]
            show own_Gl p e below _ (s₁.setTop (mkF m 35 #[.val (.int (-sv)), .val (.int (0 : Int32)), .val (.int (-100000 : Int32)), .val (.int (5 : Int32))] [(.int (-1000000 : Int32))]))
            refine own_st (fun tg_ kg_ => XS.istoreN X0.here hx rfl (hb hby own_d_jdk_33_method_13_code_35) rfl (l' := #[.val (.int (-sv)), .val (.int (0 : Int32)), .val (.int (-1000000 : Int32)), .val (.int (5 : Int32))]) rfl kg_) ?_
            show own_Gl p e below _ (s₁.setTop (mkF m 36 #[.val (.int (-sv)), .val (.int (0 : Int32)), .val (.int (-1000000 : Int32)), .val (.int (5 : Int32))] []))
            refine own_st (fun tg_ kg_ => XS.iinc X0.here hx rfl (hb hby own_d_jdk_33_method_13_code_36) rfl (l' := #[.val (.int (-sv)), .val (.int (0 : Int32)), .val (.int (-1000000 : Int32)), .val (.int (6 : Int32))]) rfl kg_) ?_
            show own_Gl p e below _ (s₁.setTop (mkF m 39 #[.val (.int (-sv)), .val (.int (0 : Int32)), .val (.int (-1000000 : Int32)), .val (.int (6 : Int32))] []))
            refine own_st (fun tg_ kg_ => XS.goto X0.here hx rfl (pc0 := 39) (pc' := 16) rfl (hb hby own_d_jdk_33_method_13_code_39) (by decide) (by decide) kg_) ?_
            show own_Gl p e below _ (s₁.setTop (mkF m 16 #[.val (.int (-sv)), .val (.int (0 : Int32)), .val (.int (-1000000 : Int32)), .val (.int (6 : Int32))] []))
            refine own_st (fun tg_ kg_ => XS.iloadN X0.here hx rfl (hb hby own_d_jdk_33_method_13_code_16) rfl kg_) ?_
            show own_Gl p e below _ (s₁.setTop (mkF m 17 #[.val (.int (-sv)), .val (.int (0 : Int32)), .val (.int (-1000000 : Int32)), .val (.int (6 : Int32))] [(.int (6 : Int32))]))
            refine own_st (fun tg_ kg_ => XS.bipush X0.here hx rfl (hb hby own_d_jdk_33_method_13_code_17) kg_) ?_
            show own_Gl p e below _ (s₁.setTop (mkF m 19 #[.val (.int (-sv)), .val (.int (0 : Int32)), .val (.int (-1000000 : Int32)), .val (.int (6 : Int32))] [(.int (10 : Int32)), (.int (6 : Int32))]))
            refine own_st (fun tg_ kg_ => XS.icmpNo X0.here hx rfl (hb hby own_d_jdk_33_method_13_code_19) rfl (tlt ((by decide : (6 : Int32) < (10 : Int32)))).2.1 kg_) ?_
            show own_Gl p e below _ (s₁.setTop (mkF m 22 #[.val (.int (-sv)), .val (.int (0 : Int32)), .val (.int (-1000000 : Int32)), .val (.int (6 : Int32))] []))
            refine own_st (fun tg_ kg_ => XS.iloadN X0.here hx rfl (hb hby own_d_jdk_33_method_13_code_22) rfl kg_) ?_
            show own_Gl p e below _ (s₁.setTop (mkF m 23 #[.val (.int (-sv)), .val (.int (0 : Int32)), .val (.int (-1000000 : Int32)), .val (.int (6 : Int32))] [(.int (-sv))]))
            refine own_st (fun tg_ kg_ => XS.iloadN X0.here hx rfl (hb hby own_d_jdk_33_method_13_code_23) rfl kg_) ?_
            show own_Gl p e below _ (s₁.setTop (mkF m 24 #[.val (.int (-sv)), .val (.int (0 : Int32)), .val (.int (-1000000 : Int32)), .val (.int (6 : Int32))] [(.int (-1000000 : Int32)), (.int (-sv))]))
            by_cases hc6 : sv.toInt < 1000000
            ·
              show own_Gl p e below _ (s₁.setTop (mkF m 24 #[.val (.int (-sv)), .val (.int (0 : Int32)), .val (.int (-1000000 : Int32)), .val (.int (6 : Int32))] [(.int (-1000000 : Int32)), (.int (-sv))]))
              refine own_st (fun tg_ kg_ => XS.icmpNo X0.here hx rfl (hb hby own_d_jdk_33_method_13_code_24) rfl (tlt ((own_cm (k := 1000000) (by decide) hone).mpr hc6)).2.2.2 kg_) ?_
              show own_Gl p e below _ (s₁.setTop (mkF m 27 #[.val (.int (-sv)), .val (.int (0 : Int32)), .val (.int (-1000000 : Int32)), .val (.int (6 : Int32))] []))
              refine own_st (fun tg_ kg_ => XS.iloadN X0.here hx rfl (hb hby own_d_jdk_33_method_13_code_27) rfl kg_) ?_
              show own_Gl p e below _ (s₁.setTop (mkF m 28 #[.val (.int (-sv)), .val (.int (0 : Int32)), .val (.int (-1000000 : Int32)), .val (.int (6 : Int32))] [(.int (6 : Int32))]))
              refine own_st (fun tg_ kg_ => XS.iloadN X0.here hx rfl (hb hby own_d_jdk_33_method_13_code_28) rfl kg_) ?_
              show own_Gl p e below _ (s₁.setTop (mkF m 29 #[.val (.int (-sv)), .val (.int (0 : Int32)), .val (.int (-1000000 : Int32)), .val (.int (6 : Int32))] [(.int (0 : Int32)), (.int (6 : Int32))]))
              refine own_st (fun tg_ kg_ => XS.iadd X0.here hx rfl (hb hby own_d_jdk_33_method_13_code_29) rfl kg_) ?_
              show own_Gl p e below _ (s₁.setTop (mkF m 30 #[.val (.int (-sv)), .val (.int (0 : Int32)), .val (.int (-1000000 : Int32)), .val (.int (6 : Int32))] [(.int (6 : Int32))]))
              exact own_retI X0 hx Bd.notSynchronized Bd.returns (hb hby own_d_jdk_33_method_13_code_30) (by decide) (by decide) e0 (⟨⟨6, rfl, by unfold own_D; have := rng32 sv; omega⟩, N0, rfl⟩)
            ·
              show own_Gl p e below _ (s₁.setTop (mkF m 24 #[.val (.int (-sv)), .val (.int (0 : Int32)), .val (.int (-1000000 : Int32)), .val (.int (6 : Int32))] [(.int (-1000000 : Int32)), (.int (-sv))]))
              refine own_st (fun tg_ kg_ => XS.icmpYes X0.here hx rfl (pc0 := 24) (pc' := 31) rfl (hb hby own_d_jdk_33_method_13_code_24) rfl (flt (fun q => hc6 ((own_cm (k := 1000000) (by decide) hone).mp q))).2.2.2 (by decide) (by decide) kg_) ?_
              show own_Gl p e below _ (s₁.setTop (mkF m 31 #[.val (.int (-sv)), .val (.int (0 : Int32)), .val (.int (-1000000 : Int32)), .val (.int (6 : Int32))] []))
              refine own_st (fun tg_ kg_ => XS.bipush X0.here hx rfl (hb hby own_d_jdk_33_method_13_code_31) kg_) ?_
              show own_Gl p e below _ (s₁.setTop (mkF m 33 #[.val (.int (-sv)), .val (.int (0 : Int32)), .val (.int (-1000000 : Int32)), .val (.int (6 : Int32))] [(.int (10 : Int32))]))
              refine own_st (fun tg_ kg_ => XS.iloadN X0.here hx rfl (hb hby own_d_jdk_33_method_13_code_33) rfl kg_) ?_
              show own_Gl p e below _ (s₁.setTop (mkF m 34 #[.val (.int (-sv)), .val (.int (0 : Int32)), .val (.int (-1000000 : Int32)), .val (.int (6 : Int32))] [(.int (-1000000 : Int32)), (.int (10 : Int32))]))
              refine own_st (fun tg_ kg_ => XS.imul X0.here hx rfl (hb hby own_d_jdk_33_method_13_code_34) rfl kg_) ?_
              show own_Gl p e below _ (s₁.setTop (mkF m 35 #[.val (.int (-sv)), .val (.int (0 : Int32)), .val (.int (-1000000 : Int32)), .val (.int (6 : Int32))] [(.int ((10 : Int32) * (-1000000 : Int32)))]))
              rw [(by decide : ((10 : Int32) * (-1000000 : Int32)) = (-10000000 : Int32))]
              show own_Gl p e below _ (s₁.setTop (mkF m 35 #[.val (.int (-sv)), .val (.int (0 : Int32)), .val (.int (-1000000 : Int32)), .val (.int (6 : Int32))] [(.int (-10000000 : Int32))]))
              refine own_st (fun tg_ kg_ => XS.istoreN X0.here hx rfl (hb hby own_d_jdk_33_method_13_code_35) rfl (l' := #[.val (.int (-sv)), .val (.int (0 : Int32)), .val (.int (-10000000 : Int32)), .val (.int (6 : Int32))]) rfl kg_) ?_
              show own_Gl p e below _ (s₁.setTop (mkF m 36 #[.val (.int (-sv)), .val (.int (0 : Int32)), .val (.int (-10000000 : Int32)), .val (.int (6 : Int32))] []))
              refine own_st (fun tg_ kg_ => XS.iinc X0.here hx rfl (hb hby own_d_jdk_33_method_13_code_36) rfl (l' := #[.val (.int (-sv)), .val (.int (0 : Int32)), .val (.int (-10000000 : Int32)), .val (.int (7 : Int32))]) rfl kg_) ?_
              show own_Gl p e below _ (s₁.setTop (mkF m 39 #[.val (.int (-sv)), .val (.int (0 : Int32)), .val (.int (-10000000 : Int32)), .val (.int (7 : Int32))] []))
              refine own_st (fun tg_ kg_ => XS.goto X0.here hx rfl (pc0 := 39) (pc' := 16) rfl (hb hby own_d_jdk_33_method_13_code_39) (by decide) (by decide) kg_) ?_
              show own_Gl p e below _ (s₁.setTop (mkF m 16 #[.val (.int (-sv)), .val (.int (0 : Int32)), .val (.int (-10000000 : Int32)), .val (.int (7 : Int32))] []))
              refine own_st (fun tg_ kg_ => XS.iloadN X0.here hx rfl (hb hby own_d_jdk_33_method_13_code_16) rfl kg_) ?_
              show own_Gl p e below _ (s₁.setTop (mkF m 17 #[.val (.int (-sv)), .val (.int (0 : Int32)), .val (.int (-10000000 : Int32)), .val (.int (7 : Int32))] [(.int (7 : Int32))]))
              refine own_st (fun tg_ kg_ => XS.bipush X0.here hx rfl (hb hby own_d_jdk_33_method_13_code_17) kg_) ?_
              show own_Gl p e below _ (s₁.setTop (mkF m 19 #[.val (.int (-sv)), .val (.int (0 : Int32)), .val (.int (-10000000 : Int32)), .val (.int (7 : Int32))] [(.int (10 : Int32)), (.int (7 : Int32))]))
              refine own_st (fun tg_ kg_ => XS.icmpNo X0.here hx rfl (hb hby own_d_jdk_33_method_13_code_19) rfl (tlt ((by decide : (7 : Int32) < (10 : Int32)))).2.1 kg_) ?_
              show own_Gl p e below _ (s₁.setTop (mkF m 22 #[.val (.int (-sv)), .val (.int (0 : Int32)), .val (.int (-10000000 : Int32)), .val (.int (7 : Int32))] []))
              refine own_st (fun tg_ kg_ => XS.iloadN X0.here hx rfl (hb hby own_d_jdk_33_method_13_code_22) rfl kg_) ?_
              show own_Gl p e below _ (s₁.setTop (mkF m 23 #[.val (.int (-sv)), .val (.int (0 : Int32)), .val (.int (-10000000 : Int32)), .val (.int (7 : Int32))] [(.int (-sv))]))
              refine own_st (fun tg_ kg_ => XS.iloadN X0.here hx rfl (hb hby own_d_jdk_33_method_13_code_23) rfl kg_) ?_
              show own_Gl p e below _ (s₁.setTop (mkF m 24 #[.val (.int (-sv)), .val (.int (0 : Int32)), .val (.int (-10000000 : Int32)), .val (.int (7 : Int32))] [(.int (-10000000 : Int32)), (.int (-sv))]))
              by_cases hc7 : sv.toInt < 10000000
              ·
                show own_Gl p e below _ (s₁.setTop (mkF m 24 #[.val (.int (-sv)), .val (.int (0 : Int32)), .val (.int (-10000000 : Int32)), .val (.int (7 : Int32))] [(.int (-10000000 : Int32)), (.int (-sv))]))
                refine own_st (fun tg_ kg_ => XS.icmpNo X0.here hx rfl (hb hby own_d_jdk_33_method_13_code_24) rfl (tlt ((own_cm (k := 10000000) (by decide) hone).mpr hc7)).2.2.2 kg_) ?_
                show own_Gl p e below _ (s₁.setTop (mkF m 27 #[.val (.int (-sv)), .val (.int (0 : Int32)), .val (.int (-10000000 : Int32)), .val (.int (7 : Int32))] []))
                refine own_st (fun tg_ kg_ => XS.iloadN X0.here hx rfl (hb hby own_d_jdk_33_method_13_code_27) rfl kg_) ?_
                show own_Gl p e below _ (s₁.setTop (mkF m 28 #[.val (.int (-sv)), .val (.int (0 : Int32)), .val (.int (-10000000 : Int32)), .val (.int (7 : Int32))] [(.int (7 : Int32))]))
                refine own_st (fun tg_ kg_ => XS.iloadN X0.here hx rfl (hb hby own_d_jdk_33_method_13_code_28) rfl kg_) ?_
                show own_Gl p e below _ (s₁.setTop (mkF m 29 #[.val (.int (-sv)), .val (.int (0 : Int32)), .val (.int (-10000000 : Int32)), .val (.int (7 : Int32))] [(.int (0 : Int32)), (.int (7 : Int32))]))
                refine own_st (fun tg_ kg_ => XS.iadd X0.here hx rfl (hb hby own_d_jdk_33_method_13_code_29) rfl kg_) ?_
                show own_Gl p e below _ (s₁.setTop (mkF m 30 #[.val (.int (-sv)), .val (.int (0 : Int32)), .val (.int (-10000000 : Int32)), .val (.int (7 : Int32))] [(.int (7 : Int32))]))
                exact own_retI X0 hx Bd.notSynchronized Bd.returns (hb hby own_d_jdk_33_method_13_code_30) (by decide) (by decide) e0 (⟨⟨7, rfl, by unfold own_D; have := rng32 sv; omega⟩, N0, rfl⟩)
              ·
                show own_Gl p e below _ (s₁.setTop (mkF m 24 #[.val (.int (-sv)), .val (.int (0 : Int32)), .val (.int (-10000000 : Int32)), .val (.int (7 : Int32))] [(.int (-10000000 : Int32)), (.int (-sv))]))
                refine own_st (fun tg_ kg_ => XS.icmpYes X0.here hx rfl (pc0 := 24) (pc' := 31) rfl (hb hby own_d_jdk_33_method_13_code_24) rfl (flt (fun q => hc7 ((own_cm (k := 10000000) (by decide) hone).mp q))).2.2.2 (by decide) (by decide) kg_) ?_
                show own_Gl p e below _ (s₁.setTop (mkF m 31 #[.val (.int (-sv)), .val (.int (0 : Int32)), .val (.int (-10000000 : Int32)), .val (.int (7 : Int32))] []))
                refine own_st (fun tg_ kg_ => XS.bipush X0.here hx rfl (hb hby own_d_jdk_33_method_13_code_31) kg_) ?_
                show own_Gl p e below _ (s₁.setTop (mkF m 33 #[.val (.int (-sv)), .val (.int (0 : Int32)), .val (.int (-10000000 : Int32)), .val (.int (7 : Int32))] [(.int (10 : Int32))]))
                refine own_st (fun tg_ kg_ => XS.iloadN X0.here hx rfl (hb hby own_d_jdk_33_method_13_code_33) rfl kg_) ?_
                show own_Gl p e below _ (s₁.setTop (mkF m 34 #[.val (.int (-sv)), .val (.int (0 : Int32)), .val (.int (-10000000 : Int32)), .val (.int (7 : Int32))] [(.int (-10000000 : Int32)), (.int (10 : Int32))]))
                refine own_st (fun tg_ kg_ => XS.imul X0.here hx rfl (hb hby own_d_jdk_33_method_13_code_34) rfl kg_) ?_
                show own_Gl p e below _ (s₁.setTop (mkF m 35 #[.val (.int (-sv)), .val (.int (0 : Int32)), .val (.int (-10000000 : Int32)), .val (.int (7 : Int32))] [(.int ((10 : Int32) * (-10000000 : Int32)))]))
                rw [(by decide : ((10 : Int32) * (-10000000 : Int32)) = (-100000000 : Int32))]
                show own_Gl p e below _ (s₁.setTop (mkF m 35 #[.val (.int (-sv)), .val (.int (0 : Int32)), .val (.int (-10000000 : Int32)), .val (.int (7 : Int32))] [(.int (-100000000 : Int32))]))
                refine own_st (fun tg_ kg_ => XS.istoreN X0.here hx rfl (hb hby own_d_jdk_33_method_13_code_35) rfl (l' := #[.val (.int (-sv)), .val (.int (0 : Int32)), .val (.int (-100000000 : Int32)), .val (.int (7 : Int32))]) rfl kg_) ?_
                show own_Gl p e below _ (s₁.setTop (mkF m 36 #[.val (.int (-sv)), .val (.int (0 : Int32)), .val (.int (-100000000 : Int32)), .val (.int (7 : Int32))] []))
                refine own_st (fun tg_ kg_ => XS.iinc X0.here hx rfl (hb hby own_d_jdk_33_method_13_code_36) rfl (l' := #[.val (.int (-sv)), .val (.int (0 : Int32)), .val (.int (-100000000 : Int32)), .val (.int (8 : Int32))]) rfl kg_) ?_
                show own_Gl p e below _ (s₁.setTop (mkF m 39 #[.val (.int (-sv)), .val (.int (0 : Int32)), .val (.int (-100000000 : Int32)), .val (.int (8 : Int32))] []))
                refine own_st (fun tg_ kg_ => XS.goto X0.here hx rfl (pc0 := 39) (pc' := 16) rfl (hb hby own_d_jdk_33_method_13_code_39) (by decide) (by decide) kg_) ?_
                show own_Gl p e below _ (s₁.setTop (mkF m 16 #[.val (.int (-sv)), .val (.int (0 : Int32)), .val (.int (-100000000 : Int32)), .val (.int (8 : Int32))] []))
                refine own_st (fun tg_ kg_ => XS.iloadN X0.here hx rfl (hb hby own_d_jdk_33_method_13_code_16) rfl kg_) ?_
                show own_Gl p e below _ (s₁.setTop (mkF m 17 #[.val (.int (-sv)), .val (.int (0 : Int32)), .val (.int (-100000000 : Int32)), .val (.int (8 : Int32))] [(.int (8 : Int32))]))
                refine own_st (fun tg_ kg_ => XS.bipush X0.here hx rfl (hb hby own_d_jdk_33_method_13_code_17) kg_) ?_
                show own_Gl p e below _ (s₁.setTop (mkF m 19 #[.val (.int (-sv)), .val (.int (0 : Int32)), .val (.int (-100000000 : Int32)), .val (.int (8 : Int32))] [(.int (10 : Int32)), (.int (8 : Int32))]))
                refine own_st (fun tg_ kg_ => XS.icmpNo X0.here hx rfl (hb hby own_d_jdk_33_method_13_code_19) rfl (tlt ((by decide : (8 : Int32) < (10 : Int32)))).2.1 kg_) ?_
                show own_Gl p e below _ (s₁.setTop (mkF m 22 #[.val (.int (-sv)), .val (.int (0 : Int32)), .val (.int (-100000000 : Int32)), .val (.int (8 : Int32))] []))
                refine own_st (fun tg_ kg_ => XS.iloadN X0.here hx rfl (hb hby own_d_jdk_33_method_13_code_22) rfl kg_) ?_
                show own_Gl p e below _ (s₁.setTop (mkF m 23 #[.val (.int (-sv)), .val (.int (0 : Int32)), .val (.int (-100000000 : Int32)), .val (.int (8 : Int32))] [(.int (-sv))]))
                refine own_st (fun tg_ kg_ => XS.iloadN X0.here hx rfl (hb hby own_d_jdk_33_method_13_code_23) rfl kg_) ?_
                show own_Gl p e below _ (s₁.setTop (mkF m 24 #[.val (.int (-sv)), .val (.int (0 : Int32)), .val (.int (-100000000 : Int32)), .val (.int (8 : Int32))] [(.int (-100000000 : Int32)), (.int (-sv))]))
                by_cases hc8 : sv.toInt < 100000000
                ·
                  show own_Gl p e below _ (s₁.setTop (mkF m 24 #[.val (.int (-sv)), .val (.int (0 : Int32)), .val (.int (-100000000 : Int32)), .val (.int (8 : Int32))] [(.int (-100000000 : Int32)), (.int (-sv))]))
                  refine own_st (fun tg_ kg_ => XS.icmpNo X0.here hx rfl (hb hby own_d_jdk_33_method_13_code_24) rfl (tlt ((own_cm (k := 100000000) (by decide) hone).mpr hc8)).2.2.2 kg_) ?_
                  show own_Gl p e below _ (s₁.setTop (mkF m 27 #[.val (.int (-sv)), .val (.int (0 : Int32)), .val (.int (-100000000 : Int32)), .val (.int (8 : Int32))] []))
                  refine own_st (fun tg_ kg_ => XS.iloadN X0.here hx rfl (hb hby own_d_jdk_33_method_13_code_27) rfl kg_) ?_
                  show own_Gl p e below _ (s₁.setTop (mkF m 28 #[.val (.int (-sv)), .val (.int (0 : Int32)), .val (.int (-100000000 : Int32)), .val (.int (8 : Int32))] [(.int (8 : Int32))]))
                  refine own_st (fun tg_ kg_ => XS.iloadN X0.here hx rfl (hb hby own_d_jdk_33_method_13_code_28) rfl kg_) ?_
                  show own_Gl p e below _ (s₁.setTop (mkF m 29 #[.val (.int (-sv)), .val (.int (0 : Int32)), .val (.int (-100000000 : Int32)), .val (.int (8 : Int32))] [(.int (0 : Int32)), (.int (8 : Int32))]))
                  refine own_st (fun tg_ kg_ => XS.iadd X0.here hx rfl (hb hby own_d_jdk_33_method_13_code_29) rfl kg_) ?_
                  show own_Gl p e below _ (s₁.setTop (mkF m 30 #[.val (.int (-sv)), .val (.int (0 : Int32)), .val (.int (-100000000 : Int32)), .val (.int (8 : Int32))] [(.int (8 : Int32))]))
                  exact own_retI X0 hx Bd.notSynchronized Bd.returns (hb hby own_d_jdk_33_method_13_code_30) (by decide) (by decide) e0 (⟨⟨8, rfl, by unfold own_D; have := rng32 sv; omega⟩, N0, rfl⟩)
                ·
                  show own_Gl p e below _ (s₁.setTop (mkF m 24 #[.val (.int (-sv)), .val (.int (0 : Int32)), .val (.int (-100000000 : Int32)), .val (.int (8 : Int32))] [(.int (-100000000 : Int32)), (.int (-sv))]))
                  refine own_st (fun tg_ kg_ => XS.icmpYes X0.here hx rfl (pc0 := 24) (pc' := 31) rfl (hb hby own_d_jdk_33_method_13_code_24) rfl (flt (fun q => hc8 ((own_cm (k := 100000000) (by decide) hone).mp q))).2.2.2 (by decide) (by decide) kg_) ?_
                  show own_Gl p e below _ (s₁.setTop (mkF m 31 #[.val (.int (-sv)), .val (.int (0 : Int32)), .val (.int (-100000000 : Int32)), .val (.int (8 : Int32))] []))
                  refine own_st (fun tg_ kg_ => XS.bipush X0.here hx rfl (hb hby own_d_jdk_33_method_13_code_31) kg_) ?_
                  show own_Gl p e below _ (s₁.setTop (mkF m 33 #[.val (.int (-sv)), .val (.int (0 : Int32)), .val (.int (-100000000 : Int32)), .val (.int (8 : Int32))] [(.int (10 : Int32))]))
                  refine own_st (fun tg_ kg_ => XS.iloadN X0.here hx rfl (hb hby own_d_jdk_33_method_13_code_33) rfl kg_) ?_
                  show own_Gl p e below _ (s₁.setTop (mkF m 34 #[.val (.int (-sv)), .val (.int (0 : Int32)), .val (.int (-100000000 : Int32)), .val (.int (8 : Int32))] [(.int (-100000000 : Int32)), (.int (10 : Int32))]))
                  refine own_st (fun tg_ kg_ => XS.imul X0.here hx rfl (hb hby own_d_jdk_33_method_13_code_34) rfl kg_) ?_
                  show own_Gl p e below _ (s₁.setTop (mkF m 35 #[.val (.int (-sv)), .val (.int (0 : Int32)), .val (.int (-100000000 : Int32)), .val (.int (8 : Int32))] [(.int ((10 : Int32) * (-100000000 : Int32)))]))
                  rw [(by decide : ((10 : Int32) * (-100000000 : Int32)) = (-1000000000 : Int32))]
                  show own_Gl p e below _ (s₁.setTop (mkF m 35 #[.val (.int (-sv)), .val (.int (0 : Int32)), .val (.int (-100000000 : Int32)), .val (.int (8 : Int32))] [(.int (-1000000000 : Int32))]))
                  refine own_st (fun tg_ kg_ => XS.istoreN X0.here hx rfl (hb hby own_d_jdk_33_method_13_code_35) rfl (l' := #[.val (.int (-sv)), .val (.int (0 : Int32)), .val (.int (-1000000000 : Int32)), .val (.int (8 : Int32))]) rfl kg_) ?_
                  show own_Gl p e below _ (s₁.setTop (mkF m 36 #[.val (.int (-sv)), .val (.int (0 : Int32)), .val (.int (-1000000000 : Int32)), .val (.int (8 : Int32))] []))
                  refine own_st (fun tg_ kg_ => XS.iinc X0.here hx rfl (hb hby own_d_jdk_33_method_13_code_36) rfl (l' := #[.val (.int (-sv)), .val (.int (0 : Int32)), .val (.int (-1000000000 : Int32)), .val (.int (9 : Int32))]) rfl kg_) ?_
                  show own_Gl p e below _ (s₁.setTop (mkF m 39 #[.val (.int (-sv)), .val (.int (0 : Int32)), .val (.int (-1000000000 : Int32)), .val (.int (9 : Int32))] []))
                  refine own_st (fun tg_ kg_ => XS.goto X0.here hx rfl (pc0 := 39) (pc' := 16) rfl (hb hby own_d_jdk_33_method_13_code_39) (by decide) (by decide) kg_) ?_
                  show own_Gl p e below _ (s₁.setTop (mkF m 16 #[.val (.int (-sv)), .val (.int (0 : Int32)), .val (.int (-1000000000 : Int32)), .val (.int (9 : Int32))] []))
                  refine own_st (fun tg_ kg_ => XS.iloadN X0.here hx rfl (hb hby own_d_jdk_33_method_13_code_16) rfl kg_) ?_
                  show own_Gl p e below _ (s₁.setTop (mkF m 17 #[.val (.int (-sv)), .val (.int (0 : Int32)), .val (.int (-1000000000 : Int32)), .val (.int (9 : Int32))] [(.int (9 : Int32))]))
                  refine own_st (fun tg_ kg_ => XS.bipush X0.here hx rfl (hb hby own_d_jdk_33_method_13_code_17) kg_) ?_
                  show own_Gl p e below _ (s₁.setTop (mkF m 19 #[.val (.int (-sv)), .val (.int (0 : Int32)), .val (.int (-1000000000 : Int32)), .val (.int (9 : Int32))] [(.int (10 : Int32)), (.int (9 : Int32))]))
                  refine own_st (fun tg_ kg_ => XS.icmpNo X0.here hx rfl (hb hby own_d_jdk_33_method_13_code_19) rfl (tlt ((by decide : (9 : Int32) < (10 : Int32)))).2.1 kg_) ?_
                  show own_Gl p e below _ (s₁.setTop (mkF m 22 #[.val (.int (-sv)), .val (.int (0 : Int32)), .val (.int (-1000000000 : Int32)), .val (.int (9 : Int32))] []))
                  refine own_st (fun tg_ kg_ => XS.iloadN X0.here hx rfl (hb hby own_d_jdk_33_method_13_code_22) rfl kg_) ?_
                  show own_Gl p e below _ (s₁.setTop (mkF m 23 #[.val (.int (-sv)), .val (.int (0 : Int32)), .val (.int (-1000000000 : Int32)), .val (.int (9 : Int32))] [(.int (-sv))]))
                  refine own_st (fun tg_ kg_ => XS.iloadN X0.here hx rfl (hb hby own_d_jdk_33_method_13_code_23) rfl kg_) ?_
                  show own_Gl p e below _ (s₁.setTop (mkF m 24 #[.val (.int (-sv)), .val (.int (0 : Int32)), .val (.int (-1000000000 : Int32)), .val (.int (9 : Int32))] [(.int (-1000000000 : Int32)), (.int (-sv))]))
                  by_cases hc9 : sv.toInt < 1000000000
                  ·
                    show own_Gl p e below _ (s₁.setTop (mkF m 24 #[.val (.int (-sv)), .val (.int (0 : Int32)), .val (.int (-1000000000 : Int32)), .val (.int (9 : Int32))] [(.int (-1000000000 : Int32)), (.int (-sv))]))
                    refine own_st (fun tg_ kg_ => XS.icmpNo X0.here hx rfl (hb hby own_d_jdk_33_method_13_code_24) rfl (tlt ((own_cm (k := 1000000000) (by decide) hone).mpr hc9)).2.2.2 kg_) ?_
                    show own_Gl p e below _ (s₁.setTop (mkF m 27 #[.val (.int (-sv)), .val (.int (0 : Int32)), .val (.int (-1000000000 : Int32)), .val (.int (9 : Int32))] []))
                    refine own_st (fun tg_ kg_ => XS.iloadN X0.here hx rfl (hb hby own_d_jdk_33_method_13_code_27) rfl kg_) ?_
                    show own_Gl p e below _ (s₁.setTop (mkF m 28 #[.val (.int (-sv)), .val (.int (0 : Int32)), .val (.int (-1000000000 : Int32)), .val (.int (9 : Int32))] [(.int (9 : Int32))]))
                    refine own_st (fun tg_ kg_ => XS.iloadN X0.here hx rfl (hb hby own_d_jdk_33_method_13_code_28) rfl kg_) ?_
                    show own_Gl p e below _ (s₁.setTop (mkF m 29 #[.val (.int (-sv)), .val (.int (0 : Int32)), .val (.int (-1000000000 : Int32)), .val (.int (9 : Int32))] [(.int (0 : Int32)), (.int (9 : Int32))]))
                    refine own_st (fun tg_ kg_ => XS.iadd X0.here hx rfl (hb hby own_d_jdk_33_method_13_code_29) rfl kg_) ?_
                    show own_Gl p e below _ (s₁.setTop (mkF m 30 #[.val (.int (-sv)), .val (.int (0 : Int32)), .val (.int (-1000000000 : Int32)), .val (.int (9 : Int32))] [(.int (9 : Int32))]))
                    exact own_retI X0 hx Bd.notSynchronized Bd.returns (hb hby own_d_jdk_33_method_13_code_30) (by decide) (by decide) e0 (⟨⟨9, rfl, by unfold own_D; have := rng32 sv; omega⟩, N0, rfl⟩)
                  ·
                    show own_Gl p e below _ (s₁.setTop (mkF m 24 #[.val (.int (-sv)), .val (.int (0 : Int32)), .val (.int (-1000000000 : Int32)), .val (.int (9 : Int32))] [(.int (-1000000000 : Int32)), (.int (-sv))]))
                    refine own_st (fun tg_ kg_ => XS.icmpYes X0.here hx rfl (pc0 := 24) (pc' := 31) rfl (hb hby own_d_jdk_33_method_13_code_24) rfl (flt (fun q => hc9 ((own_cm (k := 1000000000) (by decide) hone).mp q))).2.2.2 (by decide) (by decide) kg_) ?_
                    show own_Gl p e below _ (s₁.setTop (mkF m 31 #[.val (.int (-sv)), .val (.int (0 : Int32)), .val (.int (-1000000000 : Int32)), .val (.int (9 : Int32))] []))
                    refine own_st (fun tg_ kg_ => XS.bipush X0.here hx rfl (hb hby own_d_jdk_33_method_13_code_31) kg_) ?_
                    show own_Gl p e below _ (s₁.setTop (mkF m 33 #[.val (.int (-sv)), .val (.int (0 : Int32)), .val (.int (-1000000000 : Int32)), .val (.int (9 : Int32))] [(.int (10 : Int32))]))
                    refine own_st (fun tg_ kg_ => XS.iloadN X0.here hx rfl (hb hby own_d_jdk_33_method_13_code_33) rfl kg_) ?_
                    show own_Gl p e below _ (s₁.setTop (mkF m 34 #[.val (.int (-sv)), .val (.int (0 : Int32)), .val (.int (-1000000000 : Int32)), .val (.int (9 : Int32))] [(.int (-1000000000 : Int32)), (.int (10 : Int32))]))
                    refine own_st (fun tg_ kg_ => XS.imul X0.here hx rfl (hb hby own_d_jdk_33_method_13_code_34) rfl kg_) ?_
                    show own_Gl p e below _ (s₁.setTop (mkF m 35 #[.val (.int (-sv)), .val (.int (0 : Int32)), .val (.int (-1000000000 : Int32)), .val (.int (9 : Int32))] [(.int ((10 : Int32) * (-1000000000 : Int32)))]))
                    rw [(by decide : ((10 : Int32) * (-1000000000 : Int32)) = (-10000000000 : Int32))]
                    show own_Gl p e below _ (s₁.setTop (mkF m 35 #[.val (.int (-sv)), .val (.int (0 : Int32)), .val (.int (-1000000000 : Int32)), .val (.int (9 : Int32))] [(.int (-10000000000 : Int32))]))
                    refine own_st (fun tg_ kg_ => XS.istoreN X0.here hx rfl (hb hby own_d_jdk_33_method_13_code_35) rfl (l' := #[.val (.int (-sv)), .val (.int (0 : Int32)), .val (.int (-10000000000 : Int32)), .val (.int (9 : Int32))]) rfl kg_) ?_
                    show own_Gl p e below _ (s₁.setTop (mkF m 36 #[.val (.int (-sv)), .val (.int (0 : Int32)), .val (.int (-10000000000 : Int32)), .val (.int (9 : Int32))] []))
                    refine own_st (fun tg_ kg_ => XS.iinc X0.here hx rfl (hb hby own_d_jdk_33_method_13_code_36) rfl (l' := #[.val (.int (-sv)), .val (.int (0 : Int32)), .val (.int (-10000000000 : Int32)), .val (.int (10 : Int32))]) rfl kg_) ?_
                    show own_Gl p e below _ (s₁.setTop (mkF m 39 #[.val (.int (-sv)), .val (.int (0 : Int32)), .val (.int (-10000000000 : Int32)), .val (.int (10 : Int32))] []))
                    refine own_st (fun tg_ kg_ => XS.goto X0.here hx rfl (pc0 := 39) (pc' := 16) rfl (hb hby own_d_jdk_33_method_13_code_39) (by decide) (by decide) kg_) ?_
                    show own_Gl p e below _ (s₁.setTop (mkF m 16 #[.val (.int (-sv)), .val (.int (0 : Int32)), .val (.int (-10000000000 : Int32)), .val (.int (10 : Int32))] []))
                    refine own_st (fun tg_ kg_ => XS.iloadN X0.here hx rfl (hb hby own_d_jdk_33_method_13_code_16) rfl kg_) ?_
                    show own_Gl p e below _ (s₁.setTop (mkF m 17 #[.val (.int (-sv)), .val (.int (0 : Int32)), .val (.int (-10000000000 : Int32)), .val (.int (10 : Int32))] [(.int (10 : Int32))]))
                    refine own_st (fun tg_ kg_ => XS.bipush X0.here hx rfl (hb hby own_d_jdk_33_method_13_code_17) kg_) ?_
                    show own_Gl p e below _ (s₁.setTop (mkF m 19 #[.val (.int (-sv)), .val (.int (0 : Int32)), .val (.int (-10000000000 : Int32)), .val (.int (10 : Int32))] [(.int (10 : Int32)), (.int (10 : Int32))]))
                    refine own_st (fun tg_ kg_ => XS.icmpYes X0.here hx rfl (pc0 := 19) (pc' := 42) rfl (hb hby own_d_jdk_33_method_13_code_19) rfl (flt ((by decide : ¬ ((10 : Int32) < (10 : Int32))))).2.1 (by decide) (by decide) kg_) ?_
                    show own_Gl p e below _ (s₁.setTop (mkF m 42 #[.val (.int (-sv)), .val (.int (0 : Int32)), .val (.int (-10000000000 : Int32)), .val (.int (10 : Int32))] []))
                    refine own_st (fun tg_ kg_ => XS.bipush X0.here hx rfl (hb hby own_d_jdk_33_method_13_code_42) kg_) ?_
                    show own_Gl p e below _ (s₁.setTop (mkF m 44 #[.val (.int (-sv)), .val (.int (0 : Int32)), .val (.int (-10000000000 : Int32)), .val (.int (10 : Int32))] [(.int (10 : Int32))]))
                    refine own_st (fun tg_ kg_ => XS.iloadN X0.here hx rfl (hb hby own_d_jdk_33_method_13_code_44) rfl kg_) ?_
                    show own_Gl p e below _ (s₁.setTop (mkF m 45 #[.val (.int (-sv)), .val (.int (0 : Int32)), .val (.int (-10000000000 : Int32)), .val (.int (10 : Int32))] [(.int (0 : Int32)), (.int (10 : Int32))]))
                    refine own_st (fun tg_ kg_ => XS.iadd X0.here hx rfl (hb hby own_d_jdk_33_method_13_code_45) rfl kg_) ?_
                    show own_Gl p e below _ (s₁.setTop (mkF m 46 #[.val (.int (-sv)), .val (.int (0 : Int32)), .val (.int (-10000000000 : Int32)), .val (.int (10 : Int32))] [(.int (10 : Int32))]))
                    exact own_retI X0 hx Bd.notSynchronized Bd.returns (hb hby own_d_jdk_33_method_13_code_46) (by decide) (by decide) e0 (⟨⟨10, rfl, by unfold own_D; have := rng32 sv; omega⟩, N0, rfl⟩)
theorem own_pn1 : plainName "org/samehood/calls/CallLimitOfPinLaw" = true := by first | (simp [plainName, overriddenIn]; done) | decide +kernel
theorem own_d_method_3_code_0 : decode method_3_code 0 = .ok (.iload_n 0, 1) := by decide +kernel
theorem own_d_method_3_code_1 : decode method_3_code 1 = .ok (.bipush 10, 2) := by decide +kernel
theorem own_d_method_3_code_3 : decode method_3_code 3 = .ok (.if_icmp .ge 5, 3) := by decide +kernel
theorem own_d_method_3_code_6 : decode method_3_code 6 = .ok (.iconst 1, 1) := by decide +kernel
theorem own_d_method_3_code_7 : decode method_3_code 7 = .ok (.ireturn, 1) := by decide +kernel
theorem own_d_method_3_code_8 : decode method_3_code 8 = .ok (.iload_n 0, 1) := by decide +kernel
theorem own_d_method_3_code_9 : decode method_3_code 9 = .ok (.bipush 100, 2) := by decide +kernel
theorem own_d_method_3_code_11 : decode method_3_code 11 = .ok (.if_icmp .ge 5, 3) := by decide +kernel
theorem own_d_method_3_code_14 : decode method_3_code 14 = .ok (.iconst 2, 1) := by decide +kernel
theorem own_d_method_3_code_15 : decode method_3_code 15 = .ok (.ireturn, 1) := by decide +kernel
theorem own_d_method_3_code_16 : decode method_3_code 16 = .ok (.iload_n 0, 1) := by decide +kernel
theorem own_d_method_3_code_17 : decode method_3_code 17 = .ok (.sipush 1000, 3) := by decide +kernel
theorem own_d_method_3_code_20 : decode method_3_code 20 = .ok (.if_icmp .ge 5, 3) := by decide +kernel
theorem own_d_method_3_code_23 : decode method_3_code 23 = .ok (.iconst 3, 1) := by decide +kernel
theorem own_d_method_3_code_24 : decode method_3_code 24 = .ok (.ireturn, 1) := by decide +kernel
theorem own_d_method_3_code_25 : decode method_3_code 25 = .ok (.iload_n 0, 1) := by decide +kernel
theorem own_d_method_3_code_26 : decode method_3_code 26 = .ok (.sipush 10000, 3) := by decide +kernel
theorem own_d_method_3_code_29 : decode method_3_code 29 = .ok (.if_icmp .ge 5, 3) := by decide +kernel
theorem own_d_method_3_code_32 : decode method_3_code 32 = .ok (.iconst 4, 1) := by decide +kernel
theorem own_d_method_3_code_33 : decode method_3_code 33 = .ok (.ireturn, 1) := by decide +kernel
theorem own_d_method_3_code_34 : decode method_3_code 34 = .ok (.iload_n 0, 1) := by decide +kernel
theorem own_d_method_3_code_35 : decode method_3_code 35 = .ok (.ldc 46, 2) := by decide +kernel
theorem own_d_method_3_code_37 : decode method_3_code 37 = .ok (.if_icmp .ge 5, 3) := by decide +kernel
theorem own_d_method_3_code_40 : decode method_3_code 40 = .ok (.iconst 5, 1) := by decide +kernel
theorem own_d_method_3_code_41 : decode method_3_code 41 = .ok (.ireturn, 1) := by decide +kernel
theorem own_d_method_3_code_42 : decode method_3_code 42 = .ok (.iload_n 0, 1) := by decide +kernel
theorem own_d_method_3_code_43 : decode method_3_code 43 = .ok (.ldc 47, 2) := by decide +kernel
theorem own_d_method_3_code_45 : decode method_3_code 45 = .ok (.if_icmp .ge 6, 3) := by decide +kernel
theorem own_d_method_3_code_48 : decode method_3_code 48 = .ok (.bipush 6, 2) := by decide +kernel
theorem own_d_method_3_code_50 : decode method_3_code 50 = .ok (.ireturn, 1) := by decide +kernel
theorem own_d_method_3_code_51 : decode method_3_code 51 = .ok (.iload_n 0, 1) := by decide +kernel
theorem own_d_method_3_code_52 : decode method_3_code 52 = .ok (.ldc 48, 2) := by decide +kernel
theorem own_d_method_3_code_54 : decode method_3_code 54 = .ok (.if_icmp .ge 6, 3) := by decide +kernel
theorem own_d_method_3_code_57 : decode method_3_code 57 = .ok (.bipush 7, 2) := by decide +kernel
theorem own_d_method_3_code_59 : decode method_3_code 59 = .ok (.ireturn, 1) := by decide +kernel
theorem own_d_method_3_code_60 : decode method_3_code 60 = .ok (.iload_n 0, 1) := by decide +kernel
theorem own_d_method_3_code_61 : decode method_3_code 61 = .ok (.ldc 49, 2) := by decide +kernel
theorem own_d_method_3_code_63 : decode method_3_code 63 = .ok (.if_icmp .ge 6, 3) := by decide +kernel
theorem own_d_method_3_code_66 : decode method_3_code 66 = .ok (.bipush 8, 2) := by decide +kernel
theorem own_d_method_3_code_68 : decode method_3_code 68 = .ok (.ireturn, 1) := by decide +kernel
theorem own_d_method_3_code_69 : decode method_3_code 69 = .ok (.iload_n 0, 1) := by decide +kernel
theorem own_d_method_3_code_70 : decode method_3_code 70 = .ok (.ldc 50, 2) := by decide +kernel
theorem own_d_method_3_code_72 : decode method_3_code 72 = .ok (.if_icmp .ge 6, 3) := by decide +kernel
theorem own_d_method_3_code_75 : decode method_3_code 75 = .ok (.bipush 9, 2) := by decide +kernel
theorem own_d_method_3_code_77 : decode method_3_code 77 = .ok (.ireturn, 1) := by decide +kernel
theorem own_d_method_3_code_78 : decode method_3_code 78 = .ok (.bipush 10, 2) := by decide +kernel
theorem own_d_method_3_code_80 : decode method_3_code 80 = .ok (.ireturn, 1) := by decide +kernel
theorem own_ef_dig (m : MethodId) (x0 : Int32) : entryFrame m #[(.int x0)] 1 = mkF m 0 #[.val (.int x0)] [] := by first | (simp [entryFrame, mkF, argsToLocals, Value.category]; done) | rfl
def own_Q_dig (Z : State) (sv : Int32) (h0 : Heap) (n0 : Nat) (v : Option Value) (h : Heap) (L : List Loc) : Prop := (∃ dn : Nat, v = some (.int (Int32.ofNat dn)) ∧ own_D sv.toInt dn) ∧ Fr n0 L ∧ h = h0
set_option maxRecDepth 65536 in
set_option maxHeartbeats 40000000 in
theorem own_rm_dig (l : Launch) (Z : State) (a0 : Array Value) (hw : ∀ d ∈ tables_1, d.before a0 Z = true) (ws : List Jvm.Cond) (sv : Int32) (h0 : Heap) (n0 : Nat) (Z0 : n0 ≤ h0.size) (hone : 1 ≤ sv.toInt) :
    MetFree l (⟨"org/samehood/calls/CallLimitOfPinLaw", "digits", "(I)I"⟩ : MethodName) (head1 (Jvm.Cond.code (⟨"org/samehood/calls/CallLimitOfPinLaw", "digits", "(I)I"⟩ : MethodName) method_3_code 1 (some .int) :: ws) ({ frames := 0, cells := 0, slots := 0, locals := 0 } : Room)) (fun aa UU => aa = #[(.int sv)] ∧ Z.Warmed39 UU.vm ∧ UU.heap = h0) (fun _ _ _ _ _ => True) (fun _ UU oo UU' => ∃ vv LL, oo = .returned vv ∧ own_Q_dig Z sv h0 n0 vv UU'.heap LL ∧ FrameEnd UU oo UU' LL ({ frames := 0, cells := 0, slots := 0, locals := 0 } : Room).cells ({ frames := 0, cells := 0, slots := 0, locals := 0 } : Room).slots) := by
  refine MetFree.of_bodySF (plainFor_of_name own_pn1) hisR ?_
  intro p e s m args below meth c s₁ Bd hml0 hP hK
  obtain ⟨rfl, hZ, hh⟩ := hP
  have hx := Bd.exec
  have hby := Bd.bytes
  have hml : c.maxLocals = 1 := hml0
  have hown : s.vm.findClass "org/samehood/calls/CallLimitOfPinLaw" = some m.cls := findClass_of_methodNamed Bd.named
  have hnm := (name_of_methodNamed Bd.named Bd.method).1
  have X0 : Stand p l e ({ frames := 0, cells := 0, slots := 0, locals := 0 } : Room) s m #[(.int sv)] below meth c s₁ [] 0 0 := Stand.of_body Bd
  have e0 : s₁.heap = h0 := by rw [← hh, Bd.state]; rfl
  have N0 := Fr.nil n0
  show own_Gl p e below (own_Post s (own_Q_dig Z sv h0 n0) ({ frames := 0, cells := 0, slots := 0, locals := 0 } : Room).cells ({ frames := 0, cells := 0, slots := 0, locals := 0 } : Room).slots) _
  refine own_st (fun tg_ kg_ => castTop (own_ef_dig m sv) kg_) ?_
  show own_Gl p e below _ (s₁.setTop (mkF m 0 #[.val (.int sv)] []))
  refine own_st (fun tg_ kg_ => XS.iloadN X0.here hx rfl (hb hby own_d_method_3_code_0) rfl kg_) ?_
  show own_Gl p e below _ (s₁.setTop (mkF m 1 #[.val (.int sv)] [(.int sv)]))
  refine own_st (fun tg_ kg_ => XS.bipush X0.here hx rfl (hb hby own_d_method_3_code_1) kg_) ?_
  show own_Gl p e below _ (s₁.setTop (mkF m 3 #[.val (.int sv)] [(.int (10 : Int32)), (.int sv)]))
  by_cases hc1 : sv.toInt < 10
  ·
    show own_Gl p e below _ (s₁.setTop (mkF m 3 #[.val (.int sv)] [(.int (10 : Int32)), (.int sv)]))
    refine own_st (fun tg_ kg_ => XS.icmpNo X0.here hx rfl (hb hby own_d_method_3_code_3) rfl (tlt ((own_cl (k := 10) (by decide)).mpr hc1)).2.1 kg_) ?_
    show own_Gl p e below _ (s₁.setTop (mkF m 6 #[.val (.int sv)] []))
    refine own_st (fun tg_ kg_ => XS.iconst X0.here hx rfl (hb hby own_d_method_3_code_6) kg_) ?_
    show own_Gl p e below _ (s₁.setTop (mkF m 7 #[.val (.int sv)] [(.int (1 : Int32))]))
    exact own_retI X0 hx Bd.notSynchronized Bd.returns (hb hby own_d_method_3_code_7) (by decide) (by decide) e0 (⟨⟨1, rfl, by unfold own_D; have := rng32 sv; omega⟩, N0, rfl⟩)
  ·
    show own_Gl p e below _ (s₁.setTop (mkF m 3 #[.val (.int sv)] [(.int (10 : Int32)), (.int sv)]))
    refine own_st (fun tg_ kg_ => XS.icmpYes X0.here hx rfl (pc0 := 3) (pc' := 8) rfl (hb hby own_d_method_3_code_3) rfl (flt (fun q => hc1 ((own_cl (k := 10) (by decide)).mp q))).2.1 (by decide) (by decide) kg_) ?_
    show own_Gl p e below _ (s₁.setTop (mkF m 8 #[.val (.int sv)] []))
    refine own_st (fun tg_ kg_ => XS.iloadN X0.here hx rfl (hb hby own_d_method_3_code_8) rfl kg_) ?_
    show own_Gl p e below _ (s₁.setTop (mkF m 9 #[.val (.int sv)] [(.int sv)]))
    refine own_st (fun tg_ kg_ => XS.bipush X0.here hx rfl (hb hby own_d_method_3_code_9) kg_) ?_
    show own_Gl p e below _ (s₁.setTop (mkF m 11 #[.val (.int sv)] [(.int (100 : Int32)), (.int sv)]))
    by_cases hc2 : sv.toInt < 100
    ·
      show own_Gl p e below _ (s₁.setTop (mkF m 11 #[.val (.int sv)] [(.int (100 : Int32)), (.int sv)]))
      refine own_st (fun tg_ kg_ => XS.icmpNo X0.here hx rfl (hb hby own_d_method_3_code_11) rfl (tlt ((own_cl (k := 100) (by decide)).mpr hc2)).2.1 kg_) ?_
      show own_Gl p e below _ (s₁.setTop (mkF m 14 #[.val (.int sv)] []))
      refine own_st (fun tg_ kg_ => XS.iconst X0.here hx rfl (hb hby own_d_method_3_code_14) kg_) ?_
      show own_Gl p e below _ (s₁.setTop (mkF m 15 #[.val (.int sv)] [(.int (2 : Int32))]))
      exact own_retI X0 hx Bd.notSynchronized Bd.returns (hb hby own_d_method_3_code_15) (by decide) (by decide) e0 (⟨⟨2, rfl, by unfold own_D; have := rng32 sv; omega⟩, N0, rfl⟩)
    ·
      show own_Gl p e below _ (s₁.setTop (mkF m 11 #[.val (.int sv)] [(.int (100 : Int32)), (.int sv)]))
      refine own_st (fun tg_ kg_ => XS.icmpYes X0.here hx rfl (pc0 := 11) (pc' := 16) rfl (hb hby own_d_method_3_code_11) rfl (flt (fun q => hc2 ((own_cl (k := 100) (by decide)).mp q))).2.1 (by decide) (by decide) kg_) ?_
      show own_Gl p e below _ (s₁.setTop (mkF m 16 #[.val (.int sv)] []))
      refine own_st (fun tg_ kg_ => XS.iloadN X0.here hx rfl (hb hby own_d_method_3_code_16) rfl kg_) ?_
      show own_Gl p e below _ (s₁.setTop (mkF m 17 #[.val (.int sv)] [(.int sv)]))
      refine own_st (fun tg_ kg_ => XS.sipush X0.here hx rfl (hb hby own_d_method_3_code_17) kg_) ?_
      show own_Gl p e below _ (s₁.setTop (mkF m 20 #[.val (.int sv)] [(.int (1000 : Int32)), (.int sv)]))
      by_cases hc3 : sv.toInt < 1000
      ·
        show own_Gl p e below _ (s₁.setTop (mkF m 20 #[.val (.int sv)] [(.int (1000 : Int32)), (.int sv)]))
        refine own_st (fun tg_ kg_ => XS.icmpNo X0.here hx rfl (hb hby own_d_method_3_code_20) rfl (tlt ((own_cl (k := 1000) (by decide)).mpr hc3)).2.1 kg_) ?_
        show own_Gl p e below _ (s₁.setTop (mkF m 23 #[.val (.int sv)] []))
        refine own_st (fun tg_ kg_ => XS.iconst X0.here hx rfl (hb hby own_d_method_3_code_23) kg_) ?_
        show own_Gl p e below _ (s₁.setTop (mkF m 24 #[.val (.int sv)] [(.int (3 : Int32))]))
        exact own_retI X0 hx Bd.notSynchronized Bd.returns (hb hby own_d_method_3_code_24) (by decide) (by decide) e0 (⟨⟨3, rfl, by unfold own_D; have := rng32 sv; omega⟩, N0, rfl⟩)
      ·
        show own_Gl p e below _ (s₁.setTop (mkF m 20 #[.val (.int sv)] [(.int (1000 : Int32)), (.int sv)]))
        refine own_st (fun tg_ kg_ => XS.icmpYes X0.here hx rfl (pc0 := 20) (pc' := 25) rfl (hb hby own_d_method_3_code_20) rfl (flt (fun q => hc3 ((own_cl (k := 1000) (by decide)).mp q))).2.1 (by decide) (by decide) kg_) ?_
        show own_Gl p e below _ (s₁.setTop (mkF m 25 #[.val (.int sv)] []))
        refine own_st (fun tg_ kg_ => XS.iloadN X0.here hx rfl (hb hby own_d_method_3_code_25) rfl kg_) ?_
        show own_Gl p e below _ (s₁.setTop (mkF m 26 #[.val (.int sv)] [(.int sv)]))
        refine own_st (fun tg_ kg_ => XS.sipush X0.here hx rfl (hb hby own_d_method_3_code_26) kg_) ?_
        show own_Gl p e below _ (s₁.setTop (mkF m 29 #[.val (.int sv)] [(.int (10000 : Int32)), (.int sv)]))
        by_cases hc4 : sv.toInt < 10000
        ·
          show own_Gl p e below _ (s₁.setTop (mkF m 29 #[.val (.int sv)] [(.int (10000 : Int32)), (.int sv)]))
          refine own_st (fun tg_ kg_ => XS.icmpNo X0.here hx rfl (hb hby own_d_method_3_code_29) rfl (tlt ((own_cl (k := 10000) (by decide)).mpr hc4)).2.1 kg_) ?_
          show own_Gl p e below _ (s₁.setTop (mkF m 32 #[.val (.int sv)] []))
          refine own_st (fun tg_ kg_ => XS.iconst X0.here hx rfl (hb hby own_d_method_3_code_32) kg_) ?_
          show own_Gl p e below _ (s₁.setTop (mkF m 33 #[.val (.int sv)] [(.int (4 : Int32))]))
          exact own_retI X0 hx Bd.notSynchronized Bd.returns (hb hby own_d_method_3_code_33) (by decide) (by decide) e0 (⟨⟨4, rfl, by unfold own_D; have := rng32 sv; omega⟩, N0, rfl⟩)
        ·
          show own_Gl p e below _ (s₁.setTop (mkF m 29 #[.val (.int sv)] [(.int (10000 : Int32)), (.int sv)]))
          refine own_st (fun tg_ kg_ => XS.icmpYes X0.here hx rfl (pc0 := 29) (pc' := 34) rfl (hb hby own_d_method_3_code_29) rfl (flt (fun q => hc4 ((own_cl (k := 10000) (by decide)).mp q))).2.1 (by decide) (by decide) kg_) ?_
          show own_Gl p e below _ (s₁.setTop (mkF m 34 #[.val (.int sv)] []))
          refine own_st (fun tg_ kg_ => XS.iloadN X0.here hx rfl (hb hby own_d_method_3_code_34) rfl kg_) ?_
          show own_Gl p e below _ (s₁.setTop (mkF m 35 #[.val (.int sv)] [(.int sv)]))
          refine own_st (fun tg_ kg_ => X0.ldcInt hx hown (mvT hZ (hw _ (List.mem_of_getElem? (i := 234) rfl))) (g := (mkF m 35 #[.val (.int sv)] [(.int sv)])) rfl (hb hby own_d_method_3_code_35) _ kg_) ?_
          show own_Gl p e below _ (s₁.setTop (mkF m 37 #[.val (.int sv)] [(.int (100000 : Int32)), (.int sv)]))
          by_cases hc5 : sv.toInt < 100000
          ·
            show own_Gl p e below _ (s₁.setTop (mkF m 37 #[.val (.int sv)] [(.int (100000 : Int32)), (.int sv)]))
            refine own_st (fun tg_ kg_ => XS.icmpNo X0.here hx rfl (hb hby own_d_method_3_code_37) rfl (tlt ((own_cl (k := 100000) (by decide)).mpr hc5)).2.1 kg_) ?_
            show own_Gl p e below _ (s₁.setTop (mkF m 40 #[.val (.int sv)] []))
            refine own_st (fun tg_ kg_ => XS.iconst X0.here hx rfl (hb hby own_d_method_3_code_40) kg_) ?_
            show own_Gl p e below _ (s₁.setTop (mkF m 41 #[.val (.int sv)] [(.int (5 : Int32))]))
            exact own_retI X0 hx Bd.notSynchronized Bd.returns (hb hby own_d_method_3_code_41) (by decide) (by decide) e0 (⟨⟨5, rfl, by unfold own_D; have := rng32 sv; omega⟩, N0, rfl⟩)
          ·
            show own_Gl p e below _ (s₁.setTop (mkF m 37 #[.val (.int sv)] [(.int (100000 : Int32)), (.int sv)]))
            refine own_st (fun tg_ kg_ => XS.icmpYes X0.here hx rfl (pc0 := 37) (pc' := 42) rfl (hb hby own_d_method_3_code_37) rfl (flt (fun q => hc5 ((own_cl (k := 100000) (by decide)).mp q))).2.1 (by decide) (by decide) kg_) ?_
            show own_Gl p e below _ (s₁.setTop (mkF m 42 #[.val (.int sv)] []))
            refine own_st (fun tg_ kg_ => XS.iloadN X0.here hx rfl (hb hby own_d_method_3_code_42) rfl kg_) ?_
            show own_Gl p e below _ (s₁.setTop (mkF m 43 #[.val (.int sv)] [(.int sv)]))
            refine own_st (fun tg_ kg_ => X0.ldcInt hx hown (mvT hZ (hw _ (List.mem_of_getElem? (i := 235) rfl))) (g := (mkF m 43 #[.val (.int sv)] [(.int sv)])) rfl (hb hby own_d_method_3_code_43) _ kg_) ?_
            show own_Gl p e below _ (s₁.setTop (mkF m 45 #[.val (.int sv)] [(.int (1000000 : Int32)), (.int sv)]))
            by_cases hc6 : sv.toInt < 1000000
            ·
              show own_Gl p e below _ (s₁.setTop (mkF m 45 #[.val (.int sv)] [(.int (1000000 : Int32)), (.int sv)]))
              refine own_st (fun tg_ kg_ => XS.icmpNo X0.here hx rfl (hb hby own_d_method_3_code_45) rfl (tlt ((own_cl (k := 1000000) (by decide)).mpr hc6)).2.1 kg_) ?_
              show own_Gl p e below _ (s₁.setTop (mkF m 48 #[.val (.int sv)] []))
              refine own_st (fun tg_ kg_ => XS.bipush X0.here hx rfl (hb hby own_d_method_3_code_48) kg_) ?_
              show own_Gl p e below _ (s₁.setTop (mkF m 50 #[.val (.int sv)] [(.int (6 : Int32))]))
              exact own_retI X0 hx Bd.notSynchronized Bd.returns (hb hby own_d_method_3_code_50) (by decide) (by decide) e0 (⟨⟨6, rfl, by unfold own_D; have := rng32 sv; omega⟩, N0, rfl⟩)
            ·
              show own_Gl p e below _ (s₁.setTop (mkF m 45 #[.val (.int sv)] [(.int (1000000 : Int32)), (.int sv)]))
              refine own_st (fun tg_ kg_ => XS.icmpYes X0.here hx rfl (pc0 := 45) (pc' := 51) rfl (hb hby own_d_method_3_code_45) rfl (flt (fun q => hc6 ((own_cl (k := 1000000) (by decide)).mp q))).2.1 (by decide) (by decide) kg_) ?_
              show own_Gl p e below _ (s₁.setTop (mkF m 51 #[.val (.int sv)] []))
              refine own_st (fun tg_ kg_ => XS.iloadN X0.here hx rfl (hb hby own_d_method_3_code_51) rfl kg_) ?_
              show own_Gl p e below _ (s₁.setTop (mkF m 52 #[.val (.int sv)] [(.int sv)]))
              refine own_st (fun tg_ kg_ => X0.ldcInt hx hown (mvT hZ (hw _ (List.mem_of_getElem? (i := 236) rfl))) (g := (mkF m 52 #[.val (.int sv)] [(.int sv)])) rfl (hb hby own_d_method_3_code_52) _ kg_) ?_
              show own_Gl p e below _ (s₁.setTop (mkF m 54 #[.val (.int sv)] [(.int (10000000 : Int32)), (.int sv)]))
              by_cases hc7 : sv.toInt < 10000000
              ·
                show own_Gl p e below _ (s₁.setTop (mkF m 54 #[.val (.int sv)] [(.int (10000000 : Int32)), (.int sv)]))
                refine own_st (fun tg_ kg_ => XS.icmpNo X0.here hx rfl (hb hby own_d_method_3_code_54) rfl (tlt ((own_cl (k := 10000000) (by decide)).mpr hc7)).2.1 kg_) ?_
                show own_Gl p e below _ (s₁.setTop (mkF m 57 #[.val (.int sv)] []))
                refine own_st (fun tg_ kg_ => XS.bipush X0.here hx rfl (hb hby own_d_method_3_code_57) kg_) ?_
                show own_Gl p e below _ (s₁.setTop (mkF m 59 #[.val (.int sv)] [(.int (7 : Int32))]))
                exact own_retI X0 hx Bd.notSynchronized Bd.returns (hb hby own_d_method_3_code_59) (by decide) (by decide) e0 (⟨⟨7, rfl, by unfold own_D; have := rng32 sv; omega⟩, N0, rfl⟩)
              ·
                show own_Gl p e below _ (s₁.setTop (mkF m 54 #[.val (.int sv)] [(.int (10000000 : Int32)), (.int sv)]))
                refine own_st (fun tg_ kg_ => XS.icmpYes X0.here hx rfl (pc0 := 54) (pc' := 60) rfl (hb hby own_d_method_3_code_54) rfl (flt (fun q => hc7 ((own_cl (k := 10000000) (by decide)).mp q))).2.1 (by decide) (by decide) kg_) ?_
                show own_Gl p e below _ (s₁.setTop (mkF m 60 #[.val (.int sv)] []))
                refine own_st (fun tg_ kg_ => XS.iloadN X0.here hx rfl (hb hby own_d_method_3_code_60) rfl kg_) ?_
                show own_Gl p e below _ (s₁.setTop (mkF m 61 #[.val (.int sv)] [(.int sv)]))
                refine own_st (fun tg_ kg_ => X0.ldcInt hx hown (mvT hZ (hw _ (List.mem_of_getElem? (i := 237) rfl))) (g := (mkF m 61 #[.val (.int sv)] [(.int sv)])) rfl (hb hby own_d_method_3_code_61) _ kg_) ?_
                show own_Gl p e below _ (s₁.setTop (mkF m 63 #[.val (.int sv)] [(.int (100000000 : Int32)), (.int sv)]))
                by_cases hc8 : sv.toInt < 100000000
                ·
                  show own_Gl p e below _ (s₁.setTop (mkF m 63 #[.val (.int sv)] [(.int (100000000 : Int32)), (.int sv)]))
                  refine own_st (fun tg_ kg_ => XS.icmpNo X0.here hx rfl (hb hby own_d_method_3_code_63) rfl (tlt ((own_cl (k := 100000000) (by decide)).mpr hc8)).2.1 kg_) ?_
                  show own_Gl p e below _ (s₁.setTop (mkF m 66 #[.val (.int sv)] []))
                  refine own_st (fun tg_ kg_ => XS.bipush X0.here hx rfl (hb hby own_d_method_3_code_66) kg_) ?_
                  show own_Gl p e below _ (s₁.setTop (mkF m 68 #[.val (.int sv)] [(.int (8 : Int32))]))
                  exact own_retI X0 hx Bd.notSynchronized Bd.returns (hb hby own_d_method_3_code_68) (by decide) (by decide) e0 (⟨⟨8, rfl, by unfold own_D; have := rng32 sv; omega⟩, N0, rfl⟩)
                ·
                  show own_Gl p e below _ (s₁.setTop (mkF m 63 #[.val (.int sv)] [(.int (100000000 : Int32)), (.int sv)]))
                  refine own_st (fun tg_ kg_ => XS.icmpYes X0.here hx rfl (pc0 := 63) (pc' := 69) rfl (hb hby own_d_method_3_code_63) rfl (flt (fun q => hc8 ((own_cl (k := 100000000) (by decide)).mp q))).2.1 (by decide) (by decide) kg_) ?_
                  show own_Gl p e below _ (s₁.setTop (mkF m 69 #[.val (.int sv)] []))
                  refine own_st (fun tg_ kg_ => XS.iloadN X0.here hx rfl (hb hby own_d_method_3_code_69) rfl kg_) ?_
                  show own_Gl p e below _ (s₁.setTop (mkF m 70 #[.val (.int sv)] [(.int sv)]))
                  refine own_st (fun tg_ kg_ => X0.ldcInt hx hown (mvT hZ (hw _ (List.mem_of_getElem? (i := 238) rfl))) (g := (mkF m 70 #[.val (.int sv)] [(.int sv)])) rfl (hb hby own_d_method_3_code_70) _ kg_) ?_
                  show own_Gl p e below _ (s₁.setTop (mkF m 72 #[.val (.int sv)] [(.int (1000000000 : Int32)), (.int sv)]))
                  by_cases hc9 : sv.toInt < 1000000000
                  ·
                    show own_Gl p e below _ (s₁.setTop (mkF m 72 #[.val (.int sv)] [(.int (1000000000 : Int32)), (.int sv)]))
                    refine own_st (fun tg_ kg_ => XS.icmpNo X0.here hx rfl (hb hby own_d_method_3_code_72) rfl (tlt ((own_cl (k := 1000000000) (by decide)).mpr hc9)).2.1 kg_) ?_
                    show own_Gl p e below _ (s₁.setTop (mkF m 75 #[.val (.int sv)] []))
                    refine own_st (fun tg_ kg_ => XS.bipush X0.here hx rfl (hb hby own_d_method_3_code_75) kg_) ?_
                    show own_Gl p e below _ (s₁.setTop (mkF m 77 #[.val (.int sv)] [(.int (9 : Int32))]))
                    exact own_retI X0 hx Bd.notSynchronized Bd.returns (hb hby own_d_method_3_code_77) (by decide) (by decide) e0 (⟨⟨9, rfl, by unfold own_D; have := rng32 sv; omega⟩, N0, rfl⟩)
                  ·
                    show own_Gl p e below _ (s₁.setTop (mkF m 72 #[.val (.int sv)] [(.int (1000000000 : Int32)), (.int sv)]))
                    refine own_st (fun tg_ kg_ => XS.icmpYes X0.here hx rfl (pc0 := 72) (pc' := 78) rfl (hb hby own_d_method_3_code_72) rfl (flt (fun q => hc9 ((own_cl (k := 1000000000) (by decide)).mp q))).2.1 (by decide) (by decide) kg_) ?_
                    show own_Gl p e below _ (s₁.setTop (mkF m 78 #[.val (.int sv)] []))
                    refine own_st (fun tg_ kg_ => XS.bipush X0.here hx rfl (hb hby own_d_method_3_code_78) kg_) ?_
                    show own_Gl p e below _ (s₁.setTop (mkF m 80 #[.val (.int sv)] [(.int (10 : Int32))]))
                    exact own_retI X0 hx Bd.notSynchronized Bd.returns (hb hby own_d_method_3_code_80) (by decide) (by decide) e0 (⟨⟨10, rfl, by unfold own_D; have := rng32 sv; omega⟩, N0, rfl⟩)
theorem own_d_jdk_33_method_12_code_0 : decode jdk_33_method_12_code 0 = .ok (.iload_n 1, 1) := by decide +kernel
theorem own_d_jdk_33_method_12_code_1 : decode jdk_33_method_12_code 1 = .ok (.istore 5, 2) := by decide +kernel
theorem own_d_jdk_33_method_12_code_3 : decode jdk_33_method_12_code 3 = .ok (.iload_n 0, 1) := by decide +kernel
theorem own_d_jdk_33_method_12_code_4 : decode jdk_33_method_12_code 4 = .ok (.ifCond .ge 7, 3) := by decide +kernel
theorem own_d_jdk_33_method_12_code_11 : decode jdk_33_method_12_code 11 = .ok (.iconst 0, 1) := by decide +kernel
theorem own_d_jdk_33_method_12_code_12 : decode jdk_33_method_12_code 12 = .ok (.istore 6, 2) := by decide +kernel
theorem own_d_jdk_33_method_12_code_14 : decode jdk_33_method_12_code 14 = .ok (.iload 6, 2) := by decide +kernel
theorem own_d_jdk_33_method_12_code_16 : decode jdk_33_method_12_code 16 = .ok (.ifCond .ne 6, 3) := by decide +kernel
theorem own_d_jdk_33_method_12_code_19 : decode jdk_33_method_12_code 19 = .ok (.iload_n 0, 1) := by decide +kernel
theorem own_d_jdk_33_method_12_code_20 : decode jdk_33_method_12_code 20 = .ok (.ineg, 1) := by decide +kernel
theorem own_d_jdk_33_method_12_code_21 : decode jdk_33_method_12_code 21 = .ok (.istore_n 0, 1) := by decide +kernel
theorem own_d_jdk_33_method_12_code_22 : decode jdk_33_method_12_code 22 = .ok (.iload_n 0, 1) := by decide +kernel
theorem own_d_jdk_33_method_12_code_23 : decode jdk_33_method_12_code 23 = .ok (.bipush (-100), 2) := by decide +kernel
theorem own_d_jdk_33_method_12_code_25 : decode jdk_33_method_12_code 25 = .ok (.if_icmp .gt 47, 3) := by decide +kernel
theorem own_d_jdk_33_method_12_code_28 : decode jdk_33_method_12_code 28 = .ok (.iload_n 0, 1) := by decide +kernel
theorem own_d_jdk_33_method_12_code_29 : decode jdk_33_method_12_code 29 = .ok (.bipush 100, 2) := by decide +kernel
theorem own_d_jdk_33_method_12_code_31 : decode jdk_33_method_12_code 31 = .ok (.idiv, 1) := by decide +kernel
theorem own_d_jdk_33_method_12_code_32 : decode jdk_33_method_12_code 32 = .ok (.istore_n 3, 1) := by decide +kernel
theorem own_d_jdk_33_method_12_code_33 : decode jdk_33_method_12_code 33 = .ok (.iload_n 3, 1) := by decide +kernel
theorem own_d_jdk_33_method_12_code_34 : decode jdk_33_method_12_code 34 = .ok (.bipush 100, 2) := by decide +kernel
theorem own_d_jdk_33_method_12_code_36 : decode jdk_33_method_12_code 36 = .ok (.imul, 1) := by decide +kernel
theorem own_d_jdk_33_method_12_code_37 : decode jdk_33_method_12_code 37 = .ok (.iload_n 0, 1) := by decide +kernel
theorem own_d_jdk_33_method_12_code_38 : decode jdk_33_method_12_code 38 = .ok (.isub, 1) := by decide +kernel
theorem own_d_jdk_33_method_12_code_39 : decode jdk_33_method_12_code 39 = .ok (.istore 4, 2) := by decide +kernel
theorem own_d_jdk_33_method_12_code_41 : decode jdk_33_method_12_code 41 = .ok (.iload_n 3, 1) := by decide +kernel
theorem own_d_jdk_33_method_12_code_42 : decode jdk_33_method_12_code 42 = .ok (.istore_n 0, 1) := by decide +kernel
theorem own_d_jdk_33_method_12_code_43 : decode jdk_33_method_12_code 43 = .ok (.aload_n 2, 1) := by decide +kernel
theorem own_d_jdk_33_method_12_code_44 : decode jdk_33_method_12_code 44 = .ok (.iinc 5 (-1), 3) := by decide +kernel
theorem own_d_jdk_33_method_12_code_47 : decode jdk_33_method_12_code 47 = .ok (.iload 5, 2) := by decide +kernel
theorem own_d_jdk_33_method_12_code_49 : decode jdk_33_method_12_code 49 = .ok (.getstatic 83, 3) := by decide +kernel
theorem own_d_jdk_33_method_12_code_52 : decode jdk_33_method_12_code 52 = .ok (.iload 4, 2) := by decide +kernel
theorem own_d_jdk_33_method_12_code_54 : decode jdk_33_method_12_code 54 = .ok (.baload, 1) := by decide +kernel
theorem own_d_jdk_33_method_12_code_55 : decode jdk_33_method_12_code 55 = .ok (.bastore, 1) := by decide +kernel
theorem own_d_jdk_33_method_12_code_56 : decode jdk_33_method_12_code 56 = .ok (.aload_n 2, 1) := by decide +kernel
theorem own_d_jdk_33_method_12_code_57 : decode jdk_33_method_12_code 57 = .ok (.iinc 5 (-1), 3) := by decide +kernel
theorem own_d_jdk_33_method_12_code_60 : decode jdk_33_method_12_code 60 = .ok (.iload 5, 2) := by decide +kernel
theorem own_d_jdk_33_method_12_code_62 : decode jdk_33_method_12_code 62 = .ok (.getstatic 87, 3) := by decide +kernel
theorem own_d_jdk_33_method_12_code_65 : decode jdk_33_method_12_code 65 = .ok (.iload 4, 2) := by decide +kernel
theorem own_d_jdk_33_method_12_code_67 : decode jdk_33_method_12_code 67 = .ok (.baload, 1) := by decide +kernel
theorem own_d_jdk_33_method_12_code_68 : decode jdk_33_method_12_code 68 = .ok (.bastore, 1) := by decide +kernel
theorem own_d_jdk_33_method_12_code_69 : decode jdk_33_method_12_code 69 = .ok (.goto (-47), 3) := by decide +kernel
theorem own_d_jdk_33_method_12_code_72 : decode jdk_33_method_12_code 72 = .ok (.aload_n 2, 1) := by decide +kernel
theorem own_d_jdk_33_method_12_code_73 : decode jdk_33_method_12_code 73 = .ok (.iinc 5 (-1), 3) := by decide +kernel
theorem own_d_jdk_33_method_12_code_76 : decode jdk_33_method_12_code 76 = .ok (.iload 5, 2) := by decide +kernel
theorem own_d_jdk_33_method_12_code_78 : decode jdk_33_method_12_code 78 = .ok (.getstatic 83, 3) := by decide +kernel
theorem own_d_jdk_33_method_12_code_81 : decode jdk_33_method_12_code 81 = .ok (.iload_n 0, 1) := by decide +kernel
theorem own_d_jdk_33_method_12_code_82 : decode jdk_33_method_12_code 82 = .ok (.ineg, 1) := by decide +kernel
theorem own_d_jdk_33_method_12_code_83 : decode jdk_33_method_12_code 83 = .ok (.baload, 1) := by decide +kernel
theorem own_d_jdk_33_method_12_code_84 : decode jdk_33_method_12_code 84 = .ok (.bastore, 1) := by decide +kernel
theorem own_d_jdk_33_method_12_code_85 : decode jdk_33_method_12_code 85 = .ok (.iload_n 0, 1) := by decide +kernel
theorem own_d_jdk_33_method_12_code_86 : decode jdk_33_method_12_code 86 = .ok (.bipush (-9), 2) := by decide +kernel
theorem own_d_jdk_33_method_12_code_88 : decode jdk_33_method_12_code 88 = .ok (.if_icmp .ge 16, 3) := by decide +kernel
theorem own_d_jdk_33_method_12_code_91 : decode jdk_33_method_12_code 91 = .ok (.aload_n 2, 1) := by decide +kernel
theorem own_d_jdk_33_method_12_code_92 : decode jdk_33_method_12_code 92 = .ok (.iinc 5 (-1), 3) := by decide +kernel
theorem own_d_jdk_33_method_12_code_95 : decode jdk_33_method_12_code 95 = .ok (.iload 5, 2) := by decide +kernel
theorem own_d_jdk_33_method_12_code_97 : decode jdk_33_method_12_code 97 = .ok (.getstatic 87, 3) := by decide +kernel
theorem own_d_jdk_33_method_12_code_100 : decode jdk_33_method_12_code 100 = .ok (.iload_n 0, 1) := by decide +kernel
theorem own_d_jdk_33_method_12_code_101 : decode jdk_33_method_12_code 101 = .ok (.ineg, 1) := by decide +kernel
theorem own_d_jdk_33_method_12_code_102 : decode jdk_33_method_12_code 102 = .ok (.baload, 1) := by decide +kernel
theorem own_d_jdk_33_method_12_code_103 : decode jdk_33_method_12_code 103 = .ok (.bastore, 1) := by decide +kernel
theorem own_d_jdk_33_method_12_code_104 : decode jdk_33_method_12_code 104 = .ok (.iload 6, 2) := by decide +kernel
theorem own_d_jdk_33_method_12_code_106 : decode jdk_33_method_12_code 106 = .ok (.ifCond .eq 12, 3) := by decide +kernel
theorem own_d_jdk_33_method_12_code_118 : decode jdk_33_method_12_code 118 = .ok (.iload 5, 2) := by decide +kernel
theorem own_d_jdk_33_method_12_code_120 : decode jdk_33_method_12_code 120 = .ok (.ireturn, 1) := by decide +kernel
theorem own_ef_gch (m : MethodId) (x0 : Int32) (x1 : Int32) (x2 : Addr) : entryFrame m #[(.int x0), (.int x1), (.ref x2)] 7 = mkF m 0 #[.val (.int x0), .val (.int x1), .val (.ref x2), .unset, .unset, .unset, .unset] [] := by first | (simp [entryFrame, mkF, argsToLocals, Value.category]; done) | rfl
def own_Q_gch (Z : State) (sv : Int32) (dn : Nat) (d : Addr) (kd : ClassId) (P : List Value)(o1 o2 : Addr) (k1 k2 : ClassId) (K2 : List Int32) (h0 : Heap) (n0 : Nat) (v : Option Value) (h : Heap) (L : List Loc) : Prop := (∃ pz, v = some (.int pz)) ∧ Fr n0 L ∧ Keep h0 h [d] ∧ ∃ P' : List Value, P'.length = 16 ∧ P'.getD (dn - 1) (.int 0) = (.int (own_dg sv)) ∧ Arv Z h d kd .byte (16 : Int32) P' (.int 0)
set_option maxRecDepth 65536 in
set_option maxHeartbeats 40000000 in
theorem own_rm_gch (l : Launch) (Z : State) (a0 : Array Value) (hw : ∀ d ∈ tables_1, d.before a0 Z = true) (ws : List Jvm.Cond) (sv : Int32) (dn : Nat) (d : Addr) (kd : ClassId) (P : List Value)(o1 o2 : Addr) (k1 k2 : ClassId) (K2 : List Int32) (h0 : Heap) (n0 : Nat) (Z0 : n0 ≤ h0.size) (hone : 1 ≤ sv.toInt)(S_1 : Sta Z h0 "java/lang/Integer" "DigitOnes" "[B" (.ref o1)) (S_2 : Sta Z h0 "java/lang/Integer" "DigitTens" "[B" (.ref o2)) (V_1 : Arv Z h0 o1 k1 .byte (100 : Int32) own_ones (.int 0)) (V_2 : Arv Z h0 o2 k2 .byte (100 : Int32) (K2.map Value.int) (.int 0))(hD : own_D sv.toInt dn) (V_d : Arv Z h0 d kd .byte (16 : Int32) P (.int 0)) (hP : P.length = 16) (g_d : n0 ≤ d)(ne_o1_d : o1 ≠ d) (ne_o2_d : o2 ≠ d) :
    MetFree l (⟨"java/lang/Integer", "getChars", "(II[B)I"⟩ : MethodName) (head1 (Jvm.Cond.code (⟨"java/lang/Integer", "getChars", "(II[B)I"⟩ : MethodName) jdk_33_method_12_code 7 (some .int) :: ws) ({ frames := 0, cells := 0, slots := 0, locals := 0 } : Room)) (fun aa UU => aa = #[(.int sv), (.int (Int32.ofNat dn)), (.ref d)] ∧ Z.Warmed39 UU.vm ∧ UU.heap = h0) (fun _ _ _ _ _ => True) (fun _ UU oo UU' => ∃ vv LL, oo = .returned vv ∧ own_Q_gch Z sv dn d kd P o1 o2 k1 k2 K2 h0 n0 vv UU'.heap LL ∧ FrameEnd UU oo UU' LL ({ frames := 0, cells := 0, slots := 0, locals := 0 } : Room).cells ({ frames := 0, cells := 0, slots := 0, locals := 0 } : Room).slots) := by
  refine MetFree.of_bodySF (plainFor_of_name own_pn0) hisR ?_
  intro p e s m args below meth c s₁ Bd hml0 hP hK
  obtain ⟨rfl, hZ, hh⟩ := hP
  have hx := Bd.exec
  have hby := Bd.bytes
  have hml : c.maxLocals = 7 := hml0
  have hown : s.vm.findClass "java/lang/Integer" = some m.cls := findClass_of_methodNamed Bd.named
  have hnm := (name_of_methodNamed Bd.named Bd.method).1
  have X0 : Stand p l e ({ frames := 0, cells := 0, slots := 0, locals := 0 } : Room) s m #[(.int sv), (.int (Int32.ofNat dn)), (.ref d)] below meth c s₁ [] 0 0 := Stand.of_body Bd
  have e0 : s₁.heap = h0 := by rw [← hh, Bd.state]; rfl
  have N0 := Fr.nil n0
  have K0 : Keep h0 h0 [d] := Keep.refl h0 _
  show own_Gl p e below (own_Post s (own_Q_gch Z sv dn d kd P o1 o2 k1 k2 K2 h0 n0) ({ frames := 0, cells := 0, slots := 0, locals := 0 } : Room).cells ({ frames := 0, cells := 0, slots := 0, locals := 0 } : Room).slots) _
  refine own_st (fun tg_ kg_ => castTop (own_ef_gch m sv (Int32.ofNat dn) d) kg_) ?_
  show own_Gl p e below _ (s₁.setTop (mkF m 0 #[.val (.int sv), .val (.int (Int32.ofNat dn)), .val (.ref d), .unset, .unset, .unset, .unset] []))
  have ns_d := V_d.nostat
  refine own_st (fun tg_ kg_ => XS.iloadN X0.here hx rfl (hb hby own_d_jdk_33_method_12_code_0) rfl kg_) ?_
  show own_Gl p e below _ (s₁.setTop (mkF m 1 #[.val (.int sv), .val (.int (Int32.ofNat dn)), .val (.ref d), .unset, .unset, .unset, .unset] [(.int (Int32.ofNat dn))]))
  refine own_st (fun tg_ kg_ => XS.istore X0.here hx rfl (hb hby own_d_jdk_33_method_12_code_1) rfl (l' := #[.val (.int sv), .val (.int (Int32.ofNat dn)), .val (.ref d), .unset, .unset, .val (.int (Int32.ofNat dn)), .unset]) rfl kg_) ?_
  show own_Gl p e below _ (s₁.setTop (mkF m 3 #[.val (.int sv), .val (.int (Int32.ofNat dn)), .val (.ref d), .unset, .unset, .val (.int (Int32.ofNat dn)), .unset] []))
  refine own_st (fun tg_ kg_ => XS.iloadN X0.here hx rfl (hb hby own_d_jdk_33_method_12_code_3) rfl kg_) ?_
  show own_Gl p e below _ (s₁.setTop (mkF m 4 #[.val (.int sv), .val (.int (Int32.ofNat dn)), .val (.ref d), .unset, .unset, .val (.int (Int32.ofNat dn)), .unset] [(.int sv)]))
  refine own_st (fun tg_ kg_ => XS.ifYes X0.here hx rfl (pc0 := 4) (pc' := 11) rfl (hb hby own_d_jdk_33_method_12_code_4) rfl ((if0 _ _).trans (flt (own_nn hone)).2.1) (by decide) (by decide) kg_) ?_
  show own_Gl p e below _ (s₁.setTop (mkF m 11 #[.val (.int sv), .val (.int (Int32.ofNat dn)), .val (.ref d), .unset, .unset, .val (.int (Int32.ofNat dn)), .unset] []))
  refine own_st (fun tg_ kg_ => XS.iconst X0.here hx rfl (hb hby own_d_jdk_33_method_12_code_11) kg_) ?_
  show own_Gl p e below _ (s₁.setTop (mkF m 12 #[.val (.int sv), .val (.int (Int32.ofNat dn)), .val (.ref d), .unset, .unset, .val (.int (Int32.ofNat dn)), .unset] [(.int (0 : Int32))]))
  refine own_st (fun tg_ kg_ => XS.istore X0.here hx rfl (hb hby own_d_jdk_33_method_12_code_12) rfl (l' := #[.val (.int sv), .val (.int (Int32.ofNat dn)), .val (.ref d), .unset, .unset, .val (.int (Int32.ofNat dn)), .val (.int (0 : Int32))]) rfl kg_) ?_
  show own_Gl p e below _ (s₁.setTop (mkF m 14 #[.val (.int sv), .val (.int (Int32.ofNat dn)), .val (.ref d), .unset, .unset, .val (.int (Int32.ofNat dn)), .val (.int (0 : Int32))] []))
  refine own_st (fun tg_ kg_ => XS.iload X0.here hx rfl (hb hby own_d_jdk_33_method_12_code_14) rfl kg_) ?_
  show own_Gl p e below _ (s₁.setTop (mkF m 16 #[.val (.int sv), .val (.int (Int32.ofNat dn)), .val (.ref d), .unset, .unset, .val (.int (Int32.ofNat dn)), .val (.int (0 : Int32))] [(.int (0 : Int32))]))
  refine own_st (fun tg_ kg_ => XS.ifNo X0.here hx rfl (hb hby own_d_jdk_33_method_12_code_16) rfl ((if0 _ _).trans (teq ((rfl : (0 : Int32) = (0 : Int32)))).2) kg_) ?_
  show own_Gl p e below _ (s₁.setTop (mkF m 19 #[.val (.int sv), .val (.int (Int32.ofNat dn)), .val (.ref d), .unset, .unset, .val (.int (Int32.ofNat dn)), .val (.int (0 : Int32))] []))
  refine own_st (fun tg_ kg_ => XS.iloadN X0.here hx rfl (hb hby own_d_jdk_33_method_12_code_19) rfl kg_) ?_
  show own_Gl p e below _ (s₁.setTop (mkF m 20 #[.val (.int sv), .val (.int (Int32.ofNat dn)), .val (.ref d), .unset, .unset, .val (.int (Int32.ofNat dn)), .val (.int (0 : Int32))] [(.int sv)]))
  refine own_st (fun tg_ kg_ => XS.ineg X0.here hx rfl (hb hby own_d_jdk_33_method_12_code_20) rfl kg_) ?_
  show own_Gl p e below _ (s₁.setTop (mkF m 21 #[.val (.int sv), .val (.int (Int32.ofNat dn)), .val (.ref d), .unset, .unset, .val (.int (Int32.ofNat dn)), .val (.int (0 : Int32))] [(.int (-sv))]))
  refine own_st (fun tg_ kg_ => XS.istoreN X0.here hx rfl (hb hby own_d_jdk_33_method_12_code_21) rfl (l' := #[.val (.int (-sv)), .val (.int (Int32.ofNat dn)), .val (.ref d), .unset, .unset, .val (.int (Int32.ofNat dn)), .val (.int (0 : Int32))]) rfl kg_) ?_
  show own_Gl p e below _ (s₁.setTop (mkF m 22 #[.val (.int (-sv)), .val (.int (Int32.ofNat dn)), .val (.ref d), .unset, .unset, .val (.int (Int32.ofNat dn)), .val (.int (0 : Int32))] []))
  have loop : ∀ (r pp : Nat) (kk : Int) (qq : Int32) (P : List Value), pp ≤ r → qq.toInt = -kk → own_D kk pp → ((pp = dn ∧ kk = sv.toInt) ∨ (pp < dn ∧ P.getD (dn - 1) (.int 0) = (.int (own_dg sv)))) → P.length = 16 → ∀ (T : State) (H : Heap) (L : List Loc) (z3 z4 : Slot), Stand p l e ({ frames := 0, cells := 0, slots := 0, locals := 0 } : Room) s m #[(.int sv), (.int (Int32.ofNat dn)), (.ref d)] below meth c T L 0 0 → T.heap = H → Fr n0 L → Keep h0 H [d] → Arv Z H d kd .byte (16 : Int32) P (.int 0) → One z3 → One z4 → own_Gl p e below (own_Post s (own_Q_gch Z sv dn d kd P o1 o2 k1 k2 K2 h0 n0) ({ frames := 0, cells := 0, slots := 0, locals := 0 } : Room).cells ({ frames := 0, cells := 0, slots := 0, locals := 0 } : Room).slots) (T.setTop (mkF m 22 #[.val (.int qq), .val (.int (Int32.ofNat dn)), .val (.ref d), z3, z4, .val (.int (Int32.ofNat pp)), .val (.int (0 : Int32))] [])) := by
    intro r
    induction r with
    | zero => intro pp kk qq P hpr hq hD; exfalso; have := own_D_le hD; omega
    | succ r ih =>
      intro pp kk qq P hpr hq hD' inv hP T H L z3 z4 Xl el Nl Kl V_d hz3 hz4
      have hle := own_D_le hD'
      show own_Gl p e below _ (T.setTop (mkF m 22 #[.val (.int qq), .val (.int (Int32.ofNat dn)), .val (.ref d), z3, z4, .val (.int (Int32.ofNat pp)), .val (.int (0 : Int32))] []))
      refine own_st (fun tg_ kg_ => XS.iloadN Xl.here hx rfl (hb hby own_d_jdk_33_method_12_code_22) rfl kg_) ?_
      show own_Gl p e below _ (T.setTop (mkF m 23 #[.val (.int qq), .val (.int (Int32.ofNat dn)), .val (.ref d), z3, z4, .val (.int (Int32.ofNat pp)), .val (.int (0 : Int32))] [(.int qq)]))
      refine own_st (fun tg_ kg_ => XS.bipush Xl.here hx rfl (hb hby own_d_jdk_33_method_12_code_23) kg_) ?_
      show own_Gl p e below _ (T.setTop (mkF m 25 #[.val (.int qq), .val (.int (Int32.ofNat dn)), .val (.ref d), z3, z4, .val (.int (Int32.ofNat pp)), .val (.int (0 : Int32))] [(.int (-100 : Int32)), (.int qq)]))
      by_cases hk : kk < 100
      ·
        have hend := own_D_end hD' hk
        have hnq : -qq = Int32.ofNat kk.toNat := own_toofn (by omega) (by have := c_ineg qq; have := rng32 (-qq); omega)
        have hfb : fits .byte (.int (K2.getD kk.toNat 0)) = true := by
          obtain ⟨cc, Ac, -, Sc, Nc, Hc, Gc⟩ := id V_2
          have q := Gc kk.toNat (by rw [Sc]; show _ < 100; omega)
          rwa [own_getm] at q
        show own_Gl p e below _ (T.setTop (mkF m 25 #[.val (.int qq), .val (.int (Int32.ofNat dn)), .val (.ref d), z3, z4, .val (.int (Int32.ofNat pp)), .val (.int (0 : Int32))] [(.int (-100 : Int32)), (.int qq)]))
        refine own_st (fun tg_ kg_ => XS.icmpYes Xl.here hx rfl (pc0 := 25) (pc' := 72) rfl (hb hby own_d_jdk_33_method_12_code_25) rfl (tlt ((own_gt hq 100 (by decide)).mpr hk)).2.2.1 (by decide) (by decide) kg_) ?_
        show own_Gl p e below _ (T.setTop (mkF m 72 #[.val (.int qq), .val (.int (Int32.ofNat dn)), .val (.ref d), z3, z4, .val (.int (Int32.ofNat pp)), .val (.int (0 : Int32))] []))
        refine own_st (fun tg_ kg_ => XS.aloadN Xl.here hx rfl (hb hby own_d_jdk_33_method_12_code_72) rfl rfl kg_) ?_
        show own_Gl p e below _ (T.setTop (mkF m 73 #[.val (.int qq), .val (.int (Int32.ofNat dn)), .val (.ref d), z3, z4, .val (.int (Int32.ofNat pp)), .val (.int (0 : Int32))] [(.ref d)]))
        refine own_st (fun tg_ kg_ => XS.iinc Xl.here hx rfl (hb hby own_d_jdk_33_method_12_code_73) rfl (l' := #[.val (.int qq), .val (.int (Int32.ofNat dn)), .val (.ref d), z3, z4, .val (.int ((Int32.ofNat pp) + (-1 : Int32))), .val (.int (0 : Int32))]) rfl kg_) ?_
        show own_Gl p e below _ (T.setTop (mkF m 76 #[.val (.int qq), .val (.int (Int32.ofNat dn)), .val (.ref d), z3, z4, .val (.int ((Int32.ofNat pp) + (-1 : Int32))), .val (.int (0 : Int32))] [(.ref d)]))
        rw [own_pred (show 1 ≤ pp by omega) (by omega)]
        show own_Gl p e below _ (T.setTop (mkF m 76 #[.val (.int qq), .val (.int (Int32.ofNat dn)), .val (.ref d), z3, z4, .val (.int (Int32.ofNat (pp - 1))), .val (.int (0 : Int32))] [(.ref d)]))
        refine own_st (fun tg_ kg_ => XS.iload Xl.here hx rfl (hb hby own_d_jdk_33_method_12_code_76) rfl kg_) ?_
        show own_Gl p e below _ (T.setTop (mkF m 78 #[.val (.int qq), .val (.int (Int32.ofNat dn)), .val (.ref d), z3, z4, .val (.int (Int32.ofNat (pp - 1))), .val (.int (0 : Int32))] [(.int (Int32.ofNat (pp - 1))), (.ref d)]))
        obtain ⟨T1, X1, e1, st1⟩ := getS2 Xl hx hZ hown (host := "") (Or.inl (hw _ (List.mem_of_getElem? (i := 86) rfl))) Via.refl el (own_sta_keep S_1 Kl (nsS ns_d ns0)) (g := (mkF m 78 #[.val (.int qq), .val (.int (Int32.ofNat dn)), .val (.ref d), z3, z4, .val (.int (Int32.ofNat (pp - 1))), .val (.int (0 : Int32))] [(.int (Int32.ofNat (pp - 1))), (.ref d)])) rfl (hb hby own_d_jdk_33_method_12_code_78)
        refine own_st st1 ?_
        try clear st1
        try clear el
        try clear Xl
        try clear T
        show own_Gl p e below _ (T1.setTop (mkF m 81 #[.val (.int qq), .val (.int (Int32.ofNat dn)), .val (.ref d), z3, z4, .val (.int (Int32.ofNat (pp - 1))), .val (.int (0 : Int32))] [(.ref o1), (.int (Int32.ofNat (pp - 1))), (.ref d)]))
        refine own_st (fun tg_ kg_ => XS.iloadN X1.here hx rfl (hb hby own_d_jdk_33_method_12_code_81) rfl kg_) ?_
        show own_Gl p e below _ (T1.setTop (mkF m 82 #[.val (.int qq), .val (.int (Int32.ofNat dn)), .val (.ref d), z3, z4, .val (.int (Int32.ofNat (pp - 1))), .val (.int (0 : Int32))] [(.int qq), (.ref o1), (.int (Int32.ofNat (pp - 1))), (.ref d)]))
        refine own_st (fun tg_ kg_ => XS.ineg X1.here hx rfl (hb hby own_d_jdk_33_method_12_code_82) rfl kg_) ?_
        show own_Gl p e below _ (T1.setTop (mkF m 83 #[.val (.int qq), .val (.int (Int32.ofNat dn)), .val (.ref d), z3, z4, .val (.int (Int32.ofNat (pp - 1))), .val (.int (0 : Int32))] [(.int (-qq)), (.ref o1), (.int (Int32.ofNat (pp - 1))), (.ref d)]))
        obtain ⟨cl2, Ar2, qa2, Sa2, Na2, Ha2, Ga2⟩ := id (V_1.keep Kl (ninS ne_o1_d nin0))
        have hin3 : ¬ ((-qq) < 0 ∨ cl2.slots.size ≤ ((-qq)).toNatClampNeg) := inb_of Sa2 (by rw [hnq]; exact ⟨own_ofn_nn (by omega), (own_ofn_lt (b := 100) (by omega) (by decide)).mpr (by omega)⟩)
        have hat3 : cl2.slots[((-qq)).toNatClampNeg]? = some (.int (Int32.ofNat (48 + kk.toNat % 10))) := Has.at Ha2 hin3 (by rw [hnq, own_ofn_clamp (by omega)]; exact own_ones_at (by omega))
        refine own_st (fun tg_ kg_ => X1.baloadBytes hx (j := (-qq)) (v := (.int (Int32.ofNat (48 + kk.toNat % 10)))) (by rw [e1]; exact Ar2.1) (State.isArrayOf_alike hZ.alike Ar2.2.1) Ar2.2.2 hin3 hat3 (g := (mkF m 83 #[.val (.int qq), .val (.int (Int32.ofNat dn)), .val (.ref d), z3, z4, .val (.int (Int32.ofNat (pp - 1))), .val (.int (0 : Int32))] [(.int (-qq)), (.ref o1), (.int (Int32.ofNat (pp - 1))), (.ref d)])) rfl rfl (hb hby own_d_jdk_33_method_12_code_83) _ kg_) ?_
        show own_Gl p e below _ (T1.setTop (mkF m 84 #[.val (.int qq), .val (.int (Int32.ofNat dn)), .val (.ref d), z3, z4, .val (.int (Int32.ofNat (pp - 1))), .val (.int (0 : Int32))] [(.int (Int32.ofNat (48 + kk.toNat % 10))), (.int (Int32.ofNat (pp - 1))), (.ref d)]))
        obtain ⟨cl4, Ar4, qa4, Sa4, Na4, Ha4, Ga4⟩ := id V_d
        have hj4 : (Int32.ofNat (pp - 1)) = Int32.ofNat (pp - 1) := rfl
        have hin4 : ¬ ((Int32.ofNat (pp - 1)) < 0 ∨ cl4.slots.size ≤ ((Int32.ofNat (pp - 1))).toNatClampNeg) := by rw [hj4]; exact inb_of Sa4 ⟨own_ofn_nn (by omega), (own_ofn_lt (b := 16) (by omega) (by decide)).mpr (by omega)⟩
        obtain ⟨T4, h4, X4, e4, W4, st4⟩ := stB X1 hx hZ e1 Ar4 (j := (Int32.ofNat (pp - 1))) hin4 (g := (mkF m 84 #[.val (.int qq), .val (.int (Int32.ofNat dn)), .val (.ref d), z3, z4, .val (.int (Int32.ofNat (pp - 1))), .val (.int (0 : Int32))] [(.int (Int32.ofNat (48 + kk.toNat % 10))), (.int (Int32.ofNat (pp - 1))), (.ref d)])) rfl rfl (hb hby own_d_jdk_33_method_12_code_84)
        rw [own_nb10] at W4
        have N4 := Fr.snoc X4 Nl g_d
        try clear Nl
        have K5 : Keep h0 h4 [d] := Kl.wr W4 (Or.inl (List.mem_of_getElem? (i := 0) rfl))
        try clear Kl
        replace V_d := Arv.set Ar4 qa4 Sa4 Na4 Ha4 Ga4 (own_fb10 _) W4 (pp - 1) (by rw [hj4]; exact own_ofn_clamp (by omega)) (by rw [hP]; omega)
        try clear Ga4
        try clear Ha4
        try clear Na4
        try clear Sa4
        try clear qa4
        try clear W4
        try clear hin4
        try clear Ar4
        try clear cl4
        try clear hj4
        refine own_st st4 ?_
        try clear st4
        try clear e1
        try clear X1
        try clear T1
        show own_Gl p e below _ (T4.setTop (mkF m 85 #[.val (.int qq), .val (.int (Int32.ofNat dn)), .val (.ref d), z3, z4, .val (.int (Int32.ofNat (pp - 1))), .val (.int (0 : Int32))] []))
        refine own_st (fun tg_ kg_ => XS.iloadN X4.here hx rfl (hb hby own_d_jdk_33_method_12_code_85) rfl kg_) ?_
        show own_Gl p e below _ (T4.setTop (mkF m 86 #[.val (.int qq), .val (.int (Int32.ofNat dn)), .val (.ref d), z3, z4, .val (.int (Int32.ofNat (pp - 1))), .val (.int (0 : Int32))] [(.int qq)]))
        refine own_st (fun tg_ kg_ => XS.bipush X4.here hx rfl (hb hby own_d_jdk_33_method_12_code_86) kg_) ?_
        show own_Gl p e below _ (T4.setTop (mkF m 88 #[.val (.int qq), .val (.int (Int32.ofNat dn)), .val (.ref d), z3, z4, .val (.int (Int32.ofNat (pp - 1))), .val (.int (0 : Int32))] [(.int (-9 : Int32)), (.int qq)]))
        by_cases h9 : 9 < kk
        ·
          show own_Gl p e below _ (T4.setTop (mkF m 88 #[.val (.int qq), .val (.int (Int32.ofNat dn)), .val (.ref d), z3, z4, .val (.int (Int32.ofNat (pp - 1))), .val (.int (0 : Int32))] [(.int (-9 : Int32)), (.int qq)]))
          refine own_st (fun tg_ kg_ => XS.icmpNo X4.here hx rfl (hb hby own_d_jdk_33_method_12_code_88) rfl (tlt ((own_lt hq 9 (by decide)).mpr h9)).2.1 kg_) ?_
          show own_Gl p e below _ (T4.setTop (mkF m 91 #[.val (.int qq), .val (.int (Int32.ofNat dn)), .val (.ref d), z3, z4, .val (.int (Int32.ofNat (pp - 1))), .val (.int (0 : Int32))] []))
          refine own_st (fun tg_ kg_ => XS.aloadN X4.here hx rfl (hb hby own_d_jdk_33_method_12_code_91) rfl rfl kg_) ?_
          show own_Gl p e below _ (T4.setTop (mkF m 92 #[.val (.int qq), .val (.int (Int32.ofNat dn)), .val (.ref d), z3, z4, .val (.int (Int32.ofNat (pp - 1))), .val (.int (0 : Int32))] [(.ref d)]))
          refine own_st (fun tg_ kg_ => XS.iinc X4.here hx rfl (hb hby own_d_jdk_33_method_12_code_92) rfl (l' := #[.val (.int qq), .val (.int (Int32.ofNat dn)), .val (.ref d), z3, z4, .val (.int ((Int32.ofNat (pp - 1)) + (-1 : Int32))), .val (.int (0 : Int32))]) rfl kg_) ?_
          show own_Gl p e below _ (T4.setTop (mkF m 95 #[.val (.int qq), .val (.int (Int32.ofNat dn)), .val (.ref d), z3, z4, .val (.int ((Int32.ofNat (pp - 1)) + (-1 : Int32))), .val (.int (0 : Int32))] [(.ref d)]))
          rw [own_pred (show 1 ≤ pp - 1 by omega) (by omega)]
          show own_Gl p e below _ (T4.setTop (mkF m 95 #[.val (.int qq), .val (.int (Int32.ofNat dn)), .val (.ref d), z3, z4, .val (.int (Int32.ofNat (pp - 1 - 1))), .val (.int (0 : Int32))] [(.ref d)]))
          refine own_st (fun tg_ kg_ => XS.iload X4.here hx rfl (hb hby own_d_jdk_33_method_12_code_95) rfl kg_) ?_
          show own_Gl p e below _ (T4.setTop (mkF m 97 #[.val (.int qq), .val (.int (Int32.ofNat dn)), .val (.ref d), z3, z4, .val (.int (Int32.ofNat (pp - 1 - 1))), .val (.int (0 : Int32))] [(.int (Int32.ofNat (pp - 1 - 1))), (.ref d)]))
          obtain ⟨T6, X6, e6, st6⟩ := getS2 X4 hx hZ hown (host := "") (Or.inl (hw _ (List.mem_of_getElem? (i := 216) rfl))) Via.refl e4 (own_sta_keep S_2 K5 (nsS ns_d ns0)) (g := (mkF m 97 #[.val (.int qq), .val (.int (Int32.ofNat dn)), .val (.ref d), z3, z4, .val (.int (Int32.ofNat (pp - 1 - 1))), .val (.int (0 : Int32))] [(.int (Int32.ofNat (pp - 1 - 1))), (.ref d)])) rfl (hb hby own_d_jdk_33_method_12_code_97)
          refine own_st st6 ?_
          try clear st6
          try clear e4
          try clear X4
          try clear T4
          show own_Gl p e below _ (T6.setTop (mkF m 100 #[.val (.int qq), .val (.int (Int32.ofNat dn)), .val (.ref d), z3, z4, .val (.int (Int32.ofNat (pp - 1 - 1))), .val (.int (0 : Int32))] [(.ref o2), (.int (Int32.ofNat (pp - 1 - 1))), (.ref d)]))
          refine own_st (fun tg_ kg_ => XS.iloadN X6.here hx rfl (hb hby own_d_jdk_33_method_12_code_100) rfl kg_) ?_
          show own_Gl p e below _ (T6.setTop (mkF m 101 #[.val (.int qq), .val (.int (Int32.ofNat dn)), .val (.ref d), z3, z4, .val (.int (Int32.ofNat (pp - 1 - 1))), .val (.int (0 : Int32))] [(.int qq), (.ref o2), (.int (Int32.ofNat (pp - 1 - 1))), (.ref d)]))
          refine own_st (fun tg_ kg_ => XS.ineg X6.here hx rfl (hb hby own_d_jdk_33_method_12_code_101) rfl kg_) ?_
          show own_Gl p e below _ (T6.setTop (mkF m 102 #[.val (.int qq), .val (.int (Int32.ofNat dn)), .val (.ref d), z3, z4, .val (.int (Int32.ofNat (pp - 1 - 1))), .val (.int (0 : Int32))] [(.int (-qq)), (.ref o2), (.int (Int32.ofNat (pp - 1 - 1))), (.ref d)]))
          obtain ⟨cl7, Ar7, qa7, Sa7, Na7, Ha7, Ga7⟩ := id (V_2.keep K5 (ninS ne_o2_d nin0))
          have hin8 : ¬ ((-qq) < 0 ∨ cl7.slots.size ≤ ((-qq)).toNatClampNeg) := inb_of Sa7 (by rw [hnq]; exact ⟨own_ofn_nn (by omega), (own_ofn_lt (b := 100) (by omega) (by decide)).mpr (by omega)⟩)
          have hat8 : cl7.slots[((-qq)).toNatClampNeg]? = some (.int (K2.getD kk.toNat 0)) := Has.at Ha7 hin8 (by rw [hnq, own_ofn_clamp (by omega)]; exact own_getm K2 _)
          refine own_st (fun tg_ kg_ => X6.baloadBytes hx (j := (-qq)) (v := (.int (K2.getD kk.toNat 0))) (by rw [e6]; exact Ar7.1) (State.isArrayOf_alike hZ.alike Ar7.2.1) Ar7.2.2 hin8 hat8 (g := (mkF m 102 #[.val (.int qq), .val (.int (Int32.ofNat dn)), .val (.ref d), z3, z4, .val (.int (Int32.ofNat (pp - 1 - 1))), .val (.int (0 : Int32))] [(.int (-qq)), (.ref o2), (.int (Int32.ofNat (pp - 1 - 1))), (.ref d)])) rfl rfl (hb hby own_d_jdk_33_method_12_code_102) _ kg_) ?_
          show own_Gl p e below _ (T6.setTop (mkF m 103 #[.val (.int qq), .val (.int (Int32.ofNat dn)), .val (.ref d), z3, z4, .val (.int (Int32.ofNat (pp - 1 - 1))), .val (.int (0 : Int32))] [(.int (K2.getD kk.toNat 0)), (.int (Int32.ofNat (pp - 1 - 1))), (.ref d)]))
          obtain ⟨cl9, Ar9, qa9, Sa9, Na9, Ha9, Ga9⟩ := id V_d
          have hj9 : (Int32.ofNat (pp - 1 - 1)) = Int32.ofNat (pp - 1 - 1) := rfl
          have hin9 : ¬ ((Int32.ofNat (pp - 1 - 1)) < 0 ∨ cl9.slots.size ≤ ((Int32.ofNat (pp - 1 - 1))).toNatClampNeg) := by rw [hj9]; exact inb_of Sa9 ⟨own_ofn_nn (by omega), (own_ofn_lt (b := 16) (by omega) (by decide)).mpr (by omega)⟩
          obtain ⟨T9, h9, X9, e9, W9, st9⟩ := stB X6 hx hZ e6 Ar9 (j := (Int32.ofNat (pp - 1 - 1))) hin9 (g := (mkF m 103 #[.val (.int qq), .val (.int (Int32.ofNat dn)), .val (.ref d), z3, z4, .val (.int (Int32.ofNat (pp - 1 - 1))), .val (.int (0 : Int32))] [(.int (K2.getD kk.toNat 0)), (.int (Int32.ofNat (pp - 1 - 1))), (.ref d)])) rfl rfl (hb hby own_d_jdk_33_method_12_code_103)
          rw [own_narb hfb] at W9
          have N9 := Fr.snoc X9 N4 g_d
          try clear N4
          have K10 : Keep h0 h9 [d] := K5.wr W9 (Or.inl (List.mem_of_getElem? (i := 0) rfl))
          try clear K5
          replace V_d := Arv.set Ar9 qa9 Sa9 Na9 Ha9 Ga9 hfb W9 (pp - 1 - 1) (by rw [hj9]; exact own_ofn_clamp (by omega)) (by rw [List.length_set, hP]; omega)
          try clear Ga9
          try clear Ha9
          try clear Na9
          try clear Sa9
          try clear qa9
          try clear W9
          try clear hin9
          try clear Ar9
          try clear cl9
          try clear hj9
          refine own_st st9 ?_
          try clear st9
          try clear e6
          try clear X6
          try clear T6
          show own_Gl p e below _ (T9.setTop (mkF m 104 #[.val (.int qq), .val (.int (Int32.ofNat dn)), .val (.ref d), z3, z4, .val (.int (Int32.ofNat (pp - 1 - 1))), .val (.int (0 : Int32))] []))
          refine own_st (fun tg_ kg_ => XS.iload X9.here hx rfl (hb hby own_d_jdk_33_method_12_code_104) rfl kg_) ?_
          show own_Gl p e below _ (T9.setTop (mkF m 106 #[.val (.int qq), .val (.int (Int32.ofNat dn)), .val (.ref d), z3, z4, .val (.int (Int32.ofNat (pp - 1 - 1))), .val (.int (0 : Int32))] [(.int (0 : Int32))]))
          refine own_st (fun tg_ kg_ => XS.ifYes X9.here hx rfl (pc0 := 106) (pc' := 118) rfl (hb hby own_d_jdk_33_method_12_code_106) rfl ((if0 _ _).trans (teq ((rfl : (0 : Int32) = (0 : Int32)))).1) (by decide) (by decide) kg_) ?_
          show own_Gl p e below _ (T9.setTop (mkF m 118 #[.val (.int qq), .val (.int (Int32.ofNat dn)), .val (.ref d), z3, z4, .val (.int (Int32.ofNat (pp - 1 - 1))), .val (.int (0 : Int32))] []))
          refine own_st (fun tg_ kg_ => XS.iload X9.here hx rfl (hb hby own_d_jdk_33_method_12_code_118) rfl kg_) ?_
          show own_Gl p e below _ (T9.setTop (mkF m 120 #[.val (.int qq), .val (.int (Int32.ofNat dn)), .val (.ref d), z3, z4, .val (.int (Int32.ofNat (pp - 1 - 1))), .val (.int (0 : Int32))] [(.int (Int32.ofNat (pp - 1 - 1)))]))
          exact own_retI X9 hx Bd.notSynchronized Bd.returns (hb hby own_d_jdk_33_method_12_code_120) (by decide) (by decide) e9 (⟨⟨_, rfl⟩, N9, K10, _, by simp [hP], own_inv2 hP (by omega) (by omega) inv (fun e => by subst e; rfl), V_d⟩)
        ·
          show own_Gl p e below _ (T4.setTop (mkF m 88 #[.val (.int qq), .val (.int (Int32.ofNat dn)), .val (.ref d), z3, z4, .val (.int (Int32.ofNat (pp - 1))), .val (.int (0 : Int32))] [(.int (-9 : Int32)), (.int qq)]))
          refine own_st (fun tg_ kg_ => XS.icmpYes X4.here hx rfl (pc0 := 88) (pc' := 104) rfl (hb hby own_d_jdk_33_method_12_code_88) rfl (flt (fun q => h9 ((own_lt hq 9 (by decide)).mp q))).2.1 (by decide) (by decide) kg_) ?_
          show own_Gl p e below _ (T4.setTop (mkF m 104 #[.val (.int qq), .val (.int (Int32.ofNat dn)), .val (.ref d), z3, z4, .val (.int (Int32.ofNat (pp - 1))), .val (.int (0 : Int32))] []))
          refine own_st (fun tg_ kg_ => XS.iload X4.here hx rfl (hb hby own_d_jdk_33_method_12_code_104) rfl kg_) ?_
          show own_Gl p e below _ (T4.setTop (mkF m 106 #[.val (.int qq), .val (.int (Int32.ofNat dn)), .val (.ref d), z3, z4, .val (.int (Int32.ofNat (pp - 1))), .val (.int (0 : Int32))] [(.int (0 : Int32))]))
          refine own_st (fun tg_ kg_ => XS.ifYes X4.here hx rfl (pc0 := 106) (pc' := 118) rfl (hb hby own_d_jdk_33_method_12_code_106) rfl ((if0 _ _).trans (teq ((rfl : (0 : Int32) = (0 : Int32)))).1) (by decide) (by decide) kg_) ?_
          show own_Gl p e below _ (T4.setTop (mkF m 118 #[.val (.int qq), .val (.int (Int32.ofNat dn)), .val (.ref d), z3, z4, .val (.int (Int32.ofNat (pp - 1))), .val (.int (0 : Int32))] []))
          refine own_st (fun tg_ kg_ => XS.iload X4.here hx rfl (hb hby own_d_jdk_33_method_12_code_118) rfl kg_) ?_
          show own_Gl p e below _ (T4.setTop (mkF m 120 #[.val (.int qq), .val (.int (Int32.ofNat dn)), .val (.ref d), z3, z4, .val (.int (Int32.ofNat (pp - 1))), .val (.int (0 : Int32))] [(.int (Int32.ofNat (pp - 1)))]))
          exact own_retI X4 hx Bd.notSynchronized Bd.returns (hb hby own_d_jdk_33_method_12_code_120) (by decide) (by decide) e4 (⟨⟨_, rfl⟩, N4, K5, _, by simp [hP], own_inv1 hP (by omega) (by omega) inv (fun e => by subst e; rfl), V_d⟩)
      ·
        obtain ⟨hstep, h3⟩ := own_D_step hD' hk
        have hrr : (((qq / (100 : Int32)) * (100 : Int32)) - qq) = Int32.ofNat (kk % 100).toNat := own_toofn (by omega) (by rw [own_rem100 hq (by omega)]; omega)
        have hfb : fits .byte (.int (K2.getD (kk % 100).toNat 0)) = true := by
          obtain ⟨cc, Ac, -, Sc, Nc, Hc, Gc⟩ := id V_2
          have q := Gc (kk % 100).toNat (by rw [Sc]; show _ < 100; omega)
          rwa [own_getm] at q
        show own_Gl p e below _ (T.setTop (mkF m 25 #[.val (.int qq), .val (.int (Int32.ofNat dn)), .val (.ref d), z3, z4, .val (.int (Int32.ofNat pp)), .val (.int (0 : Int32))] [(.int (-100 : Int32)), (.int qq)]))
        refine own_st (fun tg_ kg_ => XS.icmpNo Xl.here hx rfl (hb hby own_d_jdk_33_method_12_code_25) rfl (flt (fun q => hk ((own_gt hq 100 (by decide)).mp q))).2.2.1 kg_) ?_
        show own_Gl p e below _ (T.setTop (mkF m 28 #[.val (.int qq), .val (.int (Int32.ofNat dn)), .val (.ref d), z3, z4, .val (.int (Int32.ofNat pp)), .val (.int (0 : Int32))] []))
        refine own_st (fun tg_ kg_ => XS.iloadN Xl.here hx rfl (hb hby own_d_jdk_33_method_12_code_28) rfl kg_) ?_
        show own_Gl p e below _ (T.setTop (mkF m 29 #[.val (.int qq), .val (.int (Int32.ofNat dn)), .val (.ref d), z3, z4, .val (.int (Int32.ofNat pp)), .val (.int (0 : Int32))] [(.int qq)]))
        refine own_st (fun tg_ kg_ => XS.bipush Xl.here hx rfl (hb hby own_d_jdk_33_method_12_code_29) kg_) ?_
        show own_Gl p e below _ (T.setTop (mkF m 31 #[.val (.int qq), .val (.int (Int32.ofNat dn)), .val (.ref d), z3, z4, .val (.int (Int32.ofNat pp)), .val (.int (0 : Int32))] [(.int (100 : Int32)), (.int qq)]))
        refine own_st (fun tg_ kg_ => XS.idiv Xl.here hx rfl (hb hby own_d_jdk_33_method_12_code_31) rfl (by decide) kg_) ?_
        show own_Gl p e below _ (T.setTop (mkF m 32 #[.val (.int qq), .val (.int (Int32.ofNat dn)), .val (.ref d), z3, z4, .val (.int (Int32.ofNat pp)), .val (.int (0 : Int32))] [(.int (qq / (100 : Int32)))]))
        refine own_st (fun tg_ kg_ => XS.istoreNS Xl.here hx rfl (hb hby own_d_jdk_33_method_12_code_32) rfl rfl hz3 kg_) ?_
        show own_Gl p e below _ (T.setTop (mkF m 33 #[.val (.int qq), .val (.int (Int32.ofNat dn)), .val (.ref d), .val (.int (qq / (100 : Int32))), z4, .val (.int (Int32.ofNat pp)), .val (.int (0 : Int32))] []))
        refine own_st (fun tg_ kg_ => XS.iloadN Xl.here hx rfl (hb hby own_d_jdk_33_method_12_code_33) rfl kg_) ?_
        show own_Gl p e below _ (T.setTop (mkF m 34 #[.val (.int qq), .val (.int (Int32.ofNat dn)), .val (.ref d), .val (.int (qq / (100 : Int32))), z4, .val (.int (Int32.ofNat pp)), .val (.int (0 : Int32))] [(.int (qq / (100 : Int32)))]))
        refine own_st (fun tg_ kg_ => XS.bipush Xl.here hx rfl (hb hby own_d_jdk_33_method_12_code_34) kg_) ?_
        show own_Gl p e below _ (T.setTop (mkF m 36 #[.val (.int qq), .val (.int (Int32.ofNat dn)), .val (.ref d), .val (.int (qq / (100 : Int32))), z4, .val (.int (Int32.ofNat pp)), .val (.int (0 : Int32))] [(.int (100 : Int32)), (.int (qq / (100 : Int32)))]))
        refine own_st (fun tg_ kg_ => XS.imul Xl.here hx rfl (hb hby own_d_jdk_33_method_12_code_36) rfl kg_) ?_
        show own_Gl p e below _ (T.setTop (mkF m 37 #[.val (.int qq), .val (.int (Int32.ofNat dn)), .val (.ref d), .val (.int (qq / (100 : Int32))), z4, .val (.int (Int32.ofNat pp)), .val (.int (0 : Int32))] [(.int ((qq / (100 : Int32)) * (100 : Int32)))]))
        refine own_st (fun tg_ kg_ => XS.iloadN Xl.here hx rfl (hb hby own_d_jdk_33_method_12_code_37) rfl kg_) ?_
        show own_Gl p e below _ (T.setTop (mkF m 38 #[.val (.int qq), .val (.int (Int32.ofNat dn)), .val (.ref d), .val (.int (qq / (100 : Int32))), z4, .val (.int (Int32.ofNat pp)), .val (.int (0 : Int32))] [(.int qq), (.int ((qq / (100 : Int32)) * (100 : Int32)))]))
        refine own_st (fun tg_ kg_ => XS.isub Xl.here hx rfl (hb hby own_d_jdk_33_method_12_code_38) rfl kg_) ?_
        show own_Gl p e below _ (T.setTop (mkF m 39 #[.val (.int qq), .val (.int (Int32.ofNat dn)), .val (.ref d), .val (.int (qq / (100 : Int32))), z4, .val (.int (Int32.ofNat pp)), .val (.int (0 : Int32))] [(.int (((qq / (100 : Int32)) * (100 : Int32)) - qq))]))
        refine own_st (fun tg_ kg_ => XS.istoreS Xl.here hx rfl (hb hby own_d_jdk_33_method_12_code_39) rfl rfl hz4 kg_) ?_
        show own_Gl p e below _ (T.setTop (mkF m 41 #[.val (.int qq), .val (.int (Int32.ofNat dn)), .val (.ref d), .val (.int (qq / (100 : Int32))), .val (.int (((qq / (100 : Int32)) * (100 : Int32)) - qq)), .val (.int (Int32.ofNat pp)), .val (.int (0 : Int32))] []))
        refine own_st (fun tg_ kg_ => XS.iloadN Xl.here hx rfl (hb hby own_d_jdk_33_method_12_code_41) rfl kg_) ?_
        show own_Gl p e below _ (T.setTop (mkF m 42 #[.val (.int qq), .val (.int (Int32.ofNat dn)), .val (.ref d), .val (.int (qq / (100 : Int32))), .val (.int (((qq / (100 : Int32)) * (100 : Int32)) - qq)), .val (.int (Int32.ofNat pp)), .val (.int (0 : Int32))] [(.int (qq / (100 : Int32)))]))
        refine own_st (fun tg_ kg_ => XS.istoreN Xl.here hx rfl (hb hby own_d_jdk_33_method_12_code_42) rfl (l' := #[.val (.int (qq / (100 : Int32))), .val (.int (Int32.ofNat dn)), .val (.ref d), .val (.int (qq / (100 : Int32))), .val (.int (((qq / (100 : Int32)) * (100 : Int32)) - qq)), .val (.int (Int32.ofNat pp)), .val (.int (0 : Int32))]) rfl kg_) ?_
        show own_Gl p e below _ (T.setTop (mkF m 43 #[.val (.int (qq / (100 : Int32))), .val (.int (Int32.ofNat dn)), .val (.ref d), .val (.int (qq / (100 : Int32))), .val (.int (((qq / (100 : Int32)) * (100 : Int32)) - qq)), .val (.int (Int32.ofNat pp)), .val (.int (0 : Int32))] []))
        refine own_st (fun tg_ kg_ => XS.aloadN Xl.here hx rfl (hb hby own_d_jdk_33_method_12_code_43) rfl rfl kg_) ?_
        show own_Gl p e below _ (T.setTop (mkF m 44 #[.val (.int (qq / (100 : Int32))), .val (.int (Int32.ofNat dn)), .val (.ref d), .val (.int (qq / (100 : Int32))), .val (.int (((qq / (100 : Int32)) * (100 : Int32)) - qq)), .val (.int (Int32.ofNat pp)), .val (.int (0 : Int32))] [(.ref d)]))
        refine own_st (fun tg_ kg_ => XS.iinc Xl.here hx rfl (hb hby own_d_jdk_33_method_12_code_44) rfl (l' := #[.val (.int (qq / (100 : Int32))), .val (.int (Int32.ofNat dn)), .val (.ref d), .val (.int (qq / (100 : Int32))), .val (.int (((qq / (100 : Int32)) * (100 : Int32)) - qq)), .val (.int ((Int32.ofNat pp) + (-1 : Int32))), .val (.int (0 : Int32))]) rfl kg_) ?_
        show own_Gl p e below _ (T.setTop (mkF m 47 #[.val (.int (qq / (100 : Int32))), .val (.int (Int32.ofNat dn)), .val (.ref d), .val (.int (qq / (100 : Int32))), .val (.int (((qq / (100 : Int32)) * (100 : Int32)) - qq)), .val (.int ((Int32.ofNat pp) + (-1 : Int32))), .val (.int (0 : Int32))] [(.ref d)]))
        rw [own_pred (show 1 ≤ pp by omega) (by omega)]
        show own_Gl p e below _ (T.setTop (mkF m 47 #[.val (.int (qq / (100 : Int32))), .val (.int (Int32.ofNat dn)), .val (.ref d), .val (.int (qq / (100 : Int32))), .val (.int (((qq / (100 : Int32)) * (100 : Int32)) - qq)), .val (.int (Int32.ofNat (pp - 1))), .val (.int (0 : Int32))] [(.ref d)]))
        refine own_st (fun tg_ kg_ => XS.iload Xl.here hx rfl (hb hby own_d_jdk_33_method_12_code_47) rfl kg_) ?_
        show own_Gl p e below _ (T.setTop (mkF m 49 #[.val (.int (qq / (100 : Int32))), .val (.int (Int32.ofNat dn)), .val (.ref d), .val (.int (qq / (100 : Int32))), .val (.int (((qq / (100 : Int32)) * (100 : Int32)) - qq)), .val (.int (Int32.ofNat (pp - 1))), .val (.int (0 : Int32))] [(.int (Int32.ofNat (pp - 1))), (.ref d)]))
        obtain ⟨T11, X11, e11, st11⟩ := getS2 Xl hx hZ hown (host := "") (Or.inl (hw _ (List.mem_of_getElem? (i := 86) rfl))) Via.refl el (own_sta_keep S_1 Kl (nsS ns_d ns0)) (g := (mkF m 49 #[.val (.int (qq / (100 : Int32))), .val (.int (Int32.ofNat dn)), .val (.ref d), .val (.int (qq / (100 : Int32))), .val (.int (((qq / (100 : Int32)) * (100 : Int32)) - qq)), .val (.int (Int32.ofNat (pp - 1))), .val (.int (0 : Int32))] [(.int (Int32.ofNat (pp - 1))), (.ref d)])) rfl (hb hby own_d_jdk_33_method_12_code_49)
        refine own_st st11 ?_
        try clear st11
        try clear el
        try clear Xl
        try clear T
        show own_Gl p e below _ (T11.setTop (mkF m 52 #[.val (.int (qq / (100 : Int32))), .val (.int (Int32.ofNat dn)), .val (.ref d), .val (.int (qq / (100 : Int32))), .val (.int (((qq / (100 : Int32)) * (100 : Int32)) - qq)), .val (.int (Int32.ofNat (pp - 1))), .val (.int (0 : Int32))] [(.ref o1), (.int (Int32.ofNat (pp - 1))), (.ref d)]))
        refine own_st (fun tg_ kg_ => XS.iload X11.here hx rfl (hb hby own_d_jdk_33_method_12_code_52) rfl kg_) ?_
        show own_Gl p e below _ (T11.setTop (mkF m 54 #[.val (.int (qq / (100 : Int32))), .val (.int (Int32.ofNat dn)), .val (.ref d), .val (.int (qq / (100 : Int32))), .val (.int (((qq / (100 : Int32)) * (100 : Int32)) - qq)), .val (.int (Int32.ofNat (pp - 1))), .val (.int (0 : Int32))] [(.int (((qq / (100 : Int32)) * (100 : Int32)) - qq)), (.ref o1), (.int (Int32.ofNat (pp - 1))), (.ref d)]))
        obtain ⟨cl12, Ar12, qa12, Sa12, Na12, Ha12, Ga12⟩ := id (V_1.keep Kl (ninS ne_o1_d nin0))
        have hin13 : ¬ ((((qq / (100 : Int32)) * (100 : Int32)) - qq) < 0 ∨ cl12.slots.size ≤ ((((qq / (100 : Int32)) * (100 : Int32)) - qq)).toNatClampNeg) := inb_of Sa12 (by rw [hrr]; exact ⟨own_ofn_nn (by omega), (own_ofn_lt (b := 100) (by omega) (by decide)).mpr (by omega)⟩)
        have hat13 : cl12.slots[((((qq / (100 : Int32)) * (100 : Int32)) - qq)).toNatClampNeg]? = some (.int (Int32.ofNat (48 + (kk % 100).toNat % 10))) := Has.at Ha12 hin13 (by rw [hrr, own_ofn_clamp (by omega)]; exact own_ones_at (by omega))
        refine own_st (fun tg_ kg_ => X11.baloadBytes hx (j := (((qq / (100 : Int32)) * (100 : Int32)) - qq)) (v := (.int (Int32.ofNat (48 + (kk % 100).toNat % 10)))) (by rw [e11]; exact Ar12.1) (State.isArrayOf_alike hZ.alike Ar12.2.1) Ar12.2.2 hin13 hat13 (g := (mkF m 54 #[.val (.int (qq / (100 : Int32))), .val (.int (Int32.ofNat dn)), .val (.ref d), .val (.int (qq / (100 : Int32))), .val (.int (((qq / (100 : Int32)) * (100 : Int32)) - qq)), .val (.int (Int32.ofNat (pp - 1))), .val (.int (0 : Int32))] [(.int (((qq / (100 : Int32)) * (100 : Int32)) - qq)), (.ref o1), (.int (Int32.ofNat (pp - 1))), (.ref d)])) rfl rfl (hb hby own_d_jdk_33_method_12_code_54) _ kg_) ?_
        show own_Gl p e below _ (T11.setTop (mkF m 55 #[.val (.int (qq / (100 : Int32))), .val (.int (Int32.ofNat dn)), .val (.ref d), .val (.int (qq / (100 : Int32))), .val (.int (((qq / (100 : Int32)) * (100 : Int32)) - qq)), .val (.int (Int32.ofNat (pp - 1))), .val (.int (0 : Int32))] [(.int (Int32.ofNat (48 + (kk % 100).toNat % 10))), (.int (Int32.ofNat (pp - 1))), (.ref d)]))
        obtain ⟨cl14, Ar14, qa14, Sa14, Na14, Ha14, Ga14⟩ := id V_d
        have hj14 : (Int32.ofNat (pp - 1)) = Int32.ofNat (pp - 1) := rfl
        have hin14 : ¬ ((Int32.ofNat (pp - 1)) < 0 ∨ cl14.slots.size ≤ ((Int32.ofNat (pp - 1))).toNatClampNeg) := by rw [hj14]; exact inb_of Sa14 ⟨own_ofn_nn (by omega), (own_ofn_lt (b := 16) (by omega) (by decide)).mpr (by omega)⟩
        obtain ⟨T14, h14, X14, e14, W14, st14⟩ := stB X11 hx hZ e11 Ar14 (j := (Int32.ofNat (pp - 1))) hin14 (g := (mkF m 55 #[.val (.int (qq / (100 : Int32))), .val (.int (Int32.ofNat dn)), .val (.ref d), .val (.int (qq / (100 : Int32))), .val (.int (((qq / (100 : Int32)) * (100 : Int32)) - qq)), .val (.int (Int32.ofNat (pp - 1))), .val (.int (0 : Int32))] [(.int (Int32.ofNat (48 + (kk % 100).toNat % 10))), (.int (Int32.ofNat (pp - 1))), (.ref d)])) rfl rfl (hb hby own_d_jdk_33_method_12_code_55)
        rw [own_nb10] at W14
        have N14 := Fr.snoc X14 Nl g_d
        try clear Nl
        have K15 : Keep h0 h14 [d] := Kl.wr W14 (Or.inl (List.mem_of_getElem? (i := 0) rfl))
        try clear Kl
        replace V_d := Arv.set Ar14 qa14 Sa14 Na14 Ha14 Ga14 (own_fb10 _) W14 (pp - 1) (by rw [hj14]; exact own_ofn_clamp (by omega)) (by rw [hP]; omega)
        try clear Ga14
        try clear Ha14
        try clear Na14
        try clear Sa14
        try clear qa14
        try clear W14
        try clear hin14
        try clear Ar14
        try clear cl14
        try clear hj14
        refine own_st st14 ?_
        try clear st14
        try clear e11
        try clear X11
        try clear T11
        show own_Gl p e below _ (T14.setTop (mkF m 56 #[.val (.int (qq / (100 : Int32))), .val (.int (Int32.ofNat dn)), .val (.ref d), .val (.int (qq / (100 : Int32))), .val (.int (((qq / (100 : Int32)) * (100 : Int32)) - qq)), .val (.int (Int32.ofNat (pp - 1))), .val (.int (0 : Int32))] []))
        refine own_st (fun tg_ kg_ => XS.aloadN X14.here hx rfl (hb hby own_d_jdk_33_method_12_code_56) rfl rfl kg_) ?_
        show own_Gl p e below _ (T14.setTop (mkF m 57 #[.val (.int (qq / (100 : Int32))), .val (.int (Int32.ofNat dn)), .val (.ref d), .val (.int (qq / (100 : Int32))), .val (.int (((qq / (100 : Int32)) * (100 : Int32)) - qq)), .val (.int (Int32.ofNat (pp - 1))), .val (.int (0 : Int32))] [(.ref d)]))
        refine own_st (fun tg_ kg_ => XS.iinc X14.here hx rfl (hb hby own_d_jdk_33_method_12_code_57) rfl (l' := #[.val (.int (qq / (100 : Int32))), .val (.int (Int32.ofNat dn)), .val (.ref d), .val (.int (qq / (100 : Int32))), .val (.int (((qq / (100 : Int32)) * (100 : Int32)) - qq)), .val (.int ((Int32.ofNat (pp - 1)) + (-1 : Int32))), .val (.int (0 : Int32))]) rfl kg_) ?_
        show own_Gl p e below _ (T14.setTop (mkF m 60 #[.val (.int (qq / (100 : Int32))), .val (.int (Int32.ofNat dn)), .val (.ref d), .val (.int (qq / (100 : Int32))), .val (.int (((qq / (100 : Int32)) * (100 : Int32)) - qq)), .val (.int ((Int32.ofNat (pp - 1)) + (-1 : Int32))), .val (.int (0 : Int32))] [(.ref d)]))
        rw [own_pred (show 1 ≤ pp - 1 by omega) (by omega)]
        show own_Gl p e below _ (T14.setTop (mkF m 60 #[.val (.int (qq / (100 : Int32))), .val (.int (Int32.ofNat dn)), .val (.ref d), .val (.int (qq / (100 : Int32))), .val (.int (((qq / (100 : Int32)) * (100 : Int32)) - qq)), .val (.int (Int32.ofNat (pp - 1 - 1))), .val (.int (0 : Int32))] [(.ref d)]))
        refine own_st (fun tg_ kg_ => XS.iload X14.here hx rfl (hb hby own_d_jdk_33_method_12_code_60) rfl kg_) ?_
        show own_Gl p e below _ (T14.setTop (mkF m 62 #[.val (.int (qq / (100 : Int32))), .val (.int (Int32.ofNat dn)), .val (.ref d), .val (.int (qq / (100 : Int32))), .val (.int (((qq / (100 : Int32)) * (100 : Int32)) - qq)), .val (.int (Int32.ofNat (pp - 1 - 1))), .val (.int (0 : Int32))] [(.int (Int32.ofNat (pp - 1 - 1))), (.ref d)]))
        obtain ⟨T16, X16, e16, st16⟩ := getS2 X14 hx hZ hown (host := "") (Or.inl (hw _ (List.mem_of_getElem? (i := 216) rfl))) Via.refl e14 (own_sta_keep S_2 K15 (nsS ns_d ns0)) (g := (mkF m 62 #[.val (.int (qq / (100 : Int32))), .val (.int (Int32.ofNat dn)), .val (.ref d), .val (.int (qq / (100 : Int32))), .val (.int (((qq / (100 : Int32)) * (100 : Int32)) - qq)), .val (.int (Int32.ofNat (pp - 1 - 1))), .val (.int (0 : Int32))] [(.int (Int32.ofNat (pp - 1 - 1))), (.ref d)])) rfl (hb hby own_d_jdk_33_method_12_code_62)
        refine own_st st16 ?_
        try clear st16
        try clear e14
        try clear X14
        try clear T14
        show own_Gl p e below _ (T16.setTop (mkF m 65 #[.val (.int (qq / (100 : Int32))), .val (.int (Int32.ofNat dn)), .val (.ref d), .val (.int (qq / (100 : Int32))), .val (.int (((qq / (100 : Int32)) * (100 : Int32)) - qq)), .val (.int (Int32.ofNat (pp - 1 - 1))), .val (.int (0 : Int32))] [(.ref o2), (.int (Int32.ofNat (pp - 1 - 1))), (.ref d)]))
        refine own_st (fun tg_ kg_ => XS.iload X16.here hx rfl (hb hby own_d_jdk_33_method_12_code_65) rfl kg_) ?_
        show own_Gl p e below _ (T16.setTop (mkF m 67 #[.val (.int (qq / (100 : Int32))), .val (.int (Int32.ofNat dn)), .val (.ref d), .val (.int (qq / (100 : Int32))), .val (.int (((qq / (100 : Int32)) * (100 : Int32)) - qq)), .val (.int (Int32.ofNat (pp - 1 - 1))), .val (.int (0 : Int32))] [(.int (((qq / (100 : Int32)) * (100 : Int32)) - qq)), (.ref o2), (.int (Int32.ofNat (pp - 1 - 1))), (.ref d)]))
        obtain ⟨cl17, Ar17, qa17, Sa17, Na17, Ha17, Ga17⟩ := id (V_2.keep K15 (ninS ne_o2_d nin0))
        have hin18 : ¬ ((((qq / (100 : Int32)) * (100 : Int32)) - qq) < 0 ∨ cl17.slots.size ≤ ((((qq / (100 : Int32)) * (100 : Int32)) - qq)).toNatClampNeg) := inb_of Sa17 (by rw [hrr]; exact ⟨own_ofn_nn (by omega), (own_ofn_lt (b := 100) (by omega) (by decide)).mpr (by omega)⟩)
        have hat18 : cl17.slots[((((qq / (100 : Int32)) * (100 : Int32)) - qq)).toNatClampNeg]? = some (.int (K2.getD (kk % 100).toNat 0)) := Has.at Ha17 hin18 (by rw [hrr, own_ofn_clamp (by omega)]; exact own_getm K2 _)
        refine own_st (fun tg_ kg_ => X16.baloadBytes hx (j := (((qq / (100 : Int32)) * (100 : Int32)) - qq)) (v := (.int (K2.getD (kk % 100).toNat 0))) (by rw [e16]; exact Ar17.1) (State.isArrayOf_alike hZ.alike Ar17.2.1) Ar17.2.2 hin18 hat18 (g := (mkF m 67 #[.val (.int (qq / (100 : Int32))), .val (.int (Int32.ofNat dn)), .val (.ref d), .val (.int (qq / (100 : Int32))), .val (.int (((qq / (100 : Int32)) * (100 : Int32)) - qq)), .val (.int (Int32.ofNat (pp - 1 - 1))), .val (.int (0 : Int32))] [(.int (((qq / (100 : Int32)) * (100 : Int32)) - qq)), (.ref o2), (.int (Int32.ofNat (pp - 1 - 1))), (.ref d)])) rfl rfl (hb hby own_d_jdk_33_method_12_code_67) _ kg_) ?_
        show own_Gl p e below _ (T16.setTop (mkF m 68 #[.val (.int (qq / (100 : Int32))), .val (.int (Int32.ofNat dn)), .val (.ref d), .val (.int (qq / (100 : Int32))), .val (.int (((qq / (100 : Int32)) * (100 : Int32)) - qq)), .val (.int (Int32.ofNat (pp - 1 - 1))), .val (.int (0 : Int32))] [(.int (K2.getD (kk % 100).toNat 0)), (.int (Int32.ofNat (pp - 1 - 1))), (.ref d)]))
        obtain ⟨cl19, Ar19, qa19, Sa19, Na19, Ha19, Ga19⟩ := id V_d
        have hj19 : (Int32.ofNat (pp - 1 - 1)) = Int32.ofNat (pp - 1 - 1) := rfl
        have hin19 : ¬ ((Int32.ofNat (pp - 1 - 1)) < 0 ∨ cl19.slots.size ≤ ((Int32.ofNat (pp - 1 - 1))).toNatClampNeg) := by rw [hj19]; exact inb_of Sa19 ⟨own_ofn_nn (by omega), (own_ofn_lt (b := 16) (by omega) (by decide)).mpr (by omega)⟩
        obtain ⟨T19, h19, X19, e19, W19, st19⟩ := stB X16 hx hZ e16 Ar19 (j := (Int32.ofNat (pp - 1 - 1))) hin19 (g := (mkF m 68 #[.val (.int (qq / (100 : Int32))), .val (.int (Int32.ofNat dn)), .val (.ref d), .val (.int (qq / (100 : Int32))), .val (.int (((qq / (100 : Int32)) * (100 : Int32)) - qq)), .val (.int (Int32.ofNat (pp - 1 - 1))), .val (.int (0 : Int32))] [(.int (K2.getD (kk % 100).toNat 0)), (.int (Int32.ofNat (pp - 1 - 1))), (.ref d)])) rfl rfl (hb hby own_d_jdk_33_method_12_code_68)
        rw [own_narb hfb] at W19
        have N19 := Fr.snoc X19 N14 g_d
        try clear N14
        have K20 : Keep h0 h19 [d] := K15.wr W19 (Or.inl (List.mem_of_getElem? (i := 0) rfl))
        try clear K15
        replace V_d := Arv.set Ar19 qa19 Sa19 Na19 Ha19 Ga19 hfb W19 (pp - 1 - 1) (by rw [hj19]; exact own_ofn_clamp (by omega)) (by rw [List.length_set, hP]; omega)
        try clear Ga19
        try clear Ha19
        try clear Na19
        try clear Sa19
        try clear qa19
        try clear W19
        try clear hin19
        try clear Ar19
        try clear cl19
        try clear hj19
        refine own_st st19 ?_
        try clear st19
        try clear e16
        try clear X16
        try clear T16
        show own_Gl p e below _ (T19.setTop (mkF m 69 #[.val (.int (qq / (100 : Int32))), .val (.int (Int32.ofNat dn)), .val (.ref d), .val (.int (qq / (100 : Int32))), .val (.int (((qq / (100 : Int32)) * (100 : Int32)) - qq)), .val (.int (Int32.ofNat (pp - 1 - 1))), .val (.int (0 : Int32))] []))
        refine own_st (fun tg_ kg_ => XS.goto X19.here hx rfl (pc0 := 69) (pc' := 22) rfl (hb hby own_d_jdk_33_method_12_code_69) (by decide) (by decide) kg_) ?_
        show own_Gl p e below _ (T19.setTop (mkF m 22 #[.val (.int (qq / (100 : Int32))), .val (.int (Int32.ofNat dn)), .val (.ref d), .val (.int (qq / (100 : Int32))), .val (.int (((qq / (100 : Int32)) * (100 : Int32)) - qq)), .val (.int (Int32.ofNat (pp - 1 - 1))), .val (.int (0 : Int32))] []))
        exact ih (pp - 1 - 1) (kk / 100) (qq / (100 : Int32)) _ (by omega) (own_div100 hq (by omega)) hstep (Or.inr ⟨by omega, own_inv2 hP (by omega) (by omega) inv (fun e => by subst e; unfold own_dg; congr 3; omega)⟩) (by simp [hP]) _ _ _ _ _ X19 e19 N19 K20 V_d (One.val rfl) (One.val rfl)
  exact loop dn dn sv.toInt _ P (Nat.le_refl _) (own_neg hone) hD (Or.inl ⟨rfl, rfl⟩) hP _ _ _ _ _ X0 e0 N0 K0 V_d One.u One.u
theorem own_pn2 : plainName "java/lang/AbstractStringBuilder" = true := by first | (simp [plainName, overriddenIn]; done) | decide +kernel
theorem own_d_jdk_68_method_9_code_0 : decode jdk_68_method_9_code 0 = .ok (.aload_n 0, 1) := by decide +kernel
theorem own_d_jdk_68_method_9_code_1 : decode jdk_68_method_9_code 1 = .ok (.getfield 15, 3) := by decide +kernel
theorem own_d_jdk_68_method_9_code_4 : decode jdk_68_method_9_code 4 = .ok (.arraylength, 1) := by decide +kernel
theorem own_d_jdk_68_method_9_code_5 : decode jdk_68_method_9_code 5 = .ok (.aload_n 0, 1) := by decide +kernel
theorem own_d_jdk_68_method_9_code_6 : decode jdk_68_method_9_code 6 = .ok (.getfield 22, 3) := by decide +kernel
theorem own_d_jdk_68_method_9_code_9 : decode jdk_68_method_9_code 9 = .ok (.ishr, 1) := by decide +kernel
theorem own_d_jdk_68_method_9_code_10 : decode jdk_68_method_9_code 10 = .ok (.istore_n 2, 1) := by decide +kernel
theorem own_d_jdk_68_method_9_code_11 : decode jdk_68_method_9_code 11 = .ok (.iload_n 1, 1) := by decide +kernel
theorem own_d_jdk_68_method_9_code_12 : decode jdk_68_method_9_code 12 = .ok (.iload_n 2, 1) := by decide +kernel
theorem own_d_jdk_68_method_9_code_13 : decode jdk_68_method_9_code 13 = .ok (.isub, 1) := by decide +kernel
theorem own_d_jdk_68_method_9_code_14 : decode jdk_68_method_9_code 14 = .ok (.ifCond .le 24, 3) := by decide +kernel
theorem own_d_jdk_68_method_9_code_38 : decode jdk_68_method_9_code 38 = .ok (.return_, 1) := by decide +kernel
theorem own_ef_ec0 (m : MethodId) (x0 : Addr) (x1 : Int32) : entryFrame m #[(.ref x0), (.int x1)] 3 = mkF m 0 #[.val (.ref x0), .val (.int x1), .unset] [] := by first | (simp [entryFrame, mkF, argsToLocals, Value.category]; done) | rfl
def own_Q_ec0 (Z : State) (b d : Addr) (kd : ClassId) (mm : Nat) (P : List Value) (h0 : Heap) (n0 : Nat) (v : Option Value) (h : Heap) (L : List Loc) : Prop := v = none ∧ Fr n0 L ∧ h = h0
set_option maxRecDepth 65536 in
set_option maxHeartbeats 40000000 in
theorem own_rm_ec0 (l : Launch) (Z : State) (a0 : Array Value) (hw : ∀ d ∈ tables_1, d.before a0 Z = true) (ws : List Jvm.Cond) (b d : Addr) (kd : ClassId) (mm : Nat) (P : List Value) (h0 : Heap) (n0 : Nat) (Z0 : n0 ≤ h0.size) (E_b : Exa Z h0 b "java/lang/StringBuilder")(F_v : Fld Z h0 b "java/lang/AbstractStringBuilder" "value" "[B" (.ref d))(F_c : Fld Z h0 b "java/lang/AbstractStringBuilder" "coder" "B" (.int 0))(V_d : Arv Z h0 d kd .byte (16 : Int32) P (.int 0)) (hm : mm ≤ 16) :
    MetFree l (⟨"java/lang/AbstractStringBuilder", "ensureCapacityInternal", "(I)V"⟩ : MethodName) (head1 (Jvm.Cond.code (⟨"java/lang/AbstractStringBuilder", "ensureCapacityInternal", "(I)V"⟩ : MethodName) jdk_68_method_9_code 3 none :: ws) ({ frames := 0, cells := 0, slots := 0, locals := 0 } : Room)) (fun aa UU => aa = #[(.ref b), (.int (Int32.ofNat mm))] ∧ Z.Warmed39 UU.vm ∧ UU.heap = h0) (fun _ _ _ _ _ => True) (fun _ UU oo UU' => ∃ vv LL, oo = .returned vv ∧ own_Q_ec0 Z b d kd mm P h0 n0 vv UU'.heap LL ∧ FrameEnd UU oo UU' LL ({ frames := 0, cells := 0, slots := 0, locals := 0 } : Room).cells ({ frames := 0, cells := 0, slots := 0, locals := 0 } : Room).slots) := by
  refine MetFree.of_bodySF (plainFor_of_name own_pn2) hisR ?_
  intro p e s m args below meth c s₁ Bd hml0 hP hK
  obtain ⟨rfl, hZ, hh⟩ := hP
  have hx := Bd.exec
  have hby := Bd.bytes
  have hml : c.maxLocals = 3 := hml0
  have hown : s.vm.findClass "java/lang/AbstractStringBuilder" = some m.cls := findClass_of_methodNamed Bd.named
  have hnm := (name_of_methodNamed Bd.named Bd.method).1
  have X0 : Stand p l e ({ frames := 0, cells := 0, slots := 0, locals := 0 } : Room) s m #[(.ref b), (.int (Int32.ofNat mm))] below meth c s₁ [] 0 0 := Stand.of_body Bd
  have e0 : s₁.heap = h0 := by rw [← hh, Bd.state]; rfl
  have N0 := Fr.nil n0
  show own_Gl p e below (own_Post s (own_Q_ec0 Z b d kd mm P h0 n0) ({ frames := 0, cells := 0, slots := 0, locals := 0 } : Room).cells ({ frames := 0, cells := 0, slots := 0, locals := 0 } : Room).slots) _
  refine own_st (fun tg_ kg_ => castTop (own_ef_ec0 m b (Int32.ofNat mm)) kg_) ?_
  show own_Gl p e below _ (s₁.setTop (mkF m 0 #[.val (.ref b), .val (.int (Int32.ofNat mm)), .unset] []))
  refine own_st (fun tg_ kg_ => XS.aloadN X0.here hx rfl (hb hby own_d_jdk_68_method_9_code_0) rfl rfl kg_) ?_
  show own_Gl p e below _ (s₁.setTop (mkF m 1 #[.val (.ref b), .val (.int (Int32.ofNat mm)), .unset] [(.ref b)]))
  obtain ⟨T1, X1, e1, st1⟩ := getF X0 hx hZ hown (host := "") (Or.inl (hw _ (List.mem_of_getElem? (i := 53) rfl))) Via.refl e0 F_v (g := (mkF m 1 #[.val (.ref b), .val (.int (Int32.ofNat mm)), .unset] [(.ref b)])) rfl rfl (hb hby own_d_jdk_68_method_9_code_1)
  refine own_st st1 ?_
  try clear st1
  show own_Gl p e below _ (T1.setTop (mkF m 4 #[.val (.ref b), .val (.int (Int32.ofNat mm)), .unset] [(.ref d)]))
  obtain ⟨cl2, Ar2, qa2, Sa2, Na2, Ha2, Ga2⟩ := id V_d
  refine own_st (fun tg_ kg_ => X1.arraylength hx (by rw [e1]; exact Ar2.1) (State.isArrayOf_alike hZ.alike Ar2.2.1) (g := (mkF m 4 #[.val (.ref b), .val (.int (Int32.ofNat mm)), .unset] [(.ref d)])) rfl rfl (hb hby own_d_jdk_68_method_9_code_4) _ kg_) ?_
  rw [len_of Sa2 Na2]
  show own_Gl p e below _ (T1.setTop (mkF m 5 #[.val (.ref b), .val (.int (Int32.ofNat mm)), .unset] [(.int (16 : Int32))]))
  refine own_st (fun tg_ kg_ => XS.aloadN X1.here hx rfl (hb hby own_d_jdk_68_method_9_code_5) rfl rfl kg_) ?_
  show own_Gl p e below _ (T1.setTop (mkF m 6 #[.val (.ref b), .val (.int (Int32.ofNat mm)), .unset] [(.ref b), (.int (16 : Int32))]))
  obtain ⟨T3, X3, e3, st3⟩ := getF X1 hx hZ hown (host := "") (Or.inl (hw _ (List.mem_of_getElem? (i := 55) rfl))) Via.refl e1 F_c (g := (mkF m 6 #[.val (.ref b), .val (.int (Int32.ofNat mm)), .unset] [(.ref b), (.int (16 : Int32))])) rfl rfl (hb hby own_d_jdk_68_method_9_code_6)
  refine own_st st3 ?_
  try clear st3
  try clear e1
  try clear X1
  try clear T1
  show own_Gl p e below _ (T3.setTop (mkF m 9 #[.val (.ref b), .val (.int (Int32.ofNat mm)), .unset] [(.int (0 : Int32)), (.int (16 : Int32))]))
  refine own_st (fun tg_ kg_ => XS.ishr X3.here hx rfl (hb hby own_d_jdk_68_method_9_code_9) rfl kg_) ?_
  show own_Gl p e below _ (T3.setTop (mkF m 10 #[.val (.ref b), .val (.int (Int32.ofNat mm)), .unset] [(.int ((16 : Int32) >>> ((0 : Int32) &&& 31)))]))
  rw [(by decide : ((16 : Int32) >>> ((0 : Int32) &&& 31)) = (16 : Int32))]
  show own_Gl p e below _ (T3.setTop (mkF m 10 #[.val (.ref b), .val (.int (Int32.ofNat mm)), .unset] [(.int (16 : Int32))]))
  refine own_st (fun tg_ kg_ => XS.istoreN X3.here hx rfl (hb hby own_d_jdk_68_method_9_code_10) rfl (l' := #[.val (.ref b), .val (.int (Int32.ofNat mm)), .val (.int (16 : Int32))]) rfl kg_) ?_
  show own_Gl p e below _ (T3.setTop (mkF m 11 #[.val (.ref b), .val (.int (Int32.ofNat mm)), .val (.int (16 : Int32))] []))
  refine own_st (fun tg_ kg_ => XS.iloadN X3.here hx rfl (hb hby own_d_jdk_68_method_9_code_11) rfl kg_) ?_
  show own_Gl p e below _ (T3.setTop (mkF m 12 #[.val (.ref b), .val (.int (Int32.ofNat mm)), .val (.int (16 : Int32))] [(.int (Int32.ofNat mm))]))
  refine own_st (fun tg_ kg_ => XS.iloadN X3.here hx rfl (hb hby own_d_jdk_68_method_9_code_12) rfl kg_) ?_
  show own_Gl p e below _ (T3.setTop (mkF m 13 #[.val (.ref b), .val (.int (Int32.ofNat mm)), .val (.int (16 : Int32))] [(.int (16 : Int32)), (.int (Int32.ofNat mm))]))
  refine own_st (fun tg_ kg_ => XS.isub X3.here hx rfl (hb hby own_d_jdk_68_method_9_code_13) rfl kg_) ?_
  show own_Gl p e below _ (T3.setTop (mkF m 14 #[.val (.ref b), .val (.int (Int32.ofNat mm)), .val (.int (16 : Int32))] [(.int ((Int32.ofNat mm) - (16 : Int32)))]))
  refine own_st (fun tg_ kg_ => XS.ifYes X3.here hx rfl (pc0 := 14) (pc' := 38) rfl (hb hby own_d_jdk_68_method_9_code_14) rfl ((if0 _ _).trans (flt (own_ec0 hm)).2.2.2) (by decide) (by decide) kg_) ?_
  show own_Gl p e below _ (T3.setTop (mkF m 38 #[.val (.ref b), .val (.int (Int32.ofNat mm)), .val (.int (16 : Int32))] []))
  exact own_retV X3 hx Bd.notSynchronized Bd.returns (hb hby own_d_jdk_68_method_9_code_38) (by decide) (by decide) e3 (⟨rfl, N0, rfl⟩)
theorem own_d_jdk_29_method_69_code_0 : decode jdk_29_method_69_code 0 = .ok (.iload_n 0, 1) := by decide +kernel
theorem own_d_jdk_29_method_69_code_1 : decode jdk_29_method_69_code 1 = .ok (.iload_n 1, 1) := by decide +kernel
theorem own_d_jdk_29_method_69_code_2 : decode jdk_29_method_69_code 2 = .ok (.if_icmp .gt 7, 3) := by decide +kernel
theorem own_d_jdk_29_method_69_code_5 : decode jdk_29_method_69_code 5 = .ok (.iload_n 0, 1) := by decide +kernel
theorem own_d_jdk_29_method_69_code_6 : decode jdk_29_method_69_code 6 = .ok (.goto 4, 3) := by decide +kernel
theorem own_d_jdk_29_method_69_code_9 : decode jdk_29_method_69_code 9 = .ok (.iload_n 1, 1) := by decide +kernel
theorem own_d_jdk_29_method_69_code_10 : decode jdk_29_method_69_code 10 = .ok (.ireturn, 1) := by decide +kernel
theorem own_ef_min (m : MethodId) (x0 : Int32) (x1 : Int32) : entryFrame m #[(.int x0), (.int x1)] 2 = mkF m 0 #[.val (.int x0), .val (.int x1)] [] := by first | (simp [entryFrame, mkF, argsToLocals, Value.category]; done) | rfl
def own_Q_min (Z : State) (p1 p2 : Int32) (h0 : Heap) (n0 : Nat) (v : Option Value) (h : Heap) (L : List Loc) : Prop := v = some (.int (own_min p1 p2)) ∧ Fr n0 L ∧ h = h0
set_option maxRecDepth 65536 in
set_option maxHeartbeats 40000000 in
theorem own_rm_min (l : Launch) (Z : State) (a0 : Array Value) (hw : ∀ d ∈ tables_1, d.before a0 Z = true) (ws : List Jvm.Cond) (p1 p2 : Int32) (h0 : Heap) (n0 : Nat) (Z0 : n0 ≤ h0.size)  :
    MetFree l (⟨"java/lang/Math", "min", "(II)I"⟩ : MethodName) (head1 (Jvm.Cond.code (⟨"java/lang/Math", "min", "(II)I"⟩ : MethodName) jdk_29_method_69_code 2 (some .int) :: ws) ({ frames := 0, cells := 0, slots := 0, locals := 0 } : Room)) (fun aa UU => aa = #[(.int p1), (.int p2)] ∧ Z.Warmed39 UU.vm ∧ UU.heap = h0) (fun _ _ _ _ _ => True) (fun _ UU oo UU' => ∃ vv LL, oo = .returned vv ∧ own_Q_min Z p1 p2 h0 n0 vv UU'.heap LL ∧ FrameEnd UU oo UU' LL ({ frames := 0, cells := 0, slots := 0, locals := 0 } : Room).cells ({ frames := 0, cells := 0, slots := 0, locals := 0 } : Room).slots) := by
  refine MetFree.of_bodySF (Jvm.Free.JP.mathPlain rfl (by decide +kernel)) hisR ?_
  intro p e s m args below meth c s₁ Bd hml0 hP hK
  obtain ⟨rfl, hZ, hh⟩ := hP
  have hx := Bd.exec
  have hby := Bd.bytes
  have hml : c.maxLocals = 2 := hml0
  have hown : s.vm.findClass "java/lang/Math" = some m.cls := findClass_of_methodNamed Bd.named
  have hnm := (name_of_methodNamed Bd.named Bd.method).1
  have X0 : Stand p l e ({ frames := 0, cells := 0, slots := 0, locals := 0 } : Room) s m #[(.int p1), (.int p2)] below meth c s₁ [] 0 0 := Stand.of_body Bd
  have e0 : s₁.heap = h0 := by rw [← hh, Bd.state]; rfl
  have N0 := Fr.nil n0
  show own_Gl p e below (own_Post s (own_Q_min Z p1 p2 h0 n0) ({ frames := 0, cells := 0, slots := 0, locals := 0 } : Room).cells ({ frames := 0, cells := 0, slots := 0, locals := 0 } : Room).slots) _
  refine own_st (fun tg_ kg_ => castTop (own_ef_min m p1 p2) kg_) ?_
  show own_Gl p e below _ (s₁.setTop (mkF m 0 #[.val (.int p1), .val (.int p2)] []))
  refine own_st (fun tg_ kg_ => XS.iloadN X0.here hx rfl (hb hby own_d_jdk_29_method_69_code_0) rfl kg_) ?_
  show own_Gl p e below _ (s₁.setTop (mkF m 1 #[.val (.int p1), .val (.int p2)] [(.int p1)]))
  refine own_st (fun tg_ kg_ => XS.iloadN X0.here hx rfl (hb hby own_d_jdk_29_method_69_code_1) rfl kg_) ?_
  show own_Gl p e below _ (s₁.setTop (mkF m 2 #[.val (.int p1), .val (.int p2)] [(.int p2), (.int p1)]))
  by_cases hc2_1 : p2 < p1
  ·
    show own_Gl p e below _ (s₁.setTop (mkF m 2 #[.val (.int p1), .val (.int p2)] [(.int p2), (.int p1)]))
    refine own_st (fun tg_ kg_ => XS.icmpYes X0.here hx rfl (pc0 := 2) (pc' := 9) rfl (hb hby own_d_jdk_29_method_69_code_2) rfl (tlt (hc2_1)).2.2.1 (by decide) (by decide) kg_) ?_
    show own_Gl p e below _ (s₁.setTop (mkF m 9 #[.val (.int p1), .val (.int p2)] []))
    refine own_st (fun tg_ kg_ => XS.iloadN X0.here hx rfl (hb hby own_d_jdk_29_method_69_code_9) rfl kg_) ?_
    show own_Gl p e below _ (s₁.setTop (mkF m 10 #[.val (.int p1), .val (.int p2)] [(.int p2)]))
    exact own_retI X0 hx Bd.notSynchronized Bd.returns (hb hby own_d_jdk_29_method_69_code_10) (by decide) (by decide) e0 (⟨by simp [own_min, eq_true hc2_1], N0, rfl⟩)
  ·
    show own_Gl p e below _ (s₁.setTop (mkF m 2 #[.val (.int p1), .val (.int p2)] [(.int p2), (.int p1)]))
    refine own_st (fun tg_ kg_ => XS.icmpNo X0.here hx rfl (hb hby own_d_jdk_29_method_69_code_2) rfl (flt (hc2_1)).2.2.1 kg_) ?_
    show own_Gl p e below _ (s₁.setTop (mkF m 5 #[.val (.int p1), .val (.int p2)] []))
    refine own_st (fun tg_ kg_ => XS.iloadN X0.here hx rfl (hb hby own_d_jdk_29_method_69_code_5) rfl kg_) ?_
    show own_Gl p e below _ (s₁.setTop (mkF m 6 #[.val (.int p1), .val (.int p2)] [(.int p1)]))
    refine own_st (fun tg_ kg_ => XS.goto X0.here hx rfl (pc0 := 6) (pc' := 10) rfl (hb hby own_d_jdk_29_method_69_code_6) (by decide) (by decide) kg_) ?_
    show own_Gl p e below _ (s₁.setTop (mkF m 10 #[.val (.int p1), .val (.int p2)] [(.int p1)]))
    exact own_retI X0 hx Bd.notSynchronized Bd.returns (hb hby own_d_jdk_29_method_69_code_10) (by decide) (by decide) e0 (⟨by simp [own_min, eq_false hc2_1], N0, rfl⟩)
theorem own_pd0 : parseMethodDescriptor "(II)I" = some ⟨[.int, .int], some .int⟩ := by decide +kernel
theorem own_pn3 : plainName "java/util/Arrays" = true := by first | (simp [plainName, overriddenIn]; done) | decide +kernel
theorem own_d_jdk_65_method_121_code_0 : decode jdk_65_method_121_code 0 = .ok (.iload_n 1, 1) := by decide +kernel
theorem own_d_jdk_65_method_121_code_1 : decode jdk_65_method_121_code 1 = .ok (.aload_n 0, 1) := by decide +kernel
theorem own_d_jdk_65_method_121_code_2 : decode jdk_65_method_121_code 2 = .ok (.arraylength, 1) := by decide +kernel
theorem own_d_jdk_65_method_121_code_3 : decode jdk_65_method_121_code 3 = .ok (.if_icmp .ne 11, 3) := by decide +kernel
theorem own_d_jdk_65_method_121_code_14 : decode jdk_65_method_121_code 14 = .ok (.iload_n 1, 1) := by decide +kernel
theorem own_d_jdk_65_method_121_code_15 : decode jdk_65_method_121_code 15 = .ok (.newarray .byte, 2) := by decide +kernel
theorem own_d_jdk_65_method_121_code_17 : decode jdk_65_method_121_code 17 = .ok (.astore_n 2, 1) := by decide +kernel
theorem own_d_jdk_65_method_121_code_18 : decode jdk_65_method_121_code 18 = .ok (.aload_n 0, 1) := by decide +kernel
theorem own_d_jdk_65_method_121_code_19 : decode jdk_65_method_121_code 19 = .ok (.iconst 0, 1) := by decide +kernel
theorem own_d_jdk_65_method_121_code_20 : decode jdk_65_method_121_code 20 = .ok (.aload_n 2, 1) := by decide +kernel
theorem own_d_jdk_65_method_121_code_21 : decode jdk_65_method_121_code 21 = .ok (.iconst 0, 1) := by decide +kernel
theorem own_d_jdk_65_method_121_code_22 : decode jdk_65_method_121_code 22 = .ok (.aload_n 0, 1) := by decide +kernel
theorem own_d_jdk_65_method_121_code_23 : decode jdk_65_method_121_code 23 = .ok (.arraylength, 1) := by decide +kernel
theorem own_d_jdk_65_method_121_code_24 : decode jdk_65_method_121_code 24 = .ok (.iload_n 1, 1) := by decide +kernel
theorem own_d_jdk_65_method_121_code_25 : decode jdk_65_method_121_code 25 = .ok (.invokestatic 304, 3) := by decide +kernel
theorem own_d_jdk_65_method_121_code_28 : decode jdk_65_method_121_code 28 = .ok (.invokestatic 150, 3) := by decide +kernel
theorem own_d_jdk_65_method_121_code_31 : decode jdk_65_method_121_code 31 = .ok (.aload_n 2, 1) := by decide +kernel
theorem own_d_jdk_65_method_121_code_32 : decode jdk_65_method_121_code 32 = .ok (.areturn, 1) := by decide +kernel
theorem own_ef_cpy (m : MethodId) (x0 : Addr) (x1 : Int32) : entryFrame m #[(.ref x0), (.int x1)] 3 = mkF m 0 #[.val (.ref x0), .val (.int x1), .unset] [] := by first | (simp [entryFrame, mkF, argsToLocals, Value.category]; done) | rfl
def own_Q_cpy (Z : State) (d : Addr) (kd : ClassId) (P : List Value) (h0 : Heap) (n0 : Nat) (v : Option Value) (h : Heap) (L : List Loc) : Prop := (∃ w kw, v = some (.ref w) ∧ h0.size ≤ w ∧ Arv Z h w kw .byte (34 : Int32) (P ++ List.replicate 18 (.int 0)) (.int 0) ∧ Exa Z h w "[B") ∧ Fr n0 L ∧ Ext h0 h
set_option maxRecDepth 65536 in
set_option maxHeartbeats 40000000 in
theorem own_rm_cpy (l : Launch) (Z : State) (a0 : Array Value) (hw : ∀ d ∈ tables_1, d.before a0 Z = true) (ws : List Jvm.Cond) (d : Addr) (kd : ClassId) (P : List Value) (h0 : Heap) (n0 : Nat) (Z0 : n0 ≤ h0.size) (V_d : Arv Z h0 d kd .byte (16 : Int32) P (.int 0)) (hP : P.length = 16) :
    MetFree l (⟨"java/util/Arrays", "copyOf", "([BI)[B"⟩ : MethodName) (head1 (Jvm.Cond.code (⟨"java/util/Arrays", "copyOf", "([BI)[B"⟩ : MethodName) jdk_65_method_121_code 3 (some (.array .byte)) :: ws) ({ frames := 1, cells := 1, slots := 34, locals := 60 } : Room)) (fun aa UU => aa = #[(.ref d), (.int (34 : Int32))] ∧ Z.Warmed39 UU.vm ∧ UU.heap = h0) (fun _ _ _ _ _ => True) (fun _ UU oo UU' => ∃ vv LL, oo = .returned vv ∧ own_Q_cpy Z d kd P h0 n0 vv UU'.heap LL ∧ FrameEnd UU oo UU' LL ({ frames := 1, cells := 1, slots := 34, locals := 60 } : Room).cells ({ frames := 1, cells := 1, slots := 34, locals := 60 } : Room).slots) := by
  refine MetFree.of_bodySF (plainFor_of_name own_pn3) hisR ?_
  intro p e s m args below meth c s₁ Bd hml0 hP hK
  obtain ⟨rfl, hZ, hh⟩ := hP
  have hx := Bd.exec
  have hby := Bd.bytes
  have hml : c.maxLocals = 3 := hml0
  have hown : s.vm.findClass "java/util/Arrays" = some m.cls := findClass_of_methodNamed Bd.named
  have hnm := (name_of_methodNamed Bd.named Bd.method).1
  have X0 : Stand p l e ({ frames := 1, cells := 1, slots := 34, locals := 60 } : Room) s m #[(.ref d), (.int (34 : Int32))] below meth c s₁ [] 0 0 := Stand.of_body Bd
  have e0 : s₁.heap = h0 := by rw [← hh, Bd.state]; rfl
  have N0 := Fr.nil n0
  show own_Gl p e below (own_Post s (own_Q_cpy Z d kd P h0 n0) ({ frames := 1, cells := 1, slots := 34, locals := 60 } : Room).cells ({ frames := 1, cells := 1, slots := 34, locals := 60 } : Room).slots) _
  refine own_st (fun tg_ kg_ => castTop (own_ef_cpy m d (34 : Int32)) kg_) ?_
  show own_Gl p e below _ (s₁.setTop (mkF m 0 #[.val (.ref d), .val (.int (34 : Int32)), .unset] []))
  refine own_st (fun tg_ kg_ => XS.iloadN X0.here hx rfl (hb hby own_d_jdk_65_method_121_code_0) rfl kg_) ?_
  show own_Gl p e below _ (s₁.setTop (mkF m 1 #[.val (.ref d), .val (.int (34 : Int32)), .unset] [(.int (34 : Int32))]))
  refine own_st (fun tg_ kg_ => XS.aloadN X0.here hx rfl (hb hby own_d_jdk_65_method_121_code_1) rfl rfl kg_) ?_
  show own_Gl p e below _ (s₁.setTop (mkF m 2 #[.val (.ref d), .val (.int (34 : Int32)), .unset] [(.ref d), (.int (34 : Int32))]))
  obtain ⟨cl1, Ar1, qa1, Sa1, Na1, Ha1, Ga1⟩ := id V_d
  refine own_st (fun tg_ kg_ => X0.arraylength hx (by rw [e0]; exact Ar1.1) (State.isArrayOf_alike hZ.alike Ar1.2.1) (g := (mkF m 2 #[.val (.ref d), .val (.int (34 : Int32)), .unset] [(.ref d), (.int (34 : Int32))])) rfl rfl (hb hby own_d_jdk_65_method_121_code_2) _ kg_) ?_
  rw [len_of Sa1 Na1]
  show own_Gl p e below _ (s₁.setTop (mkF m 3 #[.val (.ref d), .val (.int (34 : Int32)), .unset] [(.int (16 : Int32)), (.int (34 : Int32))]))
  refine own_st (fun tg_ kg_ => XS.icmpYes X0.here hx rfl (pc0 := 3) (pc' := 14) rfl (hb hby own_d_jdk_65_method_121_code_3) rfl (feq ((by decide : ¬ ((34 : Int32) = (16 : Int32))))).2 (by decide) (by decide) kg_) ?_
  show own_Gl p e below _ (s₁.setTop (mkF m 14 #[.val (.ref d), .val (.int (34 : Int32)), .unset] []))
  refine own_st (fun tg_ kg_ => XS.iloadN X0.here hx rfl (hb hby own_d_jdk_65_method_121_code_14) rfl kg_) ?_
  show own_Gl p e below _ (s₁.setTop (mkF m 15 #[.val (.ref d), .val (.int (34 : Int32)), .unset] [(.int (34 : Int32))]))
  obtain ⟨T2, h2, k2, X2, e2, E2, A2, B2, st2⟩ := newPE X0 hx hZ (hw _ (List.mem_of_getElem? (i := 52) rfl)) e0 (g := (mkF m 15 #[.val (.ref d), .val (.int (34 : Int32)), .unset] [(.int (34 : Int32))])) rfl (hb hby own_d_jdk_65_method_121_code_15) rfl (by decide) (cap := 34) (by decide) (by decide) (by decide) (by decide) (ad := "[B") (by decide)
  obtain ⟨w, g2⟩ : ∃ z, z = h0.size := ⟨_, rfl⟩
  have ne_d_w : d ≠ w := Nat.ne_of_lt (Nat.lt_of_lt_of_le V_d.lt (Nat.le_of_eq g2.symm))
  have sz_w : h0.size ≤ w := Nat.le_of_eq g2.symm
  have g_w : n0 ≤ w := Nat.le_trans Z0 sz_w
  rw [← g2] at A2 B2 st2
  have E_w := B2
  have V_w : Arv Z h2 w k2 .byte (34 : Int32) [] (.int 0) := Arv.new A2 (by decide)
  refine own_st st2 ?_
  try clear st2
  show own_Gl p e below _ (T2.setTop (mkF m 17 #[.val (.ref d), .val (.int (34 : Int32)), .unset] [(.ref w)]))
  have V_w : Arv Z h2 w k2 .byte (34 : Int32) (List.replicate 34 (.int 0)) (.int 0) := V_w.pad (pad_rep [] (.int 0) 34)
  refine own_st (fun tg_ kg_ => XS.astoreN X2.here hx rfl (hb hby own_d_jdk_65_method_121_code_17) rfl rfl (l' := #[.val (.ref d), .val (.int (34 : Int32)), .val (.ref w)]) rfl kg_) ?_
  show own_Gl p e below _ (T2.setTop (mkF m 18 #[.val (.ref d), .val (.int (34 : Int32)), .val (.ref w)] []))
  refine own_st (fun tg_ kg_ => XS.aloadN X2.here hx rfl (hb hby own_d_jdk_65_method_121_code_18) rfl rfl kg_) ?_
  show own_Gl p e below _ (T2.setTop (mkF m 19 #[.val (.ref d), .val (.int (34 : Int32)), .val (.ref w)] [(.ref d)]))
  refine own_st (fun tg_ kg_ => XS.iconst X2.here hx rfl (hb hby own_d_jdk_65_method_121_code_19) kg_) ?_
  show own_Gl p e below _ (T2.setTop (mkF m 20 #[.val (.ref d), .val (.int (34 : Int32)), .val (.ref w)] [(.int (0 : Int32)), (.ref d)]))
  refine own_st (fun tg_ kg_ => XS.aloadN X2.here hx rfl (hb hby own_d_jdk_65_method_121_code_20) rfl rfl kg_) ?_
  show own_Gl p e below _ (T2.setTop (mkF m 21 #[.val (.ref d), .val (.int (34 : Int32)), .val (.ref w)] [(.ref w), (.int (0 : Int32)), (.ref d)]))
  refine own_st (fun tg_ kg_ => XS.iconst X2.here hx rfl (hb hby own_d_jdk_65_method_121_code_21) kg_) ?_
  show own_Gl p e below _ (T2.setTop (mkF m 22 #[.val (.ref d), .val (.int (34 : Int32)), .val (.ref w)] [(.int (0 : Int32)), (.ref w), (.int (0 : Int32)), (.ref d)]))
  refine own_st (fun tg_ kg_ => XS.aloadN X2.here hx rfl (hb hby own_d_jdk_65_method_121_code_22) rfl rfl kg_) ?_
  show own_Gl p e below _ (T2.setTop (mkF m 23 #[.val (.ref d), .val (.int (34 : Int32)), .val (.ref w)] [(.ref d), (.int (0 : Int32)), (.ref w), (.int (0 : Int32)), (.ref d)]))
  obtain ⟨cl4, Ar4, qa4, Sa4, Na4, Ha4, Ga4⟩ := id (V_d.ext E2)
  refine own_st (fun tg_ kg_ => X2.arraylength hx (by rw [e2]; exact Ar4.1) (State.isArrayOf_alike hZ.alike Ar4.2.1) (g := (mkF m 23 #[.val (.ref d), .val (.int (34 : Int32)), .val (.ref w)] [(.ref d), (.int (0 : Int32)), (.ref w), (.int (0 : Int32)), (.ref d)])) rfl rfl (hb hby own_d_jdk_65_method_121_code_23) _ kg_) ?_
  rw [len_of Sa4 Na4]
  show own_Gl p e below _ (T2.setTop (mkF m 24 #[.val (.ref d), .val (.int (34 : Int32)), .val (.ref w)] [(.int (16 : Int32)), (.int (0 : Int32)), (.ref w), (.int (0 : Int32)), (.ref d)]))
  refine own_st (fun tg_ kg_ => XS.iloadN X2.here hx rfl (hb hby own_d_jdk_65_method_121_code_24) rfl kg_) ?_
  show own_Gl p e below _ (T2.setTop (mkF m 25 #[.val (.ref d), .val (.int (34 : Int32)), .val (.ref w)] [(.int (34 : Int32)), (.int (16 : Int32)), (.int (0 : Int32)), (.ref w), (.int (0 : Int32)), (.ref d)]))
  obtain ⟨_, _, ⟨T5, L5, k5, n5⟩, -, X5, ⟨Lc5, hQ5, l5, y5, z5⟩, st5⟩ := Jvm.LawKit.callS X2 hx (y := (⟨"java/lang/Math", "min", "(II)I"⟩ : MethodName)) hown (mvT hZ (hw _ (List.mem_of_getElem? (i := 173) rfl))) (mvT hZ (hw _ (List.mem_of_getElem? (i := 174) rfl))) (mvT hZ (hw _ (List.mem_of_getElem? (i := 175) rfl))) (mvT hZ (hw _ (List.mem_of_getElem? (i := 176) rfl))) (by decide) (backOf (W := 4) (own_rm_min l Z a0 hw [] (16 : Int32) (34 : Int32) h2 n0 (Nat.le_trans Z0 E2.1)) hZ (hw _ (List.mem_of_getElem? (i := 176) rfl)) (hw _ (List.mem_of_getElem? (i := 175) rfl)) (by decide) (by decide)) (g := (mkF m 25 #[.val (.ref d), .val (.int (34 : Int32)), .val (.ref w)] [(.int (34 : Int32)), (.int (16 : Int32)), (.int (0 : Int32)), (.ref w), (.int (0 : Int32)), (.ref d)])) rfl (by rw [hml]; rfl) (argsL := [(.int (16 : Int32)), (.int (34 : Int32))]) (rest := [(.int (0 : Int32)), (.ref w), (.int (0 : Int32)), (.ref d)]) (lenOf own_pd0 rfl) rfl (by show 2 * 0 + _ ≤ _; exact Nat.le_of_eq rfl) (hb hby own_d_jdk_65_method_121_code_25) (fun _ _ => ⟨rfl, e2, (by decide : 1 + 0 ≤ _), (by decide : 34 + 0 ≤ _)⟩)
  dsimp only [Pt.U, Pt.locs, Pt.cells, Pt.slots] at X5 l5 y5 z5 st5 hQ5
  obtain rfl : k5 = 1 := y5
  obtain rfl : n5 = 34 := z5
  obtain ⟨rfl, N5q, e5⟩ := hQ5
  have N5 : Fr n0 L5 := by rw [l5]; exact Fr.app N0 N5q
  try clear l5
  refine own_st st5 ?_
  show own_Gl p e below _ (T5.setTop (mkF m 28 #[.val (.ref d), .val (.int (34 : Int32)), .val (.ref w)] [(.int (own_min (16 : Int32) (34 : Int32))), (.int (0 : Int32)), (.ref w), (.int (0 : Int32)), (.ref d)]))
  try clear st5
  try clear N5q
  try clear e2
  try clear X2
  try clear T2
  rw [(by decide : own_min (16 : Int32) (34 : Int32) = 16)]
  show own_Gl p e below _ (T5.setTop (mkF m 28 #[.val (.ref d), .val (.int (34 : Int32)), .val (.ref w)] [(.int (16 : Int32)), (.int (0 : Int32)), (.ref w), (.int (0 : Int32)), (.ref d)]))
  obtain ⟨T6, h6, L6, X6, e6, N6, Kc6, V_w, st6⟩ := cpA X5 hx hZ hown (hw _ (List.mem_of_getElem? (i := 177) rfl)) (hw _ (List.mem_of_getElem? (i := 134) rfl)) (hw _ (List.mem_of_getElem? (i := 132) rfl)) (hw _ (List.mem_of_getElem? (i := 133) rfl)) e5 (V_d.ext E2) V_w (us := (List.range 16).map (fun i => P.getD (0 + i) (.int 0))) (Or.inl ⟨rfl, rfl⟩) (sp := (0 : Int32)) (dp := (0 : Int32)) (nn := (16 : Int32)) (by decide) (by decide) (by decide) (by decide) (by decide) rfl (by simp) N5 g_w (g := (mkF m 28 #[.val (.ref d), .val (.int (34 : Int32)), .val (.ref w)] [(.int (16 : Int32)), (.int (0 : Int32)), (.ref w), (.int (0 : Int32)), (.ref d)])) rfl (by rw [hml]; rfl) rfl (hb hby own_d_jdk_65_method_121_code_28) (by decide) (W := 0) (by show 2 * 0 + _ ≤ _; exact Nat.le_of_eq rfl) (by decide)
  replace E_w := E_w.keep Kc6
  have K7 := own_ext_keep E2 Kc6 (allS sz_w all0)
  try clear Kc6
  try clear E2
  refine own_st st6 ?_
  try clear st6
  try clear e5
  try clear X5
  try clear T5
  show own_Gl p e below _ (T6.setTop (mkF m 31 #[.val (.ref d), .val (.int (34 : Int32)), .val (.ref w)] []))
  have V_w : Arv Z h6 w k2 .byte (34 : Int32) (P ++ List.replicate 18 (.int 0)) (.int 0) := own_grow hP ▸ V_w
  refine own_st (fun tg_ kg_ => XS.aloadN X6.here hx rfl (hb hby own_d_jdk_65_method_121_code_31) rfl rfl kg_) ?_
  show own_Gl p e below _ (T6.setTop (mkF m 32 #[.val (.ref d), .val (.int (34 : Int32)), .val (.ref w)] [(.ref w)]))
  exact own_retA X6 hx Bd.notSynchronized Bd.returns rfl rfl (hb hby own_d_jdk_65_method_121_code_32) (by decide) (by decide) e6 (⟨⟨_, _, rfl, sz_w, V_w, E_w⟩, N6, K7⟩)
theorem own_d_jdk_29_method_65_code_0 : decode jdk_29_method_65_code 0 = .ok (.iload_n 0, 1) := by decide +kernel
theorem own_d_jdk_29_method_65_code_1 : decode jdk_29_method_65_code 1 = .ok (.iload_n 1, 1) := by decide +kernel
theorem own_d_jdk_29_method_65_code_2 : decode jdk_29_method_65_code 2 = .ok (.if_icmp .lt 7, 3) := by decide +kernel
theorem own_d_jdk_29_method_65_code_9 : decode jdk_29_method_65_code 9 = .ok (.iload_n 1, 1) := by decide +kernel
theorem own_d_jdk_29_method_65_code_10 : decode jdk_29_method_65_code 10 = .ok (.ireturn, 1) := by decide +kernel
theorem own_ef_max17 (m : MethodId) (x0 : Int32) (x1 : Int32) : entryFrame m #[(.int x0), (.int x1)] 2 = mkF m 0 #[.val (.int x0), .val (.int x1)] [] := by first | (simp [entryFrame, mkF, argsToLocals, Value.category]; done) | rfl
def own_Q_max17 (Z : State)  (h0 : Heap) (n0 : Nat) (v : Option Value) (h : Heap) (L : List Loc) : Prop := v = some (.int 18) ∧ Fr n0 L ∧ h = h0
set_option maxRecDepth 65536 in
set_option maxHeartbeats 40000000 in
theorem own_rm_max17 (l : Launch) (Z : State) (a0 : Array Value) (hw : ∀ d ∈ tables_1, d.before a0 Z = true) (ws : List Jvm.Cond)  (h0 : Heap) (n0 : Nat) (Z0 : n0 ≤ h0.size)  :
    MetFree l (⟨"java/lang/Math", "max", "(II)I"⟩ : MethodName) (head1 (Jvm.Cond.code (⟨"java/lang/Math", "max", "(II)I"⟩ : MethodName) jdk_29_method_65_code 2 (some .int) :: ws) ({ frames := 0, cells := 0, slots := 0, locals := 0 } : Room)) (fun aa UU => aa = #[(.int (1 : Int32)), (.int (18 : Int32))] ∧ Z.Warmed39 UU.vm ∧ UU.heap = h0) (fun _ _ _ _ _ => True) (fun _ UU oo UU' => ∃ vv LL, oo = .returned vv ∧ own_Q_max17 Z  h0 n0 vv UU'.heap LL ∧ FrameEnd UU oo UU' LL ({ frames := 0, cells := 0, slots := 0, locals := 0 } : Room).cells ({ frames := 0, cells := 0, slots := 0, locals := 0 } : Room).slots) := by
  refine MetFree.of_bodySF (Jvm.Free.JP.mathPlain rfl (by decide +kernel)) hisR ?_
  intro p e s m args below meth c s₁ Bd hml0 hP hK
  obtain ⟨rfl, hZ, hh⟩ := hP
  have hx := Bd.exec
  have hby := Bd.bytes
  have hml : c.maxLocals = 2 := hml0
  have hown : s.vm.findClass "java/lang/Math" = some m.cls := findClass_of_methodNamed Bd.named
  have hnm := (name_of_methodNamed Bd.named Bd.method).1
  have X0 : Stand p l e ({ frames := 0, cells := 0, slots := 0, locals := 0 } : Room) s m #[(.int (1 : Int32)), (.int (18 : Int32))] below meth c s₁ [] 0 0 := Stand.of_body Bd
  have e0 : s₁.heap = h0 := by rw [← hh, Bd.state]; rfl
  have N0 := Fr.nil n0
  show own_Gl p e below (own_Post s (own_Q_max17 Z  h0 n0) ({ frames := 0, cells := 0, slots := 0, locals := 0 } : Room).cells ({ frames := 0, cells := 0, slots := 0, locals := 0 } : Room).slots) _
  refine own_st (fun tg_ kg_ => castTop (own_ef_max17 m (1 : Int32) (18 : Int32)) kg_) ?_
  show own_Gl p e below _ (s₁.setTop (mkF m 0 #[.val (.int (1 : Int32)), .val (.int (18 : Int32))] []))
  refine own_st (fun tg_ kg_ => XS.iloadN X0.here hx rfl (hb hby own_d_jdk_29_method_65_code_0) rfl kg_) ?_
  show own_Gl p e below _ (s₁.setTop (mkF m 1 #[.val (.int (1 : Int32)), .val (.int (18 : Int32))] [(.int (1 : Int32))]))
  refine own_st (fun tg_ kg_ => XS.iloadN X0.here hx rfl (hb hby own_d_jdk_29_method_65_code_1) rfl kg_) ?_
  show own_Gl p e below _ (s₁.setTop (mkF m 2 #[.val (.int (1 : Int32)), .val (.int (18 : Int32))] [(.int (18 : Int32)), (.int (1 : Int32))]))
  refine own_st (fun tg_ kg_ => XS.icmpYes X0.here hx rfl (pc0 := 2) (pc' := 9) rfl (hb hby own_d_jdk_29_method_65_code_2) rfl (tlt ((by decide : (1 : Int32) < (18 : Int32)))).1 (by decide) (by decide) kg_) ?_
  show own_Gl p e below _ (s₁.setTop (mkF m 9 #[.val (.int (1 : Int32)), .val (.int (18 : Int32))] []))
  refine own_st (fun tg_ kg_ => XS.iloadN X0.here hx rfl (hb hby own_d_jdk_29_method_65_code_9) rfl kg_) ?_
  show own_Gl p e below _ (s₁.setTop (mkF m 10 #[.val (.int (1 : Int32)), .val (.int (18 : Int32))] [(.int (18 : Int32))]))
  exact own_retI X0 hx Bd.notSynchronized Bd.returns (hb hby own_d_jdk_29_method_65_code_10) (by decide) (by decide) e0 (⟨rfl, N0, rfl⟩)
theorem own_pn4 : plainName "jdk/internal/util/ArraysSupport" = true := by first | (simp [plainName, overriddenIn]; done) | decide +kernel
theorem own_d_jdk_48_method_27_code_0 : decode jdk_48_method_27_code 0 = .ok (.iload_n 0, 1) := by decide +kernel
theorem own_d_jdk_48_method_27_code_1 : decode jdk_48_method_27_code 1 = .ok (.iload_n 1, 1) := by decide +kernel
theorem own_d_jdk_48_method_27_code_2 : decode jdk_48_method_27_code 2 = .ok (.iload_n 2, 1) := by decide +kernel
theorem own_d_jdk_48_method_27_code_3 : decode jdk_48_method_27_code 3 = .ok (.invokestatic 194, 3) := by decide +kernel
theorem own_d_jdk_48_method_27_code_6 : decode jdk_48_method_27_code 6 = .ok (.iadd, 1) := by decide +kernel
theorem own_d_jdk_48_method_27_code_7 : decode jdk_48_method_27_code 7 = .ok (.istore_n 3, 1) := by decide +kernel
theorem own_d_jdk_48_method_27_code_8 : decode jdk_48_method_27_code 8 = .ok (.iconst 0, 1) := by decide +kernel
theorem own_d_jdk_48_method_27_code_9 : decode jdk_48_method_27_code 9 = .ok (.iload_n 3, 1) := by decide +kernel
theorem own_d_jdk_48_method_27_code_10 : decode jdk_48_method_27_code 10 = .ok (.if_icmp .ge 11, 3) := by decide +kernel
theorem own_d_jdk_48_method_27_code_13 : decode jdk_48_method_27_code 13 = .ok (.iload_n 3, 1) := by decide +kernel
theorem own_d_jdk_48_method_27_code_14 : decode jdk_48_method_27_code 14 = .ok (.ldc 200, 2) := by decide +kernel
theorem own_d_jdk_48_method_27_code_16 : decode jdk_48_method_27_code 16 = .ok (.if_icmp .gt 5, 3) := by decide +kernel
theorem own_d_jdk_48_method_27_code_19 : decode jdk_48_method_27_code 19 = .ok (.iload_n 3, 1) := by decide +kernel
theorem own_d_jdk_48_method_27_code_20 : decode jdk_48_method_27_code 20 = .ok (.ireturn, 1) := by decide +kernel
theorem own_ef_nln17 (m : MethodId) (x0 : Int32) (x1 : Int32) (x2 : Int32) : entryFrame m #[(.int x0), (.int x1), (.int x2)] 4 = mkF m 0 #[.val (.int x0), .val (.int x1), .val (.int x2), .unset] [] := by first | (simp [entryFrame, mkF, argsToLocals, Value.category]; done) | rfl
def own_Q_nln17 (Z : State)  (h0 : Heap) (n0 : Nat) (v : Option Value) (h : Heap) (L : List Loc) : Prop := v = some (.int 34) ∧ Fr n0 L ∧ h = h0
set_option maxRecDepth 65536 in
set_option maxHeartbeats 40000000 in
theorem own_rm_nln17 (l : Launch) (Z : State) (a0 : Array Value) (hw : ∀ d ∈ tables_1, d.before a0 Z = true) (ws : List Jvm.Cond)  (h0 : Heap) (n0 : Nat) (Z0 : n0 ≤ h0.size)  :
    MetFree l (⟨"jdk/internal/util/ArraysSupport", "newLength", "(III)I"⟩ : MethodName) (head1 (Jvm.Cond.code (⟨"jdk/internal/util/ArraysSupport", "newLength", "(III)I"⟩ : MethodName) jdk_48_method_27_code 4 (some .int) :: ws) ({ frames := 1, cells := 0, slots := 0, locals := 14 } : Room)) (fun aa UU => aa = #[(.int (16 : Int32)), (.int (1 : Int32)), (.int (18 : Int32))] ∧ Z.Warmed39 UU.vm ∧ UU.heap = h0) (fun _ _ _ _ _ => True) (fun _ UU oo UU' => ∃ vv LL, oo = .returned vv ∧ own_Q_nln17 Z  h0 n0 vv UU'.heap LL ∧ FrameEnd UU oo UU' LL ({ frames := 1, cells := 0, slots := 0, locals := 14 } : Room).cells ({ frames := 1, cells := 0, slots := 0, locals := 14 } : Room).slots) := by
  refine MetFree.of_bodySF (plainFor_of_name own_pn4) hisR ?_
  intro p e s m args below meth c s₁ Bd hml0 hP hK
  obtain ⟨rfl, hZ, hh⟩ := hP
  have hx := Bd.exec
  have hby := Bd.bytes
  have hml : c.maxLocals = 4 := hml0
  have hown : s.vm.findClass "jdk/internal/util/ArraysSupport" = some m.cls := findClass_of_methodNamed Bd.named
  have hnm := (name_of_methodNamed Bd.named Bd.method).1
  have X0 : Stand p l e ({ frames := 1, cells := 0, slots := 0, locals := 14 } : Room) s m #[(.int (16 : Int32)), (.int (1 : Int32)), (.int (18 : Int32))] below meth c s₁ [] 0 0 := Stand.of_body Bd
  have e0 : s₁.heap = h0 := by rw [← hh, Bd.state]; rfl
  have N0 := Fr.nil n0
  show own_Gl p e below (own_Post s (own_Q_nln17 Z  h0 n0) ({ frames := 1, cells := 0, slots := 0, locals := 14 } : Room).cells ({ frames := 1, cells := 0, slots := 0, locals := 14 } : Room).slots) _
  refine own_st (fun tg_ kg_ => castTop (own_ef_nln17 m (16 : Int32) (1 : Int32) (18 : Int32)) kg_) ?_
  show own_Gl p e below _ (s₁.setTop (mkF m 0 #[.val (.int (16 : Int32)), .val (.int (1 : Int32)), .val (.int (18 : Int32)), .unset] []))
  refine own_st (fun tg_ kg_ => XS.iloadN X0.here hx rfl (hb hby own_d_jdk_48_method_27_code_0) rfl kg_) ?_
  show own_Gl p e below _ (s₁.setTop (mkF m 1 #[.val (.int (16 : Int32)), .val (.int (1 : Int32)), .val (.int (18 : Int32)), .unset] [(.int (16 : Int32))]))
  refine own_st (fun tg_ kg_ => XS.iloadN X0.here hx rfl (hb hby own_d_jdk_48_method_27_code_1) rfl kg_) ?_
  show own_Gl p e below _ (s₁.setTop (mkF m 2 #[.val (.int (16 : Int32)), .val (.int (1 : Int32)), .val (.int (18 : Int32)), .unset] [(.int (1 : Int32)), (.int (16 : Int32))]))
  refine own_st (fun tg_ kg_ => XS.iloadN X0.here hx rfl (hb hby own_d_jdk_48_method_27_code_2) rfl kg_) ?_
  show own_Gl p e below _ (s₁.setTop (mkF m 3 #[.val (.int (16 : Int32)), .val (.int (1 : Int32)), .val (.int (18 : Int32)), .unset] [(.int (18 : Int32)), (.int (1 : Int32)), (.int (16 : Int32))]))
  obtain ⟨_, _, ⟨T1, L1, k1, n1⟩, -, X1, ⟨Lc1, hQ1, l1, y1, z1⟩, st1⟩ := Jvm.LawKit.callS X0 hx (y := (⟨"java/lang/Math", "max", "(II)I"⟩ : MethodName)) hown (mvT hZ (hw _ (List.mem_of_getElem? (i := 226) rfl))) (mvT hZ (hw _ (List.mem_of_getElem? (i := 227) rfl))) (mvT hZ (hw _ (List.mem_of_getElem? (i := 175) rfl))) (mvT hZ (hw _ (List.mem_of_getElem? (i := 228) rfl))) (by decide) (backOf (W := 1) (own_rm_max17 l Z a0 hw [] h0 n0 Z0) hZ (hw _ (List.mem_of_getElem? (i := 228) rfl)) (hw _ (List.mem_of_getElem? (i := 175) rfl)) (by decide) (by decide)) (g := (mkF m 3 #[.val (.int (16 : Int32)), .val (.int (1 : Int32)), .val (.int (18 : Int32)), .unset] [(.int (18 : Int32)), (.int (1 : Int32)), (.int (16 : Int32))])) rfl (by rw [hml]; rfl) (argsL := [(.int (1 : Int32)), (.int (18 : Int32))]) (rest := [(.int (16 : Int32))]) (lenOf own_pd0 rfl) rfl (by show 2 * 0 + _ ≤ _; exact Nat.le_of_eq rfl) (hb hby own_d_jdk_48_method_27_code_3) (fun _ _ => ⟨rfl, e0, (by decide : 0 + 0 ≤ _), (by decide : 0 + 0 ≤ _)⟩)
  dsimp only [Pt.U, Pt.locs, Pt.cells, Pt.slots] at X1 l1 y1 z1 st1 hQ1
  obtain rfl : k1 = 0 := y1
  obtain rfl : n1 = 0 := z1
  obtain ⟨rfl, N1q, e1⟩ := hQ1
  have N1 : Fr n0 L1 := by rw [l1]; exact Fr.app N0 N1q
  try clear l1
  refine own_st st1 ?_
  show own_Gl p e below _ (T1.setTop (mkF m 6 #[.val (.int (16 : Int32)), .val (.int (1 : Int32)), .val (.int (18 : Int32)), .unset] [(.int (18 : Int32)), (.int (16 : Int32))]))
  try clear st1
  try clear N1q
  refine own_st (fun tg_ kg_ => XS.iadd X1.here hx rfl (hb hby own_d_jdk_48_method_27_code_6) rfl kg_) ?_
  show own_Gl p e below _ (T1.setTop (mkF m 7 #[.val (.int (16 : Int32)), .val (.int (1 : Int32)), .val (.int (18 : Int32)), .unset] [(.int (34 : Int32))]))
  refine own_st (fun tg_ kg_ => XS.istoreN X1.here hx rfl (hb hby own_d_jdk_48_method_27_code_7) rfl (l' := #[.val (.int (16 : Int32)), .val (.int (1 : Int32)), .val (.int (18 : Int32)), .val (.int (34 : Int32))]) rfl kg_) ?_
  show own_Gl p e below _ (T1.setTop (mkF m 8 #[.val (.int (16 : Int32)), .val (.int (1 : Int32)), .val (.int (18 : Int32)), .val (.int (34 : Int32))] []))
  refine own_st (fun tg_ kg_ => XS.iconst X1.here hx rfl (hb hby own_d_jdk_48_method_27_code_8) kg_) ?_
  show own_Gl p e below _ (T1.setTop (mkF m 9 #[.val (.int (16 : Int32)), .val (.int (1 : Int32)), .val (.int (18 : Int32)), .val (.int (34 : Int32))] [(.int (0 : Int32))]))
  refine own_st (fun tg_ kg_ => XS.iloadN X1.here hx rfl (hb hby own_d_jdk_48_method_27_code_9) rfl kg_) ?_
  show own_Gl p e below _ (T1.setTop (mkF m 10 #[.val (.int (16 : Int32)), .val (.int (1 : Int32)), .val (.int (18 : Int32)), .val (.int (34 : Int32))] [(.int (34 : Int32)), (.int (0 : Int32))]))
  refine own_st (fun tg_ kg_ => XS.icmpNo X1.here hx rfl (hb hby own_d_jdk_48_method_27_code_10) rfl (tlt ((by decide : (0 : Int32) < (34 : Int32)))).2.1 kg_) ?_
  show own_Gl p e below _ (T1.setTop (mkF m 13 #[.val (.int (16 : Int32)), .val (.int (1 : Int32)), .val (.int (18 : Int32)), .val (.int (34 : Int32))] []))
  refine own_st (fun tg_ kg_ => XS.iloadN X1.here hx rfl (hb hby own_d_jdk_48_method_27_code_13) rfl kg_) ?_
  show own_Gl p e below _ (T1.setTop (mkF m 14 #[.val (.int (16 : Int32)), .val (.int (1 : Int32)), .val (.int (18 : Int32)), .val (.int (34 : Int32))] [(.int (34 : Int32))]))
  refine own_st (fun tg_ kg_ => X1.ldcInt hx hown (mvT hZ (hw _ (List.mem_of_getElem? (i := 229) rfl))) (g := (mkF m 14 #[.val (.int (16 : Int32)), .val (.int (1 : Int32)), .val (.int (18 : Int32)), .val (.int (34 : Int32))] [(.int (34 : Int32))])) rfl (hb hby own_d_jdk_48_method_27_code_14) _ kg_) ?_
  show own_Gl p e below _ (T1.setTop (mkF m 16 #[.val (.int (16 : Int32)), .val (.int (1 : Int32)), .val (.int (18 : Int32)), .val (.int (34 : Int32))] [(.int (2147483639 : Int32)), (.int (34 : Int32))]))
  refine own_st (fun tg_ kg_ => XS.icmpNo X1.here hx rfl (hb hby own_d_jdk_48_method_27_code_16) rfl (flt ((by decide : ¬ ((2147483639 : Int32) < (34 : Int32))))).2.2.1 kg_) ?_
  show own_Gl p e below _ (T1.setTop (mkF m 19 #[.val (.int (16 : Int32)), .val (.int (1 : Int32)), .val (.int (18 : Int32)), .val (.int (34 : Int32))] []))
  refine own_st (fun tg_ kg_ => XS.iloadN X1.here hx rfl (hb hby own_d_jdk_48_method_27_code_19) rfl kg_) ?_
  show own_Gl p e below _ (T1.setTop (mkF m 20 #[.val (.int (16 : Int32)), .val (.int (1 : Int32)), .val (.int (18 : Int32)), .val (.int (34 : Int32))] [(.int (34 : Int32))]))
  exact own_retI X1 hx Bd.notSynchronized Bd.returns (hb hby own_d_jdk_48_method_27_code_20) (by decide) (by decide) e1 (⟨rfl, N1, rfl⟩)
theorem own_pd1 : parseMethodDescriptor "(III)I" = some ⟨[.int, .int, .int], some .int⟩ := by decide +kernel
theorem own_d_jdk_68_method_10_code_0 : decode jdk_68_method_10_code 0 = .ok (.aload_n 0, 1) := by decide +kernel
theorem own_d_jdk_68_method_10_code_1 : decode jdk_68_method_10_code 1 = .ok (.getfield 15, 3) := by decide +kernel
theorem own_d_jdk_68_method_10_code_4 : decode jdk_68_method_10_code 4 = .ok (.arraylength, 1) := by decide +kernel
theorem own_d_jdk_68_method_10_code_5 : decode jdk_68_method_10_code 5 = .ok (.istore_n 2, 1) := by decide +kernel
theorem own_d_jdk_68_method_10_code_6 : decode jdk_68_method_10_code 6 = .ok (.iload_n 1, 1) := by decide +kernel
theorem own_d_jdk_68_method_10_code_7 : decode jdk_68_method_10_code 7 = .ok (.aload_n 0, 1) := by decide +kernel
theorem own_d_jdk_68_method_10_code_8 : decode jdk_68_method_10_code 8 = .ok (.getfield 22, 3) := by decide +kernel
theorem own_d_jdk_68_method_10_code_11 : decode jdk_68_method_10_code 11 = .ok (.ishl, 1) := by decide +kernel
theorem own_d_jdk_68_method_10_code_12 : decode jdk_68_method_10_code 12 = .ok (.istore_n 3, 1) := by decide +kernel
theorem own_d_jdk_68_method_10_code_13 : decode jdk_68_method_10_code 13 = .ok (.iload_n 3, 1) := by decide +kernel
theorem own_d_jdk_68_method_10_code_14 : decode jdk_68_method_10_code 14 = .ok (.iload_n 2, 1) := by decide +kernel
theorem own_d_jdk_68_method_10_code_15 : decode jdk_68_method_10_code 15 = .ok (.isub, 1) := by decide +kernel
theorem own_d_jdk_68_method_10_code_16 : decode jdk_68_method_10_code 16 = .ok (.istore 4, 2) := by decide +kernel
theorem own_d_jdk_68_method_10_code_18 : decode jdk_68_method_10_code 18 = .ok (.iload_n 2, 1) := by decide +kernel
theorem own_d_jdk_68_method_10_code_19 : decode jdk_68_method_10_code 19 = .ok (.iload 4, 2) := by decide +kernel
theorem own_d_jdk_68_method_10_code_21 : decode jdk_68_method_10_code 21 = .ok (.iload_n 2, 1) := by decide +kernel
theorem own_d_jdk_68_method_10_code_22 : decode jdk_68_method_10_code 22 = .ok (.iconst 2, 1) := by decide +kernel
theorem own_d_jdk_68_method_10_code_23 : decode jdk_68_method_10_code 23 = .ok (.aload_n 0, 1) := by decide +kernel
theorem own_d_jdk_68_method_10_code_24 : decode jdk_68_method_10_code 24 = .ok (.getfield 22, 3) := by decide +kernel
theorem own_d_jdk_68_method_10_code_27 : decode jdk_68_method_10_code 27 = .ok (.ishl, 1) := by decide +kernel
theorem own_d_jdk_68_method_10_code_28 : decode jdk_68_method_10_code 28 = .ok (.iadd, 1) := by decide +kernel
theorem own_d_jdk_68_method_10_code_29 : decode jdk_68_method_10_code 29 = .ok (.invokestatic 114, 3) := by decide +kernel
theorem own_d_jdk_68_method_10_code_32 : decode jdk_68_method_10_code 32 = .ok (.istore 5, 2) := by decide +kernel
theorem own_d_jdk_68_method_10_code_34 : decode jdk_68_method_10_code 34 = .ok (.iload 5, 2) := by decide +kernel
theorem own_d_jdk_68_method_10_code_36 : decode jdk_68_method_10_code 36 = .ok (.ldc 39, 2) := by decide +kernel
theorem own_d_jdk_68_method_10_code_38 : decode jdk_68_method_10_code 38 = .ok (.if_icmp .ne 13, 3) := by decide +kernel
theorem own_d_jdk_68_method_10_code_51 : decode jdk_68_method_10_code 51 = .ok (.iload 5, 2) := by decide +kernel
theorem own_d_jdk_68_method_10_code_53 : decode jdk_68_method_10_code 53 = .ok (.aload_n 0, 1) := by decide +kernel
theorem own_d_jdk_68_method_10_code_54 : decode jdk_68_method_10_code 54 = .ok (.getfield 22, 3) := by decide +kernel
theorem own_d_jdk_68_method_10_code_57 : decode jdk_68_method_10_code 57 = .ok (.ishr, 1) := by decide +kernel
theorem own_d_jdk_68_method_10_code_58 : decode jdk_68_method_10_code 58 = .ok (.ireturn, 1) := by decide +kernel
theorem own_ef_ncp17 (m : MethodId) (x0 : Addr) (x1 : Int32) : entryFrame m #[(.ref x0), (.int x1)] 6 = mkF m 0 #[.val (.ref x0), .val (.int x1), .unset, .unset, .unset, .unset] [] := by first | (simp [entryFrame, mkF, argsToLocals, Value.category]; done) | rfl
def own_Q_ncp17 (Z : State) (b d : Addr) (kd : ClassId) (P : List Value) (h0 : Heap) (n0 : Nat) (v : Option Value) (h : Heap) (L : List Loc) : Prop := v = some (.int 34) ∧ Fr n0 L ∧ h = h0
set_option maxRecDepth 65536 in
set_option maxHeartbeats 40000000 in
theorem own_rm_ncp17 (l : Launch) (Z : State) (a0 : Array Value) (hw : ∀ d ∈ tables_1, d.before a0 Z = true) (ws : List Jvm.Cond) (b d : Addr) (kd : ClassId) (P : List Value) (h0 : Heap) (n0 : Nat) (Z0 : n0 ≤ h0.size) (E_b : Exa Z h0 b "java/lang/StringBuilder")(F_v : Fld Z h0 b "java/lang/AbstractStringBuilder" "value" "[B" (.ref d))(F_c : Fld Z h0 b "java/lang/AbstractStringBuilder" "coder" "B" (.int 0))(V_d : Arv Z h0 d kd .byte (16 : Int32) P (.int 0)) :
    MetFree l (⟨"java/lang/AbstractStringBuilder", "newCapacity", "(I)I"⟩ : MethodName) (head1 (Jvm.Cond.code (⟨"java/lang/AbstractStringBuilder", "newCapacity", "(I)I"⟩ : MethodName) jdk_68_method_10_code 6 (some .int) :: ws) ({ frames := 2, cells := 0, slots := 0, locals := 29 } : Room)) (fun aa UU => aa = #[(.ref b), (.int (17 : Int32))] ∧ Z.Warmed39 UU.vm ∧ UU.heap = h0) (fun _ _ _ _ _ => True) (fun _ UU oo UU' => ∃ vv LL, oo = .returned vv ∧ own_Q_ncp17 Z b d kd P h0 n0 vv UU'.heap LL ∧ FrameEnd UU oo UU' LL ({ frames := 2, cells := 0, slots := 0, locals := 29 } : Room).cells ({ frames := 2, cells := 0, slots := 0, locals := 29 } : Room).slots) := by
  refine MetFree.of_bodySF (plainFor_of_name own_pn2) hisR ?_
  intro p e s m args below meth c s₁ Bd hml0 hP hK
  obtain ⟨rfl, hZ, hh⟩ := hP
  have hx := Bd.exec
  have hby := Bd.bytes
  have hml : c.maxLocals = 6 := hml0
  have hown : s.vm.findClass "java/lang/AbstractStringBuilder" = some m.cls := findClass_of_methodNamed Bd.named
  have hnm := (name_of_methodNamed Bd.named Bd.method).1
  have X0 : Stand p l e ({ frames := 2, cells := 0, slots := 0, locals := 29 } : Room) s m #[(.ref b), (.int (17 : Int32))] below meth c s₁ [] 0 0 := Stand.of_body Bd
  have e0 : s₁.heap = h0 := by rw [← hh, Bd.state]; rfl
  have N0 := Fr.nil n0
  show own_Gl p e below (own_Post s (own_Q_ncp17 Z b d kd P h0 n0) ({ frames := 2, cells := 0, slots := 0, locals := 29 } : Room).cells ({ frames := 2, cells := 0, slots := 0, locals := 29 } : Room).slots) _
  refine own_st (fun tg_ kg_ => castTop (own_ef_ncp17 m b (17 : Int32)) kg_) ?_
  show own_Gl p e below _ (s₁.setTop (mkF m 0 #[.val (.ref b), .val (.int (17 : Int32)), .unset, .unset, .unset, .unset] []))
  refine own_st (fun tg_ kg_ => XS.aloadN X0.here hx rfl (hb hby own_d_jdk_68_method_10_code_0) rfl rfl kg_) ?_
  show own_Gl p e below _ (s₁.setTop (mkF m 1 #[.val (.ref b), .val (.int (17 : Int32)), .unset, .unset, .unset, .unset] [(.ref b)]))
  obtain ⟨T1, X1, e1, st1⟩ := getF X0 hx hZ hown (host := "") (Or.inl (hw _ (List.mem_of_getElem? (i := 53) rfl))) Via.refl e0 F_v (g := (mkF m 1 #[.val (.ref b), .val (.int (17 : Int32)), .unset, .unset, .unset, .unset] [(.ref b)])) rfl rfl (hb hby own_d_jdk_68_method_10_code_1)
  refine own_st st1 ?_
  try clear st1
  show own_Gl p e below _ (T1.setTop (mkF m 4 #[.val (.ref b), .val (.int (17 : Int32)), .unset, .unset, .unset, .unset] [(.ref d)]))
  obtain ⟨cl2, Ar2, qa2, Sa2, Na2, Ha2, Ga2⟩ := id V_d
  refine own_st (fun tg_ kg_ => X1.arraylength hx (by rw [e1]; exact Ar2.1) (State.isArrayOf_alike hZ.alike Ar2.2.1) (g := (mkF m 4 #[.val (.ref b), .val (.int (17 : Int32)), .unset, .unset, .unset, .unset] [(.ref d)])) rfl rfl (hb hby own_d_jdk_68_method_10_code_4) _ kg_) ?_
  rw [len_of Sa2 Na2]
  show own_Gl p e below _ (T1.setTop (mkF m 5 #[.val (.ref b), .val (.int (17 : Int32)), .unset, .unset, .unset, .unset] [(.int (16 : Int32))]))
  refine own_st (fun tg_ kg_ => XS.istoreN X1.here hx rfl (hb hby own_d_jdk_68_method_10_code_5) rfl (l' := #[.val (.ref b), .val (.int (17 : Int32)), .val (.int (16 : Int32)), .unset, .unset, .unset]) rfl kg_) ?_
  show own_Gl p e below _ (T1.setTop (mkF m 6 #[.val (.ref b), .val (.int (17 : Int32)), .val (.int (16 : Int32)), .unset, .unset, .unset] []))
  refine own_st (fun tg_ kg_ => XS.iloadN X1.here hx rfl (hb hby own_d_jdk_68_method_10_code_6) rfl kg_) ?_
  show own_Gl p e below _ (T1.setTop (mkF m 7 #[.val (.ref b), .val (.int (17 : Int32)), .val (.int (16 : Int32)), .unset, .unset, .unset] [(.int (17 : Int32))]))
  refine own_st (fun tg_ kg_ => XS.aloadN X1.here hx rfl (hb hby own_d_jdk_68_method_10_code_7) rfl rfl kg_) ?_
  show own_Gl p e below _ (T1.setTop (mkF m 8 #[.val (.ref b), .val (.int (17 : Int32)), .val (.int (16 : Int32)), .unset, .unset, .unset] [(.ref b), (.int (17 : Int32))]))
  obtain ⟨T3, X3, e3, st3⟩ := getF X1 hx hZ hown (host := "") (Or.inl (hw _ (List.mem_of_getElem? (i := 55) rfl))) Via.refl e1 F_c (g := (mkF m 8 #[.val (.ref b), .val (.int (17 : Int32)), .val (.int (16 : Int32)), .unset, .unset, .unset] [(.ref b), (.int (17 : Int32))])) rfl rfl (hb hby own_d_jdk_68_method_10_code_8)
  refine own_st st3 ?_
  try clear st3
  try clear e1
  try clear X1
  try clear T1
  show own_Gl p e below _ (T3.setTop (mkF m 11 #[.val (.ref b), .val (.int (17 : Int32)), .val (.int (16 : Int32)), .unset, .unset, .unset] [(.int (0 : Int32)), (.int (17 : Int32))]))
  refine own_st (fun tg_ kg_ => XS.ishl X3.here hx rfl (hb hby own_d_jdk_68_method_10_code_11) rfl kg_) ?_
  show own_Gl p e below _ (T3.setTop (mkF m 12 #[.val (.ref b), .val (.int (17 : Int32)), .val (.int (16 : Int32)), .unset, .unset, .unset] [(.int ((17 : Int32) <<< ((0 : Int32) &&& 31)))]))
  rw [(by decide : ((17 : Int32) <<< ((0 : Int32) &&& 31)) = (17 : Int32))]
  show own_Gl p e below _ (T3.setTop (mkF m 12 #[.val (.ref b), .val (.int (17 : Int32)), .val (.int (16 : Int32)), .unset, .unset, .unset] [(.int (17 : Int32))]))
  refine own_st (fun tg_ kg_ => XS.istoreN X3.here hx rfl (hb hby own_d_jdk_68_method_10_code_12) rfl (l' := #[.val (.ref b), .val (.int (17 : Int32)), .val (.int (16 : Int32)), .val (.int (17 : Int32)), .unset, .unset]) rfl kg_) ?_
  show own_Gl p e below _ (T3.setTop (mkF m 13 #[.val (.ref b), .val (.int (17 : Int32)), .val (.int (16 : Int32)), .val (.int (17 : Int32)), .unset, .unset] []))
  refine own_st (fun tg_ kg_ => XS.iloadN X3.here hx rfl (hb hby own_d_jdk_68_method_10_code_13) rfl kg_) ?_
  show own_Gl p e below _ (T3.setTop (mkF m 14 #[.val (.ref b), .val (.int (17 : Int32)), .val (.int (16 : Int32)), .val (.int (17 : Int32)), .unset, .unset] [(.int (17 : Int32))]))
  refine own_st (fun tg_ kg_ => XS.iloadN X3.here hx rfl (hb hby own_d_jdk_68_method_10_code_14) rfl kg_) ?_
  show own_Gl p e below _ (T3.setTop (mkF m 15 #[.val (.ref b), .val (.int (17 : Int32)), .val (.int (16 : Int32)), .val (.int (17 : Int32)), .unset, .unset] [(.int (16 : Int32)), (.int (17 : Int32))]))
  refine own_st (fun tg_ kg_ => XS.isub X3.here hx rfl (hb hby own_d_jdk_68_method_10_code_15) rfl kg_) ?_
  show own_Gl p e below _ (T3.setTop (mkF m 16 #[.val (.ref b), .val (.int (17 : Int32)), .val (.int (16 : Int32)), .val (.int (17 : Int32)), .unset, .unset] [(.int (1 : Int32))]))
  refine own_st (fun tg_ kg_ => XS.istore X3.here hx rfl (hb hby own_d_jdk_68_method_10_code_16) rfl (l' := #[.val (.ref b), .val (.int (17 : Int32)), .val (.int (16 : Int32)), .val (.int (17 : Int32)), .val (.int (1 : Int32)), .unset]) rfl kg_) ?_
  show own_Gl p e below _ (T3.setTop (mkF m 18 #[.val (.ref b), .val (.int (17 : Int32)), .val (.int (16 : Int32)), .val (.int (17 : Int32)), .val (.int (1 : Int32)), .unset] []))
  refine own_st (fun tg_ kg_ => XS.iloadN X3.here hx rfl (hb hby own_d_jdk_68_method_10_code_18) rfl kg_) ?_
  show own_Gl p e below _ (T3.setTop (mkF m 19 #[.val (.ref b), .val (.int (17 : Int32)), .val (.int (16 : Int32)), .val (.int (17 : Int32)), .val (.int (1 : Int32)), .unset] [(.int (16 : Int32))]))
  refine own_st (fun tg_ kg_ => XS.iload X3.here hx rfl (hb hby own_d_jdk_68_method_10_code_19) rfl kg_) ?_
  show own_Gl p e below _ (T3.setTop (mkF m 21 #[.val (.ref b), .val (.int (17 : Int32)), .val (.int (16 : Int32)), .val (.int (17 : Int32)), .val (.int (1 : Int32)), .unset] [(.int (1 : Int32)), (.int (16 : Int32))]))
  refine own_st (fun tg_ kg_ => XS.iloadN X3.here hx rfl (hb hby own_d_jdk_68_method_10_code_21) rfl kg_) ?_
  show own_Gl p e below _ (T3.setTop (mkF m 22 #[.val (.ref b), .val (.int (17 : Int32)), .val (.int (16 : Int32)), .val (.int (17 : Int32)), .val (.int (1 : Int32)), .unset] [(.int (16 : Int32)), (.int (1 : Int32)), (.int (16 : Int32))]))
  refine own_st (fun tg_ kg_ => XS.iconst X3.here hx rfl (hb hby own_d_jdk_68_method_10_code_22) kg_) ?_
  show own_Gl p e below _ (T3.setTop (mkF m 23 #[.val (.ref b), .val (.int (17 : Int32)), .val (.int (16 : Int32)), .val (.int (17 : Int32)), .val (.int (1 : Int32)), .unset] [(.int (2 : Int32)), (.int (16 : Int32)), (.int (1 : Int32)), (.int (16 : Int32))]))
  refine own_st (fun tg_ kg_ => XS.aloadN X3.here hx rfl (hb hby own_d_jdk_68_method_10_code_23) rfl rfl kg_) ?_
  show own_Gl p e below _ (T3.setTop (mkF m 24 #[.val (.ref b), .val (.int (17 : Int32)), .val (.int (16 : Int32)), .val (.int (17 : Int32)), .val (.int (1 : Int32)), .unset] [(.ref b), (.int (2 : Int32)), (.int (16 : Int32)), (.int (1 : Int32)), (.int (16 : Int32))]))
  obtain ⟨T4, X4, e4, st4⟩ := getF X3 hx hZ hown (host := "") (Or.inl (hw _ (List.mem_of_getElem? (i := 55) rfl))) Via.refl e3 F_c (g := (mkF m 24 #[.val (.ref b), .val (.int (17 : Int32)), .val (.int (16 : Int32)), .val (.int (17 : Int32)), .val (.int (1 : Int32)), .unset] [(.ref b), (.int (2 : Int32)), (.int (16 : Int32)), (.int (1 : Int32)), (.int (16 : Int32))])) rfl rfl (hb hby own_d_jdk_68_method_10_code_24)
  refine own_st st4 ?_
  try clear st4
  try clear e3
  try clear X3
  try clear T3
  show own_Gl p e below _ (T4.setTop (mkF m 27 #[.val (.ref b), .val (.int (17 : Int32)), .val (.int (16 : Int32)), .val (.int (17 : Int32)), .val (.int (1 : Int32)), .unset] [(.int (0 : Int32)), (.int (2 : Int32)), (.int (16 : Int32)), (.int (1 : Int32)), (.int (16 : Int32))]))
  refine own_st (fun tg_ kg_ => XS.ishl X4.here hx rfl (hb hby own_d_jdk_68_method_10_code_27) rfl kg_) ?_
  show own_Gl p e below _ (T4.setTop (mkF m 28 #[.val (.ref b), .val (.int (17 : Int32)), .val (.int (16 : Int32)), .val (.int (17 : Int32)), .val (.int (1 : Int32)), .unset] [(.int ((2 : Int32) <<< ((0 : Int32) &&& 31))), (.int (16 : Int32)), (.int (1 : Int32)), (.int (16 : Int32))]))
  rw [(by decide : ((2 : Int32) <<< ((0 : Int32) &&& 31)) = (2 : Int32))]
  show own_Gl p e below _ (T4.setTop (mkF m 28 #[.val (.ref b), .val (.int (17 : Int32)), .val (.int (16 : Int32)), .val (.int (17 : Int32)), .val (.int (1 : Int32)), .unset] [(.int (2 : Int32)), (.int (16 : Int32)), (.int (1 : Int32)), (.int (16 : Int32))]))
  refine own_st (fun tg_ kg_ => XS.iadd X4.here hx rfl (hb hby own_d_jdk_68_method_10_code_28) rfl kg_) ?_
  show own_Gl p e below _ (T4.setTop (mkF m 29 #[.val (.ref b), .val (.int (17 : Int32)), .val (.int (16 : Int32)), .val (.int (17 : Int32)), .val (.int (1 : Int32)), .unset] [(.int (18 : Int32)), (.int (1 : Int32)), (.int (16 : Int32))]))
  obtain ⟨_, _, ⟨T5, L5, k5, n5⟩, -, X5, ⟨Lc5, hQ5, l5, y5, z5⟩, st5⟩ := Jvm.LawKit.callS X4 hx (y := (⟨"jdk/internal/util/ArraysSupport", "newLength", "(III)I"⟩ : MethodName)) hown (mvT hZ (hw _ (List.mem_of_getElem? (i := 222) rfl))) (mvT hZ (hw _ (List.mem_of_getElem? (i := 223) rfl))) (mvT hZ (hw _ (List.mem_of_getElem? (i := 224) rfl))) (mvT hZ (hw _ (List.mem_of_getElem? (i := 225) rfl))) (by decide) (backOf (W := 0) (own_rm_nln17 l Z a0 hw [] h0 n0 Z0) hZ (hw _ (List.mem_of_getElem? (i := 225) rfl)) (hw _ (List.mem_of_getElem? (i := 224) rfl)) (by decide) (by decide)) (g := (mkF m 29 #[.val (.ref b), .val (.int (17 : Int32)), .val (.int (16 : Int32)), .val (.int (17 : Int32)), .val (.int (1 : Int32)), .unset] [(.int (18 : Int32)), (.int (1 : Int32)), (.int (16 : Int32))])) rfl (by rw [hml]; rfl) (argsL := [(.int (16 : Int32)), (.int (1 : Int32)), (.int (18 : Int32))]) (rest := []) (lenOf own_pd1 rfl) rfl (by show 2 * 0 + _ ≤ _; exact Nat.le_of_eq rfl) (hb hby own_d_jdk_68_method_10_code_29) (fun _ _ => ⟨rfl, e4, (by decide : 0 + 0 ≤ _), (by decide : 0 + 0 ≤ _)⟩)
  dsimp only [Pt.U, Pt.locs, Pt.cells, Pt.slots] at X5 l5 y5 z5 st5 hQ5
  obtain rfl : k5 = 0 := y5
  obtain rfl : n5 = 0 := z5
  obtain ⟨rfl, N5q, e5⟩ := hQ5
  have N5 : Fr n0 L5 := by rw [l5]; exact Fr.app N0 N5q
  try clear l5
  refine own_st st5 ?_
  show own_Gl p e below _ (T5.setTop (mkF m 32 #[.val (.ref b), .val (.int (17 : Int32)), .val (.int (16 : Int32)), .val (.int (17 : Int32)), .val (.int (1 : Int32)), .unset] [(.int (34 : Int32))]))
  try clear st5
  try clear N5q
  try clear e4
  try clear X4
  try clear T4
  refine own_st (fun tg_ kg_ => XS.istore X5.here hx rfl (hb hby own_d_jdk_68_method_10_code_32) rfl (l' := #[.val (.ref b), .val (.int (17 : Int32)), .val (.int (16 : Int32)), .val (.int (17 : Int32)), .val (.int (1 : Int32)), .val (.int (34 : Int32))]) rfl kg_) ?_
  show own_Gl p e below _ (T5.setTop (mkF m 34 #[.val (.ref b), .val (.int (17 : Int32)), .val (.int (16 : Int32)), .val (.int (17 : Int32)), .val (.int (1 : Int32)), .val (.int (34 : Int32))] []))
  refine own_st (fun tg_ kg_ => XS.iload X5.here hx rfl (hb hby own_d_jdk_68_method_10_code_34) rfl kg_) ?_
  show own_Gl p e below _ (T5.setTop (mkF m 36 #[.val (.ref b), .val (.int (17 : Int32)), .val (.int (16 : Int32)), .val (.int (17 : Int32)), .val (.int (1 : Int32)), .val (.int (34 : Int32))] [(.int (34 : Int32))]))
  refine own_st (fun tg_ kg_ => X5.ldcInt hx hown (mvT hZ (hw _ (List.mem_of_getElem? (i := 230) rfl))) (g := (mkF m 36 #[.val (.ref b), .val (.int (17 : Int32)), .val (.int (16 : Int32)), .val (.int (17 : Int32)), .val (.int (1 : Int32)), .val (.int (34 : Int32))] [(.int (34 : Int32))])) rfl (hb hby own_d_jdk_68_method_10_code_36) _ kg_) ?_
  show own_Gl p e below _ (T5.setTop (mkF m 38 #[.val (.ref b), .val (.int (17 : Int32)), .val (.int (16 : Int32)), .val (.int (17 : Int32)), .val (.int (1 : Int32)), .val (.int (34 : Int32))] [(.int (2147483647 : Int32)), (.int (34 : Int32))]))
  refine own_st (fun tg_ kg_ => XS.icmpYes X5.here hx rfl (pc0 := 38) (pc' := 51) rfl (hb hby own_d_jdk_68_method_10_code_38) rfl (feq ((by decide : ¬ ((34 : Int32) = (2147483647 : Int32))))).2 (by decide) (by decide) kg_) ?_
  show own_Gl p e below _ (T5.setTop (mkF m 51 #[.val (.ref b), .val (.int (17 : Int32)), .val (.int (16 : Int32)), .val (.int (17 : Int32)), .val (.int (1 : Int32)), .val (.int (34 : Int32))] []))
  refine own_st (fun tg_ kg_ => XS.iload X5.here hx rfl (hb hby own_d_jdk_68_method_10_code_51) rfl kg_) ?_
  show own_Gl p e below _ (T5.setTop (mkF m 53 #[.val (.ref b), .val (.int (17 : Int32)), .val (.int (16 : Int32)), .val (.int (17 : Int32)), .val (.int (1 : Int32)), .val (.int (34 : Int32))] [(.int (34 : Int32))]))
  refine own_st (fun tg_ kg_ => XS.aloadN X5.here hx rfl (hb hby own_d_jdk_68_method_10_code_53) rfl rfl kg_) ?_
  show own_Gl p e below _ (T5.setTop (mkF m 54 #[.val (.ref b), .val (.int (17 : Int32)), .val (.int (16 : Int32)), .val (.int (17 : Int32)), .val (.int (1 : Int32)), .val (.int (34 : Int32))] [(.ref b), (.int (34 : Int32))]))
  obtain ⟨T6, X6, e6, st6⟩ := getF X5 hx hZ hown (host := "") (Or.inl (hw _ (List.mem_of_getElem? (i := 55) rfl))) Via.refl e5 F_c (g := (mkF m 54 #[.val (.ref b), .val (.int (17 : Int32)), .val (.int (16 : Int32)), .val (.int (17 : Int32)), .val (.int (1 : Int32)), .val (.int (34 : Int32))] [(.ref b), (.int (34 : Int32))])) rfl rfl (hb hby own_d_jdk_68_method_10_code_54)
  refine own_st st6 ?_
  try clear st6
  try clear e5
  try clear X5
  try clear T5
  show own_Gl p e below _ (T6.setTop (mkF m 57 #[.val (.ref b), .val (.int (17 : Int32)), .val (.int (16 : Int32)), .val (.int (17 : Int32)), .val (.int (1 : Int32)), .val (.int (34 : Int32))] [(.int (0 : Int32)), (.int (34 : Int32))]))
  refine own_st (fun tg_ kg_ => XS.ishr X6.here hx rfl (hb hby own_d_jdk_68_method_10_code_57) rfl kg_) ?_
  show own_Gl p e below _ (T6.setTop (mkF m 58 #[.val (.ref b), .val (.int (17 : Int32)), .val (.int (16 : Int32)), .val (.int (17 : Int32)), .val (.int (1 : Int32)), .val (.int (34 : Int32))] [(.int ((34 : Int32) >>> ((0 : Int32) &&& 31)))]))
  rw [(by decide : ((34 : Int32) >>> ((0 : Int32) &&& 31)) = (34 : Int32))]
  show own_Gl p e below _ (T6.setTop (mkF m 58 #[.val (.ref b), .val (.int (17 : Int32)), .val (.int (16 : Int32)), .val (.int (17 : Int32)), .val (.int (1 : Int32)), .val (.int (34 : Int32))] [(.int (34 : Int32))]))
  exact own_retI X6 hx Bd.notSynchronized Bd.returns (hb hby own_d_jdk_68_method_10_code_58) (by decide) (by decide) e6 (⟨rfl, N5, rfl⟩)
theorem own_pd2 : parseMethodDescriptor "(I)I" = some ⟨[.int], some .int⟩ := by decide +kernel
theorem own_pd3 : parseMethodDescriptor "([BI)[B" = some ⟨[(.array .byte), .int], some (.array .byte)⟩ := by decide +kernel
theorem own_d_jdk_68_method_9_code_17 : decode jdk_68_method_9_code 17 = .ok (.aload_n 0, 1) := by decide +kernel
theorem own_d_jdk_68_method_9_code_18 : decode jdk_68_method_9_code 18 = .ok (.aload_n 0, 1) := by decide +kernel
theorem own_d_jdk_68_method_9_code_19 : decode jdk_68_method_9_code 19 = .ok (.getfield 15, 3) := by decide +kernel
theorem own_d_jdk_68_method_9_code_22 : decode jdk_68_method_9_code 22 = .ok (.aload_n 0, 1) := by decide +kernel
theorem own_d_jdk_68_method_9_code_23 : decode jdk_68_method_9_code 23 = .ok (.iload_n 1, 1) := by decide +kernel
theorem own_d_jdk_68_method_9_code_24 : decode jdk_68_method_9_code 24 = .ok (.invokevirtual 104, 3) := by decide +kernel
theorem own_d_jdk_68_method_9_code_27 : decode jdk_68_method_9_code 27 = .ok (.aload_n 0, 1) := by decide +kernel
theorem own_d_jdk_68_method_9_code_28 : decode jdk_68_method_9_code 28 = .ok (.getfield 22, 3) := by decide +kernel
theorem own_d_jdk_68_method_9_code_31 : decode jdk_68_method_9_code 31 = .ok (.ishl, 1) := by decide +kernel
theorem own_d_jdk_68_method_9_code_32 : decode jdk_68_method_9_code 32 = .ok (.invokestatic 108, 3) := by decide +kernel
theorem own_d_jdk_68_method_9_code_35 : decode jdk_68_method_9_code 35 = .ok (.putfield 15, 3) := by decide +kernel
theorem own_ef_ec17 (m : MethodId) (x0 : Addr) (x1 : Int32) : entryFrame m #[(.ref x0), (.int x1)] 3 = mkF m 0 #[.val (.ref x0), .val (.int x1), .unset] [] := by first | (simp [entryFrame, mkF, argsToLocals, Value.category]; done) | rfl
def own_Q_ec17 (Z : State) (b d : Addr) (kd : ClassId) (P : List Value) (z1 : Int32) (h0 : Heap) (n0 : Nat) (v : Option Value) (h : Heap) (L : List Loc) : Prop := v = none ∧ Fr n0 L ∧ Keep h0 h [b] ∧ ∃ w kw, Fld Z h b "java/lang/AbstractStringBuilder" "value" "[B" (.ref w) ∧ Fld Z h b "java/lang/AbstractStringBuilder" "coder" "B" (.int 0) ∧ Fld Z h b "java/lang/AbstractStringBuilder" "count" "I" (.int z1) ∧ h0.size ≤ w ∧ Arv Z h w kw .byte (34 : Int32) (P ++ List.replicate 18 (.int 0)) (.int 0) ∧ Exa Z h w "[B"
set_option maxRecDepth 65536 in
set_option maxHeartbeats 40000000 in
theorem own_rm_ec17 (l : Launch) (Z : State) (a0 : Array Value) (hw : ∀ d ∈ tables_1, d.before a0 Z = true) (ws : List Jvm.Cond) (b d : Addr) (kd : ClassId) (P : List Value) (z1 : Int32) (h0 : Heap) (n0 : Nat) (Z0 : n0 ≤ h0.size) (E_b : Exa Z h0 b "java/lang/StringBuilder")(F_v : Fld Z h0 b "java/lang/AbstractStringBuilder" "value" "[B" (.ref d))(F_c : Fld Z h0 b "java/lang/AbstractStringBuilder" "coder" "B" (.int 0))(F_n : Fld Z h0 b "java/lang/AbstractStringBuilder" "count" "I" (.int z1))(V_d : Arv Z h0 d kd .byte (16 : Int32) P (.int 0)) (hP : P.length = 16) (ne_d_b : d ≠ b) (g_b : n0 ≤ b) :
    MetFree l (⟨"java/lang/AbstractStringBuilder", "ensureCapacityInternal", "(I)V"⟩ : MethodName) (head1 (Jvm.Cond.code (⟨"java/lang/AbstractStringBuilder", "ensureCapacityInternal", "(I)V"⟩ : MethodName) jdk_68_method_9_code 3 none :: ws) ({ frames := 3, cells := 1, slots := 34, locals := 75 } : Room)) (fun aa UU => aa = #[(.ref b), (.int (17 : Int32))] ∧ Z.Warmed39 UU.vm ∧ UU.heap = h0) (fun _ _ _ _ _ => True) (fun _ UU oo UU' => ∃ vv LL, oo = .returned vv ∧ own_Q_ec17 Z b d kd P z1 h0 n0 vv UU'.heap LL ∧ FrameEnd UU oo UU' LL ({ frames := 3, cells := 1, slots := 34, locals := 75 } : Room).cells ({ frames := 3, cells := 1, slots := 34, locals := 75 } : Room).slots) := by
  refine MetFree.of_bodySF (plainFor_of_name own_pn2) hisR ?_
  intro p e s m args below meth c s₁ Bd hml0 hP hK
  obtain ⟨rfl, hZ, hh⟩ := hP
  have hx := Bd.exec
  have hby := Bd.bytes
  have hml : c.maxLocals = 3 := hml0
  have hown : s.vm.findClass "java/lang/AbstractStringBuilder" = some m.cls := findClass_of_methodNamed Bd.named
  have hnm := (name_of_methodNamed Bd.named Bd.method).1
  have X0 : Stand p l e ({ frames := 3, cells := 1, slots := 34, locals := 75 } : Room) s m #[(.ref b), (.int (17 : Int32))] below meth c s₁ [] 0 0 := Stand.of_body Bd
  have e0 : s₁.heap = h0 := by rw [← hh, Bd.state]; rfl
  have N0 := Fr.nil n0
  have K0 : Keep h0 h0 [b] := Keep.refl h0 _
  show own_Gl p e below (own_Post s (own_Q_ec17 Z b d kd P z1 h0 n0) ({ frames := 3, cells := 1, slots := 34, locals := 75 } : Room).cells ({ frames := 3, cells := 1, slots := 34, locals := 75 } : Room).slots) _
  refine own_st (fun tg_ kg_ => castTop (own_ef_ec17 m b (17 : Int32)) kg_) ?_
  show own_Gl p e below _ (s₁.setTop (mkF m 0 #[.val (.ref b), .val (.int (17 : Int32)), .unset] []))
  refine own_st (fun tg_ kg_ => XS.aloadN X0.here hx rfl (hb hby own_d_jdk_68_method_9_code_0) rfl rfl kg_) ?_
  show own_Gl p e below _ (s₁.setTop (mkF m 1 #[.val (.ref b), .val (.int (17 : Int32)), .unset] [(.ref b)]))
  obtain ⟨T1, X1, e1, st1⟩ := getF X0 hx hZ hown (host := "") (Or.inl (hw _ (List.mem_of_getElem? (i := 53) rfl))) Via.refl e0 F_v (g := (mkF m 1 #[.val (.ref b), .val (.int (17 : Int32)), .unset] [(.ref b)])) rfl rfl (hb hby own_d_jdk_68_method_9_code_1)
  refine own_st st1 ?_
  try clear st1
  show own_Gl p e below _ (T1.setTop (mkF m 4 #[.val (.ref b), .val (.int (17 : Int32)), .unset] [(.ref d)]))
  obtain ⟨cl2, Ar2, qa2, Sa2, Na2, Ha2, Ga2⟩ := id (V_d.keep K0 (ninS ne_d_b nin0))
  refine own_st (fun tg_ kg_ => X1.arraylength hx (by rw [e1]; exact Ar2.1) (State.isArrayOf_alike hZ.alike Ar2.2.1) (g := (mkF m 4 #[.val (.ref b), .val (.int (17 : Int32)), .unset] [(.ref d)])) rfl rfl (hb hby own_d_jdk_68_method_9_code_4) _ kg_) ?_
  rw [len_of Sa2 Na2]
  show own_Gl p e below _ (T1.setTop (mkF m 5 #[.val (.ref b), .val (.int (17 : Int32)), .unset] [(.int (16 : Int32))]))
  refine own_st (fun tg_ kg_ => XS.aloadN X1.here hx rfl (hb hby own_d_jdk_68_method_9_code_5) rfl rfl kg_) ?_
  show own_Gl p e below _ (T1.setTop (mkF m 6 #[.val (.ref b), .val (.int (17 : Int32)), .unset] [(.ref b), (.int (16 : Int32))]))
  obtain ⟨T3, X3, e3, st3⟩ := getF X1 hx hZ hown (host := "") (Or.inl (hw _ (List.mem_of_getElem? (i := 55) rfl))) Via.refl e1 F_c (g := (mkF m 6 #[.val (.ref b), .val (.int (17 : Int32)), .unset] [(.ref b), (.int (16 : Int32))])) rfl rfl (hb hby own_d_jdk_68_method_9_code_6)
  refine own_st st3 ?_
  try clear st3
  try clear e1
  try clear X1
  try clear T1
  show own_Gl p e below _ (T3.setTop (mkF m 9 #[.val (.ref b), .val (.int (17 : Int32)), .unset] [(.int (0 : Int32)), (.int (16 : Int32))]))
  refine own_st (fun tg_ kg_ => XS.ishr X3.here hx rfl (hb hby own_d_jdk_68_method_9_code_9) rfl kg_) ?_
  show own_Gl p e below _ (T3.setTop (mkF m 10 #[.val (.ref b), .val (.int (17 : Int32)), .unset] [(.int ((16 : Int32) >>> ((0 : Int32) &&& 31)))]))
  rw [(by decide : ((16 : Int32) >>> ((0 : Int32) &&& 31)) = (16 : Int32))]
  show own_Gl p e below _ (T3.setTop (mkF m 10 #[.val (.ref b), .val (.int (17 : Int32)), .unset] [(.int (16 : Int32))]))
  refine own_st (fun tg_ kg_ => XS.istoreN X3.here hx rfl (hb hby own_d_jdk_68_method_9_code_10) rfl (l' := #[.val (.ref b), .val (.int (17 : Int32)), .val (.int (16 : Int32))]) rfl kg_) ?_
  show own_Gl p e below _ (T3.setTop (mkF m 11 #[.val (.ref b), .val (.int (17 : Int32)), .val (.int (16 : Int32))] []))
  refine own_st (fun tg_ kg_ => XS.iloadN X3.here hx rfl (hb hby own_d_jdk_68_method_9_code_11) rfl kg_) ?_
  show own_Gl p e below _ (T3.setTop (mkF m 12 #[.val (.ref b), .val (.int (17 : Int32)), .val (.int (16 : Int32))] [(.int (17 : Int32))]))
  refine own_st (fun tg_ kg_ => XS.iloadN X3.here hx rfl (hb hby own_d_jdk_68_method_9_code_12) rfl kg_) ?_
  show own_Gl p e below _ (T3.setTop (mkF m 13 #[.val (.ref b), .val (.int (17 : Int32)), .val (.int (16 : Int32))] [(.int (16 : Int32)), (.int (17 : Int32))]))
  refine own_st (fun tg_ kg_ => XS.isub X3.here hx rfl (hb hby own_d_jdk_68_method_9_code_13) rfl kg_) ?_
  show own_Gl p e below _ (T3.setTop (mkF m 14 #[.val (.ref b), .val (.int (17 : Int32)), .val (.int (16 : Int32))] [(.int (1 : Int32))]))
  refine own_st (fun tg_ kg_ => XS.ifNo X3.here hx rfl (hb hby own_d_jdk_68_method_9_code_14) rfl ((if0 _ _).trans (tlt ((by decide : (0 : Int32) < (1 : Int32)))).2.2.2) kg_) ?_
  show own_Gl p e below _ (T3.setTop (mkF m 17 #[.val (.ref b), .val (.int (17 : Int32)), .val (.int (16 : Int32))] []))
  refine own_st (fun tg_ kg_ => XS.aloadN X3.here hx rfl (hb hby own_d_jdk_68_method_9_code_17) rfl rfl kg_) ?_
  show own_Gl p e below _ (T3.setTop (mkF m 18 #[.val (.ref b), .val (.int (17 : Int32)), .val (.int (16 : Int32))] [(.ref b)]))
  refine own_st (fun tg_ kg_ => XS.aloadN X3.here hx rfl (hb hby own_d_jdk_68_method_9_code_18) rfl rfl kg_) ?_
  show own_Gl p e below _ (T3.setTop (mkF m 19 #[.val (.ref b), .val (.int (17 : Int32)), .val (.int (16 : Int32))] [(.ref b), (.ref b)]))
  obtain ⟨T4, X4, e4, st4⟩ := getF X3 hx hZ hown (host := "") (Or.inl (hw _ (List.mem_of_getElem? (i := 53) rfl))) Via.refl e3 F_v (g := (mkF m 19 #[.val (.ref b), .val (.int (17 : Int32)), .val (.int (16 : Int32))] [(.ref b), (.ref b)])) rfl rfl (hb hby own_d_jdk_68_method_9_code_19)
  refine own_st st4 ?_
  try clear st4
  try clear e3
  try clear X3
  try clear T3
  show own_Gl p e below _ (T4.setTop (mkF m 22 #[.val (.ref b), .val (.int (17 : Int32)), .val (.int (16 : Int32))] [(.ref d), (.ref b)]))
  refine own_st (fun tg_ kg_ => XS.aloadN X4.here hx rfl (hb hby own_d_jdk_68_method_9_code_22) rfl rfl kg_) ?_
  show own_Gl p e below _ (T4.setTop (mkF m 23 #[.val (.ref b), .val (.int (17 : Int32)), .val (.int (16 : Int32))] [(.ref b), (.ref d), (.ref b)]))
  refine own_st (fun tg_ kg_ => XS.iloadN X4.here hx rfl (hb hby own_d_jdk_68_method_9_code_23) rfl kg_) ?_
  show own_Gl p e below _ (T4.setTop (mkF m 24 #[.val (.ref b), .val (.int (17 : Int32)), .val (.int (16 : Int32))] [(.int (17 : Int32)), (.ref b), (.ref d), (.ref b)]))
  obtain ⟨cq5, kq5, q5a, q5b, q5c⟩ := isOf hZ e4 E_b
  obtain ⟨_, _, ⟨T5, L5, k5, n5⟩, -, X5, ⟨Lc5, hQ5, l5, y5, z5⟩, st5⟩ := X4.virtualBack hx (y := (⟨"java/lang/AbstractStringBuilder", "newCapacity", "(I)I"⟩ : MethodName)) (z := (⟨"java/lang/AbstractStringBuilder", "newCapacity", "(I)I"⟩ : MethodName)) hown (mvT hZ (hw _ (List.mem_of_getElem? (i := 217) rfl))) (mvT hZ (own_decl (hw _ (List.mem_of_getElem? (i := 218) rfl)) (hw _ (List.mem_of_getElem? (i := 221) rfl)))) (notFace_of_selects (args := #[]) (mvT hZ (hw _ (List.mem_of_getElem? (i := 220) rfl)))) (mvT hZ (hw _ (List.mem_of_getElem? (i := 220) rfl))) (mvT hZ (hw _ (List.mem_of_getElem? (i := 218) rfl))) (by decide) (backOf (W := 2) (own_rm_ncp17 l Z a0 hw [] b d kd P h0 n0 (Nat.le_trans Z0 K0.1) E_b F_v F_c (V_d.keep K0 (ninS ne_d_b nin0))) hZ (hw _ (List.mem_of_getElem? (i := 221) rfl)) (hw _ (List.mem_of_getElem? (i := 47) rfl)) (by decide) (by decide)) q5a q5c (g := (mkF m 24 #[.val (.ref b), .val (.int (17 : Int32)), .val (.int (16 : Int32))] [(.int (17 : Int32)), (.ref b), (.ref d), (.ref b)])) rfl (by rw [hml]; rfl) (Steps.refl _) (argsL := [(.int (17 : Int32))]) (rest := [(.ref d), (.ref b)]) (lenOf own_pd2 rfl) rfl (by show 2 * 0 + _ ≤ _; exact Nat.le_of_eq rfl) (hb hby own_d_jdk_68_method_9_code_24) (fun _ _ => ⟨rfl, e4, (by decide : 0 + 0 ≤ _), (by decide : 0 + 0 ≤ _)⟩)
  dsimp only [Pt.U, Pt.locs, Pt.cells, Pt.slots] at X5 l5 y5 z5 st5 hQ5
  obtain rfl : k5 = 0 := y5
  obtain rfl : n5 = 0 := z5
  obtain ⟨rfl, N5q, e5⟩ := hQ5
  have N5 : Fr n0 L5 := by rw [l5]; exact Fr.app N0 N5q
  try clear l5
  refine own_tr st5 ?_
  show own_Gl p e below _ (T5.setTop (mkF m 27 #[.val (.ref b), .val (.int (17 : Int32)), .val (.int (16 : Int32))] [(.int (34 : Int32)), (.ref d), (.ref b)]))
  try clear st5
  try clear N5q
  try clear e4
  try clear X4
  try clear T4
  refine own_st (fun tg_ kg_ => XS.aloadN X5.here hx rfl (hb hby own_d_jdk_68_method_9_code_27) rfl rfl kg_) ?_
  show own_Gl p e below _ (T5.setTop (mkF m 28 #[.val (.ref b), .val (.int (17 : Int32)), .val (.int (16 : Int32))] [(.ref b), (.int (34 : Int32)), (.ref d), (.ref b)]))
  obtain ⟨T6, X6, e6, st6⟩ := getF X5 hx hZ hown (host := "") (Or.inl (hw _ (List.mem_of_getElem? (i := 55) rfl))) Via.refl e5 F_c (g := (mkF m 28 #[.val (.ref b), .val (.int (17 : Int32)), .val (.int (16 : Int32))] [(.ref b), (.int (34 : Int32)), (.ref d), (.ref b)])) rfl rfl (hb hby own_d_jdk_68_method_9_code_28)
  refine own_st st6 ?_
  try clear st6
  try clear e5
  try clear X5
  try clear T5
  show own_Gl p e below _ (T6.setTop (mkF m 31 #[.val (.ref b), .val (.int (17 : Int32)), .val (.int (16 : Int32))] [(.int (0 : Int32)), (.int (34 : Int32)), (.ref d), (.ref b)]))
  refine own_st (fun tg_ kg_ => XS.ishl X6.here hx rfl (hb hby own_d_jdk_68_method_9_code_31) rfl kg_) ?_
  show own_Gl p e below _ (T6.setTop (mkF m 32 #[.val (.ref b), .val (.int (17 : Int32)), .val (.int (16 : Int32))] [(.int ((34 : Int32) <<< ((0 : Int32) &&& 31))), (.ref d), (.ref b)]))
  rw [(by decide : ((34 : Int32) <<< ((0 : Int32) &&& 31)) = (34 : Int32))]
  show own_Gl p e below _ (T6.setTop (mkF m 32 #[.val (.ref b), .val (.int (17 : Int32)), .val (.int (16 : Int32))] [(.int (34 : Int32)), (.ref d), (.ref b)]))
  obtain ⟨_, _, ⟨T7, L7, k7, n7⟩, -, X7, ⟨Lc7, hQ7, l7, y7, z7⟩, st7⟩ := Jvm.LawKit.callS X6 hx (y := (⟨"java/util/Arrays", "copyOf", "([BI)[B"⟩ : MethodName)) hown (mvT hZ (hw _ (List.mem_of_getElem? (i := 231) rfl))) (mvT hZ (hw _ (List.mem_of_getElem? (i := 232) rfl))) (mvT hZ (hw _ (List.mem_of_getElem? (i := 165) rfl))) (mvT hZ (hw _ (List.mem_of_getElem? (i := 233) rfl))) (by decide) (backOf (W := 1) (own_rm_cpy l Z a0 hw [] d kd P h0 n0 (Nat.le_trans Z0 K0.1) (V_d.keep K0 (ninS ne_d_b nin0)) hP) hZ (hw _ (List.mem_of_getElem? (i := 233) rfl)) (hw _ (List.mem_of_getElem? (i := 165) rfl)) (by decide) (by decide)) (g := (mkF m 32 #[.val (.ref b), .val (.int (17 : Int32)), .val (.int (16 : Int32))] [(.int (34 : Int32)), (.ref d), (.ref b)])) rfl (by rw [hml]; rfl) (argsL := [(.ref d), (.int (34 : Int32))]) (rest := [(.ref b)]) (lenOf own_pd3 rfl) rfl (by show 2 * 0 + _ ≤ _; exact Nat.le_of_eq rfl) (hb hby own_d_jdk_68_method_9_code_32) (fun _ _ => ⟨rfl, e6, (by decide : 0 + 1 ≤ _), (by decide : 0 + 34 ≤ _)⟩)
  dsimp only [Pt.U, Pt.locs, Pt.cells, Pt.slots] at X7 l7 y7 z7 st7 hQ7
  obtain rfl : k7 = 1 := y7
  obtain rfl : n7 = 34 := z7
  obtain ⟨⟨w, kw, rfl, szc7, V_w, E_w⟩, N7q, Kc7⟩ := hQ7
  have N7 : Fr n0 L7 := by rw [l7]; exact Fr.app N5 N7q
  try clear l7
  refine own_st st7 ?_
  have ne_b_w : b ≠ w := Nat.ne_of_lt (Nat.lt_of_lt_of_le F_n.lt szc7)
  have ne_d_w : d ≠ w := Nat.ne_of_lt (Nat.lt_of_lt_of_le (V_d.keep K0 (ninS ne_d_b nin0)).lt szc7)
  have sz_w : h0.size ≤ w := Nat.le_trans K0.1 szc7
  have g_w : n0 ≤ w := Nat.le_trans Z0 sz_w
  have sz_w : h0.size ≤ w := Nat.le_trans K0.1 szc7
  replace F_n := F_n.ext Kc7
  replace E_b := E_b.ext Kc7
  replace F_v := F_v.ext Kc7
  replace F_c := F_c.ext Kc7
  have K8 : Keep h0 T7.heap [b] := K0.ext Kc7
  try clear Kc7
  show own_Gl p e below _ (T7.setTop (mkF m 35 #[.val (.ref b), .val (.int (17 : Int32)), .val (.int (16 : Int32))] [(.ref w), (.ref b)]))
  try clear st7
  try clear N7q
  try clear N5
  try clear e6
  try clear X6
  try clear T6
  obtain ⟨T9, h9, X9, e9, W9, st9⟩ := putF X7 hx hZ hown (host := "") (Or.inl (hw _ (List.mem_of_getElem? (i := 53) rfl))) Via.refl rfl F_v E_b (Or.inl (hw _ (List.mem_of_getElem? (i := 54) rfl))) (hw _ (List.mem_of_getElem? (i := 38) rfl)) (ty := (.array .byte)) (by decide) rfl rfl (g := (mkF m 35 #[.val (.ref b), .val (.int (17 : Int32)), .val (.int (16 : Int32))] [(.ref w), (.ref b)])) rfl rfl (hb hby own_d_jdk_68_method_9_code_35)
  have N9 := Fr.snoc X9 N7 g_b
  try clear N7
  replace F_n := F_n.other W9 (Or.inr (slot_ne (Or.inl (hw _ (List.mem_of_getElem? (i := 68) rfl))) (Or.inl (hw _ (List.mem_of_getElem? (i := 54) rfl))) (by decide) (t := .int) (t' := (.array .byte)) (by decide) (by decide)))
  replace E_b := E_b.wr W9
  replace F_v := F_v.same W9
  replace F_c := F_c.other W9 (Or.inr (slot_ne (Or.inl (hw _ (List.mem_of_getElem? (i := 56) rfl))) (Or.inl (hw _ (List.mem_of_getElem? (i := 54) rfl))) (by decide) (t := .byte) (t' := (.array .byte)) (by decide) (by decide)))
  replace V_w := V_w.other W9 ne_b_w.symm
  replace E_w := E_w.wr W9
  have K10 : Keep h0 h9 [b] := K8.wr W9 (Or.inl (List.mem_of_getElem? (i := 0) rfl))
  try clear K8
  refine own_st st9 ?_
  try clear st9
  try clear X7
  try clear T7
  show own_Gl p e below _ (T9.setTop (mkF m 38 #[.val (.ref b), .val (.int (17 : Int32)), .val (.int (16 : Int32))] []))
  exact own_retV X9 hx Bd.notSynchronized Bd.returns (hb hby own_d_jdk_68_method_9_code_38) (by decide) (by decide) e9 (⟨rfl, N9, K10, _, _, F_v, F_c, F_n, sz_w, V_w, E_w⟩)
theorem own_ef_max18 (m : MethodId) (x0 : Int32) (x1 : Int32) : entryFrame m #[(.int x0), (.int x1)] 2 = mkF m 0 #[.val (.int x0), .val (.int x1)] [] := by first | (simp [entryFrame, mkF, argsToLocals, Value.category]; done) | rfl
def own_Q_max18 (Z : State)  (h0 : Heap) (n0 : Nat) (v : Option Value) (h : Heap) (L : List Loc) : Prop := v = some (.int 18) ∧ Fr n0 L ∧ h = h0
set_option maxRecDepth 65536 in
set_option maxHeartbeats 40000000 in
theorem own_rm_max18 (l : Launch) (Z : State) (a0 : Array Value) (hw : ∀ d ∈ tables_1, d.before a0 Z = true) (ws : List Jvm.Cond)  (h0 : Heap) (n0 : Nat) (Z0 : n0 ≤ h0.size)  :
    MetFree l (⟨"java/lang/Math", "max", "(II)I"⟩ : MethodName) (head1 (Jvm.Cond.code (⟨"java/lang/Math", "max", "(II)I"⟩ : MethodName) jdk_29_method_65_code 2 (some .int) :: ws) ({ frames := 0, cells := 0, slots := 0, locals := 0 } : Room)) (fun aa UU => aa = #[(.int (2 : Int32)), (.int (18 : Int32))] ∧ Z.Warmed39 UU.vm ∧ UU.heap = h0) (fun _ _ _ _ _ => True) (fun _ UU oo UU' => ∃ vv LL, oo = .returned vv ∧ own_Q_max18 Z  h0 n0 vv UU'.heap LL ∧ FrameEnd UU oo UU' LL ({ frames := 0, cells := 0, slots := 0, locals := 0 } : Room).cells ({ frames := 0, cells := 0, slots := 0, locals := 0 } : Room).slots) := by
  refine MetFree.of_bodySF (Jvm.Free.JP.mathPlain rfl (by decide +kernel)) hisR ?_
  intro p e s m args below meth c s₁ Bd hml0 hP hK
  obtain ⟨rfl, hZ, hh⟩ := hP
  have hx := Bd.exec
  have hby := Bd.bytes
  have hml : c.maxLocals = 2 := hml0
  have hown : s.vm.findClass "java/lang/Math" = some m.cls := findClass_of_methodNamed Bd.named
  have hnm := (name_of_methodNamed Bd.named Bd.method).1
  have X0 : Stand p l e ({ frames := 0, cells := 0, slots := 0, locals := 0 } : Room) s m #[(.int (2 : Int32)), (.int (18 : Int32))] below meth c s₁ [] 0 0 := Stand.of_body Bd
  have e0 : s₁.heap = h0 := by rw [← hh, Bd.state]; rfl
  have N0 := Fr.nil n0
  show own_Gl p e below (own_Post s (own_Q_max18 Z  h0 n0) ({ frames := 0, cells := 0, slots := 0, locals := 0 } : Room).cells ({ frames := 0, cells := 0, slots := 0, locals := 0 } : Room).slots) _
  refine own_st (fun tg_ kg_ => castTop (own_ef_max18 m (2 : Int32) (18 : Int32)) kg_) ?_
  show own_Gl p e below _ (s₁.setTop (mkF m 0 #[.val (.int (2 : Int32)), .val (.int (18 : Int32))] []))
  refine own_st (fun tg_ kg_ => XS.iloadN X0.here hx rfl (hb hby own_d_jdk_29_method_65_code_0) rfl kg_) ?_
  show own_Gl p e below _ (s₁.setTop (mkF m 1 #[.val (.int (2 : Int32)), .val (.int (18 : Int32))] [(.int (2 : Int32))]))
  refine own_st (fun tg_ kg_ => XS.iloadN X0.here hx rfl (hb hby own_d_jdk_29_method_65_code_1) rfl kg_) ?_
  show own_Gl p e below _ (s₁.setTop (mkF m 2 #[.val (.int (2 : Int32)), .val (.int (18 : Int32))] [(.int (18 : Int32)), (.int (2 : Int32))]))
  refine own_st (fun tg_ kg_ => XS.icmpYes X0.here hx rfl (pc0 := 2) (pc' := 9) rfl (hb hby own_d_jdk_29_method_65_code_2) rfl (tlt ((by decide : (2 : Int32) < (18 : Int32)))).1 (by decide) (by decide) kg_) ?_
  show own_Gl p e below _ (s₁.setTop (mkF m 9 #[.val (.int (2 : Int32)), .val (.int (18 : Int32))] []))
  refine own_st (fun tg_ kg_ => XS.iloadN X0.here hx rfl (hb hby own_d_jdk_29_method_65_code_9) rfl kg_) ?_
  show own_Gl p e below _ (s₁.setTop (mkF m 10 #[.val (.int (2 : Int32)), .val (.int (18 : Int32))] [(.int (18 : Int32))]))
  exact own_retI X0 hx Bd.notSynchronized Bd.returns (hb hby own_d_jdk_29_method_65_code_10) (by decide) (by decide) e0 (⟨rfl, N0, rfl⟩)
theorem own_ef_nln18 (m : MethodId) (x0 : Int32) (x1 : Int32) (x2 : Int32) : entryFrame m #[(.int x0), (.int x1), (.int x2)] 4 = mkF m 0 #[.val (.int x0), .val (.int x1), .val (.int x2), .unset] [] := by first | (simp [entryFrame, mkF, argsToLocals, Value.category]; done) | rfl
def own_Q_nln18 (Z : State)  (h0 : Heap) (n0 : Nat) (v : Option Value) (h : Heap) (L : List Loc) : Prop := v = some (.int 34) ∧ Fr n0 L ∧ h = h0
set_option maxRecDepth 65536 in
set_option maxHeartbeats 40000000 in
theorem own_rm_nln18 (l : Launch) (Z : State) (a0 : Array Value) (hw : ∀ d ∈ tables_1, d.before a0 Z = true) (ws : List Jvm.Cond)  (h0 : Heap) (n0 : Nat) (Z0 : n0 ≤ h0.size)  :
    MetFree l (⟨"jdk/internal/util/ArraysSupport", "newLength", "(III)I"⟩ : MethodName) (head1 (Jvm.Cond.code (⟨"jdk/internal/util/ArraysSupport", "newLength", "(III)I"⟩ : MethodName) jdk_48_method_27_code 4 (some .int) :: ws) ({ frames := 1, cells := 0, slots := 0, locals := 14 } : Room)) (fun aa UU => aa = #[(.int (16 : Int32)), (.int (2 : Int32)), (.int (18 : Int32))] ∧ Z.Warmed39 UU.vm ∧ UU.heap = h0) (fun _ _ _ _ _ => True) (fun _ UU oo UU' => ∃ vv LL, oo = .returned vv ∧ own_Q_nln18 Z  h0 n0 vv UU'.heap LL ∧ FrameEnd UU oo UU' LL ({ frames := 1, cells := 0, slots := 0, locals := 14 } : Room).cells ({ frames := 1, cells := 0, slots := 0, locals := 14 } : Room).slots) := by
  refine MetFree.of_bodySF (plainFor_of_name own_pn4) hisR ?_
  intro p e s m args below meth c s₁ Bd hml0 hP hK
  obtain ⟨rfl, hZ, hh⟩ := hP
  have hx := Bd.exec
  have hby := Bd.bytes
  have hml : c.maxLocals = 4 := hml0
  have hown : s.vm.findClass "jdk/internal/util/ArraysSupport" = some m.cls := findClass_of_methodNamed Bd.named
  have hnm := (name_of_methodNamed Bd.named Bd.method).1
  have X0 : Stand p l e ({ frames := 1, cells := 0, slots := 0, locals := 14 } : Room) s m #[(.int (16 : Int32)), (.int (2 : Int32)), (.int (18 : Int32))] below meth c s₁ [] 0 0 := Stand.of_body Bd
  have e0 : s₁.heap = h0 := by rw [← hh, Bd.state]; rfl
  have N0 := Fr.nil n0
  show own_Gl p e below (own_Post s (own_Q_nln18 Z  h0 n0) ({ frames := 1, cells := 0, slots := 0, locals := 14 } : Room).cells ({ frames := 1, cells := 0, slots := 0, locals := 14 } : Room).slots) _
  refine own_st (fun tg_ kg_ => castTop (own_ef_nln18 m (16 : Int32) (2 : Int32) (18 : Int32)) kg_) ?_
  show own_Gl p e below _ (s₁.setTop (mkF m 0 #[.val (.int (16 : Int32)), .val (.int (2 : Int32)), .val (.int (18 : Int32)), .unset] []))
  refine own_st (fun tg_ kg_ => XS.iloadN X0.here hx rfl (hb hby own_d_jdk_48_method_27_code_0) rfl kg_) ?_
  show own_Gl p e below _ (s₁.setTop (mkF m 1 #[.val (.int (16 : Int32)), .val (.int (2 : Int32)), .val (.int (18 : Int32)), .unset] [(.int (16 : Int32))]))
  refine own_st (fun tg_ kg_ => XS.iloadN X0.here hx rfl (hb hby own_d_jdk_48_method_27_code_1) rfl kg_) ?_
  show own_Gl p e below _ (s₁.setTop (mkF m 2 #[.val (.int (16 : Int32)), .val (.int (2 : Int32)), .val (.int (18 : Int32)), .unset] [(.int (2 : Int32)), (.int (16 : Int32))]))
  refine own_st (fun tg_ kg_ => XS.iloadN X0.here hx rfl (hb hby own_d_jdk_48_method_27_code_2) rfl kg_) ?_
  show own_Gl p e below _ (s₁.setTop (mkF m 3 #[.val (.int (16 : Int32)), .val (.int (2 : Int32)), .val (.int (18 : Int32)), .unset] [(.int (18 : Int32)), (.int (2 : Int32)), (.int (16 : Int32))]))
  obtain ⟨_, _, ⟨T1, L1, k1, n1⟩, -, X1, ⟨Lc1, hQ1, l1, y1, z1⟩, st1⟩ := Jvm.LawKit.callS X0 hx (y := (⟨"java/lang/Math", "max", "(II)I"⟩ : MethodName)) hown (mvT hZ (hw _ (List.mem_of_getElem? (i := 226) rfl))) (mvT hZ (hw _ (List.mem_of_getElem? (i := 227) rfl))) (mvT hZ (hw _ (List.mem_of_getElem? (i := 175) rfl))) (mvT hZ (hw _ (List.mem_of_getElem? (i := 228) rfl))) (by decide) (backOf (W := 1) (own_rm_max18 l Z a0 hw [] h0 n0 Z0) hZ (hw _ (List.mem_of_getElem? (i := 228) rfl)) (hw _ (List.mem_of_getElem? (i := 175) rfl)) (by decide) (by decide)) (g := (mkF m 3 #[.val (.int (16 : Int32)), .val (.int (2 : Int32)), .val (.int (18 : Int32)), .unset] [(.int (18 : Int32)), (.int (2 : Int32)), (.int (16 : Int32))])) rfl (by rw [hml]; rfl) (argsL := [(.int (2 : Int32)), (.int (18 : Int32))]) (rest := [(.int (16 : Int32))]) (lenOf own_pd0 rfl) rfl (by show 2 * 0 + _ ≤ _; exact Nat.le_of_eq rfl) (hb hby own_d_jdk_48_method_27_code_3) (fun _ _ => ⟨rfl, e0, (by decide : 0 + 0 ≤ _), (by decide : 0 + 0 ≤ _)⟩)
  dsimp only [Pt.U, Pt.locs, Pt.cells, Pt.slots] at X1 l1 y1 z1 st1 hQ1
  obtain rfl : k1 = 0 := y1
  obtain rfl : n1 = 0 := z1
  obtain ⟨rfl, N1q, e1⟩ := hQ1
  have N1 : Fr n0 L1 := by rw [l1]; exact Fr.app N0 N1q
  try clear l1
  refine own_st st1 ?_
  show own_Gl p e below _ (T1.setTop (mkF m 6 #[.val (.int (16 : Int32)), .val (.int (2 : Int32)), .val (.int (18 : Int32)), .unset] [(.int (18 : Int32)), (.int (16 : Int32))]))
  try clear st1
  try clear N1q
  refine own_st (fun tg_ kg_ => XS.iadd X1.here hx rfl (hb hby own_d_jdk_48_method_27_code_6) rfl kg_) ?_
  show own_Gl p e below _ (T1.setTop (mkF m 7 #[.val (.int (16 : Int32)), .val (.int (2 : Int32)), .val (.int (18 : Int32)), .unset] [(.int (34 : Int32))]))
  refine own_st (fun tg_ kg_ => XS.istoreN X1.here hx rfl (hb hby own_d_jdk_48_method_27_code_7) rfl (l' := #[.val (.int (16 : Int32)), .val (.int (2 : Int32)), .val (.int (18 : Int32)), .val (.int (34 : Int32))]) rfl kg_) ?_
  show own_Gl p e below _ (T1.setTop (mkF m 8 #[.val (.int (16 : Int32)), .val (.int (2 : Int32)), .val (.int (18 : Int32)), .val (.int (34 : Int32))] []))
  refine own_st (fun tg_ kg_ => XS.iconst X1.here hx rfl (hb hby own_d_jdk_48_method_27_code_8) kg_) ?_
  show own_Gl p e below _ (T1.setTop (mkF m 9 #[.val (.int (16 : Int32)), .val (.int (2 : Int32)), .val (.int (18 : Int32)), .val (.int (34 : Int32))] [(.int (0 : Int32))]))
  refine own_st (fun tg_ kg_ => XS.iloadN X1.here hx rfl (hb hby own_d_jdk_48_method_27_code_9) rfl kg_) ?_
  show own_Gl p e below _ (T1.setTop (mkF m 10 #[.val (.int (16 : Int32)), .val (.int (2 : Int32)), .val (.int (18 : Int32)), .val (.int (34 : Int32))] [(.int (34 : Int32)), (.int (0 : Int32))]))
  refine own_st (fun tg_ kg_ => XS.icmpNo X1.here hx rfl (hb hby own_d_jdk_48_method_27_code_10) rfl (tlt ((by decide : (0 : Int32) < (34 : Int32)))).2.1 kg_) ?_
  show own_Gl p e below _ (T1.setTop (mkF m 13 #[.val (.int (16 : Int32)), .val (.int (2 : Int32)), .val (.int (18 : Int32)), .val (.int (34 : Int32))] []))
  refine own_st (fun tg_ kg_ => XS.iloadN X1.here hx rfl (hb hby own_d_jdk_48_method_27_code_13) rfl kg_) ?_
  show own_Gl p e below _ (T1.setTop (mkF m 14 #[.val (.int (16 : Int32)), .val (.int (2 : Int32)), .val (.int (18 : Int32)), .val (.int (34 : Int32))] [(.int (34 : Int32))]))
  refine own_st (fun tg_ kg_ => X1.ldcInt hx hown (mvT hZ (hw _ (List.mem_of_getElem? (i := 229) rfl))) (g := (mkF m 14 #[.val (.int (16 : Int32)), .val (.int (2 : Int32)), .val (.int (18 : Int32)), .val (.int (34 : Int32))] [(.int (34 : Int32))])) rfl (hb hby own_d_jdk_48_method_27_code_14) _ kg_) ?_
  show own_Gl p e below _ (T1.setTop (mkF m 16 #[.val (.int (16 : Int32)), .val (.int (2 : Int32)), .val (.int (18 : Int32)), .val (.int (34 : Int32))] [(.int (2147483639 : Int32)), (.int (34 : Int32))]))
  refine own_st (fun tg_ kg_ => XS.icmpNo X1.here hx rfl (hb hby own_d_jdk_48_method_27_code_16) rfl (flt ((by decide : ¬ ((2147483639 : Int32) < (34 : Int32))))).2.2.1 kg_) ?_
  show own_Gl p e below _ (T1.setTop (mkF m 19 #[.val (.int (16 : Int32)), .val (.int (2 : Int32)), .val (.int (18 : Int32)), .val (.int (34 : Int32))] []))
  refine own_st (fun tg_ kg_ => XS.iloadN X1.here hx rfl (hb hby own_d_jdk_48_method_27_code_19) rfl kg_) ?_
  show own_Gl p e below _ (T1.setTop (mkF m 20 #[.val (.int (16 : Int32)), .val (.int (2 : Int32)), .val (.int (18 : Int32)), .val (.int (34 : Int32))] [(.int (34 : Int32))]))
  exact own_retI X1 hx Bd.notSynchronized Bd.returns (hb hby own_d_jdk_48_method_27_code_20) (by decide) (by decide) e1 (⟨rfl, N1, rfl⟩)
theorem own_ef_ncp18 (m : MethodId) (x0 : Addr) (x1 : Int32) : entryFrame m #[(.ref x0), (.int x1)] 6 = mkF m 0 #[.val (.ref x0), .val (.int x1), .unset, .unset, .unset, .unset] [] := by first | (simp [entryFrame, mkF, argsToLocals, Value.category]; done) | rfl
def own_Q_ncp18 (Z : State) (b d : Addr) (kd : ClassId) (P : List Value) (h0 : Heap) (n0 : Nat) (v : Option Value) (h : Heap) (L : List Loc) : Prop := v = some (.int 34) ∧ Fr n0 L ∧ h = h0
set_option maxRecDepth 65536 in
set_option maxHeartbeats 40000000 in
theorem own_rm_ncp18 (l : Launch) (Z : State) (a0 : Array Value) (hw : ∀ d ∈ tables_1, d.before a0 Z = true) (ws : List Jvm.Cond) (b d : Addr) (kd : ClassId) (P : List Value) (h0 : Heap) (n0 : Nat) (Z0 : n0 ≤ h0.size) (E_b : Exa Z h0 b "java/lang/StringBuilder")(F_v : Fld Z h0 b "java/lang/AbstractStringBuilder" "value" "[B" (.ref d))(F_c : Fld Z h0 b "java/lang/AbstractStringBuilder" "coder" "B" (.int 0))(V_d : Arv Z h0 d kd .byte (16 : Int32) P (.int 0)) :
    MetFree l (⟨"java/lang/AbstractStringBuilder", "newCapacity", "(I)I"⟩ : MethodName) (head1 (Jvm.Cond.code (⟨"java/lang/AbstractStringBuilder", "newCapacity", "(I)I"⟩ : MethodName) jdk_68_method_10_code 6 (some .int) :: ws) ({ frames := 2, cells := 0, slots := 0, locals := 29 } : Room)) (fun aa UU => aa = #[(.ref b), (.int (18 : Int32))] ∧ Z.Warmed39 UU.vm ∧ UU.heap = h0) (fun _ _ _ _ _ => True) (fun _ UU oo UU' => ∃ vv LL, oo = .returned vv ∧ own_Q_ncp18 Z b d kd P h0 n0 vv UU'.heap LL ∧ FrameEnd UU oo UU' LL ({ frames := 2, cells := 0, slots := 0, locals := 29 } : Room).cells ({ frames := 2, cells := 0, slots := 0, locals := 29 } : Room).slots) := by
  refine MetFree.of_bodySF (plainFor_of_name own_pn2) hisR ?_
  intro p e s m args below meth c s₁ Bd hml0 hP hK
  obtain ⟨rfl, hZ, hh⟩ := hP
  have hx := Bd.exec
  have hby := Bd.bytes
  have hml : c.maxLocals = 6 := hml0
  have hown : s.vm.findClass "java/lang/AbstractStringBuilder" = some m.cls := findClass_of_methodNamed Bd.named
  have hnm := (name_of_methodNamed Bd.named Bd.method).1
  have X0 : Stand p l e ({ frames := 2, cells := 0, slots := 0, locals := 29 } : Room) s m #[(.ref b), (.int (18 : Int32))] below meth c s₁ [] 0 0 := Stand.of_body Bd
  have e0 : s₁.heap = h0 := by rw [← hh, Bd.state]; rfl
  have N0 := Fr.nil n0
  show own_Gl p e below (own_Post s (own_Q_ncp18 Z b d kd P h0 n0) ({ frames := 2, cells := 0, slots := 0, locals := 29 } : Room).cells ({ frames := 2, cells := 0, slots := 0, locals := 29 } : Room).slots) _
  refine own_st (fun tg_ kg_ => castTop (own_ef_ncp18 m b (18 : Int32)) kg_) ?_
  show own_Gl p e below _ (s₁.setTop (mkF m 0 #[.val (.ref b), .val (.int (18 : Int32)), .unset, .unset, .unset, .unset] []))
  refine own_st (fun tg_ kg_ => XS.aloadN X0.here hx rfl (hb hby own_d_jdk_68_method_10_code_0) rfl rfl kg_) ?_
  show own_Gl p e below _ (s₁.setTop (mkF m 1 #[.val (.ref b), .val (.int (18 : Int32)), .unset, .unset, .unset, .unset] [(.ref b)]))
  obtain ⟨T1, X1, e1, st1⟩ := getF X0 hx hZ hown (host := "") (Or.inl (hw _ (List.mem_of_getElem? (i := 53) rfl))) Via.refl e0 F_v (g := (mkF m 1 #[.val (.ref b), .val (.int (18 : Int32)), .unset, .unset, .unset, .unset] [(.ref b)])) rfl rfl (hb hby own_d_jdk_68_method_10_code_1)
  refine own_st st1 ?_
  try clear st1
  show own_Gl p e below _ (T1.setTop (mkF m 4 #[.val (.ref b), .val (.int (18 : Int32)), .unset, .unset, .unset, .unset] [(.ref d)]))
  obtain ⟨cl2, Ar2, qa2, Sa2, Na2, Ha2, Ga2⟩ := id V_d
  refine own_st (fun tg_ kg_ => X1.arraylength hx (by rw [e1]; exact Ar2.1) (State.isArrayOf_alike hZ.alike Ar2.2.1) (g := (mkF m 4 #[.val (.ref b), .val (.int (18 : Int32)), .unset, .unset, .unset, .unset] [(.ref d)])) rfl rfl (hb hby own_d_jdk_68_method_10_code_4) _ kg_) ?_
  rw [len_of Sa2 Na2]
  show own_Gl p e below _ (T1.setTop (mkF m 5 #[.val (.ref b), .val (.int (18 : Int32)), .unset, .unset, .unset, .unset] [(.int (16 : Int32))]))
  refine own_st (fun tg_ kg_ => XS.istoreN X1.here hx rfl (hb hby own_d_jdk_68_method_10_code_5) rfl (l' := #[.val (.ref b), .val (.int (18 : Int32)), .val (.int (16 : Int32)), .unset, .unset, .unset]) rfl kg_) ?_
  show own_Gl p e below _ (T1.setTop (mkF m 6 #[.val (.ref b), .val (.int (18 : Int32)), .val (.int (16 : Int32)), .unset, .unset, .unset] []))
  refine own_st (fun tg_ kg_ => XS.iloadN X1.here hx rfl (hb hby own_d_jdk_68_method_10_code_6) rfl kg_) ?_
  show own_Gl p e below _ (T1.setTop (mkF m 7 #[.val (.ref b), .val (.int (18 : Int32)), .val (.int (16 : Int32)), .unset, .unset, .unset] [(.int (18 : Int32))]))
  refine own_st (fun tg_ kg_ => XS.aloadN X1.here hx rfl (hb hby own_d_jdk_68_method_10_code_7) rfl rfl kg_) ?_
  show own_Gl p e below _ (T1.setTop (mkF m 8 #[.val (.ref b), .val (.int (18 : Int32)), .val (.int (16 : Int32)), .unset, .unset, .unset] [(.ref b), (.int (18 : Int32))]))
  obtain ⟨T3, X3, e3, st3⟩ := getF X1 hx hZ hown (host := "") (Or.inl (hw _ (List.mem_of_getElem? (i := 55) rfl))) Via.refl e1 F_c (g := (mkF m 8 #[.val (.ref b), .val (.int (18 : Int32)), .val (.int (16 : Int32)), .unset, .unset, .unset] [(.ref b), (.int (18 : Int32))])) rfl rfl (hb hby own_d_jdk_68_method_10_code_8)
  refine own_st st3 ?_
  try clear st3
  try clear e1
  try clear X1
  try clear T1
  show own_Gl p e below _ (T3.setTop (mkF m 11 #[.val (.ref b), .val (.int (18 : Int32)), .val (.int (16 : Int32)), .unset, .unset, .unset] [(.int (0 : Int32)), (.int (18 : Int32))]))
  refine own_st (fun tg_ kg_ => XS.ishl X3.here hx rfl (hb hby own_d_jdk_68_method_10_code_11) rfl kg_) ?_
  show own_Gl p e below _ (T3.setTop (mkF m 12 #[.val (.ref b), .val (.int (18 : Int32)), .val (.int (16 : Int32)), .unset, .unset, .unset] [(.int ((18 : Int32) <<< ((0 : Int32) &&& 31)))]))
  rw [(by decide : ((18 : Int32) <<< ((0 : Int32) &&& 31)) = (18 : Int32))]
  show own_Gl p e below _ (T3.setTop (mkF m 12 #[.val (.ref b), .val (.int (18 : Int32)), .val (.int (16 : Int32)), .unset, .unset, .unset] [(.int (18 : Int32))]))
  refine own_st (fun tg_ kg_ => XS.istoreN X3.here hx rfl (hb hby own_d_jdk_68_method_10_code_12) rfl (l' := #[.val (.ref b), .val (.int (18 : Int32)), .val (.int (16 : Int32)), .val (.int (18 : Int32)), .unset, .unset]) rfl kg_) ?_
  show own_Gl p e below _ (T3.setTop (mkF m 13 #[.val (.ref b), .val (.int (18 : Int32)), .val (.int (16 : Int32)), .val (.int (18 : Int32)), .unset, .unset] []))
  refine own_st (fun tg_ kg_ => XS.iloadN X3.here hx rfl (hb hby own_d_jdk_68_method_10_code_13) rfl kg_) ?_
  show own_Gl p e below _ (T3.setTop (mkF m 14 #[.val (.ref b), .val (.int (18 : Int32)), .val (.int (16 : Int32)), .val (.int (18 : Int32)), .unset, .unset] [(.int (18 : Int32))]))
  refine own_st (fun tg_ kg_ => XS.iloadN X3.here hx rfl (hb hby own_d_jdk_68_method_10_code_14) rfl kg_) ?_
  show own_Gl p e below _ (T3.setTop (mkF m 15 #[.val (.ref b), .val (.int (18 : Int32)), .val (.int (16 : Int32)), .val (.int (18 : Int32)), .unset, .unset] [(.int (16 : Int32)), (.int (18 : Int32))]))
  refine own_st (fun tg_ kg_ => XS.isub X3.here hx rfl (hb hby own_d_jdk_68_method_10_code_15) rfl kg_) ?_
  show own_Gl p e below _ (T3.setTop (mkF m 16 #[.val (.ref b), .val (.int (18 : Int32)), .val (.int (16 : Int32)), .val (.int (18 : Int32)), .unset, .unset] [(.int (2 : Int32))]))
  refine own_st (fun tg_ kg_ => XS.istore X3.here hx rfl (hb hby own_d_jdk_68_method_10_code_16) rfl (l' := #[.val (.ref b), .val (.int (18 : Int32)), .val (.int (16 : Int32)), .val (.int (18 : Int32)), .val (.int (2 : Int32)), .unset]) rfl kg_) ?_
  show own_Gl p e below _ (T3.setTop (mkF m 18 #[.val (.ref b), .val (.int (18 : Int32)), .val (.int (16 : Int32)), .val (.int (18 : Int32)), .val (.int (2 : Int32)), .unset] []))
  refine own_st (fun tg_ kg_ => XS.iloadN X3.here hx rfl (hb hby own_d_jdk_68_method_10_code_18) rfl kg_) ?_
  show own_Gl p e below _ (T3.setTop (mkF m 19 #[.val (.ref b), .val (.int (18 : Int32)), .val (.int (16 : Int32)), .val (.int (18 : Int32)), .val (.int (2 : Int32)), .unset] [(.int (16 : Int32))]))
  refine own_st (fun tg_ kg_ => XS.iload X3.here hx rfl (hb hby own_d_jdk_68_method_10_code_19) rfl kg_) ?_
  show own_Gl p e below _ (T3.setTop (mkF m 21 #[.val (.ref b), .val (.int (18 : Int32)), .val (.int (16 : Int32)), .val (.int (18 : Int32)), .val (.int (2 : Int32)), .unset] [(.int (2 : Int32)), (.int (16 : Int32))]))
  refine own_st (fun tg_ kg_ => XS.iloadN X3.here hx rfl (hb hby own_d_jdk_68_method_10_code_21) rfl kg_) ?_
  show own_Gl p e below _ (T3.setTop (mkF m 22 #[.val (.ref b), .val (.int (18 : Int32)), .val (.int (16 : Int32)), .val (.int (18 : Int32)), .val (.int (2 : Int32)), .unset] [(.int (16 : Int32)), (.int (2 : Int32)), (.int (16 : Int32))]))
  refine own_st (fun tg_ kg_ => XS.iconst X3.here hx rfl (hb hby own_d_jdk_68_method_10_code_22) kg_) ?_
  show own_Gl p e below _ (T3.setTop (mkF m 23 #[.val (.ref b), .val (.int (18 : Int32)), .val (.int (16 : Int32)), .val (.int (18 : Int32)), .val (.int (2 : Int32)), .unset] [(.int (2 : Int32)), (.int (16 : Int32)), (.int (2 : Int32)), (.int (16 : Int32))]))
  refine own_st (fun tg_ kg_ => XS.aloadN X3.here hx rfl (hb hby own_d_jdk_68_method_10_code_23) rfl rfl kg_) ?_
  show own_Gl p e below _ (T3.setTop (mkF m 24 #[.val (.ref b), .val (.int (18 : Int32)), .val (.int (16 : Int32)), .val (.int (18 : Int32)), .val (.int (2 : Int32)), .unset] [(.ref b), (.int (2 : Int32)), (.int (16 : Int32)), (.int (2 : Int32)), (.int (16 : Int32))]))
  obtain ⟨T4, X4, e4, st4⟩ := getF X3 hx hZ hown (host := "") (Or.inl (hw _ (List.mem_of_getElem? (i := 55) rfl))) Via.refl e3 F_c (g := (mkF m 24 #[.val (.ref b), .val (.int (18 : Int32)), .val (.int (16 : Int32)), .val (.int (18 : Int32)), .val (.int (2 : Int32)), .unset] [(.ref b), (.int (2 : Int32)), (.int (16 : Int32)), (.int (2 : Int32)), (.int (16 : Int32))])) rfl rfl (hb hby own_d_jdk_68_method_10_code_24)
  refine own_st st4 ?_
  try clear st4
  try clear e3
  try clear X3
  try clear T3
  show own_Gl p e below _ (T4.setTop (mkF m 27 #[.val (.ref b), .val (.int (18 : Int32)), .val (.int (16 : Int32)), .val (.int (18 : Int32)), .val (.int (2 : Int32)), .unset] [(.int (0 : Int32)), (.int (2 : Int32)), (.int (16 : Int32)), (.int (2 : Int32)), (.int (16 : Int32))]))
  refine own_st (fun tg_ kg_ => XS.ishl X4.here hx rfl (hb hby own_d_jdk_68_method_10_code_27) rfl kg_) ?_
  show own_Gl p e below _ (T4.setTop (mkF m 28 #[.val (.ref b), .val (.int (18 : Int32)), .val (.int (16 : Int32)), .val (.int (18 : Int32)), .val (.int (2 : Int32)), .unset] [(.int ((2 : Int32) <<< ((0 : Int32) &&& 31))), (.int (16 : Int32)), (.int (2 : Int32)), (.int (16 : Int32))]))
  rw [(by decide : ((2 : Int32) <<< ((0 : Int32) &&& 31)) = (2 : Int32))]
  show own_Gl p e below _ (T4.setTop (mkF m 28 #[.val (.ref b), .val (.int (18 : Int32)), .val (.int (16 : Int32)), .val (.int (18 : Int32)), .val (.int (2 : Int32)), .unset] [(.int (2 : Int32)), (.int (16 : Int32)), (.int (2 : Int32)), (.int (16 : Int32))]))
  refine own_st (fun tg_ kg_ => XS.iadd X4.here hx rfl (hb hby own_d_jdk_68_method_10_code_28) rfl kg_) ?_
  show own_Gl p e below _ (T4.setTop (mkF m 29 #[.val (.ref b), .val (.int (18 : Int32)), .val (.int (16 : Int32)), .val (.int (18 : Int32)), .val (.int (2 : Int32)), .unset] [(.int (18 : Int32)), (.int (2 : Int32)), (.int (16 : Int32))]))
  obtain ⟨_, _, ⟨T5, L5, k5, n5⟩, -, X5, ⟨Lc5, hQ5, l5, y5, z5⟩, st5⟩ := Jvm.LawKit.callS X4 hx (y := (⟨"jdk/internal/util/ArraysSupport", "newLength", "(III)I"⟩ : MethodName)) hown (mvT hZ (hw _ (List.mem_of_getElem? (i := 222) rfl))) (mvT hZ (hw _ (List.mem_of_getElem? (i := 223) rfl))) (mvT hZ (hw _ (List.mem_of_getElem? (i := 224) rfl))) (mvT hZ (hw _ (List.mem_of_getElem? (i := 225) rfl))) (by decide) (backOf (W := 0) (own_rm_nln18 l Z a0 hw [] h0 n0 Z0) hZ (hw _ (List.mem_of_getElem? (i := 225) rfl)) (hw _ (List.mem_of_getElem? (i := 224) rfl)) (by decide) (by decide)) (g := (mkF m 29 #[.val (.ref b), .val (.int (18 : Int32)), .val (.int (16 : Int32)), .val (.int (18 : Int32)), .val (.int (2 : Int32)), .unset] [(.int (18 : Int32)), (.int (2 : Int32)), (.int (16 : Int32))])) rfl (by rw [hml]; rfl) (argsL := [(.int (16 : Int32)), (.int (2 : Int32)), (.int (18 : Int32))]) (rest := []) (lenOf own_pd1 rfl) rfl (by show 2 * 0 + _ ≤ _; exact Nat.le_of_eq rfl) (hb hby own_d_jdk_68_method_10_code_29) (fun _ _ => ⟨rfl, e4, (by decide : 0 + 0 ≤ _), (by decide : 0 + 0 ≤ _)⟩)
  dsimp only [Pt.U, Pt.locs, Pt.cells, Pt.slots] at X5 l5 y5 z5 st5 hQ5
  obtain rfl : k5 = 0 := y5
  obtain rfl : n5 = 0 := z5
  obtain ⟨rfl, N5q, e5⟩ := hQ5
  have N5 : Fr n0 L5 := by rw [l5]; exact Fr.app N0 N5q
  try clear l5
  refine own_st st5 ?_
  show own_Gl p e below _ (T5.setTop (mkF m 32 #[.val (.ref b), .val (.int (18 : Int32)), .val (.int (16 : Int32)), .val (.int (18 : Int32)), .val (.int (2 : Int32)), .unset] [(.int (34 : Int32))]))
  try clear st5
  try clear N5q
  try clear e4
  try clear X4
  try clear T4
  refine own_st (fun tg_ kg_ => XS.istore X5.here hx rfl (hb hby own_d_jdk_68_method_10_code_32) rfl (l' := #[.val (.ref b), .val (.int (18 : Int32)), .val (.int (16 : Int32)), .val (.int (18 : Int32)), .val (.int (2 : Int32)), .val (.int (34 : Int32))]) rfl kg_) ?_
  show own_Gl p e below _ (T5.setTop (mkF m 34 #[.val (.ref b), .val (.int (18 : Int32)), .val (.int (16 : Int32)), .val (.int (18 : Int32)), .val (.int (2 : Int32)), .val (.int (34 : Int32))] []))
  refine own_st (fun tg_ kg_ => XS.iload X5.here hx rfl (hb hby own_d_jdk_68_method_10_code_34) rfl kg_) ?_
  show own_Gl p e below _ (T5.setTop (mkF m 36 #[.val (.ref b), .val (.int (18 : Int32)), .val (.int (16 : Int32)), .val (.int (18 : Int32)), .val (.int (2 : Int32)), .val (.int (34 : Int32))] [(.int (34 : Int32))]))
  refine own_st (fun tg_ kg_ => X5.ldcInt hx hown (mvT hZ (hw _ (List.mem_of_getElem? (i := 230) rfl))) (g := (mkF m 36 #[.val (.ref b), .val (.int (18 : Int32)), .val (.int (16 : Int32)), .val (.int (18 : Int32)), .val (.int (2 : Int32)), .val (.int (34 : Int32))] [(.int (34 : Int32))])) rfl (hb hby own_d_jdk_68_method_10_code_36) _ kg_) ?_
  show own_Gl p e below _ (T5.setTop (mkF m 38 #[.val (.ref b), .val (.int (18 : Int32)), .val (.int (16 : Int32)), .val (.int (18 : Int32)), .val (.int (2 : Int32)), .val (.int (34 : Int32))] [(.int (2147483647 : Int32)), (.int (34 : Int32))]))
  refine own_st (fun tg_ kg_ => XS.icmpYes X5.here hx rfl (pc0 := 38) (pc' := 51) rfl (hb hby own_d_jdk_68_method_10_code_38) rfl (feq ((by decide : ¬ ((34 : Int32) = (2147483647 : Int32))))).2 (by decide) (by decide) kg_) ?_
  show own_Gl p e below _ (T5.setTop (mkF m 51 #[.val (.ref b), .val (.int (18 : Int32)), .val (.int (16 : Int32)), .val (.int (18 : Int32)), .val (.int (2 : Int32)), .val (.int (34 : Int32))] []))
  refine own_st (fun tg_ kg_ => XS.iload X5.here hx rfl (hb hby own_d_jdk_68_method_10_code_51) rfl kg_) ?_
  show own_Gl p e below _ (T5.setTop (mkF m 53 #[.val (.ref b), .val (.int (18 : Int32)), .val (.int (16 : Int32)), .val (.int (18 : Int32)), .val (.int (2 : Int32)), .val (.int (34 : Int32))] [(.int (34 : Int32))]))
  refine own_st (fun tg_ kg_ => XS.aloadN X5.here hx rfl (hb hby own_d_jdk_68_method_10_code_53) rfl rfl kg_) ?_
  show own_Gl p e below _ (T5.setTop (mkF m 54 #[.val (.ref b), .val (.int (18 : Int32)), .val (.int (16 : Int32)), .val (.int (18 : Int32)), .val (.int (2 : Int32)), .val (.int (34 : Int32))] [(.ref b), (.int (34 : Int32))]))
  obtain ⟨T6, X6, e6, st6⟩ := getF X5 hx hZ hown (host := "") (Or.inl (hw _ (List.mem_of_getElem? (i := 55) rfl))) Via.refl e5 F_c (g := (mkF m 54 #[.val (.ref b), .val (.int (18 : Int32)), .val (.int (16 : Int32)), .val (.int (18 : Int32)), .val (.int (2 : Int32)), .val (.int (34 : Int32))] [(.ref b), (.int (34 : Int32))])) rfl rfl (hb hby own_d_jdk_68_method_10_code_54)
  refine own_st st6 ?_
  try clear st6
  try clear e5
  try clear X5
  try clear T5
  show own_Gl p e below _ (T6.setTop (mkF m 57 #[.val (.ref b), .val (.int (18 : Int32)), .val (.int (16 : Int32)), .val (.int (18 : Int32)), .val (.int (2 : Int32)), .val (.int (34 : Int32))] [(.int (0 : Int32)), (.int (34 : Int32))]))
  refine own_st (fun tg_ kg_ => XS.ishr X6.here hx rfl (hb hby own_d_jdk_68_method_10_code_57) rfl kg_) ?_
  show own_Gl p e below _ (T6.setTop (mkF m 58 #[.val (.ref b), .val (.int (18 : Int32)), .val (.int (16 : Int32)), .val (.int (18 : Int32)), .val (.int (2 : Int32)), .val (.int (34 : Int32))] [(.int ((34 : Int32) >>> ((0 : Int32) &&& 31)))]))
  rw [(by decide : ((34 : Int32) >>> ((0 : Int32) &&& 31)) = (34 : Int32))]
  show own_Gl p e below _ (T6.setTop (mkF m 58 #[.val (.ref b), .val (.int (18 : Int32)), .val (.int (16 : Int32)), .val (.int (18 : Int32)), .val (.int (2 : Int32)), .val (.int (34 : Int32))] [(.int (34 : Int32))]))
  exact own_retI X6 hx Bd.notSynchronized Bd.returns (hb hby own_d_jdk_68_method_10_code_58) (by decide) (by decide) e6 (⟨rfl, N5, rfl⟩)
theorem own_ef_ec18 (m : MethodId) (x0 : Addr) (x1 : Int32) : entryFrame m #[(.ref x0), (.int x1)] 3 = mkF m 0 #[.val (.ref x0), .val (.int x1), .unset] [] := by first | (simp [entryFrame, mkF, argsToLocals, Value.category]; done) | rfl
def own_Q_ec18 (Z : State) (b d : Addr) (kd : ClassId) (P : List Value) (z1 : Int32) (h0 : Heap) (n0 : Nat) (v : Option Value) (h : Heap) (L : List Loc) : Prop := v = none ∧ Fr n0 L ∧ Keep h0 h [b] ∧ ∃ w kw, Fld Z h b "java/lang/AbstractStringBuilder" "value" "[B" (.ref w) ∧ Fld Z h b "java/lang/AbstractStringBuilder" "coder" "B" (.int 0) ∧ Fld Z h b "java/lang/AbstractStringBuilder" "count" "I" (.int z1) ∧ h0.size ≤ w ∧ Arv Z h w kw .byte (34 : Int32) (P ++ List.replicate 18 (.int 0)) (.int 0) ∧ Exa Z h w "[B"
set_option maxRecDepth 65536 in
set_option maxHeartbeats 40000000 in
theorem own_rm_ec18 (l : Launch) (Z : State) (a0 : Array Value) (hw : ∀ d ∈ tables_1, d.before a0 Z = true) (ws : List Jvm.Cond) (b d : Addr) (kd : ClassId) (P : List Value) (z1 : Int32) (h0 : Heap) (n0 : Nat) (Z0 : n0 ≤ h0.size) (E_b : Exa Z h0 b "java/lang/StringBuilder")(F_v : Fld Z h0 b "java/lang/AbstractStringBuilder" "value" "[B" (.ref d))(F_c : Fld Z h0 b "java/lang/AbstractStringBuilder" "coder" "B" (.int 0))(F_n : Fld Z h0 b "java/lang/AbstractStringBuilder" "count" "I" (.int z1))(V_d : Arv Z h0 d kd .byte (16 : Int32) P (.int 0)) (hP : P.length = 16) (ne_d_b : d ≠ b) (g_b : n0 ≤ b) :
    MetFree l (⟨"java/lang/AbstractStringBuilder", "ensureCapacityInternal", "(I)V"⟩ : MethodName) (head1 (Jvm.Cond.code (⟨"java/lang/AbstractStringBuilder", "ensureCapacityInternal", "(I)V"⟩ : MethodName) jdk_68_method_9_code 3 none :: ws) ({ frames := 3, cells := 1, slots := 34, locals := 75 } : Room)) (fun aa UU => aa = #[(.ref b), (.int (18 : Int32))] ∧ Z.Warmed39 UU.vm ∧ UU.heap = h0) (fun _ _ _ _ _ => True) (fun _ UU oo UU' => ∃ vv LL, oo = .returned vv ∧ own_Q_ec18 Z b d kd P z1 h0 n0 vv UU'.heap LL ∧ FrameEnd UU oo UU' LL ({ frames := 3, cells := 1, slots := 34, locals := 75 } : Room).cells ({ frames := 3, cells := 1, slots := 34, locals := 75 } : Room).slots) := by
  refine MetFree.of_bodySF (plainFor_of_name own_pn2) hisR ?_
  intro p e s m args below meth c s₁ Bd hml0 hP hK
  obtain ⟨rfl, hZ, hh⟩ := hP
  have hx := Bd.exec
  have hby := Bd.bytes
  have hml : c.maxLocals = 3 := hml0
  have hown : s.vm.findClass "java/lang/AbstractStringBuilder" = some m.cls := findClass_of_methodNamed Bd.named
  have hnm := (name_of_methodNamed Bd.named Bd.method).1
  have X0 : Stand p l e ({ frames := 3, cells := 1, slots := 34, locals := 75 } : Room) s m #[(.ref b), (.int (18 : Int32))] below meth c s₁ [] 0 0 := Stand.of_body Bd
  have e0 : s₁.heap = h0 := by rw [← hh, Bd.state]; rfl
  have N0 := Fr.nil n0
  have K0 : Keep h0 h0 [b] := Keep.refl h0 _
  show own_Gl p e below (own_Post s (own_Q_ec18 Z b d kd P z1 h0 n0) ({ frames := 3, cells := 1, slots := 34, locals := 75 } : Room).cells ({ frames := 3, cells := 1, slots := 34, locals := 75 } : Room).slots) _
  refine own_st (fun tg_ kg_ => castTop (own_ef_ec18 m b (18 : Int32)) kg_) ?_
  show own_Gl p e below _ (s₁.setTop (mkF m 0 #[.val (.ref b), .val (.int (18 : Int32)), .unset] []))
  refine own_st (fun tg_ kg_ => XS.aloadN X0.here hx rfl (hb hby own_d_jdk_68_method_9_code_0) rfl rfl kg_) ?_
  show own_Gl p e below _ (s₁.setTop (mkF m 1 #[.val (.ref b), .val (.int (18 : Int32)), .unset] [(.ref b)]))
  obtain ⟨T1, X1, e1, st1⟩ := getF X0 hx hZ hown (host := "") (Or.inl (hw _ (List.mem_of_getElem? (i := 53) rfl))) Via.refl e0 F_v (g := (mkF m 1 #[.val (.ref b), .val (.int (18 : Int32)), .unset] [(.ref b)])) rfl rfl (hb hby own_d_jdk_68_method_9_code_1)
  refine own_st st1 ?_
  try clear st1
  show own_Gl p e below _ (T1.setTop (mkF m 4 #[.val (.ref b), .val (.int (18 : Int32)), .unset] [(.ref d)]))
  obtain ⟨cl2, Ar2, qa2, Sa2, Na2, Ha2, Ga2⟩ := id (V_d.keep K0 (ninS ne_d_b nin0))
  refine own_st (fun tg_ kg_ => X1.arraylength hx (by rw [e1]; exact Ar2.1) (State.isArrayOf_alike hZ.alike Ar2.2.1) (g := (mkF m 4 #[.val (.ref b), .val (.int (18 : Int32)), .unset] [(.ref d)])) rfl rfl (hb hby own_d_jdk_68_method_9_code_4) _ kg_) ?_
  rw [len_of Sa2 Na2]
  show own_Gl p e below _ (T1.setTop (mkF m 5 #[.val (.ref b), .val (.int (18 : Int32)), .unset] [(.int (16 : Int32))]))
  refine own_st (fun tg_ kg_ => XS.aloadN X1.here hx rfl (hb hby own_d_jdk_68_method_9_code_5) rfl rfl kg_) ?_
  show own_Gl p e below _ (T1.setTop (mkF m 6 #[.val (.ref b), .val (.int (18 : Int32)), .unset] [(.ref b), (.int (16 : Int32))]))
  obtain ⟨T3, X3, e3, st3⟩ := getF X1 hx hZ hown (host := "") (Or.inl (hw _ (List.mem_of_getElem? (i := 55) rfl))) Via.refl e1 F_c (g := (mkF m 6 #[.val (.ref b), .val (.int (18 : Int32)), .unset] [(.ref b), (.int (16 : Int32))])) rfl rfl (hb hby own_d_jdk_68_method_9_code_6)
  refine own_st st3 ?_
  try clear st3
  try clear e1
  try clear X1
  try clear T1
  show own_Gl p e below _ (T3.setTop (mkF m 9 #[.val (.ref b), .val (.int (18 : Int32)), .unset] [(.int (0 : Int32)), (.int (16 : Int32))]))
  refine own_st (fun tg_ kg_ => XS.ishr X3.here hx rfl (hb hby own_d_jdk_68_method_9_code_9) rfl kg_) ?_
  show own_Gl p e below _ (T3.setTop (mkF m 10 #[.val (.ref b), .val (.int (18 : Int32)), .unset] [(.int ((16 : Int32) >>> ((0 : Int32) &&& 31)))]))
  rw [(by decide : ((16 : Int32) >>> ((0 : Int32) &&& 31)) = (16 : Int32))]
  show own_Gl p e below _ (T3.setTop (mkF m 10 #[.val (.ref b), .val (.int (18 : Int32)), .unset] [(.int (16 : Int32))]))
  refine own_st (fun tg_ kg_ => XS.istoreN X3.here hx rfl (hb hby own_d_jdk_68_method_9_code_10) rfl (l' := #[.val (.ref b), .val (.int (18 : Int32)), .val (.int (16 : Int32))]) rfl kg_) ?_
  show own_Gl p e below _ (T3.setTop (mkF m 11 #[.val (.ref b), .val (.int (18 : Int32)), .val (.int (16 : Int32))] []))
  refine own_st (fun tg_ kg_ => XS.iloadN X3.here hx rfl (hb hby own_d_jdk_68_method_9_code_11) rfl kg_) ?_
  show own_Gl p e below _ (T3.setTop (mkF m 12 #[.val (.ref b), .val (.int (18 : Int32)), .val (.int (16 : Int32))] [(.int (18 : Int32))]))
  refine own_st (fun tg_ kg_ => XS.iloadN X3.here hx rfl (hb hby own_d_jdk_68_method_9_code_12) rfl kg_) ?_
  show own_Gl p e below _ (T3.setTop (mkF m 13 #[.val (.ref b), .val (.int (18 : Int32)), .val (.int (16 : Int32))] [(.int (16 : Int32)), (.int (18 : Int32))]))
  refine own_st (fun tg_ kg_ => XS.isub X3.here hx rfl (hb hby own_d_jdk_68_method_9_code_13) rfl kg_) ?_
  show own_Gl p e below _ (T3.setTop (mkF m 14 #[.val (.ref b), .val (.int (18 : Int32)), .val (.int (16 : Int32))] [(.int (2 : Int32))]))
  refine own_st (fun tg_ kg_ => XS.ifNo X3.here hx rfl (hb hby own_d_jdk_68_method_9_code_14) rfl ((if0 _ _).trans (tlt ((by decide : (0 : Int32) < (2 : Int32)))).2.2.2) kg_) ?_
  show own_Gl p e below _ (T3.setTop (mkF m 17 #[.val (.ref b), .val (.int (18 : Int32)), .val (.int (16 : Int32))] []))
  refine own_st (fun tg_ kg_ => XS.aloadN X3.here hx rfl (hb hby own_d_jdk_68_method_9_code_17) rfl rfl kg_) ?_
  show own_Gl p e below _ (T3.setTop (mkF m 18 #[.val (.ref b), .val (.int (18 : Int32)), .val (.int (16 : Int32))] [(.ref b)]))
  refine own_st (fun tg_ kg_ => XS.aloadN X3.here hx rfl (hb hby own_d_jdk_68_method_9_code_18) rfl rfl kg_) ?_
  show own_Gl p e below _ (T3.setTop (mkF m 19 #[.val (.ref b), .val (.int (18 : Int32)), .val (.int (16 : Int32))] [(.ref b), (.ref b)]))
  obtain ⟨T4, X4, e4, st4⟩ := getF X3 hx hZ hown (host := "") (Or.inl (hw _ (List.mem_of_getElem? (i := 53) rfl))) Via.refl e3 F_v (g := (mkF m 19 #[.val (.ref b), .val (.int (18 : Int32)), .val (.int (16 : Int32))] [(.ref b), (.ref b)])) rfl rfl (hb hby own_d_jdk_68_method_9_code_19)
  refine own_st st4 ?_
  try clear st4
  try clear e3
  try clear X3
  try clear T3
  show own_Gl p e below _ (T4.setTop (mkF m 22 #[.val (.ref b), .val (.int (18 : Int32)), .val (.int (16 : Int32))] [(.ref d), (.ref b)]))
  refine own_st (fun tg_ kg_ => XS.aloadN X4.here hx rfl (hb hby own_d_jdk_68_method_9_code_22) rfl rfl kg_) ?_
  show own_Gl p e below _ (T4.setTop (mkF m 23 #[.val (.ref b), .val (.int (18 : Int32)), .val (.int (16 : Int32))] [(.ref b), (.ref d), (.ref b)]))
  refine own_st (fun tg_ kg_ => XS.iloadN X4.here hx rfl (hb hby own_d_jdk_68_method_9_code_23) rfl kg_) ?_
  show own_Gl p e below _ (T4.setTop (mkF m 24 #[.val (.ref b), .val (.int (18 : Int32)), .val (.int (16 : Int32))] [(.int (18 : Int32)), (.ref b), (.ref d), (.ref b)]))
  obtain ⟨cq5, kq5, q5a, q5b, q5c⟩ := isOf hZ e4 E_b
  obtain ⟨_, _, ⟨T5, L5, k5, n5⟩, -, X5, ⟨Lc5, hQ5, l5, y5, z5⟩, st5⟩ := X4.virtualBack hx (y := (⟨"java/lang/AbstractStringBuilder", "newCapacity", "(I)I"⟩ : MethodName)) (z := (⟨"java/lang/AbstractStringBuilder", "newCapacity", "(I)I"⟩ : MethodName)) hown (mvT hZ (hw _ (List.mem_of_getElem? (i := 217) rfl))) (mvT hZ (own_decl (hw _ (List.mem_of_getElem? (i := 218) rfl)) (hw _ (List.mem_of_getElem? (i := 221) rfl)))) (notFace_of_selects (args := #[]) (mvT hZ (hw _ (List.mem_of_getElem? (i := 220) rfl)))) (mvT hZ (hw _ (List.mem_of_getElem? (i := 220) rfl))) (mvT hZ (hw _ (List.mem_of_getElem? (i := 218) rfl))) (by decide) (backOf (W := 2) (own_rm_ncp18 l Z a0 hw [] b d kd P h0 n0 (Nat.le_trans Z0 K0.1) E_b F_v F_c (V_d.keep K0 (ninS ne_d_b nin0))) hZ (hw _ (List.mem_of_getElem? (i := 221) rfl)) (hw _ (List.mem_of_getElem? (i := 47) rfl)) (by decide) (by decide)) q5a q5c (g := (mkF m 24 #[.val (.ref b), .val (.int (18 : Int32)), .val (.int (16 : Int32))] [(.int (18 : Int32)), (.ref b), (.ref d), (.ref b)])) rfl (by rw [hml]; rfl) (Steps.refl _) (argsL := [(.int (18 : Int32))]) (rest := [(.ref d), (.ref b)]) (lenOf own_pd2 rfl) rfl (by show 2 * 0 + _ ≤ _; exact Nat.le_of_eq rfl) (hb hby own_d_jdk_68_method_9_code_24) (fun _ _ => ⟨rfl, e4, (by decide : 0 + 0 ≤ _), (by decide : 0 + 0 ≤ _)⟩)
  dsimp only [Pt.U, Pt.locs, Pt.cells, Pt.slots] at X5 l5 y5 z5 st5 hQ5
  obtain rfl : k5 = 0 := y5
  obtain rfl : n5 = 0 := z5
  obtain ⟨rfl, N5q, e5⟩ := hQ5
  have N5 : Fr n0 L5 := by rw [l5]; exact Fr.app N0 N5q
  try clear l5
  refine own_tr st5 ?_
  show own_Gl p e below _ (T5.setTop (mkF m 27 #[.val (.ref b), .val (.int (18 : Int32)), .val (.int (16 : Int32))] [(.int (34 : Int32)), (.ref d), (.ref b)]))
  try clear st5
  try clear N5q
  try clear e4
  try clear X4
  try clear T4
  refine own_st (fun tg_ kg_ => XS.aloadN X5.here hx rfl (hb hby own_d_jdk_68_method_9_code_27) rfl rfl kg_) ?_
  show own_Gl p e below _ (T5.setTop (mkF m 28 #[.val (.ref b), .val (.int (18 : Int32)), .val (.int (16 : Int32))] [(.ref b), (.int (34 : Int32)), (.ref d), (.ref b)]))
  obtain ⟨T6, X6, e6, st6⟩ := getF X5 hx hZ hown (host := "") (Or.inl (hw _ (List.mem_of_getElem? (i := 55) rfl))) Via.refl e5 F_c (g := (mkF m 28 #[.val (.ref b), .val (.int (18 : Int32)), .val (.int (16 : Int32))] [(.ref b), (.int (34 : Int32)), (.ref d), (.ref b)])) rfl rfl (hb hby own_d_jdk_68_method_9_code_28)
  refine own_st st6 ?_
  try clear st6
  try clear e5
  try clear X5
  try clear T5
  show own_Gl p e below _ (T6.setTop (mkF m 31 #[.val (.ref b), .val (.int (18 : Int32)), .val (.int (16 : Int32))] [(.int (0 : Int32)), (.int (34 : Int32)), (.ref d), (.ref b)]))
  refine own_st (fun tg_ kg_ => XS.ishl X6.here hx rfl (hb hby own_d_jdk_68_method_9_code_31) rfl kg_) ?_
  show own_Gl p e below _ (T6.setTop (mkF m 32 #[.val (.ref b), .val (.int (18 : Int32)), .val (.int (16 : Int32))] [(.int ((34 : Int32) <<< ((0 : Int32) &&& 31))), (.ref d), (.ref b)]))
  rw [(by decide : ((34 : Int32) <<< ((0 : Int32) &&& 31)) = (34 : Int32))]
  show own_Gl p e below _ (T6.setTop (mkF m 32 #[.val (.ref b), .val (.int (18 : Int32)), .val (.int (16 : Int32))] [(.int (34 : Int32)), (.ref d), (.ref b)]))
  obtain ⟨_, _, ⟨T7, L7, k7, n7⟩, -, X7, ⟨Lc7, hQ7, l7, y7, z7⟩, st7⟩ := Jvm.LawKit.callS X6 hx (y := (⟨"java/util/Arrays", "copyOf", "([BI)[B"⟩ : MethodName)) hown (mvT hZ (hw _ (List.mem_of_getElem? (i := 231) rfl))) (mvT hZ (hw _ (List.mem_of_getElem? (i := 232) rfl))) (mvT hZ (hw _ (List.mem_of_getElem? (i := 165) rfl))) (mvT hZ (hw _ (List.mem_of_getElem? (i := 233) rfl))) (by decide) (backOf (W := 1) (own_rm_cpy l Z a0 hw [] d kd P h0 n0 (Nat.le_trans Z0 K0.1) (V_d.keep K0 (ninS ne_d_b nin0)) hP) hZ (hw _ (List.mem_of_getElem? (i := 233) rfl)) (hw _ (List.mem_of_getElem? (i := 165) rfl)) (by decide) (by decide)) (g := (mkF m 32 #[.val (.ref b), .val (.int (18 : Int32)), .val (.int (16 : Int32))] [(.int (34 : Int32)), (.ref d), (.ref b)])) rfl (by rw [hml]; rfl) (argsL := [(.ref d), (.int (34 : Int32))]) (rest := [(.ref b)]) (lenOf own_pd3 rfl) rfl (by show 2 * 0 + _ ≤ _; exact Nat.le_of_eq rfl) (hb hby own_d_jdk_68_method_9_code_32) (fun _ _ => ⟨rfl, e6, (by decide : 0 + 1 ≤ _), (by decide : 0 + 34 ≤ _)⟩)
  dsimp only [Pt.U, Pt.locs, Pt.cells, Pt.slots] at X7 l7 y7 z7 st7 hQ7
  obtain rfl : k7 = 1 := y7
  obtain rfl : n7 = 34 := z7
  obtain ⟨⟨w, kw, rfl, szc7, V_w, E_w⟩, N7q, Kc7⟩ := hQ7
  have N7 : Fr n0 L7 := by rw [l7]; exact Fr.app N5 N7q
  try clear l7
  refine own_st st7 ?_
  have ne_b_w : b ≠ w := Nat.ne_of_lt (Nat.lt_of_lt_of_le F_n.lt szc7)
  have ne_d_w : d ≠ w := Nat.ne_of_lt (Nat.lt_of_lt_of_le (V_d.keep K0 (ninS ne_d_b nin0)).lt szc7)
  have sz_w : h0.size ≤ w := Nat.le_trans K0.1 szc7
  have g_w : n0 ≤ w := Nat.le_trans Z0 sz_w
  have sz_w : h0.size ≤ w := Nat.le_trans K0.1 szc7
  replace F_n := F_n.ext Kc7
  replace E_b := E_b.ext Kc7
  replace F_v := F_v.ext Kc7
  replace F_c := F_c.ext Kc7
  have K8 : Keep h0 T7.heap [b] := K0.ext Kc7
  try clear Kc7
  show own_Gl p e below _ (T7.setTop (mkF m 35 #[.val (.ref b), .val (.int (18 : Int32)), .val (.int (16 : Int32))] [(.ref w), (.ref b)]))
  try clear st7
  try clear N7q
  try clear N5
  try clear e6
  try clear X6
  try clear T6
  obtain ⟨T9, h9, X9, e9, W9, st9⟩ := putF X7 hx hZ hown (host := "") (Or.inl (hw _ (List.mem_of_getElem? (i := 53) rfl))) Via.refl rfl F_v E_b (Or.inl (hw _ (List.mem_of_getElem? (i := 54) rfl))) (hw _ (List.mem_of_getElem? (i := 38) rfl)) (ty := (.array .byte)) (by decide) rfl rfl (g := (mkF m 35 #[.val (.ref b), .val (.int (18 : Int32)), .val (.int (16 : Int32))] [(.ref w), (.ref b)])) rfl rfl (hb hby own_d_jdk_68_method_9_code_35)
  have N9 := Fr.snoc X9 N7 g_b
  try clear N7
  replace F_n := F_n.other W9 (Or.inr (slot_ne (Or.inl (hw _ (List.mem_of_getElem? (i := 68) rfl))) (Or.inl (hw _ (List.mem_of_getElem? (i := 54) rfl))) (by decide) (t := .int) (t' := (.array .byte)) (by decide) (by decide)))
  replace E_b := E_b.wr W9
  replace F_v := F_v.same W9
  replace F_c := F_c.other W9 (Or.inr (slot_ne (Or.inl (hw _ (List.mem_of_getElem? (i := 56) rfl))) (Or.inl (hw _ (List.mem_of_getElem? (i := 54) rfl))) (by decide) (t := .byte) (t' := (.array .byte)) (by decide) (by decide)))
  replace V_w := V_w.other W9 ne_b_w.symm
  replace E_w := E_w.wr W9
  have K10 : Keep h0 h9 [b] := K8.wr W9 (Or.inl (List.mem_of_getElem? (i := 0) rfl))
  try clear K8
  refine own_st st9 ?_
  try clear st9
  try clear X7
  try clear T7
  show own_Gl p e below _ (T9.setTop (mkF m 38 #[.val (.ref b), .val (.int (18 : Int32)), .val (.int (16 : Int32))] []))
  exact own_retV X9 hx Bd.notSynchronized Bd.returns (hb hby own_d_jdk_68_method_9_code_38) (by decide) (by decide) e9 (⟨rfl, N9, K10, _, _, F_v, F_c, F_n, sz_w, V_w, E_w⟩)
theorem own_d_jdk_68_method_68_code_0 : decode jdk_68_method_68_code 0 = .ok (.getstatic 18, 3) := by decide +kernel
theorem own_d_jdk_68_method_68_code_3 : decode jdk_68_method_68_code 3 = .ok (.ifCond .eq 14, 3) := by decide +kernel
theorem own_d_jdk_68_method_68_code_6 : decode jdk_68_method_68_code 6 = .ok (.aload_n 0, 1) := by decide +kernel
theorem own_d_jdk_68_method_68_code_7 : decode jdk_68_method_68_code 7 = .ok (.getfield 22, 3) := by decide +kernel
theorem own_d_jdk_68_method_68_code_10 : decode jdk_68_method_68_code 10 = .ok (.ifCond .ne 7, 3) := by decide +kernel
theorem own_d_jdk_68_method_68_code_13 : decode jdk_68_method_68_code 13 = .ok (.iconst 1, 1) := by decide +kernel
theorem own_d_jdk_68_method_68_code_14 : decode jdk_68_method_68_code 14 = .ok (.goto 4, 3) := by decide +kernel
theorem own_d_jdk_68_method_68_code_18 : decode jdk_68_method_68_code 18 = .ok (.ireturn, 1) := by decide +kernel
theorem own_ef_alt (m : MethodId) (x0 : Addr) : entryFrame m #[(.ref x0)] 1 = mkF m 0 #[.val (.ref x0)] [] := by first | (simp [entryFrame, mkF, argsToLocals, Value.category]; done) | rfl
def own_Q_alt (Z : State) (b : Addr) (zc : Int32) (h0 : Heap) (n0 : Nat) (v : Option Value) (h : Heap) (L : List Loc) : Prop := v = some (.int 1) ∧ Fr n0 L ∧ h = h0
set_option maxRecDepth 65536 in
set_option maxHeartbeats 40000000 in
theorem own_rm_alt (l : Launch) (Z : State) (a0 : Array Value) (hw : ∀ d ∈ tables_1, d.before a0 Z = true) (ws : List Jvm.Cond) (b : Addr) (zc : Int32) (h0 : Heap) (n0 : Nat) (Z0 : n0 ≤ h0.size) (S_C : Sta Z h0 "java/lang/String" "COMPACT_STRINGS" "Z" (.int zc)) (hzc : ¬ zc = 0)(F_c : Fld Z h0 b "java/lang/AbstractStringBuilder" "coder" "B" (.int 0)) :
    MetFree l (⟨"java/lang/AbstractStringBuilder", "isLatin1", "()Z"⟩ : MethodName) (head1 (Jvm.Cond.code (⟨"java/lang/AbstractStringBuilder", "isLatin1", "()Z"⟩ : MethodName) jdk_68_method_68_code 1 (some .boolean) :: ws) ({ frames := 0, cells := 0, slots := 0, locals := 0 } : Room)) (fun aa UU => aa = #[(.ref b)] ∧ Z.Warmed39 UU.vm ∧ UU.heap = h0) (fun _ _ _ _ _ => True) (fun _ UU oo UU' => ∃ vv LL, oo = .returned vv ∧ own_Q_alt Z b zc h0 n0 vv UU'.heap LL ∧ FrameEnd UU oo UU' LL ({ frames := 0, cells := 0, slots := 0, locals := 0 } : Room).cells ({ frames := 0, cells := 0, slots := 0, locals := 0 } : Room).slots) := by
  refine MetFree.of_bodySF (plainFor_of_name own_pn2) hisR ?_
  intro p e s m args below meth c s₁ Bd hml0 hP hK
  obtain ⟨rfl, hZ, hh⟩ := hP
  have hx := Bd.exec
  have hby := Bd.bytes
  have hml : c.maxLocals = 1 := hml0
  have hown : s.vm.findClass "java/lang/AbstractStringBuilder" = some m.cls := findClass_of_methodNamed Bd.named
  have hnm := (name_of_methodNamed Bd.named Bd.method).1
  have X0 : Stand p l e ({ frames := 0, cells := 0, slots := 0, locals := 0 } : Room) s m #[(.ref b)] below meth c s₁ [] 0 0 := Stand.of_body Bd
  have e0 : s₁.heap = h0 := by rw [← hh, Bd.state]; rfl
  have N0 := Fr.nil n0
  show own_Gl p e below (own_Post s (own_Q_alt Z b zc h0 n0) ({ frames := 0, cells := 0, slots := 0, locals := 0 } : Room).cells ({ frames := 0, cells := 0, slots := 0, locals := 0 } : Room).slots) _
  refine own_st (fun tg_ kg_ => castTop (own_ef_alt m b) kg_) ?_
  show own_Gl p e below _ (s₁.setTop (mkF m 0 #[.val (.ref b)] []))
  obtain ⟨T1, X1, e1, st1⟩ := getS2 X0 hx hZ hown (host := "") (Or.inl (hw _ (List.mem_of_getElem? (i := 50) rfl))) Via.refl e0 S_C (g := (mkF m 0 #[.val (.ref b)] [])) rfl (hb hby own_d_jdk_68_method_68_code_0)
  refine own_st st1 ?_
  try clear st1
  show own_Gl p e below _ (T1.setTop (mkF m 3 #[.val (.ref b)] [(.int zc)]))
  refine own_st (fun tg_ kg_ => XS.ifNo X1.here hx rfl (hb hby own_d_jdk_68_method_68_code_3) rfl ((if0 _ _).trans (feq (hzc)).1) kg_) ?_
  show own_Gl p e below _ (T1.setTop (mkF m 6 #[.val (.ref b)] []))
  refine own_st (fun tg_ kg_ => XS.aloadN X1.here hx rfl (hb hby own_d_jdk_68_method_68_code_6) rfl rfl kg_) ?_
  show own_Gl p e below _ (T1.setTop (mkF m 7 #[.val (.ref b)] [(.ref b)]))
  obtain ⟨T2, X2, e2, st2⟩ := getF X1 hx hZ hown (host := "") (Or.inl (hw _ (List.mem_of_getElem? (i := 55) rfl))) Via.refl e1 F_c (g := (mkF m 7 #[.val (.ref b)] [(.ref b)])) rfl rfl (hb hby own_d_jdk_68_method_68_code_7)
  refine own_st st2 ?_
  try clear st2
  try clear e1
  try clear X1
  try clear T1
  show own_Gl p e below _ (T2.setTop (mkF m 10 #[.val (.ref b)] [(.int (0 : Int32))]))
  refine own_st (fun tg_ kg_ => XS.ifNo X2.here hx rfl (hb hby own_d_jdk_68_method_68_code_10) rfl ((if0 _ _).trans (teq ((rfl : (0 : Int32) = (0 : Int32)))).2) kg_) ?_
  show own_Gl p e below _ (T2.setTop (mkF m 13 #[.val (.ref b)] []))
  refine own_st (fun tg_ kg_ => XS.iconst X2.here hx rfl (hb hby own_d_jdk_68_method_68_code_13) kg_) ?_
  show own_Gl p e below _ (T2.setTop (mkF m 14 #[.val (.ref b)] [(.int (1 : Int32))]))
  refine own_st (fun tg_ kg_ => XS.goto X2.here hx rfl (pc0 := 14) (pc' := 18) rfl (hb hby own_d_jdk_68_method_68_code_14) (by decide) (by decide) kg_) ?_
  show own_Gl p e below _ (T2.setTop (mkF m 18 #[.val (.ref b)] [(.int (1 : Int32))]))
  exact own_retN X2 hx Bd.notSynchronized (t := .boolean) Bd.returns (by simp) (hb hby own_d_jdk_68_method_68_code_18) (by decide) (by decide) e2 (⟨rfl, N0, rfl⟩)
theorem own_d_jdk_68_method_64_code_0 : decode jdk_68_method_64_code 0 = .ok (.aload_n 0, 1) := by decide +kernel
theorem own_d_jdk_68_method_64_code_1 : decode jdk_68_method_64_code 1 = .ok (.getfield 15, 3) := by decide +kernel
theorem own_d_jdk_68_method_64_code_4 : decode jdk_68_method_64_code 4 = .ok (.areturn, 1) := by decide +kernel
theorem own_ef_gvl (m : MethodId) (x0 : Addr) : entryFrame m #[(.ref x0)] 1 = mkF m 0 #[.val (.ref x0)] [] := by first | (simp [entryFrame, mkF, argsToLocals, Value.category]; done) | rfl
def own_Q_gvl (Z : State) (b d : Addr) (h0 : Heap) (n0 : Nat) (v : Option Value) (h : Heap) (L : List Loc) : Prop := v = some (.ref d) ∧ Fr n0 L ∧ h = h0
set_option maxRecDepth 65536 in
set_option maxHeartbeats 40000000 in
theorem own_rm_gvl (l : Launch) (Z : State) (a0 : Array Value) (hw : ∀ d ∈ tables_1, d.before a0 Z = true) (ws : List Jvm.Cond) (b d : Addr) (h0 : Heap) (n0 : Nat) (Z0 : n0 ≤ h0.size) (F_v : Fld Z h0 b "java/lang/AbstractStringBuilder" "value" "[B" (.ref d)) :
    MetFree l (⟨"java/lang/AbstractStringBuilder", "getValue", "()[B"⟩ : MethodName) (head1 (Jvm.Cond.code (⟨"java/lang/AbstractStringBuilder", "getValue", "()[B"⟩ : MethodName) jdk_68_method_64_code 1 (some (.array .byte)) :: ws) ({ frames := 0, cells := 0, slots := 0, locals := 0 } : Room)) (fun aa UU => aa = #[(.ref b)] ∧ Z.Warmed39 UU.vm ∧ UU.heap = h0) (fun _ _ _ _ _ => True) (fun _ UU oo UU' => ∃ vv LL, oo = .returned vv ∧ own_Q_gvl Z b d h0 n0 vv UU'.heap LL ∧ FrameEnd UU oo UU' LL ({ frames := 0, cells := 0, slots := 0, locals := 0 } : Room).cells ({ frames := 0, cells := 0, slots := 0, locals := 0 } : Room).slots) := by
  refine MetFree.of_bodySF (plainFor_of_name own_pn2) hisR ?_
  intro p e s m args below meth c s₁ Bd hml0 hP hK
  obtain ⟨rfl, hZ, hh⟩ := hP
  have hx := Bd.exec
  have hby := Bd.bytes
  have hml : c.maxLocals = 1 := hml0
  have hown : s.vm.findClass "java/lang/AbstractStringBuilder" = some m.cls := findClass_of_methodNamed Bd.named
  have hnm := (name_of_methodNamed Bd.named Bd.method).1
  have X0 : Stand p l e ({ frames := 0, cells := 0, slots := 0, locals := 0 } : Room) s m #[(.ref b)] below meth c s₁ [] 0 0 := Stand.of_body Bd
  have e0 : s₁.heap = h0 := by rw [← hh, Bd.state]; rfl
  have N0 := Fr.nil n0
  show own_Gl p e below (own_Post s (own_Q_gvl Z b d h0 n0) ({ frames := 0, cells := 0, slots := 0, locals := 0 } : Room).cells ({ frames := 0, cells := 0, slots := 0, locals := 0 } : Room).slots) _
  refine own_st (fun tg_ kg_ => castTop (own_ef_gvl m b) kg_) ?_
  show own_Gl p e below _ (s₁.setTop (mkF m 0 #[.val (.ref b)] []))
  refine own_st (fun tg_ kg_ => XS.aloadN X0.here hx rfl (hb hby own_d_jdk_68_method_64_code_0) rfl rfl kg_) ?_
  show own_Gl p e below _ (s₁.setTop (mkF m 1 #[.val (.ref b)] [(.ref b)]))
  obtain ⟨T1, X1, e1, st1⟩ := getF X0 hx hZ hown (host := "") (Or.inl (hw _ (List.mem_of_getElem? (i := 53) rfl))) Via.refl e0 F_v (g := (mkF m 1 #[.val (.ref b)] [(.ref b)])) rfl rfl (hb hby own_d_jdk_68_method_64_code_1)
  refine own_st st1 ?_
  try clear st1
  show own_Gl p e below _ (T1.setTop (mkF m 4 #[.val (.ref b)] [(.ref d)]))
  exact own_retA X1 hx Bd.notSynchronized Bd.returns rfl rfl (hb hby own_d_jdk_68_method_64_code_4) (by decide) (by decide) e1 (⟨rfl, N0, rfl⟩)
theorem own_d_jdk_68_method_6_code_0 : decode jdk_68_method_6_code 0 = .ok (.aload_n 0, 1) := by decide +kernel
theorem own_d_jdk_68_method_6_code_1 : decode jdk_68_method_6_code 1 = .ok (.getfield 79, 3) := by decide +kernel
theorem own_d_jdk_68_method_6_code_4 : decode jdk_68_method_6_code 4 = .ok (.ireturn, 1) := by decide +kernel
theorem own_ef_abl (m : MethodId) (x0 : Addr) : entryFrame m #[(.ref x0)] 1 = mkF m 0 #[.val (.ref x0)] [] := by first | (simp [entryFrame, mkF, argsToLocals, Value.category]; done) | rfl
def own_Q_abl (Z : State) (b : Addr) (z1 : Int32) (h0 : Heap) (n0 : Nat) (v : Option Value) (h : Heap) (L : List Loc) : Prop := v = some (.int z1) ∧ Fr n0 L ∧ h = h0
set_option maxRecDepth 65536 in
set_option maxHeartbeats 40000000 in
theorem own_rm_abl (l : Launch) (Z : State) (a0 : Array Value) (hw : ∀ d ∈ tables_1, d.before a0 Z = true) (ws : List Jvm.Cond) (b : Addr) (z1 : Int32) (h0 : Heap) (n0 : Nat) (Z0 : n0 ≤ h0.size) (F_n : Fld Z h0 b "java/lang/AbstractStringBuilder" "count" "I" (.int z1)) :
    MetFree l (⟨"java/lang/AbstractStringBuilder", "length", "()I"⟩ : MethodName) (head1 (Jvm.Cond.code (⟨"java/lang/AbstractStringBuilder", "length", "()I"⟩ : MethodName) jdk_68_method_6_code 1 (some .int) :: ws) ({ frames := 0, cells := 0, slots := 0, locals := 0 } : Room)) (fun aa UU => aa = #[(.ref b)] ∧ Z.Warmed39 UU.vm ∧ UU.heap = h0) (fun _ _ _ _ _ => True) (fun _ UU oo UU' => ∃ vv LL, oo = .returned vv ∧ own_Q_abl Z b z1 h0 n0 vv UU'.heap LL ∧ FrameEnd UU oo UU' LL ({ frames := 0, cells := 0, slots := 0, locals := 0 } : Room).cells ({ frames := 0, cells := 0, slots := 0, locals := 0 } : Room).slots) := by
  refine MetFree.of_bodySF (plainFor_of_name own_pn2) hisR ?_
  intro p e s m args below meth c s₁ Bd hml0 hP hK
  obtain ⟨rfl, hZ, hh⟩ := hP
  have hx := Bd.exec
  have hby := Bd.bytes
  have hml : c.maxLocals = 1 := hml0
  have hown : s.vm.findClass "java/lang/AbstractStringBuilder" = some m.cls := findClass_of_methodNamed Bd.named
  have hnm := (name_of_methodNamed Bd.named Bd.method).1
  have X0 : Stand p l e ({ frames := 0, cells := 0, slots := 0, locals := 0 } : Room) s m #[(.ref b)] below meth c s₁ [] 0 0 := Stand.of_body Bd
  have e0 : s₁.heap = h0 := by rw [← hh, Bd.state]; rfl
  have N0 := Fr.nil n0
  show own_Gl p e below (own_Post s (own_Q_abl Z b z1 h0 n0) ({ frames := 0, cells := 0, slots := 0, locals := 0 } : Room).cells ({ frames := 0, cells := 0, slots := 0, locals := 0 } : Room).slots) _
  refine own_st (fun tg_ kg_ => castTop (own_ef_abl m b) kg_) ?_
  show own_Gl p e below _ (s₁.setTop (mkF m 0 #[.val (.ref b)] []))
  refine own_st (fun tg_ kg_ => XS.aloadN X0.here hx rfl (hb hby own_d_jdk_68_method_6_code_0) rfl rfl kg_) ?_
  show own_Gl p e below _ (s₁.setTop (mkF m 1 #[.val (.ref b)] [(.ref b)]))
  obtain ⟨T1, X1, e1, st1⟩ := getF X0 hx hZ hown (host := "") (Or.inl (hw _ (List.mem_of_getElem? (i := 67) rfl))) Via.refl e0 F_n (g := (mkF m 1 #[.val (.ref b)] [(.ref b)])) rfl rfl (hb hby own_d_jdk_68_method_6_code_1)
  refine own_st st1 ?_
  try clear st1
  show own_Gl p e below _ (T1.setTop (mkF m 4 #[.val (.ref b)] [(.int z1)]))
  exact own_retI X1 hx Bd.notSynchronized Bd.returns (hb hby own_d_jdk_68_method_6_code_4) (by decide) (by decide) e1 (⟨rfl, N0, rfl⟩)
theorem own_pd4 : parseMethodDescriptor "()I" = some ⟨[], some .int⟩ := by decide +kernel
theorem own_pn5 : plainName "java/lang/StringBuilder" = true := by first | (simp [plainName, overriddenIn]; done) | decide +kernel
theorem own_d_jdk_67_method_93_code_0 : decode jdk_67_method_93_code 0 = .ok (.aload_n 0, 1) := by decide +kernel
theorem own_d_jdk_67_method_93_code_1 : decode jdk_67_method_93_code 1 = .ok (.invokespecial 343, 3) := by decide +kernel
theorem own_d_jdk_67_method_93_code_4 : decode jdk_67_method_93_code 4 = .ok (.ireturn, 1) := by decide +kernel
theorem own_ef_sbl (m : MethodId) (x0 : Addr) : entryFrame m #[(.ref x0)] 1 = mkF m 0 #[.val (.ref x0)] [] := by first | (simp [entryFrame, mkF, argsToLocals, Value.category]; done) | rfl
def own_Q_sbl (Z : State) (b : Addr) (z1 : Int32) (h0 : Heap) (n0 : Nat) (v : Option Value) (h : Heap) (L : List Loc) : Prop := v = some (.int z1) ∧ Fr n0 L ∧ h = h0
set_option maxRecDepth 65536 in
set_option maxHeartbeats 40000000 in
theorem own_rm_sbl (l : Launch) (Z : State) (a0 : Array Value) (hw : ∀ d ∈ tables_1, d.before a0 Z = true) (ws : List Jvm.Cond) (b : Addr) (z1 : Int32) (h0 : Heap) (n0 : Nat) (Z0 : n0 ≤ h0.size) (E_b : Exa Z h0 b "java/lang/StringBuilder")(F_n : Fld Z h0 b "java/lang/AbstractStringBuilder" "count" "I" (.int z1)) :
    MetFree l (⟨"java/lang/StringBuilder", "length", "()I"⟩ : MethodName) (head1 (Jvm.Cond.code (⟨"java/lang/StringBuilder", "length", "()I"⟩ : MethodName) jdk_67_method_93_code 1 (some .int) :: ws) ({ frames := 1, cells := 0, slots := 0, locals := 12 } : Room)) (fun aa UU => aa = #[(.ref b)] ∧ Z.Warmed39 UU.vm ∧ UU.heap = h0) (fun _ _ _ _ _ => True) (fun _ UU oo UU' => ∃ vv LL, oo = .returned vv ∧ own_Q_sbl Z b z1 h0 n0 vv UU'.heap LL ∧ FrameEnd UU oo UU' LL ({ frames := 1, cells := 0, slots := 0, locals := 12 } : Room).cells ({ frames := 1, cells := 0, slots := 0, locals := 12 } : Room).slots) := by
  refine MetFree.of_bodySF (plainFor_of_name own_pn5) hisR ?_
  intro p e s m args below meth c s₁ Bd hml0 hP hK
  obtain ⟨rfl, hZ, hh⟩ := hP
  have hx := Bd.exec
  have hby := Bd.bytes
  have hml : c.maxLocals = 1 := hml0
  have hown : s.vm.findClass "java/lang/StringBuilder" = some m.cls := findClass_of_methodNamed Bd.named
  have hnm := (name_of_methodNamed Bd.named Bd.method).1
  have X0 : Stand p l e ({ frames := 1, cells := 0, slots := 0, locals := 12 } : Room) s m #[(.ref b)] below meth c s₁ [] 0 0 := Stand.of_body Bd
  have e0 : s₁.heap = h0 := by rw [← hh, Bd.state]; rfl
  have N0 := Fr.nil n0
  show own_Gl p e below (own_Post s (own_Q_sbl Z b z1 h0 n0) ({ frames := 1, cells := 0, slots := 0, locals := 12 } : Room).cells ({ frames := 1, cells := 0, slots := 0, locals := 12 } : Room).slots) _
  refine own_st (fun tg_ kg_ => castTop (own_ef_sbl m b) kg_) ?_
  show own_Gl p e below _ (s₁.setTop (mkF m 0 #[.val (.ref b)] []))
  refine own_st (fun tg_ kg_ => XS.aloadN X0.here hx rfl (hb hby own_d_jdk_67_method_93_code_0) rfl rfl kg_) ?_
  show own_Gl p e below _ (s₁.setTop (mkF m 1 #[.val (.ref b)] [(.ref b)]))
  obtain ⟨_, _, ⟨T1, L1, k1, n1⟩, -, X1, ⟨Lc1, hQ1, l1, y1, z1⟩, st1⟩ := superBack X0 hx hZ (y := (⟨"java/lang/AbstractStringBuilder", "length", "()I"⟩ : MethodName)) hown (hw _ (List.mem_of_getElem? (i := 160) rfl)) (own_same (y := (⟨"java/lang/AbstractStringBuilder", "length", "()I"⟩ : MethodName)) (hw _ (List.mem_of_getElem? (i := 156) rfl)) (hw _ (List.mem_of_getElem? (i := 76) rfl)) rfl (by decide)) (hw _ (List.mem_of_getElem? (i := 156) rfl)) (hw _ (List.mem_of_getElem? (i := 64) rfl)) (by decide) (backOf (W := 0) (own_rm_abl l Z a0 hw [] b z1 h0 n0 Z0 F_n) hZ (hw _ (List.mem_of_getElem? (i := 161) rfl)) (hw _ (List.mem_of_getElem? (i := 47) rfl)) (by decide) (by decide)) e0 (Ins.self E_b) (g := (mkF m 1 #[.val (.ref b)] [(.ref b)])) rfl (by rw [hml]; rfl) (hw _ (List.mem_of_getElem? (i := 161) rfl)) (argsL := []) (rest := []) (lenOf own_pd4 rfl) rfl (by show 2 * 0 + _ ≤ _; exact Nat.le_of_eq rfl) (hb hby own_d_jdk_67_method_93_code_1) (fun _ _ => ⟨rfl, e0, (by decide : 0 + 0 ≤ _), (by decide : 0 + 0 ≤ _)⟩)
  dsimp only [Pt.U, Pt.locs, Pt.cells, Pt.slots] at X1 l1 y1 z1 st1 hQ1
  obtain rfl : k1 = 0 := y1
  obtain rfl : n1 = 0 := z1
  obtain ⟨rfl, N1q, e1⟩ := hQ1
  have N1 : Fr n0 L1 := by rw [l1]; exact Fr.app N0 N1q
  try clear l1
  refine own_tr st1 ?_
  show own_Gl p e below _ (T1.setTop (mkF m 4 #[.val (.ref b)] [(.int z1)]))
  try clear st1
  try clear N1q
  exact own_retI X1 hx Bd.notSynchronized Bd.returns (hb hby own_d_jdk_67_method_93_code_4) (by decide) (by decide) e1 (⟨rfl, N1, rfl⟩)
theorem own_d_jdk_68_method_2_code_0 : decode jdk_68_method_2_code 0 = .ok (.aload_n 0, 1) := by decide +kernel
theorem own_d_jdk_68_method_2_code_1 : decode jdk_68_method_2_code 1 = .ok (.invokespecial 3, 3) := by decide +kernel
theorem own_d_jdk_68_method_2_code_4 : decode jdk_68_method_2_code 4 = .ok (.getstatic 18, 3) := by decide +kernel
theorem own_d_jdk_68_method_2_code_7 : decode jdk_68_method_2_code 7 = .ok (.ifCond .eq 18, 3) := by decide +kernel
theorem own_d_jdk_68_method_2_code_10 : decode jdk_68_method_2_code 10 = .ok (.aload_n 0, 1) := by decide +kernel
theorem own_d_jdk_68_method_2_code_11 : decode jdk_68_method_2_code 11 = .ok (.iload_n 1, 1) := by decide +kernel
theorem own_d_jdk_68_method_2_code_12 : decode jdk_68_method_2_code 12 = .ok (.newarray .byte, 2) := by decide +kernel
theorem own_d_jdk_68_method_2_code_14 : decode jdk_68_method_2_code 14 = .ok (.putfield 15, 3) := by decide +kernel
theorem own_d_jdk_68_method_2_code_17 : decode jdk_68_method_2_code 17 = .ok (.aload_n 0, 1) := by decide +kernel
theorem own_d_jdk_68_method_2_code_18 : decode jdk_68_method_2_code 18 = .ok (.iconst 0, 1) := by decide +kernel
theorem own_d_jdk_68_method_2_code_19 : decode jdk_68_method_2_code 19 = .ok (.putfield 22, 3) := by decide +kernel
theorem own_d_jdk_68_method_2_code_22 : decode jdk_68_method_2_code 22 = .ok (.goto 16, 3) := by decide +kernel
theorem own_d_jdk_68_method_2_code_38 : decode jdk_68_method_2_code 38 = .ok (.return_, 1) := by decide +kernel
theorem own_ef_abi (m : MethodId) (x0 : Addr) (x1 : Int32) : entryFrame m #[(.ref x0), (.int x1)] 2 = mkF m 0 #[.val (.ref x0), .val (.int x1)] [] := by first | (simp [entryFrame, mkF, argsToLocals, Value.category]; done) | rfl
def own_Q_abi (Z : State) (b : Addr) (zc : Int32) (h0 : Heap) (n0 : Nat) (v : Option Value) (h : Heap) (L : List Loc) : Prop := v = none ∧ Fr n0 L ∧ Keep h0 h [b] ∧ ∃ d kd, h0.size ≤ d ∧ Fld Z h b "java/lang/AbstractStringBuilder" "value" "[B" (.ref d) ∧ Fld Z h b "java/lang/AbstractStringBuilder" "coder" "B" (.int 0) ∧ Fld Z h b "java/lang/AbstractStringBuilder" "count" "I" (.int 0) ∧ Arv Z h d kd .byte (16 : Int32) (List.replicate 16 (.int 0)) (.int 0) ∧ Exa Z h d "[B"
set_option maxRecDepth 65536 in
set_option maxHeartbeats 40000000 in
theorem own_rm_abi (l : Launch) (Z : State) (a0 : Array Value) (hw : ∀ d ∈ tables_1, d.before a0 Z = true) (ws : List Jvm.Cond) (b : Addr) (zc : Int32) (h0 : Heap) (n0 : Nat) (Z0 : n0 ≤ h0.size) (S_C : Sta Z h0 "java/lang/String" "COMPACT_STRINGS" "Z" (.int zc)) (hzc : ¬ zc = 0)(E_b : Exa Z h0 b "java/lang/StringBuilder")(F_v : Fld Z h0 b "java/lang/AbstractStringBuilder" "value" "[B" .null) (F_c : Fld Z h0 b "java/lang/AbstractStringBuilder" "coder" "B" (.int (0 : Int32))) (F_n : Fld Z h0 b "java/lang/AbstractStringBuilder" "count" "I" (.int (0 : Int32))) (g_b : n0 ≤ b) :
    MetFree l (⟨"java/lang/AbstractStringBuilder", "<init>", "(I)V"⟩ : MethodName) (head1 (Jvm.Cond.code (⟨"java/lang/AbstractStringBuilder", "<init>", "(I)V"⟩ : MethodName) jdk_68_method_2_code 2 none :: ws) ({ frames := 1, cells := 1, slots := 16, locals := 12 } : Room)) (fun aa UU => aa = #[(.ref b), (.int (16 : Int32))] ∧ Z.Warmed39 UU.vm ∧ UU.heap = h0) (fun _ _ _ _ _ => True) (fun _ UU oo UU' => ∃ vv LL, oo = .returned vv ∧ own_Q_abi Z b zc h0 n0 vv UU'.heap LL ∧ FrameEnd UU oo UU' LL ({ frames := 1, cells := 1, slots := 16, locals := 12 } : Room).cells ({ frames := 1, cells := 1, slots := 16, locals := 12 } : Room).slots) := by
  refine MetFree.of_bodySF (plainFor_of_name own_pn2) hisR ?_
  intro p e s m args below meth c s₁ Bd hml0 hP hK
  obtain ⟨rfl, hZ, hh⟩ := hP
  have hx := Bd.exec
  have hby := Bd.bytes
  have hml : c.maxLocals = 2 := hml0
  have hown : s.vm.findClass "java/lang/AbstractStringBuilder" = some m.cls := findClass_of_methodNamed Bd.named
  have hnm := (name_of_methodNamed Bd.named Bd.method).1
  have X0 : Stand p l e ({ frames := 1, cells := 1, slots := 16, locals := 12 } : Room) s m #[(.ref b), (.int (16 : Int32))] below meth c s₁ [] 0 0 := Stand.of_body Bd
  have e0 : s₁.heap = h0 := by rw [← hh, Bd.state]; rfl
  have N0 := Fr.nil n0
  have K0 : Keep h0 h0 [b] := Keep.refl h0 _
  show own_Gl p e below (own_Post s (own_Q_abi Z b zc h0 n0) ({ frames := 1, cells := 1, slots := 16, locals := 12 } : Room).cells ({ frames := 1, cells := 1, slots := 16, locals := 12 } : Room).slots) _
  refine own_st (fun tg_ kg_ => castTop (own_ef_abi m b (16 : Int32)) kg_) ?_
  show own_Gl p e below _ (s₁.setTop (mkF m 0 #[.val (.ref b), .val (.int (16 : Int32))] []))
  have ns_b := E_b.nostat
  refine own_st (fun tg_ kg_ => XS.aloadN X0.here hx rfl (hb hby own_d_jdk_68_method_2_code_0) rfl rfl kg_) ?_
  show own_Gl p e below _ (s₁.setTop (mkF m 1 #[.val (.ref b), .val (.int (16 : Int32))] [(.ref b)]))
  obtain ⟨T1, X1, e1, st1⟩ := initO X0 hx hZ hown (hw _ (List.mem_of_getElem? (i := 49) rfl)) (hw _ (List.mem_of_getElem? (i := 11) rfl)) (hw _ (List.mem_of_getElem? (i := 12) rfl)) e0 (g := (mkF m 1 #[.val (.ref b), .val (.int (16 : Int32))] [(.ref b)])) rfl (by rw [hml]; rfl) rfl (hb hby own_d_jdk_68_method_2_code_1) (by decide) (W := 0) (by show 2 * 0 + _ ≤ _; exact Nat.le_of_eq rfl) (by decide)
  refine own_st st1 ?_
  try clear st1
  show own_Gl p e below _ (T1.setTop (mkF m 4 #[.val (.ref b), .val (.int (16 : Int32))] []))
  obtain ⟨T2, X2, e2, st2⟩ := getS2 X1 hx hZ hown (host := "") (Or.inl (hw _ (List.mem_of_getElem? (i := 50) rfl))) Via.refl e1 (own_sta_keep S_C K0 (nsS ns_b ns0)) (g := (mkF m 4 #[.val (.ref b), .val (.int (16 : Int32))] [])) rfl (hb hby own_d_jdk_68_method_2_code_4)
  refine own_st st2 ?_
  try clear st2
  try clear e1
  try clear X1
  try clear T1
  show own_Gl p e below _ (T2.setTop (mkF m 7 #[.val (.ref b), .val (.int (16 : Int32))] [(.int zc)]))
  refine own_st (fun tg_ kg_ => XS.ifNo X2.here hx rfl (hb hby own_d_jdk_68_method_2_code_7) rfl ((if0 _ _).trans (feq (hzc)).1) kg_) ?_
  show own_Gl p e below _ (T2.setTop (mkF m 10 #[.val (.ref b), .val (.int (16 : Int32))] []))
  refine own_st (fun tg_ kg_ => XS.aloadN X2.here hx rfl (hb hby own_d_jdk_68_method_2_code_10) rfl rfl kg_) ?_
  show own_Gl p e below _ (T2.setTop (mkF m 11 #[.val (.ref b), .val (.int (16 : Int32))] [(.ref b)]))
  refine own_st (fun tg_ kg_ => XS.iloadN X2.here hx rfl (hb hby own_d_jdk_68_method_2_code_11) rfl kg_) ?_
  show own_Gl p e below _ (T2.setTop (mkF m 12 #[.val (.ref b), .val (.int (16 : Int32))] [(.int (16 : Int32)), (.ref b)]))
  obtain ⟨T3, h3, k3, X3, e3, E3, A3, B3, st3⟩ := newPE X2 hx hZ (hw _ (List.mem_of_getElem? (i := 52) rfl)) e2 (g := (mkF m 12 #[.val (.ref b), .val (.int (16 : Int32))] [(.int (16 : Int32)), (.ref b)])) rfl (hb hby own_d_jdk_68_method_2_code_12) rfl (by decide) (cap := 16) (by decide) (by decide) (by decide) (by decide) (ad := "[B") (by decide)
  obtain ⟨d, g3⟩ : ∃ z, z = h0.size := ⟨_, rfl⟩
  have ne_b_d : b ≠ d := Nat.ne_of_lt (Nat.lt_of_lt_of_le E_b.lt (Nat.le_of_eq g3.symm))
  have sz_d : h0.size ≤ d := (Nat.le_trans K0.1 (Nat.le_of_eq g3.symm))
  have g_d : n0 ≤ d := Nat.le_trans Z0 sz_d
  rw [← g3] at A3 B3 st3
  replace E_b := E_b.ext E3
  replace F_v := F_v.ext E3
  replace F_c := F_c.ext E3
  replace F_n := F_n.ext E3
  have K4 : Keep h0 h3 [b] := K0.ext E3
  try clear E3
  have E_d := B3
  have V_d : Arv Z h3 d k3 .byte (16 : Int32) [] (.int 0) := Arv.new A3 (by decide)
  refine own_st st3 ?_
  try clear st3
  try clear e2
  try clear X2
  try clear T2
  show own_Gl p e below _ (T3.setTop (mkF m 14 #[.val (.ref b), .val (.int (16 : Int32))] [(.ref d), (.ref b)]))
  obtain ⟨T5, h5, X5, e5, W5, st5⟩ := putF X3 hx hZ hown (host := "") (Or.inl (hw _ (List.mem_of_getElem? (i := 53) rfl))) Via.refl e3 F_v E_b (Or.inl (hw _ (List.mem_of_getElem? (i := 54) rfl))) (hw _ (List.mem_of_getElem? (i := 38) rfl)) (ty := (.array .byte)) (by decide) rfl rfl (g := (mkF m 14 #[.val (.ref b), .val (.int (16 : Int32))] [(.ref d), (.ref b)])) rfl rfl (hb hby own_d_jdk_68_method_2_code_14)
  have N5 := Fr.snoc X5 N0 g_b
  replace E_b := E_b.wr W5
  replace F_v := F_v.same W5
  replace F_c := F_c.other W5 (Or.inr (slot_ne (Or.inl (hw _ (List.mem_of_getElem? (i := 56) rfl))) (Or.inl (hw _ (List.mem_of_getElem? (i := 54) rfl))) (by decide) (t := .byte) (t' := (.array .byte)) (by decide) (by decide)))
  replace F_n := F_n.other W5 (Or.inr (slot_ne (Or.inl (hw _ (List.mem_of_getElem? (i := 68) rfl))) (Or.inl (hw _ (List.mem_of_getElem? (i := 54) rfl))) (by decide) (t := .int) (t' := (.array .byte)) (by decide) (by decide)))
  replace E_d := E_d.wr W5
  replace V_d := V_d.other W5 ne_b_d.symm
  have K6 : Keep h0 h5 [b] := K4.wr W5 (Or.inl (List.mem_of_getElem? (i := 0) rfl))
  try clear K4
  refine own_st st5 ?_
  try clear st5
  try clear e3
  try clear X3
  try clear T3
  show own_Gl p e below _ (T5.setTop (mkF m 17 #[.val (.ref b), .val (.int (16 : Int32))] []))
  refine own_st (fun tg_ kg_ => XS.aloadN X5.here hx rfl (hb hby own_d_jdk_68_method_2_code_17) rfl rfl kg_) ?_
  show own_Gl p e below _ (T5.setTop (mkF m 18 #[.val (.ref b), .val (.int (16 : Int32))] [(.ref b)]))
  refine own_st (fun tg_ kg_ => XS.iconst X5.here hx rfl (hb hby own_d_jdk_68_method_2_code_18) kg_) ?_
  show own_Gl p e below _ (T5.setTop (mkF m 19 #[.val (.ref b), .val (.int (16 : Int32))] [(.int (0 : Int32)), (.ref b)]))
  obtain ⟨T7, h7, X7, e7, W7, st7⟩ := putFN X5 hx hZ hown (hw _ (List.mem_of_getElem? (i := 55) rfl)) Via.refl e5 F_c E_b (Or.inl (hw _ (List.mem_of_getElem? (i := 56) rfl))) (hw _ (List.mem_of_getElem? (i := 38) rfl)) (ty := .byte) (v' := (.int (nar .byte (0 : Int32)))) (by decide) rfl (fits_nar_byte _) (g := (mkF m 19 #[.val (.ref b), .val (.int (16 : Int32))] [(.int (0 : Int32)), (.ref b)])) rfl rfl (hb hby own_d_jdk_68_method_2_code_19)
  have N7 := Fr.snoc X7 N5 g_b
  try clear N5
  replace E_b := E_b.wr W7
  replace F_v := F_v.other W7 (Or.inr (slot_ne (Or.inl (hw _ (List.mem_of_getElem? (i := 54) rfl))) (Or.inl (hw _ (List.mem_of_getElem? (i := 56) rfl))) (by decide) (t := (.array .byte)) (t' := .byte) (by decide) (by decide)))
  replace F_c := F_c.same W7
  replace F_n := F_n.other W7 (Or.inr (slot_ne (Or.inl (hw _ (List.mem_of_getElem? (i := 68) rfl))) (Or.inl (hw _ (List.mem_of_getElem? (i := 56) rfl))) (by decide) (t := .int) (t' := .byte) (by decide) (by decide)))
  replace E_d := E_d.wr W7
  replace V_d := V_d.other W7 ne_b_d.symm
  have K8 : Keep h0 h7 [b] := K6.wr W7 (Or.inl (List.mem_of_getElem? (i := 0) rfl))
  try clear K6
  refine own_st st7 ?_
  try clear st7
  try clear e5
  try clear X5
  try clear T5
  show own_Gl p e below _ (T7.setTop (mkF m 22 #[.val (.ref b), .val (.int (16 : Int32))] []))
  refine own_st (fun tg_ kg_ => XS.goto X7.here hx rfl (pc0 := 22) (pc' := 38) rfl (hb hby own_d_jdk_68_method_2_code_22) (by decide) (by decide) kg_) ?_
  show own_Gl p e below _ (T7.setTop (mkF m 38 #[.val (.ref b), .val (.int (16 : Int32))] []))
  exact own_retV X7 hx Bd.notSynchronized Bd.returns (hb hby own_d_jdk_68_method_2_code_38) (by decide) (by decide) e7 (⟨rfl, N7, K8, _, _, sz_d, F_v, own_nb0 ▸ F_c, F_n, V_d.pad (pad_rep [] (.int 0) 16), E_d⟩)
theorem own_pd5 : parseMethodDescriptor "(I)V" = some ⟨[.int], none⟩ := by decide +kernel
theorem own_d_jdk_67_method_1_code_0 : decode jdk_67_method_1_code 0 = .ok (.aload_n 0, 1) := by decide +kernel
theorem own_d_jdk_67_method_1_code_1 : decode jdk_67_method_1_code 1 = .ok (.bipush 16, 2) := by decide +kernel
theorem own_d_jdk_67_method_1_code_3 : decode jdk_67_method_1_code 3 = .ok (.invokespecial 1, 3) := by decide +kernel
theorem own_d_jdk_67_method_1_code_6 : decode jdk_67_method_1_code 6 = .ok (.return_, 1) := by decide +kernel
theorem own_ef_sbi (m : MethodId) (x0 : Addr) : entryFrame m #[(.ref x0)] 1 = mkF m 0 #[.val (.ref x0)] [] := by first | (simp [entryFrame, mkF, argsToLocals, Value.category]; done) | rfl
def own_Q_sbi (Z : State) (b : Addr) (zc : Int32) (h0 : Heap) (n0 : Nat) (v : Option Value) (h : Heap) (L : List Loc) : Prop := v = none ∧ Fr n0 L ∧ Keep h0 h [b] ∧ ∃ d kd, h0.size ≤ d ∧ Fld Z h b "java/lang/AbstractStringBuilder" "value" "[B" (.ref d) ∧ Fld Z h b "java/lang/AbstractStringBuilder" "coder" "B" (.int 0) ∧ Fld Z h b "java/lang/AbstractStringBuilder" "count" "I" (.int 0) ∧ Arv Z h d kd .byte (16 : Int32) (List.replicate 16 (.int 0)) (.int 0) ∧ Exa Z h d "[B"
set_option maxRecDepth 65536 in
set_option maxHeartbeats 40000000 in
theorem own_rm_sbi (l : Launch) (Z : State) (a0 : Array Value) (hw : ∀ d ∈ tables_1, d.before a0 Z = true) (ws : List Jvm.Cond) (b : Addr) (zc : Int32) (h0 : Heap) (n0 : Nat) (Z0 : n0 ≤ h0.size) (S_C : Sta Z h0 "java/lang/String" "COMPACT_STRINGS" "Z" (.int zc)) (hzc : ¬ zc = 0)(E_b : Exa Z h0 b "java/lang/StringBuilder")(F_v : Fld Z h0 b "java/lang/AbstractStringBuilder" "value" "[B" .null) (F_c : Fld Z h0 b "java/lang/AbstractStringBuilder" "coder" "B" (.int (0 : Int32))) (F_n : Fld Z h0 b "java/lang/AbstractStringBuilder" "count" "I" (.int (0 : Int32))) (g_b : n0 ≤ b) :
    MetFree l (⟨"java/lang/StringBuilder", "<init>", "()V"⟩ : MethodName) (head1 (Jvm.Cond.code (⟨"java/lang/StringBuilder", "<init>", "()V"⟩ : MethodName) jdk_67_method_1_code 1 none :: ws) ({ frames := 2, cells := 1, slots := 16, locals := 25 } : Room)) (fun aa UU => aa = #[(.ref b)] ∧ Z.Warmed39 UU.vm ∧ UU.heap = h0) (fun _ _ _ _ _ => True) (fun _ UU oo UU' => ∃ vv LL, oo = .returned vv ∧ own_Q_sbi Z b zc h0 n0 vv UU'.heap LL ∧ FrameEnd UU oo UU' LL ({ frames := 2, cells := 1, slots := 16, locals := 25 } : Room).cells ({ frames := 2, cells := 1, slots := 16, locals := 25 } : Room).slots) := by
  refine MetFree.of_bodySF (plainFor_of_name own_pn5) hisR ?_
  intro p e s m args below meth c s₁ Bd hml0 hP hK
  obtain ⟨rfl, hZ, hh⟩ := hP
  have hx := Bd.exec
  have hby := Bd.bytes
  have hml : c.maxLocals = 1 := hml0
  have hown : s.vm.findClass "java/lang/StringBuilder" = some m.cls := findClass_of_methodNamed Bd.named
  have hnm := (name_of_methodNamed Bd.named Bd.method).1
  have X0 : Stand p l e ({ frames := 2, cells := 1, slots := 16, locals := 25 } : Room) s m #[(.ref b)] below meth c s₁ [] 0 0 := Stand.of_body Bd
  have e0 : s₁.heap = h0 := by rw [← hh, Bd.state]; rfl
  have N0 := Fr.nil n0
  have K0 : Keep h0 h0 [b] := Keep.refl h0 _
  show own_Gl p e below (own_Post s (own_Q_sbi Z b zc h0 n0) ({ frames := 2, cells := 1, slots := 16, locals := 25 } : Room).cells ({ frames := 2, cells := 1, slots := 16, locals := 25 } : Room).slots) _
  refine own_st (fun tg_ kg_ => castTop (own_ef_sbi m b) kg_) ?_
  show own_Gl p e below _ (s₁.setTop (mkF m 0 #[.val (.ref b)] []))
  have ns_b := E_b.nostat
  refine own_st (fun tg_ kg_ => XS.aloadN X0.here hx rfl (hb hby own_d_jdk_67_method_1_code_0) rfl rfl kg_) ?_
  show own_Gl p e below _ (s₁.setTop (mkF m 1 #[.val (.ref b)] [(.ref b)]))
  refine own_st (fun tg_ kg_ => XS.bipush X0.here hx rfl (hb hby own_d_jdk_67_method_1_code_1) kg_) ?_
  show own_Gl p e below _ (s₁.setTop (mkF m 3 #[.val (.ref b)] [(.int (16 : Int32)), (.ref b)]))
  obtain ⟨_, _, ⟨T1, L1, k1, n1⟩, -, X1, ⟨Lc1, hQ1, l1, y1, z1⟩, st1⟩ := X0.specialBack hx (y := (⟨"java/lang/AbstractStringBuilder", "<init>", "(I)V"⟩ : MethodName)) rfl hown (mvT hZ (hw _ (List.mem_of_getElem? (i := 43) rfl))) (mvT hZ (hw _ (List.mem_of_getElem? (i := 44) rfl))) (mvT hZ (hw _ (List.mem_of_getElem? (i := 48) rfl))) (by decide) (backOf (W := 0) (own_rm_abi l Z a0 hw [] b zc h0 n0 (Nat.le_trans Z0 K0.1) (own_sta_keep S_C K0 (nsS ns_b ns0)) hzc E_b F_v F_c F_n g_b) hZ (hw _ (List.mem_of_getElem? (i := 48) rfl)) (hw _ (List.mem_of_getElem? (i := 47) rfl)) (by decide) (by decide)) (g := (mkF m 3 #[.val (.ref b)] [(.int (16 : Int32)), (.ref b)])) rfl (by rw [hml]; rfl) (Steps.refl _) (a := b) (argsL := [(.int (16 : Int32))]) (rest := []) (lenOf own_pd5 rfl) rfl (by show 2 * 0 + _ ≤ _; exact Nat.le_of_eq rfl) (hb hby own_d_jdk_67_method_1_code_3) (fun _ _ => ⟨rfl, e0, (by decide : 0 + 1 ≤ _), (by decide : 0 + 16 ≤ _)⟩)
  dsimp only [Pt.U, Pt.locs, Pt.cells, Pt.slots] at X1 l1 y1 z1 st1 hQ1
  obtain rfl : k1 = 1 := y1
  obtain rfl : n1 = 16 := z1
  obtain ⟨rfl, N1q, Kc1, hq⟩ := hQ1
  have N1 : Fr n0 L1 := by rw [l1]; exact Fr.app N0 N1q
  try clear l1
  refine own_tr st1 ?_
  replace E_b := E_b.keep Kc1
  have K2 : Keep h0 T1.heap [b] := K0.trans Kc1 (allS (Or.inl (List.mem_of_getElem? (i := 0) rfl)) all0)
  try clear Kc1
  show own_Gl p e below _ (T1.setTop (mkF m 6 #[.val (.ref b)] []))
  try clear st1
  try clear N1q
  exact own_retV X1 hx Bd.notSynchronized Bd.returns (hb hby own_d_jdk_67_method_1_code_6) (by decide) (by decide) rfl (⟨rfl, N1, K2, hq⟩)
theorem own_pd6 : parseMethodDescriptor "()Z" = some ⟨[], some .boolean⟩ := by decide +kernel
theorem own_pd7 : parseMethodDescriptor "(II[B)I" = some ⟨[.int, .int, (.array .byte)], some .int⟩ := by decide +kernel
theorem own_d_jdk_68_method_32_code_0 : decode jdk_68_method_32_code 0 = .ok (.aload_n 0, 1) := by decide +kernel
theorem own_d_jdk_68_method_32_code_1 : decode jdk_68_method_32_code 1 = .ok (.getfield 79, 3) := by decide +kernel
theorem own_d_jdk_68_method_32_code_4 : decode jdk_68_method_32_code 4 = .ok (.istore_n 2, 1) := by decide +kernel
theorem own_d_jdk_68_method_32_code_5 : decode jdk_68_method_32_code 5 = .ok (.iload_n 2, 1) := by decide +kernel
theorem own_d_jdk_68_method_32_code_6 : decode jdk_68_method_32_code 6 = .ok (.iload_n 1, 1) := by decide +kernel
theorem own_d_jdk_68_method_32_code_7 : decode jdk_68_method_32_code 7 = .ok (.invokestatic 245, 3) := by decide +kernel
theorem own_d_jdk_68_method_32_code_10 : decode jdk_68_method_32_code 10 = .ok (.iadd, 1) := by decide +kernel
theorem own_d_jdk_68_method_32_code_11 : decode jdk_68_method_32_code 11 = .ok (.istore_n 3, 1) := by decide +kernel
theorem own_d_jdk_68_method_32_code_12 : decode jdk_68_method_32_code 12 = .ok (.aload_n 0, 1) := by decide +kernel
theorem own_d_jdk_68_method_32_code_13 : decode jdk_68_method_32_code 13 = .ok (.iload_n 3, 1) := by decide +kernel
theorem own_d_jdk_68_method_32_code_14 : decode jdk_68_method_32_code 14 = .ok (.invokevirtual 100, 3) := by decide +kernel
theorem own_d_jdk_68_method_32_code_17 : decode jdk_68_method_32_code 17 = .ok (.aload_n 0, 1) := by decide +kernel
theorem own_d_jdk_68_method_32_code_18 : decode jdk_68_method_32_code 18 = .ok (.invokevirtual 83, 3) := by decide +kernel
theorem own_d_jdk_68_method_32_code_21 : decode jdk_68_method_32_code 21 = .ok (.ifCond .eq 16, 3) := by decide +kernel
theorem own_d_jdk_68_method_32_code_24 : decode jdk_68_method_32_code 24 = .ok (.iload_n 1, 1) := by decide +kernel
theorem own_d_jdk_68_method_32_code_25 : decode jdk_68_method_32_code 25 = .ok (.iload_n 3, 1) := by decide +kernel
theorem own_d_jdk_68_method_32_code_26 : decode jdk_68_method_32_code 26 = .ok (.aload_n 0, 1) := by decide +kernel
theorem own_d_jdk_68_method_32_code_27 : decode jdk_68_method_32_code 27 = .ok (.getfield 15, 3) := by decide +kernel
theorem own_d_jdk_68_method_32_code_30 : decode jdk_68_method_32_code 30 = .ok (.invokestatic 248, 3) := by decide +kernel
theorem own_d_jdk_68_method_32_code_33 : decode jdk_68_method_32_code 33 = .ok (.pop, 1) := by decide +kernel
theorem own_d_jdk_68_method_32_code_34 : decode jdk_68_method_32_code 34 = .ok (.goto 14, 3) := by decide +kernel
theorem own_d_jdk_68_method_32_code_48 : decode jdk_68_method_32_code 48 = .ok (.aload_n 0, 1) := by decide +kernel
theorem own_d_jdk_68_method_32_code_49 : decode jdk_68_method_32_code 49 = .ok (.iload_n 3, 1) := by decide +kernel
theorem own_d_jdk_68_method_32_code_50 : decode jdk_68_method_32_code 50 = .ok (.putfield 79, 3) := by decide +kernel
theorem own_d_jdk_68_method_32_code_53 : decode jdk_68_method_32_code 53 = .ok (.aload_n 0, 1) := by decide +kernel
theorem own_d_jdk_68_method_32_code_54 : decode jdk_68_method_32_code 54 = .ok (.areturn, 1) := by decide +kernel
theorem own_ef_aai (m : MethodId) (x0 : Addr) (x1 : Int32) : entryFrame m #[(.ref x0), (.int x1)] 4 = mkF m 0 #[.val (.ref x0), .val (.int x1), .unset, .unset] [] := by first | (simp [entryFrame, mkF, argsToLocals, Value.category]; done) | rfl
def own_Q_aai (Z : State) (b d : Addr) (kd : ClassId) (sv zc : Int32)(o1 o2 : Addr) (k1 k2 : ClassId) (K2 : List Int32) (h0 : Heap) (n0 : Nat) (v : Option Value) (h : Heap) (L : List Loc) : Prop := v = some (.ref b) ∧ Fr n0 L ∧ Keep h0 h [b, d] ∧ ∃ (dn : Nat) (P : List Value), own_D sv.toInt dn ∧ P.length = 16 ∧ P.getD (dn - 1) (.int 0) = (.int (own_dg sv)) ∧ Arv Z h d kd .byte (16 : Int32) P (.int 0) ∧ Fld Z h b "java/lang/AbstractStringBuilder" "value" "[B" (.ref d) ∧ Fld Z h b "java/lang/AbstractStringBuilder" "coder" "B" (.int 0) ∧ Fld Z h b "java/lang/AbstractStringBuilder" "count" "I" (.int (Int32.ofNat dn))
set_option maxRecDepth 65536 in
set_option maxHeartbeats 40000000 in
theorem own_rm_aai (l : Launch) (Z : State) (a0 : Array Value) (hw : ∀ d ∈ tables_1, d.before a0 Z = true) (ws : List Jvm.Cond) (b d : Addr) (kd : ClassId) (sv zc : Int32)(o1 o2 : Addr) (k1 k2 : ClassId) (K2 : List Int32) (h0 : Heap) (n0 : Nat) (Z0 : n0 ≤ h0.size) (S_C : Sta Z h0 "java/lang/String" "COMPACT_STRINGS" "Z" (.int zc)) (hzc : ¬ zc = 0)(hone : 1 ≤ sv.toInt)(S_1 : Sta Z h0 "java/lang/Integer" "DigitOnes" "[B" (.ref o1)) (S_2 : Sta Z h0 "java/lang/Integer" "DigitTens" "[B" (.ref o2)) (V_1 : Arv Z h0 o1 k1 .byte (100 : Int32) own_ones (.int 0)) (V_2 : Arv Z h0 o2 k2 .byte (100 : Int32) (K2.map Value.int) (.int 0))(E_b : Exa Z h0 b "java/lang/StringBuilder")(F_v : Fld Z h0 b "java/lang/AbstractStringBuilder" "value" "[B" (.ref d))(F_c : Fld Z h0 b "java/lang/AbstractStringBuilder" "coder" "B" (.int 0))(F_n : Fld Z h0 b "java/lang/AbstractStringBuilder" "count" "I" (.int (0 : Int32)))(V_d : Arv Z h0 d kd .byte (16 : Int32) (List.replicate 16 (.int 0)) (.int 0)) (g_b : n0 ≤ b) (g_d : n0 ≤ d)(ne_o1_d : o1 ≠ d) (ne_o2_d : o2 ≠ d)(ne_o1_b : o1 ≠ b) (ne_o2_b : o2 ≠ b) (ne_b_d : b ≠ d) :
    MetFree l (⟨"java/lang/AbstractStringBuilder", "append", "(I)Ljava/lang/AbstractStringBuilder;"⟩ : MethodName) (head1 (Jvm.Cond.code (⟨"java/lang/AbstractStringBuilder", "append", "(I)Ljava/lang/AbstractStringBuilder;"⟩ : MethodName) jdk_68_method_32_code 4 (some (.object "java/lang/AbstractStringBuilder")) :: ws) ({ frames := 1, cells := 0, slots := 0, locals := 18 } : Room)) (fun aa UU => aa = #[(.ref b), (.int sv)] ∧ Z.Warmed39 UU.vm ∧ UU.heap = h0) (fun _ _ _ _ _ => True) (fun _ UU oo UU' => ∃ vv LL, oo = .returned vv ∧ own_Q_aai Z b d kd sv zc o1 o2 k1 k2 K2 h0 n0 vv UU'.heap LL ∧ FrameEnd UU oo UU' LL ({ frames := 1, cells := 0, slots := 0, locals := 18 } : Room).cells ({ frames := 1, cells := 0, slots := 0, locals := 18 } : Room).slots) := by
  refine MetFree.of_bodySF (plainFor_of_name own_pn2) hisR ?_
  intro p e s m args below meth c s₁ Bd hml0 hP hK
  obtain ⟨rfl, hZ, hh⟩ := hP
  have hx := Bd.exec
  have hby := Bd.bytes
  have hml : c.maxLocals = 4 := hml0
  have hown : s.vm.findClass "java/lang/AbstractStringBuilder" = some m.cls := findClass_of_methodNamed Bd.named
  have hnm := (name_of_methodNamed Bd.named Bd.method).1
  have X0 : Stand p l e ({ frames := 1, cells := 0, slots := 0, locals := 18 } : Room) s m #[(.ref b), (.int sv)] below meth c s₁ [] 0 0 := Stand.of_body Bd
  have e0 : s₁.heap = h0 := by rw [← hh, Bd.state]; rfl
  have N0 := Fr.nil n0
  have K0 : Keep h0 h0 [b, d] := Keep.refl h0 _
  show own_Gl p e below (own_Post s (own_Q_aai Z b d kd sv zc o1 o2 k1 k2 K2 h0 n0) ({ frames := 1, cells := 0, slots := 0, locals := 18 } : Room).cells ({ frames := 1, cells := 0, slots := 0, locals := 18 } : Room).slots) _
  refine own_st (fun tg_ kg_ => castTop (own_ef_aai m b sv) kg_) ?_
  show own_Gl p e below _ (s₁.setTop (mkF m 0 #[.val (.ref b), .val (.int sv), .unset, .unset] []))
  have ns_b := E_b.nostat
  have ns_d := V_d.nostat
  refine own_st (fun tg_ kg_ => XS.aloadN X0.here hx rfl (hb hby own_d_jdk_68_method_32_code_0) rfl rfl kg_) ?_
  show own_Gl p e below _ (s₁.setTop (mkF m 1 #[.val (.ref b), .val (.int sv), .unset, .unset] [(.ref b)]))
  obtain ⟨T1, X1, e1, st1⟩ := getF X0 hx hZ hown (host := "") (Or.inl (hw _ (List.mem_of_getElem? (i := 67) rfl))) Via.refl e0 F_n (g := (mkF m 1 #[.val (.ref b), .val (.int sv), .unset, .unset] [(.ref b)])) rfl rfl (hb hby own_d_jdk_68_method_32_code_1)
  refine own_st st1 ?_
  try clear st1
  show own_Gl p e below _ (T1.setTop (mkF m 4 #[.val (.ref b), .val (.int sv), .unset, .unset] [(.int (0 : Int32))]))
  refine own_st (fun tg_ kg_ => XS.istoreN X1.here hx rfl (hb hby own_d_jdk_68_method_32_code_4) rfl (l' := #[.val (.ref b), .val (.int sv), .val (.int (0 : Int32)), .unset]) rfl kg_) ?_
  show own_Gl p e below _ (T1.setTop (mkF m 5 #[.val (.ref b), .val (.int sv), .val (.int (0 : Int32)), .unset] []))
  refine own_st (fun tg_ kg_ => XS.iloadN X1.here hx rfl (hb hby own_d_jdk_68_method_32_code_5) rfl kg_) ?_
  show own_Gl p e below _ (T1.setTop (mkF m 6 #[.val (.ref b), .val (.int sv), .val (.int (0 : Int32)), .unset] [(.int (0 : Int32))]))
  refine own_st (fun tg_ kg_ => XS.iloadN X1.here hx rfl (hb hby own_d_jdk_68_method_32_code_6) rfl kg_) ?_
  show own_Gl p e below _ (T1.setTop (mkF m 7 #[.val (.ref b), .val (.int sv), .val (.int (0 : Int32)), .unset] [(.int sv), (.int (0 : Int32))]))
  obtain ⟨_, _, ⟨T2, L2, k2, n2⟩, -, X2, ⟨Lc2, hQ2, l2, y2, z2⟩, st2⟩ := Jvm.LawKit.callS X1 hx (y := (⟨"java/lang/Integer", "stringSize", "(I)I"⟩ : MethodName)) hown (mvT hZ (hw _ (List.mem_of_getElem? (i := 69) rfl))) (mvT hZ (hw _ (List.mem_of_getElem? (i := 70) rfl))) (mvT hZ (hw _ (List.mem_of_getElem? (i := 71) rfl))) (mvT hZ (hw _ (List.mem_of_getElem? (i := 72) rfl))) (by decide) (backOf (W := 1) (own_rm_sz l Z a0 hw [] sv h0 n0 (Nat.le_trans Z0 K0.1) hone) hZ (hw _ (List.mem_of_getElem? (i := 72) rfl)) (hw _ (List.mem_of_getElem? (i := 71) rfl)) (by decide) (by decide)) (g := (mkF m 7 #[.val (.ref b), .val (.int sv), .val (.int (0 : Int32)), .unset] [(.int sv), (.int (0 : Int32))])) rfl (by rw [hml]; rfl) (argsL := [(.int sv)]) (rest := [(.int (0 : Int32))]) (lenOf own_pd2 rfl) rfl (by show 2 * 0 + _ ≤ _; exact Nat.le_of_eq rfl) (hb hby own_d_jdk_68_method_32_code_7) (fun _ _ => ⟨rfl, e1, (by decide : 0 + 0 ≤ _), (by decide : 0 + 0 ≤ _)⟩)
  dsimp only [Pt.U, Pt.locs, Pt.cells, Pt.slots] at X2 l2 y2 z2 st2 hQ2
  obtain rfl : k2 = 0 := y2
  obtain rfl : n2 = 0 := z2
  obtain ⟨⟨dn, rfl, hD⟩, N2q, e2⟩ := hQ2
  have N2 : Fr n0 L2 := by rw [l2]; exact Fr.app N0 N2q
  try clear l2
  refine own_st st2 ?_
  show own_Gl p e below _ (T2.setTop (mkF m 10 #[.val (.ref b), .val (.int sv), .val (.int (0 : Int32)), .unset] [(.int (Int32.ofNat dn)), (.int (0 : Int32))]))
  try clear st2
  try clear N2q
  try clear e1
  try clear X1
  try clear T1
  have hle := own_D_le hD
  refine own_st (fun tg_ kg_ => XS.iadd X2.here hx rfl (hb hby own_d_jdk_68_method_32_code_10) rfl kg_) ?_
  show own_Gl p e below _ (T2.setTop (mkF m 11 #[.val (.ref b), .val (.int sv), .val (.int (0 : Int32)), .unset] [(.int ((0 : Int32) + (Int32.ofNat dn)))]))
  rw [Int32.zero_add]
  show own_Gl p e below _ (T2.setTop (mkF m 11 #[.val (.ref b), .val (.int sv), .val (.int (0 : Int32)), .unset] [(.int (Int32.ofNat dn))]))
  refine own_st (fun tg_ kg_ => XS.istoreN X2.here hx rfl (hb hby own_d_jdk_68_method_32_code_11) rfl (l' := #[.val (.ref b), .val (.int sv), .val (.int (0 : Int32)), .val (.int (Int32.ofNat dn))]) rfl kg_) ?_
  show own_Gl p e below _ (T2.setTop (mkF m 12 #[.val (.ref b), .val (.int sv), .val (.int (0 : Int32)), .val (.int (Int32.ofNat dn))] []))
  refine own_st (fun tg_ kg_ => XS.aloadN X2.here hx rfl (hb hby own_d_jdk_68_method_32_code_12) rfl rfl kg_) ?_
  show own_Gl p e below _ (T2.setTop (mkF m 13 #[.val (.ref b), .val (.int sv), .val (.int (0 : Int32)), .val (.int (Int32.ofNat dn))] [(.ref b)]))
  refine own_st (fun tg_ kg_ => XS.iloadN X2.here hx rfl (hb hby own_d_jdk_68_method_32_code_13) rfl kg_) ?_
  show own_Gl p e below _ (T2.setTop (mkF m 14 #[.val (.ref b), .val (.int sv), .val (.int (0 : Int32)), .val (.int (Int32.ofNat dn))] [(.int (Int32.ofNat dn)), (.ref b)]))
  obtain ⟨cq3, kq3, q3a, q3b, q3c⟩ := isOf hZ e2 E_b
  obtain ⟨_, _, ⟨T3, L3, k3, n3⟩, -, X3, ⟨Lc3, hQ3, l3, y3, z3⟩, st3⟩ := X2.virtualBack hx (y := (⟨"java/lang/AbstractStringBuilder", "ensureCapacityInternal", "(I)V"⟩ : MethodName)) (z := (⟨"java/lang/AbstractStringBuilder", "ensureCapacityInternal", "(I)V"⟩ : MethodName)) hown (mvT hZ (hw _ (List.mem_of_getElem? (i := 73) rfl))) (mvT hZ (own_decl (hw _ (List.mem_of_getElem? (i := 74) rfl)) (hw _ (List.mem_of_getElem? (i := 77) rfl)))) (notFace_of_selects (args := #[]) (mvT hZ (hw _ (List.mem_of_getElem? (i := 76) rfl)))) (mvT hZ (hw _ (List.mem_of_getElem? (i := 76) rfl))) (mvT hZ (hw _ (List.mem_of_getElem? (i := 74) rfl))) (by decide) (backOf (W := 0) (own_rm_ec0 l Z a0 hw [] b d kd dn (List.replicate 16 (.int 0)) h0 n0 (Nat.le_trans Z0 K0.1) E_b F_v F_c V_d (by omega)) hZ (hw _ (List.mem_of_getElem? (i := 77) rfl)) (hw _ (List.mem_of_getElem? (i := 47) rfl)) (by decide) (by decide)) q3a q3c (g := (mkF m 14 #[.val (.ref b), .val (.int sv), .val (.int (0 : Int32)), .val (.int (Int32.ofNat dn))] [(.int (Int32.ofNat dn)), (.ref b)])) rfl (by rw [hml]; rfl) (Steps.refl _) (argsL := [(.int (Int32.ofNat dn))]) (rest := []) (lenOf own_pd5 rfl) rfl (by show 2 * 0 + _ ≤ _; exact Nat.le_of_eq rfl) (hb hby own_d_jdk_68_method_32_code_14) (fun _ _ => ⟨rfl, e2, (by decide : 0 + 0 ≤ _), (by decide : 0 + 0 ≤ _)⟩)
  dsimp only [Pt.U, Pt.locs, Pt.cells, Pt.slots] at X3 l3 y3 z3 st3 hQ3
  obtain rfl : k3 = 0 := y3
  obtain rfl : n3 = 0 := z3
  obtain ⟨rfl, N3q, e3⟩ := hQ3
  have N3 : Fr n0 L3 := by rw [l3]; exact Fr.app N2 N3q
  try clear l3
  refine own_tr st3 ?_
  show own_Gl p e below _ (T3.setTop (mkF m 17 #[.val (.ref b), .val (.int sv), .val (.int (0 : Int32)), .val (.int (Int32.ofNat dn))] []))
  try clear st3
  try clear N3q
  try clear N2
  try clear e2
  try clear X2
  try clear T2
  refine own_st (fun tg_ kg_ => XS.aloadN X3.here hx rfl (hb hby own_d_jdk_68_method_32_code_17) rfl rfl kg_) ?_
  show own_Gl p e below _ (T3.setTop (mkF m 18 #[.val (.ref b), .val (.int sv), .val (.int (0 : Int32)), .val (.int (Int32.ofNat dn))] [(.ref b)]))
  obtain ⟨cq4, kq4, q4a, q4b, q4c⟩ := isOf hZ e3 E_b
  obtain ⟨_, _, ⟨T4, L4, k4, n4⟩, -, X4, ⟨Lc4, hQ4, l4, y4, z4⟩, st4⟩ := X3.virtualBack hx (y := (⟨"java/lang/AbstractStringBuilder", "isLatin1", "()Z"⟩ : MethodName)) (z := (⟨"java/lang/AbstractStringBuilder", "isLatin1", "()Z"⟩ : MethodName)) hown (mvT hZ (hw _ (List.mem_of_getElem? (i := 78) rfl))) (mvT hZ (hw _ (List.mem_of_getElem? (i := 79) rfl))) (notFace_of_selects (args := #[]) (mvT hZ (hw _ (List.mem_of_getElem? (i := 81) rfl)))) (mvT hZ (hw _ (List.mem_of_getElem? (i := 81) rfl))) (mvT hZ (hw _ (List.mem_of_getElem? (i := 80) rfl))) (by decide) (backOf (W := 0) (own_rm_alt l Z a0 hw [] b zc h0 n0 (Nat.le_trans Z0 K0.1) (own_sta_keep S_C K0 (nsS ns_b (nsS ns_d ns0))) hzc F_c) hZ (hw _ (List.mem_of_getElem? (i := 82) rfl)) (hw _ (List.mem_of_getElem? (i := 47) rfl)) (by decide) (by decide)) q4a q4c (g := (mkF m 18 #[.val (.ref b), .val (.int sv), .val (.int (0 : Int32)), .val (.int (Int32.ofNat dn))] [(.ref b)])) rfl (by rw [hml]; rfl) (Steps.refl _) (argsL := []) (rest := []) (lenOf own_pd6 rfl) rfl (by show 2 * 0 + _ ≤ _; exact Nat.le_of_eq rfl) (hb hby own_d_jdk_68_method_32_code_18) (fun _ _ => ⟨rfl, e3, (by decide : 0 + 0 ≤ _), (by decide : 0 + 0 ≤ _)⟩)
  dsimp only [Pt.U, Pt.locs, Pt.cells, Pt.slots] at X4 l4 y4 z4 st4 hQ4
  obtain rfl : k4 = 0 := y4
  obtain rfl : n4 = 0 := z4
  obtain ⟨rfl, N4q, e4⟩ := hQ4
  have N4 : Fr n0 L4 := by rw [l4]; exact Fr.app N3 N4q
  try clear l4
  refine own_tr st4 ?_
  show own_Gl p e below _ (T4.setTop (mkF m 21 #[.val (.ref b), .val (.int sv), .val (.int (0 : Int32)), .val (.int (Int32.ofNat dn))] [(.int (1 : Int32))]))
  try clear st4
  try clear N4q
  try clear N3
  try clear e3
  try clear X3
  try clear T3
  refine own_st (fun tg_ kg_ => XS.ifNo X4.here hx rfl (hb hby own_d_jdk_68_method_32_code_21) rfl ((if0 _ _).trans (feq ((by decide : ¬ ((1 : Int32) = (0 : Int32))))).1) kg_) ?_
  show own_Gl p e below _ (T4.setTop (mkF m 24 #[.val (.ref b), .val (.int sv), .val (.int (0 : Int32)), .val (.int (Int32.ofNat dn))] []))
  refine own_st (fun tg_ kg_ => XS.iloadN X4.here hx rfl (hb hby own_d_jdk_68_method_32_code_24) rfl kg_) ?_
  show own_Gl p e below _ (T4.setTop (mkF m 25 #[.val (.ref b), .val (.int sv), .val (.int (0 : Int32)), .val (.int (Int32.ofNat dn))] [(.int sv)]))
  refine own_st (fun tg_ kg_ => XS.iloadN X4.here hx rfl (hb hby own_d_jdk_68_method_32_code_25) rfl kg_) ?_
  show own_Gl p e below _ (T4.setTop (mkF m 26 #[.val (.ref b), .val (.int sv), .val (.int (0 : Int32)), .val (.int (Int32.ofNat dn))] [(.int (Int32.ofNat dn)), (.int sv)]))
  refine own_st (fun tg_ kg_ => XS.aloadN X4.here hx rfl (hb hby own_d_jdk_68_method_32_code_26) rfl rfl kg_) ?_
  show own_Gl p e below _ (T4.setTop (mkF m 27 #[.val (.ref b), .val (.int sv), .val (.int (0 : Int32)), .val (.int (Int32.ofNat dn))] [(.ref b), (.int (Int32.ofNat dn)), (.int sv)]))
  obtain ⟨T5, X5, e5, st5⟩ := getF X4 hx hZ hown (host := "") (Or.inl (hw _ (List.mem_of_getElem? (i := 53) rfl))) Via.refl e4 F_v (g := (mkF m 27 #[.val (.ref b), .val (.int sv), .val (.int (0 : Int32)), .val (.int (Int32.ofNat dn))] [(.ref b), (.int (Int32.ofNat dn)), (.int sv)])) rfl rfl (hb hby own_d_jdk_68_method_32_code_27)
  refine own_st st5 ?_
  try clear st5
  try clear e4
  try clear X4
  try clear T4
  show own_Gl p e below _ (T5.setTop (mkF m 30 #[.val (.ref b), .val (.int sv), .val (.int (0 : Int32)), .val (.int (Int32.ofNat dn))] [(.ref d), (.int (Int32.ofNat dn)), (.int sv)]))
  obtain ⟨_, _, ⟨T6, L6, k6, n6⟩, -, X6, ⟨Lc6, hQ6, l6, y6, z6⟩, st6⟩ := Jvm.LawKit.callS X5 hx (y := (⟨"java/lang/Integer", "getChars", "(II[B)I"⟩ : MethodName)) hown (mvT hZ (hw _ (List.mem_of_getElem? (i := 83) rfl))) (mvT hZ (hw _ (List.mem_of_getElem? (i := 84) rfl))) (mvT hZ (hw _ (List.mem_of_getElem? (i := 71) rfl))) (mvT hZ (hw _ (List.mem_of_getElem? (i := 85) rfl))) (by decide) (backOf (W := 0) (own_rm_gch l Z a0 hw [] sv dn d kd (List.replicate 16 (.int 0)) o1 o2 k1 k2 K2 h0 n0 (Nat.le_trans Z0 K0.1) hone (own_sta_keep S_1 K0 (nsS ns_b (nsS ns_d ns0))) (own_sta_keep S_2 K0 (nsS ns_b (nsS ns_d ns0))) (V_1.keep K0 (ninS ne_o1_b (ninS ne_o1_d nin0))) (V_2.keep K0 (ninS ne_o2_b (ninS ne_o2_d nin0))) hD V_d (by simp) g_d ne_o1_d ne_o2_d) hZ (hw _ (List.mem_of_getElem? (i := 85) rfl)) (hw _ (List.mem_of_getElem? (i := 71) rfl)) (by decide) (by decide)) (g := (mkF m 30 #[.val (.ref b), .val (.int sv), .val (.int (0 : Int32)), .val (.int (Int32.ofNat dn))] [(.ref d), (.int (Int32.ofNat dn)), (.int sv)])) rfl (by rw [hml]; rfl) (argsL := [(.int sv), (.int (Int32.ofNat dn)), (.ref d)]) (rest := []) (lenOf own_pd7 rfl) rfl (by show 2 * 0 + _ ≤ _; exact Nat.le_of_eq rfl) (hb hby own_d_jdk_68_method_32_code_30) (fun _ _ => ⟨rfl, e5, (by decide : 0 + 0 ≤ _), (by decide : 0 + 0 ≤ _)⟩)
  dsimp only [Pt.U, Pt.locs, Pt.cells, Pt.slots] at X6 l6 y6 z6 st6 hQ6
  obtain rfl : k6 = 0 := y6
  obtain rfl : n6 = 0 := z6
  obtain ⟨⟨pz, rfl⟩, N6q, Kc6, P, hP, hdg, V_d⟩ := hQ6
  have N6 : Fr n0 L6 := by rw [l6]; exact Fr.app N4 N6q
  try clear l6
  refine own_st st6 ?_
  replace E_b := E_b.keep Kc6
  replace F_v := F_v.keep Kc6 (ninS ne_b_d nin0)
  replace F_c := F_c.keep Kc6 (ninS ne_b_d nin0)
  replace F_n := F_n.keep Kc6 (ninS ne_b_d nin0)
  have K7 : Keep h0 T6.heap [b, d] := K0.trans Kc6 (allS (Or.inl (List.mem_of_getElem? (i := 1) rfl)) all0)
  try clear Kc6
  show own_Gl p e below _ (T6.setTop (mkF m 33 #[.val (.ref b), .val (.int sv), .val (.int (0 : Int32)), .val (.int (Int32.ofNat dn))] [(.int pz)]))
  try clear st6
  try clear N6q
  try clear N4
  try clear e5
  try clear X5
  try clear T5
  refine own_st (fun tg_ kg_ => XS.pop X6.here hx rfl (hb hby own_d_jdk_68_method_32_code_33) rfl rfl kg_) ?_
  show own_Gl p e below _ (T6.setTop (mkF m 34 #[.val (.ref b), .val (.int sv), .val (.int (0 : Int32)), .val (.int (Int32.ofNat dn))] []))
  refine own_st (fun tg_ kg_ => XS.goto X6.here hx rfl (pc0 := 34) (pc' := 48) rfl (hb hby own_d_jdk_68_method_32_code_34) (by decide) (by decide) kg_) ?_
  show own_Gl p e below _ (T6.setTop (mkF m 48 #[.val (.ref b), .val (.int sv), .val (.int (0 : Int32)), .val (.int (Int32.ofNat dn))] []))
  refine own_st (fun tg_ kg_ => XS.aloadN X6.here hx rfl (hb hby own_d_jdk_68_method_32_code_48) rfl rfl kg_) ?_
  show own_Gl p e below _ (T6.setTop (mkF m 49 #[.val (.ref b), .val (.int sv), .val (.int (0 : Int32)), .val (.int (Int32.ofNat dn))] [(.ref b)]))
  refine own_st (fun tg_ kg_ => XS.iloadN X6.here hx rfl (hb hby own_d_jdk_68_method_32_code_49) rfl kg_) ?_
  show own_Gl p e below _ (T6.setTop (mkF m 50 #[.val (.ref b), .val (.int sv), .val (.int (0 : Int32)), .val (.int (Int32.ofNat dn))] [(.int (Int32.ofNat dn)), (.ref b)]))
  obtain ⟨T8, h8, X8, e8, W8, st8⟩ := putF X6 hx hZ hown (host := "") (Or.inl (hw _ (List.mem_of_getElem? (i := 67) rfl))) Via.refl rfl F_n E_b (Or.inl (hw _ (List.mem_of_getElem? (i := 68) rfl))) (hw _ (List.mem_of_getElem? (i := 38) rfl)) (ty := .int) (by decide) rfl rfl (g := (mkF m 50 #[.val (.ref b), .val (.int sv), .val (.int (0 : Int32)), .val (.int (Int32.ofNat dn))] [(.int (Int32.ofNat dn)), (.ref b)])) rfl rfl (hb hby own_d_jdk_68_method_32_code_50)
  have N8 := Fr.snoc X8 N6 g_b
  try clear N6
  replace E_b := E_b.wr W8
  replace F_v := F_v.other W8 (Or.inr (slot_ne (Or.inl (hw _ (List.mem_of_getElem? (i := 54) rfl))) (Or.inl (hw _ (List.mem_of_getElem? (i := 68) rfl))) (by decide) (t := (.array .byte)) (t' := .int) (by decide) (by decide)))
  replace F_c := F_c.other W8 (Or.inr (slot_ne (Or.inl (hw _ (List.mem_of_getElem? (i := 56) rfl))) (Or.inl (hw _ (List.mem_of_getElem? (i := 68) rfl))) (by decide) (t := .byte) (t' := .int) (by decide) (by decide)))
  replace F_n := F_n.same W8
  replace V_d := V_d.other W8 ne_b_d.symm
  have K9 : Keep h0 h8 [b, d] := K7.wr W8 (Or.inl (List.mem_of_getElem? (i := 0) rfl))
  try clear K7
  refine own_st st8 ?_
  try clear st8
  try clear X6
  try clear T6
  show own_Gl p e below _ (T8.setTop (mkF m 53 #[.val (.ref b), .val (.int sv), .val (.int (0 : Int32)), .val (.int (Int32.ofNat dn))] []))
  refine own_st (fun tg_ kg_ => XS.aloadN X8.here hx rfl (hb hby own_d_jdk_68_method_32_code_53) rfl rfl kg_) ?_
  show own_Gl p e below _ (T8.setTop (mkF m 54 #[.val (.ref b), .val (.int sv), .val (.int (0 : Int32)), .val (.int (Int32.ofNat dn))] [(.ref b)]))
  exact own_retA X8 hx Bd.notSynchronized Bd.returns rfl rfl (hb hby own_d_jdk_68_method_32_code_54) (by decide) (by decide) e8 (⟨rfl, N8, K9, dn, P, hD, hP, hdg, V_d, F_v, F_c, F_n⟩)
theorem own_pd8 : parseMethodDescriptor "(I)Ljava/lang/AbstractStringBuilder;" = some ⟨[.int], some (.object "java/lang/AbstractStringBuilder")⟩ := by decide +kernel
theorem own_d_jdk_67_method_15_code_0 : decode jdk_67_method_15_code 0 = .ok (.aload_n 0, 1) := by decide +kernel
theorem own_d_jdk_67_method_15_code_1 : decode jdk_67_method_15_code 1 = .ok (.iload_n 1, 1) := by decide +kernel
theorem own_d_jdk_67_method_15_code_2 : decode jdk_67_method_15_code 2 = .ok (.invokespecial 53, 3) := by decide +kernel
theorem own_d_jdk_67_method_15_code_5 : decode jdk_67_method_15_code 5 = .ok (.pop, 1) := by decide +kernel
theorem own_d_jdk_67_method_15_code_6 : decode jdk_67_method_15_code 6 = .ok (.aload_n 0, 1) := by decide +kernel
theorem own_d_jdk_67_method_15_code_7 : decode jdk_67_method_15_code 7 = .ok (.areturn, 1) := by decide +kernel
theorem own_ef_sai (m : MethodId) (x0 : Addr) (x1 : Int32) : entryFrame m #[(.ref x0), (.int x1)] 2 = mkF m 0 #[.val (.ref x0), .val (.int x1)] [] := by first | (simp [entryFrame, mkF, argsToLocals, Value.category]; done) | rfl
def own_Q_sai (Z : State) (b d : Addr) (kd : ClassId) (sv zc : Int32)(o1 o2 : Addr) (k1 k2 : ClassId) (K2 : List Int32) (h0 : Heap) (n0 : Nat) (v : Option Value) (h : Heap) (L : List Loc) : Prop := v = some (.ref b) ∧ Fr n0 L ∧ Keep h0 h [b, d] ∧ ∃ (dn : Nat) (P : List Value), own_D sv.toInt dn ∧ P.length = 16 ∧ P.getD (dn - 1) (.int 0) = (.int (own_dg sv)) ∧ Arv Z h d kd .byte (16 : Int32) P (.int 0) ∧ Fld Z h b "java/lang/AbstractStringBuilder" "value" "[B" (.ref d) ∧ Fld Z h b "java/lang/AbstractStringBuilder" "coder" "B" (.int 0) ∧ Fld Z h b "java/lang/AbstractStringBuilder" "count" "I" (.int (Int32.ofNat dn))
set_option maxRecDepth 65536 in
set_option maxHeartbeats 40000000 in
theorem own_rm_sai (l : Launch) (Z : State) (a0 : Array Value) (hw : ∀ d ∈ tables_1, d.before a0 Z = true) (ws : List Jvm.Cond) (b d : Addr) (kd : ClassId) (sv zc : Int32)(o1 o2 : Addr) (k1 k2 : ClassId) (K2 : List Int32) (h0 : Heap) (n0 : Nat) (Z0 : n0 ≤ h0.size) (S_C : Sta Z h0 "java/lang/String" "COMPACT_STRINGS" "Z" (.int zc)) (hzc : ¬ zc = 0)(hone : 1 ≤ sv.toInt)(S_1 : Sta Z h0 "java/lang/Integer" "DigitOnes" "[B" (.ref o1)) (S_2 : Sta Z h0 "java/lang/Integer" "DigitTens" "[B" (.ref o2)) (V_1 : Arv Z h0 o1 k1 .byte (100 : Int32) own_ones (.int 0)) (V_2 : Arv Z h0 o2 k2 .byte (100 : Int32) (K2.map Value.int) (.int 0))(E_b : Exa Z h0 b "java/lang/StringBuilder")(F_v : Fld Z h0 b "java/lang/AbstractStringBuilder" "value" "[B" (.ref d))(F_c : Fld Z h0 b "java/lang/AbstractStringBuilder" "coder" "B" (.int 0))(F_n : Fld Z h0 b "java/lang/AbstractStringBuilder" "count" "I" (.int (0 : Int32)))(V_d : Arv Z h0 d kd .byte (16 : Int32) (List.replicate 16 (.int 0)) (.int 0)) (g_b : n0 ≤ b) (g_d : n0 ≤ d)(ne_o1_d : o1 ≠ d) (ne_o2_d : o2 ≠ d)(ne_o1_b : o1 ≠ b) (ne_o2_b : o2 ≠ b) (ne_b_d : b ≠ d) :
    MetFree l (⟨"java/lang/StringBuilder", "append", "(I)Ljava/lang/StringBuilder;"⟩ : MethodName) (head1 (Jvm.Cond.code (⟨"java/lang/StringBuilder", "append", "(I)Ljava/lang/StringBuilder;"⟩ : MethodName) jdk_67_method_15_code 2 (some (.object "java/lang/StringBuilder")) :: ws) ({ frames := 2, cells := 0, slots := 0, locals := 33 } : Room)) (fun aa UU => aa = #[(.ref b), (.int sv)] ∧ Z.Warmed39 UU.vm ∧ UU.heap = h0) (fun _ _ _ _ _ => True) (fun _ UU oo UU' => ∃ vv LL, oo = .returned vv ∧ own_Q_sai Z b d kd sv zc o1 o2 k1 k2 K2 h0 n0 vv UU'.heap LL ∧ FrameEnd UU oo UU' LL ({ frames := 2, cells := 0, slots := 0, locals := 33 } : Room).cells ({ frames := 2, cells := 0, slots := 0, locals := 33 } : Room).slots) := by
  refine MetFree.of_bodySF (plainFor_of_name own_pn5) hisR ?_
  intro p e s m args below meth c s₁ Bd hml0 hP hK
  obtain ⟨rfl, hZ, hh⟩ := hP
  have hx := Bd.exec
  have hby := Bd.bytes
  have hml : c.maxLocals = 2 := hml0
  have hown : s.vm.findClass "java/lang/StringBuilder" = some m.cls := findClass_of_methodNamed Bd.named
  have hnm := (name_of_methodNamed Bd.named Bd.method).1
  have X0 : Stand p l e ({ frames := 2, cells := 0, slots := 0, locals := 33 } : Room) s m #[(.ref b), (.int sv)] below meth c s₁ [] 0 0 := Stand.of_body Bd
  have e0 : s₁.heap = h0 := by rw [← hh, Bd.state]; rfl
  have N0 := Fr.nil n0
  have K0 : Keep h0 h0 [b, d] := Keep.refl h0 _
  show own_Gl p e below (own_Post s (own_Q_sai Z b d kd sv zc o1 o2 k1 k2 K2 h0 n0) ({ frames := 2, cells := 0, slots := 0, locals := 33 } : Room).cells ({ frames := 2, cells := 0, slots := 0, locals := 33 } : Room).slots) _
  refine own_st (fun tg_ kg_ => castTop (own_ef_sai m b sv) kg_) ?_
  show own_Gl p e below _ (s₁.setTop (mkF m 0 #[.val (.ref b), .val (.int sv)] []))
  have ns_b := E_b.nostat
  have ns_d := V_d.nostat
  refine own_st (fun tg_ kg_ => XS.aloadN X0.here hx rfl (hb hby own_d_jdk_67_method_15_code_0) rfl rfl kg_) ?_
  show own_Gl p e below _ (s₁.setTop (mkF m 1 #[.val (.ref b), .val (.int sv)] [(.ref b)]))
  refine own_st (fun tg_ kg_ => XS.iloadN X0.here hx rfl (hb hby own_d_jdk_67_method_15_code_1) rfl kg_) ?_
  show own_Gl p e below _ (s₁.setTop (mkF m 2 #[.val (.ref b), .val (.int sv)] [(.int sv), (.ref b)]))
  obtain ⟨_, _, ⟨T1, L1, k1, n1⟩, -, X1, ⟨Lc1, hQ1, l1, y1, z1⟩, st1⟩ := superBack X0 hx hZ (y := (⟨"java/lang/AbstractStringBuilder", "append", "(I)Ljava/lang/AbstractStringBuilder;"⟩ : MethodName)) hown (hw _ (List.mem_of_getElem? (i := 62) rfl)) (own_same (y := (⟨"java/lang/AbstractStringBuilder", "append", "(I)Ljava/lang/AbstractStringBuilder;"⟩ : MethodName)) (hw _ (List.mem_of_getElem? (i := 63) rfl)) (hw _ (List.mem_of_getElem? (i := 76) rfl)) rfl (by decide)) (hw _ (List.mem_of_getElem? (i := 63) rfl)) (hw _ (List.mem_of_getElem? (i := 64) rfl)) (by decide) (backOf (W := 0) (own_rm_aai l Z a0 hw [] b d kd sv zc o1 o2 k1 k2 K2 h0 n0 (Nat.le_trans Z0 K0.1) (own_sta_keep S_C K0 (nsS ns_b (nsS ns_d ns0))) hzc hone (own_sta_keep S_1 K0 (nsS ns_b (nsS ns_d ns0))) (own_sta_keep S_2 K0 (nsS ns_b (nsS ns_d ns0))) (V_1.keep K0 (ninS ne_o1_b (ninS ne_o1_d nin0))) (V_2.keep K0 (ninS ne_o2_b (ninS ne_o2_d nin0))) E_b F_v F_c F_n V_d g_b g_d ne_o1_d ne_o2_d ne_o1_b ne_o2_b ne_b_d) hZ (hw _ (List.mem_of_getElem? (i := 66) rfl)) (hw _ (List.mem_of_getElem? (i := 47) rfl)) (by decide) (by decide)) e0 (Ins.self E_b) (g := (mkF m 2 #[.val (.ref b), .val (.int sv)] [(.int sv), (.ref b)])) rfl (by rw [hml]; rfl) (hw _ (List.mem_of_getElem? (i := 66) rfl)) (argsL := [(.int sv)]) (rest := []) (lenOf own_pd8 rfl) rfl (by show 2 * 0 + _ ≤ _; exact Nat.le_of_eq rfl) (hb hby own_d_jdk_67_method_15_code_2) (fun _ _ => ⟨rfl, e0, (by decide : 0 + 0 ≤ _), (by decide : 0 + 0 ≤ _)⟩)
  dsimp only [Pt.U, Pt.locs, Pt.cells, Pt.slots] at X1 l1 y1 z1 st1 hQ1
  obtain rfl : k1 = 0 := y1
  obtain rfl : n1 = 0 := z1
  obtain ⟨rfl, N1q, Kc1, hq⟩ := hQ1
  have N1 : Fr n0 L1 := by rw [l1]; exact Fr.app N0 N1q
  try clear l1
  refine own_tr st1 ?_
  replace E_b := E_b.keep Kc1
  have K2 : Keep h0 T1.heap [b, d] := K0.trans Kc1 (allS (Or.inl (List.mem_of_getElem? (i := 0) rfl)) (allS (Or.inl (List.mem_of_getElem? (i := 1) rfl)) all0))
  try clear Kc1
  show own_Gl p e below _ (T1.setTop (mkF m 5 #[.val (.ref b), .val (.int sv)] [(.ref b)]))
  try clear st1
  try clear N1q
  refine own_st (fun tg_ kg_ => XS.pop X1.here hx rfl (hb hby own_d_jdk_67_method_15_code_5) rfl rfl kg_) ?_
  show own_Gl p e below _ (T1.setTop (mkF m 6 #[.val (.ref b), .val (.int sv)] []))
  refine own_st (fun tg_ kg_ => XS.aloadN X1.here hx rfl (hb hby own_d_jdk_67_method_15_code_6) rfl rfl kg_) ?_
  show own_Gl p e below _ (T1.setTop (mkF m 7 #[.val (.ref b), .val (.int sv)] [(.ref b)]))
  exact own_retA X1 hx Bd.notSynchronized Bd.returns rfl rfl (hb hby own_d_jdk_67_method_15_code_7) (by decide) (by decide) rfl (⟨rfl, N1, K2, hq⟩)
theorem own_pn6 : plainName "java/lang/String" = true := by first | (simp [plainName, overriddenIn]; done) | decide +kernel
theorem own_d_jdk_42_method_152_code_0 : decode jdk_42_method_152_code 0 = .ok (.getstatic 38, 3) := by decide +kernel
theorem own_d_jdk_42_method_152_code_3 : decode jdk_42_method_152_code 3 = .ok (.ifCond .eq 10, 3) := by decide +kernel
theorem own_d_jdk_42_method_152_code_6 : decode jdk_42_method_152_code 6 = .ok (.aload_n 0, 1) := by decide +kernel
theorem own_d_jdk_42_method_152_code_7 : decode jdk_42_method_152_code 7 = .ok (.getfield 15, 3) := by decide +kernel
theorem own_d_jdk_42_method_152_code_10 : decode jdk_42_method_152_code 10 = .ok (.goto 4, 3) := by decide +kernel
theorem own_d_jdk_42_method_152_code_14 : decode jdk_42_method_152_code 14 = .ok (.ireturn, 1) := by decide +kernel
theorem own_ef_cod (m : MethodId) (x0 : Addr) : entryFrame m #[(.ref x0)] 1 = mkF m 0 #[.val (.ref x0)] [] := by first | (simp [entryFrame, mkF, argsToLocals, Value.category]; done) | rfl
def own_Q_cod (Z : State) (x : Addr) (zc : Int32) (h0 : Heap) (n0 : Nat) (v : Option Value) (h : Heap) (L : List Loc) : Prop := v = some (.int 0) ∧ Fr n0 L ∧ h = h0
set_option maxRecDepth 65536 in
set_option maxHeartbeats 40000000 in
theorem own_rm_cod (l : Launch) (Z : State) (a0 : Array Value) (hw : ∀ d ∈ tables_1, d.before a0 Z = true) (ws : List Jvm.Cond) (x : Addr) (zc : Int32) (h0 : Heap) (n0 : Nat) (Z0 : n0 ≤ h0.size) (S_C : Sta Z h0 "java/lang/String" "COMPACT_STRINGS" "Z" (.int zc)) (hzc : ¬ zc = 0)(F_c : Fld Z h0 x "java/lang/String" "coder" "B" (.int 0)) :
    MetFree l (⟨"java/lang/String", "coder", "()B"⟩ : MethodName) (head1 (Jvm.Cond.code (⟨"java/lang/String", "coder", "()B"⟩ : MethodName) jdk_42_method_152_code 1 (some .byte) :: ws) ({ frames := 0, cells := 0, slots := 0, locals := 0 } : Room)) (fun aa UU => aa = #[(.ref x)] ∧ Z.Warmed39 UU.vm ∧ UU.heap = h0) (fun _ _ _ _ _ => True) (fun _ UU oo UU' => ∃ vv LL, oo = .returned vv ∧ own_Q_cod Z x zc h0 n0 vv UU'.heap LL ∧ FrameEnd UU oo UU' LL ({ frames := 0, cells := 0, slots := 0, locals := 0 } : Room).cells ({ frames := 0, cells := 0, slots := 0, locals := 0 } : Room).slots) := by
  refine MetFree.of_bodySF (plainFor_of_name own_pn6) hisR ?_
  intro p e s m args below meth c s₁ Bd hml0 hP hK
  obtain ⟨rfl, hZ, hh⟩ := hP
  have hx := Bd.exec
  have hby := Bd.bytes
  have hml : c.maxLocals = 1 := hml0
  have hown : s.vm.findClass "java/lang/String" = some m.cls := findClass_of_methodNamed Bd.named
  have hnm := (name_of_methodNamed Bd.named Bd.method).1
  have X0 : Stand p l e ({ frames := 0, cells := 0, slots := 0, locals := 0 } : Room) s m #[(.ref x)] below meth c s₁ [] 0 0 := Stand.of_body Bd
  have e0 : s₁.heap = h0 := by rw [← hh, Bd.state]; rfl
  have N0 := Fr.nil n0
  show own_Gl p e below (own_Post s (own_Q_cod Z x zc h0 n0) ({ frames := 0, cells := 0, slots := 0, locals := 0 } : Room).cells ({ frames := 0, cells := 0, slots := 0, locals := 0 } : Room).slots) _
  refine own_st (fun tg_ kg_ => castTop (own_ef_cod m x) kg_) ?_
  show own_Gl p e below _ (s₁.setTop (mkF m 0 #[.val (.ref x)] []))
  obtain ⟨T1, X1, e1, st1⟩ := getS2 X0 hx hZ hown (host := "") (Or.inl (hw _ (List.mem_of_getElem? (i := 113) rfl))) Via.refl e0 S_C (g := (mkF m 0 #[.val (.ref x)] [])) rfl (hb hby own_d_jdk_42_method_152_code_0)
  refine own_st st1 ?_
  try clear st1
  show own_Gl p e below _ (T1.setTop (mkF m 3 #[.val (.ref x)] [(.int zc)]))
  refine own_st (fun tg_ kg_ => XS.ifNo X1.here hx rfl (hb hby own_d_jdk_42_method_152_code_3) rfl ((if0 _ _).trans (feq (hzc)).1) kg_) ?_
  show own_Gl p e below _ (T1.setTop (mkF m 6 #[.val (.ref x)] []))
  refine own_st (fun tg_ kg_ => XS.aloadN X1.here hx rfl (hb hby own_d_jdk_42_method_152_code_6) rfl rfl kg_) ?_
  show own_Gl p e below _ (T1.setTop (mkF m 7 #[.val (.ref x)] [(.ref x)]))
  obtain ⟨T2, X2, e2, st2⟩ := getF X1 hx hZ hown (host := "") (Or.inl (hw _ (List.mem_of_getElem? (i := 114) rfl))) Via.refl e1 F_c (g := (mkF m 7 #[.val (.ref x)] [(.ref x)])) rfl rfl (hb hby own_d_jdk_42_method_152_code_7)
  refine own_st st2 ?_
  try clear st2
  try clear e1
  try clear X1
  try clear T1
  show own_Gl p e below _ (T2.setTop (mkF m 10 #[.val (.ref x)] [(.int (0 : Int32))]))
  refine own_st (fun tg_ kg_ => XS.goto X2.here hx rfl (pc0 := 10) (pc' := 14) rfl (hb hby own_d_jdk_42_method_152_code_10) (by decide) (by decide) kg_) ?_
  show own_Gl p e below _ (T2.setTop (mkF m 14 #[.val (.ref x)] [(.int (0 : Int32))]))
  exact own_retN X2 hx Bd.notSynchronized (t := .byte) Bd.returns (by simp) (hb hby own_d_jdk_42_method_152_code_14) (by decide) (by decide) e2 (⟨rfl, N0, rfl⟩)
theorem own_d_jdk_42_method_154_code_0 : decode jdk_42_method_154_code 0 = .ok (.getstatic 38, 3) := by decide +kernel
theorem own_d_jdk_42_method_154_code_3 : decode jdk_42_method_154_code 3 = .ok (.ifCond .eq 14, 3) := by decide +kernel
theorem own_d_jdk_42_method_154_code_6 : decode jdk_42_method_154_code 6 = .ok (.aload_n 0, 1) := by decide +kernel
theorem own_d_jdk_42_method_154_code_7 : decode jdk_42_method_154_code 7 = .ok (.getfield 15, 3) := by decide +kernel
theorem own_d_jdk_42_method_154_code_10 : decode jdk_42_method_154_code 10 = .ok (.ifCond .ne 7, 3) := by decide +kernel
theorem own_d_jdk_42_method_154_code_13 : decode jdk_42_method_154_code 13 = .ok (.iconst 1, 1) := by decide +kernel
theorem own_d_jdk_42_method_154_code_14 : decode jdk_42_method_154_code 14 = .ok (.goto 4, 3) := by decide +kernel
theorem own_d_jdk_42_method_154_code_18 : decode jdk_42_method_154_code 18 = .ok (.ireturn, 1) := by decide +kernel
theorem own_ef_lat (m : MethodId) (x0 : Addr) : entryFrame m #[(.ref x0)] 1 = mkF m 0 #[.val (.ref x0)] [] := by first | (simp [entryFrame, mkF, argsToLocals, Value.category]; done) | rfl
def own_Q_lat (Z : State) (x : Addr) (zc : Int32) (h0 : Heap) (n0 : Nat) (v : Option Value) (h : Heap) (L : List Loc) : Prop := v = some (.int 1) ∧ Fr n0 L ∧ h = h0
set_option maxRecDepth 65536 in
set_option maxHeartbeats 40000000 in
theorem own_rm_lat (l : Launch) (Z : State) (a0 : Array Value) (hw : ∀ d ∈ tables_1, d.before a0 Z = true) (ws : List Jvm.Cond) (x : Addr) (zc : Int32) (h0 : Heap) (n0 : Nat) (Z0 : n0 ≤ h0.size) (S_C : Sta Z h0 "java/lang/String" "COMPACT_STRINGS" "Z" (.int zc)) (hzc : ¬ zc = 0)(F_c : Fld Z h0 x "java/lang/String" "coder" "B" (.int 0)) :
    MetFree l (⟨"java/lang/String", "isLatin1", "()Z"⟩ : MethodName) (head1 (Jvm.Cond.code (⟨"java/lang/String", "isLatin1", "()Z"⟩ : MethodName) jdk_42_method_154_code 1 (some .boolean) :: ws) ({ frames := 0, cells := 0, slots := 0, locals := 0 } : Room)) (fun aa UU => aa = #[(.ref x)] ∧ Z.Warmed39 UU.vm ∧ UU.heap = h0) (fun _ _ _ _ _ => True) (fun _ UU oo UU' => ∃ vv LL, oo = .returned vv ∧ own_Q_lat Z x zc h0 n0 vv UU'.heap LL ∧ FrameEnd UU oo UU' LL ({ frames := 0, cells := 0, slots := 0, locals := 0 } : Room).cells ({ frames := 0, cells := 0, slots := 0, locals := 0 } : Room).slots) := by
  refine MetFree.of_bodySF (plainFor_of_name own_pn6) hisR ?_
  intro p e s m args below meth c s₁ Bd hml0 hP hK
  obtain ⟨rfl, hZ, hh⟩ := hP
  have hx := Bd.exec
  have hby := Bd.bytes
  have hml : c.maxLocals = 1 := hml0
  have hown : s.vm.findClass "java/lang/String" = some m.cls := findClass_of_methodNamed Bd.named
  have hnm := (name_of_methodNamed Bd.named Bd.method).1
  have X0 : Stand p l e ({ frames := 0, cells := 0, slots := 0, locals := 0 } : Room) s m #[(.ref x)] below meth c s₁ [] 0 0 := Stand.of_body Bd
  have e0 : s₁.heap = h0 := by rw [← hh, Bd.state]; rfl
  have N0 := Fr.nil n0
  show own_Gl p e below (own_Post s (own_Q_lat Z x zc h0 n0) ({ frames := 0, cells := 0, slots := 0, locals := 0 } : Room).cells ({ frames := 0, cells := 0, slots := 0, locals := 0 } : Room).slots) _
  refine own_st (fun tg_ kg_ => castTop (own_ef_lat m x) kg_) ?_
  show own_Gl p e below _ (s₁.setTop (mkF m 0 #[.val (.ref x)] []))
  obtain ⟨T1, X1, e1, st1⟩ := getS2 X0 hx hZ hown (host := "") (Or.inl (hw _ (List.mem_of_getElem? (i := 113) rfl))) Via.refl e0 S_C (g := (mkF m 0 #[.val (.ref x)] [])) rfl (hb hby own_d_jdk_42_method_154_code_0)
  refine own_st st1 ?_
  try clear st1
  show own_Gl p e below _ (T1.setTop (mkF m 3 #[.val (.ref x)] [(.int zc)]))
  refine own_st (fun tg_ kg_ => XS.ifNo X1.here hx rfl (hb hby own_d_jdk_42_method_154_code_3) rfl ((if0 _ _).trans (feq (hzc)).1) kg_) ?_
  show own_Gl p e below _ (T1.setTop (mkF m 6 #[.val (.ref x)] []))
  refine own_st (fun tg_ kg_ => XS.aloadN X1.here hx rfl (hb hby own_d_jdk_42_method_154_code_6) rfl rfl kg_) ?_
  show own_Gl p e below _ (T1.setTop (mkF m 7 #[.val (.ref x)] [(.ref x)]))
  obtain ⟨T2, X2, e2, st2⟩ := getF X1 hx hZ hown (host := "") (Or.inl (hw _ (List.mem_of_getElem? (i := 114) rfl))) Via.refl e1 F_c (g := (mkF m 7 #[.val (.ref x)] [(.ref x)])) rfl rfl (hb hby own_d_jdk_42_method_154_code_7)
  refine own_st st2 ?_
  try clear st2
  try clear e1
  try clear X1
  try clear T1
  show own_Gl p e below _ (T2.setTop (mkF m 10 #[.val (.ref x)] [(.int (0 : Int32))]))
  refine own_st (fun tg_ kg_ => XS.ifNo X2.here hx rfl (hb hby own_d_jdk_42_method_154_code_10) rfl ((if0 _ _).trans (teq ((rfl : (0 : Int32) = (0 : Int32)))).2) kg_) ?_
  show own_Gl p e below _ (T2.setTop (mkF m 13 #[.val (.ref x)] []))
  refine own_st (fun tg_ kg_ => XS.iconst X2.here hx rfl (hb hby own_d_jdk_42_method_154_code_13) kg_) ?_
  show own_Gl p e below _ (T2.setTop (mkF m 14 #[.val (.ref x)] [(.int (1 : Int32))]))
  refine own_st (fun tg_ kg_ => XS.goto X2.here hx rfl (pc0 := 14) (pc' := 18) rfl (hb hby own_d_jdk_42_method_154_code_14) (by decide) (by decide) kg_) ?_
  show own_Gl p e below _ (T2.setTop (mkF m 18 #[.val (.ref x)] [(.int (1 : Int32))]))
  exact own_retN X2 hx Bd.notSynchronized (t := .boolean) Bd.returns (by simp) (hb hby own_d_jdk_42_method_154_code_18) (by decide) (by decide) e2 (⟨rfl, N0, rfl⟩)
theorem own_pd9 : parseMethodDescriptor "()B" = some ⟨[], some .byte⟩ := by decide +kernel
theorem own_d_jdk_42_method_54_code_0 : decode jdk_42_method_54_code 0 = .ok (.aload_n 0, 1) := by decide +kernel
theorem own_d_jdk_42_method_54_code_1 : decode jdk_42_method_54_code 1 = .ok (.getfield 9, 3) := by decide +kernel
theorem own_d_jdk_42_method_54_code_4 : decode jdk_42_method_54_code 4 = .ok (.arraylength, 1) := by decide +kernel
theorem own_d_jdk_42_method_54_code_5 : decode jdk_42_method_54_code 5 = .ok (.aload_n 0, 1) := by decide +kernel
theorem own_d_jdk_42_method_54_code_6 : decode jdk_42_method_54_code 6 = .ok (.invokevirtual 335, 3) := by decide +kernel
theorem own_d_jdk_42_method_54_code_9 : decode jdk_42_method_54_code 9 = .ok (.ishr, 1) := by decide +kernel
theorem own_d_jdk_42_method_54_code_10 : decode jdk_42_method_54_code 10 = .ok (.ireturn, 1) := by decide +kernel
theorem own_ef_len (m : MethodId) (x0 : Addr) : entryFrame m #[(.ref x0)] 1 = mkF m 0 #[.val (.ref x0)] [] := by first | (simp [entryFrame, mkF, argsToLocals, Value.category]; done) | rfl
def own_Q_len (Z : State) (x u : Addr) (ku : ClassId) (mm : Nat) (R : List Value) (zc : Int32) (h0 : Heap) (n0 : Nat) (v : Option Value) (h : Heap) (L : List Loc) : Prop := v = some (.int (Int32.ofNat mm)) ∧ Fr n0 L ∧ h = h0
set_option maxRecDepth 65536 in
set_option maxHeartbeats 40000000 in
theorem own_rm_len (l : Launch) (Z : State) (a0 : Array Value) (hw : ∀ d ∈ tables_1, d.before a0 Z = true) (ws : List Jvm.Cond) (x u : Addr) (ku : ClassId) (mm : Nat) (R : List Value) (zc : Int32) (h0 : Heap) (n0 : Nat) (Z0 : n0 ≤ h0.size) (S_C : Sta Z h0 "java/lang/String" "COMPACT_STRINGS" "Z" (.int zc)) (hzc : ¬ zc = 0)(E_x : Exa Z h0 x "java/lang/String")(F_c : Fld Z h0 x "java/lang/String" "coder" "B" (.int 0))(F_v : Fld Z h0 x "java/lang/String" "value" "[B" (.ref u))(V_u : Arv Z h0 u ku .byte (Int32.ofNat mm) R (.int 0)) (hmm : mm ≤ 34) :
    MetFree l (⟨"java/lang/String", "length", "()I"⟩ : MethodName) (head1 (Jvm.Cond.code (⟨"java/lang/String", "length", "()I"⟩ : MethodName) jdk_42_method_54_code 1 (some .int) :: ws) ({ frames := 1, cells := 0, slots := 0, locals := 13 } : Room)) (fun aa UU => aa = #[(.ref x)] ∧ Z.Warmed39 UU.vm ∧ UU.heap = h0) (fun _ _ _ _ _ => True) (fun _ UU oo UU' => ∃ vv LL, oo = .returned vv ∧ own_Q_len Z x u ku mm R zc h0 n0 vv UU'.heap LL ∧ FrameEnd UU oo UU' LL ({ frames := 1, cells := 0, slots := 0, locals := 13 } : Room).cells ({ frames := 1, cells := 0, slots := 0, locals := 13 } : Room).slots) := by
  refine MetFree.of_bodySF (plainFor_of_name own_pn6) hisR ?_
  intro p e s m args below meth c s₁ Bd hml0 hP hK
  obtain ⟨rfl, hZ, hh⟩ := hP
  have hx := Bd.exec
  have hby := Bd.bytes
  have hml : c.maxLocals = 1 := hml0
  have hown : s.vm.findClass "java/lang/String" = some m.cls := findClass_of_methodNamed Bd.named
  have hnm := (name_of_methodNamed Bd.named Bd.method).1
  have X0 : Stand p l e ({ frames := 1, cells := 0, slots := 0, locals := 13 } : Room) s m #[(.ref x)] below meth c s₁ [] 0 0 := Stand.of_body Bd
  have e0 : s₁.heap = h0 := by rw [← hh, Bd.state]; rfl
  have N0 := Fr.nil n0
  show own_Gl p e below (own_Post s (own_Q_len Z x u ku mm R zc h0 n0) ({ frames := 1, cells := 0, slots := 0, locals := 13 } : Room).cells ({ frames := 1, cells := 0, slots := 0, locals := 13 } : Room).slots) _
  refine own_st (fun tg_ kg_ => castTop (own_ef_len m x) kg_) ?_
  show own_Gl p e below _ (s₁.setTop (mkF m 0 #[.val (.ref x)] []))
  refine own_st (fun tg_ kg_ => XS.aloadN X0.here hx rfl (hb hby own_d_jdk_42_method_54_code_0) rfl rfl kg_) ?_
  show own_Gl p e below _ (s₁.setTop (mkF m 1 #[.val (.ref x)] [(.ref x)]))
  obtain ⟨T1, X1, e1, st1⟩ := getF X0 hx hZ hown (host := "") (Or.inl (hw _ (List.mem_of_getElem? (i := 107) rfl))) Via.refl e0 F_v (g := (mkF m 1 #[.val (.ref x)] [(.ref x)])) rfl rfl (hb hby own_d_jdk_42_method_54_code_1)
  refine own_st st1 ?_
  try clear st1
  show own_Gl p e below _ (T1.setTop (mkF m 4 #[.val (.ref x)] [(.ref u)]))
  obtain ⟨cl2, Ar2, qa2, Sa2, Na2, Ha2, Ga2⟩ := id V_u
  refine own_st (fun tg_ kg_ => X1.arraylength hx (by rw [e1]; exact Ar2.1) (State.isArrayOf_alike hZ.alike Ar2.2.1) (g := (mkF m 4 #[.val (.ref x)] [(.ref u)])) rfl rfl (hb hby own_d_jdk_42_method_54_code_4) _ kg_) ?_
  rw [len_of Sa2 Na2]
  show own_Gl p e below _ (T1.setTop (mkF m 5 #[.val (.ref x)] [(.int (Int32.ofNat mm))]))
  refine own_st (fun tg_ kg_ => XS.aloadN X1.here hx rfl (hb hby own_d_jdk_42_method_54_code_5) rfl rfl kg_) ?_
  show own_Gl p e below _ (T1.setTop (mkF m 6 #[.val (.ref x)] [(.ref x), (.int (Int32.ofNat mm))]))
  obtain ⟨cq3, kq3, q3a, q3b, q3c⟩ := isOf hZ e1 E_x
  obtain ⟨_, _, ⟨T3, L3, k3, n3⟩, -, X3, ⟨Lc3, hQ3, l3, y3, z3⟩, st3⟩ := X1.virtualBack hx (y := (⟨"java/lang/String", "coder", "()B"⟩ : MethodName)) (z := (⟨"java/lang/String", "coder", "()B"⟩ : MethodName)) hown (mvT hZ (hw _ (List.mem_of_getElem? (i := 108) rfl))) (mvT hZ (hw _ (List.mem_of_getElem? (i := 109) rfl))) (notFace_of_selects (args := #[]) (mvT hZ (hw _ (List.mem_of_getElem? (i := 111) rfl)))) (mvT hZ (hw _ (List.mem_of_getElem? (i := 111) rfl))) (mvT hZ (hw _ (List.mem_of_getElem? (i := 110) rfl))) (by decide) (backOf (W := 1) (own_rm_cod l Z a0 hw [] x zc h0 n0 Z0 S_C hzc F_c) hZ (hw _ (List.mem_of_getElem? (i := 112) rfl)) (hw _ (List.mem_of_getElem? (i := 51) rfl)) (by decide) (by decide)) q3a q3c (g := (mkF m 6 #[.val (.ref x)] [(.ref x), (.int (Int32.ofNat mm))])) rfl (by rw [hml]; rfl) (Steps.refl _) (argsL := []) (rest := [(.int (Int32.ofNat mm))]) (lenOf own_pd9 rfl) rfl (by show 2 * 0 + _ ≤ _; exact Nat.le_of_eq rfl) (hb hby own_d_jdk_42_method_54_code_6) (fun _ _ => ⟨rfl, e1, (by decide : 0 + 0 ≤ _), (by decide : 0 + 0 ≤ _)⟩)
  dsimp only [Pt.U, Pt.locs, Pt.cells, Pt.slots] at X3 l3 y3 z3 st3 hQ3
  obtain rfl : k3 = 0 := y3
  obtain rfl : n3 = 0 := z3
  obtain ⟨rfl, N3q, e3⟩ := hQ3
  have N3 : Fr n0 L3 := by rw [l3]; exact Fr.app N0 N3q
  try clear l3
  refine own_tr st3 ?_
  show own_Gl p e below _ (T3.setTop (mkF m 9 #[.val (.ref x)] [(.int (0 : Int32)), (.int (Int32.ofNat mm))]))
  try clear st3
  try clear N3q
  try clear e1
  try clear X1
  try clear T1
  refine own_st (fun tg_ kg_ => XS.ishr X3.here hx rfl (hb hby own_d_jdk_42_method_54_code_9) rfl kg_) ?_
  show own_Gl p e below _ (T3.setTop (mkF m 10 #[.val (.ref x)] [(.int ((Int32.ofNat mm) >>> ((0 : Int32) &&& 31)))]))
  exact own_retI X3 hx Bd.notSynchronized Bd.returns (hb hby own_d_jdk_42_method_54_code_10) (by decide) (by decide) e3 (⟨congrArg (fun z => some (Value.int z)) (own_shr0 hmm), N3, rfl⟩)
theorem own_d_jdk_42_method_147_code_0 : decode jdk_42_method_147_code 0 = .ok (.aload_n 0, 1) := by decide +kernel
theorem own_d_jdk_42_method_147_code_1 : decode jdk_42_method_147_code 1 = .ok (.invokevirtual 335, 3) := by decide +kernel
theorem own_d_jdk_42_method_147_code_4 : decode jdk_42_method_147_code 4 = .ok (.iload_n 3, 1) := by decide +kernel
theorem own_d_jdk_42_method_147_code_5 : decode jdk_42_method_147_code 5 = .ok (.if_icmp .ne 23, 3) := by decide +kernel
theorem own_d_jdk_42_method_147_code_8 : decode jdk_42_method_147_code 8 = .ok (.aload_n 0, 1) := by decide +kernel
theorem own_d_jdk_42_method_147_code_9 : decode jdk_42_method_147_code 9 = .ok (.getfield 9, 3) := by decide +kernel
theorem own_d_jdk_42_method_147_code_12 : decode jdk_42_method_147_code 12 = .ok (.iconst 0, 1) := by decide +kernel
theorem own_d_jdk_42_method_147_code_13 : decode jdk_42_method_147_code 13 = .ok (.aload_n 1, 1) := by decide +kernel
theorem own_d_jdk_42_method_147_code_14 : decode jdk_42_method_147_code 14 = .ok (.iload_n 2, 1) := by decide +kernel
theorem own_d_jdk_42_method_147_code_15 : decode jdk_42_method_147_code 15 = .ok (.iload_n 3, 1) := by decide +kernel
theorem own_d_jdk_42_method_147_code_16 : decode jdk_42_method_147_code 16 = .ok (.ishl, 1) := by decide +kernel
theorem own_d_jdk_42_method_147_code_17 : decode jdk_42_method_147_code 17 = .ok (.aload_n 0, 1) := by decide +kernel
theorem own_d_jdk_42_method_147_code_18 : decode jdk_42_method_147_code 18 = .ok (.getfield 9, 3) := by decide +kernel
theorem own_d_jdk_42_method_147_code_21 : decode jdk_42_method_147_code 21 = .ok (.arraylength, 1) := by decide +kernel
theorem own_d_jdk_42_method_147_code_22 : decode jdk_42_method_147_code 22 = .ok (.invokestatic 212, 3) := by decide +kernel
theorem own_d_jdk_42_method_147_code_25 : decode jdk_42_method_147_code 25 = .ok (.goto 18, 3) := by decide +kernel
theorem own_d_jdk_42_method_147_code_43 : decode jdk_42_method_147_code 43 = .ok (.return_, 1) := by decide +kernel
theorem own_ef_gby (m : MethodId) (x0 : Addr) (x1 : Addr) (x2 : Int32) (x3 : Int32) : entryFrame m #[(.ref x0), (.ref x1), (.int x2), (.int x3)] 4 = mkF m 0 #[.val (.ref x0), .val (.ref x1), .val (.int x2), .val (.int x3)] [] := by first | (simp [entryFrame, mkF, argsToLocals, Value.category]; done) | rfl
def own_Q_gby (Z : State) (d : Addr) (kd : ClassId) (cN dn : Nat) (P suf : List Value) (wv : Value) (x u : Addr) (ku : ClassId) (zc : Int32) (h0 : Heap) (n0 : Nat) (v : Option Value) (h : Heap) (L : List Loc) : Prop := v = none ∧ Fr n0 L ∧ Keep h0 h [d] ∧ ∃ P' : List Value, P'.length = cN ∧ own_T P' dn wv suf ∧ Arv Z h d kd .byte (Int32.ofNat cN) P' (.int 0)
set_option maxRecDepth 65536 in
set_option maxHeartbeats 40000000 in
theorem own_rm_gby (l : Launch) (Z : State) (a0 : Array Value) (hw : ∀ d ∈ tables_1, d.before a0 Z = true) (ws : List Jvm.Cond) (d : Addr) (kd : ClassId) (cN dn : Nat) (P suf : List Value) (wv : Value) (x u : Addr) (ku : ClassId) (zc : Int32) (h0 : Heap) (n0 : Nat) (Z0 : n0 ≤ h0.size) (S_C : Sta Z h0 "java/lang/String" "COMPACT_STRINGS" "Z" (.int zc)) (hzc : ¬ zc = 0)(E_x : Exa Z h0 x "java/lang/String")(F_c : Fld Z h0 x "java/lang/String" "coder" "B" (.int 0))(F_v : Fld Z h0 x "java/lang/String" "value" "[B" (.ref u))(V_u : Arv Z h0 u ku .byte (Int32.ofNat suf.length) suf (.int 0))(V_d : Arv Z h0 d kd .byte (Int32.ofNat cN) P (.int 0)) (hP : P.length = cN) (hcN : cN ≤ 34) (hdn : 1 ≤ dn) (hle : dn + suf.length ≤ cN) (hwv : P.getD (dn - 1) (.int 0) = wv) (g_d : n0 ≤ d) (ne_x_d : x ≠ d) (ne_u_d : u ≠ d) :
    MetFree l (⟨"java/lang/String", "getBytes", "([BIB)V"⟩ : MethodName) (head1 (Jvm.Cond.code (⟨"java/lang/String", "getBytes", "([BIB)V"⟩ : MethodName) jdk_42_method_147_code 4 none :: ws) ({ frames := 1, cells := 0, slots := 0, locals := 60 } : Room)) (fun aa UU => aa = #[(.ref x), (.ref d), (.int (Int32.ofNat dn)), (.int (0 : Int32))] ∧ Z.Warmed39 UU.vm ∧ UU.heap = h0) (fun _ _ _ _ _ => True) (fun _ UU oo UU' => ∃ vv LL, oo = .returned vv ∧ own_Q_gby Z d kd cN dn P suf wv x u ku zc h0 n0 vv UU'.heap LL ∧ FrameEnd UU oo UU' LL ({ frames := 1, cells := 0, slots := 0, locals := 60 } : Room).cells ({ frames := 1, cells := 0, slots := 0, locals := 60 } : Room).slots) := by
  refine MetFree.of_bodySF (plainFor_of_name own_pn6) hisR ?_
  intro p e s m args below meth c s₁ Bd hml0 hP hK
  obtain ⟨rfl, hZ, hh⟩ := hP
  have hx := Bd.exec
  have hby := Bd.bytes
  have hml : c.maxLocals = 4 := hml0
  have hown : s.vm.findClass "java/lang/String" = some m.cls := findClass_of_methodNamed Bd.named
  have hnm := (name_of_methodNamed Bd.named Bd.method).1
  have X0 : Stand p l e ({ frames := 1, cells := 0, slots := 0, locals := 60 } : Room) s m #[(.ref x), (.ref d), (.int (Int32.ofNat dn)), (.int (0 : Int32))] below meth c s₁ [] 0 0 := Stand.of_body Bd
  have e0 : s₁.heap = h0 := by rw [← hh, Bd.state]; rfl
  have N0 := Fr.nil n0
  have K0 : Keep h0 h0 [d] := Keep.refl h0 _
  show own_Gl p e below (own_Post s (own_Q_gby Z d kd cN dn P suf wv x u ku zc h0 n0) ({ frames := 1, cells := 0, slots := 0, locals := 60 } : Room).cells ({ frames := 1, cells := 0, slots := 0, locals := 60 } : Room).slots) _
  refine own_st (fun tg_ kg_ => castTop (own_ef_gby m x d (Int32.ofNat dn) (0 : Int32)) kg_) ?_
  show own_Gl p e below _ (s₁.setTop (mkF m 0 #[.val (.ref x), .val (.ref d), .val (.int (Int32.ofNat dn)), .val (.int (0 : Int32))] []))
  have ns_d := V_d.nostat
  refine own_st (fun tg_ kg_ => XS.aloadN X0.here hx rfl (hb hby own_d_jdk_42_method_147_code_0) rfl rfl kg_) ?_
  show own_Gl p e below _ (s₁.setTop (mkF m 1 #[.val (.ref x), .val (.ref d), .val (.int (Int32.ofNat dn)), .val (.int (0 : Int32))] [(.ref x)]))
  obtain ⟨cq1, kq1, q1a, q1b, q1c⟩ := isOf hZ e0 (E_x.keep K0)
  obtain ⟨_, _, ⟨T1, L1, k1, n1⟩, -, X1, ⟨Lc1, hQ1, l1, y1, z1⟩, st1⟩ := X0.virtualBack hx (y := (⟨"java/lang/String", "coder", "()B"⟩ : MethodName)) (z := (⟨"java/lang/String", "coder", "()B"⟩ : MethodName)) hown (mvT hZ (hw _ (List.mem_of_getElem? (i := 108) rfl))) (mvT hZ (hw _ (List.mem_of_getElem? (i := 109) rfl))) (notFace_of_selects (args := #[]) (mvT hZ (hw _ (List.mem_of_getElem? (i := 111) rfl)))) (mvT hZ (hw _ (List.mem_of_getElem? (i := 111) rfl))) (mvT hZ (hw _ (List.mem_of_getElem? (i := 110) rfl))) (by decide) (backOf (W := 0) (own_rm_cod l Z a0 hw [] x zc h0 n0 (Nat.le_trans Z0 K0.1) (own_sta_keep S_C K0 (nsS ns_d ns0)) hzc (F_c.keep K0 (ninS ne_x_d nin0))) hZ (hw _ (List.mem_of_getElem? (i := 112) rfl)) (hw _ (List.mem_of_getElem? (i := 51) rfl)) (by decide) (by decide)) q1a q1c (g := (mkF m 1 #[.val (.ref x), .val (.ref d), .val (.int (Int32.ofNat dn)), .val (.int (0 : Int32))] [(.ref x)])) rfl (by rw [hml]; rfl) (Steps.refl _) (argsL := []) (rest := []) (lenOf own_pd9 rfl) rfl (by show 2 * 0 + _ ≤ _; exact Nat.le_of_eq rfl) (hb hby own_d_jdk_42_method_147_code_1) (fun _ _ => ⟨rfl, e0, (by decide : 0 + 0 ≤ _), (by decide : 0 + 0 ≤ _)⟩)
  dsimp only [Pt.U, Pt.locs, Pt.cells, Pt.slots] at X1 l1 y1 z1 st1 hQ1
  obtain rfl : k1 = 0 := y1
  obtain rfl : n1 = 0 := z1
  obtain ⟨rfl, N1q, e1⟩ := hQ1
  have N1 : Fr n0 L1 := by rw [l1]; exact Fr.app N0 N1q
  try clear l1
  refine own_tr st1 ?_
  show own_Gl p e below _ (T1.setTop (mkF m 4 #[.val (.ref x), .val (.ref d), .val (.int (Int32.ofNat dn)), .val (.int (0 : Int32))] [(.int (0 : Int32))]))
  try clear st1
  try clear N1q
  refine own_st (fun tg_ kg_ => XS.iloadN X1.here hx rfl (hb hby own_d_jdk_42_method_147_code_4) rfl kg_) ?_
  show own_Gl p e below _ (T1.setTop (mkF m 5 #[.val (.ref x), .val (.ref d), .val (.int (Int32.ofNat dn)), .val (.int (0 : Int32))] [(.int (0 : Int32)), (.int (0 : Int32))]))
  refine own_st (fun tg_ kg_ => XS.icmpNo X1.here hx rfl (hb hby own_d_jdk_42_method_147_code_5) rfl (teq ((rfl : (0 : Int32) = (0 : Int32)))).2 kg_) ?_
  show own_Gl p e below _ (T1.setTop (mkF m 8 #[.val (.ref x), .val (.ref d), .val (.int (Int32.ofNat dn)), .val (.int (0 : Int32))] []))
  refine own_st (fun tg_ kg_ => XS.aloadN X1.here hx rfl (hb hby own_d_jdk_42_method_147_code_8) rfl rfl kg_) ?_
  show own_Gl p e below _ (T1.setTop (mkF m 9 #[.val (.ref x), .val (.ref d), .val (.int (Int32.ofNat dn)), .val (.int (0 : Int32))] [(.ref x)]))
  obtain ⟨T2, X2, e2, st2⟩ := getF X1 hx hZ hown (host := "") (Or.inl (hw _ (List.mem_of_getElem? (i := 107) rfl))) Via.refl e1 (F_v.keep K0 (ninS ne_x_d nin0)) (g := (mkF m 9 #[.val (.ref x), .val (.ref d), .val (.int (Int32.ofNat dn)), .val (.int (0 : Int32))] [(.ref x)])) rfl rfl (hb hby own_d_jdk_42_method_147_code_9)
  refine own_st st2 ?_
  try clear st2
  try clear e1
  try clear X1
  try clear T1
  show own_Gl p e below _ (T2.setTop (mkF m 12 #[.val (.ref x), .val (.ref d), .val (.int (Int32.ofNat dn)), .val (.int (0 : Int32))] [(.ref u)]))
  refine own_st (fun tg_ kg_ => XS.iconst X2.here hx rfl (hb hby own_d_jdk_42_method_147_code_12) kg_) ?_
  show own_Gl p e below _ (T2.setTop (mkF m 13 #[.val (.ref x), .val (.ref d), .val (.int (Int32.ofNat dn)), .val (.int (0 : Int32))] [(.int (0 : Int32)), (.ref u)]))
  refine own_st (fun tg_ kg_ => XS.aloadN X2.here hx rfl (hb hby own_d_jdk_42_method_147_code_13) rfl rfl kg_) ?_
  show own_Gl p e below _ (T2.setTop (mkF m 14 #[.val (.ref x), .val (.ref d), .val (.int (Int32.ofNat dn)), .val (.int (0 : Int32))] [(.ref d), (.int (0 : Int32)), (.ref u)]))
  refine own_st (fun tg_ kg_ => XS.iloadN X2.here hx rfl (hb hby own_d_jdk_42_method_147_code_14) rfl kg_) ?_
  show own_Gl p e below _ (T2.setTop (mkF m 15 #[.val (.ref x), .val (.ref d), .val (.int (Int32.ofNat dn)), .val (.int (0 : Int32))] [(.int (Int32.ofNat dn)), (.ref d), (.int (0 : Int32)), (.ref u)]))
  refine own_st (fun tg_ kg_ => XS.iloadN X2.here hx rfl (hb hby own_d_jdk_42_method_147_code_15) rfl kg_) ?_
  show own_Gl p e below _ (T2.setTop (mkF m 16 #[.val (.ref x), .val (.ref d), .val (.int (Int32.ofNat dn)), .val (.int (0 : Int32))] [(.int (0 : Int32)), (.int (Int32.ofNat dn)), (.ref d), (.int (0 : Int32)), (.ref u)]))
  refine own_st (fun tg_ kg_ => XS.ishl X2.here hx rfl (hb hby own_d_jdk_42_method_147_code_16) rfl kg_) ?_
  show own_Gl p e below _ (T2.setTop (mkF m 17 #[.val (.ref x), .val (.ref d), .val (.int (Int32.ofNat dn)), .val (.int (0 : Int32))] [(.int ((Int32.ofNat dn) <<< ((0 : Int32) &&& 31))), (.ref d), (.int (0 : Int32)), (.ref u)]))
  rw [own_shl0 (show dn ≤ 34 by omega)]
  show own_Gl p e below _ (T2.setTop (mkF m 17 #[.val (.ref x), .val (.ref d), .val (.int (Int32.ofNat dn)), .val (.int (0 : Int32))] [(.int (Int32.ofNat dn)), (.ref d), (.int (0 : Int32)), (.ref u)]))
  refine own_st (fun tg_ kg_ => XS.aloadN X2.here hx rfl (hb hby own_d_jdk_42_method_147_code_17) rfl rfl kg_) ?_
  show own_Gl p e below _ (T2.setTop (mkF m 18 #[.val (.ref x), .val (.ref d), .val (.int (Int32.ofNat dn)), .val (.int (0 : Int32))] [(.ref x), (.int (Int32.ofNat dn)), (.ref d), (.int (0 : Int32)), (.ref u)]))
  obtain ⟨T3, X3, e3, st3⟩ := getF X2 hx hZ hown (host := "") (Or.inl (hw _ (List.mem_of_getElem? (i := 107) rfl))) Via.refl e2 (F_v.keep K0 (ninS ne_x_d nin0)) (g := (mkF m 18 #[.val (.ref x), .val (.ref d), .val (.int (Int32.ofNat dn)), .val (.int (0 : Int32))] [(.ref x), (.int (Int32.ofNat dn)), (.ref d), (.int (0 : Int32)), (.ref u)])) rfl rfl (hb hby own_d_jdk_42_method_147_code_18)
  refine own_st st3 ?_
  try clear st3
  try clear e2
  try clear X2
  try clear T2
  show own_Gl p e below _ (T3.setTop (mkF m 21 #[.val (.ref x), .val (.ref d), .val (.int (Int32.ofNat dn)), .val (.int (0 : Int32))] [(.ref u), (.int (Int32.ofNat dn)), (.ref d), (.int (0 : Int32)), (.ref u)]))
  obtain ⟨cl4, Ar4, qa4, Sa4, Na4, Ha4, Ga4⟩ := id (V_u.keep K0 (ninS ne_u_d nin0))
  refine own_st (fun tg_ kg_ => X3.arraylength hx (by rw [e3]; exact Ar4.1) (State.isArrayOf_alike hZ.alike Ar4.2.1) (g := (mkF m 21 #[.val (.ref x), .val (.ref d), .val (.int (Int32.ofNat dn)), .val (.int (0 : Int32))] [(.ref u), (.int (Int32.ofNat dn)), (.ref d), (.int (0 : Int32)), (.ref u)])) rfl rfl (hb hby own_d_jdk_42_method_147_code_21) _ kg_) ?_
  rw [len_of Sa4 Na4]
  show own_Gl p e below _ (T3.setTop (mkF m 22 #[.val (.ref x), .val (.ref d), .val (.int (Int32.ofNat dn)), .val (.int (0 : Int32))] [(.int (Int32.ofNat suf.length)), (.int (Int32.ofNat dn)), (.ref d), (.int (0 : Int32)), (.ref u)]))
  obtain ⟨T5, h5, L5, X5, e5, N5, Kc5, V_d, st5⟩ := cpA X3 hx hZ hown (hw _ (List.mem_of_getElem? (i := 131) rfl)) (hw _ (List.mem_of_getElem? (i := 134) rfl)) (hw _ (List.mem_of_getElem? (i := 132) rfl)) (hw _ (List.mem_of_getElem? (i := 133) rfl)) e3 (V_u.keep K0 (ninS ne_u_d nin0)) V_d (us := suf) (Or.inl ⟨rfl, rfl⟩) (sp := (0 : Int32)) (dp := (Int32.ofNat dn)) (nn := (Int32.ofNat suf.length)) (by decide) (own_ofn_nn (by omega)) (own_ofn_nn (by omega)) (by rw [own_ofn_clamp (by omega)]; show 0 + suf.length ≤ suf.length; omega) (by rw [own_ofn_clamp (by omega), own_ofn_clamp (by omega), own_ofn_clamp (by omega)]; omega) (by rw [own_ofn_clamp (by omega)]; exact (own_id suf).symm) (by rw [own_ofn_clamp (by omega), own_ofn_clamp (by omega), hP]; omega) N1 g_d (g := (mkF m 22 #[.val (.ref x), .val (.ref d), .val (.int (Int32.ofNat dn)), .val (.int (0 : Int32))] [(.int (Int32.ofNat suf.length)), (.int (Int32.ofNat dn)), (.ref d), (.int (0 : Int32)), (.ref u)])) rfl (by rw [hml]; rfl) rfl (hb hby own_d_jdk_42_method_147_code_22) (by decide) (W := 0) (by show 2 * 0 + _ ≤ _; exact Nat.le_of_eq rfl) (by decide)
  have K6 : Keep h0 h5 [d] := K0.trans Kc5 (allS (Or.inl (List.mem_of_getElem? (i := 0) rfl)) all0)
  try clear Kc5
  refine own_st st5 ?_
  try clear st5
  try clear e3
  try clear X3
  try clear T3
  show own_Gl p e below _ (T5.setTop (mkF m 25 #[.val (.ref x), .val (.ref d), .val (.int (Int32.ofNat dn)), .val (.int (0 : Int32))] []))
  rw [own_ofn_clamp (by omega), own_ofn_clamp (by omega)] at V_d
  obtain ⟨hT, hTl⟩ := own_T_mk (P := P) (suf := suf) hdn (by omega) hwv
  refine own_st (fun tg_ kg_ => XS.goto X5.here hx rfl (pc0 := 25) (pc' := 43) rfl (hb hby own_d_jdk_42_method_147_code_25) (by decide) (by decide) kg_) ?_
  show own_Gl p e below _ (T5.setTop (mkF m 43 #[.val (.ref x), .val (.ref d), .val (.int (Int32.ofNat dn)), .val (.int (0 : Int32))] []))
  exact own_retV X5 hx Bd.notSynchronized Bd.returns (hb hby own_d_jdk_42_method_147_code_43) (by decide) (by decide) e5 (⟨rfl, N5, K6, _, hTl.trans hP, hT, V_d⟩)
theorem own_d_jdk_68_method_71_code_0 : decode jdk_68_method_71_code 0 = .ok (.getstatic 18, 3) := by decide +kernel
theorem own_d_jdk_68_method_71_code_3 : decode jdk_68_method_71_code 3 = .ok (.ifCond .eq 18, 3) := by decide +kernel
theorem own_d_jdk_68_method_71_code_6 : decode jdk_68_method_71_code 6 = .ok (.aload_n 0, 1) := by decide +kernel
theorem own_d_jdk_68_method_71_code_7 : decode jdk_68_method_71_code 7 = .ok (.getfield 22, 3) := by decide +kernel
theorem own_d_jdk_68_method_71_code_10 : decode jdk_68_method_71_code 10 = .ok (.aload_n 1, 1) := by decide +kernel
theorem own_d_jdk_68_method_71_code_11 : decode jdk_68_method_71_code 11 = .ok (.invokevirtual 40, 3) := by decide +kernel
theorem own_d_jdk_68_method_71_code_14 : decode jdk_68_method_71_code 14 = .ok (.if_icmp .eq 7, 3) := by decide +kernel
theorem own_d_jdk_68_method_71_code_21 : decode jdk_68_method_71_code 21 = .ok (.return_, 1) := by decide +kernel
theorem own_ef_inf (m : MethodId) (x0 : Addr) (x1 : Addr) : entryFrame m #[(.ref x0), (.ref x1)] 2 = mkF m 0 #[.val (.ref x0), .val (.ref x1)] [] := by first | (simp [entryFrame, mkF, argsToLocals, Value.category]; done) | rfl
def own_Q_inf (Z : State) (b x : Addr) (zc : Int32) (h0 : Heap) (n0 : Nat) (v : Option Value) (h : Heap) (L : List Loc) : Prop := v = none ∧ Fr n0 L ∧ h = h0
set_option maxRecDepth 65536 in
set_option maxHeartbeats 40000000 in
theorem own_rm_inf (l : Launch) (Z : State) (a0 : Array Value) (hw : ∀ d ∈ tables_1, d.before a0 Z = true) (ws : List Jvm.Cond) (b x : Addr) (zc : Int32) (h0 : Heap) (n0 : Nat) (Z0 : n0 ≤ h0.size) (S_C : Sta Z h0 "java/lang/String" "COMPACT_STRINGS" "Z" (.int zc)) (hzc : ¬ zc = 0)(E_x : Exa Z h0 x "java/lang/String")(F_c : Fld Z h0 x "java/lang/String" "coder" "B" (.int 0))(G_c : Fld Z h0 b "java/lang/AbstractStringBuilder" "coder" "B" (.int 0)) :
    MetFree l (⟨"java/lang/AbstractStringBuilder", "inflateIfNeededFor", "(Ljava/lang/String;)V"⟩ : MethodName) (head1 (Jvm.Cond.code (⟨"java/lang/AbstractStringBuilder", "inflateIfNeededFor", "(Ljava/lang/String;)V"⟩ : MethodName) jdk_68_method_71_code 2 none :: ws) ({ frames := 1, cells := 0, slots := 0, locals := 13 } : Room)) (fun aa UU => aa = #[(.ref b), (.ref x)] ∧ Z.Warmed39 UU.vm ∧ UU.heap = h0) (fun _ _ _ _ _ => True) (fun _ UU oo UU' => ∃ vv LL, oo = .returned vv ∧ own_Q_inf Z b x zc h0 n0 vv UU'.heap LL ∧ FrameEnd UU oo UU' LL ({ frames := 1, cells := 0, slots := 0, locals := 13 } : Room).cells ({ frames := 1, cells := 0, slots := 0, locals := 13 } : Room).slots) := by
  refine MetFree.of_bodySF (plainFor_of_name own_pn2) hisR ?_
  intro p e s m args below meth c s₁ Bd hml0 hP hK
  obtain ⟨rfl, hZ, hh⟩ := hP
  have hx := Bd.exec
  have hby := Bd.bytes
  have hml : c.maxLocals = 2 := hml0
  have hown : s.vm.findClass "java/lang/AbstractStringBuilder" = some m.cls := findClass_of_methodNamed Bd.named
  have hnm := (name_of_methodNamed Bd.named Bd.method).1
  have X0 : Stand p l e ({ frames := 1, cells := 0, slots := 0, locals := 13 } : Room) s m #[(.ref b), (.ref x)] below meth c s₁ [] 0 0 := Stand.of_body Bd
  have e0 : s₁.heap = h0 := by rw [← hh, Bd.state]; rfl
  have N0 := Fr.nil n0
  show own_Gl p e below (own_Post s (own_Q_inf Z b x zc h0 n0) ({ frames := 1, cells := 0, slots := 0, locals := 13 } : Room).cells ({ frames := 1, cells := 0, slots := 0, locals := 13 } : Room).slots) _
  refine own_st (fun tg_ kg_ => castTop (own_ef_inf m b x) kg_) ?_
  show own_Gl p e below _ (s₁.setTop (mkF m 0 #[.val (.ref b), .val (.ref x)] []))
  obtain ⟨T1, X1, e1, st1⟩ := getS2 X0 hx hZ hown (host := "") (Or.inl (hw _ (List.mem_of_getElem? (i := 50) rfl))) Via.refl e0 S_C (g := (mkF m 0 #[.val (.ref b), .val (.ref x)] [])) rfl (hb hby own_d_jdk_68_method_71_code_0)
  refine own_st st1 ?_
  try clear st1
  show own_Gl p e below _ (T1.setTop (mkF m 3 #[.val (.ref b), .val (.ref x)] [(.int zc)]))
  refine own_st (fun tg_ kg_ => XS.ifNo X1.here hx rfl (hb hby own_d_jdk_68_method_71_code_3) rfl ((if0 _ _).trans (feq (hzc)).1) kg_) ?_
  show own_Gl p e below _ (T1.setTop (mkF m 6 #[.val (.ref b), .val (.ref x)] []))
  refine own_st (fun tg_ kg_ => XS.aloadN X1.here hx rfl (hb hby own_d_jdk_68_method_71_code_6) rfl rfl kg_) ?_
  show own_Gl p e below _ (T1.setTop (mkF m 7 #[.val (.ref b), .val (.ref x)] [(.ref b)]))
  obtain ⟨T2, X2, e2, st2⟩ := getF X1 hx hZ hown (host := "") (Or.inl (hw _ (List.mem_of_getElem? (i := 55) rfl))) Via.refl e1 G_c (g := (mkF m 7 #[.val (.ref b), .val (.ref x)] [(.ref b)])) rfl rfl (hb hby own_d_jdk_68_method_71_code_7)
  refine own_st st2 ?_
  try clear st2
  try clear e1
  try clear X1
  try clear T1
  show own_Gl p e below _ (T2.setTop (mkF m 10 #[.val (.ref b), .val (.ref x)] [(.int (0 : Int32))]))
  refine own_st (fun tg_ kg_ => XS.aloadN X2.here hx rfl (hb hby own_d_jdk_68_method_71_code_10) rfl rfl kg_) ?_
  show own_Gl p e below _ (T2.setTop (mkF m 11 #[.val (.ref b), .val (.ref x)] [(.ref x), (.int (0 : Int32))]))
  obtain ⟨cq3, kq3, q3a, q3b, q3c⟩ := isOf hZ e2 E_x
  obtain ⟨_, _, ⟨T3, L3, k3, n3⟩, -, X3, ⟨Lc3, hQ3, l3, y3, z3⟩, st3⟩ := X2.virtualBack hx (y := (⟨"java/lang/String", "coder", "()B"⟩ : MethodName)) (z := (⟨"java/lang/String", "coder", "()B"⟩ : MethodName)) hown (mvT hZ (hw _ (List.mem_of_getElem? (i := 125) rfl))) (mvT hZ (hw _ (List.mem_of_getElem? (i := 109) rfl))) (notFace_of_selects (args := #[]) (mvT hZ (hw _ (List.mem_of_getElem? (i := 111) rfl)))) (mvT hZ (hw _ (List.mem_of_getElem? (i := 111) rfl))) (mvT hZ (hw _ (List.mem_of_getElem? (i := 110) rfl))) (by decide) (backOf (W := 1) (own_rm_cod l Z a0 hw [] x zc h0 n0 Z0 S_C hzc F_c) hZ (hw _ (List.mem_of_getElem? (i := 112) rfl)) (hw _ (List.mem_of_getElem? (i := 51) rfl)) (by decide) (by decide)) q3a q3c (g := (mkF m 11 #[.val (.ref b), .val (.ref x)] [(.ref x), (.int (0 : Int32))])) rfl (by rw [hml]; rfl) (Steps.refl _) (argsL := []) (rest := [(.int (0 : Int32))]) (lenOf own_pd9 rfl) rfl (by show 2 * 0 + _ ≤ _; exact Nat.le_of_eq rfl) (hb hby own_d_jdk_68_method_71_code_11) (fun _ _ => ⟨rfl, e2, (by decide : 0 + 0 ≤ _), (by decide : 0 + 0 ≤ _)⟩)
  dsimp only [Pt.U, Pt.locs, Pt.cells, Pt.slots] at X3 l3 y3 z3 st3 hQ3
  obtain rfl : k3 = 0 := y3
  obtain rfl : n3 = 0 := z3
  obtain ⟨rfl, N3q, e3⟩ := hQ3
  have N3 : Fr n0 L3 := by rw [l3]; exact Fr.app N0 N3q
  try clear l3
  refine own_tr st3 ?_
  show own_Gl p e below _ (T3.setTop (mkF m 14 #[.val (.ref b), .val (.ref x)] [(.int (0 : Int32)), (.int (0 : Int32))]))
  try clear st3
  try clear N3q
  try clear e2
  try clear X2
  try clear T2
  refine own_st (fun tg_ kg_ => XS.icmpYes X3.here hx rfl (pc0 := 14) (pc' := 21) rfl (hb hby own_d_jdk_68_method_71_code_14) rfl (teq ((rfl : (0 : Int32) = (0 : Int32)))).1 (by decide) (by decide) kg_) ?_
  show own_Gl p e below _ (T3.setTop (mkF m 21 #[.val (.ref b), .val (.ref x)] []))
  exact own_retV X3 hx Bd.notSynchronized Bd.returns (hb hby own_d_jdk_68_method_71_code_21) (by decide) (by decide) e3 (⟨rfl, N3, rfl⟩)
theorem own_pd10 : parseMethodDescriptor "(Ljava/lang/String;)V" = some ⟨[(.object "java/lang/String")], none⟩ := by decide +kernel
theorem own_pd11 : parseMethodDescriptor "([BIB)V" = some ⟨[(.array .byte), .int, .byte], none⟩ := by decide +kernel
theorem own_d_jdk_68_method_73_code_0 : decode jdk_68_method_73_code 0 = .ok (.aload_n 0, 1) := by decide +kernel
theorem own_d_jdk_68_method_73_code_1 : decode jdk_68_method_73_code 1 = .ok (.aload_n 2, 1) := by decide +kernel
theorem own_d_jdk_68_method_73_code_2 : decode jdk_68_method_73_code 2 = .ok (.invokevirtual 397, 3) := by decide +kernel
theorem own_d_jdk_68_method_73_code_5 : decode jdk_68_method_73_code 5 = .ok (.aload_n 2, 1) := by decide +kernel
theorem own_d_jdk_68_method_73_code_6 : decode jdk_68_method_73_code 6 = .ok (.aload_n 0, 1) := by decide +kernel
theorem own_d_jdk_68_method_73_code_7 : decode jdk_68_method_73_code 7 = .ok (.getfield 15, 3) := by decide +kernel
theorem own_d_jdk_68_method_73_code_10 : decode jdk_68_method_73_code 10 = .ok (.iload_n 1, 1) := by decide +kernel
theorem own_d_jdk_68_method_73_code_11 : decode jdk_68_method_73_code 11 = .ok (.aload_n 0, 1) := by decide +kernel
theorem own_d_jdk_68_method_73_code_12 : decode jdk_68_method_73_code 12 = .ok (.getfield 22, 3) := by decide +kernel
theorem own_d_jdk_68_method_73_code_15 : decode jdk_68_method_73_code 15 = .ok (.invokevirtual 399, 3) := by decide +kernel
theorem own_d_jdk_68_method_73_code_18 : decode jdk_68_method_73_code 18 = .ok (.return_, 1) := by decide +kernel
theorem own_ef_psa (m : MethodId) (x0 : Addr) (x1 : Int32) (x2 : Addr) : entryFrame m #[(.ref x0), (.int x1), (.ref x2)] 3 = mkF m 0 #[.val (.ref x0), .val (.int x1), .val (.ref x2)] [] := by first | (simp [entryFrame, mkF, argsToLocals, Value.category]; done) | rfl
def own_Q_psa (Z : State) (b d : Addr) (kd : ClassId) (cN dn : Nat) (P suf : List Value) (wv : Value) (x u : Addr) (ku : ClassId) (zc : Int32) (h0 : Heap) (n0 : Nat) (v : Option Value) (h : Heap) (L : List Loc) : Prop := v = none ∧ Fr n0 L ∧ Keep h0 h [d] ∧ ∃ P' : List Value, P'.length = cN ∧ own_T P' dn wv suf ∧ Arv Z h d kd .byte (Int32.ofNat cN) P' (.int 0)
set_option maxRecDepth 65536 in
set_option maxHeartbeats 40000000 in
theorem own_rm_psa (l : Launch) (Z : State) (a0 : Array Value) (hw : ∀ d ∈ tables_1, d.before a0 Z = true) (ws : List Jvm.Cond) (b d : Addr) (kd : ClassId) (cN dn : Nat) (P suf : List Value) (wv : Value) (x u : Addr) (ku : ClassId) (zc : Int32) (h0 : Heap) (n0 : Nat) (Z0 : n0 ≤ h0.size) (S_C : Sta Z h0 "java/lang/String" "COMPACT_STRINGS" "Z" (.int zc)) (hzc : ¬ zc = 0)(E_x : Exa Z h0 x "java/lang/String")(F_c : Fld Z h0 x "java/lang/String" "coder" "B" (.int 0))(F_v : Fld Z h0 x "java/lang/String" "value" "[B" (.ref u))(V_u : Arv Z h0 u ku .byte (Int32.ofNat suf.length) suf (.int 0))(E_b : Exa Z h0 b "java/lang/StringBuilder")(G_v : Fld Z h0 b "java/lang/AbstractStringBuilder" "value" "[B" (.ref d)) (G_c : Fld Z h0 b "java/lang/AbstractStringBuilder" "coder" "B" (.int 0))(V_d : Arv Z h0 d kd .byte (Int32.ofNat cN) P (.int 0)) (hP : P.length = cN) (hcN : cN ≤ 34) (hdn : 1 ≤ dn) (hle : dn + suf.length ≤ cN) (hwv : P.getD (dn - 1) (.int 0) = wv) (g_d : n0 ≤ d) (ne_x_d : x ≠ d) (ne_u_d : u ≠ d)(ne_b_d : b ≠ d) :
    MetFree l (⟨"java/lang/AbstractStringBuilder", "putStringAt", "(ILjava/lang/String;)V"⟩ : MethodName) (head1 (Jvm.Cond.code (⟨"java/lang/AbstractStringBuilder", "putStringAt", "(ILjava/lang/String;)V"⟩ : MethodName) jdk_68_method_73_code 3 none :: ws) ({ frames := 2, cells := 0, slots := 0, locals := 75 } : Room)) (fun aa UU => aa = #[(.ref b), (.int (Int32.ofNat dn)), (.ref x)] ∧ Z.Warmed39 UU.vm ∧ UU.heap = h0) (fun _ _ _ _ _ => True) (fun _ UU oo UU' => ∃ vv LL, oo = .returned vv ∧ own_Q_psa Z b d kd cN dn P suf wv x u ku zc h0 n0 vv UU'.heap LL ∧ FrameEnd UU oo UU' LL ({ frames := 2, cells := 0, slots := 0, locals := 75 } : Room).cells ({ frames := 2, cells := 0, slots := 0, locals := 75 } : Room).slots) := by
  refine MetFree.of_bodySF (plainFor_of_name own_pn2) hisR ?_
  intro p e s m args below meth c s₁ Bd hml0 hP hK
  obtain ⟨rfl, hZ, hh⟩ := hP
  have hx := Bd.exec
  have hby := Bd.bytes
  have hml : c.maxLocals = 3 := hml0
  have hown : s.vm.findClass "java/lang/AbstractStringBuilder" = some m.cls := findClass_of_methodNamed Bd.named
  have hnm := (name_of_methodNamed Bd.named Bd.method).1
  have X0 : Stand p l e ({ frames := 2, cells := 0, slots := 0, locals := 75 } : Room) s m #[(.ref b), (.int (Int32.ofNat dn)), (.ref x)] below meth c s₁ [] 0 0 := Stand.of_body Bd
  have e0 : s₁.heap = h0 := by rw [← hh, Bd.state]; rfl
  have N0 := Fr.nil n0
  have K0 : Keep h0 h0 [d] := Keep.refl h0 _
  show own_Gl p e below (own_Post s (own_Q_psa Z b d kd cN dn P suf wv x u ku zc h0 n0) ({ frames := 2, cells := 0, slots := 0, locals := 75 } : Room).cells ({ frames := 2, cells := 0, slots := 0, locals := 75 } : Room).slots) _
  refine own_st (fun tg_ kg_ => castTop (own_ef_psa m b (Int32.ofNat dn) x) kg_) ?_
  show own_Gl p e below _ (s₁.setTop (mkF m 0 #[.val (.ref b), .val (.int (Int32.ofNat dn)), .val (.ref x)] []))
  have ns_d := V_d.nostat
  refine own_st (fun tg_ kg_ => XS.aloadN X0.here hx rfl (hb hby own_d_jdk_68_method_73_code_0) rfl rfl kg_) ?_
  show own_Gl p e below _ (s₁.setTop (mkF m 1 #[.val (.ref b), .val (.int (Int32.ofNat dn)), .val (.ref x)] [(.ref b)]))
  refine own_st (fun tg_ kg_ => XS.aloadN X0.here hx rfl (hb hby own_d_jdk_68_method_73_code_1) rfl rfl kg_) ?_
  show own_Gl p e below _ (s₁.setTop (mkF m 2 #[.val (.ref b), .val (.int (Int32.ofNat dn)), .val (.ref x)] [(.ref x), (.ref b)]))
  obtain ⟨cq1, kq1, q1a, q1b, q1c⟩ := isOf hZ e0 (E_b.keep K0)
  obtain ⟨_, _, ⟨T1, L1, k1, n1⟩, -, X1, ⟨Lc1, hQ1, l1, y1, z1⟩, st1⟩ := X0.virtualBack hx (y := (⟨"java/lang/AbstractStringBuilder", "inflateIfNeededFor", "(Ljava/lang/String;)V"⟩ : MethodName)) (z := (⟨"java/lang/AbstractStringBuilder", "inflateIfNeededFor", "(Ljava/lang/String;)V"⟩ : MethodName)) hown (mvT hZ (hw _ (List.mem_of_getElem? (i := 120) rfl))) (mvT hZ (own_decl (hw _ (List.mem_of_getElem? (i := 121) rfl)) (hw _ (List.mem_of_getElem? (i := 124) rfl)))) (notFace_of_selects (args := #[]) (mvT hZ (hw _ (List.mem_of_getElem? (i := 123) rfl)))) (mvT hZ (hw _ (List.mem_of_getElem? (i := 123) rfl))) (mvT hZ (hw _ (List.mem_of_getElem? (i := 121) rfl))) (by decide) (backOf (W := 0) (own_rm_inf l Z a0 hw [] b x zc h0 n0 (Nat.le_trans Z0 K0.1) (own_sta_keep S_C K0 (nsS ns_d ns0)) hzc (E_x.keep K0) (F_c.keep K0 (ninS ne_x_d nin0)) (G_c.keep K0 (ninS ne_b_d nin0))) hZ (hw _ (List.mem_of_getElem? (i := 124) rfl)) (hw _ (List.mem_of_getElem? (i := 47) rfl)) (by decide) (by decide)) q1a q1c (g := (mkF m 2 #[.val (.ref b), .val (.int (Int32.ofNat dn)), .val (.ref x)] [(.ref x), (.ref b)])) rfl (by rw [hml]; rfl) (Steps.refl _) (argsL := [(.ref x)]) (rest := []) (lenOf own_pd10 rfl) rfl (by show 2 * 0 + _ ≤ _; exact Nat.le_of_eq rfl) (hb hby own_d_jdk_68_method_73_code_2) (fun _ _ => ⟨rfl, e0, (by decide : 0 + 0 ≤ _), (by decide : 0 + 0 ≤ _)⟩)
  dsimp only [Pt.U, Pt.locs, Pt.cells, Pt.slots] at X1 l1 y1 z1 st1 hQ1
  obtain rfl : k1 = 0 := y1
  obtain rfl : n1 = 0 := z1
  obtain ⟨rfl, N1q, e1⟩ := hQ1
  have N1 : Fr n0 L1 := by rw [l1]; exact Fr.app N0 N1q
  try clear l1
  refine own_tr st1 ?_
  show own_Gl p e below _ (T1.setTop (mkF m 5 #[.val (.ref b), .val (.int (Int32.ofNat dn)), .val (.ref x)] []))
  try clear st1
  try clear N1q
  refine own_st (fun tg_ kg_ => XS.aloadN X1.here hx rfl (hb hby own_d_jdk_68_method_73_code_5) rfl rfl kg_) ?_
  show own_Gl p e below _ (T1.setTop (mkF m 6 #[.val (.ref b), .val (.int (Int32.ofNat dn)), .val (.ref x)] [(.ref x)]))
  refine own_st (fun tg_ kg_ => XS.aloadN X1.here hx rfl (hb hby own_d_jdk_68_method_73_code_6) rfl rfl kg_) ?_
  show own_Gl p e below _ (T1.setTop (mkF m 7 #[.val (.ref b), .val (.int (Int32.ofNat dn)), .val (.ref x)] [(.ref b), (.ref x)]))
  obtain ⟨T2, X2, e2, st2⟩ := getF X1 hx hZ hown (host := "") (Or.inl (hw _ (List.mem_of_getElem? (i := 53) rfl))) Via.refl e1 (G_v.keep K0 (ninS ne_b_d nin0)) (g := (mkF m 7 #[.val (.ref b), .val (.int (Int32.ofNat dn)), .val (.ref x)] [(.ref b), (.ref x)])) rfl rfl (hb hby own_d_jdk_68_method_73_code_7)
  refine own_st st2 ?_
  try clear st2
  try clear e1
  try clear X1
  try clear T1
  show own_Gl p e below _ (T2.setTop (mkF m 10 #[.val (.ref b), .val (.int (Int32.ofNat dn)), .val (.ref x)] [(.ref d), (.ref x)]))
  refine own_st (fun tg_ kg_ => XS.iloadN X2.here hx rfl (hb hby own_d_jdk_68_method_73_code_10) rfl kg_) ?_
  show own_Gl p e below _ (T2.setTop (mkF m 11 #[.val (.ref b), .val (.int (Int32.ofNat dn)), .val (.ref x)] [(.int (Int32.ofNat dn)), (.ref d), (.ref x)]))
  refine own_st (fun tg_ kg_ => XS.aloadN X2.here hx rfl (hb hby own_d_jdk_68_method_73_code_11) rfl rfl kg_) ?_
  show own_Gl p e below _ (T2.setTop (mkF m 12 #[.val (.ref b), .val (.int (Int32.ofNat dn)), .val (.ref x)] [(.ref b), (.int (Int32.ofNat dn)), (.ref d), (.ref x)]))
  obtain ⟨T3, X3, e3, st3⟩ := getF X2 hx hZ hown (host := "") (Or.inl (hw _ (List.mem_of_getElem? (i := 55) rfl))) Via.refl e2 (G_c.keep K0 (ninS ne_b_d nin0)) (g := (mkF m 12 #[.val (.ref b), .val (.int (Int32.ofNat dn)), .val (.ref x)] [(.ref b), (.int (Int32.ofNat dn)), (.ref d), (.ref x)])) rfl rfl (hb hby own_d_jdk_68_method_73_code_12)
  refine own_st st3 ?_
  try clear st3
  try clear e2
  try clear X2
  try clear T2
  show own_Gl p e below _ (T3.setTop (mkF m 15 #[.val (.ref b), .val (.int (Int32.ofNat dn)), .val (.ref x)] [(.int (0 : Int32)), (.int (Int32.ofNat dn)), (.ref d), (.ref x)]))
  obtain ⟨cq4, kq4, q4a, q4b, q4c⟩ := isOf hZ e3 (E_x.keep K0)
  obtain ⟨_, _, ⟨T4, L4, k4, n4⟩, -, X4, ⟨Lc4, hQ4, l4, y4, z4⟩, st4⟩ := X3.virtualBack hx (y := (⟨"java/lang/String", "getBytes", "([BIB)V"⟩ : MethodName)) (z := (⟨"java/lang/String", "getBytes", "([BIB)V"⟩ : MethodName)) hown (mvT hZ (hw _ (List.mem_of_getElem? (i := 126) rfl))) (mvT hZ (hw _ (List.mem_of_getElem? (i := 127) rfl))) (notFace_of_selects (args := #[]) (mvT hZ (hw _ (List.mem_of_getElem? (i := 129) rfl)))) (mvT hZ (hw _ (List.mem_of_getElem? (i := 129) rfl))) (mvT hZ (hw _ (List.mem_of_getElem? (i := 128) rfl))) (by decide) (backOf (W := 0) (own_rm_gby l Z a0 hw [] d kd cN dn P suf wv x u ku zc h0 n0 (Nat.le_trans Z0 K0.1) (own_sta_keep S_C K0 (nsS ns_d ns0)) hzc (E_x.keep K0) (F_c.keep K0 (ninS ne_x_d nin0)) (F_v.keep K0 (ninS ne_x_d nin0)) (V_u.keep K0 (ninS ne_u_d nin0)) V_d hP hcN hdn hle hwv g_d ne_x_d ne_u_d) hZ (hw _ (List.mem_of_getElem? (i := 130) rfl)) (hw _ (List.mem_of_getElem? (i := 51) rfl)) (by decide) (by decide)) q4a q4c (g := (mkF m 15 #[.val (.ref b), .val (.int (Int32.ofNat dn)), .val (.ref x)] [(.int (0 : Int32)), (.int (Int32.ofNat dn)), (.ref d), (.ref x)])) rfl (by rw [hml]; rfl) (Steps.refl _) (argsL := [(.ref d), (.int (Int32.ofNat dn)), (.int (0 : Int32))]) (rest := []) (lenOf own_pd11 rfl) rfl (by show 2 * 0 + _ ≤ _; exact Nat.le_of_eq rfl) (hb hby own_d_jdk_68_method_73_code_15) (fun _ _ => ⟨rfl, e3, (by decide : 0 + 0 ≤ _), (by decide : 0 + 0 ≤ _)⟩)
  dsimp only [Pt.U, Pt.locs, Pt.cells, Pt.slots] at X4 l4 y4 z4 st4 hQ4
  obtain rfl : k4 = 0 := y4
  obtain rfl : n4 = 0 := z4
  obtain ⟨rfl, N4q, Kc4, hq⟩ := hQ4
  have N4 : Fr n0 L4 := by rw [l4]; exact Fr.app N1 N4q
  try clear l4
  refine own_tr st4 ?_
  have K5 : Keep h0 T4.heap [d] := K0.trans Kc4 (allS (Or.inl (List.mem_of_getElem? (i := 0) rfl)) all0)
  try clear Kc4
  show own_Gl p e below _ (T4.setTop (mkF m 18 #[.val (.ref b), .val (.int (Int32.ofNat dn)), .val (.ref x)] []))
  try clear st4
  try clear N4q
  try clear N1
  try clear e3
  try clear X3
  try clear T3
  exact own_retV X4 hx Bd.notSynchronized Bd.returns (hb hby own_d_jdk_68_method_73_code_18) (by decide) (by decide) rfl (⟨rfl, N4, K5, hq⟩)
theorem own_pd12 : parseMethodDescriptor "(ILjava/lang/String;)V" = some ⟨[.int, (.object "java/lang/String")], none⟩ := by decide +kernel
theorem own_d_jdk_68_method_22_code_0 : decode jdk_68_method_22_code 0 = .ok (.aload_n 1, 1) := by decide +kernel
theorem own_d_jdk_68_method_22_code_1 : decode jdk_68_method_22_code 1 = .ok (.ifnonnull 8, 3) := by decide +kernel
theorem own_d_jdk_68_method_22_code_9 : decode jdk_68_method_22_code 9 = .ok (.aload_n 1, 1) := by decide +kernel
theorem own_d_jdk_68_method_22_code_10 : decode jdk_68_method_22_code 10 = .ok (.invokevirtual 32, 3) := by decide +kernel
theorem own_d_jdk_68_method_22_code_13 : decode jdk_68_method_22_code 13 = .ok (.istore_n 2, 1) := by decide +kernel
theorem own_d_jdk_68_method_22_code_14 : decode jdk_68_method_22_code 14 = .ok (.aload_n 0, 1) := by decide +kernel
theorem own_d_jdk_68_method_22_code_15 : decode jdk_68_method_22_code 15 = .ok (.aload_n 0, 1) := by decide +kernel
theorem own_d_jdk_68_method_22_code_16 : decode jdk_68_method_22_code 16 = .ok (.getfield 79, 3) := by decide +kernel
theorem own_d_jdk_68_method_22_code_19 : decode jdk_68_method_22_code 19 = .ok (.iload_n 2, 1) := by decide +kernel
theorem own_d_jdk_68_method_22_code_20 : decode jdk_68_method_22_code 20 = .ok (.iadd, 1) := by decide +kernel
theorem own_d_jdk_68_method_22_code_21 : decode jdk_68_method_22_code 21 = .ok (.invokevirtual 100, 3) := by decide +kernel
theorem own_d_jdk_68_method_22_code_24 : decode jdk_68_method_22_code 24 = .ok (.aload_n 0, 1) := by decide +kernel
theorem own_d_jdk_68_method_22_code_25 : decode jdk_68_method_22_code 25 = .ok (.aload_n 0, 1) := by decide +kernel
theorem own_d_jdk_68_method_22_code_26 : decode jdk_68_method_22_code 26 = .ok (.getfield 79, 3) := by decide +kernel
theorem own_d_jdk_68_method_22_code_29 : decode jdk_68_method_22_code 29 = .ok (.aload_n 1, 1) := by decide +kernel
theorem own_d_jdk_68_method_22_code_30 : decode jdk_68_method_22_code 30 = .ok (.invokevirtual 208, 3) := by decide +kernel
theorem own_d_jdk_68_method_22_code_33 : decode jdk_68_method_22_code 33 = .ok (.aload_n 0, 1) := by decide +kernel
theorem own_d_jdk_68_method_22_code_34 : decode jdk_68_method_22_code 34 = .ok (.dup, 1) := by decide +kernel
theorem own_d_jdk_68_method_22_code_35 : decode jdk_68_method_22_code 35 = .ok (.getfield 79, 3) := by decide +kernel
theorem own_d_jdk_68_method_22_code_38 : decode jdk_68_method_22_code 38 = .ok (.iload_n 2, 1) := by decide +kernel
theorem own_d_jdk_68_method_22_code_39 : decode jdk_68_method_22_code 39 = .ok (.iadd, 1) := by decide +kernel
theorem own_d_jdk_68_method_22_code_40 : decode jdk_68_method_22_code 40 = .ok (.putfield 79, 3) := by decide +kernel
theorem own_d_jdk_68_method_22_code_43 : decode jdk_68_method_22_code 43 = .ok (.aload_n 0, 1) := by decide +kernel
theorem own_d_jdk_68_method_22_code_44 : decode jdk_68_method_22_code 44 = .ok (.areturn, 1) := by decide +kernel
theorem own_ef_aas (m : MethodId) (x0 : Addr) (x1 : Addr) : entryFrame m #[(.ref x0), (.ref x1)] 3 = mkF m 0 #[.val (.ref x0), .val (.ref x1), .unset] [] := by first | (simp [entryFrame, mkF, argsToLocals, Value.category]; done) | rfl
def own_Q_aas (Z : State) (b d : Addr) (kd : ClassId) (dn : Nat) (P suf : List Value) (wv : Value) (x u : Addr) (ku : ClassId) (zc : Int32) (h0 : Heap) (n0 : Nat) (v : Option Value) (h : Heap) (L : List Loc) : Prop := v = some (.ref b) ∧ Fr n0 L ∧ Keep h0 h [b, d] ∧ ∃ (w : Addr) (kw : ClassId) (cN : Nat) (P' : List Value), cN ≤ 34 ∧ dn + suf.length ≤ cN ∧ own_T P' dn wv suf ∧ Arv Z h w kw .byte (Int32.ofNat cN) P' (.int 0) ∧ Exa Z h w "[B" ∧ Fld Z h b "java/lang/AbstractStringBuilder" "value" "[B" (.ref w) ∧ Fld Z h b "java/lang/AbstractStringBuilder" "coder" "B" (.int 0) ∧ Fld Z h b "java/lang/AbstractStringBuilder" "count" "I" (.int (Int32.ofNat (dn + suf.length)))
set_option maxRecDepth 65536 in
set_option maxHeartbeats 40000000 in
theorem own_rm_aas (l : Launch) (Z : State) (a0 : Array Value) (hw : ∀ d ∈ tables_1, d.before a0 Z = true) (ws : List Jvm.Cond) (b d : Addr) (kd : ClassId) (dn : Nat) (P suf : List Value) (wv : Value) (x u : Addr) (ku : ClassId) (zc : Int32) (h0 : Heap) (n0 : Nat) (Z0 : n0 ≤ h0.size) (S_C : Sta Z h0 "java/lang/String" "COMPACT_STRINGS" "Z" (.int zc)) (hzc : ¬ zc = 0)(E_x : Exa Z h0 x "java/lang/String")(F_c : Fld Z h0 x "java/lang/String" "coder" "B" (.int 0))(F_v : Fld Z h0 x "java/lang/String" "value" "[B" (.ref u))(V_u : Arv Z h0 u ku .byte (Int32.ofNat suf.length) suf (.int 0))(E_b : Exa Z h0 b "java/lang/StringBuilder")(G_v : Fld Z h0 b "java/lang/AbstractStringBuilder" "value" "[B" (.ref d)) (G_c : Fld Z h0 b "java/lang/AbstractStringBuilder" "coder" "B" (.int 0))(G_n : Fld Z h0 b "java/lang/AbstractStringBuilder" "count" "I" (.int (Int32.ofNat dn)))(V_d : Arv Z h0 d kd .byte (16 : Int32) P (.int 0)) (E_d : Exa Z h0 d "[B") (hP : P.length = 16) (hdn : 1 ≤ dn) (hd10 : dn ≤ 10) (hs8 : suf.length ≤ 8) (hs1 : 1 ≤ suf.length) (hwv : P.getD (dn - 1) (.int 0) = wv) (g_b : n0 ≤ b) (g_d : n0 ≤ d) (ne_x_d : x ≠ d) (ne_u_d : u ≠ d) (ne_x_b : x ≠ b) (ne_u_b : u ≠ b) (ne_b_d : b ≠ d) :
    MetFree l (⟨"java/lang/AbstractStringBuilder", "append", "(Ljava/lang/String;)Ljava/lang/AbstractStringBuilder;"⟩ : MethodName) (head1 (Jvm.Cond.code (⟨"java/lang/AbstractStringBuilder", "append", "(Ljava/lang/String;)Ljava/lang/AbstractStringBuilder;"⟩ : MethodName) jdk_68_method_22_code 3 (some (.object "java/lang/AbstractStringBuilder")) :: ws) ({ frames := 4, cells := 1, slots := 34, locals := 89 } : Room)) (fun aa UU => aa = #[(.ref b), (.ref x)] ∧ Z.Warmed39 UU.vm ∧ UU.heap = h0) (fun _ _ _ _ _ => True) (fun _ UU oo UU' => ∃ vv LL, oo = .returned vv ∧ own_Q_aas Z b d kd dn P suf wv x u ku zc h0 n0 vv UU'.heap LL ∧ FrameEnd UU oo UU' LL ({ frames := 4, cells := 1, slots := 34, locals := 89 } : Room).cells ({ frames := 4, cells := 1, slots := 34, locals := 89 } : Room).slots) := by
  refine MetFree.of_bodySF (plainFor_of_name own_pn2) hisR ?_
  intro p e s m args below meth c s₁ Bd hml0 hP hK
  obtain ⟨rfl, hZ, hh⟩ := hP
  have hx := Bd.exec
  have hby := Bd.bytes
  have hml : c.maxLocals = 3 := hml0
  have hown : s.vm.findClass "java/lang/AbstractStringBuilder" = some m.cls := findClass_of_methodNamed Bd.named
  have hnm := (name_of_methodNamed Bd.named Bd.method).1
  have X0 : Stand p l e ({ frames := 4, cells := 1, slots := 34, locals := 89 } : Room) s m #[(.ref b), (.ref x)] below meth c s₁ [] 0 0 := Stand.of_body Bd
  have e0 : s₁.heap = h0 := by rw [← hh, Bd.state]; rfl
  have N0 := Fr.nil n0
  have K0 : Keep h0 h0 [b, d] := Keep.refl h0 _
  show own_Gl p e below (own_Post s (own_Q_aas Z b d kd dn P suf wv x u ku zc h0 n0) ({ frames := 4, cells := 1, slots := 34, locals := 89 } : Room).cells ({ frames := 4, cells := 1, slots := 34, locals := 89 } : Room).slots) _
  refine own_st (fun tg_ kg_ => castTop (own_ef_aas m b x) kg_) ?_
  show own_Gl p e below _ (s₁.setTop (mkF m 0 #[.val (.ref b), .val (.ref x), .unset] []))
  have ns_b := E_b.nostat
  have ns_d := V_d.nostat
  refine own_st (fun tg_ kg_ => XS.aloadN X0.here hx rfl (hb hby own_d_jdk_68_method_22_code_0) rfl rfl kg_) ?_
  show own_Gl p e below _ (s₁.setTop (mkF m 1 #[.val (.ref b), .val (.ref x), .unset] [(.ref x)]))
  refine own_st (fun tg_ kg_ => XT.nonnullYes X0.here hx rfl (pc0 := 1) (pc' := 9) rfl (hb hby own_d_jdk_68_method_22_code_1) rfl rfl nofun (by decide) (by decide) kg_) ?_
  show own_Gl p e below _ (s₁.setTop (mkF m 9 #[.val (.ref b), .val (.ref x), .unset] []))
  refine own_st (fun tg_ kg_ => XS.aloadN X0.here hx rfl (hb hby own_d_jdk_68_method_22_code_9) rfl rfl kg_) ?_
  show own_Gl p e below _ (s₁.setTop (mkF m 10 #[.val (.ref b), .val (.ref x), .unset] [(.ref x)]))
  obtain ⟨cq1, kq1, q1a, q1b, q1c⟩ := isOf hZ e0 (E_x.keep K0)
  obtain ⟨_, _, ⟨T1, L1, k1, n1⟩, -, X1, ⟨Lc1, hQ1, l1, y1, z1⟩, st1⟩ := X0.virtualBack hx (y := (⟨"java/lang/String", "length", "()I"⟩ : MethodName)) (z := (⟨"java/lang/String", "length", "()I"⟩ : MethodName)) hown (mvT hZ (hw _ (List.mem_of_getElem? (i := 102) rfl))) (mvT hZ (hw _ (List.mem_of_getElem? (i := 103) rfl))) (notFace_of_selects (args := #[]) (mvT hZ (hw _ (List.mem_of_getElem? (i := 105) rfl)))) (mvT hZ (hw _ (List.mem_of_getElem? (i := 105) rfl))) (mvT hZ (hw _ (List.mem_of_getElem? (i := 104) rfl))) (by decide) (backOf (W := 0) (own_rm_len l Z a0 hw [] x u ku suf.length suf zc h0 n0 (Nat.le_trans Z0 K0.1) (own_sta_keep S_C K0 (nsS ns_b (nsS ns_d ns0))) hzc (E_x.keep K0) (F_c.keep K0 (ninS ne_x_b (ninS ne_x_d nin0))) (F_v.keep K0 (ninS ne_x_b (ninS ne_x_d nin0))) (V_u.keep K0 (ninS ne_u_b (ninS ne_u_d nin0))) (by omega)) hZ (hw _ (List.mem_of_getElem? (i := 106) rfl)) (hw _ (List.mem_of_getElem? (i := 51) rfl)) (by decide) (by decide)) q1a q1c (g := (mkF m 10 #[.val (.ref b), .val (.ref x), .unset] [(.ref x)])) rfl (by rw [hml]; rfl) (Steps.refl _) (argsL := []) (rest := []) (lenOf own_pd4 rfl) rfl (by show 2 * 0 + _ ≤ _; exact Nat.le_of_eq rfl) (hb hby own_d_jdk_68_method_22_code_10) (fun _ _ => ⟨rfl, e0, (by decide : 0 + 0 ≤ _), (by decide : 0 + 0 ≤ _)⟩)
  dsimp only [Pt.U, Pt.locs, Pt.cells, Pt.slots] at X1 l1 y1 z1 st1 hQ1
  obtain rfl : k1 = 0 := y1
  obtain rfl : n1 = 0 := z1
  obtain ⟨rfl, N1q, e1⟩ := hQ1
  have N1 : Fr n0 L1 := by rw [l1]; exact Fr.app N0 N1q
  try clear l1
  refine own_tr st1 ?_
  show own_Gl p e below _ (T1.setTop (mkF m 13 #[.val (.ref b), .val (.ref x), .unset] [(.int (Int32.ofNat suf.length))]))
  try clear st1
  try clear N1q
  refine own_st (fun tg_ kg_ => XS.istoreN X1.here hx rfl (hb hby own_d_jdk_68_method_22_code_13) rfl (l' := #[.val (.ref b), .val (.ref x), .val (.int (Int32.ofNat suf.length))]) rfl kg_) ?_
  show own_Gl p e below _ (T1.setTop (mkF m 14 #[.val (.ref b), .val (.ref x), .val (.int (Int32.ofNat suf.length))] []))
  refine own_st (fun tg_ kg_ => XS.aloadN X1.here hx rfl (hb hby own_d_jdk_68_method_22_code_14) rfl rfl kg_) ?_
  show own_Gl p e below _ (T1.setTop (mkF m 15 #[.val (.ref b), .val (.ref x), .val (.int (Int32.ofNat suf.length))] [(.ref b)]))
  refine own_st (fun tg_ kg_ => XS.aloadN X1.here hx rfl (hb hby own_d_jdk_68_method_22_code_15) rfl rfl kg_) ?_
  show own_Gl p e below _ (T1.setTop (mkF m 16 #[.val (.ref b), .val (.ref x), .val (.int (Int32.ofNat suf.length))] [(.ref b), (.ref b)]))
  obtain ⟨T2, X2, e2, st2⟩ := getF X1 hx hZ hown (host := "") (Or.inl (hw _ (List.mem_of_getElem? (i := 67) rfl))) Via.refl e1 G_n (g := (mkF m 16 #[.val (.ref b), .val (.ref x), .val (.int (Int32.ofNat suf.length))] [(.ref b), (.ref b)])) rfl rfl (hb hby own_d_jdk_68_method_22_code_16)
  refine own_st st2 ?_
  try clear st2
  try clear e1
  try clear X1
  try clear T1
  show own_Gl p e below _ (T2.setTop (mkF m 19 #[.val (.ref b), .val (.ref x), .val (.int (Int32.ofNat suf.length))] [(.int (Int32.ofNat dn)), (.ref b)]))
  refine own_st (fun tg_ kg_ => XS.iloadN X2.here hx rfl (hb hby own_d_jdk_68_method_22_code_19) rfl kg_) ?_
  show own_Gl p e below _ (T2.setTop (mkF m 20 #[.val (.ref b), .val (.ref x), .val (.int (Int32.ofNat suf.length))] [(.int (Int32.ofNat suf.length)), (.int (Int32.ofNat dn)), (.ref b)]))
  refine own_st (fun tg_ kg_ => XS.iadd X2.here hx rfl (hb hby own_d_jdk_68_method_22_code_20) rfl kg_) ?_
  show own_Gl p e below _ (T2.setTop (mkF m 21 #[.val (.ref b), .val (.ref x), .val (.int (Int32.ofNat suf.length))] [(.int ((Int32.ofNat dn) + (Int32.ofNat suf.length))), (.ref b)]))
  rw [own_ofn_add dn suf.length]
  show own_Gl p e below _ (T2.setTop (mkF m 21 #[.val (.ref b), .val (.ref x), .val (.int (Int32.ofNat suf.length))] [(.int (Int32.ofNat (dn + suf.length))), (.ref b)]))
  by_cases h16 : dn + suf.length ≤ 16
  ·
    show own_Gl p e below _ (T2.setTop (mkF m 21 #[.val (.ref b), .val (.ref x), .val (.int (Int32.ofNat suf.length))] [(.int (Int32.ofNat (dn + suf.length))), (.ref b)]))
    obtain ⟨cq3, kq3, q3a, q3b, q3c⟩ := isOf hZ e2 E_b
    obtain ⟨_, _, ⟨T3, L3, k3, n3⟩, -, X3, ⟨Lc3, hQ3, l3, y3, z3⟩, st3⟩ := X2.virtualBack hx (y := (⟨"java/lang/AbstractStringBuilder", "ensureCapacityInternal", "(I)V"⟩ : MethodName)) (z := (⟨"java/lang/AbstractStringBuilder", "ensureCapacityInternal", "(I)V"⟩ : MethodName)) hown (mvT hZ (hw _ (List.mem_of_getElem? (i := 73) rfl))) (mvT hZ (own_decl (hw _ (List.mem_of_getElem? (i := 74) rfl)) (hw _ (List.mem_of_getElem? (i := 77) rfl)))) (notFace_of_selects (args := #[]) (mvT hZ (hw _ (List.mem_of_getElem? (i := 76) rfl)))) (mvT hZ (hw _ (List.mem_of_getElem? (i := 76) rfl))) (mvT hZ (hw _ (List.mem_of_getElem? (i := 74) rfl))) (by decide) (backOf (W := 0) (own_rm_ec0 l Z a0 hw [] b d kd (dn + suf.length) P h0 n0 (Nat.le_trans Z0 K0.1) E_b G_v G_c V_d h16) hZ (hw _ (List.mem_of_getElem? (i := 77) rfl)) (hw _ (List.mem_of_getElem? (i := 47) rfl)) (by decide) (by decide)) q3a q3c (g := (mkF m 21 #[.val (.ref b), .val (.ref x), .val (.int (Int32.ofNat suf.length))] [(.int (Int32.ofNat (dn + suf.length))), (.ref b)])) rfl (by rw [hml]; rfl) (Steps.refl _) (argsL := [(.int (Int32.ofNat (dn + suf.length)))]) (rest := []) (lenOf own_pd5 rfl) rfl (by show 2 * 0 + _ ≤ _; exact Nat.le_of_eq rfl) (hb hby own_d_jdk_68_method_22_code_21) (fun _ _ => ⟨rfl, e2, (by decide : 0 + 0 ≤ _), (by decide : 0 + 0 ≤ _)⟩)
    dsimp only [Pt.U, Pt.locs, Pt.cells, Pt.slots] at X3 l3 y3 z3 st3 hQ3
    obtain rfl : k3 = 0 := y3
    obtain rfl : n3 = 0 := z3
    obtain ⟨rfl, N3q, e3⟩ := hQ3
    have N3 : Fr n0 L3 := by rw [l3]; exact Fr.app N1 N3q
    try clear l3
    refine own_tr st3 ?_
    show own_Gl p e below _ (T3.setTop (mkF m 24 #[.val (.ref b), .val (.ref x), .val (.int (Int32.ofNat suf.length))] []))
    try clear st3
    try clear N3q
    try clear N1
    try clear e2
    try clear X2
    try clear T2
    refine own_st (fun tg_ kg_ => XS.aloadN X3.here hx rfl (hb hby own_d_jdk_68_method_22_code_24) rfl rfl kg_) ?_
    show own_Gl p e below _ (T3.setTop (mkF m 25 #[.val (.ref b), .val (.ref x), .val (.int (Int32.ofNat suf.length))] [(.ref b)]))
    refine own_st (fun tg_ kg_ => XS.aloadN X3.here hx rfl (hb hby own_d_jdk_68_method_22_code_25) rfl rfl kg_) ?_
    show own_Gl p e below _ (T3.setTop (mkF m 26 #[.val (.ref b), .val (.ref x), .val (.int (Int32.ofNat suf.length))] [(.ref b), (.ref b)]))
    obtain ⟨T4, X4, e4, st4⟩ := getF X3 hx hZ hown (host := "") (Or.inl (hw _ (List.mem_of_getElem? (i := 67) rfl))) Via.refl e3 G_n (g := (mkF m 26 #[.val (.ref b), .val (.ref x), .val (.int (Int32.ofNat suf.length))] [(.ref b), (.ref b)])) rfl rfl (hb hby own_d_jdk_68_method_22_code_26)
    refine own_st st4 ?_
    try clear st4
    try clear e3
    try clear X3
    try clear T3
    show own_Gl p e below _ (T4.setTop (mkF m 29 #[.val (.ref b), .val (.ref x), .val (.int (Int32.ofNat suf.length))] [(.int (Int32.ofNat dn)), (.ref b)]))
    refine own_st (fun tg_ kg_ => XS.aloadN X4.here hx rfl (hb hby own_d_jdk_68_method_22_code_29) rfl rfl kg_) ?_
    show own_Gl p e below _ (T4.setTop (mkF m 30 #[.val (.ref b), .val (.ref x), .val (.int (Int32.ofNat suf.length))] [(.ref x), (.int (Int32.ofNat dn)), (.ref b)]))
    obtain ⟨cq5, kq5, q5a, q5b, q5c⟩ := isOf hZ e4 E_b
    obtain ⟨_, _, ⟨T5, L5, k5, n5⟩, -, X5, ⟨Lc5, hQ5, l5, y5, z5⟩, st5⟩ := X4.virtualBack hx (y := (⟨"java/lang/AbstractStringBuilder", "putStringAt", "(ILjava/lang/String;)V"⟩ : MethodName)) (z := (⟨"java/lang/AbstractStringBuilder", "putStringAt", "(ILjava/lang/String;)V"⟩ : MethodName)) hown (mvT hZ (hw _ (List.mem_of_getElem? (i := 115) rfl))) (mvT hZ (own_decl (hw _ (List.mem_of_getElem? (i := 116) rfl)) (hw _ (List.mem_of_getElem? (i := 119) rfl)))) (notFace_of_selects (args := #[]) (mvT hZ (hw _ (List.mem_of_getElem? (i := 118) rfl)))) (mvT hZ (hw _ (List.mem_of_getElem? (i := 118) rfl))) (mvT hZ (hw _ (List.mem_of_getElem? (i := 116) rfl))) (by decide) (backOf (W := 0) (own_rm_psa l Z a0 hw [] b d kd 16 dn P suf wv x u ku zc h0 n0 (Nat.le_trans Z0 K0.1) (own_sta_keep S_C K0 (nsS ns_b (nsS ns_d ns0))) hzc (E_x.keep K0) (F_c.keep K0 (ninS ne_x_b (ninS ne_x_d nin0))) (F_v.keep K0 (ninS ne_x_b (ninS ne_x_d nin0))) (V_u.keep K0 (ninS ne_u_b (ninS ne_u_d nin0))) E_b G_v G_c V_d hP (by decide) hdn (by omega) hwv g_d ne_x_d ne_u_d ne_b_d) hZ (hw _ (List.mem_of_getElem? (i := 119) rfl)) (hw _ (List.mem_of_getElem? (i := 47) rfl)) (by decide) (by decide)) q5a q5c (g := (mkF m 30 #[.val (.ref b), .val (.ref x), .val (.int (Int32.ofNat suf.length))] [(.ref x), (.int (Int32.ofNat dn)), (.ref b)])) rfl (by rw [hml]; rfl) (Steps.refl _) (argsL := [(.int (Int32.ofNat dn)), (.ref x)]) (rest := []) (lenOf own_pd12 rfl) rfl (by show 2 * 0 + _ ≤ _; exact Nat.le_of_eq rfl) (hb hby own_d_jdk_68_method_22_code_30) (fun _ _ => ⟨rfl, e4, (by decide : 0 + 0 ≤ _), (by decide : 0 + 0 ≤ _)⟩)
    dsimp only [Pt.U, Pt.locs, Pt.cells, Pt.slots] at X5 l5 y5 z5 st5 hQ5
    obtain rfl : k5 = 0 := y5
    obtain rfl : n5 = 0 := z5
    obtain ⟨rfl, N5q, Kc5, Pq, hPq, hTq, V_q⟩ := hQ5
    have N5 : Fr n0 L5 := by rw [l5]; exact Fr.app N3 N5q
    try clear l5
    refine own_tr st5 ?_
    replace E_b := E_b.keep Kc5
    replace G_v := G_v.keep Kc5 (ninS ne_b_d nin0)
    replace G_c := G_c.keep Kc5 (ninS ne_b_d nin0)
    replace G_n := G_n.keep Kc5 (ninS ne_b_d nin0)
    replace E_d := E_d.keep Kc5
    have K6 : Keep h0 T5.heap [b, d] := K0.trans Kc5 (allS (Or.inl (List.mem_of_getElem? (i := 1) rfl)) all0)
    try clear Kc5
    show own_Gl p e below _ (T5.setTop (mkF m 33 #[.val (.ref b), .val (.ref x), .val (.int (Int32.ofNat suf.length))] []))
    try clear st5
    try clear N5q
    try clear N3
    try clear e4
    try clear X4
    try clear T4
    refine own_st (fun tg_ kg_ => XS.aloadN X5.here hx rfl (hb hby own_d_jdk_68_method_22_code_33) rfl rfl kg_) ?_
    show own_Gl p e below _ (T5.setTop (mkF m 34 #[.val (.ref b), .val (.ref x), .val (.int (Int32.ofNat suf.length))] [(.ref b)]))
    refine own_st (fun tg_ kg_ => XS.dup X5.here hx rfl (hb hby own_d_jdk_68_method_22_code_34) rfl rfl kg_) ?_
    show own_Gl p e below _ (T5.setTop (mkF m 35 #[.val (.ref b), .val (.ref x), .val (.int (Int32.ofNat suf.length))] [(.ref b), (.ref b)]))
    obtain ⟨T7, X7, e7, st7⟩ := getF X5 hx hZ hown (host := "") (Or.inl (hw _ (List.mem_of_getElem? (i := 67) rfl))) Via.refl rfl G_n (g := (mkF m 35 #[.val (.ref b), .val (.ref x), .val (.int (Int32.ofNat suf.length))] [(.ref b), (.ref b)])) rfl rfl (hb hby own_d_jdk_68_method_22_code_35)
    refine own_st st7 ?_
    try clear st7
    try clear X5
    show own_Gl p e below _ (T7.setTop (mkF m 38 #[.val (.ref b), .val (.ref x), .val (.int (Int32.ofNat suf.length))] [(.int (Int32.ofNat dn)), (.ref b)]))
    refine own_st (fun tg_ kg_ => XS.iloadN X7.here hx rfl (hb hby own_d_jdk_68_method_22_code_38) rfl kg_) ?_
    show own_Gl p e below _ (T7.setTop (mkF m 39 #[.val (.ref b), .val (.ref x), .val (.int (Int32.ofNat suf.length))] [(.int (Int32.ofNat suf.length)), (.int (Int32.ofNat dn)), (.ref b)]))
    refine own_st (fun tg_ kg_ => XS.iadd X7.here hx rfl (hb hby own_d_jdk_68_method_22_code_39) rfl kg_) ?_
    show own_Gl p e below _ (T7.setTop (mkF m 40 #[.val (.ref b), .val (.ref x), .val (.int (Int32.ofNat suf.length))] [(.int ((Int32.ofNat dn) + (Int32.ofNat suf.length))), (.ref b)]))
    rw [own_ofn_add dn suf.length]
    show own_Gl p e below _ (T7.setTop (mkF m 40 #[.val (.ref b), .val (.ref x), .val (.int (Int32.ofNat suf.length))] [(.int (Int32.ofNat (dn + suf.length))), (.ref b)]))
    obtain ⟨T8, h8, X8, e8, W8, st8⟩ := putF X7 hx hZ hown (host := "") (Or.inl (hw _ (List.mem_of_getElem? (i := 67) rfl))) Via.refl e7 G_n E_b (Or.inl (hw _ (List.mem_of_getElem? (i := 68) rfl))) (hw _ (List.mem_of_getElem? (i := 38) rfl)) (ty := .int) (by decide) rfl rfl (g := (mkF m 40 #[.val (.ref b), .val (.ref x), .val (.int (Int32.ofNat suf.length))] [(.int (Int32.ofNat (dn + suf.length))), (.ref b)])) rfl rfl (hb hby own_d_jdk_68_method_22_code_40)
    have N8 := Fr.snoc X8 N5 g_b
    try clear N5
    replace E_b := E_b.wr W8
    replace G_v := G_v.other W8 (Or.inr (slot_ne (Or.inl (hw _ (List.mem_of_getElem? (i := 54) rfl))) (Or.inl (hw _ (List.mem_of_getElem? (i := 68) rfl))) (by decide) (t := (.array .byte)) (t' := .int) (by decide) (by decide)))
    replace G_c := G_c.other W8 (Or.inr (slot_ne (Or.inl (hw _ (List.mem_of_getElem? (i := 56) rfl))) (Or.inl (hw _ (List.mem_of_getElem? (i := 68) rfl))) (by decide) (t := .byte) (t' := .int) (by decide) (by decide)))
    replace G_n := G_n.same W8
    replace E_d := E_d.wr W8
    replace V_q := V_q.other W8 ne_b_d.symm
    have K9 : Keep h0 h8 [b, d] := K6.wr W8 (Or.inl (List.mem_of_getElem? (i := 0) rfl))
    try clear K6
    refine own_st st8 ?_
    try clear st8
    try clear e7
    try clear X7
    try clear T7
    show own_Gl p e below _ (T8.setTop (mkF m 43 #[.val (.ref b), .val (.ref x), .val (.int (Int32.ofNat suf.length))] []))
    refine own_st (fun tg_ kg_ => XS.aloadN X8.here hx rfl (hb hby own_d_jdk_68_method_22_code_43) rfl rfl kg_) ?_
    show own_Gl p e below _ (T8.setTop (mkF m 44 #[.val (.ref b), .val (.ref x), .val (.int (Int32.ofNat suf.length))] [(.ref b)]))
    exact own_retA X8 hx Bd.notSynchronized Bd.returns rfl rfl (hb hby own_d_jdk_68_method_22_code_44) (by decide) (by decide) e8 (⟨rfl, N8, K9, d, kd, 16, Pq, by decide, by omega, hTq, V_q, E_d, G_v, G_c, G_n⟩)
  ·
    have h1718 : dn + suf.length = 17 ∨ dn + suf.length = 18 := by omega
    rcases h1718 with hm | hm
    ·
      rw [hm]
      show own_Gl p e below _ (T2.setTop (mkF m 21 #[.val (.ref b), .val (.ref x), .val (.int (Int32.ofNat suf.length))] [(.int (17 : Int32)), (.ref b)]))
      obtain ⟨cq10, kq10, q10a, q10b, q10c⟩ := isOf hZ e2 E_b
      obtain ⟨_, _, ⟨T10, L10, k10, n10⟩, -, X10, ⟨Lc10, hQ10, l10, y10, z10⟩, st10⟩ := X2.virtualBack hx (y := (⟨"java/lang/AbstractStringBuilder", "ensureCapacityInternal", "(I)V"⟩ : MethodName)) (z := (⟨"java/lang/AbstractStringBuilder", "ensureCapacityInternal", "(I)V"⟩ : MethodName)) hown (mvT hZ (hw _ (List.mem_of_getElem? (i := 73) rfl))) (mvT hZ (own_decl (hw _ (List.mem_of_getElem? (i := 74) rfl)) (hw _ (List.mem_of_getElem? (i := 77) rfl)))) (notFace_of_selects (args := #[]) (mvT hZ (hw _ (List.mem_of_getElem? (i := 76) rfl)))) (mvT hZ (hw _ (List.mem_of_getElem? (i := 76) rfl))) (mvT hZ (hw _ (List.mem_of_getElem? (i := 74) rfl))) (by decide) (backOf (W := 0) (own_rm_ec17 l Z a0 hw [] b d kd P (Int32.ofNat dn) h0 n0 (Nat.le_trans Z0 K0.1) E_b G_v G_c G_n V_d hP ne_b_d.symm g_b) hZ (hw _ (List.mem_of_getElem? (i := 77) rfl)) (hw _ (List.mem_of_getElem? (i := 47) rfl)) (by decide) (by decide)) q10a q10c (g := (mkF m 21 #[.val (.ref b), .val (.ref x), .val (.int (Int32.ofNat suf.length))] [(.int (17 : Int32)), (.ref b)])) rfl (by rw [hml]; rfl) (Steps.refl _) (argsL := [(.int (17 : Int32))]) (rest := []) (lenOf own_pd5 rfl) rfl (by show 2 * 0 + _ ≤ _; exact Nat.le_of_eq rfl) (hb hby own_d_jdk_68_method_22_code_21) (fun _ _ => ⟨rfl, e2, (by decide : 0 + 1 ≤ _), (by decide : 0 + 34 ≤ _)⟩)
      dsimp only [Pt.U, Pt.locs, Pt.cells, Pt.slots] at X10 l10 y10 z10 st10 hQ10
      obtain rfl : k10 = 1 := y10
      obtain rfl : n10 = 34 := z10
      obtain ⟨rfl, N10q, Kc10, w, kw, G_v, G_c, G_n, szc10, V_w, E_w⟩ := hQ10
      have N10 : Fr n0 L10 := by rw [l10]; exact Fr.app N1 N10q
      try clear l10
      refine own_tr st10 ?_
      have ne_x_w : x ≠ w := Nat.ne_of_lt (Nat.lt_of_lt_of_le (E_x.keep K0).lt szc10)
      have ne_u_w : u ≠ w := Nat.ne_of_lt (Nat.lt_of_lt_of_le (V_u.keep K0 (ninS ne_u_b (ninS ne_u_d nin0))).lt szc10)
      have ne_b_w : b ≠ w := Nat.ne_of_lt (Nat.lt_of_lt_of_le E_b.lt szc10)
      have ne_d_w : d ≠ w := Nat.ne_of_lt (Nat.lt_of_lt_of_le V_d.lt szc10)
      have sz_w : h0.size ≤ w := Nat.le_trans K0.1 szc10
      have g_w : n0 ≤ w := Nat.le_trans Z0 sz_w
      have sz_w : h0.size ≤ w := Nat.le_trans K0.1 szc10
      have g_w : n0 ≤ w := Nat.le_trans Z0 sz_w
      replace E_b := E_b.keep Kc10
      replace V_d := V_d.keep Kc10 (ninS ne_b_d.symm nin0)
      replace E_d := E_d.keep Kc10
      have K11 : Keep h0 T10.heap [b, d] := K0.trans Kc10 (allS (Or.inl (List.mem_of_getElem? (i := 0) rfl)) all0)
      try clear Kc10
      show own_Gl p e below _ (T10.setTop (mkF m 24 #[.val (.ref b), .val (.ref x), .val (.int (Int32.ofNat suf.length))] []))
      try clear st10
      try clear N10q
      try clear N1
      try clear e2
      try clear X2
      try clear T2
      refine own_st (fun tg_ kg_ => XS.aloadN X10.here hx rfl (hb hby own_d_jdk_68_method_22_code_24) rfl rfl kg_) ?_
      show own_Gl p e below _ (T10.setTop (mkF m 25 #[.val (.ref b), .val (.ref x), .val (.int (Int32.ofNat suf.length))] [(.ref b)]))
      refine own_st (fun tg_ kg_ => XS.aloadN X10.here hx rfl (hb hby own_d_jdk_68_method_22_code_25) rfl rfl kg_) ?_
      show own_Gl p e below _ (T10.setTop (mkF m 26 #[.val (.ref b), .val (.ref x), .val (.int (Int32.ofNat suf.length))] [(.ref b), (.ref b)]))
      obtain ⟨T12, X12, e12, st12⟩ := getF X10 hx hZ hown (host := "") (Or.inl (hw _ (List.mem_of_getElem? (i := 67) rfl))) Via.refl rfl G_n (g := (mkF m 26 #[.val (.ref b), .val (.ref x), .val (.int (Int32.ofNat suf.length))] [(.ref b), (.ref b)])) rfl rfl (hb hby own_d_jdk_68_method_22_code_26)
      refine own_st st12 ?_
      try clear st12
      try clear X10
      show own_Gl p e below _ (T12.setTop (mkF m 29 #[.val (.ref b), .val (.ref x), .val (.int (Int32.ofNat suf.length))] [(.int (Int32.ofNat dn)), (.ref b)]))
      refine own_st (fun tg_ kg_ => XS.aloadN X12.here hx rfl (hb hby own_d_jdk_68_method_22_code_29) rfl rfl kg_) ?_
      show own_Gl p e below _ (T12.setTop (mkF m 30 #[.val (.ref b), .val (.ref x), .val (.int (Int32.ofNat suf.length))] [(.ref x), (.int (Int32.ofNat dn)), (.ref b)]))
      obtain ⟨cq13, kq13, q13a, q13b, q13c⟩ := isOf hZ e12 E_b
      obtain ⟨_, _, ⟨T13, L13, k13, n13⟩, -, X13, ⟨Lc13, hQ13, l13, y13, z13⟩, st13⟩ := X12.virtualBack hx (y := (⟨"java/lang/AbstractStringBuilder", "putStringAt", "(ILjava/lang/String;)V"⟩ : MethodName)) (z := (⟨"java/lang/AbstractStringBuilder", "putStringAt", "(ILjava/lang/String;)V"⟩ : MethodName)) hown (mvT hZ (hw _ (List.mem_of_getElem? (i := 115) rfl))) (mvT hZ (own_decl (hw _ (List.mem_of_getElem? (i := 116) rfl)) (hw _ (List.mem_of_getElem? (i := 119) rfl)))) (notFace_of_selects (args := #[]) (mvT hZ (hw _ (List.mem_of_getElem? (i := 118) rfl)))) (mvT hZ (hw _ (List.mem_of_getElem? (i := 118) rfl))) (mvT hZ (hw _ (List.mem_of_getElem? (i := 116) rfl))) (by decide) (backOf (W := 0) (own_rm_psa l Z a0 hw [] b w kw 34 dn (P ++ List.replicate 18 (.int 0)) suf wv x u ku zc T10.heap n0 (Nat.le_trans Z0 K11.1) (own_sta_keep S_C K11 (nsS ns_b (nsS ns_d ns0))) hzc (E_x.keep K11) (F_c.keep K11 (ninS ne_x_b (ninS ne_x_d nin0))) (F_v.keep K11 (ninS ne_x_b (ninS ne_x_d nin0))) (V_u.keep K11 (ninS ne_u_b (ninS ne_u_d nin0))) E_b G_v G_c V_w (by simp [hP]) (by decide) hdn (by omega) (by rw [own_grow_at hP (by omega)]; exact hwv) g_w ne_x_w ne_u_w ne_b_w) hZ (hw _ (List.mem_of_getElem? (i := 119) rfl)) (hw _ (List.mem_of_getElem? (i := 47) rfl)) (by decide) (by decide)) q13a q13c (g := (mkF m 30 #[.val (.ref b), .val (.ref x), .val (.int (Int32.ofNat suf.length))] [(.ref x), (.int (Int32.ofNat dn)), (.ref b)])) rfl (by rw [hml]; rfl) (Steps.refl _) (argsL := [(.int (Int32.ofNat dn)), (.ref x)]) (rest := []) (lenOf own_pd12 rfl) rfl (by show 2 * 0 + _ ≤ _; exact Nat.le_of_eq rfl) (hb hby own_d_jdk_68_method_22_code_30) (fun _ _ => ⟨rfl, e12, (by decide : 1 + 0 ≤ _), (by decide : 34 + 0 ≤ _)⟩)
      dsimp only [Pt.U, Pt.locs, Pt.cells, Pt.slots] at X13 l13 y13 z13 st13 hQ13
      obtain rfl : k13 = 1 := y13
      obtain rfl : n13 = 34 := z13
      obtain ⟨rfl, N13q, Kc13, Pq, hPq, hTq, V_q⟩ := hQ13
      have N13 : Fr n0 L13 := by rw [l13]; exact Fr.app N10 N13q
      try clear l13
      refine own_tr st13 ?_
      replace E_b := E_b.keep Kc13
      replace V_d := V_d.keep Kc13 (ninS ne_d_w nin0)
      replace E_d := E_d.keep Kc13
      replace G_v := G_v.keep Kc13 (ninS ne_b_w nin0)
      replace G_c := G_c.keep Kc13 (ninS ne_b_w nin0)
      replace G_n := G_n.keep Kc13 (ninS ne_b_w nin0)
      replace E_w := E_w.keep Kc13
      have K14 : Keep h0 T13.heap [b, d] := K11.trans Kc13 (allS (Or.inr sz_w) all0)
      try clear Kc13
      try clear K11
      show own_Gl p e below _ (T13.setTop (mkF m 33 #[.val (.ref b), .val (.ref x), .val (.int (Int32.ofNat suf.length))] []))
      try clear st13
      try clear N13q
      try clear N10
      try clear e12
      try clear X12
      try clear T12
      refine own_st (fun tg_ kg_ => XS.aloadN X13.here hx rfl (hb hby own_d_jdk_68_method_22_code_33) rfl rfl kg_) ?_
      show own_Gl p e below _ (T13.setTop (mkF m 34 #[.val (.ref b), .val (.ref x), .val (.int (Int32.ofNat suf.length))] [(.ref b)]))
      refine own_st (fun tg_ kg_ => XS.dup X13.here hx rfl (hb hby own_d_jdk_68_method_22_code_34) rfl rfl kg_) ?_
      show own_Gl p e below _ (T13.setTop (mkF m 35 #[.val (.ref b), .val (.ref x), .val (.int (Int32.ofNat suf.length))] [(.ref b), (.ref b)]))
      obtain ⟨T15, X15, e15, st15⟩ := getF X13 hx hZ hown (host := "") (Or.inl (hw _ (List.mem_of_getElem? (i := 67) rfl))) Via.refl rfl G_n (g := (mkF m 35 #[.val (.ref b), .val (.ref x), .val (.int (Int32.ofNat suf.length))] [(.ref b), (.ref b)])) rfl rfl (hb hby own_d_jdk_68_method_22_code_35)
      refine own_st st15 ?_
      try clear st15
      try clear X13
      show own_Gl p e below _ (T15.setTop (mkF m 38 #[.val (.ref b), .val (.ref x), .val (.int (Int32.ofNat suf.length))] [(.int (Int32.ofNat dn)), (.ref b)]))
      refine own_st (fun tg_ kg_ => XS.iloadN X15.here hx rfl (hb hby own_d_jdk_68_method_22_code_38) rfl kg_) ?_
      show own_Gl p e below _ (T15.setTop (mkF m 39 #[.val (.ref b), .val (.ref x), .val (.int (Int32.ofNat suf.length))] [(.int (Int32.ofNat suf.length)), (.int (Int32.ofNat dn)), (.ref b)]))
      refine own_st (fun tg_ kg_ => XS.iadd X15.here hx rfl (hb hby own_d_jdk_68_method_22_code_39) rfl kg_) ?_
      show own_Gl p e below _ (T15.setTop (mkF m 40 #[.val (.ref b), .val (.ref x), .val (.int (Int32.ofNat suf.length))] [(.int ((Int32.ofNat dn) + (Int32.ofNat suf.length))), (.ref b)]))
      rw [own_ofn_add dn suf.length]
      show own_Gl p e below _ (T15.setTop (mkF m 40 #[.val (.ref b), .val (.ref x), .val (.int (Int32.ofNat suf.length))] [(.int (Int32.ofNat (dn + suf.length))), (.ref b)]))
      obtain ⟨T16, h16, X16, e16, W16, st16⟩ := putF X15 hx hZ hown (host := "") (Or.inl (hw _ (List.mem_of_getElem? (i := 67) rfl))) Via.refl e15 G_n E_b (Or.inl (hw _ (List.mem_of_getElem? (i := 68) rfl))) (hw _ (List.mem_of_getElem? (i := 38) rfl)) (ty := .int) (by decide) rfl rfl (g := (mkF m 40 #[.val (.ref b), .val (.ref x), .val (.int (Int32.ofNat suf.length))] [(.int (Int32.ofNat (dn + suf.length))), (.ref b)])) rfl rfl (hb hby own_d_jdk_68_method_22_code_40)
      have N16 := Fr.snoc X16 N13 g_b
      try clear N13
      replace E_b := E_b.wr W16
      replace V_d := V_d.other W16 ne_b_d.symm
      replace E_d := E_d.wr W16
      replace G_v := G_v.other W16 (Or.inr (slot_ne (Or.inl (hw _ (List.mem_of_getElem? (i := 54) rfl))) (Or.inl (hw _ (List.mem_of_getElem? (i := 68) rfl))) (by decide) (t := (.array .byte)) (t' := .int) (by decide) (by decide)))
      replace G_c := G_c.other W16 (Or.inr (slot_ne (Or.inl (hw _ (List.mem_of_getElem? (i := 56) rfl))) (Or.inl (hw _ (List.mem_of_getElem? (i := 68) rfl))) (by decide) (t := .byte) (t' := .int) (by decide) (by decide)))
      replace G_n := G_n.same W16
      replace E_w := E_w.wr W16
      replace V_q := V_q.other W16 ne_b_w.symm
      have K17 : Keep h0 h16 [b, d] := K14.wr W16 (Or.inl (List.mem_of_getElem? (i := 0) rfl))
      try clear K14
      refine own_st st16 ?_
      try clear st16
      try clear e15
      try clear X15
      try clear T15
      show own_Gl p e below _ (T16.setTop (mkF m 43 #[.val (.ref b), .val (.ref x), .val (.int (Int32.ofNat suf.length))] []))
      refine own_st (fun tg_ kg_ => XS.aloadN X16.here hx rfl (hb hby own_d_jdk_68_method_22_code_43) rfl rfl kg_) ?_
      show own_Gl p e below _ (T16.setTop (mkF m 44 #[.val (.ref b), .val (.ref x), .val (.int (Int32.ofNat suf.length))] [(.ref b)]))
      exact own_retA X16 hx Bd.notSynchronized Bd.returns rfl rfl (hb hby own_d_jdk_68_method_22_code_44) (by decide) (by decide) e16 (⟨rfl, N16, K17, w, kw, 34, Pq, by decide, by omega, hTq, V_q, E_w, G_v, G_c, G_n⟩)
    ·
      rw [hm]
      show own_Gl p e below _ (T2.setTop (mkF m 21 #[.val (.ref b), .val (.ref x), .val (.int (Int32.ofNat suf.length))] [(.int (18 : Int32)), (.ref b)]))
      obtain ⟨cq18, kq18, q18a, q18b, q18c⟩ := isOf hZ e2 E_b
      obtain ⟨_, _, ⟨T18, L18, k18, n18⟩, -, X18, ⟨Lc18, hQ18, l18, y18, z18⟩, st18⟩ := X2.virtualBack hx (y := (⟨"java/lang/AbstractStringBuilder", "ensureCapacityInternal", "(I)V"⟩ : MethodName)) (z := (⟨"java/lang/AbstractStringBuilder", "ensureCapacityInternal", "(I)V"⟩ : MethodName)) hown (mvT hZ (hw _ (List.mem_of_getElem? (i := 73) rfl))) (mvT hZ (own_decl (hw _ (List.mem_of_getElem? (i := 74) rfl)) (hw _ (List.mem_of_getElem? (i := 77) rfl)))) (notFace_of_selects (args := #[]) (mvT hZ (hw _ (List.mem_of_getElem? (i := 76) rfl)))) (mvT hZ (hw _ (List.mem_of_getElem? (i := 76) rfl))) (mvT hZ (hw _ (List.mem_of_getElem? (i := 74) rfl))) (by decide) (backOf (W := 0) (own_rm_ec18 l Z a0 hw [] b d kd P (Int32.ofNat dn) h0 n0 (Nat.le_trans Z0 K0.1) E_b G_v G_c G_n V_d hP ne_b_d.symm g_b) hZ (hw _ (List.mem_of_getElem? (i := 77) rfl)) (hw _ (List.mem_of_getElem? (i := 47) rfl)) (by decide) (by decide)) q18a q18c (g := (mkF m 21 #[.val (.ref b), .val (.ref x), .val (.int (Int32.ofNat suf.length))] [(.int (18 : Int32)), (.ref b)])) rfl (by rw [hml]; rfl) (Steps.refl _) (argsL := [(.int (18 : Int32))]) (rest := []) (lenOf own_pd5 rfl) rfl (by show 2 * 0 + _ ≤ _; exact Nat.le_of_eq rfl) (hb hby own_d_jdk_68_method_22_code_21) (fun _ _ => ⟨rfl, e2, (by decide : 0 + 1 ≤ _), (by decide : 0 + 34 ≤ _)⟩)
      dsimp only [Pt.U, Pt.locs, Pt.cells, Pt.slots] at X18 l18 y18 z18 st18 hQ18
      obtain rfl : k18 = 1 := y18
      obtain rfl : n18 = 34 := z18
      obtain ⟨rfl, N18q, Kc18, w, kw, G_v, G_c, G_n, szc18, V_w, E_w⟩ := hQ18
      have N18 : Fr n0 L18 := by rw [l18]; exact Fr.app N1 N18q
      try clear l18
      refine own_tr st18 ?_
      have ne_x_w : x ≠ w := Nat.ne_of_lt (Nat.lt_of_lt_of_le (E_x.keep K0).lt szc18)
      have ne_u_w : u ≠ w := Nat.ne_of_lt (Nat.lt_of_lt_of_le (V_u.keep K0 (ninS ne_u_b (ninS ne_u_d nin0))).lt szc18)
      have ne_b_w : b ≠ w := Nat.ne_of_lt (Nat.lt_of_lt_of_le E_b.lt szc18)
      have ne_d_w : d ≠ w := Nat.ne_of_lt (Nat.lt_of_lt_of_le V_d.lt szc18)
      have sz_w : h0.size ≤ w := Nat.le_trans K0.1 szc18
      have g_w : n0 ≤ w := Nat.le_trans Z0 sz_w
      have sz_w : h0.size ≤ w := Nat.le_trans K0.1 szc18
      have g_w : n0 ≤ w := Nat.le_trans Z0 sz_w
      replace E_b := E_b.keep Kc18
      replace V_d := V_d.keep Kc18 (ninS ne_b_d.symm nin0)
      replace E_d := E_d.keep Kc18
      have K19 : Keep h0 T18.heap [b, d] := K0.trans Kc18 (allS (Or.inl (List.mem_of_getElem? (i := 0) rfl)) all0)
      try clear Kc18
      show own_Gl p e below _ (T18.setTop (mkF m 24 #[.val (.ref b), .val (.ref x), .val (.int (Int32.ofNat suf.length))] []))
      try clear st18
      try clear N18q
      try clear N1
      try clear e2
      try clear X2
      try clear T2
      refine own_st (fun tg_ kg_ => XS.aloadN X18.here hx rfl (hb hby own_d_jdk_68_method_22_code_24) rfl rfl kg_) ?_
      show own_Gl p e below _ (T18.setTop (mkF m 25 #[.val (.ref b), .val (.ref x), .val (.int (Int32.ofNat suf.length))] [(.ref b)]))
      refine own_st (fun tg_ kg_ => XS.aloadN X18.here hx rfl (hb hby own_d_jdk_68_method_22_code_25) rfl rfl kg_) ?_
      show own_Gl p e below _ (T18.setTop (mkF m 26 #[.val (.ref b), .val (.ref x), .val (.int (Int32.ofNat suf.length))] [(.ref b), (.ref b)]))
      obtain ⟨T20, X20, e20, st20⟩ := getF X18 hx hZ hown (host := "") (Or.inl (hw _ (List.mem_of_getElem? (i := 67) rfl))) Via.refl rfl G_n (g := (mkF m 26 #[.val (.ref b), .val (.ref x), .val (.int (Int32.ofNat suf.length))] [(.ref b), (.ref b)])) rfl rfl (hb hby own_d_jdk_68_method_22_code_26)
      refine own_st st20 ?_
      try clear st20
      try clear X18
      show own_Gl p e below _ (T20.setTop (mkF m 29 #[.val (.ref b), .val (.ref x), .val (.int (Int32.ofNat suf.length))] [(.int (Int32.ofNat dn)), (.ref b)]))
      refine own_st (fun tg_ kg_ => XS.aloadN X20.here hx rfl (hb hby own_d_jdk_68_method_22_code_29) rfl rfl kg_) ?_
      show own_Gl p e below _ (T20.setTop (mkF m 30 #[.val (.ref b), .val (.ref x), .val (.int (Int32.ofNat suf.length))] [(.ref x), (.int (Int32.ofNat dn)), (.ref b)]))
      obtain ⟨cq21, kq21, q21a, q21b, q21c⟩ := isOf hZ e20 E_b
      obtain ⟨_, _, ⟨T21, L21, k21, n21⟩, -, X21, ⟨Lc21, hQ21, l21, y21, z21⟩, st21⟩ := X20.virtualBack hx (y := (⟨"java/lang/AbstractStringBuilder", "putStringAt", "(ILjava/lang/String;)V"⟩ : MethodName)) (z := (⟨"java/lang/AbstractStringBuilder", "putStringAt", "(ILjava/lang/String;)V"⟩ : MethodName)) hown (mvT hZ (hw _ (List.mem_of_getElem? (i := 115) rfl))) (mvT hZ (own_decl (hw _ (List.mem_of_getElem? (i := 116) rfl)) (hw _ (List.mem_of_getElem? (i := 119) rfl)))) (notFace_of_selects (args := #[]) (mvT hZ (hw _ (List.mem_of_getElem? (i := 118) rfl)))) (mvT hZ (hw _ (List.mem_of_getElem? (i := 118) rfl))) (mvT hZ (hw _ (List.mem_of_getElem? (i := 116) rfl))) (by decide) (backOf (W := 0) (own_rm_psa l Z a0 hw [] b w kw 34 dn (P ++ List.replicate 18 (.int 0)) suf wv x u ku zc T18.heap n0 (Nat.le_trans Z0 K19.1) (own_sta_keep S_C K19 (nsS ns_b (nsS ns_d ns0))) hzc (E_x.keep K19) (F_c.keep K19 (ninS ne_x_b (ninS ne_x_d nin0))) (F_v.keep K19 (ninS ne_x_b (ninS ne_x_d nin0))) (V_u.keep K19 (ninS ne_u_b (ninS ne_u_d nin0))) E_b G_v G_c V_w (by simp [hP]) (by decide) hdn (by omega) (by rw [own_grow_at hP (by omega)]; exact hwv) g_w ne_x_w ne_u_w ne_b_w) hZ (hw _ (List.mem_of_getElem? (i := 119) rfl)) (hw _ (List.mem_of_getElem? (i := 47) rfl)) (by decide) (by decide)) q21a q21c (g := (mkF m 30 #[.val (.ref b), .val (.ref x), .val (.int (Int32.ofNat suf.length))] [(.ref x), (.int (Int32.ofNat dn)), (.ref b)])) rfl (by rw [hml]; rfl) (Steps.refl _) (argsL := [(.int (Int32.ofNat dn)), (.ref x)]) (rest := []) (lenOf own_pd12 rfl) rfl (by show 2 * 0 + _ ≤ _; exact Nat.le_of_eq rfl) (hb hby own_d_jdk_68_method_22_code_30) (fun _ _ => ⟨rfl, e20, (by decide : 1 + 0 ≤ _), (by decide : 34 + 0 ≤ _)⟩)
      dsimp only [Pt.U, Pt.locs, Pt.cells, Pt.slots] at X21 l21 y21 z21 st21 hQ21
      obtain rfl : k21 = 1 := y21
      obtain rfl : n21 = 34 := z21
      obtain ⟨rfl, N21q, Kc21, Pq, hPq, hTq, V_q⟩ := hQ21
      have N21 : Fr n0 L21 := by rw [l21]; exact Fr.app N18 N21q
      try clear l21
      refine own_tr st21 ?_
      replace E_b := E_b.keep Kc21
      replace V_d := V_d.keep Kc21 (ninS ne_d_w nin0)
      replace E_d := E_d.keep Kc21
      replace G_v := G_v.keep Kc21 (ninS ne_b_w nin0)
      replace G_c := G_c.keep Kc21 (ninS ne_b_w nin0)
      replace G_n := G_n.keep Kc21 (ninS ne_b_w nin0)
      replace E_w := E_w.keep Kc21
      have K22 : Keep h0 T21.heap [b, d] := K19.trans Kc21 (allS (Or.inr sz_w) all0)
      try clear Kc21
      try clear K19
      show own_Gl p e below _ (T21.setTop (mkF m 33 #[.val (.ref b), .val (.ref x), .val (.int (Int32.ofNat suf.length))] []))
      try clear st21
      try clear N21q
      try clear N18
      try clear e20
      try clear X20
      try clear T20
      refine own_st (fun tg_ kg_ => XS.aloadN X21.here hx rfl (hb hby own_d_jdk_68_method_22_code_33) rfl rfl kg_) ?_
      show own_Gl p e below _ (T21.setTop (mkF m 34 #[.val (.ref b), .val (.ref x), .val (.int (Int32.ofNat suf.length))] [(.ref b)]))
      refine own_st (fun tg_ kg_ => XS.dup X21.here hx rfl (hb hby own_d_jdk_68_method_22_code_34) rfl rfl kg_) ?_
      show own_Gl p e below _ (T21.setTop (mkF m 35 #[.val (.ref b), .val (.ref x), .val (.int (Int32.ofNat suf.length))] [(.ref b), (.ref b)]))
      obtain ⟨T23, X23, e23, st23⟩ := getF X21 hx hZ hown (host := "") (Or.inl (hw _ (List.mem_of_getElem? (i := 67) rfl))) Via.refl rfl G_n (g := (mkF m 35 #[.val (.ref b), .val (.ref x), .val (.int (Int32.ofNat suf.length))] [(.ref b), (.ref b)])) rfl rfl (hb hby own_d_jdk_68_method_22_code_35)
      refine own_st st23 ?_
      try clear st23
      try clear X21
      show own_Gl p e below _ (T23.setTop (mkF m 38 #[.val (.ref b), .val (.ref x), .val (.int (Int32.ofNat suf.length))] [(.int (Int32.ofNat dn)), (.ref b)]))
      refine own_st (fun tg_ kg_ => XS.iloadN X23.here hx rfl (hb hby own_d_jdk_68_method_22_code_38) rfl kg_) ?_
      show own_Gl p e below _ (T23.setTop (mkF m 39 #[.val (.ref b), .val (.ref x), .val (.int (Int32.ofNat suf.length))] [(.int (Int32.ofNat suf.length)), (.int (Int32.ofNat dn)), (.ref b)]))
      refine own_st (fun tg_ kg_ => XS.iadd X23.here hx rfl (hb hby own_d_jdk_68_method_22_code_39) rfl kg_) ?_
      show own_Gl p e below _ (T23.setTop (mkF m 40 #[.val (.ref b), .val (.ref x), .val (.int (Int32.ofNat suf.length))] [(.int ((Int32.ofNat dn) + (Int32.ofNat suf.length))), (.ref b)]))
      rw [own_ofn_add dn suf.length]
      show own_Gl p e below _ (T23.setTop (mkF m 40 #[.val (.ref b), .val (.ref x), .val (.int (Int32.ofNat suf.length))] [(.int (Int32.ofNat (dn + suf.length))), (.ref b)]))
      obtain ⟨T24, h24, X24, e24, W24, st24⟩ := putF X23 hx hZ hown (host := "") (Or.inl (hw _ (List.mem_of_getElem? (i := 67) rfl))) Via.refl e23 G_n E_b (Or.inl (hw _ (List.mem_of_getElem? (i := 68) rfl))) (hw _ (List.mem_of_getElem? (i := 38) rfl)) (ty := .int) (by decide) rfl rfl (g := (mkF m 40 #[.val (.ref b), .val (.ref x), .val (.int (Int32.ofNat suf.length))] [(.int (Int32.ofNat (dn + suf.length))), (.ref b)])) rfl rfl (hb hby own_d_jdk_68_method_22_code_40)
      have N24 := Fr.snoc X24 N21 g_b
      try clear N21
      replace E_b := E_b.wr W24
      replace V_d := V_d.other W24 ne_b_d.symm
      replace E_d := E_d.wr W24
      replace G_v := G_v.other W24 (Or.inr (slot_ne (Or.inl (hw _ (List.mem_of_getElem? (i := 54) rfl))) (Or.inl (hw _ (List.mem_of_getElem? (i := 68) rfl))) (by decide) (t := (.array .byte)) (t' := .int) (by decide) (by decide)))
      replace G_c := G_c.other W24 (Or.inr (slot_ne (Or.inl (hw _ (List.mem_of_getElem? (i := 56) rfl))) (Or.inl (hw _ (List.mem_of_getElem? (i := 68) rfl))) (by decide) (t := .byte) (t' := .int) (by decide) (by decide)))
      replace G_n := G_n.same W24
      replace E_w := E_w.wr W24
      replace V_q := V_q.other W24 ne_b_w.symm
      have K25 : Keep h0 h24 [b, d] := K22.wr W24 (Or.inl (List.mem_of_getElem? (i := 0) rfl))
      try clear K22
      refine own_st st24 ?_
      try clear st24
      try clear e23
      try clear X23
      try clear T23
      show own_Gl p e below _ (T24.setTop (mkF m 43 #[.val (.ref b), .val (.ref x), .val (.int (Int32.ofNat suf.length))] []))
      refine own_st (fun tg_ kg_ => XS.aloadN X24.here hx rfl (hb hby own_d_jdk_68_method_22_code_43) rfl rfl kg_) ?_
      show own_Gl p e below _ (T24.setTop (mkF m 44 #[.val (.ref b), .val (.ref x), .val (.int (Int32.ofNat suf.length))] [(.ref b)]))
      exact own_retA X24 hx Bd.notSynchronized Bd.returns rfl rfl (hb hby own_d_jdk_68_method_22_code_44) (by decide) (by decide) e24 (⟨rfl, N24, K25, w, kw, 34, Pq, by decide, by omega, hTq, V_q, E_w, G_v, G_c, G_n⟩)
theorem own_pd13 : parseMethodDescriptor "(Ljava/lang/String;)Ljava/lang/AbstractStringBuilder;" = some ⟨[(.object "java/lang/String")], some (.object "java/lang/AbstractStringBuilder")⟩ := by decide +kernel
theorem own_d_jdk_67_method_7_code_0 : decode jdk_67_method_7_code 0 = .ok (.aload_n 0, 1) := by decide +kernel
theorem own_d_jdk_67_method_7_code_1 : decode jdk_67_method_7_code 1 = .ok (.aload_n 1, 1) := by decide +kernel
theorem own_d_jdk_67_method_7_code_2 : decode jdk_67_method_7_code 2 = .ok (.invokespecial 29, 3) := by decide +kernel
theorem own_d_jdk_67_method_7_code_5 : decode jdk_67_method_7_code 5 = .ok (.pop, 1) := by decide +kernel
theorem own_d_jdk_67_method_7_code_6 : decode jdk_67_method_7_code 6 = .ok (.aload_n 0, 1) := by decide +kernel
theorem own_d_jdk_67_method_7_code_7 : decode jdk_67_method_7_code 7 = .ok (.areturn, 1) := by decide +kernel
theorem own_ef_sas (m : MethodId) (x0 : Addr) (x1 : Addr) : entryFrame m #[(.ref x0), (.ref x1)] 2 = mkF m 0 #[.val (.ref x0), .val (.ref x1)] [] := by first | (simp [entryFrame, mkF, argsToLocals, Value.category]; done) | rfl
def own_Q_sas (Z : State) (b d : Addr) (kd : ClassId) (dn : Nat) (P suf : List Value) (wv : Value) (x u : Addr) (ku : ClassId) (zc : Int32) (h0 : Heap) (n0 : Nat) (v : Option Value) (h : Heap) (L : List Loc) : Prop := v = some (.ref b) ∧ Fr n0 L ∧ Keep h0 h [b, d] ∧ ∃ (w : Addr) (kw : ClassId) (cN : Nat) (P' : List Value), cN ≤ 34 ∧ dn + suf.length ≤ cN ∧ own_T P' dn wv suf ∧ Arv Z h w kw .byte (Int32.ofNat cN) P' (.int 0) ∧ Exa Z h w "[B" ∧ Fld Z h b "java/lang/AbstractStringBuilder" "value" "[B" (.ref w) ∧ Fld Z h b "java/lang/AbstractStringBuilder" "coder" "B" (.int 0) ∧ Fld Z h b "java/lang/AbstractStringBuilder" "count" "I" (.int (Int32.ofNat (dn + suf.length)))
set_option maxRecDepth 65536 in
set_option maxHeartbeats 40000000 in
theorem own_rm_sas (l : Launch) (Z : State) (a0 : Array Value) (hw : ∀ d ∈ tables_1, d.before a0 Z = true) (ws : List Jvm.Cond) (b d : Addr) (kd : ClassId) (dn : Nat) (P suf : List Value) (wv : Value) (x u : Addr) (ku : ClassId) (zc : Int32) (h0 : Heap) (n0 : Nat) (Z0 : n0 ≤ h0.size) (S_C : Sta Z h0 "java/lang/String" "COMPACT_STRINGS" "Z" (.int zc)) (hzc : ¬ zc = 0)(E_x : Exa Z h0 x "java/lang/String")(F_c : Fld Z h0 x "java/lang/String" "coder" "B" (.int 0))(F_v : Fld Z h0 x "java/lang/String" "value" "[B" (.ref u))(V_u : Arv Z h0 u ku .byte (Int32.ofNat suf.length) suf (.int 0))(E_b : Exa Z h0 b "java/lang/StringBuilder")(G_v : Fld Z h0 b "java/lang/AbstractStringBuilder" "value" "[B" (.ref d)) (G_c : Fld Z h0 b "java/lang/AbstractStringBuilder" "coder" "B" (.int 0))(G_n : Fld Z h0 b "java/lang/AbstractStringBuilder" "count" "I" (.int (Int32.ofNat dn)))(V_d : Arv Z h0 d kd .byte (16 : Int32) P (.int 0)) (E_d : Exa Z h0 d "[B") (hP : P.length = 16) (hdn : 1 ≤ dn) (hd10 : dn ≤ 10) (hs8 : suf.length ≤ 8) (hs1 : 1 ≤ suf.length) (hwv : P.getD (dn - 1) (.int 0) = wv) (g_b : n0 ≤ b) (g_d : n0 ≤ d) (ne_x_d : x ≠ d) (ne_u_d : u ≠ d) (ne_x_b : x ≠ b) (ne_u_b : u ≠ b) (ne_b_d : b ≠ d) :
    MetFree l (⟨"java/lang/StringBuilder", "append", "(Ljava/lang/String;)Ljava/lang/StringBuilder;"⟩ : MethodName) (head1 (Jvm.Cond.code (⟨"java/lang/StringBuilder", "append", "(Ljava/lang/String;)Ljava/lang/StringBuilder;"⟩ : MethodName) jdk_67_method_7_code 2 (some (.object "java/lang/StringBuilder")) :: ws) ({ frames := 5, cells := 1, slots := 34, locals := 103 } : Room)) (fun aa UU => aa = #[(.ref b), (.ref x)] ∧ Z.Warmed39 UU.vm ∧ UU.heap = h0) (fun _ _ _ _ _ => True) (fun _ UU oo UU' => ∃ vv LL, oo = .returned vv ∧ own_Q_sas Z b d kd dn P suf wv x u ku zc h0 n0 vv UU'.heap LL ∧ FrameEnd UU oo UU' LL ({ frames := 5, cells := 1, slots := 34, locals := 103 } : Room).cells ({ frames := 5, cells := 1, slots := 34, locals := 103 } : Room).slots) := by
  refine MetFree.of_bodySF (plainFor_of_name own_pn5) hisR ?_
  intro p e s m args below meth c s₁ Bd hml0 hP hK
  obtain ⟨rfl, hZ, hh⟩ := hP
  have hx := Bd.exec
  have hby := Bd.bytes
  have hml : c.maxLocals = 2 := hml0
  have hown : s.vm.findClass "java/lang/StringBuilder" = some m.cls := findClass_of_methodNamed Bd.named
  have hnm := (name_of_methodNamed Bd.named Bd.method).1
  have X0 : Stand p l e ({ frames := 5, cells := 1, slots := 34, locals := 103 } : Room) s m #[(.ref b), (.ref x)] below meth c s₁ [] 0 0 := Stand.of_body Bd
  have e0 : s₁.heap = h0 := by rw [← hh, Bd.state]; rfl
  have N0 := Fr.nil n0
  have K0 : Keep h0 h0 [b, d] := Keep.refl h0 _
  show own_Gl p e below (own_Post s (own_Q_sas Z b d kd dn P suf wv x u ku zc h0 n0) ({ frames := 5, cells := 1, slots := 34, locals := 103 } : Room).cells ({ frames := 5, cells := 1, slots := 34, locals := 103 } : Room).slots) _
  refine own_st (fun tg_ kg_ => castTop (own_ef_sas m b x) kg_) ?_
  show own_Gl p e below _ (s₁.setTop (mkF m 0 #[.val (.ref b), .val (.ref x)] []))
  have ns_b := E_b.nostat
  have ns_d := V_d.nostat
  refine own_st (fun tg_ kg_ => XS.aloadN X0.here hx rfl (hb hby own_d_jdk_67_method_7_code_0) rfl rfl kg_) ?_
  show own_Gl p e below _ (s₁.setTop (mkF m 1 #[.val (.ref b), .val (.ref x)] [(.ref b)]))
  refine own_st (fun tg_ kg_ => XS.aloadN X0.here hx rfl (hb hby own_d_jdk_67_method_7_code_1) rfl rfl kg_) ?_
  show own_Gl p e below _ (s₁.setTop (mkF m 2 #[.val (.ref b), .val (.ref x)] [(.ref x), (.ref b)]))
  obtain ⟨_, _, ⟨T1, L1, k1, n1⟩, -, X1, ⟨Lc1, hQ1, l1, y1, z1⟩, st1⟩ := superBack X0 hx hZ (y := (⟨"java/lang/AbstractStringBuilder", "append", "(Ljava/lang/String;)Ljava/lang/AbstractStringBuilder;"⟩ : MethodName)) hown (hw _ (List.mem_of_getElem? (i := 98) rfl)) (own_same (y := (⟨"java/lang/AbstractStringBuilder", "append", "(Ljava/lang/String;)Ljava/lang/AbstractStringBuilder;"⟩ : MethodName)) (hw _ (List.mem_of_getElem? (i := 99) rfl)) (hw _ (List.mem_of_getElem? (i := 76) rfl)) rfl (by decide)) (hw _ (List.mem_of_getElem? (i := 99) rfl)) (hw _ (List.mem_of_getElem? (i := 64) rfl)) (by decide) (backOf (W := 0) (own_rm_aas l Z a0 hw [] b d kd dn P suf wv x u ku zc h0 n0 (Nat.le_trans Z0 K0.1) (own_sta_keep S_C K0 (nsS ns_b (nsS ns_d ns0))) hzc (E_x.keep K0) (F_c.keep K0 (ninS ne_x_b (ninS ne_x_d nin0))) (F_v.keep K0 (ninS ne_x_b (ninS ne_x_d nin0))) (V_u.keep K0 (ninS ne_u_b (ninS ne_u_d nin0))) E_b G_v G_c G_n V_d E_d hP hdn hd10 hs8 hs1 hwv g_b g_d ne_x_d ne_u_d ne_x_b ne_u_b ne_b_d) hZ (hw _ (List.mem_of_getElem? (i := 101) rfl)) (hw _ (List.mem_of_getElem? (i := 47) rfl)) (by decide) (by decide)) e0 (Ins.self E_b) (g := (mkF m 2 #[.val (.ref b), .val (.ref x)] [(.ref x), (.ref b)])) rfl (by rw [hml]; rfl) (hw _ (List.mem_of_getElem? (i := 101) rfl)) (argsL := [(.ref x)]) (rest := []) (lenOf own_pd13 rfl) rfl (by show 2 * 0 + _ ≤ _; exact Nat.le_of_eq rfl) (hb hby own_d_jdk_67_method_7_code_2) (fun _ _ => ⟨rfl, e0, (by decide : 0 + 1 ≤ _), (by decide : 0 + 34 ≤ _)⟩)
  dsimp only [Pt.U, Pt.locs, Pt.cells, Pt.slots] at X1 l1 y1 z1 st1 hQ1
  obtain rfl : k1 = 1 := y1
  obtain rfl : n1 = 34 := z1
  obtain ⟨rfl, N1q, Kc1, hq⟩ := hQ1
  have N1 : Fr n0 L1 := by rw [l1]; exact Fr.app N0 N1q
  try clear l1
  refine own_tr st1 ?_
  replace E_b := E_b.keep Kc1
  replace E_d := E_d.keep Kc1
  have K2 : Keep h0 T1.heap [b, d] := K0.trans Kc1 (allS (Or.inl (List.mem_of_getElem? (i := 0) rfl)) (allS (Or.inl (List.mem_of_getElem? (i := 1) rfl)) all0))
  try clear Kc1
  show own_Gl p e below _ (T1.setTop (mkF m 5 #[.val (.ref b), .val (.ref x)] [(.ref b)]))
  try clear st1
  try clear N1q
  refine own_st (fun tg_ kg_ => XS.pop X1.here hx rfl (hb hby own_d_jdk_67_method_7_code_5) rfl rfl kg_) ?_
  show own_Gl p e below _ (T1.setTop (mkF m 6 #[.val (.ref b), .val (.ref x)] []))
  refine own_st (fun tg_ kg_ => XS.aloadN X1.here hx rfl (hb hby own_d_jdk_67_method_7_code_6) rfl rfl kg_) ?_
  show own_Gl p e below _ (T1.setTop (mkF m 7 #[.val (.ref b), .val (.ref x)] [(.ref b)]))
  exact own_retA X1 hx Bd.notSynchronized Bd.returns rfl rfl (hb hby own_d_jdk_67_method_7_code_7) (by decide) (by decide) rfl (⟨rfl, N1, K2, hq⟩)
theorem own_d_jdk_65_method_131_code_0 : decode jdk_65_method_131_code 0 = .ok (.iload_n 1, 1) := by decide +kernel
theorem own_d_jdk_65_method_131_code_1 : decode jdk_65_method_131_code 1 = .ok (.iload_n 0, 1) := by decide +kernel
theorem own_d_jdk_65_method_131_code_2 : decode jdk_65_method_131_code 2 = .ok (.if_icmp .ge 35, 3) := by decide +kernel
theorem own_d_jdk_65_method_131_code_37 : decode jdk_65_method_131_code 37 = .ok (.return_, 1) := by decide +kernel
theorem own_ef_ckl (m : MethodId) (x0 : Int32) (x1 : Int32) : entryFrame m #[(.int x0), (.int x1)] 2 = mkF m 0 #[.val (.int x0), .val (.int x1)] [] := by first | (simp [entryFrame, mkF, argsToLocals, Value.category]; done) | rfl
def own_Q_ckl (Z : State) (mm : Nat) (h0 : Heap) (n0 : Nat) (v : Option Value) (h : Heap) (L : List Loc) : Prop := v = none ∧ Fr n0 L ∧ h = h0
set_option maxRecDepth 65536 in
set_option maxHeartbeats 40000000 in
theorem own_rm_ckl (l : Launch) (Z : State) (a0 : Array Value) (hw : ∀ d ∈ tables_1, d.before a0 Z = true) (ws : List Jvm.Cond) (mm : Nat) (h0 : Heap) (n0 : Nat) (Z0 : n0 ≤ h0.size) (hmm : mm ≤ 34) :
    MetFree l (⟨"java/util/Arrays", "checkLength", "(II)V"⟩ : MethodName) (head1 (Jvm.Cond.code (⟨"java/util/Arrays", "checkLength", "(II)V"⟩ : MethodName) jdk_65_method_131_code 2 none :: ws) ({ frames := 0, cells := 0, slots := 0, locals := 0 } : Room)) (fun aa UU => aa = #[(.int (0 : Int32)), (.int (Int32.ofNat mm))] ∧ Z.Warmed39 UU.vm ∧ UU.heap = h0) (fun _ _ _ _ _ => True) (fun _ UU oo UU' => ∃ vv LL, oo = .returned vv ∧ own_Q_ckl Z mm h0 n0 vv UU'.heap LL ∧ FrameEnd UU oo UU' LL ({ frames := 0, cells := 0, slots := 0, locals := 0 } : Room).cells ({ frames := 0, cells := 0, slots := 0, locals := 0 } : Room).slots) := by
  refine MetFree.of_bodySF (plainFor_of_name own_pn3) hisR ?_
  intro p e s m args below meth c s₁ Bd hml0 hP hK
  obtain ⟨rfl, hZ, hh⟩ := hP
  have hx := Bd.exec
  have hby := Bd.bytes
  have hml : c.maxLocals = 2 := hml0
  have hown : s.vm.findClass "java/util/Arrays" = some m.cls := findClass_of_methodNamed Bd.named
  have hnm := (name_of_methodNamed Bd.named Bd.method).1
  have X0 : Stand p l e ({ frames := 0, cells := 0, slots := 0, locals := 0 } : Room) s m #[(.int (0 : Int32)), (.int (Int32.ofNat mm))] below meth c s₁ [] 0 0 := Stand.of_body Bd
  have e0 : s₁.heap = h0 := by rw [← hh, Bd.state]; rfl
  have N0 := Fr.nil n0
  show own_Gl p e below (own_Post s (own_Q_ckl Z mm h0 n0) ({ frames := 0, cells := 0, slots := 0, locals := 0 } : Room).cells ({ frames := 0, cells := 0, slots := 0, locals := 0 } : Room).slots) _
  refine own_st (fun tg_ kg_ => castTop (own_ef_ckl m (0 : Int32) (Int32.ofNat mm)) kg_) ?_
  show own_Gl p e below _ (s₁.setTop (mkF m 0 #[.val (.int (0 : Int32)), .val (.int (Int32.ofNat mm))] []))
  refine own_st (fun tg_ kg_ => XS.iloadN X0.here hx rfl (hb hby own_d_jdk_65_method_131_code_0) rfl kg_) ?_
  show own_Gl p e below _ (s₁.setTop (mkF m 1 #[.val (.int (0 : Int32)), .val (.int (Int32.ofNat mm))] [(.int (Int32.ofNat mm))]))
  refine own_st (fun tg_ kg_ => XS.iloadN X0.here hx rfl (hb hby own_d_jdk_65_method_131_code_1) rfl kg_) ?_
  show own_Gl p e below _ (s₁.setTop (mkF m 2 #[.val (.int (0 : Int32)), .val (.int (Int32.ofNat mm))] [(.int (0 : Int32)), (.int (Int32.ofNat mm))]))
  refine own_st (fun tg_ kg_ => XS.icmpYes X0.here hx rfl (pc0 := 2) (pc' := 37) rfl (hb hby own_d_jdk_65_method_131_code_2) rfl (flt (own_ofn_nn (by omega))).2.1 (by decide) (by decide) kg_) ?_
  show own_Gl p e below _ (s₁.setTop (mkF m 37 #[.val (.int (0 : Int32)), .val (.int (Int32.ofNat mm))] []))
  exact own_retV X0 hx Bd.notSynchronized Bd.returns (hb hby own_d_jdk_65_method_131_code_37) (by decide) (by decide) e0 (⟨rfl, N0, rfl⟩)
theorem own_pd14 : parseMethodDescriptor "(II)V" = some ⟨[.int, .int], none⟩ := by decide +kernel
theorem own_d_jdk_65_method_133_code_0 : decode jdk_65_method_133_code 0 = .ok (.iload_n 1, 1) := by decide +kernel
theorem own_d_jdk_65_method_133_code_1 : decode jdk_65_method_133_code 1 = .ok (.iload_n 2, 1) := by decide +kernel
theorem own_d_jdk_65_method_133_code_2 : decode jdk_65_method_133_code 2 = .ok (.invokestatic 343, 3) := by decide +kernel
theorem own_d_jdk_65_method_133_code_5 : decode jdk_65_method_133_code 5 = .ok (.iload_n 2, 1) := by decide +kernel
theorem own_d_jdk_65_method_133_code_6 : decode jdk_65_method_133_code 6 = .ok (.iload_n 1, 1) := by decide +kernel
theorem own_d_jdk_65_method_133_code_7 : decode jdk_65_method_133_code 7 = .ok (.isub, 1) := by decide +kernel
theorem own_d_jdk_65_method_133_code_8 : decode jdk_65_method_133_code 8 = .ok (.istore_n 3, 1) := by decide +kernel
theorem own_d_jdk_65_method_133_code_9 : decode jdk_65_method_133_code 9 = .ok (.iload_n 3, 1) := by decide +kernel
theorem own_d_jdk_65_method_133_code_10 : decode jdk_65_method_133_code 10 = .ok (.newarray .byte, 2) := by decide +kernel
theorem own_d_jdk_65_method_133_code_12 : decode jdk_65_method_133_code 12 = .ok (.astore 4, 2) := by decide +kernel
theorem own_d_jdk_65_method_133_code_14 : decode jdk_65_method_133_code 14 = .ok (.aload_n 0, 1) := by decide +kernel
theorem own_d_jdk_65_method_133_code_15 : decode jdk_65_method_133_code 15 = .ok (.iload_n 1, 1) := by decide +kernel
theorem own_d_jdk_65_method_133_code_16 : decode jdk_65_method_133_code 16 = .ok (.aload 4, 2) := by decide +kernel
theorem own_d_jdk_65_method_133_code_18 : decode jdk_65_method_133_code 18 = .ok (.iconst 0, 1) := by decide +kernel
theorem own_d_jdk_65_method_133_code_19 : decode jdk_65_method_133_code 19 = .ok (.aload_n 0, 1) := by decide +kernel
theorem own_d_jdk_65_method_133_code_20 : decode jdk_65_method_133_code 20 = .ok (.arraylength, 1) := by decide +kernel
theorem own_d_jdk_65_method_133_code_21 : decode jdk_65_method_133_code 21 = .ok (.iload_n 1, 1) := by decide +kernel
theorem own_d_jdk_65_method_133_code_22 : decode jdk_65_method_133_code 22 = .ok (.isub, 1) := by decide +kernel
theorem own_d_jdk_65_method_133_code_23 : decode jdk_65_method_133_code 23 = .ok (.iload_n 3, 1) := by decide +kernel
theorem own_d_jdk_65_method_133_code_24 : decode jdk_65_method_133_code 24 = .ok (.invokestatic 304, 3) := by decide +kernel
theorem own_d_jdk_65_method_133_code_27 : decode jdk_65_method_133_code 27 = .ok (.invokestatic 150, 3) := by decide +kernel
theorem own_d_jdk_65_method_133_code_30 : decode jdk_65_method_133_code 30 = .ok (.aload 4, 2) := by decide +kernel
theorem own_d_jdk_65_method_133_code_32 : decode jdk_65_method_133_code 32 = .ok (.areturn, 1) := by decide +kernel
theorem own_ef_crb (m : MethodId) (x0 : Addr) (x1 : Int32) (x2 : Int32) : entryFrame m #[(.ref x0), (.int x1), (.int x2)] 5 = mkF m 0 #[.val (.ref x0), .val (.int x1), .val (.int x2), .unset, .unset] [] := by first | (simp [entryFrame, mkF, argsToLocals, Value.category]; done) | rfl
def own_Q_crb (Z : State) (d : Addr) (kd : ClassId) (cN mm : Nat) (P : List Value) (h0 : Heap) (n0 : Nat) (v : Option Value) (h : Heap) (L : List Loc) : Prop := (∃ (w : Addr) (kw : ClassId) (R : List Value), v = some (.ref w) ∧ h0.size ≤ w ∧ Arv Z h w kw .byte (Int32.ofNat mm) R (.int 0) ∧ ∀ i, i < mm → R.getD i (.int 0) = P.getD i (.int 0)) ∧ Fr n0 L ∧ Ext h0 h
set_option maxRecDepth 65536 in
set_option maxHeartbeats 40000000 in
theorem own_rm_crb (l : Launch) (Z : State) (a0 : Array Value) (hw : ∀ d ∈ tables_1, d.before a0 Z = true) (ws : List Jvm.Cond) (d : Addr) (kd : ClassId) (cN mm : Nat) (P : List Value) (h0 : Heap) (n0 : Nat) (Z0 : n0 ≤ h0.size) (V_d : Arv Z h0 d kd .byte (Int32.ofNat cN) P (.int 0)) (hmc : mm ≤ cN) (hcN : cN ≤ 34) :
    MetFree l (⟨"java/util/Arrays", "copyOfRangeByte", "([BII)[B"⟩ : MethodName) (head1 (Jvm.Cond.code (⟨"java/util/Arrays", "copyOfRangeByte", "([BII)[B"⟩ : MethodName) jdk_65_method_133_code 5 (some (.array .byte)) :: ws) ({ frames := 1, cells := 1, slots := 34, locals := 60 } : Room)) (fun aa UU => aa = #[(.ref d), (.int (0 : Int32)), (.int (Int32.ofNat mm))] ∧ Z.Warmed39 UU.vm ∧ UU.heap = h0) (fun _ _ _ _ _ => True) (fun _ UU oo UU' => ∃ vv LL, oo = .returned vv ∧ own_Q_crb Z d kd cN mm P h0 n0 vv UU'.heap LL ∧ FrameEnd UU oo UU' LL ({ frames := 1, cells := 1, slots := 34, locals := 60 } : Room).cells ({ frames := 1, cells := 1, slots := 34, locals := 60 } : Room).slots) := by
  refine MetFree.of_bodySF (plainFor_of_name own_pn3) hisR ?_
  intro p e s m args below meth c s₁ Bd hml0 hP hK
  obtain ⟨rfl, hZ, hh⟩ := hP
  have hx := Bd.exec
  have hby := Bd.bytes
  have hml : c.maxLocals = 5 := hml0
  have hown : s.vm.findClass "java/util/Arrays" = some m.cls := findClass_of_methodNamed Bd.named
  have hnm := (name_of_methodNamed Bd.named Bd.method).1
  have X0 : Stand p l e ({ frames := 1, cells := 1, slots := 34, locals := 60 } : Room) s m #[(.ref d), (.int (0 : Int32)), (.int (Int32.ofNat mm))] below meth c s₁ [] 0 0 := Stand.of_body Bd
  have e0 : s₁.heap = h0 := by rw [← hh, Bd.state]; rfl
  have N0 := Fr.nil n0
  show own_Gl p e below (own_Post s (own_Q_crb Z d kd cN mm P h0 n0) ({ frames := 1, cells := 1, slots := 34, locals := 60 } : Room).cells ({ frames := 1, cells := 1, slots := 34, locals := 60 } : Room).slots) _
  refine own_st (fun tg_ kg_ => castTop (own_ef_crb m d (0 : Int32) (Int32.ofNat mm)) kg_) ?_
  show own_Gl p e below _ (s₁.setTop (mkF m 0 #[.val (.ref d), .val (.int (0 : Int32)), .val (.int (Int32.ofNat mm)), .unset, .unset] []))
  refine own_st (fun tg_ kg_ => XS.iloadN X0.here hx rfl (hb hby own_d_jdk_65_method_133_code_0) rfl kg_) ?_
  show own_Gl p e below _ (s₁.setTop (mkF m 1 #[.val (.ref d), .val (.int (0 : Int32)), .val (.int (Int32.ofNat mm)), .unset, .unset] [(.int (0 : Int32))]))
  refine own_st (fun tg_ kg_ => XS.iloadN X0.here hx rfl (hb hby own_d_jdk_65_method_133_code_1) rfl kg_) ?_
  show own_Gl p e below _ (s₁.setTop (mkF m 2 #[.val (.ref d), .val (.int (0 : Int32)), .val (.int (Int32.ofNat mm)), .unset, .unset] [(.int (Int32.ofNat mm)), (.int (0 : Int32))]))
  obtain ⟨_, _, ⟨T1, L1, k1, n1⟩, -, X1, ⟨Lc1, hQ1, l1, y1, z1⟩, st1⟩ := Jvm.LawKit.callS X0 hx (y := (⟨"java/util/Arrays", "checkLength", "(II)V"⟩ : MethodName)) hown (mvT hZ (hw _ (List.mem_of_getElem? (i := 170) rfl))) (mvT hZ (hw _ (List.mem_of_getElem? (i := 171) rfl))) (mvT hZ (hw _ (List.mem_of_getElem? (i := 165) rfl))) (mvT hZ (hw _ (List.mem_of_getElem? (i := 172) rfl))) (by decide) (backOf (W := 0) (own_rm_ckl l Z a0 hw [] mm h0 n0 Z0 (by omega)) hZ (hw _ (List.mem_of_getElem? (i := 172) rfl)) (hw _ (List.mem_of_getElem? (i := 165) rfl)) (by decide) (by decide)) (g := (mkF m 2 #[.val (.ref d), .val (.int (0 : Int32)), .val (.int (Int32.ofNat mm)), .unset, .unset] [(.int (Int32.ofNat mm)), (.int (0 : Int32))])) rfl (by rw [hml]; rfl) (argsL := [(.int (0 : Int32)), (.int (Int32.ofNat mm))]) (rest := []) (lenOf own_pd14 rfl) rfl (by show 2 * 0 + _ ≤ _; exact Nat.le_of_eq rfl) (hb hby own_d_jdk_65_method_133_code_2) (fun _ _ => ⟨rfl, e0, (by decide : 0 + 0 ≤ _), (by decide : 0 + 0 ≤ _)⟩)
  dsimp only [Pt.U, Pt.locs, Pt.cells, Pt.slots] at X1 l1 y1 z1 st1 hQ1
  obtain rfl : k1 = 0 := y1
  obtain rfl : n1 = 0 := z1
  obtain ⟨rfl, N1q, e1⟩ := hQ1
  have N1 : Fr n0 L1 := by rw [l1]; exact Fr.app N0 N1q
  try clear l1
  refine own_st st1 ?_
  show own_Gl p e below _ (T1.setTop (mkF m 5 #[.val (.ref d), .val (.int (0 : Int32)), .val (.int (Int32.ofNat mm)), .unset, .unset] []))
  try clear st1
  try clear N1q
  refine own_st (fun tg_ kg_ => XS.iloadN X1.here hx rfl (hb hby own_d_jdk_65_method_133_code_5) rfl kg_) ?_
  show own_Gl p e below _ (T1.setTop (mkF m 6 #[.val (.ref d), .val (.int (0 : Int32)), .val (.int (Int32.ofNat mm)), .unset, .unset] [(.int (Int32.ofNat mm))]))
  refine own_st (fun tg_ kg_ => XS.iloadN X1.here hx rfl (hb hby own_d_jdk_65_method_133_code_6) rfl kg_) ?_
  show own_Gl p e below _ (T1.setTop (mkF m 7 #[.val (.ref d), .val (.int (0 : Int32)), .val (.int (Int32.ofNat mm)), .unset, .unset] [(.int (0 : Int32)), (.int (Int32.ofNat mm))]))
  refine own_st (fun tg_ kg_ => XS.isub X1.here hx rfl (hb hby own_d_jdk_65_method_133_code_7) rfl kg_) ?_
  show own_Gl p e below _ (T1.setTop (mkF m 8 #[.val (.ref d), .val (.int (0 : Int32)), .val (.int (Int32.ofNat mm)), .unset, .unset] [(.int ((Int32.ofNat mm) - (0 : Int32)))]))
  rw [Int32.sub_zero]
  show own_Gl p e below _ (T1.setTop (mkF m 8 #[.val (.ref d), .val (.int (0 : Int32)), .val (.int (Int32.ofNat mm)), .unset, .unset] [(.int (Int32.ofNat mm))]))
  refine own_st (fun tg_ kg_ => XS.istoreN X1.here hx rfl (hb hby own_d_jdk_65_method_133_code_8) rfl (l' := #[.val (.ref d), .val (.int (0 : Int32)), .val (.int (Int32.ofNat mm)), .val (.int (Int32.ofNat mm)), .unset]) rfl kg_) ?_
  show own_Gl p e below _ (T1.setTop (mkF m 9 #[.val (.ref d), .val (.int (0 : Int32)), .val (.int (Int32.ofNat mm)), .val (.int (Int32.ofNat mm)), .unset] []))
  refine own_st (fun tg_ kg_ => XS.iloadN X1.here hx rfl (hb hby own_d_jdk_65_method_133_code_9) rfl kg_) ?_
  show own_Gl p e below _ (T1.setTop (mkF m 10 #[.val (.ref d), .val (.int (0 : Int32)), .val (.int (Int32.ofNat mm)), .val (.int (Int32.ofNat mm)), .unset] [(.int (Int32.ofNat mm))]))
  obtain ⟨T2, h2, k2, X2, e2, E2, A2, B2, st2⟩ := newPE X1 hx hZ (hw _ (List.mem_of_getElem? (i := 52) rfl)) e1 (g := (mkF m 10 #[.val (.ref d), .val (.int (0 : Int32)), .val (.int (Int32.ofNat mm)), .val (.int (Int32.ofNat mm)), .unset] [(.int (Int32.ofNat mm))])) rfl (hb hby own_d_jdk_65_method_133_code_10) rfl (own_ofn_nn (by omega)) (cap := 34) (by rw [own_ofn_clamp (by omega)]; omega) (by decide) (by decide) (by decide) (ad := "[B") (by decide)
  obtain ⟨w, g2⟩ : ∃ z, z = h0.size := ⟨_, rfl⟩
  have ne_d_w : d ≠ w := Nat.ne_of_lt (Nat.lt_of_lt_of_le V_d.lt (Nat.le_of_eq g2.symm))
  have sz_w : h0.size ≤ w := Nat.le_of_eq g2.symm
  have g_w : n0 ≤ w := Nat.le_trans Z0 sz_w
  rw [← g2] at A2 B2 st2
  have E_w := B2
  have V_w : Arv Z h2 w k2 .byte (Int32.ofNat mm) [] (.int 0) := Arv.new A2 (own_ofn_nn (by omega))
  refine own_st st2 ?_
  try clear st2
  try clear e1
  try clear X1
  try clear T1
  show own_Gl p e below _ (T2.setTop (mkF m 12 #[.val (.ref d), .val (.int (0 : Int32)), .val (.int (Int32.ofNat mm)), .val (.int (Int32.ofNat mm)), .unset] [(.ref w)]))
  have V_w : Arv Z h2 w k2 .byte (Int32.ofNat mm) (List.replicate mm (.int 0)) (.int 0) := V_w.pad (pad_rep [] (.int 0) mm)
  refine own_st (fun tg_ kg_ => XS.astore X2.here hx rfl (hb hby own_d_jdk_65_method_133_code_12) rfl rfl (l' := #[.val (.ref d), .val (.int (0 : Int32)), .val (.int (Int32.ofNat mm)), .val (.int (Int32.ofNat mm)), .val (.ref w)]) rfl kg_) ?_
  show own_Gl p e below _ (T2.setTop (mkF m 14 #[.val (.ref d), .val (.int (0 : Int32)), .val (.int (Int32.ofNat mm)), .val (.int (Int32.ofNat mm)), .val (.ref w)] []))
  refine own_st (fun tg_ kg_ => XS.aloadN X2.here hx rfl (hb hby own_d_jdk_65_method_133_code_14) rfl rfl kg_) ?_
  show own_Gl p e below _ (T2.setTop (mkF m 15 #[.val (.ref d), .val (.int (0 : Int32)), .val (.int (Int32.ofNat mm)), .val (.int (Int32.ofNat mm)), .val (.ref w)] [(.ref d)]))
  refine own_st (fun tg_ kg_ => XS.iloadN X2.here hx rfl (hb hby own_d_jdk_65_method_133_code_15) rfl kg_) ?_
  show own_Gl p e below _ (T2.setTop (mkF m 16 #[.val (.ref d), .val (.int (0 : Int32)), .val (.int (Int32.ofNat mm)), .val (.int (Int32.ofNat mm)), .val (.ref w)] [(.int (0 : Int32)), (.ref d)]))
  refine own_st (fun tg_ kg_ => XS.aload X2.here hx rfl (hb hby own_d_jdk_65_method_133_code_16) rfl rfl kg_) ?_
  show own_Gl p e below _ (T2.setTop (mkF m 18 #[.val (.ref d), .val (.int (0 : Int32)), .val (.int (Int32.ofNat mm)), .val (.int (Int32.ofNat mm)), .val (.ref w)] [(.ref w), (.int (0 : Int32)), (.ref d)]))
  refine own_st (fun tg_ kg_ => XS.iconst X2.here hx rfl (hb hby own_d_jdk_65_method_133_code_18) kg_) ?_
  show own_Gl p e below _ (T2.setTop (mkF m 19 #[.val (.ref d), .val (.int (0 : Int32)), .val (.int (Int32.ofNat mm)), .val (.int (Int32.ofNat mm)), .val (.ref w)] [(.int (0 : Int32)), (.ref w), (.int (0 : Int32)), (.ref d)]))
  refine own_st (fun tg_ kg_ => XS.aloadN X2.here hx rfl (hb hby own_d_jdk_65_method_133_code_19) rfl rfl kg_) ?_
  show own_Gl p e below _ (T2.setTop (mkF m 20 #[.val (.ref d), .val (.int (0 : Int32)), .val (.int (Int32.ofNat mm)), .val (.int (Int32.ofNat mm)), .val (.ref w)] [(.ref d), (.int (0 : Int32)), (.ref w), (.int (0 : Int32)), (.ref d)]))
  obtain ⟨cl4, Ar4, qa4, Sa4, Na4, Ha4, Ga4⟩ := id (V_d.ext E2)
  refine own_st (fun tg_ kg_ => X2.arraylength hx (by rw [e2]; exact Ar4.1) (State.isArrayOf_alike hZ.alike Ar4.2.1) (g := (mkF m 20 #[.val (.ref d), .val (.int (0 : Int32)), .val (.int (Int32.ofNat mm)), .val (.int (Int32.ofNat mm)), .val (.ref w)] [(.ref d), (.int (0 : Int32)), (.ref w), (.int (0 : Int32)), (.ref d)])) rfl rfl (hb hby own_d_jdk_65_method_133_code_20) _ kg_) ?_
  rw [len_of Sa4 Na4]
  show own_Gl p e below _ (T2.setTop (mkF m 21 #[.val (.ref d), .val (.int (0 : Int32)), .val (.int (Int32.ofNat mm)), .val (.int (Int32.ofNat mm)), .val (.ref w)] [(.int (Int32.ofNat cN)), (.int (0 : Int32)), (.ref w), (.int (0 : Int32)), (.ref d)]))
  refine own_st (fun tg_ kg_ => XS.iloadN X2.here hx rfl (hb hby own_d_jdk_65_method_133_code_21) rfl kg_) ?_
  show own_Gl p e below _ (T2.setTop (mkF m 22 #[.val (.ref d), .val (.int (0 : Int32)), .val (.int (Int32.ofNat mm)), .val (.int (Int32.ofNat mm)), .val (.ref w)] [(.int (0 : Int32)), (.int (Int32.ofNat cN)), (.int (0 : Int32)), (.ref w), (.int (0 : Int32)), (.ref d)]))
  refine own_st (fun tg_ kg_ => XS.isub X2.here hx rfl (hb hby own_d_jdk_65_method_133_code_22) rfl kg_) ?_
  show own_Gl p e below _ (T2.setTop (mkF m 23 #[.val (.ref d), .val (.int (0 : Int32)), .val (.int (Int32.ofNat mm)), .val (.int (Int32.ofNat mm)), .val (.ref w)] [(.int ((Int32.ofNat cN) - (0 : Int32))), (.int (0 : Int32)), (.ref w), (.int (0 : Int32)), (.ref d)]))
  refine own_st (fun tg_ kg_ => XS.iloadN X2.here hx rfl (hb hby own_d_jdk_65_method_133_code_23) rfl kg_) ?_
  show own_Gl p e below _ (T2.setTop (mkF m 24 #[.val (.ref d), .val (.int (0 : Int32)), .val (.int (Int32.ofNat mm)), .val (.int (Int32.ofNat mm)), .val (.ref w)] [(.int (Int32.ofNat mm)), (.int ((Int32.ofNat cN) - (0 : Int32))), (.int (0 : Int32)), (.ref w), (.int (0 : Int32)), (.ref d)]))
  rw [Int32.sub_zero]
  show own_Gl p e below _ (T2.setTop (mkF m 24 #[.val (.ref d), .val (.int (0 : Int32)), .val (.int (Int32.ofNat mm)), .val (.int (Int32.ofNat mm)), .val (.ref w)] [(.int (Int32.ofNat mm)), (.int (Int32.ofNat cN)), (.int (0 : Int32)), (.ref w), (.int (0 : Int32)), (.ref d)]))
  obtain ⟨_, _, ⟨T5, L5, k5, n5⟩, -, X5, ⟨Lc5, hQ5, l5, y5, z5⟩, st5⟩ := Jvm.LawKit.callS X2 hx (y := (⟨"java/lang/Math", "min", "(II)I"⟩ : MethodName)) hown (mvT hZ (hw _ (List.mem_of_getElem? (i := 173) rfl))) (mvT hZ (hw _ (List.mem_of_getElem? (i := 174) rfl))) (mvT hZ (hw _ (List.mem_of_getElem? (i := 175) rfl))) (mvT hZ (hw _ (List.mem_of_getElem? (i := 176) rfl))) (by decide) (backOf (W := 4) (own_rm_min l Z a0 hw [] (Int32.ofNat cN) (Int32.ofNat mm) h2 n0 (Nat.le_trans Z0 E2.1)) hZ (hw _ (List.mem_of_getElem? (i := 176) rfl)) (hw _ (List.mem_of_getElem? (i := 175) rfl)) (by decide) (by decide)) (g := (mkF m 24 #[.val (.ref d), .val (.int (0 : Int32)), .val (.int (Int32.ofNat mm)), .val (.int (Int32.ofNat mm)), .val (.ref w)] [(.int (Int32.ofNat mm)), (.int (Int32.ofNat cN)), (.int (0 : Int32)), (.ref w), (.int (0 : Int32)), (.ref d)])) rfl (by rw [hml]; rfl) (argsL := [(.int (Int32.ofNat cN)), (.int (Int32.ofNat mm))]) (rest := [(.int (0 : Int32)), (.ref w), (.int (0 : Int32)), (.ref d)]) (lenOf own_pd0 rfl) rfl (by show 2 * 0 + _ ≤ _; exact Nat.le_of_eq rfl) (hb hby own_d_jdk_65_method_133_code_24) (fun _ _ => ⟨rfl, e2, (by decide : 1 + 0 ≤ _), (by decide : 34 + 0 ≤ _)⟩)
  dsimp only [Pt.U, Pt.locs, Pt.cells, Pt.slots] at X5 l5 y5 z5 st5 hQ5
  obtain rfl : k5 = 1 := y5
  obtain rfl : n5 = 34 := z5
  obtain ⟨rfl, N5q, e5⟩ := hQ5
  have N5 : Fr n0 L5 := by rw [l5]; exact Fr.app N1 N5q
  try clear l5
  refine own_st st5 ?_
  show own_Gl p e below _ (T5.setTop (mkF m 27 #[.val (.ref d), .val (.int (0 : Int32)), .val (.int (Int32.ofNat mm)), .val (.int (Int32.ofNat mm)), .val (.ref w)] [(.int (own_min (Int32.ofNat cN) (Int32.ofNat mm))), (.int (0 : Int32)), (.ref w), (.int (0 : Int32)), (.ref d)]))
  try clear st5
  try clear N5q
  try clear N1
  try clear e2
  try clear X2
  try clear T2
  rw [own_minN hmc hcN]
  show own_Gl p e below _ (T5.setTop (mkF m 27 #[.val (.ref d), .val (.int (0 : Int32)), .val (.int (Int32.ofNat mm)), .val (.int (Int32.ofNat mm)), .val (.ref w)] [(.int (Int32.ofNat mm)), (.int (0 : Int32)), (.ref w), (.int (0 : Int32)), (.ref d)]))
  obtain ⟨T6, h6, L6, X6, e6, N6, Kc6, V_w, st6⟩ := cpA X5 hx hZ hown (hw _ (List.mem_of_getElem? (i := 177) rfl)) (hw _ (List.mem_of_getElem? (i := 134) rfl)) (hw _ (List.mem_of_getElem? (i := 132) rfl)) (hw _ (List.mem_of_getElem? (i := 133) rfl)) e5 (V_d.ext E2) V_w (us := (List.range mm).map (fun i => P.getD (0 + i) (.int 0))) (Or.inl ⟨rfl, rfl⟩) (sp := (0 : Int32)) (dp := (0 : Int32)) (nn := (Int32.ofNat mm)) (by decide) (by decide) (own_ofn_nn (by omega)) (by rw [own_ofn_clamp (by omega), own_ofn_clamp (by omega)]; show 0 + mm ≤ cN; omega) (by rw [own_ofn_clamp (by omega)]; show 0 + mm ≤ mm; omega) (by rw [own_ofn_clamp (by omega)]; rfl) (by rw [own_ofn_clamp (by omega), List.length_replicate]; show 0 + mm ≤ mm; omega) N5 g_w (g := (mkF m 27 #[.val (.ref d), .val (.int (0 : Int32)), .val (.int (Int32.ofNat mm)), .val (.int (Int32.ofNat mm)), .val (.ref w)] [(.int (Int32.ofNat mm)), (.int (0 : Int32)), (.ref w), (.int (0 : Int32)), (.ref d)])) rfl (by rw [hml]; rfl) rfl (hb hby own_d_jdk_65_method_133_code_27) (by decide) (W := 0) (by show 2 * 0 + _ ≤ _; exact Nat.le_of_eq rfl) (by decide)
  replace E_w := E_w.keep Kc6
  have K7 := own_ext_keep E2 Kc6 (allS sz_w all0)
  try clear Kc6
  try clear E2
  refine own_st st6 ?_
  try clear st6
  try clear e5
  try clear X5
  try clear T5
  show own_Gl p e below _ (T6.setTop (mkF m 30 #[.val (.ref d), .val (.int (0 : Int32)), .val (.int (Int32.ofNat mm)), .val (.int (Int32.ofNat mm)), .val (.ref w)] []))
  rw [own_ofn_clamp (by omega)] at V_w
  have V_w : Arv Z h6 w k2 .byte (Int32.ofNat mm) ((List.range mm).map (fun i => P.getD (0 + i) (.int 0))) (.int 0) := own_new (P := P) (m := mm) ▸ V_w
  refine own_st (fun tg_ kg_ => XS.aload X6.here hx rfl (hb hby own_d_jdk_65_method_133_code_30) rfl rfl kg_) ?_
  show own_Gl p e below _ (T6.setTop (mkF m 32 #[.val (.ref d), .val (.int (0 : Int32)), .val (.int (Int32.ofNat mm)), .val (.int (Int32.ofNat mm)), .val (.ref w)] [(.ref w)]))
  exact own_retA X6 hx Bd.notSynchronized Bd.returns rfl rfl (hb hby own_d_jdk_65_method_133_code_32) (by decide) (by decide) e6 (⟨⟨_, _, _, rfl, sz_w, V_w, fun i hi => own_new_at hi⟩, N6, K7⟩)
theorem own_pd15 : parseMethodDescriptor "([BII)[B" = some ⟨[(.array .byte), .int, .int], some (.array .byte)⟩ := by decide +kernel
theorem own_d_jdk_65_method_132_code_0 : decode jdk_65_method_132_code 0 = .ok (.iload_n 1, 1) := by decide +kernel
theorem own_d_jdk_65_method_132_code_1 : decode jdk_65_method_132_code 1 = .ok (.ifCond .ne 9, 3) := by decide +kernel
theorem own_d_jdk_65_method_132_code_4 : decode jdk_65_method_132_code 4 = .ok (.iload_n 2, 1) := by decide +kernel
theorem own_d_jdk_65_method_132_code_5 : decode jdk_65_method_132_code 5 = .ok (.aload_n 0, 1) := by decide +kernel
theorem own_d_jdk_65_method_132_code_6 : decode jdk_65_method_132_code 6 = .ok (.arraylength, 1) := by decide +kernel
theorem own_d_jdk_65_method_132_code_7 : decode jdk_65_method_132_code 7 = .ok (.if_icmp .eq 10, 3) := by decide +kernel
theorem own_d_jdk_65_method_132_code_10 : decode jdk_65_method_132_code 10 = .ok (.aload_n 0, 1) := by decide +kernel
theorem own_d_jdk_65_method_132_code_11 : decode jdk_65_method_132_code 11 = .ok (.iload_n 1, 1) := by decide +kernel
theorem own_d_jdk_65_method_132_code_12 : decode jdk_65_method_132_code 12 = .ok (.iload_n 2, 1) := by decide +kernel
theorem own_d_jdk_65_method_132_code_13 : decode jdk_65_method_132_code 13 = .ok (.invokestatic 339, 3) := by decide +kernel
theorem own_d_jdk_65_method_132_code_16 : decode jdk_65_method_132_code 16 = .ok (.areturn, 1) := by decide +kernel
theorem own_d_jdk_65_method_132_code_17 : decode jdk_65_method_132_code 17 = .ok (.aload_n 0, 1) := by decide +kernel
theorem own_d_jdk_65_method_132_code_18 : decode jdk_65_method_132_code 18 = .ok (.invokevirtual 310, 3) := by decide +kernel
theorem own_d_jdk_65_method_132_code_21 : decode jdk_65_method_132_code 21 = .ok (.checkcast 311, 3) := by decide +kernel
theorem own_d_jdk_65_method_132_code_24 : decode jdk_65_method_132_code 24 = .ok (.areturn, 1) := by decide +kernel
theorem own_ef_cor (m : MethodId) (x0 : Addr) (x1 : Int32) (x2 : Int32) : entryFrame m #[(.ref x0), (.int x1), (.int x2)] 3 = mkF m 0 #[.val (.ref x0), .val (.int x1), .val (.int x2)] [] := by first | (simp [entryFrame, mkF, argsToLocals, Value.category]; done) | rfl
def own_Q_cor (Z : State) (d : Addr) (kd : ClassId) (cN mm : Nat) (P : List Value) (h0 : Heap) (n0 : Nat) (v : Option Value) (h : Heap) (L : List Loc) : Prop := (∃ (w : Addr) (kw : ClassId) (R : List Value), v = some (.ref w) ∧ h0.size ≤ w ∧ Arv Z h w kw .byte (Int32.ofNat mm) R (.int 0) ∧ ∀ i, i < mm → R.getD i (.int 0) = P.getD i (.int 0)) ∧ Fr n0 L ∧ Ext h0 h
set_option maxRecDepth 65536 in
set_option maxHeartbeats 40000000 in
theorem own_rm_cor (l : Launch) (Z : State) (a0 : Array Value) (hw : ∀ d ∈ tables_1, d.before a0 Z = true) (ws : List Jvm.Cond) (d : Addr) (kd : ClassId) (cN mm : Nat) (P : List Value) (h0 : Heap) (n0 : Nat) (Z0 : n0 ≤ h0.size) (V_d : Arv Z h0 d kd .byte (Int32.ofNat cN) P (.int 0)) (hmc : mm ≤ cN) (hcN : cN ≤ 34)(E_d : Exa Z h0 d "[B") :
    MetFree l (⟨"java/util/Arrays", "copyOfRange", "([BII)[B"⟩ : MethodName) (head1 (Jvm.Cond.code (⟨"java/util/Arrays", "copyOfRange", "([BII)[B"⟩ : MethodName) jdk_65_method_132_code 3 (some (.array .byte)) :: ws) ({ frames := 2, cells := 1, slots := 34, locals := 76 } : Room)) (fun aa UU => aa = #[(.ref d), (.int (0 : Int32)), (.int (Int32.ofNat mm))] ∧ Z.Warmed39 UU.vm ∧ UU.heap = h0) (fun _ _ _ _ _ => True) (fun _ UU oo UU' => ∃ vv LL, oo = .returned vv ∧ own_Q_cor Z d kd cN mm P h0 n0 vv UU'.heap LL ∧ FrameEnd UU oo UU' LL ({ frames := 2, cells := 1, slots := 34, locals := 76 } : Room).cells ({ frames := 2, cells := 1, slots := 34, locals := 76 } : Room).slots) := by
  refine MetFree.of_bodySF (plainFor_of_name own_pn3) hisR ?_
  intro p e s m args below meth c s₁ Bd hml0 hP hK
  obtain ⟨rfl, hZ, hh⟩ := hP
  have hx := Bd.exec
  have hby := Bd.bytes
  have hml : c.maxLocals = 3 := hml0
  have hown : s.vm.findClass "java/util/Arrays" = some m.cls := findClass_of_methodNamed Bd.named
  have hnm := (name_of_methodNamed Bd.named Bd.method).1
  have X0 : Stand p l e ({ frames := 2, cells := 1, slots := 34, locals := 76 } : Room) s m #[(.ref d), (.int (0 : Int32)), (.int (Int32.ofNat mm))] below meth c s₁ [] 0 0 := Stand.of_body Bd
  have e0 : s₁.heap = h0 := by rw [← hh, Bd.state]; rfl
  have N0 := Fr.nil n0
  show own_Gl p e below (own_Post s (own_Q_cor Z d kd cN mm P h0 n0) ({ frames := 2, cells := 1, slots := 34, locals := 76 } : Room).cells ({ frames := 2, cells := 1, slots := 34, locals := 76 } : Room).slots) _
  refine own_st (fun tg_ kg_ => castTop (own_ef_cor m d (0 : Int32) (Int32.ofNat mm)) kg_) ?_
  show own_Gl p e below _ (s₁.setTop (mkF m 0 #[.val (.ref d), .val (.int (0 : Int32)), .val (.int (Int32.ofNat mm))] []))
  refine own_st (fun tg_ kg_ => XS.iloadN X0.here hx rfl (hb hby own_d_jdk_65_method_132_code_0) rfl kg_) ?_
  show own_Gl p e below _ (s₁.setTop (mkF m 1 #[.val (.ref d), .val (.int (0 : Int32)), .val (.int (Int32.ofNat mm))] [(.int (0 : Int32))]))
  refine own_st (fun tg_ kg_ => XS.ifNo X0.here hx rfl (hb hby own_d_jdk_65_method_132_code_1) rfl ((if0 _ _).trans (teq ((rfl : (0 : Int32) = (0 : Int32)))).2) kg_) ?_
  show own_Gl p e below _ (s₁.setTop (mkF m 4 #[.val (.ref d), .val (.int (0 : Int32)), .val (.int (Int32.ofNat mm))] []))
  refine own_st (fun tg_ kg_ => XS.iloadN X0.here hx rfl (hb hby own_d_jdk_65_method_132_code_4) rfl kg_) ?_
  show own_Gl p e below _ (s₁.setTop (mkF m 5 #[.val (.ref d), .val (.int (0 : Int32)), .val (.int (Int32.ofNat mm))] [(.int (Int32.ofNat mm))]))
  refine own_st (fun tg_ kg_ => XS.aloadN X0.here hx rfl (hb hby own_d_jdk_65_method_132_code_5) rfl rfl kg_) ?_
  show own_Gl p e below _ (s₁.setTop (mkF m 6 #[.val (.ref d), .val (.int (0 : Int32)), .val (.int (Int32.ofNat mm))] [(.ref d), (.int (Int32.ofNat mm))]))
  obtain ⟨cl1, Ar1, qa1, Sa1, Na1, Ha1, Ga1⟩ := id V_d
  refine own_st (fun tg_ kg_ => X0.arraylength hx (by rw [e0]; exact Ar1.1) (State.isArrayOf_alike hZ.alike Ar1.2.1) (g := (mkF m 6 #[.val (.ref d), .val (.int (0 : Int32)), .val (.int (Int32.ofNat mm))] [(.ref d), (.int (Int32.ofNat mm))])) rfl rfl (hb hby own_d_jdk_65_method_132_code_6) _ kg_) ?_
  rw [len_of Sa1 Na1]
  show own_Gl p e below _ (s₁.setTop (mkF m 7 #[.val (.ref d), .val (.int (0 : Int32)), .val (.int (Int32.ofNat mm))] [(.int (Int32.ofNat cN)), (.int (Int32.ofNat mm))]))
  by_cases hEq : mm = cN
  ·
    subst hEq
    show own_Gl p e below _ (s₁.setTop (mkF m 7 #[.val (.ref d), .val (.int (0 : Int32)), .val (.int (Int32.ofNat mm))] [(.int (Int32.ofNat mm)), (.int (Int32.ofNat mm))]))
    refine own_st (fun tg_ kg_ => XS.icmpYes X0.here hx rfl (pc0 := 7) (pc' := 17) rfl (hb hby own_d_jdk_65_method_132_code_7) rfl (teq (rfl)).1 (by decide) (by decide) kg_) ?_
    show own_Gl p e below _ (s₁.setTop (mkF m 17 #[.val (.ref d), .val (.int (0 : Int32)), .val (.int (Int32.ofNat mm))] []))
    refine own_st (fun tg_ kg_ => XS.aloadN X0.here hx rfl (hb hby own_d_jdk_65_method_132_code_17) rfl rfl kg_) ?_
    show own_Gl p e below _ (s₁.setTop (mkF m 18 #[.val (.ref d), .val (.int (0 : Int32)), .val (.int (Int32.ofNat mm))] [(.ref d)]))
    obtain ⟨T2, h2, X2, e2, E2, A2, B2, st2⟩ := cloneH X0 hx hZ hown (hw _ (List.mem_of_getElem? (i := 239) rfl)) (hw _ (List.mem_of_getElem? (i := 240) rfl)) (hw _ (List.mem_of_getElem? (i := 244) rfl)) (hw _ (List.mem_of_getElem? (i := 242) rfl)) (hw _ (List.mem_of_getElem? (i := 243) rfl)) (hw _ (List.mem_of_getElem? (i := 245) rfl)) e0 V_d.arh E_d (g := (mkF m 18 #[.val (.ref d), .val (.int (0 : Int32)), .val (.int (Int32.ofNat mm))] [(.ref d)])) rfl (by rw [hml]; rfl) rfl (hb hby own_d_jdk_65_method_132_code_18) (by decide) (W := 0) (cap := 34) (by show 2 * 0 + _ ≤ _; exact Nat.le_of_eq rfl) (by decide) (by rw [own_ofn_clamp (by omega)]; omega) (by decide) (by decide)
    obtain ⟨w, g2⟩ : ∃ z, z = h0.size := ⟨_, rfl⟩
    have ne_d_w : d ≠ w := Nat.ne_of_lt (Nat.lt_of_lt_of_le V_d.lt (Nat.le_of_eq g2.symm))
    have sz_w : h0.size ≤ w := Nat.le_of_eq g2.symm
    have g_w : n0 ≤ w := Nat.le_trans Z0 sz_w
    rw [← g2] at A2 B2 st2
    have V_w : Arv Z h2 w kd .byte (Int32.ofNat mm) P (.int 0) := A2
    have E_w := B2
    refine own_st st2 ?_
    try clear st2
    show own_Gl p e below _ (T2.setTop (mkF m 21 #[.val (.ref d), .val (.int (0 : Int32)), .val (.int (Int32.ofNat mm))] [(.ref w)]))
    obtain ⟨T4, X4, e4, st4⟩ := castY X2 hx hZ hown (hw _ (List.mem_of_getElem? (i := 246) rfl)) e2 (Ins.self E_w) (g := (mkF m 21 #[.val (.ref d), .val (.int (0 : Int32)), .val (.int (Int32.ofNat mm))] [(.ref w)])) rfl rfl (hb hby own_d_jdk_65_method_132_code_21)
    refine own_st st4 ?_
    try clear st4
    try clear e2
    try clear X2
    try clear T2
    show own_Gl p e below _ (T4.setTop (mkF m 24 #[.val (.ref d), .val (.int (0 : Int32)), .val (.int (Int32.ofNat mm))] [(.ref w)]))
    exact own_retA X4 hx Bd.notSynchronized Bd.returns rfl rfl (hb hby own_d_jdk_65_method_132_code_24) (by decide) (by decide) e4 (⟨⟨_, _, _, rfl, sz_w, V_w, fun i _ => rfl⟩, N0, E2⟩)
  ·
    show own_Gl p e below _ (s₁.setTop (mkF m 7 #[.val (.ref d), .val (.int (0 : Int32)), .val (.int (Int32.ofNat mm))] [(.int (Int32.ofNat cN)), (.int (Int32.ofNat mm))]))
    refine own_st (fun tg_ kg_ => XS.icmpNo X0.here hx rfl (hb hby own_d_jdk_65_method_132_code_7) rfl (feq (fun q => hEq (own_ofn_inj (by omega) (by omega) q))).1 kg_) ?_
    show own_Gl p e below _ (s₁.setTop (mkF m 10 #[.val (.ref d), .val (.int (0 : Int32)), .val (.int (Int32.ofNat mm))] []))
    refine own_st (fun tg_ kg_ => XS.aloadN X0.here hx rfl (hb hby own_d_jdk_65_method_132_code_10) rfl rfl kg_) ?_
    show own_Gl p e below _ (s₁.setTop (mkF m 11 #[.val (.ref d), .val (.int (0 : Int32)), .val (.int (Int32.ofNat mm))] [(.ref d)]))
    refine own_st (fun tg_ kg_ => XS.iloadN X0.here hx rfl (hb hby own_d_jdk_65_method_132_code_11) rfl kg_) ?_
    show own_Gl p e below _ (s₁.setTop (mkF m 12 #[.val (.ref d), .val (.int (0 : Int32)), .val (.int (Int32.ofNat mm))] [(.int (0 : Int32)), (.ref d)]))
    refine own_st (fun tg_ kg_ => XS.iloadN X0.here hx rfl (hb hby own_d_jdk_65_method_132_code_12) rfl kg_) ?_
    show own_Gl p e below _ (s₁.setTop (mkF m 13 #[.val (.ref d), .val (.int (0 : Int32)), .val (.int (Int32.ofNat mm))] [(.int (Int32.ofNat mm)), (.int (0 : Int32)), (.ref d)]))
    obtain ⟨_, _, ⟨T5, L5, k5, n5⟩, -, X5, ⟨Lc5, hQ5, l5, y5, z5⟩, st5⟩ := Jvm.LawKit.callS X0 hx (y := (⟨"java/util/Arrays", "copyOfRangeByte", "([BII)[B"⟩ : MethodName)) hown (mvT hZ (hw _ (List.mem_of_getElem? (i := 167) rfl))) (mvT hZ (hw _ (List.mem_of_getElem? (i := 168) rfl))) (mvT hZ (hw _ (List.mem_of_getElem? (i := 165) rfl))) (mvT hZ (hw _ (List.mem_of_getElem? (i := 169) rfl))) (by decide) (backOf (W := 0) (own_rm_crb l Z a0 hw [] d kd cN mm P h0 n0 Z0 V_d hmc hcN) hZ (hw _ (List.mem_of_getElem? (i := 169) rfl)) (hw _ (List.mem_of_getElem? (i := 165) rfl)) (by decide) (by decide)) (g := (mkF m 13 #[.val (.ref d), .val (.int (0 : Int32)), .val (.int (Int32.ofNat mm))] [(.int (Int32.ofNat mm)), (.int (0 : Int32)), (.ref d)])) rfl (by rw [hml]; rfl) (argsL := [(.ref d), (.int (0 : Int32)), (.int (Int32.ofNat mm))]) (rest := []) (lenOf own_pd15 rfl) rfl (by show 2 * 0 + _ ≤ _; exact Nat.le_of_eq rfl) (hb hby own_d_jdk_65_method_132_code_13) (fun _ _ => ⟨rfl, e0, (by decide : 0 + 1 ≤ _), (by decide : 0 + 34 ≤ _)⟩)
    dsimp only [Pt.U, Pt.locs, Pt.cells, Pt.slots] at X5 l5 y5 z5 st5 hQ5
    obtain rfl : k5 = 1 := y5
    obtain rfl : n5 = 34 := z5
    obtain ⟨⟨w, kw, R, rfl, szc5, V_w, hR⟩, N5q, Kc5⟩ := hQ5
    have N5 : Fr n0 L5 := by rw [l5]; exact Fr.app N0 N5q
    try clear l5
    refine own_st st5 ?_
    have ne_d_w : d ≠ w := Nat.ne_of_lt (Nat.lt_of_lt_of_le V_d.lt szc5)
    have sz_w : h0.size ≤ w := szc5
    have g_w : n0 ≤ w := Nat.le_trans Z0 sz_w
    have szw : h0.size ≤ w := szc5
    show own_Gl p e below _ (T5.setTop (mkF m 16 #[.val (.ref d), .val (.int (0 : Int32)), .val (.int (Int32.ofNat mm))] [(.ref w)]))
    try clear st5
    try clear N5q
    exact own_retA X5 hx Bd.notSynchronized Bd.returns rfl rfl (hb hby own_d_jdk_65_method_132_code_16) (by decide) (by decide) rfl (⟨⟨_, _, _, rfl, szw, V_w, hR⟩, N5, Kc5⟩)
theorem own_pd16 : parseMethodDescriptor "()[B" = some ⟨[], some (.array .byte)⟩ := by decide +kernel
theorem own_d_jdk_42_method_150_code_0 : decode jdk_42_method_150_code 0 = .ok (.aload_n 0, 1) := by decide +kernel
theorem own_d_jdk_42_method_150_code_1 : decode jdk_42_method_150_code 1 = .ok (.invokespecial 1, 3) := by decide +kernel
theorem own_d_jdk_42_method_150_code_4 : decode jdk_42_method_150_code 4 = .ok (.aload_n 1, 1) := by decide +kernel
theorem own_d_jdk_42_method_150_code_5 : decode jdk_42_method_150_code 5 = .ok (.invokevirtual 552, 3) := by decide +kernel
theorem own_d_jdk_42_method_150_code_8 : decode jdk_42_method_150_code 8 = .ok (.astore_n 3, 1) := by decide +kernel
theorem own_d_jdk_42_method_150_code_9 : decode jdk_42_method_150_code 9 = .ok (.aload_n 1, 1) := by decide +kernel
theorem own_d_jdk_42_method_150_code_10 : decode jdk_42_method_150_code 10 = .ok (.invokevirtual 549, 3) := by decide +kernel
theorem own_d_jdk_42_method_150_code_13 : decode jdk_42_method_150_code 13 = .ok (.istore 4, 2) := by decide +kernel
theorem own_d_jdk_42_method_150_code_15 : decode jdk_42_method_150_code 15 = .ok (.aload_n 1, 1) := by decide +kernel
theorem own_d_jdk_42_method_150_code_16 : decode jdk_42_method_150_code 16 = .ok (.invokevirtual 1047, 3) := by decide +kernel
theorem own_d_jdk_42_method_150_code_19 : decode jdk_42_method_150_code 19 = .ok (.ifCond .eq 22, 3) := by decide +kernel
theorem own_d_jdk_42_method_150_code_22 : decode jdk_42_method_150_code 22 = .ok (.aload_n 0, 1) := by decide +kernel
theorem own_d_jdk_42_method_150_code_23 : decode jdk_42_method_150_code 23 = .ok (.iconst 0, 1) := by decide +kernel
theorem own_d_jdk_42_method_150_code_24 : decode jdk_42_method_150_code 24 = .ok (.putfield 15, 3) := by decide +kernel
theorem own_d_jdk_42_method_150_code_27 : decode jdk_42_method_150_code 27 = .ok (.aload_n 0, 1) := by decide +kernel
theorem own_d_jdk_42_method_150_code_28 : decode jdk_42_method_150_code 28 = .ok (.aload_n 3, 1) := by decide +kernel
theorem own_d_jdk_42_method_150_code_29 : decode jdk_42_method_150_code 29 = .ok (.iconst 0, 1) := by decide +kernel
theorem own_d_jdk_42_method_150_code_30 : decode jdk_42_method_150_code 30 = .ok (.iload 4, 2) := by decide +kernel
theorem own_d_jdk_42_method_150_code_32 : decode jdk_42_method_150_code 32 = .ok (.invokestatic 54, 3) := by decide +kernel
theorem own_d_jdk_42_method_150_code_35 : decode jdk_42_method_150_code 35 = .ok (.putfield 9, 3) := by decide +kernel
theorem own_d_jdk_42_method_150_code_38 : decode jdk_42_method_150_code 38 = .ok (.goto 59, 3) := by decide +kernel
theorem own_d_jdk_42_method_150_code_97 : decode jdk_42_method_150_code 97 = .ok (.return_, 1) := by decide +kernel
theorem own_ef_sia (m : MethodId) (x0 : Addr) (x1 : Addr) : entryFrame m #[(.ref x0), (.ref x1), .null] 5 = mkF m 0 #[.val (.ref x0), .val (.ref x1), .val .null, .unset, .unset] [] := by first | (simp [entryFrame, mkF, argsToLocals, Value.category]; done) | rfl
def own_Q_sia (Z : State) (x b d : Addr) (kd : ClassId) (cN mm : Nat) (P : List Value) (zc : Int32) (h0 : Heap) (n0 : Nat) (v : Option Value) (h : Heap) (L : List Loc) : Prop := v = none ∧ Fr n0 L ∧ Keep h0 h [x] ∧ ∃ (u : Addr) (ku : ClassId) (R : List Value), Fld Z h x "java/lang/String" "value" "[B" (.ref u) ∧ Fld Z h x "java/lang/String" "coder" "B" (.int 0) ∧ Arv Z h u ku .byte (Int32.ofNat mm) R (.int 0) ∧ ∀ i, i < mm → R.getD i (.int 0) = P.getD i (.int 0)
set_option maxRecDepth 65536 in
set_option maxHeartbeats 40000000 in
theorem own_rm_sia (l : Launch) (Z : State) (a0 : Array Value) (hw : ∀ d ∈ tables_1, d.before a0 Z = true) (ws : List Jvm.Cond) (x b d : Addr) (kd : ClassId) (cN mm : Nat) (P : List Value) (zc : Int32) (h0 : Heap) (n0 : Nat) (Z0 : n0 ≤ h0.size) (S_C : Sta Z h0 "java/lang/String" "COMPACT_STRINGS" "Z" (.int zc)) (hzc : ¬ zc = 0)(E_x : Exa Z h0 x "java/lang/String")(F_v : Fld Z h0 x "java/lang/String" "value" "[B" .null) (F_c : Fld Z h0 x "java/lang/String" "coder" "B" (.int (0 : Int32))) (g_x : n0 ≤ x)(E_b : Exa Z h0 b "java/lang/StringBuilder")(G_v : Fld Z h0 b "java/lang/AbstractStringBuilder" "value" "[B" (.ref d)) (G_c : Fld Z h0 b "java/lang/AbstractStringBuilder" "coder" "B" (.int 0))(G_n : Fld Z h0 b "java/lang/AbstractStringBuilder" "count" "I" (.int (Int32.ofNat mm)))(V_d : Arv Z h0 d kd .byte (Int32.ofNat cN) P (.int 0)) (hmc : mm ≤ cN) (hcN : cN ≤ 34)(E_d : Exa Z h0 d "[B")(ne_b_x : b ≠ x) (ne_d_x : d ≠ x) :
    MetFree l (⟨"java/lang/String", "<init>", "(Ljava/lang/AbstractStringBuilder;Ljava/lang/Void;)V"⟩ : MethodName) (head1 (Jvm.Cond.code (⟨"java/lang/String", "<init>", "(Ljava/lang/AbstractStringBuilder;Ljava/lang/Void;)V"⟩ : MethodName) jdk_42_method_150_code 5 none :: ws) ({ frames := 3, cells := 1, slots := 34, locals := 91 } : Room)) (fun aa UU => aa = #[(.ref x), (.ref b), .null] ∧ Z.Warmed39 UU.vm ∧ UU.heap = h0) (fun _ _ _ _ _ => True) (fun _ UU oo UU' => ∃ vv LL, oo = .returned vv ∧ own_Q_sia Z x b d kd cN mm P zc h0 n0 vv UU'.heap LL ∧ FrameEnd UU oo UU' LL ({ frames := 3, cells := 1, slots := 34, locals := 91 } : Room).cells ({ frames := 3, cells := 1, slots := 34, locals := 91 } : Room).slots) := by
  refine MetFree.of_bodySF (plainFor_of_name own_pn6) hisR ?_
  intro p e s m args below meth c s₁ Bd hml0 hP hK
  obtain ⟨rfl, hZ, hh⟩ := hP
  have hx := Bd.exec
  have hby := Bd.bytes
  have hml : c.maxLocals = 5 := hml0
  have hown : s.vm.findClass "java/lang/String" = some m.cls := findClass_of_methodNamed Bd.named
  have hnm := (name_of_methodNamed Bd.named Bd.method).1
  have X0 : Stand p l e ({ frames := 3, cells := 1, slots := 34, locals := 91 } : Room) s m #[(.ref x), (.ref b), .null] below meth c s₁ [] 0 0 := Stand.of_body Bd
  have e0 : s₁.heap = h0 := by rw [← hh, Bd.state]; rfl
  have N0 := Fr.nil n0
  have K0 : Keep h0 h0 [x] := Keep.refl h0 _
  show own_Gl p e below (own_Post s (own_Q_sia Z x b d kd cN mm P zc h0 n0) ({ frames := 3, cells := 1, slots := 34, locals := 91 } : Room).cells ({ frames := 3, cells := 1, slots := 34, locals := 91 } : Room).slots) _
  refine own_st (fun tg_ kg_ => castTop (own_ef_sia m x b) kg_) ?_
  show own_Gl p e below _ (s₁.setTop (mkF m 0 #[.val (.ref x), .val (.ref b), .val .null, .unset, .unset] []))
  have ns_x := E_x.nostat
  refine own_st (fun tg_ kg_ => XS.aloadN X0.here hx rfl (hb hby own_d_jdk_42_method_150_code_0) rfl rfl kg_) ?_
  show own_Gl p e below _ (s₁.setTop (mkF m 1 #[.val (.ref x), .val (.ref b), .val .null, .unset, .unset] [(.ref x)]))
  obtain ⟨T1, X1, e1, st1⟩ := initO X0 hx hZ hown (hw _ (List.mem_of_getElem? (i := 148) rfl)) (hw _ (List.mem_of_getElem? (i := 11) rfl)) (hw _ (List.mem_of_getElem? (i := 12) rfl)) e0 (g := (mkF m 1 #[.val (.ref x), .val (.ref b), .val .null, .unset, .unset] [(.ref x)])) rfl (by rw [hml]; rfl) rfl (hb hby own_d_jdk_42_method_150_code_1) (by decide) (W := 0) (by show 2 * 0 + _ ≤ _; exact Nat.le_of_eq rfl) (by decide)
  refine own_st st1 ?_
  try clear st1
  show own_Gl p e below _ (T1.setTop (mkF m 4 #[.val (.ref x), .val (.ref b), .val .null, .unset, .unset] []))
  refine own_st (fun tg_ kg_ => XS.aloadN X1.here hx rfl (hb hby own_d_jdk_42_method_150_code_4) rfl rfl kg_) ?_
  show own_Gl p e below _ (T1.setTop (mkF m 5 #[.val (.ref x), .val (.ref b), .val .null, .unset, .unset] [(.ref b)]))
  obtain ⟨cq2, kq2, q2a, q2b, q2c⟩ := isOf hZ e1 (E_b.keep K0)
  obtain ⟨_, _, ⟨T2, L2, k2, n2⟩, -, X2, ⟨Lc2, hQ2, l2, y2, z2⟩, st2⟩ := X1.virtualBack hx (y := (⟨"java/lang/AbstractStringBuilder", "getValue", "()[B"⟩ : MethodName)) (z := (⟨"java/lang/AbstractStringBuilder", "getValue", "()[B"⟩ : MethodName)) hown (mvT hZ (hw _ (List.mem_of_getElem? (i := 149) rfl))) (mvT hZ (hw _ (List.mem_of_getElem? (i := 150) rfl))) (notFace_of_selects (args := #[]) (mvT hZ (hw _ (List.mem_of_getElem? (i := 152) rfl)))) (mvT hZ (hw _ (List.mem_of_getElem? (i := 152) rfl))) (mvT hZ (hw _ (List.mem_of_getElem? (i := 151) rfl))) (by decide) (backOf (W := 0) (own_rm_gvl l Z a0 hw [] b d h0 n0 (Nat.le_trans Z0 K0.1) (G_v.keep K0 (ninS ne_b_x nin0))) hZ (hw _ (List.mem_of_getElem? (i := 153) rfl)) (hw _ (List.mem_of_getElem? (i := 47) rfl)) (by decide) (by decide)) q2a q2c (g := (mkF m 5 #[.val (.ref x), .val (.ref b), .val .null, .unset, .unset] [(.ref b)])) rfl (by rw [hml]; rfl) (Steps.refl _) (argsL := []) (rest := []) (lenOf own_pd16 rfl) rfl (by show 2 * 0 + _ ≤ _; exact Nat.le_of_eq rfl) (hb hby own_d_jdk_42_method_150_code_5) (fun _ _ => ⟨rfl, e1, (by decide : 0 + 0 ≤ _), (by decide : 0 + 0 ≤ _)⟩)
  dsimp only [Pt.U, Pt.locs, Pt.cells, Pt.slots] at X2 l2 y2 z2 st2 hQ2
  obtain rfl : k2 = 0 := y2
  obtain rfl : n2 = 0 := z2
  obtain ⟨rfl, N2q, e2⟩ := hQ2
  have N2 : Fr n0 L2 := by rw [l2]; exact Fr.app N0 N2q
  try clear l2
  refine own_tr st2 ?_
  show own_Gl p e below _ (T2.setTop (mkF m 8 #[.val (.ref x), .val (.ref b), .val .null, .unset, .unset] [(.ref d)]))
  try clear st2
  try clear N2q
  try clear e1
  try clear X1
  try clear T1
  refine own_st (fun tg_ kg_ => XS.astoreN X2.here hx rfl (hb hby own_d_jdk_42_method_150_code_8) rfl rfl (l' := #[.val (.ref x), .val (.ref b), .val .null, .val (.ref d), .unset]) rfl kg_) ?_
  show own_Gl p e below _ (T2.setTop (mkF m 9 #[.val (.ref x), .val (.ref b), .val .null, .val (.ref d), .unset] []))
  refine own_st (fun tg_ kg_ => XS.aloadN X2.here hx rfl (hb hby own_d_jdk_42_method_150_code_9) rfl rfl kg_) ?_
  show own_Gl p e below _ (T2.setTop (mkF m 10 #[.val (.ref x), .val (.ref b), .val .null, .val (.ref d), .unset] [(.ref b)]))
  obtain ⟨cq3, kq3, q3a, q3b, q3c⟩ := isOf hZ e2 (E_b.keep K0)
  obtain ⟨_, _, ⟨T3, L3, k3, n3⟩, -, X3, ⟨Lc3, hQ3, l3, y3, z3⟩, st3⟩ := X2.virtualBack hx (y := (⟨"java/lang/AbstractStringBuilder", "length", "()I"⟩ : MethodName)) (z := (⟨"java/lang/StringBuilder", "length", "()I"⟩ : MethodName)) hown (mvT hZ (hw _ (List.mem_of_getElem? (i := 154) rfl))) (mvT hZ (hw _ (List.mem_of_getElem? (i := 155) rfl))) (own_nf (y := (⟨"java/lang/AbstractStringBuilder", "length", "()I"⟩ : MethodName)) (a0 := #[]) (mvT hZ (hw _ (List.mem_of_getElem? (i := 76) rfl))) rfl) (mvT hZ (hw _ (List.mem_of_getElem? (i := 157) rfl))) (mvT hZ (hw _ (List.mem_of_getElem? (i := 158) rfl))) (by decide) (backOf (W := 0) (own_rm_sbl l Z a0 hw [] b (Int32.ofNat mm) h0 n0 (Nat.le_trans Z0 K0.1) (E_b.keep K0) (G_n.keep K0 (ninS ne_b_x nin0))) hZ (hw _ (List.mem_of_getElem? (i := 159) rfl)) (hw _ (List.mem_of_getElem? (i := 39) rfl)) (by decide) (by decide)) q3a q3c (g := (mkF m 10 #[.val (.ref x), .val (.ref b), .val .null, .val (.ref d), .unset] [(.ref b)])) rfl (by rw [hml]; rfl) (Steps.refl _) (argsL := []) (rest := []) (lenOf own_pd4 rfl) rfl (by show 2 * 0 + _ ≤ _; exact Nat.le_of_eq rfl) (hb hby own_d_jdk_42_method_150_code_10) (fun _ _ => ⟨rfl, e2, (by decide : 0 + 0 ≤ _), (by decide : 0 + 0 ≤ _)⟩)
  dsimp only [Pt.U, Pt.locs, Pt.cells, Pt.slots] at X3 l3 y3 z3 st3 hQ3
  obtain rfl : k3 = 0 := y3
  obtain rfl : n3 = 0 := z3
  obtain ⟨rfl, N3q, e3⟩ := hQ3
  have N3 : Fr n0 L3 := by rw [l3]; exact Fr.app N2 N3q
  try clear l3
  refine own_tr st3 ?_
  show own_Gl p e below _ (T3.setTop (mkF m 13 #[.val (.ref x), .val (.ref b), .val .null, .val (.ref d), .unset] [(.int (Int32.ofNat mm))]))
  try clear st3
  try clear N3q
  try clear N2
  try clear e2
  try clear X2
  try clear T2
  refine own_st (fun tg_ kg_ => XS.istore X3.here hx rfl (hb hby own_d_jdk_42_method_150_code_13) rfl (l' := #[.val (.ref x), .val (.ref b), .val .null, .val (.ref d), .val (.int (Int32.ofNat mm))]) rfl kg_) ?_
  show own_Gl p e below _ (T3.setTop (mkF m 15 #[.val (.ref x), .val (.ref b), .val .null, .val (.ref d), .val (.int (Int32.ofNat mm))] []))
  refine own_st (fun tg_ kg_ => XS.aloadN X3.here hx rfl (hb hby own_d_jdk_42_method_150_code_15) rfl rfl kg_) ?_
  show own_Gl p e below _ (T3.setTop (mkF m 16 #[.val (.ref x), .val (.ref b), .val .null, .val (.ref d), .val (.int (Int32.ofNat mm))] [(.ref b)]))
  obtain ⟨cq4, kq4, q4a, q4b, q4c⟩ := isOf hZ e3 (E_b.keep K0)
  obtain ⟨_, _, ⟨T4, L4, k4, n4⟩, -, X4, ⟨Lc4, hQ4, l4, y4, z4⟩, st4⟩ := X3.virtualBack hx (y := (⟨"java/lang/AbstractStringBuilder", "isLatin1", "()Z"⟩ : MethodName)) (z := (⟨"java/lang/AbstractStringBuilder", "isLatin1", "()Z"⟩ : MethodName)) hown (mvT hZ (hw _ (List.mem_of_getElem? (i := 162) rfl))) (mvT hZ (hw _ (List.mem_of_getElem? (i := 79) rfl))) (notFace_of_selects (args := #[]) (mvT hZ (hw _ (List.mem_of_getElem? (i := 81) rfl)))) (mvT hZ (hw _ (List.mem_of_getElem? (i := 81) rfl))) (mvT hZ (hw _ (List.mem_of_getElem? (i := 80) rfl))) (by decide) (backOf (W := 0) (own_rm_alt l Z a0 hw [] b zc h0 n0 (Nat.le_trans Z0 K0.1) (own_sta_keep S_C K0 (nsS ns_x ns0)) hzc (G_c.keep K0 (ninS ne_b_x nin0))) hZ (hw _ (List.mem_of_getElem? (i := 82) rfl)) (hw _ (List.mem_of_getElem? (i := 47) rfl)) (by decide) (by decide)) q4a q4c (g := (mkF m 16 #[.val (.ref x), .val (.ref b), .val .null, .val (.ref d), .val (.int (Int32.ofNat mm))] [(.ref b)])) rfl (by rw [hml]; rfl) (Steps.refl _) (argsL := []) (rest := []) (lenOf own_pd6 rfl) rfl (by show 2 * 0 + _ ≤ _; exact Nat.le_of_eq rfl) (hb hby own_d_jdk_42_method_150_code_16) (fun _ _ => ⟨rfl, e3, (by decide : 0 + 0 ≤ _), (by decide : 0 + 0 ≤ _)⟩)
  dsimp only [Pt.U, Pt.locs, Pt.cells, Pt.slots] at X4 l4 y4 z4 st4 hQ4
  obtain rfl : k4 = 0 := y4
  obtain rfl : n4 = 0 := z4
  obtain ⟨rfl, N4q, e4⟩ := hQ4
  have N4 : Fr n0 L4 := by rw [l4]; exact Fr.app N3 N4q
  try clear l4
  refine own_tr st4 ?_
  show own_Gl p e below _ (T4.setTop (mkF m 19 #[.val (.ref x), .val (.ref b), .val .null, .val (.ref d), .val (.int (Int32.ofNat mm))] [(.int (1 : Int32))]))
  try clear st4
  try clear N4q
  try clear N3
  try clear e3
  try clear X3
  try clear T3
  refine own_st (fun tg_ kg_ => XS.ifNo X4.here hx rfl (hb hby own_d_jdk_42_method_150_code_19) rfl ((if0 _ _).trans (feq ((by decide : ¬ ((1 : Int32) = (0 : Int32))))).1) kg_) ?_
  show own_Gl p e below _ (T4.setTop (mkF m 22 #[.val (.ref x), .val (.ref b), .val .null, .val (.ref d), .val (.int (Int32.ofNat mm))] []))
  refine own_st (fun tg_ kg_ => XS.aloadN X4.here hx rfl (hb hby own_d_jdk_42_method_150_code_22) rfl rfl kg_) ?_
  show own_Gl p e below _ (T4.setTop (mkF m 23 #[.val (.ref x), .val (.ref b), .val .null, .val (.ref d), .val (.int (Int32.ofNat mm))] [(.ref x)]))
  refine own_st (fun tg_ kg_ => XS.iconst X4.here hx rfl (hb hby own_d_jdk_42_method_150_code_23) kg_) ?_
  show own_Gl p e below _ (T4.setTop (mkF m 24 #[.val (.ref x), .val (.ref b), .val .null, .val (.ref d), .val (.int (Int32.ofNat mm))] [(.int (0 : Int32)), (.ref x)]))
  obtain ⟨T5, h5, X5, e5, W5, st5⟩ := putFN X4 hx hZ hown (hw _ (List.mem_of_getElem? (i := 114) rfl)) Via.refl e4 F_c E_x (Or.inr ⟨(hw _ (List.mem_of_getElem? (i := 90) rfl)), rfl, hnm⟩) (hw _ (List.mem_of_getElem? (i := 88) rfl)) (ty := .byte) (v' := (.int (nar .byte (0 : Int32)))) (by decide) rfl (fits_nar_byte _) (g := (mkF m 24 #[.val (.ref x), .val (.ref b), .val .null, .val (.ref d), .val (.int (Int32.ofNat mm))] [(.int (0 : Int32)), (.ref x)])) rfl rfl (hb hby own_d_jdk_42_method_150_code_24)
  have N5 := Fr.snoc X5 N4 g_x
  try clear N4
  replace E_x := E_x.wr W5
  replace F_v := F_v.other W5 (Or.inr (slot_ne (Or.inr (hw _ (List.mem_of_getElem? (i := 89) rfl))) (Or.inr (hw _ (List.mem_of_getElem? (i := 90) rfl))) (by decide) (t := (.array .byte)) (t' := .byte) (by decide) (by decide)))
  replace F_c := F_c.same W5
  have K6 : Keep h0 h5 [x] := K0.wr W5 (Or.inl (List.mem_of_getElem? (i := 0) rfl))
  refine own_st st5 ?_
  try clear st5
  try clear e4
  try clear X4
  try clear T4
  show own_Gl p e below _ (T5.setTop (mkF m 27 #[.val (.ref x), .val (.ref b), .val .null, .val (.ref d), .val (.int (Int32.ofNat mm))] []))
  refine own_st (fun tg_ kg_ => XS.aloadN X5.here hx rfl (hb hby own_d_jdk_42_method_150_code_27) rfl rfl kg_) ?_
  show own_Gl p e below _ (T5.setTop (mkF m 28 #[.val (.ref x), .val (.ref b), .val .null, .val (.ref d), .val (.int (Int32.ofNat mm))] [(.ref x)]))
  refine own_st (fun tg_ kg_ => XS.aloadN X5.here hx rfl (hb hby own_d_jdk_42_method_150_code_28) rfl rfl kg_) ?_
  show own_Gl p e below _ (T5.setTop (mkF m 29 #[.val (.ref x), .val (.ref b), .val .null, .val (.ref d), .val (.int (Int32.ofNat mm))] [(.ref d), (.ref x)]))
  refine own_st (fun tg_ kg_ => XS.iconst X5.here hx rfl (hb hby own_d_jdk_42_method_150_code_29) kg_) ?_
  show own_Gl p e below _ (T5.setTop (mkF m 30 #[.val (.ref x), .val (.ref b), .val .null, .val (.ref d), .val (.int (Int32.ofNat mm))] [(.int (0 : Int32)), (.ref d), (.ref x)]))
  refine own_st (fun tg_ kg_ => XS.iload X5.here hx rfl (hb hby own_d_jdk_42_method_150_code_30) rfl kg_) ?_
  show own_Gl p e below _ (T5.setTop (mkF m 32 #[.val (.ref x), .val (.ref b), .val .null, .val (.ref d), .val (.int (Int32.ofNat mm))] [(.int (Int32.ofNat mm)), (.int (0 : Int32)), (.ref d), (.ref x)]))
  obtain ⟨_, _, ⟨T7, L7, k7, n7⟩, -, X7, ⟨Lc7, hQ7, l7, y7, z7⟩, st7⟩ := Jvm.LawKit.callS X5 hx (y := (⟨"java/util/Arrays", "copyOfRange", "([BII)[B"⟩ : MethodName)) hown (mvT hZ (hw _ (List.mem_of_getElem? (i := 163) rfl))) (mvT hZ (hw _ (List.mem_of_getElem? (i := 164) rfl))) (mvT hZ (hw _ (List.mem_of_getElem? (i := 165) rfl))) (mvT hZ (hw _ (List.mem_of_getElem? (i := 166) rfl))) (by decide) (backOf (W := 1) (own_rm_cor l Z a0 hw [] d kd cN mm P h5 n0 (Nat.le_trans Z0 K6.1) (V_d.keep K6 (ninS ne_d_x nin0)) hmc hcN (E_d.keep K6)) hZ (hw _ (List.mem_of_getElem? (i := 166) rfl)) (hw _ (List.mem_of_getElem? (i := 165) rfl)) (by decide) (by decide)) (g := (mkF m 32 #[.val (.ref x), .val (.ref b), .val .null, .val (.ref d), .val (.int (Int32.ofNat mm))] [(.int (Int32.ofNat mm)), (.int (0 : Int32)), (.ref d), (.ref x)])) rfl (by rw [hml]; rfl) (argsL := [(.ref d), (.int (0 : Int32)), (.int (Int32.ofNat mm))]) (rest := [(.ref x)]) (lenOf own_pd15 rfl) rfl (by show 2 * 0 + _ ≤ _; exact Nat.le_of_eq rfl) (hb hby own_d_jdk_42_method_150_code_32) (fun _ _ => ⟨rfl, e5, (by decide : 0 + 1 ≤ _), (by decide : 0 + 34 ≤ _)⟩)
  dsimp only [Pt.U, Pt.locs, Pt.cells, Pt.slots] at X7 l7 y7 z7 st7 hQ7
  obtain rfl : k7 = 1 := y7
  obtain rfl : n7 = 34 := z7
  obtain ⟨⟨u, ku, R, rfl, szc7, V_u, hR⟩, N7q, Kc7⟩ := hQ7
  have N7 : Fr n0 L7 := by rw [l7]; exact Fr.app N5 N7q
  try clear l7
  refine own_st st7 ?_
  have ne_b_u : b ≠ u := Nat.ne_of_lt (Nat.lt_of_lt_of_le (E_b.keep K6).lt szc7)
  have ne_d_u : d ≠ u := Nat.ne_of_lt (Nat.lt_of_lt_of_le (V_d.keep K6 (ninS ne_d_x nin0)).lt szc7)
  have ne_x_u : x ≠ u := Nat.ne_of_lt (Nat.lt_of_lt_of_le E_x.lt szc7)
  have sz_u : h0.size ≤ u := Nat.le_trans K6.1 szc7
  have g_u : n0 ≤ u := Nat.le_trans Z0 sz_u
  replace E_x := E_x.ext Kc7
  replace F_v := F_v.ext Kc7
  replace F_c := F_c.ext Kc7
  have K8 : Keep h0 T7.heap [x] := K6.ext Kc7
  try clear Kc7
  try clear K6
  show own_Gl p e below _ (T7.setTop (mkF m 35 #[.val (.ref x), .val (.ref b), .val .null, .val (.ref d), .val (.int (Int32.ofNat mm))] [(.ref u), (.ref x)]))
  try clear st7
  try clear N7q
  try clear N5
  try clear e5
  try clear X5
  try clear T5
  obtain ⟨T9, h9, X9, e9, W9, st9⟩ := putF X7 hx hZ hown (host := "") (Or.inl (hw _ (List.mem_of_getElem? (i := 107) rfl))) Via.refl rfl F_v E_x (Or.inr ⟨(hw _ (List.mem_of_getElem? (i := 89) rfl)), rfl, hnm⟩) (hw _ (List.mem_of_getElem? (i := 88) rfl)) (ty := (.array .byte)) (by decide) rfl rfl (g := (mkF m 35 #[.val (.ref x), .val (.ref b), .val .null, .val (.ref d), .val (.int (Int32.ofNat mm))] [(.ref u), (.ref x)])) rfl rfl (hb hby own_d_jdk_42_method_150_code_35)
  have N9 := Fr.snoc X9 N7 g_x
  try clear N7
  replace E_x := E_x.wr W9
  replace F_v := F_v.same W9
  replace F_c := F_c.other W9 (Or.inr (slot_ne (Or.inr (hw _ (List.mem_of_getElem? (i := 90) rfl))) (Or.inr (hw _ (List.mem_of_getElem? (i := 89) rfl))) (by decide) (t := .byte) (t' := (.array .byte)) (by decide) (by decide)))
  replace V_u := V_u.other W9 ne_x_u.symm
  have K10 : Keep h0 h9 [x] := K8.wr W9 (Or.inl (List.mem_of_getElem? (i := 0) rfl))
  try clear K8
  refine own_st st9 ?_
  try clear st9
  try clear X7
  try clear T7
  show own_Gl p e below _ (T9.setTop (mkF m 38 #[.val (.ref x), .val (.ref b), .val .null, .val (.ref d), .val (.int (Int32.ofNat mm))] []))
  refine own_st (fun tg_ kg_ => XS.goto X9.here hx rfl (pc0 := 38) (pc' := 97) rfl (hb hby own_d_jdk_42_method_150_code_38) (by decide) (by decide) kg_) ?_
  show own_Gl p e below _ (T9.setTop (mkF m 97 #[.val (.ref x), .val (.ref b), .val .null, .val (.ref d), .val (.int (Int32.ofNat mm))] []))
  exact own_retV X9 hx Bd.notSynchronized Bd.returns (hb hby own_d_jdk_42_method_150_code_97) (by decide) (by decide) e9 (⟨rfl, N9, K10, u, ku, R, F_v, own_nb0 ▸ F_c, V_u, hR⟩)
theorem own_pd17 : parseMethodDescriptor "(Ljava/lang/AbstractStringBuilder;Ljava/lang/Void;)V" = some ⟨[(.object "java/lang/AbstractStringBuilder"), (.object "java/lang/Void")], none⟩ := by decide +kernel
theorem own_d_jdk_42_method_53_code_0 : decode jdk_42_method_53_code 0 = .ok (.aload_n 0, 1) := by decide +kernel
theorem own_d_jdk_42_method_53_code_1 : decode jdk_42_method_53_code 1 = .ok (.aload_n 1, 1) := by decide +kernel
theorem own_d_jdk_42_method_53_code_2 : decode jdk_42_method_53_code 2 = .ok (.aconst_null, 1) := by decide +kernel
theorem own_d_jdk_42_method_53_code_3 : decode jdk_42_method_53_code 3 = .ok (.invokespecial 489, 3) := by decide +kernel
theorem own_d_jdk_42_method_53_code_6 : decode jdk_42_method_53_code 6 = .ok (.return_, 1) := by decide +kernel
theorem own_ef_sis (m : MethodId) (x0 : Addr) (x1 : Addr) : entryFrame m #[(.ref x0), (.ref x1)] 2 = mkF m 0 #[.val (.ref x0), .val (.ref x1)] [] := by first | (simp [entryFrame, mkF, argsToLocals, Value.category]; done) | rfl
def own_Q_sis (Z : State) (x b d : Addr) (kd : ClassId) (cN mm : Nat) (P : List Value) (zc : Int32) (h0 : Heap) (n0 : Nat) (v : Option Value) (h : Heap) (L : List Loc) : Prop := v = none ∧ Fr n0 L ∧ Keep h0 h [x] ∧ ∃ (u : Addr) (ku : ClassId) (R : List Value), Fld Z h x "java/lang/String" "value" "[B" (.ref u) ∧ Fld Z h x "java/lang/String" "coder" "B" (.int 0) ∧ Arv Z h u ku .byte (Int32.ofNat mm) R (.int 0) ∧ ∀ i, i < mm → R.getD i (.int 0) = P.getD i (.int 0)
set_option maxRecDepth 65536 in
set_option maxHeartbeats 40000000 in
theorem own_rm_sis (l : Launch) (Z : State) (a0 : Array Value) (hw : ∀ d ∈ tables_1, d.before a0 Z = true) (ws : List Jvm.Cond) (x b d : Addr) (kd : ClassId) (cN mm : Nat) (P : List Value) (zc : Int32) (h0 : Heap) (n0 : Nat) (Z0 : n0 ≤ h0.size) (S_C : Sta Z h0 "java/lang/String" "COMPACT_STRINGS" "Z" (.int zc)) (hzc : ¬ zc = 0)(E_x : Exa Z h0 x "java/lang/String")(F_v : Fld Z h0 x "java/lang/String" "value" "[B" .null) (F_c : Fld Z h0 x "java/lang/String" "coder" "B" (.int (0 : Int32))) (g_x : n0 ≤ x)(E_b : Exa Z h0 b "java/lang/StringBuilder")(G_v : Fld Z h0 b "java/lang/AbstractStringBuilder" "value" "[B" (.ref d)) (G_c : Fld Z h0 b "java/lang/AbstractStringBuilder" "coder" "B" (.int 0))(G_n : Fld Z h0 b "java/lang/AbstractStringBuilder" "count" "I" (.int (Int32.ofNat mm)))(V_d : Arv Z h0 d kd .byte (Int32.ofNat cN) P (.int 0)) (hmc : mm ≤ cN) (hcN : cN ≤ 34)(E_d : Exa Z h0 d "[B")(ne_b_x : b ≠ x) (ne_d_x : d ≠ x) :
    MetFree l (⟨"java/lang/String", "<init>", "(Ljava/lang/StringBuilder;)V"⟩ : MethodName) (head1 (Jvm.Cond.code (⟨"java/lang/String", "<init>", "(Ljava/lang/StringBuilder;)V"⟩ : MethodName) jdk_42_method_53_code 2 none :: ws) ({ frames := 4, cells := 1, slots := 34, locals := 107 } : Room)) (fun aa UU => aa = #[(.ref x), (.ref b)] ∧ Z.Warmed39 UU.vm ∧ UU.heap = h0) (fun _ _ _ _ _ => True) (fun _ UU oo UU' => ∃ vv LL, oo = .returned vv ∧ own_Q_sis Z x b d kd cN mm P zc h0 n0 vv UU'.heap LL ∧ FrameEnd UU oo UU' LL ({ frames := 4, cells := 1, slots := 34, locals := 107 } : Room).cells ({ frames := 4, cells := 1, slots := 34, locals := 107 } : Room).slots) := by
  refine MetFree.of_bodySF (plainFor_of_name own_pn6) hisR ?_
  intro p e s m args below meth c s₁ Bd hml0 hP hK
  obtain ⟨rfl, hZ, hh⟩ := hP
  have hx := Bd.exec
  have hby := Bd.bytes
  have hml : c.maxLocals = 2 := hml0
  have hown : s.vm.findClass "java/lang/String" = some m.cls := findClass_of_methodNamed Bd.named
  have hnm := (name_of_methodNamed Bd.named Bd.method).1
  have X0 : Stand p l e ({ frames := 4, cells := 1, slots := 34, locals := 107 } : Room) s m #[(.ref x), (.ref b)] below meth c s₁ [] 0 0 := Stand.of_body Bd
  have e0 : s₁.heap = h0 := by rw [← hh, Bd.state]; rfl
  have N0 := Fr.nil n0
  have K0 : Keep h0 h0 [x] := Keep.refl h0 _
  show own_Gl p e below (own_Post s (own_Q_sis Z x b d kd cN mm P zc h0 n0) ({ frames := 4, cells := 1, slots := 34, locals := 107 } : Room).cells ({ frames := 4, cells := 1, slots := 34, locals := 107 } : Room).slots) _
  refine own_st (fun tg_ kg_ => castTop (own_ef_sis m x b) kg_) ?_
  show own_Gl p e below _ (s₁.setTop (mkF m 0 #[.val (.ref x), .val (.ref b)] []))
  have ns_x := E_x.nostat
  refine own_st (fun tg_ kg_ => XS.aloadN X0.here hx rfl (hb hby own_d_jdk_42_method_53_code_0) rfl rfl kg_) ?_
  show own_Gl p e below _ (s₁.setTop (mkF m 1 #[.val (.ref x), .val (.ref b)] [(.ref x)]))
  refine own_st (fun tg_ kg_ => XS.aloadN X0.here hx rfl (hb hby own_d_jdk_42_method_53_code_1) rfl rfl kg_) ?_
  show own_Gl p e below _ (s₁.setTop (mkF m 2 #[.val (.ref x), .val (.ref b)] [(.ref b), (.ref x)]))
  refine own_st (fun tg_ kg_ => XS.aconstNull X0.here hx rfl (hb hby own_d_jdk_42_method_53_code_2) kg_) ?_
  show own_Gl p e below _ (s₁.setTop (mkF m 3 #[.val (.ref x), .val (.ref b)] [.null, (.ref b), (.ref x)]))
  obtain ⟨_, _, ⟨T1, L1, k1, n1⟩, -, X1, ⟨Lc1, hQ1, l1, y1, z1⟩, st1⟩ := X0.specialBack hx (y := (⟨"java/lang/String", "<init>", "(Ljava/lang/AbstractStringBuilder;Ljava/lang/Void;)V"⟩ : MethodName)) rfl hown (mvT hZ (hw _ (List.mem_of_getElem? (i := 145) rfl))) (mvT hZ (hw _ (List.mem_of_getElem? (i := 146) rfl))) (mvT hZ (hw _ (List.mem_of_getElem? (i := 147) rfl))) (by decide) (backOf (W := 0) (own_rm_sia l Z a0 hw [] x b d kd cN mm P zc h0 n0 (Nat.le_trans Z0 K0.1) (own_sta_keep S_C K0 (nsS ns_x ns0)) hzc E_x F_v F_c g_x (E_b.keep K0) (G_v.keep K0 (ninS ne_b_x nin0)) (G_c.keep K0 (ninS ne_b_x nin0)) (G_n.keep K0 (ninS ne_b_x nin0)) (V_d.keep K0 (ninS ne_d_x nin0)) hmc hcN (E_d.keep K0) ne_b_x ne_d_x) hZ (hw _ (List.mem_of_getElem? (i := 147) rfl)) (hw _ (List.mem_of_getElem? (i := 51) rfl)) (by decide) (by decide)) (g := (mkF m 3 #[.val (.ref x), .val (.ref b)] [.null, (.ref b), (.ref x)])) rfl (by rw [hml]; rfl) (Steps.refl _) (a := x) (argsL := [(.ref b), .null]) (rest := []) (lenOf own_pd17 rfl) rfl (by show 2 * 0 + _ ≤ _; exact Nat.le_of_eq rfl) (hb hby own_d_jdk_42_method_53_code_3) (fun _ _ => ⟨rfl, e0, (by decide : 0 + 1 ≤ _), (by decide : 0 + 34 ≤ _)⟩)
  dsimp only [Pt.U, Pt.locs, Pt.cells, Pt.slots] at X1 l1 y1 z1 st1 hQ1
  obtain rfl : k1 = 1 := y1
  obtain rfl : n1 = 34 := z1
  obtain ⟨rfl, N1q, Kc1, hq⟩ := hQ1
  have N1 : Fr n0 L1 := by rw [l1]; exact Fr.app N0 N1q
  try clear l1
  refine own_tr st1 ?_
  replace E_x := E_x.keep Kc1
  have K2 : Keep h0 T1.heap [x] := K0.trans Kc1 (allS (Or.inl (List.mem_of_getElem? (i := 0) rfl)) all0)
  try clear Kc1
  show own_Gl p e below _ (T1.setTop (mkF m 6 #[.val (.ref x), .val (.ref b)] []))
  try clear st1
  try clear N1q
  exact own_retV X1 hx Bd.notSynchronized Bd.returns (hb hby own_d_jdk_42_method_53_code_6) (by decide) (by decide) rfl (⟨rfl, N1, K2, hq⟩)
theorem own_pd18 : parseMethodDescriptor "(Ljava/lang/StringBuilder;)V" = some ⟨[(.object "java/lang/StringBuilder")], none⟩ := by decide +kernel
theorem own_d_jdk_67_method_42_code_0 : decode jdk_67_method_42_code 0 = .ok (.new 18, 3) := by decide +kernel
theorem own_d_jdk_67_method_42_code_3 : decode jdk_67_method_42_code 3 = .ok (.dup, 1) := by decide +kernel
theorem own_d_jdk_67_method_42_code_4 : decode jdk_67_method_42_code 4 = .ok (.aload_n 0, 1) := by decide +kernel
theorem own_d_jdk_67_method_42_code_5 : decode jdk_67_method_42_code 5 = .ok (.invokespecial 137, 3) := by decide +kernel
theorem own_d_jdk_67_method_42_code_8 : decode jdk_67_method_42_code 8 = .ok (.areturn, 1) := by decide +kernel
theorem own_ef_sbs (m : MethodId) (x0 : Addr) : entryFrame m #[(.ref x0)] 1 = mkF m 0 #[.val (.ref x0)] [] := by first | (simp [entryFrame, mkF, argsToLocals, Value.category]; done) | rfl
def own_Q_sbs (Z : State) (b d : Addr) (kd : ClassId) (cN mm : Nat) (P : List Value) (zc : Int32) (h0 : Heap) (n0 : Nat) (v : Option Value) (h : Heap) (L : List Loc) : Prop := (∃ x, v = some (.ref x) ∧ h0.size ≤ x ∧ Exa Z h x "java/lang/String" ∧ ∃ (u : Addr) (ku : ClassId) (R : List Value), Fld Z h x "java/lang/String" "value" "[B" (.ref u) ∧ Fld Z h x "java/lang/String" "coder" "B" (.int 0) ∧ Arv Z h u ku .byte (Int32.ofNat mm) R (.int 0) ∧ ∀ i, i < mm → R.getD i (.int 0) = P.getD i (.int 0)) ∧ Fr n0 L ∧ Ext h0 h
set_option maxRecDepth 65536 in
set_option maxHeartbeats 40000000 in
theorem own_rm_sbs (l : Launch) (Z : State) (a0 : Array Value) (hw : ∀ d ∈ tables_1, d.before a0 Z = true) (ws : List Jvm.Cond) (b d : Addr) (kd : ClassId) (cN mm : Nat) (P : List Value) (zc : Int32) (h0 : Heap) (n0 : Nat) (Z0 : n0 ≤ h0.size) (S_C : Sta Z h0 "java/lang/String" "COMPACT_STRINGS" "Z" (.int zc)) (hzc : ¬ zc = 0)(E_b : Exa Z h0 b "java/lang/StringBuilder")(G_v : Fld Z h0 b "java/lang/AbstractStringBuilder" "value" "[B" (.ref d)) (G_c : Fld Z h0 b "java/lang/AbstractStringBuilder" "coder" "B" (.int 0))(G_n : Fld Z h0 b "java/lang/AbstractStringBuilder" "count" "I" (.int (Int32.ofNat mm)))(V_d : Arv Z h0 d kd .byte (Int32.ofNat cN) P (.int 0)) (hmc : mm ≤ cN) (hcN : cN ≤ 34)(E_d : Exa Z h0 d "[B") :
    MetFree l (⟨"java/lang/StringBuilder", "toString", "()Ljava/lang/String;"⟩ : MethodName) (head1 (Jvm.Cond.code (⟨"java/lang/StringBuilder", "toString", "()Ljava/lang/String;"⟩ : MethodName) jdk_67_method_42_code 1 (some (.object "java/lang/String")) :: ws) ({ frames := 5, cells := 2, slots := 38, locals := 121 } : Room)) (fun aa UU => aa = #[(.ref b)] ∧ Z.Warmed39 UU.vm ∧ UU.heap = h0) (fun _ _ _ _ _ => True) (fun _ UU oo UU' => ∃ vv LL, oo = .returned vv ∧ own_Q_sbs Z b d kd cN mm P zc h0 n0 vv UU'.heap LL ∧ FrameEnd UU oo UU' LL ({ frames := 5, cells := 2, slots := 38, locals := 121 } : Room).cells ({ frames := 5, cells := 2, slots := 38, locals := 121 } : Room).slots) := by
  refine MetFree.of_bodySF (plainFor_of_name own_pn5) hisR ?_
  intro p e s m args below meth c s₁ Bd hml0 hP hK
  obtain ⟨rfl, hZ, hh⟩ := hP
  have hx := Bd.exec
  have hby := Bd.bytes
  have hml : c.maxLocals = 1 := hml0
  have hown : s.vm.findClass "java/lang/StringBuilder" = some m.cls := findClass_of_methodNamed Bd.named
  have hnm := (name_of_methodNamed Bd.named Bd.method).1
  have X0 : Stand p l e ({ frames := 5, cells := 2, slots := 38, locals := 121 } : Room) s m #[(.ref b)] below meth c s₁ [] 0 0 := Stand.of_body Bd
  have e0 : s₁.heap = h0 := by rw [← hh, Bd.state]; rfl
  have N0 := Fr.nil n0
  show own_Gl p e below (own_Post s (own_Q_sbs Z b d kd cN mm P zc h0 n0) ({ frames := 5, cells := 2, slots := 38, locals := 121 } : Room).cells ({ frames := 5, cells := 2, slots := 38, locals := 121 } : Room).slots) _
  refine own_st (fun tg_ kg_ => castTop (own_ef_sbs m b) kg_) ?_
  show own_Gl p e below _ (s₁.setTop (mkF m 0 #[.val (.ref b)] []))
  obtain ⟨T1, h1, X1, e1, E1, A1, D1, -, st1⟩ := newO X0 hx hZ hown (hw _ (List.mem_of_getElem? (i := 140) rfl)) (hw _ (List.mem_of_getElem? (i := 88) rfl)) (hw _ (List.mem_of_getElem? (i := 51) rfl)) e0 (g := (mkF m 0 #[.val (.ref b)] [])) rfl (hb hby own_d_jdk_67_method_42_code_0) (by decide) (by decide)
  obtain ⟨x, g1⟩ : ∃ z, z = h0.size := ⟨_, rfl⟩
  have ne_b_x : b ≠ x := Nat.ne_of_lt (Nat.lt_of_lt_of_le E_b.lt (Nat.le_of_eq g1.symm))
  have ne_d_x : d ≠ x := Nat.ne_of_lt (Nat.lt_of_lt_of_le V_d.lt (Nat.le_of_eq g1.symm))
  have sz_x : h0.size ≤ x := Nat.le_of_eq g1.symm
  have g_x : n0 ≤ x := Nat.le_trans Z0 sz_x
  rw [← g1] at A1 D1 st1
  have E_x := A1
  have F_value_x : Fld Z h1 x "java/lang/String" "value" "[B" .null := D1 (Or.inr (hw _ (List.mem_of_getElem? (i := 89) rfl))) (ty := (.array .byte)) (by decide)
  have F_coder_x : Fld Z h1 x "java/lang/String" "coder" "B" (.int (0 : Int32)) := D1 (Or.inr (hw _ (List.mem_of_getElem? (i := 90) rfl))) (ty := .byte) (by decide)
  refine own_st st1 ?_
  try clear st1
  show own_Gl p e below _ (T1.setTop (mkF m 3 #[.val (.ref b)] [(.ref x)]))
  refine own_st (fun tg_ kg_ => XS.dup X1.here hx rfl (hb hby own_d_jdk_67_method_42_code_3) rfl rfl kg_) ?_
  show own_Gl p e below _ (T1.setTop (mkF m 4 #[.val (.ref b)] [(.ref x), (.ref x)]))
  refine own_st (fun tg_ kg_ => XS.aloadN X1.here hx rfl (hb hby own_d_jdk_67_method_42_code_4) rfl rfl kg_) ?_
  show own_Gl p e below _ (T1.setTop (mkF m 5 #[.val (.ref b)] [(.ref b), (.ref x), (.ref x)]))
  obtain ⟨_, _, ⟨T3, L3, k3, n3⟩, -, X3, ⟨Lc3, hQ3, l3, y3, z3⟩, st3⟩ := X1.specialBack hx (y := (⟨"java/lang/String", "<init>", "(Ljava/lang/StringBuilder;)V"⟩ : MethodName)) rfl hown (mvT hZ (hw _ (List.mem_of_getElem? (i := 141) rfl))) (mvT hZ (hw _ (List.mem_of_getElem? (i := 142) rfl))) (mvT hZ (hw _ (List.mem_of_getElem? (i := 144) rfl))) (by decide) (backOf (W := 1) (own_rm_sis l Z a0 hw [] x b d kd cN mm P zc h1 n0 (Nat.le_trans Z0 E1.1) (S_C.ext E1) hzc E_x F_value_x F_coder_x g_x (E_b.ext E1) (G_v.ext E1) (G_c.ext E1) (G_n.ext E1) (V_d.ext E1) hmc hcN (E_d.ext E1) ne_b_x ne_d_x) hZ (hw _ (List.mem_of_getElem? (i := 144) rfl)) (hw _ (List.mem_of_getElem? (i := 51) rfl)) (by decide) (by decide)) (g := (mkF m 5 #[.val (.ref b)] [(.ref b), (.ref x), (.ref x)])) rfl (by rw [hml]; rfl) (Steps.refl _) (a := x) (argsL := [(.ref b)]) (rest := [(.ref x)]) (lenOf own_pd18 rfl) rfl (by show 2 * 0 + _ ≤ _; exact Nat.le_of_eq rfl) (hb hby own_d_jdk_67_method_42_code_5) (fun _ _ => ⟨rfl, e1, (by decide : 1 + 1 ≤ _), (by decide : 4 + 34 ≤ _)⟩)
  dsimp only [Pt.U, Pt.locs, Pt.cells, Pt.slots] at X3 l3 y3 z3 st3 hQ3
  obtain rfl : k3 = 2 := y3
  obtain rfl : n3 = 38 := z3
  obtain ⟨rfl, N3q, Kc3, hq⟩ := hQ3
  have N3 : Fr n0 L3 := by rw [l3]; exact Fr.app N0 N3q
  try clear l3
  refine own_tr st3 ?_
  replace E_x := E_x.keep Kc3
  have K4 := own_ext_keep E1 Kc3 (allS sz_x all0)
  try clear Kc3
  try clear E1
  show own_Gl p e below _ (T3.setTop (mkF m 8 #[.val (.ref b)] [(.ref x)]))
  try clear st3
  try clear N3q
  try clear e1
  try clear X1
  try clear T1
  exact own_retA X3 hx Bd.notSynchronized Bd.returns rfl rfl (hb hby own_d_jdk_67_method_42_code_8) (by decide) (by decide) rfl (⟨⟨_, rfl, sz_x, E_x, hq⟩, N3, K4⟩)
theorem own_pd19 : parseMethodDescriptor "()V" = some ⟨[], none⟩ := by decide +kernel
theorem own_pd20 : parseMethodDescriptor "(I)Ljava/lang/StringBuilder;" = some ⟨[.int], some (.object "java/lang/StringBuilder")⟩ := by decide +kernel
theorem own_pd21 : parseMethodDescriptor "(Ljava/lang/String;)Ljava/lang/StringBuilder;" = some ⟨[(.object "java/lang/String")], some (.object "java/lang/StringBuilder")⟩ := by decide +kernel
theorem own_pd22 : parseMethodDescriptor "()Ljava/lang/String;" = some ⟨[], some (.object "java/lang/String")⟩ := by decide +kernel
theorem own_pn7 : plainName "org/samehood/calls/CallLimit" = true := by first | (simp [plainName, overriddenIn]; done) | decide +kernel
theorem own_d_prog_15_method_8_code_0 : decode prog_15_method_8_code 0 = .ok (.new 15, 3) := by decide +kernel
theorem own_d_prog_15_method_8_code_3 : decode prog_15_method_8_code 3 = .ok (.dup, 1) := by decide +kernel
theorem own_d_prog_15_method_8_code_4 : decode prog_15_method_8_code 4 = .ok (.invokespecial 17, 3) := by decide +kernel
theorem own_d_prog_15_method_8_code_7 : decode prog_15_method_8_code 7 = .ok (.aload_n 0, 1) := by decide +kernel
theorem own_d_prog_15_method_8_code_8 : decode prog_15_method_8_code 8 = .ok (.getfield 7, 3) := by decide +kernel
theorem own_d_prog_15_method_8_code_11 : decode prog_15_method_8_code 11 = .ok (.invokevirtual 24, 3) := by decide +kernel
theorem own_d_prog_15_method_8_code_14 : decode prog_15_method_8_code 14 = .ok (.aload_n 0, 1) := by decide +kernel
theorem own_d_prog_15_method_8_code_15 : decode prog_15_method_8_code 15 = .ok (.getfield 7, 3) := by decide +kernel
theorem own_d_prog_15_method_8_code_18 : decode prog_15_method_8_code 18 = .ok (.iconst 1, 1) := by decide +kernel
theorem own_d_prog_15_method_8_code_19 : decode prog_15_method_8_code 19 = .ok (.if_icmp .ne 8, 3) := by decide +kernel
theorem own_d_prog_15_method_8_code_22 : decode prog_15_method_8_code 22 = .ok (.ldc 78, 2) := by decide +kernel
theorem own_d_prog_15_method_8_code_24 : decode prog_15_method_8_code 24 = .ok (.goto 5, 3) := by decide +kernel
theorem own_d_prog_15_method_8_code_27 : decode prog_15_method_8_code 27 = .ok (.ldc 80, 2) := by decide +kernel
theorem own_d_prog_15_method_8_code_29 : decode prog_15_method_8_code 29 = .ok (.invokevirtual 20, 3) := by decide +kernel
theorem own_d_prog_15_method_8_code_32 : decode prog_15_method_8_code 32 = .ok (.invokevirtual 27, 3) := by decide +kernel
theorem own_d_prog_15_method_8_code_35 : decode prog_15_method_8_code 35 = .ok (.areturn, 1) := by decide +kernel
theorem own_ef_cts (m : MethodId) (x0 : Addr) : entryFrame m #[(.ref x0)] 1 = mkF m 0 #[.val (.ref x0)] [] := by first | (simp [entryFrame, mkF, argsToLocals, Value.category]; done) | rfl
def own_Q_cts (Z : State) (a : Addr) (sv zc : Int32)(o1 o2 : Addr) (k1 k2 : ClassId) (K2 : List Int32) (h0 : Heap) (n0 : Nat) (v : Option Value) (h : Heap) (L : List Loc) : Prop := (∃ x, v = some (.ref x) ∧ h0.size ≤ x ∧ Exa Z h x "java/lang/String" ∧ ((sv = 1 ∧ own_S Z h x sv own_A) ∨ (¬ sv = 1 ∧ own_S Z h x sv own_B))) ∧ Fr n0 L ∧ Ext h0 h
set_option maxRecDepth 65536 in
set_option maxHeartbeats 40000000 in
theorem own_rm_cts (l : Launch) (Z : State) (a0 : Array Value) (hw : ∀ d ∈ tables_1, d.before a0 Z = true) (ws : List Jvm.Cond) (a : Addr) (sv zc : Int32)(o1 o2 : Addr) (k1 k2 : ClassId) (K2 : List Int32) (h0 : Heap) (n0 : Nat) (Z0 : n0 ≤ h0.size) (S_C : Sta Z h0 "java/lang/String" "COMPACT_STRINGS" "Z" (.int zc)) (hzc : ¬ zc = 0)(hone : 1 ≤ sv.toInt)(S_1 : Sta Z h0 "java/lang/Integer" "DigitOnes" "[B" (.ref o1)) (S_2 : Sta Z h0 "java/lang/Integer" "DigitTens" "[B" (.ref o2)) (V_1 : Arv Z h0 o1 k1 .byte (100 : Int32) own_ones (.int 0)) (V_2 : Arv Z h0 o2 k2 .byte (100 : Int32) (K2.map Value.int) (.int 0))(F_s : Fld Z h0 a "org/samehood/calls/CallLimit" "seconds" "I" (.int sv)) :
    MetFree l (⟨"org/samehood/calls/CallLimit", "toString", "()Ljava/lang/String;"⟩ : MethodName) (head1 (Jvm.Cond.code (⟨"org/samehood/calls/CallLimit", "toString", "()Ljava/lang/String;"⟩ : MethodName) prog_15_method_8_code 1 (some (.object "java/lang/String")) :: ws) ({ frames := 6, cells := 7, slots := 128, locals := 133 } : Room)) (fun aa UU => aa = #[(.ref a)] ∧ Z.Warmed39 UU.vm ∧ UU.heap = h0 ∧ CHv Z own_EL UU.vm h0) (fun _ _ _ _ _ => True) (fun _ UU oo UU' => ∃ vv LL, oo = .returned vv ∧ own_Q_cts Z a sv zc o1 o2 k1 k2 K2 h0 n0 vv UU'.heap LL ∧ CHr Z own_EL UU.vm UU.heap UU'.vm UU'.heap ∧ ReturnedEndW UU oo UU' LL ({ frames := 6, cells := 7, slots := 128, locals := 133 } : Room).cells ({ frames := 6, cells := 7, slots := 128, locals := 133 } : Room).slots) := by
  refine MetFree.of_bodySF (plainFor_of_name own_pn7) hisR ?_
  intro p e s m args below meth c s₁ Bd hml0 hP hK
  obtain ⟨rfl, hZ, hh, hCH⟩ := hP
  have hx := Bd.exec
  have hby := Bd.bytes
  have hml : c.maxLocals = 1 := hml0
  have hown : s.vm.findClass "org/samehood/calls/CallLimit" = some m.cls := findClass_of_methodNamed Bd.named
  have hnm := (name_of_methodNamed Bd.named Bd.method).1
  have X0 : Stand p l e ({ frames := 6, cells := 7, slots := 128, locals := 133 } : Room) (s.setVm s.vm) m #[(.ref a)] below meth c s₁ [] 0 0 := Stand.of_body Bd
  have e0 : s₁.heap = h0 := by rw [← hh, Bd.state]; rfl
  have N0 := Fr.nil n0
  have hZ : Z.Warmed39 (s.setVm s.vm).vm := hZ
  have hown : (s.setVm s.vm).vm.findClass "org/samehood/calls/CallLimit" = some m.cls := hown
  have hS0 : s.Since s.vm 0 := (State.WarmedH.refl s).since 0
  have hEL : EW Z a0 own_EL := own_ew hw
  have C0 : CHr Z own_EL s.vm h0 s.vm h0 := CHr.refl hCH
  show own_Gl p e below (own_WPost Z s (own_Q_cts Z a sv zc o1 o2 k1 k2 K2 h0 n0) ({ frames := 6, cells := 7, slots := 128, locals := 133 } : Room).cells ({ frames := 6, cells := 7, slots := 128, locals := 133 } : Room).slots) _
  refine own_st (fun tg_ kg_ => castTop (own_ef_cts m a) kg_) ?_
  show own_Gl p e below _ (s₁.setTop (mkF m 0 #[.val (.ref a)] []))
  obtain ⟨T1, h1, X1, e1, E1, A1, D1, -, st1⟩ := newO X0 hx hZ hown (hw _ (List.mem_of_getElem? (i := 37) rfl)) (hw _ (List.mem_of_getElem? (i := 38) rfl)) (hw _ (List.mem_of_getElem? (i := 39) rfl)) e0 (g := (mkF m 0 #[.val (.ref a)] [])) rfl (hb hby own_d_prog_15_method_8_code_0) (by decide) (by decide)
  obtain ⟨b, g1⟩ : ∃ z, z = h0.size := ⟨_, rfl⟩
  have ne_o1_b : o1 ≠ b := Nat.ne_of_lt (Nat.lt_of_lt_of_le V_1.lt (Nat.le_of_eq g1.symm))
  have ne_o2_b : o2 ≠ b := Nat.ne_of_lt (Nat.lt_of_lt_of_le V_2.lt (Nat.le_of_eq g1.symm))
  have ne_a_b : a ≠ b := Nat.ne_of_lt (Nat.lt_of_lt_of_le F_s.lt (Nat.le_of_eq g1.symm))
  have sz_b : h0.size ≤ b := Nat.le_of_eq g1.symm
  have g_b : n0 ≤ b := Nat.le_trans Z0 sz_b
  have sf_b : Safe Z own_EL s.vm h0 b := Safe.new (Nat.le_of_eq g1.symm)
  rw [← g1] at A1 D1 st1
  have sf_b := Safe.ext E1 C0.1 sf_b
  have C2 := C0.trans (CHr.ext E1 C0.1)
  have E_b := A1
  have F_value_b : Fld Z h1 b "java/lang/AbstractStringBuilder" "value" "[B" .null := D1 (Or.inl (hw _ (List.mem_of_getElem? (i := 54) rfl))) (ty := (.array .byte)) (by decide)
  have F_coder_b : Fld Z h1 b "java/lang/AbstractStringBuilder" "coder" "B" (.int (0 : Int32)) := D1 (Or.inl (hw _ (List.mem_of_getElem? (i := 56) rfl))) (ty := .byte) (by decide)
  have F_count_b : Fld Z h1 b "java/lang/AbstractStringBuilder" "count" "I" (.int (0 : Int32)) := D1 (Or.inl (hw _ (List.mem_of_getElem? (i := 68) rfl))) (ty := .int) (by decide)
  refine own_st st1 ?_
  try clear st1
  show own_Gl p e below _ (T1.setTop (mkF m 3 #[.val (.ref a)] [(.ref b)]))
  refine own_st (fun tg_ kg_ => XS.dup X1.here hx rfl (hb hby own_d_prog_15_method_8_code_3) rfl rfl kg_) ?_
  show own_Gl p e below _ (T1.setTop (mkF m 4 #[.val (.ref a)] [(.ref b), (.ref b)]))
  obtain ⟨_, _, ⟨T4, L4, k4, n4⟩, -, X4, ⟨Lc4, hQ4, l4, y4, z4⟩, st4⟩ := X1.specialBack hx (y := (⟨"java/lang/StringBuilder", "<init>", "()V"⟩ : MethodName)) rfl hown (mvT hZ (hw _ (List.mem_of_getElem? (i := 40) rfl))) (mvT hZ (hw _ (List.mem_of_getElem? (i := 41) rfl))) (mvT hZ (hw _ (List.mem_of_getElem? (i := 42) rfl))) (by decide) (backOf (W := 1) (own_rm_sbi l Z a0 hw [] b zc h1 n0 (Nat.le_trans Z0 E1.1) (S_C.ext E1) hzc E_b F_value_b F_coder_b F_count_b g_b) hZ (hw _ (List.mem_of_getElem? (i := 42) rfl)) (hw _ (List.mem_of_getElem? (i := 39) rfl)) (by decide) (by decide)) (g := (mkF m 4 #[.val (.ref a)] [(.ref b), (.ref b)])) rfl (by rw [hml]; rfl) (Steps.refl _) (a := b) (argsL := []) (rest := [(.ref b)]) (lenOf own_pd19 rfl) rfl (by show 2 * 0 + _ ≤ _; exact Nat.le_of_eq rfl) (hb hby own_d_prog_15_method_8_code_4) (fun _ _ => ⟨rfl, e1, (by decide : 1 + 1 ≤ _), (by decide : 4 + 16 ≤ _)⟩)
  dsimp only [Pt.U, Pt.locs, Pt.cells, Pt.slots] at X4 l4 y4 z4 st4 hQ4
  obtain rfl : k4 = 2 := y4
  obtain rfl : n4 = 20 := z4
  obtain ⟨rfl, N4q, Kc4, d, kd, szc4, G_v, G_c, G_n, V_d, E_d⟩ := hQ4
  have N4 : Fr n0 L4 := by rw [l4]; exact Fr.app N0 N4q
  try clear l4
  refine own_tr st4 ?_
  have ne_o1_d : o1 ≠ d := Nat.ne_of_lt (Nat.lt_of_lt_of_le (V_1.ext E1).lt szc4)
  have ne_o2_d : o2 ≠ d := Nat.ne_of_lt (Nat.lt_of_lt_of_le (V_2.ext E1).lt szc4)
  have ne_a_d : a ≠ d := Nat.ne_of_lt (Nat.lt_of_lt_of_le (F_s.ext E1).lt szc4)
  have ne_b_d : b ≠ d := Nat.ne_of_lt (Nat.lt_of_lt_of_le E_b.lt szc4)
  have sz_d : h0.size ≤ d := Nat.le_trans E1.1 szc4
  have g_d : n0 ≤ d := Nat.le_trans Z0 sz_d
  have sf_d : Safe Z own_EL s.vm h1 d := Safe.new szc4
  have sz_d : h0.size ≤ d := Nat.le_trans E1.1 szc4
  have g_d : n0 ≤ d := Nat.le_trans Z0 sz_d
  have sf_b' := Safe.keep Kc4 (sfS sf_b sf0) C2.1 sf_b
  have sf_d' := Safe.keep Kc4 (sfS sf_b sf0) C2.1 sf_d
  have C5 := C2.trans (CHr.keep Kc4 (sfS sf_b sf0) C2.1)
  have sf_b := sf_b'
  have sf_d := sf_d'
  replace E_b := E_b.keep Kc4
  have K6 := own_ext_keep E1 Kc4 (allS sz_b all0)
  try clear Kc4
  try clear E1
  show own_Gl p e below _ (T4.setTop (mkF m 7 #[.val (.ref a)] [(.ref b)]))
  try clear st4
  try clear N4q
  try clear e1
  try clear X1
  try clear T1
  refine own_st (fun tg_ kg_ => XS.aloadN X4.here hx rfl (hb hby own_d_prog_15_method_8_code_7) rfl rfl kg_) ?_
  show own_Gl p e below _ (T4.setTop (mkF m 8 #[.val (.ref a)] [(.ref a), (.ref b)]))
  obtain ⟨T7, X7, e7, st7⟩ := getF X4 hx hZ hown (host := "") (Or.inl (hw _ (List.mem_of_getElem? (i := 13) rfl))) Via.refl rfl (F_s.ext K6) (g := (mkF m 8 #[.val (.ref a)] [(.ref a), (.ref b)])) rfl rfl (hb hby own_d_prog_15_method_8_code_8)
  refine own_st st7 ?_
  try clear st7
  try clear X4
  show own_Gl p e below _ (T7.setTop (mkF m 11 #[.val (.ref a)] [(.int sv), (.ref b)]))
  obtain ⟨cq8, kq8, q8a, q8b, q8c⟩ := isOf hZ e7 E_b
  obtain ⟨_, _, ⟨T8, L8, k8, n8⟩, -, X8, ⟨Lc8, hQ8, l8, y8, z8⟩, st8⟩ := X7.virtualBack hx (y := (⟨"java/lang/StringBuilder", "append", "(I)Ljava/lang/StringBuilder;"⟩ : MethodName)) (z := (⟨"java/lang/StringBuilder", "append", "(I)Ljava/lang/StringBuilder;"⟩ : MethodName)) hown (mvT hZ (hw _ (List.mem_of_getElem? (i := 57) rfl))) (mvT hZ (hw _ (List.mem_of_getElem? (i := 58) rfl))) (notFace_of_selects (args := #[]) (mvT hZ (hw _ (List.mem_of_getElem? (i := 60) rfl)))) (mvT hZ (hw _ (List.mem_of_getElem? (i := 60) rfl))) (mvT hZ (hw _ (List.mem_of_getElem? (i := 59) rfl))) (by decide) (backOf (W := 0) (own_rm_sai l Z a0 hw [] b d kd sv zc o1 o2 k1 k2 K2 T4.heap n0 (Nat.le_trans Z0 K6.1) (S_C.ext K6) hzc hone (S_1.ext K6) (S_2.ext K6) (V_1.ext K6) (V_2.ext K6) E_b G_v G_c G_n V_d g_b g_d ne_o1_d ne_o2_d ne_o1_b ne_o2_b ne_b_d) hZ (hw _ (List.mem_of_getElem? (i := 61) rfl)) (hw _ (List.mem_of_getElem? (i := 39) rfl)) (by decide) (by decide)) q8a q8c (g := (mkF m 11 #[.val (.ref a)] [(.int sv), (.ref b)])) rfl (by rw [hml]; rfl) (Steps.refl _) (argsL := [(.int sv)]) (rest := []) (lenOf own_pd20 rfl) rfl (by show 2 * 0 + _ ≤ _; exact Nat.le_of_eq rfl) (hb hby own_d_prog_15_method_8_code_11) (fun _ _ => ⟨rfl, e7, (by decide : 2 + 0 ≤ _), (by decide : 20 + 0 ≤ _)⟩)
  dsimp only [Pt.U, Pt.locs, Pt.cells, Pt.slots] at X8 l8 y8 z8 st8 hQ8
  obtain rfl : k8 = 2 := y8
  obtain rfl : n8 = 20 := z8
  obtain ⟨rfl, N8q, Kc8, dn, P, hD, hP, hdg, V_d, G_v, G_c, G_n⟩ := hQ8
  have N8 : Fr n0 L8 := by rw [l8]; exact Fr.app N4 N8q
  try clear l8
  refine own_tr st8 ?_
  have sf_b' := Safe.keep Kc8 (sfS sf_b (sfS sf_d sf0)) C5.1 sf_b
  have sf_d' := Safe.keep Kc8 (sfS sf_b (sfS sf_d sf0)) C5.1 sf_d
  have C9 := C5.trans (CHr.keep Kc8 (sfS sf_b (sfS sf_d sf0)) C5.1)
  have sf_b := sf_b'
  have sf_d := sf_d'
  replace E_b := E_b.keep Kc8
  replace E_d := E_d.keep Kc8
  have K10 := own_ext_keep K6 Kc8 (allS sz_b (allS sz_d all0))
  try clear Kc8
  try clear K6
  show own_Gl p e below _ (T8.setTop (mkF m 14 #[.val (.ref a)] [(.ref b)]))
  try clear st8
  try clear N8q
  try clear N4
  try clear e7
  try clear X7
  try clear T7
  have hle := own_D_le hD
  refine own_st (fun tg_ kg_ => XS.aloadN X8.here hx rfl (hb hby own_d_prog_15_method_8_code_14) rfl rfl kg_) ?_
  show own_Gl p e below _ (T8.setTop (mkF m 15 #[.val (.ref a)] [(.ref a), (.ref b)]))
  obtain ⟨T11, X11, e11, st11⟩ := getF X8 hx hZ hown (host := "") (Or.inl (hw _ (List.mem_of_getElem? (i := 13) rfl))) Via.refl rfl (F_s.ext K10) (g := (mkF m 15 #[.val (.ref a)] [(.ref a), (.ref b)])) rfl rfl (hb hby own_d_prog_15_method_8_code_15)
  refine own_st st11 ?_
  try clear st11
  try clear X8
  show own_Gl p e below _ (T11.setTop (mkF m 18 #[.val (.ref a)] [(.int sv), (.ref b)]))
  refine own_st (fun tg_ kg_ => XS.iconst X11.here hx rfl (hb hby own_d_prog_15_method_8_code_18) kg_) ?_
  show own_Gl p e below _ (T11.setTop (mkF m 19 #[.val (.ref a)] [(.int (1 : Int32)), (.int sv), (.ref b)]))
  by_cases hs1 : sv = 1
  ·
    show own_Gl p e below _ (T11.setTop (mkF m 19 #[.val (.ref a)] [(.int (1 : Int32)), (.int sv), (.ref b)]))
    refine own_st (fun tg_ kg_ => XS.icmpNo X11.here hx rfl (hb hby own_d_prog_15_method_8_code_19) rfl (teq (hs1)).2 kg_) ?_
    show own_Gl p e below _ (T11.setTop (mkF m 22 #[.val (.ref a)] [(.ref b)]))
    have lt13 : b < T8.heap.size := E_b.lt
    have lt14 : d < T8.heap.size := E_d.lt
    obtain ⟨lit, T12, h12, k12, lit_b, lit_k, X12, e12, E12, hSb12, hk12, hZ, hown, E_lit, Fc_lit, Fv_lit, V_lit_b, -, -, CC12, -, nl12, st12⟩ := ldcCH X11 hx hZ hown (text := " second") (hw _ (List.mem_of_getElem? (i := 87) rfl)) (own_wS hw) e11 hS0 (Nat.zero_le _) hEL (by decide) C9.1 (vs := [(.int 32), (.int 115), (.int 101), (.int 99), (.int 111), (.int 110), (.int 100)]) (z := (7 : Int32)) ⟨by decide, by decide⟩ (by decide) rfl (g := (mkF m 22 #[.val (.ref a)] [(.ref b)])) rfl (hb hby own_d_prog_15_method_8_code_22) (n := 28) (by decide) (by decide) (by decide) (by decide)
    have hk := hk12
    replace E_b := E_b.ext E12
    replace E_d := E_d.ext E12
    replace G_v := G_v.ext E12
    replace G_c := G_c.ext E12
    replace G_n := G_n.ext E12
    replace V_d := V_d.ext E12
    have K15 := own_ext_tr K10 E12
    try clear E12
    try clear K10
    have sf_b := CHr.safe CC12 lt13 sf_b
    have sf_d := CHr.safe CC12 lt14 sf_d
    have C12 := C9.trans CC12
    obtain ⟨ne_b_lit, ne_b_lit_b⟩ := nl12 b sf_b
    obtain ⟨ne_d_lit, ne_d_lit_b⟩ := nl12 d sf_d
    refine own_st st12 ?_
    try clear st12
    try clear e11
    try clear X11
    try clear T11
    show own_Gl p e below _ (T12.setTop (mkF m 24 #[.val (.ref a)] [(.ref lit), (.ref b)]))
    refine own_st (fun tg_ kg_ => XS.goto X12.here hx rfl (pc0 := 24) (pc' := 29) rfl (hb hby own_d_prog_15_method_8_code_24) (by decide) (by decide) kg_) ?_
    show own_Gl p e below _ (T12.setTop (mkF m 29 #[.val (.ref a)] [(.ref lit), (.ref b)]))
    have V_ls : Arv Z h12 lit_b lit_k .byte (Int32.ofNat own_A.length) own_A (.int 0) := V_lit_b
    obtain ⟨cq16, kq16, q16a, q16b, q16c⟩ := isOf hZ e12 E_b
    obtain ⟨_, _, ⟨T16, L16, k16, n16⟩, -, X16, ⟨Lc16, hQ16, l16, y16, z16⟩, st16⟩ := X12.virtualBack hx (y := (⟨"java/lang/StringBuilder", "append", "(Ljava/lang/String;)Ljava/lang/StringBuilder;"⟩ : MethodName)) (z := (⟨"java/lang/StringBuilder", "append", "(Ljava/lang/String;)Ljava/lang/StringBuilder;"⟩ : MethodName)) hown (mvT hZ (hw _ (List.mem_of_getElem? (i := 93) rfl))) (mvT hZ (hw _ (List.mem_of_getElem? (i := 94) rfl))) (notFace_of_selects (args := #[]) (mvT hZ (hw _ (List.mem_of_getElem? (i := 96) rfl)))) (mvT hZ (hw _ (List.mem_of_getElem? (i := 96) rfl))) (mvT hZ (hw _ (List.mem_of_getElem? (i := 95) rfl))) (by decide) (backOf (W := 0) (own_rm_sas l Z a0 hw [] b d kd dn P own_A (.int (own_dg sv)) lit lit_b lit_k zc h12 n0 (Nat.le_trans Z0 K15.1) (S_C.ext K15) hzc E_lit Fc_lit Fv_lit V_ls E_b G_v G_c G_n V_d E_d hP hle.1 hle.2.1 (by decide) (by decide) hdg g_b g_d ne_d_lit.symm ne_d_lit_b.symm ne_b_lit.symm ne_b_lit_b.symm ne_b_d) hZ (hw _ (List.mem_of_getElem? (i := 97) rfl)) (hw _ (List.mem_of_getElem? (i := 39) rfl)) (by decide) (by decide)) q16a q16c (g := (mkF m 29 #[.val (.ref a)] [(.ref lit), (.ref b)])) rfl (by rw [hml]; rfl) (Steps.refl _) (argsL := [(.ref lit)]) (rest := []) (lenOf own_pd21 rfl) rfl (by show 2 * 0 + _ ≤ _; exact Nat.le_of_eq rfl) (hb hby own_d_prog_15_method_8_code_29) (fun _ _ => ⟨rfl, e12, (by decide : 4 + 1 ≤ _), (by decide : 52 + 34 ≤ _)⟩)
    dsimp only [Pt.U, Pt.locs, Pt.cells, Pt.slots] at X16 l16 y16 z16 st16 hQ16
    obtain rfl : k16 = 5 := y16
    obtain rfl : n16 = 86 := z16
    obtain ⟨rfl, N16q, Kc16, w, kw, cN, Pq, hcN, hmc, hTq, V_w, E_w, G_v, G_c, G_n⟩ := hQ16
    have N16 : Fr n0 L16 := by rw [l16]; exact Fr.app N8 N16q
    try clear l16
    refine own_tr st16 ?_
    have hk := Nat.le_trans hk Kc16.1
    have sf_b' := Safe.keep Kc16 (sfS sf_b (sfS sf_d sf0)) C12.1 sf_b
    have sf_d' := Safe.keep Kc16 (sfS sf_b (sfS sf_d sf0)) C12.1 sf_d
    have C17 := C12.trans (CHr.keep Kc16 (sfS sf_b (sfS sf_d sf0)) C12.1)
    have sf_b := sf_b'
    have sf_d := sf_d'
    replace E_b := E_b.keep Kc16
    replace E_d := E_d.keep Kc16
    replace E_lit := E_lit.keep Kc16
    replace Fc_lit := Fc_lit.keep Kc16 (ninS ne_b_lit.symm (ninS ne_d_lit.symm nin0))
    replace Fv_lit := Fv_lit.keep Kc16 (ninS ne_b_lit.symm (ninS ne_d_lit.symm nin0))
    replace V_lit_b := V_lit_b.keep Kc16 (ninS ne_b_lit_b.symm (ninS ne_d_lit_b.symm nin0))
    have K18 := own_ext_keep K15 Kc16 (allS sz_b (allS sz_d all0))
    try clear Kc16
    try clear K15
    show own_Gl p e below _ (T16.setTop (mkF m 32 #[.val (.ref a)] [(.ref b)]))
    try clear st16
    try clear N16q
    try clear N8
    try clear e12
    try clear X12
    try clear T12
    obtain ⟨cq19, kq19, q19a, q19b, q19c⟩ := isOf hZ rfl E_b
    obtain ⟨_, _, ⟨T19, L19, k19, n19⟩, -, X19, ⟨Lc19, hQ19, l19, y19, z19⟩, st19⟩ := X16.virtualBack hx (y := (⟨"java/lang/StringBuilder", "toString", "()Ljava/lang/String;"⟩ : MethodName)) (z := (⟨"java/lang/StringBuilder", "toString", "()Ljava/lang/String;"⟩ : MethodName)) hown (mvT hZ (hw _ (List.mem_of_getElem? (i := 135) rfl))) (mvT hZ (hw _ (List.mem_of_getElem? (i := 136) rfl))) (notFace_of_selects (args := #[]) (mvT hZ (hw _ (List.mem_of_getElem? (i := 138) rfl)))) (mvT hZ (hw _ (List.mem_of_getElem? (i := 138) rfl))) (mvT hZ (hw _ (List.mem_of_getElem? (i := 137) rfl))) (by decide) (backOf (W := 0) (own_rm_sbs l Z a0 hw [] b w kw cN (dn + own_A.length) Pq zc T16.heap n0 (Nat.le_trans Z0 K18.1) (S_C.ext K18) hzc E_b G_v G_c G_n V_w hmc hcN E_w) hZ (hw _ (List.mem_of_getElem? (i := 139) rfl)) (hw _ (List.mem_of_getElem? (i := 39) rfl)) (by decide) (by decide)) q19a q19c (g := (mkF m 32 #[.val (.ref a)] [(.ref b)])) rfl (by rw [hml]; rfl) (Steps.refl _) (argsL := []) (rest := []) (lenOf own_pd22 rfl) rfl (by show 2 * 0 + _ ≤ _; exact Nat.le_of_eq rfl) (hb hby own_d_prog_15_method_8_code_32) (fun _ _ => ⟨rfl, rfl, (by decide : 5 + 2 ≤ _), (by decide : 86 + 38 ≤ _)⟩)
    dsimp only [Pt.U, Pt.locs, Pt.cells, Pt.slots] at X19 l19 y19 z19 st19 hQ19
    obtain rfl : k19 = 7 := y19
    obtain rfl : n19 = 124 := z19
    obtain ⟨⟨x, rfl, szc19, E_x, u, ku, R, F_vx, F_cx, V_u, hR⟩, N19q, Kc19⟩ := hQ19
    have N19 : Fr n0 L19 := by rw [l19]; exact Fr.app N16 N19q
    try clear l19
    refine own_tr st19 ?_
    have ne_o1_x : o1 ≠ x := Nat.ne_of_lt (Nat.lt_of_lt_of_le (V_1.ext K18).lt szc19)
    have ne_o2_x : o2 ≠ x := Nat.ne_of_lt (Nat.lt_of_lt_of_le (V_2.ext K18).lt szc19)
    have ne_a_x : a ≠ x := Nat.ne_of_lt (Nat.lt_of_lt_of_le (F_s.ext K18).lt szc19)
    have ne_b_x : b ≠ x := Nat.ne_of_lt (Nat.lt_of_lt_of_le E_b.lt szc19)
    have ne_d_x : d ≠ x := Nat.ne_of_lt (Nat.lt_of_lt_of_le E_d.lt szc19)
    have ne_lit_x : lit ≠ x := Nat.ne_of_lt (Nat.lt_of_lt_of_le E_lit.lt szc19)
    have ne_lit_b_x : lit_b ≠ x := Nat.ne_of_lt (Nat.lt_of_lt_of_le V_lit_b.lt szc19)
    have ne_w_x : w ≠ x := Nat.ne_of_lt (Nat.lt_of_lt_of_le V_w.lt szc19)
    have sz_x : h0.size ≤ x := Nat.le_trans K18.1 szc19
    have g_x : n0 ≤ x := Nat.le_trans Z0 sz_x
    have sf_x : Safe Z own_EL T12.vm T16.heap x := Safe.new szc19
    have sz_x : h0.size ≤ x := Nat.le_trans K18.1 szc19
    have hk := Nat.le_trans hk Kc19.1
    have sf_b := Safe.ext Kc19 C17.1 sf_b
    have sf_d := Safe.ext Kc19 C17.1 sf_d
    have sf_x := Safe.ext Kc19 C17.1 sf_x
    have C20 := C17.trans (CHr.ext Kc19 C17.1)
    replace E_b := E_b.ext Kc19
    replace E_d := E_d.ext Kc19
    replace E_lit := E_lit.ext Kc19
    replace Fc_lit := Fc_lit.ext Kc19
    replace Fv_lit := Fv_lit.ext Kc19
    replace V_lit_b := V_lit_b.ext Kc19
    replace G_v := G_v.ext Kc19
    replace G_c := G_c.ext Kc19
    replace G_n := G_n.ext Kc19
    replace V_w := V_w.ext Kc19
    replace E_w := E_w.ext Kc19
    have K21 := own_ext_tr K18 Kc19
    try clear Kc19
    try clear K18
    show own_Gl p e below _ (T19.setTop (mkF m 35 #[.val (.ref a)] [(.ref x)]))
    try clear st19
    try clear N19q
    try clear N16
    try clear X16
    try clear T16
    exact own_wretA X19 hx Bd.notSynchronized Bd.returns rfl rfl (hb hby own_d_prog_15_method_8_code_35) (by decide) (by decide) rfl hSb12 hk hh (C20.trans (CHv.at X19 hZ hEL C20.1)) (⟨⟨_, rfl, sz_x, E_x, Or.inl ⟨hs1, u, ku, R, dn, F_vx, F_cx, hD, V_u, own_T_move hle.1 (by decide) hTq hR⟩⟩, N19, K21⟩)
  ·
    show own_Gl p e below _ (T11.setTop (mkF m 19 #[.val (.ref a)] [(.int (1 : Int32)), (.int sv), (.ref b)]))
    refine own_st (fun tg_ kg_ => XS.icmpYes X11.here hx rfl (pc0 := 19) (pc' := 27) rfl (hb hby own_d_prog_15_method_8_code_19) rfl (feq (hs1)).2 (by decide) (by decide) kg_) ?_
    show own_Gl p e below _ (T11.setTop (mkF m 27 #[.val (.ref a)] [(.ref b)]))
    have lt23 : b < T8.heap.size := E_b.lt
    have lt24 : d < T8.heap.size := E_d.lt
    obtain ⟨lit, T22, h22, k22, lit_b, lit_k, X22, e22, E22, hSb22, hk22, hZ, hown, E_lit, Fc_lit, Fv_lit, V_lit_b, -, -, CC22, -, nl22, st22⟩ := ldcCH X11 hx hZ hown (text := " seconds") (hw _ (List.mem_of_getElem? (i := 189) rfl)) (own_wS hw) e11 hS0 (Nat.zero_le _) hEL (by decide) C9.1 (vs := [(.int 32), (.int 115), (.int 101), (.int 99), (.int 111), (.int 110), (.int 100), (.int 115)]) (z := (8 : Int32)) ⟨by decide, by decide⟩ (by decide) rfl (g := (mkF m 27 #[.val (.ref a)] [(.ref b)])) rfl (hb hby own_d_prog_15_method_8_code_27) (n := 32) (by decide) (by decide) (by decide) (by decide)
    have hk := hk22
    replace E_b := E_b.ext E22
    replace E_d := E_d.ext E22
    replace G_v := G_v.ext E22
    replace G_c := G_c.ext E22
    replace G_n := G_n.ext E22
    replace V_d := V_d.ext E22
    have K25 := own_ext_tr K10 E22
    try clear E22
    try clear K10
    have sf_b := CHr.safe CC22 lt23 sf_b
    have sf_d := CHr.safe CC22 lt24 sf_d
    have C22 := C9.trans CC22
    obtain ⟨ne_b_lit, ne_b_lit_b⟩ := nl22 b sf_b
    obtain ⟨ne_d_lit, ne_d_lit_b⟩ := nl22 d sf_d
    refine own_st st22 ?_
    try clear st22
    try clear e11
    try clear X11
    try clear T11
    show own_Gl p e below _ (T22.setTop (mkF m 29 #[.val (.ref a)] [(.ref lit), (.ref b)]))
    have V_ls : Arv Z h22 lit_b lit_k .byte (Int32.ofNat own_B.length) own_B (.int 0) := V_lit_b
    obtain ⟨cq26, kq26, q26a, q26b, q26c⟩ := isOf hZ e22 E_b
    obtain ⟨_, _, ⟨T26, L26, k26, n26⟩, -, X26, ⟨Lc26, hQ26, l26, y26, z26⟩, st26⟩ := X22.virtualBack hx (y := (⟨"java/lang/StringBuilder", "append", "(Ljava/lang/String;)Ljava/lang/StringBuilder;"⟩ : MethodName)) (z := (⟨"java/lang/StringBuilder", "append", "(Ljava/lang/String;)Ljava/lang/StringBuilder;"⟩ : MethodName)) hown (mvT hZ (hw _ (List.mem_of_getElem? (i := 93) rfl))) (mvT hZ (hw _ (List.mem_of_getElem? (i := 94) rfl))) (notFace_of_selects (args := #[]) (mvT hZ (hw _ (List.mem_of_getElem? (i := 96) rfl)))) (mvT hZ (hw _ (List.mem_of_getElem? (i := 96) rfl))) (mvT hZ (hw _ (List.mem_of_getElem? (i := 95) rfl))) (by decide) (backOf (W := 0) (own_rm_sas l Z a0 hw [] b d kd dn P own_B (.int (own_dg sv)) lit lit_b lit_k zc h22 n0 (Nat.le_trans Z0 K25.1) (S_C.ext K25) hzc E_lit Fc_lit Fv_lit V_ls E_b G_v G_c G_n V_d E_d hP hle.1 hle.2.1 (by decide) (by decide) hdg g_b g_d ne_d_lit.symm ne_d_lit_b.symm ne_b_lit.symm ne_b_lit_b.symm ne_b_d) hZ (hw _ (List.mem_of_getElem? (i := 97) rfl)) (hw _ (List.mem_of_getElem? (i := 39) rfl)) (by decide) (by decide)) q26a q26c (g := (mkF m 29 #[.val (.ref a)] [(.ref lit), (.ref b)])) rfl (by rw [hml]; rfl) (Steps.refl _) (argsL := [(.ref lit)]) (rest := []) (lenOf own_pd21 rfl) rfl (by show 2 * 0 + _ ≤ _; exact Nat.le_of_eq rfl) (hb hby own_d_prog_15_method_8_code_29) (fun _ _ => ⟨rfl, e22, (by decide : 4 + 1 ≤ _), (by decide : 56 + 34 ≤ _)⟩)
    dsimp only [Pt.U, Pt.locs, Pt.cells, Pt.slots] at X26 l26 y26 z26 st26 hQ26
    obtain rfl : k26 = 5 := y26
    obtain rfl : n26 = 90 := z26
    obtain ⟨rfl, N26q, Kc26, w, kw, cN, Pq, hcN, hmc, hTq, V_w, E_w, G_v, G_c, G_n⟩ := hQ26
    have N26 : Fr n0 L26 := by rw [l26]; exact Fr.app N8 N26q
    try clear l26
    refine own_tr st26 ?_
    have hk := Nat.le_trans hk Kc26.1
    have sf_b' := Safe.keep Kc26 (sfS sf_b (sfS sf_d sf0)) C22.1 sf_b
    have sf_d' := Safe.keep Kc26 (sfS sf_b (sfS sf_d sf0)) C22.1 sf_d
    have C27 := C22.trans (CHr.keep Kc26 (sfS sf_b (sfS sf_d sf0)) C22.1)
    have sf_b := sf_b'
    have sf_d := sf_d'
    replace E_b := E_b.keep Kc26
    replace E_d := E_d.keep Kc26
    replace E_lit := E_lit.keep Kc26
    replace Fc_lit := Fc_lit.keep Kc26 (ninS ne_b_lit.symm (ninS ne_d_lit.symm nin0))
    replace Fv_lit := Fv_lit.keep Kc26 (ninS ne_b_lit.symm (ninS ne_d_lit.symm nin0))
    replace V_lit_b := V_lit_b.keep Kc26 (ninS ne_b_lit_b.symm (ninS ne_d_lit_b.symm nin0))
    have K28 := own_ext_keep K25 Kc26 (allS sz_b (allS sz_d all0))
    try clear Kc26
    try clear K25
    show own_Gl p e below _ (T26.setTop (mkF m 32 #[.val (.ref a)] [(.ref b)]))
    try clear st26
    try clear N26q
    try clear N8
    try clear e22
    try clear X22
    try clear T22
    obtain ⟨cq29, kq29, q29a, q29b, q29c⟩ := isOf hZ rfl E_b
    obtain ⟨_, _, ⟨T29, L29, k29, n29⟩, -, X29, ⟨Lc29, hQ29, l29, y29, z29⟩, st29⟩ := X26.virtualBack hx (y := (⟨"java/lang/StringBuilder", "toString", "()Ljava/lang/String;"⟩ : MethodName)) (z := (⟨"java/lang/StringBuilder", "toString", "()Ljava/lang/String;"⟩ : MethodName)) hown (mvT hZ (hw _ (List.mem_of_getElem? (i := 135) rfl))) (mvT hZ (hw _ (List.mem_of_getElem? (i := 136) rfl))) (notFace_of_selects (args := #[]) (mvT hZ (hw _ (List.mem_of_getElem? (i := 138) rfl)))) (mvT hZ (hw _ (List.mem_of_getElem? (i := 138) rfl))) (mvT hZ (hw _ (List.mem_of_getElem? (i := 137) rfl))) (by decide) (backOf (W := 0) (own_rm_sbs l Z a0 hw [] b w kw cN (dn + own_B.length) Pq zc T26.heap n0 (Nat.le_trans Z0 K28.1) (S_C.ext K28) hzc E_b G_v G_c G_n V_w hmc hcN E_w) hZ (hw _ (List.mem_of_getElem? (i := 139) rfl)) (hw _ (List.mem_of_getElem? (i := 39) rfl)) (by decide) (by decide)) q29a q29c (g := (mkF m 32 #[.val (.ref a)] [(.ref b)])) rfl (by rw [hml]; rfl) (Steps.refl _) (argsL := []) (rest := []) (lenOf own_pd22 rfl) rfl (by show 2 * 0 + _ ≤ _; exact Nat.le_of_eq rfl) (hb hby own_d_prog_15_method_8_code_32) (fun _ _ => ⟨rfl, rfl, (by decide : 5 + 2 ≤ _), (by decide : 90 + 38 ≤ _)⟩)
    dsimp only [Pt.U, Pt.locs, Pt.cells, Pt.slots] at X29 l29 y29 z29 st29 hQ29
    obtain rfl : k29 = 7 := y29
    obtain rfl : n29 = 128 := z29
    obtain ⟨⟨x, rfl, szc29, E_x, u, ku, R, F_vx, F_cx, V_u, hR⟩, N29q, Kc29⟩ := hQ29
    have N29 : Fr n0 L29 := by rw [l29]; exact Fr.app N26 N29q
    try clear l29
    refine own_tr st29 ?_
    have ne_o1_x : o1 ≠ x := Nat.ne_of_lt (Nat.lt_of_lt_of_le (V_1.ext K28).lt szc29)
    have ne_o2_x : o2 ≠ x := Nat.ne_of_lt (Nat.lt_of_lt_of_le (V_2.ext K28).lt szc29)
    have ne_a_x : a ≠ x := Nat.ne_of_lt (Nat.lt_of_lt_of_le (F_s.ext K28).lt szc29)
    have ne_b_x : b ≠ x := Nat.ne_of_lt (Nat.lt_of_lt_of_le E_b.lt szc29)
    have ne_d_x : d ≠ x := Nat.ne_of_lt (Nat.lt_of_lt_of_le E_d.lt szc29)
    have ne_lit_x : lit ≠ x := Nat.ne_of_lt (Nat.lt_of_lt_of_le E_lit.lt szc29)
    have ne_lit_b_x : lit_b ≠ x := Nat.ne_of_lt (Nat.lt_of_lt_of_le V_lit_b.lt szc29)
    have ne_w_x : w ≠ x := Nat.ne_of_lt (Nat.lt_of_lt_of_le V_w.lt szc29)
    have sz_x : h0.size ≤ x := Nat.le_trans K28.1 szc29
    have g_x : n0 ≤ x := Nat.le_trans Z0 sz_x
    have sf_x : Safe Z own_EL T22.vm T26.heap x := Safe.new szc29
    have sz_x : h0.size ≤ x := Nat.le_trans K28.1 szc29
    have hk := Nat.le_trans hk Kc29.1
    have sf_b := Safe.ext Kc29 C27.1 sf_b
    have sf_d := Safe.ext Kc29 C27.1 sf_d
    have sf_x := Safe.ext Kc29 C27.1 sf_x
    have C30 := C27.trans (CHr.ext Kc29 C27.1)
    replace E_b := E_b.ext Kc29
    replace E_d := E_d.ext Kc29
    replace E_lit := E_lit.ext Kc29
    replace Fc_lit := Fc_lit.ext Kc29
    replace Fv_lit := Fv_lit.ext Kc29
    replace V_lit_b := V_lit_b.ext Kc29
    replace G_v := G_v.ext Kc29
    replace G_c := G_c.ext Kc29
    replace G_n := G_n.ext Kc29
    replace V_w := V_w.ext Kc29
    replace E_w := E_w.ext Kc29
    have K31 := own_ext_tr K28 Kc29
    try clear Kc29
    try clear K28
    show own_Gl p e below _ (T29.setTop (mkF m 35 #[.val (.ref a)] [(.ref x)]))
    try clear st29
    try clear N29q
    try clear N26
    try clear X26
    try clear T26
    exact own_wretA X29 hx Bd.notSynchronized Bd.returns rfl rfl (hb hby own_d_prog_15_method_8_code_35) (by decide) (by decide) rfl hSb22 hk hh (C30.trans (CHv.at X29 hZ hEL C30.1)) (⟨⟨_, rfl, sz_x, E_x, Or.inr ⟨hs1, u, ku, R, dn, F_vx, F_cx, hD, V_u, own_T_move hle.1 (by decide) hTq hR⟩⟩, N29, K31⟩)
theorem own_d_prog_15_method_1_code_0 : decode prog_15_method_1_code 0 = .ok (.aload_n 0, 1) := by decide +kernel
theorem own_d_prog_15_method_1_code_1 : decode prog_15_method_1_code 1 = .ok (.invokespecial 1, 3) := by decide +kernel
theorem own_d_prog_15_method_1_code_4 : decode prog_15_method_1_code 4 = .ok (.aload_n 0, 1) := by decide +kernel
theorem own_d_prog_15_method_1_code_5 : decode prog_15_method_1_code 5 = .ok (.iload_n 1, 1) := by decide +kernel
theorem own_d_prog_15_method_1_code_6 : decode prog_15_method_1_code 6 = .ok (.putfield 7, 3) := by decide +kernel
theorem own_d_prog_15_method_1_code_9 : decode prog_15_method_1_code 9 = .ok (.return_, 1) := by decide +kernel
theorem own_ef_cli (m : MethodId) (x0 : Addr) (x1 : Int32) : entryFrame m #[(.ref x0), (.int x1)] 2 = mkF m 0 #[.val (.ref x0), .val (.int x1)] [] := by first | (simp [entryFrame, mkF, argsToLocals, Value.category]; done) | rfl
def own_Q_cli (Z : State) (a : Addr) (sv : Int32) (h0 : Heap) (n0 : Nat) (v : Option Value) (h : Heap) (L : List Loc) : Prop := v = none ∧ Fr n0 L ∧ Keep h0 h [a] ∧ Fld Z h a "org/samehood/calls/CallLimit" "seconds" "I" (.int sv)
set_option maxRecDepth 65536 in
set_option maxHeartbeats 40000000 in
theorem own_rm_cli (l : Launch) (Z : State) (a0 : Array Value) (hw : ∀ d ∈ tables_1, d.before a0 Z = true) (ws : List Jvm.Cond) (a : Addr) (sv : Int32) (h0 : Heap) (n0 : Nat) (Z0 : n0 ≤ h0.size) (E_a : Exa Z h0 a "org/samehood/calls/CallLimit") (F_s : Fld Z h0 a "org/samehood/calls/CallLimit" "seconds" "I" (.int (0 : Int32))) (g_a : n0 ≤ a) :
    MetFree l (⟨"org/samehood/calls/CallLimit", "<init>", "(I)V"⟩ : MethodName) (head1 (Jvm.Cond.code (⟨"org/samehood/calls/CallLimit", "<init>", "(I)V"⟩ : MethodName) prog_15_method_1_code 2 none :: ws) ({ frames := 1, cells := 0, slots := 0, locals := 12 } : Room)) (fun aa UU => aa = #[(.ref a), (.int sv)] ∧ Z.Warmed39 UU.vm ∧ UU.heap = h0) (fun _ _ _ _ _ => True) (fun _ UU oo UU' => ∃ vv LL, oo = .returned vv ∧ own_Q_cli Z a sv h0 n0 vv UU'.heap LL ∧ FrameEnd UU oo UU' LL ({ frames := 1, cells := 0, slots := 0, locals := 12 } : Room).cells ({ frames := 1, cells := 0, slots := 0, locals := 12 } : Room).slots) := by
  refine MetFree.of_bodySF (plainFor_of_name own_pn7) hisR ?_
  intro p e s m args below meth c s₁ Bd hml0 hP hK
  obtain ⟨rfl, hZ, hh⟩ := hP
  have hx := Bd.exec
  have hby := Bd.bytes
  have hml : c.maxLocals = 2 := hml0
  have hown : s.vm.findClass "org/samehood/calls/CallLimit" = some m.cls := findClass_of_methodNamed Bd.named
  have hnm := (name_of_methodNamed Bd.named Bd.method).1
  have X0 : Stand p l e ({ frames := 1, cells := 0, slots := 0, locals := 12 } : Room) s m #[(.ref a), (.int sv)] below meth c s₁ [] 0 0 := Stand.of_body Bd
  have e0 : s₁.heap = h0 := by rw [← hh, Bd.state]; rfl
  have N0 := Fr.nil n0
  have K0 : Keep h0 h0 [a] := Keep.refl h0 _
  show own_Gl p e below (own_Post s (own_Q_cli Z a sv h0 n0) ({ frames := 1, cells := 0, slots := 0, locals := 12 } : Room).cells ({ frames := 1, cells := 0, slots := 0, locals := 12 } : Room).slots) _
  refine own_st (fun tg_ kg_ => castTop (own_ef_cli m a sv) kg_) ?_
  show own_Gl p e below _ (s₁.setTop (mkF m 0 #[.val (.ref a), .val (.int sv)] []))
  refine own_st (fun tg_ kg_ => XS.aloadN X0.here hx rfl (hb hby own_d_prog_15_method_1_code_0) rfl rfl kg_) ?_
  show own_Gl p e below _ (s₁.setTop (mkF m 1 #[.val (.ref a), .val (.int sv)] [(.ref a)]))
  obtain ⟨T1, X1, e1, st1⟩ := initO X0 hx hZ hown (hw _ (List.mem_of_getElem? (i := 10) rfl)) (hw _ (List.mem_of_getElem? (i := 11) rfl)) (hw _ (List.mem_of_getElem? (i := 12) rfl)) e0 (g := (mkF m 1 #[.val (.ref a), .val (.int sv)] [(.ref a)])) rfl (by rw [hml]; rfl) rfl (hb hby own_d_prog_15_method_1_code_1) (by decide) (W := 0) (by show 2 * 0 + _ ≤ _; exact Nat.le_of_eq rfl) (by decide)
  refine own_st st1 ?_
  try clear st1
  show own_Gl p e below _ (T1.setTop (mkF m 4 #[.val (.ref a), .val (.int sv)] []))
  refine own_st (fun tg_ kg_ => XS.aloadN X1.here hx rfl (hb hby own_d_prog_15_method_1_code_4) rfl rfl kg_) ?_
  show own_Gl p e below _ (T1.setTop (mkF m 5 #[.val (.ref a), .val (.int sv)] [(.ref a)]))
  refine own_st (fun tg_ kg_ => XS.iloadN X1.here hx rfl (hb hby own_d_prog_15_method_1_code_5) rfl kg_) ?_
  show own_Gl p e below _ (T1.setTop (mkF m 6 #[.val (.ref a), .val (.int sv)] [(.int sv), (.ref a)]))
  obtain ⟨T2, h2, X2, e2, W2, st2⟩ := putF X1 hx hZ hown (host := "") (Or.inl (hw _ (List.mem_of_getElem? (i := 13) rfl))) Via.refl e1 F_s E_a (Or.inr ⟨(hw _ (List.mem_of_getElem? (i := 14) rfl)), rfl, hnm⟩) (hw _ (List.mem_of_getElem? (i := 6) rfl)) (ty := .int) (by decide) rfl rfl (g := (mkF m 6 #[.val (.ref a), .val (.int sv)] [(.int sv), (.ref a)])) rfl rfl (hb hby own_d_prog_15_method_1_code_6)
  have N2 := Fr.snoc X2 N0 g_a
  replace E_a := E_a.wr W2
  replace F_s := F_s.same W2
  have K3 : Keep h0 h2 [a] := K0.wr W2 (Or.inl (List.mem_of_getElem? (i := 0) rfl))
  refine own_st st2 ?_
  try clear st2
  try clear e1
  try clear X1
  try clear T1
  show own_Gl p e below _ (T2.setTop (mkF m 9 #[.val (.ref a), .val (.int sv)] []))
  exact own_retV X2 hx Bd.notSynchronized Bd.returns (hb hby own_d_prog_15_method_1_code_9) (by decide) (by decide) e2 (⟨rfl, N2, K3, F_s⟩)
theorem own_d_prog_15_method_2_code_0 : decode prog_15_method_2_code 0 = .ok (.iload_n 0, 1) := by decide +kernel
theorem own_d_prog_15_method_2_code_1 : decode prog_15_method_2_code 1 = .ok (.iconst 1, 1) := by decide +kernel
theorem own_d_prog_15_method_2_code_2 : decode prog_15_method_2_code 2 = .ok (.if_icmp .ge 30, 3) := by decide +kernel
theorem own_d_prog_15_method_2_code_32 : decode prog_15_method_2_code 32 = .ok (.new 8, 3) := by decide +kernel
theorem own_d_prog_15_method_2_code_35 : decode prog_15_method_2_code 35 = .ok (.dup, 1) := by decide +kernel
theorem own_d_prog_15_method_2_code_36 : decode prog_15_method_2_code 36 = .ok (.iload_n 0, 1) := by decide +kernel
theorem own_d_prog_15_method_2_code_37 : decode prog_15_method_2_code 37 = .ok (.invokespecial 34, 3) := by decide +kernel
theorem own_d_prog_15_method_2_code_40 : decode prog_15_method_2_code 40 = .ok (.areturn, 1) := by decide +kernel
theorem own_ef_of (m : MethodId) (x0 : Int32) : entryFrame m #[(.int x0)] 1 = mkF m 0 #[.val (.int x0)] [] := by first | (simp [entryFrame, mkF, argsToLocals, Value.category]; done) | rfl
def own_Q_of (Z : State) (sv : Int32) (h0 : Heap) (n0 : Nat) (v : Option Value) (h : Heap) (L : List Loc) : Prop := (∃ a, v = some (.ref a) ∧ h0.size ≤ a ∧ Exa Z h a "org/samehood/calls/CallLimit" ∧ Fld Z h a "org/samehood/calls/CallLimit" "seconds" "I" (.int sv)) ∧ Fr n0 L ∧ Ext h0 h
set_option maxRecDepth 65536 in
set_option maxHeartbeats 40000000 in
theorem own_rm_of (l : Launch) (Z : State) (a0 : Array Value) (hw : ∀ d ∈ tables_1, d.before a0 Z = true) (ws : List Jvm.Cond) (sv : Int32) (h0 : Heap) (n0 : Nat) (Z0 : n0 ≤ h0.size) (hone : 1 ≤ sv.toInt) :
    MetFree l (⟨"org/samehood/calls/CallLimit", "of", "(I)Lorg/samehood/calls/CallLimit;"⟩ : MethodName) (head1 (Jvm.Cond.code (⟨"org/samehood/calls/CallLimit", "of", "(I)Lorg/samehood/calls/CallLimit;"⟩ : MethodName) prog_15_method_2_code 1 (some (.object "org/samehood/calls/CallLimit")) :: ws) ({ frames := 2, cells := 1, slots := 1, locals := 26 } : Room)) (fun aa UU => aa = #[(.int sv)] ∧ Z.Warmed39 UU.vm ∧ UU.heap = h0) (fun _ _ _ _ _ => True) (fun _ UU oo UU' => ∃ vv LL, oo = .returned vv ∧ own_Q_of Z sv h0 n0 vv UU'.heap LL ∧ FrameEnd UU oo UU' LL ({ frames := 2, cells := 1, slots := 1, locals := 26 } : Room).cells ({ frames := 2, cells := 1, slots := 1, locals := 26 } : Room).slots) := by
  refine MetFree.of_bodySF (plainFor_of_name own_pn7) hisR ?_
  intro p e s m args below meth c s₁ Bd hml0 hP hK
  obtain ⟨rfl, hZ, hh⟩ := hP
  have hx := Bd.exec
  have hby := Bd.bytes
  have hml : c.maxLocals = 1 := hml0
  have hown : s.vm.findClass "org/samehood/calls/CallLimit" = some m.cls := findClass_of_methodNamed Bd.named
  have hnm := (name_of_methodNamed Bd.named Bd.method).1
  have X0 : Stand p l e ({ frames := 2, cells := 1, slots := 1, locals := 26 } : Room) s m #[(.int sv)] below meth c s₁ [] 0 0 := Stand.of_body Bd
  have e0 : s₁.heap = h0 := by rw [← hh, Bd.state]; rfl
  have N0 := Fr.nil n0
  show own_Gl p e below (own_Post s (own_Q_of Z sv h0 n0) ({ frames := 2, cells := 1, slots := 1, locals := 26 } : Room).cells ({ frames := 2, cells := 1, slots := 1, locals := 26 } : Room).slots) _
  refine own_st (fun tg_ kg_ => castTop (own_ef_of m sv) kg_) ?_
  show own_Gl p e below _ (s₁.setTop (mkF m 0 #[.val (.int sv)] []))
  refine own_st (fun tg_ kg_ => XS.iloadN X0.here hx rfl (hb hby own_d_prog_15_method_2_code_0) rfl kg_) ?_
  show own_Gl p e below _ (s₁.setTop (mkF m 1 #[.val (.int sv)] [(.int sv)]))
  refine own_st (fun tg_ kg_ => XS.iconst X0.here hx rfl (hb hby own_d_prog_15_method_2_code_1) kg_) ?_
  show own_Gl p e below _ (s₁.setTop (mkF m 2 #[.val (.int sv)] [(.int (1 : Int32)), (.int sv)]))
  refine own_st (fun tg_ kg_ => XS.icmpYes X0.here hx rfl (pc0 := 2) (pc' := 32) rfl (hb hby own_d_prog_15_method_2_code_2) rfl (flt (fun q => absurd ((own_cl (k := 1) (by decide)).mp q) (by omega))).2.1 (by decide) (by decide) kg_) ?_
  show own_Gl p e below _ (s₁.setTop (mkF m 32 #[.val (.int sv)] []))
  obtain ⟨T1, h1, X1, e1, E1, A1, D1, -, st1⟩ := newO X0 hx hZ hown (hw _ (List.mem_of_getElem? (i := 5) rfl)) (hw _ (List.mem_of_getElem? (i := 6) rfl)) (hw _ (List.mem_of_getElem? (i := 3) rfl)) e0 (g := (mkF m 32 #[.val (.int sv)] [])) rfl (hb hby own_d_prog_15_method_2_code_32) (by decide) (by decide)
  obtain ⟨a, g1⟩ : ∃ z, z = h0.size := ⟨_, rfl⟩
  have sz_a : h0.size ≤ a := Nat.le_of_eq g1.symm
  have g_a : n0 ≤ a := Nat.le_trans Z0 sz_a
  rw [← g1] at A1 D1 st1
  have E_a := A1
  have F_seconds_a : Fld Z h1 a "org/samehood/calls/CallLimit" "seconds" "I" (.int (0 : Int32)) := D1 (Or.inr (hw _ (List.mem_of_getElem? (i := 14) rfl))) (ty := .int) (by decide)
  refine own_st st1 ?_
  try clear st1
  show own_Gl p e below _ (T1.setTop (mkF m 35 #[.val (.int sv)] [(.ref a)]))
  refine own_st (fun tg_ kg_ => XS.dup X1.here hx rfl (hb hby own_d_prog_15_method_2_code_35) rfl rfl kg_) ?_
  show own_Gl p e below _ (T1.setTop (mkF m 36 #[.val (.int sv)] [(.ref a), (.ref a)]))
  refine own_st (fun tg_ kg_ => XS.iloadN X1.here hx rfl (hb hby own_d_prog_15_method_2_code_36) rfl kg_) ?_
  show own_Gl p e below _ (T1.setTop (mkF m 37 #[.val (.int sv)] [(.int sv), (.ref a), (.ref a)]))
  obtain ⟨_, _, ⟨T3, L3, k3, n3⟩, -, X3, ⟨Lc3, hQ3, l3, y3, z3⟩, st3⟩ := X1.specialBack hx (y := (⟨"org/samehood/calls/CallLimit", "<init>", "(I)V"⟩ : MethodName)) rfl hown (mvT hZ (hw _ (List.mem_of_getElem? (i := 7) rfl))) (mvT hZ (hw _ (List.mem_of_getElem? (i := 8) rfl))) (mvT hZ (hw _ (List.mem_of_getElem? (i := 9) rfl))) (by decide) (backOf (W := 1) (own_rm_cli l Z a0 hw [] a sv h1 n0 (Nat.le_trans Z0 E1.1) E_a F_seconds_a g_a) hZ (hw _ (List.mem_of_getElem? (i := 9) rfl)) (hw _ (List.mem_of_getElem? (i := 3) rfl)) (by decide) (by decide)) (g := (mkF m 37 #[.val (.int sv)] [(.int sv), (.ref a), (.ref a)])) rfl (by rw [hml]; rfl) (Steps.refl _) (a := a) (argsL := [(.int sv)]) (rest := [(.ref a)]) (lenOf own_pd5 rfl) rfl (by show 2 * 0 + _ ≤ _; exact Nat.le_of_eq rfl) (hb hby own_d_prog_15_method_2_code_37) (fun _ _ => ⟨rfl, e1, (by decide : 1 + 0 ≤ _), (by decide : 1 + 0 ≤ _)⟩)
  dsimp only [Pt.U, Pt.locs, Pt.cells, Pt.slots] at X3 l3 y3 z3 st3 hQ3
  obtain rfl : k3 = 1 := y3
  obtain rfl : n3 = 1 := z3
  obtain ⟨rfl, N3q, Kc3, F_s⟩ := hQ3
  have N3 : Fr n0 L3 := by rw [l3]; exact Fr.app N0 N3q
  try clear l3
  refine own_tr st3 ?_
  replace E_a := E_a.keep Kc3
  have K4 := own_ext_keep E1 Kc3 (allS sz_a all0)
  try clear Kc3
  try clear E1
  show own_Gl p e below _ (T3.setTop (mkF m 40 #[.val (.int sv)] [(.ref a)]))
  try clear st3
  try clear N3q
  try clear e1
  try clear X1
  try clear T1
  exact own_retA X3 hx Bd.notSynchronized Bd.returns rfl rfl (hb hby own_d_prog_15_method_2_code_40) (by decide) (by decide) rfl (⟨⟨_, rfl, sz_a, E_a, F_s⟩, N3, K4⟩)
theorem own_pn8 : plainName "java/util/concurrent/TimeUnit" = true := by first | (simp [plainName, overriddenIn]; done) | decide +kernel
theorem own_d_jdk_2799_method_7_code_0 : decode jdk_2799_method_7_code 0 = .ok (.aload_n 0, 1) := by decide +kernel
theorem own_d_jdk_2799_method_7_code_1 : decode jdk_2799_method_7_code 1 = .ok (.getfield 44, 3) := by decide +kernel
theorem own_d_jdk_2799_method_7_code_4 : decode jdk_2799_method_7_code 4 = .ok (.dup2, 1) := by decide +kernel
theorem own_d_jdk_2799_method_7_code_5 : decode jdk_2799_method_7_code 5 = .ok (.lstore_n 3, 1) := by decide +kernel
theorem own_d_jdk_2799_method_7_code_6 : decode jdk_2799_method_7_code 6 = .ok (.lconst 1, 1) := by decide +kernel
theorem own_d_jdk_2799_method_7_code_7 : decode jdk_2799_method_7_code 7 = .ok (.lcmp, 1) := by decide +kernel
theorem own_d_jdk_2799_method_7_code_8 : decode jdk_2799_method_7_code 8 = .ok (.ifCond .ne 5, 3) := by decide +kernel
theorem own_d_jdk_2799_method_7_code_13 : decode jdk_2799_method_7_code 13 = .ok (.lload_n 1, 1) := by decide +kernel
theorem own_d_jdk_2799_method_7_code_14 : decode jdk_2799_method_7_code 14 = .ok (.aload_n 0, 1) := by decide +kernel
theorem own_d_jdk_2799_method_7_code_15 : decode jdk_2799_method_7_code 15 = .ok (.getfield 52, 3) := by decide +kernel
theorem own_d_jdk_2799_method_7_code_18 : decode jdk_2799_method_7_code 18 = .ok (.dup2, 1) := by decide +kernel
theorem own_d_jdk_2799_method_7_code_19 : decode jdk_2799_method_7_code 19 = .ok (.lstore 5, 2) := by decide +kernel
theorem own_d_jdk_2799_method_7_code_21 : decode jdk_2799_method_7_code 21 = .ok (.lcmp, 1) := by decide +kernel
theorem own_d_jdk_2799_method_7_code_22 : decode jdk_2799_method_7_code 22 = .ok (.ifCond .le 7, 3) := by decide +kernel
theorem own_d_jdk_2799_method_7_code_29 : decode jdk_2799_method_7_code 29 = .ok (.lload_n 1, 1) := by decide +kernel
theorem own_d_jdk_2799_method_7_code_30 : decode jdk_2799_method_7_code 30 = .ok (.lload 5, 2) := by decide +kernel
theorem own_d_jdk_2799_method_7_code_32 : decode jdk_2799_method_7_code 32 = .ok (.lneg, 1) := by decide +kernel
theorem own_d_jdk_2799_method_7_code_33 : decode jdk_2799_method_7_code 33 = .ok (.lcmp, 1) := by decide +kernel
theorem own_d_jdk_2799_method_7_code_34 : decode jdk_2799_method_7_code 34 = .ok (.ifCond .ge 7, 3) := by decide +kernel
theorem own_d_jdk_2799_method_7_code_41 : decode jdk_2799_method_7_code 41 = .ok (.lload_n 1, 1) := by decide +kernel
theorem own_d_jdk_2799_method_7_code_42 : decode jdk_2799_method_7_code 42 = .ok (.lload_n 3, 1) := by decide +kernel
theorem own_d_jdk_2799_method_7_code_43 : decode jdk_2799_method_7_code 43 = .ok (.lmul, 1) := by decide +kernel
theorem own_d_jdk_2799_method_7_code_44 : decode jdk_2799_method_7_code 44 = .ok (.lreturn, 1) := by decide +kernel
theorem own_ef_ton (m : MethodId) (x0 : Addr) (x1 : Int64) : entryFrame m #[(.ref x0), (.long x1)] 7 = mkF m 0 #[.val (.ref x0), .val (.long x1), .second, .unset, .unset, .unset, .unset] [] := by first | (simp [entryFrame, mkF, argsToLocals, Value.category]; done) | rfl
def own_Q_ton (Z : State) (tu : Addr) (sv : Int32) (h0 : Heap) (n0 : Nat) (v : Option Value) (h : Heap) (L : List Loc) : Prop := v = some (.long (sv.toInt64 * (1000000000 : Int64))) ∧ Fr n0 L ∧ h = h0
set_option maxRecDepth 65536 in
set_option maxHeartbeats 40000000 in
theorem own_rm_ton (l : Launch) (Z : State) (a0 : Array Value) (hw : ∀ d ∈ tables_1, d.before a0 Z = true) (ws : List Jvm.Cond) (tu : Addr) (sv : Int32) (h0 : Heap) (n0 : Nat) (Z0 : n0 ≤ h0.size) (E_t : Exa Z h0 tu "java/util/concurrent/TimeUnit") (F_1 : Fld Z h0 tu "java/util/concurrent/TimeUnit" "scale" "J" (.long (1000000000 : Int64))) (F_2 : Fld Z h0 tu "java/util/concurrent/TimeUnit" "maxNanos" "J" (.long (9223372036 : Int64))) :
    MetFree l (⟨"java/util/concurrent/TimeUnit", "toNanos", "(J)J"⟩ : MethodName) (head1 (Jvm.Cond.code (⟨"java/util/concurrent/TimeUnit", "toNanos", "(J)J"⟩ : MethodName) jdk_2799_method_7_code 7 (some .long) :: ws) ({ frames := 0, cells := 0, slots := 0, locals := 0 } : Room)) (fun aa UU => aa = #[(.ref tu), (.long sv.toInt64)] ∧ Z.Warmed39 UU.vm ∧ UU.heap = h0) (fun _ _ _ _ _ => True) (fun _ UU oo UU' => ∃ vv LL, oo = .returned vv ∧ own_Q_ton Z tu sv h0 n0 vv UU'.heap LL ∧ FrameEnd UU oo UU' LL ({ frames := 0, cells := 0, slots := 0, locals := 0 } : Room).cells ({ frames := 0, cells := 0, slots := 0, locals := 0 } : Room).slots) := by
  refine MetFree.of_bodySF (plainFor_of_name own_pn8) hisR ?_
  intro p e s m args below meth c s₁ Bd hml0 hP hK
  obtain ⟨rfl, hZ, hh⟩ := hP
  have hx := Bd.exec
  have hby := Bd.bytes
  have hml : c.maxLocals = 7 := hml0
  have hown : s.vm.findClass "java/util/concurrent/TimeUnit" = some m.cls := findClass_of_methodNamed Bd.named
  have hnm := (name_of_methodNamed Bd.named Bd.method).1
  have X0 : Stand p l e ({ frames := 0, cells := 0, slots := 0, locals := 0 } : Room) s m #[(.ref tu), (.long sv.toInt64)] below meth c s₁ [] 0 0 := Stand.of_body Bd
  have e0 : s₁.heap = h0 := by rw [← hh, Bd.state]; rfl
  have N0 := Fr.nil n0
  show own_Gl p e below (own_Post s (own_Q_ton Z tu sv h0 n0) ({ frames := 0, cells := 0, slots := 0, locals := 0 } : Room).cells ({ frames := 0, cells := 0, slots := 0, locals := 0 } : Room).slots) _
  refine own_st (fun tg_ kg_ => castTop (own_ef_ton m tu sv.toInt64) kg_) ?_
  show own_Gl p e below _ (s₁.setTop (mkF m 0 #[.val (.ref tu), .val (.long sv.toInt64), .second, .unset, .unset, .unset, .unset] []))
  refine own_st (fun tg_ kg_ => XS.aloadN X0.here hx rfl (hb hby own_d_jdk_2799_method_7_code_0) rfl rfl kg_) ?_
  show own_Gl p e below _ (s₁.setTop (mkF m 1 #[.val (.ref tu), .val (.long sv.toInt64), .second, .unset, .unset, .unset, .unset] [(.ref tu)]))
  obtain ⟨T1, X1, e1, st1⟩ := getF X0 hx hZ hown (host := "") (Or.inl (hw _ (List.mem_of_getElem? (i := 27) rfl))) Via.refl e0 F_1 (g := (mkF m 1 #[.val (.ref tu), .val (.long sv.toInt64), .second, .unset, .unset, .unset, .unset] [(.ref tu)])) rfl rfl (hb hby own_d_jdk_2799_method_7_code_1)
  refine own_st st1 ?_
  try clear st1
  show own_Gl p e below _ (T1.setTop (mkF m 4 #[.val (.ref tu), .val (.long sv.toInt64), .second, .unset, .unset, .unset, .unset] [(.long (1000000000 : Int64))]))
  refine own_st (fun tg_ kg_ => XT.dup2L X1.here hx rfl (hb hby own_d_jdk_2799_method_7_code_4) rfl kg_) ?_
  show own_Gl p e below _ (T1.setTop (mkF m 5 #[.val (.ref tu), .val (.long sv.toInt64), .second, .unset, .unset, .unset, .unset] [(.long (1000000000 : Int64)), (.long (1000000000 : Int64))]))
  refine own_st (fun tg_ kg_ => XS.lstoreN X1.here hx rfl (hb hby own_d_jdk_2799_method_7_code_5) rfl (l' := #[.val (.ref tu), .val (.long sv.toInt64), .second, .val (.long (1000000000 : Int64)), .second, .unset, .unset]) rfl kg_) ?_
  show own_Gl p e below _ (T1.setTop (mkF m 6 #[.val (.ref tu), .val (.long sv.toInt64), .second, .val (.long (1000000000 : Int64)), .second, .unset, .unset] [(.long (1000000000 : Int64))]))
  refine own_st (fun tg_ kg_ => XS.lconst X1.here hx rfl (hb hby own_d_jdk_2799_method_7_code_6) kg_) ?_
  show own_Gl p e below _ (T1.setTop (mkF m 7 #[.val (.ref tu), .val (.long sv.toInt64), .second, .val (.long (1000000000 : Int64)), .second, .unset, .unset] [(.long (1 : Int64)), (.long (1000000000 : Int64))]))
  refine own_st (fun tg_ kg_ => XS.lcmp X1.here hx rfl (hb hby own_d_jdk_2799_method_7_code_7) rfl kg_) ?_
  show own_Gl p e below _ (T1.setTop (mkF m 8 #[.val (.ref tu), .val (.long sv.toInt64), .second, .val (.long (1000000000 : Int64)), .second, .unset, .unset] [(.int (lcmpW (1000000000 : Int64) (1 : Int64)))]))
  refine own_st (fun tg_ kg_ => XS.ifYes X1.here hx rfl (pc0 := 8) (pc' := 13) rfl (hb hby own_d_jdk_2799_method_7_code_8) rfl ((if0 _ _).trans (feq (by decide)).2) (by decide) (by decide) kg_) ?_
  show own_Gl p e below _ (T1.setTop (mkF m 13 #[.val (.ref tu), .val (.long sv.toInt64), .second, .val (.long (1000000000 : Int64)), .second, .unset, .unset] []))
  refine own_st (fun tg_ kg_ => XS.lloadN X1.here hx rfl (hb hby own_d_jdk_2799_method_7_code_13) rfl kg_) ?_
  show own_Gl p e below _ (T1.setTop (mkF m 14 #[.val (.ref tu), .val (.long sv.toInt64), .second, .val (.long (1000000000 : Int64)), .second, .unset, .unset] [(.long sv.toInt64)]))
  refine own_st (fun tg_ kg_ => XS.aloadN X1.here hx rfl (hb hby own_d_jdk_2799_method_7_code_14) rfl rfl kg_) ?_
  show own_Gl p e below _ (T1.setTop (mkF m 15 #[.val (.ref tu), .val (.long sv.toInt64), .second, .val (.long (1000000000 : Int64)), .second, .unset, .unset] [(.ref tu), (.long sv.toInt64)]))
  obtain ⟨T2, X2, e2, st2⟩ := getF X1 hx hZ hown (host := "") (Or.inl (hw _ (List.mem_of_getElem? (i := 29) rfl))) Via.refl e1 F_2 (g := (mkF m 15 #[.val (.ref tu), .val (.long sv.toInt64), .second, .val (.long (1000000000 : Int64)), .second, .unset, .unset] [(.ref tu), (.long sv.toInt64)])) rfl rfl (hb hby own_d_jdk_2799_method_7_code_15)
  refine own_st st2 ?_
  try clear st2
  try clear e1
  try clear X1
  try clear T1
  show own_Gl p e below _ (T2.setTop (mkF m 18 #[.val (.ref tu), .val (.long sv.toInt64), .second, .val (.long (1000000000 : Int64)), .second, .unset, .unset] [(.long (9223372036 : Int64)), (.long sv.toInt64)]))
  refine own_st (fun tg_ kg_ => XT.dup2L X2.here hx rfl (hb hby own_d_jdk_2799_method_7_code_18) rfl kg_) ?_
  show own_Gl p e below _ (T2.setTop (mkF m 19 #[.val (.ref tu), .val (.long sv.toInt64), .second, .val (.long (1000000000 : Int64)), .second, .unset, .unset] [(.long (9223372036 : Int64)), (.long (9223372036 : Int64)), (.long sv.toInt64)]))
  refine own_st (fun tg_ kg_ => XS.lstore X2.here hx rfl (hb hby own_d_jdk_2799_method_7_code_19) rfl (l' := #[.val (.ref tu), .val (.long sv.toInt64), .second, .val (.long (1000000000 : Int64)), .second, .val (.long (9223372036 : Int64)), .second]) rfl kg_) ?_
  show own_Gl p e below _ (T2.setTop (mkF m 21 #[.val (.ref tu), .val (.long sv.toInt64), .second, .val (.long (1000000000 : Int64)), .second, .val (.long (9223372036 : Int64)), .second] [(.long (9223372036 : Int64)), (.long sv.toInt64)]))
  refine own_st (fun tg_ kg_ => XS.lcmp X2.here hx rfl (hb hby own_d_jdk_2799_method_7_code_21) rfl kg_) ?_
  show own_Gl p e below _ (T2.setTop (mkF m 22 #[.val (.ref tu), .val (.long sv.toInt64), .second, .val (.long (1000000000 : Int64)), .second, .val (.long (9223372036 : Int64)), .second] [(.int (lcmpW sv.toInt64 (9223372036 : Int64)))]))
  refine own_st (fun tg_ kg_ => XS.ifYes X2.here hx rfl (pc0 := 22) (pc' := 29) rfl (hb hby own_d_jdk_2799_method_7_code_22) rfl ((if0 _ _).trans (flt (own_lc1 sv)).2.2.2) (by decide) (by decide) kg_) ?_
  show own_Gl p e below _ (T2.setTop (mkF m 29 #[.val (.ref tu), .val (.long sv.toInt64), .second, .val (.long (1000000000 : Int64)), .second, .val (.long (9223372036 : Int64)), .second] []))
  refine own_st (fun tg_ kg_ => XS.lloadN X2.here hx rfl (hb hby own_d_jdk_2799_method_7_code_29) rfl kg_) ?_
  show own_Gl p e below _ (T2.setTop (mkF m 30 #[.val (.ref tu), .val (.long sv.toInt64), .second, .val (.long (1000000000 : Int64)), .second, .val (.long (9223372036 : Int64)), .second] [(.long sv.toInt64)]))
  refine own_st (fun tg_ kg_ => XS.lload X2.here hx rfl (hb hby own_d_jdk_2799_method_7_code_30) rfl kg_) ?_
  show own_Gl p e below _ (T2.setTop (mkF m 32 #[.val (.ref tu), .val (.long sv.toInt64), .second, .val (.long (1000000000 : Int64)), .second, .val (.long (9223372036 : Int64)), .second] [(.long (9223372036 : Int64)), (.long sv.toInt64)]))
  refine own_st (fun tg_ kg_ => XS.lneg X2.here hx rfl (hb hby own_d_jdk_2799_method_7_code_32) rfl kg_) ?_
  show own_Gl p e below _ (T2.setTop (mkF m 33 #[.val (.ref tu), .val (.long sv.toInt64), .second, .val (.long (1000000000 : Int64)), .second, .val (.long (9223372036 : Int64)), .second] [(.long (-(9223372036 : Int64))), (.long sv.toInt64)]))
  refine own_st (fun tg_ kg_ => XS.lcmp X2.here hx rfl (hb hby own_d_jdk_2799_method_7_code_33) rfl kg_) ?_
  show own_Gl p e below _ (T2.setTop (mkF m 34 #[.val (.ref tu), .val (.long sv.toInt64), .second, .val (.long (1000000000 : Int64)), .second, .val (.long (9223372036 : Int64)), .second] [(.int (lcmpW sv.toInt64 (-(9223372036 : Int64))))]))
  refine own_st (fun tg_ kg_ => XS.ifYes X2.here hx rfl (pc0 := 34) (pc' := 41) rfl (hb hby own_d_jdk_2799_method_7_code_34) rfl ((if0 _ _).trans (flt (own_lc2 sv)).2.1) (by decide) (by decide) kg_) ?_
  show own_Gl p e below _ (T2.setTop (mkF m 41 #[.val (.ref tu), .val (.long sv.toInt64), .second, .val (.long (1000000000 : Int64)), .second, .val (.long (9223372036 : Int64)), .second] []))
  refine own_st (fun tg_ kg_ => XS.lloadN X2.here hx rfl (hb hby own_d_jdk_2799_method_7_code_41) rfl kg_) ?_
  show own_Gl p e below _ (T2.setTop (mkF m 42 #[.val (.ref tu), .val (.long sv.toInt64), .second, .val (.long (1000000000 : Int64)), .second, .val (.long (9223372036 : Int64)), .second] [(.long sv.toInt64)]))
  refine own_st (fun tg_ kg_ => XS.lloadN X2.here hx rfl (hb hby own_d_jdk_2799_method_7_code_42) rfl kg_) ?_
  show own_Gl p e below _ (T2.setTop (mkF m 43 #[.val (.ref tu), .val (.long sv.toInt64), .second, .val (.long (1000000000 : Int64)), .second, .val (.long (9223372036 : Int64)), .second] [(.long (1000000000 : Int64)), (.long sv.toInt64)]))
  refine own_st (fun tg_ kg_ => XS.lmul X2.here hx rfl (hb hby own_d_jdk_2799_method_7_code_43) rfl kg_) ?_
  show own_Gl p e below _ (T2.setTop (mkF m 44 #[.val (.ref tu), .val (.long sv.toInt64), .second, .val (.long (1000000000 : Int64)), .second, .val (.long (9223372036 : Int64)), .second] [(.long (sv.toInt64 * (1000000000 : Int64)))]))
  exact own_retL X2 hx Bd.notSynchronized Bd.returns (hb hby own_d_jdk_2799_method_7_code_44) (by decide) (by decide) e2 (⟨rfl, N0, rfl⟩)
theorem own_pd23 : parseMethodDescriptor "(J)J" = some ⟨[.long], some .long⟩ := by decide +kernel
theorem own_d_prog_15_method_5_code_0 : decode prog_15_method_5_code 0 = .ok (.getstatic 53, 3) := by decide +kernel
theorem own_d_prog_15_method_5_code_3 : decode prog_15_method_5_code 3 = .ok (.aload_n 0, 1) := by decide +kernel
theorem own_d_prog_15_method_5_code_4 : decode prog_15_method_5_code 4 = .ok (.getfield 7, 3) := by decide +kernel
theorem own_d_prog_15_method_5_code_7 : decode prog_15_method_5_code 7 = .ok (.i2l, 1) := by decide +kernel
theorem own_d_prog_15_method_5_code_8 : decode prog_15_method_5_code 8 = .ok (.invokevirtual 59, 3) := by decide +kernel
theorem own_d_prog_15_method_5_code_11 : decode prog_15_method_5_code 11 = .ok (.lreturn, 1) := by decide +kernel
theorem own_ef_nan (m : MethodId) (x0 : Addr) : entryFrame m #[(.ref x0)] 1 = mkF m 0 #[.val (.ref x0)] [] := by first | (simp [entryFrame, mkF, argsToLocals, Value.category]; done) | rfl
def own_Q_nan (Z : State) (a tu : Addr) (sv : Int32) (h0 : Heap) (n0 : Nat) (v : Option Value) (h : Heap) (L : List Loc) : Prop := v = some (.long (sv.toInt64 * (1000000000 : Int64))) ∧ Fr n0 L ∧ h = h0
set_option maxRecDepth 65536 in
set_option maxHeartbeats 40000000 in
theorem own_rm_nan (l : Launch) (Z : State) (a0 : Array Value) (hw : ∀ d ∈ tables_1, d.before a0 Z = true) (ws : List Jvm.Cond) (a tu : Addr) (sv : Int32) (h0 : Heap) (n0 : Nat) (Z0 : n0 ≤ h0.size) (S_T : Sta Z h0 "java/util/concurrent/TimeUnit" "SECONDS" "Ljava/util/concurrent/TimeUnit;" (.ref tu))(E_t : Exa Z h0 tu "java/util/concurrent/TimeUnit") (F_1 : Fld Z h0 tu "java/util/concurrent/TimeUnit" "scale" "J" (.long (1000000000 : Int64))) (F_2 : Fld Z h0 tu "java/util/concurrent/TimeUnit" "maxNanos" "J" (.long (9223372036 : Int64)))(F_s : Fld Z h0 a "org/samehood/calls/CallLimit" "seconds" "I" (.int sv)) :
    MetFree l (⟨"org/samehood/calls/CallLimit", "nanos", "()J"⟩ : MethodName) (head1 (Jvm.Cond.code (⟨"org/samehood/calls/CallLimit", "nanos", "()J"⟩ : MethodName) prog_15_method_5_code 1 (some .long) :: ws) ({ frames := 1, cells := 0, slots := 0, locals := 18 } : Room)) (fun aa UU => aa = #[(.ref a)] ∧ Z.Warmed39 UU.vm ∧ UU.heap = h0) (fun _ _ _ _ _ => True) (fun _ UU oo UU' => ∃ vv LL, oo = .returned vv ∧ own_Q_nan Z a tu sv h0 n0 vv UU'.heap LL ∧ FrameEnd UU oo UU' LL ({ frames := 1, cells := 0, slots := 0, locals := 18 } : Room).cells ({ frames := 1, cells := 0, slots := 0, locals := 18 } : Room).slots) := by
  refine MetFree.of_bodySF (plainFor_of_name own_pn7) hisR ?_
  intro p e s m args below meth c s₁ Bd hml0 hP hK
  obtain ⟨rfl, hZ, hh⟩ := hP
  have hx := Bd.exec
  have hby := Bd.bytes
  have hml : c.maxLocals = 1 := hml0
  have hown : s.vm.findClass "org/samehood/calls/CallLimit" = some m.cls := findClass_of_methodNamed Bd.named
  have hnm := (name_of_methodNamed Bd.named Bd.method).1
  have X0 : Stand p l e ({ frames := 1, cells := 0, slots := 0, locals := 18 } : Room) s m #[(.ref a)] below meth c s₁ [] 0 0 := Stand.of_body Bd
  have e0 : s₁.heap = h0 := by rw [← hh, Bd.state]; rfl
  have N0 := Fr.nil n0
  show own_Gl p e below (own_Post s (own_Q_nan Z a tu sv h0 n0) ({ frames := 1, cells := 0, slots := 0, locals := 18 } : Room).cells ({ frames := 1, cells := 0, slots := 0, locals := 18 } : Room).slots) _
  refine own_st (fun tg_ kg_ => castTop (own_ef_nan m a) kg_) ?_
  show own_Gl p e below _ (s₁.setTop (mkF m 0 #[.val (.ref a)] []))
  obtain ⟨T1, X1, e1, st1⟩ := getS2 X0 hx hZ hown (host := "") (Or.inl (hw _ (List.mem_of_getElem? (i := 20) rfl))) Via.refl e0 S_T (g := (mkF m 0 #[.val (.ref a)] [])) rfl (hb hby own_d_prog_15_method_5_code_0)
  refine own_st st1 ?_
  try clear st1
  show own_Gl p e below _ (T1.setTop (mkF m 3 #[.val (.ref a)] [(.ref tu)]))
  refine own_st (fun tg_ kg_ => XS.aloadN X1.here hx rfl (hb hby own_d_prog_15_method_5_code_3) rfl rfl kg_) ?_
  show own_Gl p e below _ (T1.setTop (mkF m 4 #[.val (.ref a)] [(.ref a), (.ref tu)]))
  obtain ⟨T2, X2, e2, st2⟩ := getF X1 hx hZ hown (host := "") (Or.inl (hw _ (List.mem_of_getElem? (i := 13) rfl))) Via.refl e1 F_s (g := (mkF m 4 #[.val (.ref a)] [(.ref a), (.ref tu)])) rfl rfl (hb hby own_d_prog_15_method_5_code_4)
  refine own_st st2 ?_
  try clear st2
  try clear e1
  try clear X1
  try clear T1
  show own_Gl p e below _ (T2.setTop (mkF m 7 #[.val (.ref a)] [(.int sv), (.ref tu)]))
  refine own_st (fun tg_ kg_ => XS.i2l X2.here hx rfl (hb hby own_d_prog_15_method_5_code_7) rfl kg_) ?_
  show own_Gl p e below _ (T2.setTop (mkF m 8 #[.val (.ref a)] [(.long (sv.toInt64)), (.ref tu)]))
  obtain ⟨cq3, kq3, q3a, q3b, q3c⟩ := isOf hZ e2 E_t
  obtain ⟨_, _, ⟨T3, L3, k3, n3⟩, -, X3, ⟨Lc3, hQ3, l3, y3, z3⟩, st3⟩ := X2.virtualBack hx (y := (⟨"java/util/concurrent/TimeUnit", "toNanos", "(J)J"⟩ : MethodName)) (z := (⟨"java/util/concurrent/TimeUnit", "toNanos", "(J)J"⟩ : MethodName)) hown (mvT hZ (hw _ (List.mem_of_getElem? (i := 22) rfl))) (mvT hZ (hw _ (List.mem_of_getElem? (i := 23) rfl))) (notFace_of_selects (args := #[]) (mvT hZ (hw _ (List.mem_of_getElem? (i := 25) rfl)))) (mvT hZ (hw _ (List.mem_of_getElem? (i := 25) rfl))) (mvT hZ (hw _ (List.mem_of_getElem? (i := 24) rfl))) (by decide) (backOf (W := 0) (own_rm_ton l Z a0 hw [] tu sv h0 n0 Z0 E_t F_1 F_2) hZ (hw _ (List.mem_of_getElem? (i := 26) rfl)) (hw _ (List.mem_of_getElem? (i := 21) rfl)) (by decide) (by decide)) q3a q3c (g := (mkF m 8 #[.val (.ref a)] [(.long (sv.toInt64)), (.ref tu)])) rfl (by rw [hml]; rfl) (Steps.refl _) (argsL := [(.long (sv.toInt64))]) (rest := []) (lenOf own_pd23 rfl) rfl (by show 2 * 0 + _ ≤ _; exact Nat.le_of_eq rfl) (hb hby own_d_prog_15_method_5_code_8) (fun _ _ => ⟨rfl, e2, (by decide : 0 + 0 ≤ _), (by decide : 0 + 0 ≤ _)⟩)
  dsimp only [Pt.U, Pt.locs, Pt.cells, Pt.slots] at X3 l3 y3 z3 st3 hQ3
  obtain rfl : k3 = 0 := y3
  obtain rfl : n3 = 0 := z3
  obtain ⟨rfl, N3q, e3⟩ := hQ3
  have N3 : Fr n0 L3 := by rw [l3]; exact Fr.app N0 N3q
  try clear l3
  refine own_tr st3 ?_
  show own_Gl p e below _ (T3.setTop (mkF m 11 #[.val (.ref a)] [(.long (sv.toInt64 * (1000000000 : Int64)))]))
  try clear st3
  try clear N3q
  try clear e2
  try clear X2
  try clear T2
  exact own_retL X3 hx Bd.notSynchronized Bd.returns (hb hby own_d_prog_15_method_5_code_11) (by decide) (by decide) e3 (⟨rfl, N3, rfl⟩)
theorem own_pn9 : plainName "java/lang/StringLatin1" = true := by first | (simp [plainName, overriddenIn]; done) | decide +kernel
theorem own_d_jdk_43_method_13_code_0 : decode jdk_43_method_13_code 0 = .ok (.aload_n 0, 1) := by decide +kernel
theorem own_d_jdk_43_method_13_code_1 : decode jdk_43_method_13_code 1 = .ok (.arraylength, 1) := by decide +kernel
theorem own_d_jdk_43_method_13_code_2 : decode jdk_43_method_13_code 2 = .ok (.aload_n 1, 1) := by decide +kernel
theorem own_d_jdk_43_method_13_code_3 : decode jdk_43_method_13_code 3 = .ok (.arraylength, 1) := by decide +kernel
theorem own_d_jdk_43_method_13_code_4 : decode jdk_43_method_13_code 4 = .ok (.if_icmp .ne 30, 3) := by decide +kernel
theorem own_d_jdk_43_method_13_code_7 : decode jdk_43_method_13_code 7 = .ok (.iconst 0, 1) := by decide +kernel
theorem own_d_jdk_43_method_13_code_8 : decode jdk_43_method_13_code 8 = .ok (.istore_n 2, 1) := by decide +kernel
theorem own_d_jdk_43_method_13_code_9 : decode jdk_43_method_13_code 9 = .ok (.iload_n 2, 1) := by decide +kernel
theorem own_d_jdk_43_method_13_code_10 : decode jdk_43_method_13_code 10 = .ok (.aload_n 0, 1) := by decide +kernel
theorem own_d_jdk_43_method_13_code_11 : decode jdk_43_method_13_code 11 = .ok (.arraylength, 1) := by decide +kernel
theorem own_d_jdk_43_method_13_code_12 : decode jdk_43_method_13_code 12 = .ok (.if_icmp .ge 20, 3) := by decide +kernel
theorem own_d_jdk_43_method_13_code_15 : decode jdk_43_method_13_code 15 = .ok (.aload_n 0, 1) := by decide +kernel
theorem own_d_jdk_43_method_13_code_16 : decode jdk_43_method_13_code 16 = .ok (.iload_n 2, 1) := by decide +kernel
theorem own_d_jdk_43_method_13_code_17 : decode jdk_43_method_13_code 17 = .ok (.baload, 1) := by decide +kernel
theorem own_d_jdk_43_method_13_code_18 : decode jdk_43_method_13_code 18 = .ok (.aload_n 1, 1) := by decide +kernel
theorem own_d_jdk_43_method_13_code_19 : decode jdk_43_method_13_code 19 = .ok (.iload_n 2, 1) := by decide +kernel
theorem own_d_jdk_43_method_13_code_20 : decode jdk_43_method_13_code 20 = .ok (.baload, 1) := by decide +kernel
theorem own_d_jdk_43_method_13_code_21 : decode jdk_43_method_13_code 21 = .ok (.if_icmp .eq 5, 3) := by decide +kernel
theorem own_d_jdk_43_method_13_code_26 : decode jdk_43_method_13_code 26 = .ok (.iinc 2 1, 3) := by decide +kernel
theorem own_d_jdk_43_method_13_code_29 : decode jdk_43_method_13_code 29 = .ok (.goto (-20), 3) := by decide +kernel
theorem own_d_jdk_43_method_13_code_32 : decode jdk_43_method_13_code 32 = .ok (.iconst 1, 1) := by decide +kernel
theorem own_d_jdk_43_method_13_code_33 : decode jdk_43_method_13_code 33 = .ok (.ireturn, 1) := by decide +kernel
theorem own_ef_leq (m : MethodId) (x0 : Addr) (x1 : Addr) : entryFrame m #[(.ref x0), (.ref x1)] 3 = mkF m 0 #[.val (.ref x0), .val (.ref x1), .unset] [] := by first | (simp [entryFrame, mkF, argsToLocals, Value.category]; done) | rfl
def own_Q_leq (Z : State) (u w : Addr) (ku kw : ClassId) (R : List Value) (h0 : Heap) (n0 : Nat) (v : Option Value) (h : Heap) (L : List Loc) : Prop := v = some (.int 1) ∧ Fr n0 L ∧ h = h0
set_option maxRecDepth 65536 in
set_option maxHeartbeats 40000000 in
theorem own_rm_leq (l : Launch) (Z : State) (a0 : Array Value) (hw : ∀ d ∈ tables_1, d.before a0 Z = true) (ws : List Jvm.Cond) (u w : Addr) (ku kw : ClassId) (R : List Value) (h0 : Heap) (n0 : Nat) (Z0 : n0 ≤ h0.size) (V_u : Arv Z h0 u ku .byte (8 : Int32) R (.int 0)) (V_w : Arv Z h0 w kw .byte (8 : Int32) own_C (.int 0)) (hR : ∀ i, i < 8 → R.getD i (.int 0) = own_C.getD i (.int 0)) :
    MetFree l (⟨"java/lang/StringLatin1", "equals", "([B[B)Z"⟩ : MethodName) (head1 (Jvm.Cond.code (⟨"java/lang/StringLatin1", "equals", "([B[B)Z"⟩ : MethodName) jdk_43_method_13_code 3 (some .boolean) :: ws) ({ frames := 0, cells := 0, slots := 0, locals := 0 } : Room)) (fun aa UU => aa = #[(.ref u), (.ref w)] ∧ Z.Warmed39 UU.vm ∧ UU.heap = h0) (fun _ _ _ _ _ => True) (fun _ UU oo UU' => ∃ vv LL, oo = .returned vv ∧ own_Q_leq Z u w ku kw R h0 n0 vv UU'.heap LL ∧ FrameEnd UU oo UU' LL ({ frames := 0, cells := 0, slots := 0, locals := 0 } : Room).cells ({ frames := 0, cells := 0, slots := 0, locals := 0 } : Room).slots) := by
  refine MetFree.of_bodySF (plainFor_of_name own_pn9) hisR ?_
  intro p e s m args below meth c s₁ Bd hml0 hP hK
  obtain ⟨rfl, hZ, hh⟩ := hP
  have hx := Bd.exec
  have hby := Bd.bytes
  have hml : c.maxLocals = 3 := hml0
  have hown : s.vm.findClass "java/lang/StringLatin1" = some m.cls := findClass_of_methodNamed Bd.named
  have hnm := (name_of_methodNamed Bd.named Bd.method).1
  have X0 : Stand p l e ({ frames := 0, cells := 0, slots := 0, locals := 0 } : Room) s m #[(.ref u), (.ref w)] below meth c s₁ [] 0 0 := Stand.of_body Bd
  have e0 : s₁.heap = h0 := by rw [← hh, Bd.state]; rfl
  have N0 := Fr.nil n0
  show own_Gl p e below (own_Post s (own_Q_leq Z u w ku kw R h0 n0) ({ frames := 0, cells := 0, slots := 0, locals := 0 } : Room).cells ({ frames := 0, cells := 0, slots := 0, locals := 0 } : Room).slots) _
  refine own_st (fun tg_ kg_ => castTop (own_ef_leq m u w) kg_) ?_
  show own_Gl p e below _ (s₁.setTop (mkF m 0 #[.val (.ref u), .val (.ref w), .unset] []))
  refine own_st (fun tg_ kg_ => XS.aloadN X0.here hx rfl (hb hby own_d_jdk_43_method_13_code_0) rfl rfl kg_) ?_
  show own_Gl p e below _ (s₁.setTop (mkF m 1 #[.val (.ref u), .val (.ref w), .unset] [(.ref u)]))
  obtain ⟨cl1, Ar1, qa1, Sa1, Na1, Ha1, Ga1⟩ := id V_u
  refine own_st (fun tg_ kg_ => X0.arraylength hx (by rw [e0]; exact Ar1.1) (State.isArrayOf_alike hZ.alike Ar1.2.1) (g := (mkF m 1 #[.val (.ref u), .val (.ref w), .unset] [(.ref u)])) rfl rfl (hb hby own_d_jdk_43_method_13_code_1) _ kg_) ?_
  rw [len_of Sa1 Na1]
  show own_Gl p e below _ (s₁.setTop (mkF m 2 #[.val (.ref u), .val (.ref w), .unset] [(.int (8 : Int32))]))
  refine own_st (fun tg_ kg_ => XS.aloadN X0.here hx rfl (hb hby own_d_jdk_43_method_13_code_2) rfl rfl kg_) ?_
  show own_Gl p e below _ (s₁.setTop (mkF m 3 #[.val (.ref u), .val (.ref w), .unset] [(.ref w), (.int (8 : Int32))]))
  obtain ⟨cl2, Ar2, qa2, Sa2, Na2, Ha2, Ga2⟩ := id V_w
  refine own_st (fun tg_ kg_ => X0.arraylength hx (by rw [e0]; exact Ar2.1) (State.isArrayOf_alike hZ.alike Ar2.2.1) (g := (mkF m 3 #[.val (.ref u), .val (.ref w), .unset] [(.ref w), (.int (8 : Int32))])) rfl rfl (hb hby own_d_jdk_43_method_13_code_3) _ kg_) ?_
  rw [len_of Sa2 Na2]
  show own_Gl p e below _ (s₁.setTop (mkF m 4 #[.val (.ref u), .val (.ref w), .unset] [(.int (8 : Int32)), (.int (8 : Int32))]))
  refine own_st (fun tg_ kg_ => XS.icmpNo X0.here hx rfl (hb hby own_d_jdk_43_method_13_code_4) rfl (teq ((rfl : (8 : Int32) = (8 : Int32)))).2 kg_) ?_
  show own_Gl p e below _ (s₁.setTop (mkF m 7 #[.val (.ref u), .val (.ref w), .unset] []))
  refine own_st (fun tg_ kg_ => XS.iconst X0.here hx rfl (hb hby own_d_jdk_43_method_13_code_7) kg_) ?_
  show own_Gl p e below _ (s₁.setTop (mkF m 8 #[.val (.ref u), .val (.ref w), .unset] [(.int (0 : Int32))]))
  refine own_st (fun tg_ kg_ => XS.istoreN X0.here hx rfl (hb hby own_d_jdk_43_method_13_code_8) rfl (l' := #[.val (.ref u), .val (.ref w), .val (.int (0 : Int32))]) rfl kg_) ?_
  show own_Gl p e below _ (s₁.setTop (mkF m 9 #[.val (.ref u), .val (.ref w), .val (.int (0 : Int32))] []))
  refine own_st (fun tg_ kg_ => XS.iloadN X0.here hx rfl (hb hby own_d_jdk_43_method_13_code_9) rfl kg_) ?_
  show own_Gl p e below _ (s₁.setTop (mkF m 10 #[.val (.ref u), .val (.ref w), .val (.int (0 : Int32))] [(.int (0 : Int32))]))
  refine own_st (fun tg_ kg_ => XS.aloadN X0.here hx rfl (hb hby own_d_jdk_43_method_13_code_10) rfl rfl kg_) ?_
  show own_Gl p e below _ (s₁.setTop (mkF m 11 #[.val (.ref u), .val (.ref w), .val (.int (0 : Int32))] [(.ref u), (.int (0 : Int32))]))
  obtain ⟨cl3, Ar3, qa3, Sa3, Na3, Ha3, Ga3⟩ := id V_u
  refine own_st (fun tg_ kg_ => X0.arraylength hx (by rw [e0]; exact Ar3.1) (State.isArrayOf_alike hZ.alike Ar3.2.1) (g := (mkF m 11 #[.val (.ref u), .val (.ref w), .val (.int (0 : Int32))] [(.ref u), (.int (0 : Int32))])) rfl rfl (hb hby own_d_jdk_43_method_13_code_11) _ kg_) ?_
  rw [len_of Sa3 Na3]
  show own_Gl p e below _ (s₁.setTop (mkF m 12 #[.val (.ref u), .val (.ref w), .val (.int (0 : Int32))] [(.int (8 : Int32)), (.int (0 : Int32))]))
  refine own_st (fun tg_ kg_ => XS.icmpNo X0.here hx rfl (hb hby own_d_jdk_43_method_13_code_12) rfl (tlt ((by decide : (0 : Int32) < (8 : Int32)))).2.1 kg_) ?_
  show own_Gl p e below _ (s₁.setTop (mkF m 15 #[.val (.ref u), .val (.ref w), .val (.int (0 : Int32))] []))
  refine own_st (fun tg_ kg_ => XS.aloadN X0.here hx rfl (hb hby own_d_jdk_43_method_13_code_15) rfl rfl kg_) ?_
  show own_Gl p e below _ (s₁.setTop (mkF m 16 #[.val (.ref u), .val (.ref w), .val (.int (0 : Int32))] [(.ref u)]))
  refine own_st (fun tg_ kg_ => XS.iloadN X0.here hx rfl (hb hby own_d_jdk_43_method_13_code_16) rfl kg_) ?_
  show own_Gl p e below _ (s₁.setTop (mkF m 17 #[.val (.ref u), .val (.ref w), .val (.int (0 : Int32))] [(.int (0 : Int32)), (.ref u)]))
  obtain ⟨cl4, Ar4, qa4, Sa4, Na4, Ha4, Ga4⟩ := id V_u
  have hin5 : ¬ ((0 : Int32) < 0 ∨ cl4.slots.size ≤ ((0 : Int32)).toNatClampNeg) := inb_of Sa4 ⟨by decide, by decide⟩
  have hat5 : cl4.slots[((0 : Int32)).toNatClampNeg]? = some (.int (49 : Int32)) := Has.at Ha4 hin5 (hR 0 (by decide))
  refine own_st (fun tg_ kg_ => X0.baloadBytes hx (j := (0 : Int32)) (v := (.int (49 : Int32))) (by rw [e0]; exact Ar4.1) (State.isArrayOf_alike hZ.alike Ar4.2.1) Ar4.2.2 hin5 hat5 (g := (mkF m 17 #[.val (.ref u), .val (.ref w), .val (.int (0 : Int32))] [(.int (0 : Int32)), (.ref u)])) rfl rfl (hb hby own_d_jdk_43_method_13_code_17) _ kg_) ?_
  show own_Gl p e below _ (s₁.setTop (mkF m 18 #[.val (.ref u), .val (.ref w), .val (.int (0 : Int32))] [(.int (49 : Int32))]))
  refine own_st (fun tg_ kg_ => XS.aloadN X0.here hx rfl (hb hby own_d_jdk_43_method_13_code_18) rfl rfl kg_) ?_
  show own_Gl p e below _ (s₁.setTop (mkF m 19 #[.val (.ref u), .val (.ref w), .val (.int (0 : Int32))] [(.ref w), (.int (49 : Int32))]))
  refine own_st (fun tg_ kg_ => XS.iloadN X0.here hx rfl (hb hby own_d_jdk_43_method_13_code_19) rfl kg_) ?_
  show own_Gl p e below _ (s₁.setTop (mkF m 20 #[.val (.ref u), .val (.ref w), .val (.int (0 : Int32))] [(.int (0 : Int32)), (.ref w), (.int (49 : Int32))]))
  obtain ⟨cl6, Ar6, qa6, Sa6, Na6, Ha6, Ga6⟩ := id V_w
  have hin7 : ¬ ((0 : Int32) < 0 ∨ cl6.slots.size ≤ ((0 : Int32)).toNatClampNeg) := inb_of Sa6 ⟨by decide, by decide⟩
  have hat7 : cl6.slots[((0 : Int32)).toNatClampNeg]? = some (.int (49 : Int32)) := Has.at Ha6 hin7 rfl
  refine own_st (fun tg_ kg_ => X0.baloadBytes hx (j := (0 : Int32)) (v := (.int (49 : Int32))) (by rw [e0]; exact Ar6.1) (State.isArrayOf_alike hZ.alike Ar6.2.1) Ar6.2.2 hin7 hat7 (g := (mkF m 20 #[.val (.ref u), .val (.ref w), .val (.int (0 : Int32))] [(.int (0 : Int32)), (.ref w), (.int (49 : Int32))])) rfl rfl (hb hby own_d_jdk_43_method_13_code_20) _ kg_) ?_
  show own_Gl p e below _ (s₁.setTop (mkF m 21 #[.val (.ref u), .val (.ref w), .val (.int (0 : Int32))] [(.int (49 : Int32)), (.int (49 : Int32))]))
  refine own_st (fun tg_ kg_ => XS.icmpYes X0.here hx rfl (pc0 := 21) (pc' := 26) rfl (hb hby own_d_jdk_43_method_13_code_21) rfl (teq ((rfl : (49 : Int32) = (49 : Int32)))).1 (by decide) (by decide) kg_) ?_
  show own_Gl p e below _ (s₁.setTop (mkF m 26 #[.val (.ref u), .val (.ref w), .val (.int (0 : Int32))] []))
  refine own_st (fun tg_ kg_ => XS.iinc X0.here hx rfl (hb hby own_d_jdk_43_method_13_code_26) rfl (l' := #[.val (.ref u), .val (.ref w), .val (.int (1 : Int32))]) rfl kg_) ?_
  show own_Gl p e below _ (s₁.setTop (mkF m 29 #[.val (.ref u), .val (.ref w), .val (.int (1 : Int32))] []))
  refine own_st (fun tg_ kg_ => XS.goto X0.here hx rfl (pc0 := 29) (pc' := 9) rfl (hb hby own_d_jdk_43_method_13_code_29) (by decide) (by decide) kg_) ?_
  show own_Gl p e below _ (s₁.setTop (mkF m 9 #[.val (.ref u), .val (.ref w), .val (.int (1 : Int32))] []))
  refine own_st (fun tg_ kg_ => XS.iloadN X0.here hx rfl (hb hby own_d_jdk_43_method_13_code_9) rfl kg_) ?_
  show own_Gl p e below _ (s₁.setTop (mkF m 10 #[.val (.ref u), .val (.ref w), .val (.int (1 : Int32))] [(.int (1 : Int32))]))
  refine own_st (fun tg_ kg_ => XS.aloadN X0.here hx rfl (hb hby own_d_jdk_43_method_13_code_10) rfl rfl kg_) ?_
  show own_Gl p e below _ (s₁.setTop (mkF m 11 #[.val (.ref u), .val (.ref w), .val (.int (1 : Int32))] [(.ref u), (.int (1 : Int32))]))
  obtain ⟨cl8, Ar8, qa8, Sa8, Na8, Ha8, Ga8⟩ := id V_u
  refine own_st (fun tg_ kg_ => X0.arraylength hx (by rw [e0]; exact Ar8.1) (State.isArrayOf_alike hZ.alike Ar8.2.1) (g := (mkF m 11 #[.val (.ref u), .val (.ref w), .val (.int (1 : Int32))] [(.ref u), (.int (1 : Int32))])) rfl rfl (hb hby own_d_jdk_43_method_13_code_11) _ kg_) ?_
  rw [len_of Sa8 Na8]
  show own_Gl p e below _ (s₁.setTop (mkF m 12 #[.val (.ref u), .val (.ref w), .val (.int (1 : Int32))] [(.int (8 : Int32)), (.int (1 : Int32))]))
  refine own_st (fun tg_ kg_ => XS.icmpNo X0.here hx rfl (hb hby own_d_jdk_43_method_13_code_12) rfl (tlt ((by decide : (1 : Int32) < (8 : Int32)))).2.1 kg_) ?_
  show own_Gl p e below _ (s₁.setTop (mkF m 15 #[.val (.ref u), .val (.ref w), .val (.int (1 : Int32))] []))
  refine own_st (fun tg_ kg_ => XS.aloadN X0.here hx rfl (hb hby own_d_jdk_43_method_13_code_15) rfl rfl kg_) ?_
  show own_Gl p e below _ (s₁.setTop (mkF m 16 #[.val (.ref u), .val (.ref w), .val (.int (1 : Int32))] [(.ref u)]))
  refine own_st (fun tg_ kg_ => XS.iloadN X0.here hx rfl (hb hby own_d_jdk_43_method_13_code_16) rfl kg_) ?_
  show own_Gl p e below _ (s₁.setTop (mkF m 17 #[.val (.ref u), .val (.ref w), .val (.int (1 : Int32))] [(.int (1 : Int32)), (.ref u)]))
  obtain ⟨cl9, Ar9, qa9, Sa9, Na9, Ha9, Ga9⟩ := id V_u
  have hin10 : ¬ ((1 : Int32) < 0 ∨ cl9.slots.size ≤ ((1 : Int32)).toNatClampNeg) := inb_of Sa9 ⟨by decide, by decide⟩
  have hat10 : cl9.slots[((1 : Int32)).toNatClampNeg]? = some (.int (32 : Int32)) := Has.at Ha9 hin10 (hR 1 (by decide))
  refine own_st (fun tg_ kg_ => X0.baloadBytes hx (j := (1 : Int32)) (v := (.int (32 : Int32))) (by rw [e0]; exact Ar9.1) (State.isArrayOf_alike hZ.alike Ar9.2.1) Ar9.2.2 hin10 hat10 (g := (mkF m 17 #[.val (.ref u), .val (.ref w), .val (.int (1 : Int32))] [(.int (1 : Int32)), (.ref u)])) rfl rfl (hb hby own_d_jdk_43_method_13_code_17) _ kg_) ?_
  show own_Gl p e below _ (s₁.setTop (mkF m 18 #[.val (.ref u), .val (.ref w), .val (.int (1 : Int32))] [(.int (32 : Int32))]))
  refine own_st (fun tg_ kg_ => XS.aloadN X0.here hx rfl (hb hby own_d_jdk_43_method_13_code_18) rfl rfl kg_) ?_
  show own_Gl p e below _ (s₁.setTop (mkF m 19 #[.val (.ref u), .val (.ref w), .val (.int (1 : Int32))] [(.ref w), (.int (32 : Int32))]))
  refine own_st (fun tg_ kg_ => XS.iloadN X0.here hx rfl (hb hby own_d_jdk_43_method_13_code_19) rfl kg_) ?_
  show own_Gl p e below _ (s₁.setTop (mkF m 20 #[.val (.ref u), .val (.ref w), .val (.int (1 : Int32))] [(.int (1 : Int32)), (.ref w), (.int (32 : Int32))]))
  obtain ⟨cl11, Ar11, qa11, Sa11, Na11, Ha11, Ga11⟩ := id V_w
  have hin12 : ¬ ((1 : Int32) < 0 ∨ cl11.slots.size ≤ ((1 : Int32)).toNatClampNeg) := inb_of Sa11 ⟨by decide, by decide⟩
  have hat12 : cl11.slots[((1 : Int32)).toNatClampNeg]? = some (.int (32 : Int32)) := Has.at Ha11 hin12 rfl
  refine own_st (fun tg_ kg_ => X0.baloadBytes hx (j := (1 : Int32)) (v := (.int (32 : Int32))) (by rw [e0]; exact Ar11.1) (State.isArrayOf_alike hZ.alike Ar11.2.1) Ar11.2.2 hin12 hat12 (g := (mkF m 20 #[.val (.ref u), .val (.ref w), .val (.int (1 : Int32))] [(.int (1 : Int32)), (.ref w), (.int (32 : Int32))])) rfl rfl (hb hby own_d_jdk_43_method_13_code_20) _ kg_) ?_
  show own_Gl p e below _ (s₁.setTop (mkF m 21 #[.val (.ref u), .val (.ref w), .val (.int (1 : Int32))] [(.int (32 : Int32)), (.int (32 : Int32))]))
  refine own_st (fun tg_ kg_ => XS.icmpYes X0.here hx rfl (pc0 := 21) (pc' := 26) rfl (hb hby own_d_jdk_43_method_13_code_21) rfl (teq ((rfl : (32 : Int32) = (32 : Int32)))).1 (by decide) (by decide) kg_) ?_
  show own_Gl p e below _ (s₁.setTop (mkF m 26 #[.val (.ref u), .val (.ref w), .val (.int (1 : Int32))] []))
  refine own_st (fun tg_ kg_ => XS.iinc X0.here hx rfl (hb hby own_d_jdk_43_method_13_code_26) rfl (l' := #[.val (.ref u), .val (.ref w), .val (.int (2 : Int32))]) rfl kg_) ?_
  show own_Gl p e below _ (s₁.setTop (mkF m 29 #[.val (.ref u), .val (.ref w), .val (.int (2 : Int32))] []))
  refine own_st (fun tg_ kg_ => XS.goto X0.here hx rfl (pc0 := 29) (pc' := 9) rfl (hb hby own_d_jdk_43_method_13_code_29) (by decide) (by decide) kg_) ?_
  show own_Gl p e below _ (s₁.setTop (mkF m 9 #[.val (.ref u), .val (.ref w), .val (.int (2 : Int32))] []))
  refine own_st (fun tg_ kg_ => XS.iloadN X0.here hx rfl (hb hby own_d_jdk_43_method_13_code_9) rfl kg_) ?_
  show own_Gl p e below _ (s₁.setTop (mkF m 10 #[.val (.ref u), .val (.ref w), .val (.int (2 : Int32))] [(.int (2 : Int32))]))
  refine own_st (fun tg_ kg_ => XS.aloadN X0.here hx rfl (hb hby own_d_jdk_43_method_13_code_10) rfl rfl kg_) ?_
  show own_Gl p e below _ (s₁.setTop (mkF m 11 #[.val (.ref u), .val (.ref w), .val (.int (2 : Int32))] [(.ref u), (.int (2 : Int32))]))
  obtain ⟨cl13, Ar13, qa13, Sa13, Na13, Ha13, Ga13⟩ := id V_u
  refine own_st (fun tg_ kg_ => X0.arraylength hx (by rw [e0]; exact Ar13.1) (State.isArrayOf_alike hZ.alike Ar13.2.1) (g := (mkF m 11 #[.val (.ref u), .val (.ref w), .val (.int (2 : Int32))] [(.ref u), (.int (2 : Int32))])) rfl rfl (hb hby own_d_jdk_43_method_13_code_11) _ kg_) ?_
  rw [len_of Sa13 Na13]
  show own_Gl p e below _ (s₁.setTop (mkF m 12 #[.val (.ref u), .val (.ref w), .val (.int (2 : Int32))] [(.int (8 : Int32)), (.int (2 : Int32))]))
  refine own_st (fun tg_ kg_ => XS.icmpNo X0.here hx rfl (hb hby own_d_jdk_43_method_13_code_12) rfl (tlt ((by decide : (2 : Int32) < (8 : Int32)))).2.1 kg_) ?_
  show own_Gl p e below _ (s₁.setTop (mkF m 15 #[.val (.ref u), .val (.ref w), .val (.int (2 : Int32))] []))
  refine own_st (fun tg_ kg_ => XS.aloadN X0.here hx rfl (hb hby own_d_jdk_43_method_13_code_15) rfl rfl kg_) ?_
  show own_Gl p e below _ (s₁.setTop (mkF m 16 #[.val (.ref u), .val (.ref w), .val (.int (2 : Int32))] [(.ref u)]))
  refine own_st (fun tg_ kg_ => XS.iloadN X0.here hx rfl (hb hby own_d_jdk_43_method_13_code_16) rfl kg_) ?_
  show own_Gl p e below _ (s₁.setTop (mkF m 17 #[.val (.ref u), .val (.ref w), .val (.int (2 : Int32))] [(.int (2 : Int32)), (.ref u)]))
  obtain ⟨cl14, Ar14, qa14, Sa14, Na14, Ha14, Ga14⟩ := id V_u
  have hin15 : ¬ ((2 : Int32) < 0 ∨ cl14.slots.size ≤ ((2 : Int32)).toNatClampNeg) := inb_of Sa14 ⟨by decide, by decide⟩
  have hat15 : cl14.slots[((2 : Int32)).toNatClampNeg]? = some (.int (115 : Int32)) := Has.at Ha14 hin15 (hR 2 (by decide))
  refine own_st (fun tg_ kg_ => X0.baloadBytes hx (j := (2 : Int32)) (v := (.int (115 : Int32))) (by rw [e0]; exact Ar14.1) (State.isArrayOf_alike hZ.alike Ar14.2.1) Ar14.2.2 hin15 hat15 (g := (mkF m 17 #[.val (.ref u), .val (.ref w), .val (.int (2 : Int32))] [(.int (2 : Int32)), (.ref u)])) rfl rfl (hb hby own_d_jdk_43_method_13_code_17) _ kg_) ?_
  show own_Gl p e below _ (s₁.setTop (mkF m 18 #[.val (.ref u), .val (.ref w), .val (.int (2 : Int32))] [(.int (115 : Int32))]))
  refine own_st (fun tg_ kg_ => XS.aloadN X0.here hx rfl (hb hby own_d_jdk_43_method_13_code_18) rfl rfl kg_) ?_
  show own_Gl p e below _ (s₁.setTop (mkF m 19 #[.val (.ref u), .val (.ref w), .val (.int (2 : Int32))] [(.ref w), (.int (115 : Int32))]))
  refine own_st (fun tg_ kg_ => XS.iloadN X0.here hx rfl (hb hby own_d_jdk_43_method_13_code_19) rfl kg_) ?_
  show own_Gl p e below _ (s₁.setTop (mkF m 20 #[.val (.ref u), .val (.ref w), .val (.int (2 : Int32))] [(.int (2 : Int32)), (.ref w), (.int (115 : Int32))]))
  obtain ⟨cl16, Ar16, qa16, Sa16, Na16, Ha16, Ga16⟩ := id V_w
  have hin17 : ¬ ((2 : Int32) < 0 ∨ cl16.slots.size ≤ ((2 : Int32)).toNatClampNeg) := inb_of Sa16 ⟨by decide, by decide⟩
  have hat17 : cl16.slots[((2 : Int32)).toNatClampNeg]? = some (.int (115 : Int32)) := Has.at Ha16 hin17 rfl
  refine own_st (fun tg_ kg_ => X0.baloadBytes hx (j := (2 : Int32)) (v := (.int (115 : Int32))) (by rw [e0]; exact Ar16.1) (State.isArrayOf_alike hZ.alike Ar16.2.1) Ar16.2.2 hin17 hat17 (g := (mkF m 20 #[.val (.ref u), .val (.ref w), .val (.int (2 : Int32))] [(.int (2 : Int32)), (.ref w), (.int (115 : Int32))])) rfl rfl (hb hby own_d_jdk_43_method_13_code_20) _ kg_) ?_
  show own_Gl p e below _ (s₁.setTop (mkF m 21 #[.val (.ref u), .val (.ref w), .val (.int (2 : Int32))] [(.int (115 : Int32)), (.int (115 : Int32))]))
  refine own_st (fun tg_ kg_ => XS.icmpYes X0.here hx rfl (pc0 := 21) (pc' := 26) rfl (hb hby own_d_jdk_43_method_13_code_21) rfl (teq ((rfl : (115 : Int32) = (115 : Int32)))).1 (by decide) (by decide) kg_) ?_
  show own_Gl p e below _ (s₁.setTop (mkF m 26 #[.val (.ref u), .val (.ref w), .val (.int (2 : Int32))] []))
  refine own_st (fun tg_ kg_ => XS.iinc X0.here hx rfl (hb hby own_d_jdk_43_method_13_code_26) rfl (l' := #[.val (.ref u), .val (.ref w), .val (.int (3 : Int32))]) rfl kg_) ?_
  show own_Gl p e below _ (s₁.setTop (mkF m 29 #[.val (.ref u), .val (.ref w), .val (.int (3 : Int32))] []))
  refine own_st (fun tg_ kg_ => XS.goto X0.here hx rfl (pc0 := 29) (pc' := 9) rfl (hb hby own_d_jdk_43_method_13_code_29) (by decide) (by decide) kg_) ?_
  show own_Gl p e below _ (s₁.setTop (mkF m 9 #[.val (.ref u), .val (.ref w), .val (.int (3 : Int32))] []))
  refine own_st (fun tg_ kg_ => XS.iloadN X0.here hx rfl (hb hby own_d_jdk_43_method_13_code_9) rfl kg_) ?_
  show own_Gl p e below _ (s₁.setTop (mkF m 10 #[.val (.ref u), .val (.ref w), .val (.int (3 : Int32))] [(.int (3 : Int32))]))
  refine own_st (fun tg_ kg_ => XS.aloadN X0.here hx rfl (hb hby own_d_jdk_43_method_13_code_10) rfl rfl kg_) ?_
  show own_Gl p e below _ (s₁.setTop (mkF m 11 #[.val (.ref u), .val (.ref w), .val (.int (3 : Int32))] [(.ref u), (.int (3 : Int32))]))
  obtain ⟨cl18, Ar18, qa18, Sa18, Na18, Ha18, Ga18⟩ := id V_u
  refine own_st (fun tg_ kg_ => X0.arraylength hx (by rw [e0]; exact Ar18.1) (State.isArrayOf_alike hZ.alike Ar18.2.1) (g := (mkF m 11 #[.val (.ref u), .val (.ref w), .val (.int (3 : Int32))] [(.ref u), (.int (3 : Int32))])) rfl rfl (hb hby own_d_jdk_43_method_13_code_11) _ kg_) ?_
  rw [len_of Sa18 Na18]
  show own_Gl p e below _ (s₁.setTop (mkF m 12 #[.val (.ref u), .val (.ref w), .val (.int (3 : Int32))] [(.int (8 : Int32)), (.int (3 : Int32))]))
  refine own_st (fun tg_ kg_ => XS.icmpNo X0.here hx rfl (hb hby own_d_jdk_43_method_13_code_12) rfl (tlt ((by decide : (3 : Int32) < (8 : Int32)))).2.1 kg_) ?_
  show own_Gl p e below _ (s₁.setTop (mkF m 15 #[.val (.ref u), .val (.ref w), .val (.int (3 : Int32))] []))
  refine own_st (fun tg_ kg_ => XS.aloadN X0.here hx rfl (hb hby own_d_jdk_43_method_13_code_15) rfl rfl kg_) ?_
  show own_Gl p e below _ (s₁.setTop (mkF m 16 #[.val (.ref u), .val (.ref w), .val (.int (3 : Int32))] [(.ref u)]))
  refine own_st (fun tg_ kg_ => XS.iloadN X0.here hx rfl (hb hby own_d_jdk_43_method_13_code_16) rfl kg_) ?_
  show own_Gl p e below _ (s₁.setTop (mkF m 17 #[.val (.ref u), .val (.ref w), .val (.int (3 : Int32))] [(.int (3 : Int32)), (.ref u)]))
  obtain ⟨cl19, Ar19, qa19, Sa19, Na19, Ha19, Ga19⟩ := id V_u
  have hin20 : ¬ ((3 : Int32) < 0 ∨ cl19.slots.size ≤ ((3 : Int32)).toNatClampNeg) := inb_of Sa19 ⟨by decide, by decide⟩
  have hat20 : cl19.slots[((3 : Int32)).toNatClampNeg]? = some (.int (101 : Int32)) := Has.at Ha19 hin20 (hR 3 (by decide))
  refine own_st (fun tg_ kg_ => X0.baloadBytes hx (j := (3 : Int32)) (v := (.int (101 : Int32))) (by rw [e0]; exact Ar19.1) (State.isArrayOf_alike hZ.alike Ar19.2.1) Ar19.2.2 hin20 hat20 (g := (mkF m 17 #[.val (.ref u), .val (.ref w), .val (.int (3 : Int32))] [(.int (3 : Int32)), (.ref u)])) rfl rfl (hb hby own_d_jdk_43_method_13_code_17) _ kg_) ?_
  show own_Gl p e below _ (s₁.setTop (mkF m 18 #[.val (.ref u), .val (.ref w), .val (.int (3 : Int32))] [(.int (101 : Int32))]))
  refine own_st (fun tg_ kg_ => XS.aloadN X0.here hx rfl (hb hby own_d_jdk_43_method_13_code_18) rfl rfl kg_) ?_
  show own_Gl p e below _ (s₁.setTop (mkF m 19 #[.val (.ref u), .val (.ref w), .val (.int (3 : Int32))] [(.ref w), (.int (101 : Int32))]))
  refine own_st (fun tg_ kg_ => XS.iloadN X0.here hx rfl (hb hby own_d_jdk_43_method_13_code_19) rfl kg_) ?_
  show own_Gl p e below _ (s₁.setTop (mkF m 20 #[.val (.ref u), .val (.ref w), .val (.int (3 : Int32))] [(.int (3 : Int32)), (.ref w), (.int (101 : Int32))]))
  obtain ⟨cl21, Ar21, qa21, Sa21, Na21, Ha21, Ga21⟩ := id V_w
  have hin22 : ¬ ((3 : Int32) < 0 ∨ cl21.slots.size ≤ ((3 : Int32)).toNatClampNeg) := inb_of Sa21 ⟨by decide, by decide⟩
  have hat22 : cl21.slots[((3 : Int32)).toNatClampNeg]? = some (.int (101 : Int32)) := Has.at Ha21 hin22 rfl
  refine own_st (fun tg_ kg_ => X0.baloadBytes hx (j := (3 : Int32)) (v := (.int (101 : Int32))) (by rw [e0]; exact Ar21.1) (State.isArrayOf_alike hZ.alike Ar21.2.1) Ar21.2.2 hin22 hat22 (g := (mkF m 20 #[.val (.ref u), .val (.ref w), .val (.int (3 : Int32))] [(.int (3 : Int32)), (.ref w), (.int (101 : Int32))])) rfl rfl (hb hby own_d_jdk_43_method_13_code_20) _ kg_) ?_
  show own_Gl p e below _ (s₁.setTop (mkF m 21 #[.val (.ref u), .val (.ref w), .val (.int (3 : Int32))] [(.int (101 : Int32)), (.int (101 : Int32))]))
  refine own_st (fun tg_ kg_ => XS.icmpYes X0.here hx rfl (pc0 := 21) (pc' := 26) rfl (hb hby own_d_jdk_43_method_13_code_21) rfl (teq ((rfl : (101 : Int32) = (101 : Int32)))).1 (by decide) (by decide) kg_) ?_
  show own_Gl p e below _ (s₁.setTop (mkF m 26 #[.val (.ref u), .val (.ref w), .val (.int (3 : Int32))] []))
  refine own_st (fun tg_ kg_ => XS.iinc X0.here hx rfl (hb hby own_d_jdk_43_method_13_code_26) rfl (l' := #[.val (.ref u), .val (.ref w), .val (.int (4 : Int32))]) rfl kg_) ?_
  show own_Gl p e below _ (s₁.setTop (mkF m 29 #[.val (.ref u), .val (.ref w), .val (.int (4 : Int32))] []))
  refine own_st (fun tg_ kg_ => XS.goto X0.here hx rfl (pc0 := 29) (pc' := 9) rfl (hb hby own_d_jdk_43_method_13_code_29) (by decide) (by decide) kg_) ?_
  show own_Gl p e below _ (s₁.setTop (mkF m 9 #[.val (.ref u), .val (.ref w), .val (.int (4 : Int32))] []))
  refine own_st (fun tg_ kg_ => XS.iloadN X0.here hx rfl (hb hby own_d_jdk_43_method_13_code_9) rfl kg_) ?_
  show own_Gl p e below _ (s₁.setTop (mkF m 10 #[.val (.ref u), .val (.ref w), .val (.int (4 : Int32))] [(.int (4 : Int32))]))
  refine own_st (fun tg_ kg_ => XS.aloadN X0.here hx rfl (hb hby own_d_jdk_43_method_13_code_10) rfl rfl kg_) ?_
  show own_Gl p e below _ (s₁.setTop (mkF m 11 #[.val (.ref u), .val (.ref w), .val (.int (4 : Int32))] [(.ref u), (.int (4 : Int32))]))
  obtain ⟨cl23, Ar23, qa23, Sa23, Na23, Ha23, Ga23⟩ := id V_u
  refine own_st (fun tg_ kg_ => X0.arraylength hx (by rw [e0]; exact Ar23.1) (State.isArrayOf_alike hZ.alike Ar23.2.1) (g := (mkF m 11 #[.val (.ref u), .val (.ref w), .val (.int (4 : Int32))] [(.ref u), (.int (4 : Int32))])) rfl rfl (hb hby own_d_jdk_43_method_13_code_11) _ kg_) ?_
  rw [len_of Sa23 Na23]
  show own_Gl p e below _ (s₁.setTop (mkF m 12 #[.val (.ref u), .val (.ref w), .val (.int (4 : Int32))] [(.int (8 : Int32)), (.int (4 : Int32))]))
  refine own_st (fun tg_ kg_ => XS.icmpNo X0.here hx rfl (hb hby own_d_jdk_43_method_13_code_12) rfl (tlt ((by decide : (4 : Int32) < (8 : Int32)))).2.1 kg_) ?_
  show own_Gl p e below _ (s₁.setTop (mkF m 15 #[.val (.ref u), .val (.ref w), .val (.int (4 : Int32))] []))
  refine own_st (fun tg_ kg_ => XS.aloadN X0.here hx rfl (hb hby own_d_jdk_43_method_13_code_15) rfl rfl kg_) ?_
  show own_Gl p e below _ (s₁.setTop (mkF m 16 #[.val (.ref u), .val (.ref w), .val (.int (4 : Int32))] [(.ref u)]))
  refine own_st (fun tg_ kg_ => XS.iloadN X0.here hx rfl (hb hby own_d_jdk_43_method_13_code_16) rfl kg_) ?_
  show own_Gl p e below _ (s₁.setTop (mkF m 17 #[.val (.ref u), .val (.ref w), .val (.int (4 : Int32))] [(.int (4 : Int32)), (.ref u)]))
  obtain ⟨cl24, Ar24, qa24, Sa24, Na24, Ha24, Ga24⟩ := id V_u
  have hin25 : ¬ ((4 : Int32) < 0 ∨ cl24.slots.size ≤ ((4 : Int32)).toNatClampNeg) := inb_of Sa24 ⟨by decide, by decide⟩
  have hat25 : cl24.slots[((4 : Int32)).toNatClampNeg]? = some (.int (99 : Int32)) := Has.at Ha24 hin25 (hR 4 (by decide))
  refine own_st (fun tg_ kg_ => X0.baloadBytes hx (j := (4 : Int32)) (v := (.int (99 : Int32))) (by rw [e0]; exact Ar24.1) (State.isArrayOf_alike hZ.alike Ar24.2.1) Ar24.2.2 hin25 hat25 (g := (mkF m 17 #[.val (.ref u), .val (.ref w), .val (.int (4 : Int32))] [(.int (4 : Int32)), (.ref u)])) rfl rfl (hb hby own_d_jdk_43_method_13_code_17) _ kg_) ?_
  show own_Gl p e below _ (s₁.setTop (mkF m 18 #[.val (.ref u), .val (.ref w), .val (.int (4 : Int32))] [(.int (99 : Int32))]))
  refine own_st (fun tg_ kg_ => XS.aloadN X0.here hx rfl (hb hby own_d_jdk_43_method_13_code_18) rfl rfl kg_) ?_
  show own_Gl p e below _ (s₁.setTop (mkF m 19 #[.val (.ref u), .val (.ref w), .val (.int (4 : Int32))] [(.ref w), (.int (99 : Int32))]))
  refine own_st (fun tg_ kg_ => XS.iloadN X0.here hx rfl (hb hby own_d_jdk_43_method_13_code_19) rfl kg_) ?_
  show own_Gl p e below _ (s₁.setTop (mkF m 20 #[.val (.ref u), .val (.ref w), .val (.int (4 : Int32))] [(.int (4 : Int32)), (.ref w), (.int (99 : Int32))]))
  obtain ⟨cl26, Ar26, qa26, Sa26, Na26, Ha26, Ga26⟩ := id V_w
  have hin27 : ¬ ((4 : Int32) < 0 ∨ cl26.slots.size ≤ ((4 : Int32)).toNatClampNeg) := inb_of Sa26 ⟨by decide, by decide⟩
  have hat27 : cl26.slots[((4 : Int32)).toNatClampNeg]? = some (.int (99 : Int32)) := Has.at Ha26 hin27 rfl
  refine own_st (fun tg_ kg_ => X0.baloadBytes hx (j := (4 : Int32)) (v := (.int (99 : Int32))) (by rw [e0]; exact Ar26.1) (State.isArrayOf_alike hZ.alike Ar26.2.1) Ar26.2.2 hin27 hat27 (g := (mkF m 20 #[.val (.ref u), .val (.ref w), .val (.int (4 : Int32))] [(.int (4 : Int32)), (.ref w), (.int (99 : Int32))])) rfl rfl (hb hby own_d_jdk_43_method_13_code_20) _ kg_) ?_
  show own_Gl p e below _ (s₁.setTop (mkF m 21 #[.val (.ref u), .val (.ref w), .val (.int (4 : Int32))] [(.int (99 : Int32)), (.int (99 : Int32))]))
  refine own_st (fun tg_ kg_ => XS.icmpYes X0.here hx rfl (pc0 := 21) (pc' := 26) rfl (hb hby own_d_jdk_43_method_13_code_21) rfl (teq ((rfl : (99 : Int32) = (99 : Int32)))).1 (by decide) (by decide) kg_) ?_
  show own_Gl p e below _ (s₁.setTop (mkF m 26 #[.val (.ref u), .val (.ref w), .val (.int (4 : Int32))] []))
  refine own_st (fun tg_ kg_ => XS.iinc X0.here hx rfl (hb hby own_d_jdk_43_method_13_code_26) rfl (l' := #[.val (.ref u), .val (.ref w), .val (.int (5 : Int32))]) rfl kg_) ?_
  show own_Gl p e below _ (s₁.setTop (mkF m 29 #[.val (.ref u), .val (.ref w), .val (.int (5 : Int32))] []))
  refine own_st (fun tg_ kg_ => XS.goto X0.here hx rfl (pc0 := 29) (pc' := 9) rfl (hb hby own_d_jdk_43_method_13_code_29) (by decide) (by decide) kg_) ?_
  show own_Gl p e below _ (s₁.setTop (mkF m 9 #[.val (.ref u), .val (.ref w), .val (.int (5 : Int32))] []))
  refine own_st (fun tg_ kg_ => XS.iloadN X0.here hx rfl (hb hby own_d_jdk_43_method_13_code_9) rfl kg_) ?_
  show own_Gl p e below _ (s₁.setTop (mkF m 10 #[.val (.ref u), .val (.ref w), .val (.int (5 : Int32))] [(.int (5 : Int32))]))
  refine own_st (fun tg_ kg_ => XS.aloadN X0.here hx rfl (hb hby own_d_jdk_43_method_13_code_10) rfl rfl kg_) ?_
  show own_Gl p e below _ (s₁.setTop (mkF m 11 #[.val (.ref u), .val (.ref w), .val (.int (5 : Int32))] [(.ref u), (.int (5 : Int32))]))
  obtain ⟨cl28, Ar28, qa28, Sa28, Na28, Ha28, Ga28⟩ := id V_u
  refine own_st (fun tg_ kg_ => X0.arraylength hx (by rw [e0]; exact Ar28.1) (State.isArrayOf_alike hZ.alike Ar28.2.1) (g := (mkF m 11 #[.val (.ref u), .val (.ref w), .val (.int (5 : Int32))] [(.ref u), (.int (5 : Int32))])) rfl rfl (hb hby own_d_jdk_43_method_13_code_11) _ kg_) ?_
  rw [len_of Sa28 Na28]
  show own_Gl p e below _ (s₁.setTop (mkF m 12 #[.val (.ref u), .val (.ref w), .val (.int (5 : Int32))] [(.int (8 : Int32)), (.int (5 : Int32))]))
  refine own_st (fun tg_ kg_ => XS.icmpNo X0.here hx rfl (hb hby own_d_jdk_43_method_13_code_12) rfl (tlt ((by decide : (5 : Int32) < (8 : Int32)))).2.1 kg_) ?_
  show own_Gl p e below _ (s₁.setTop (mkF m 15 #[.val (.ref u), .val (.ref w), .val (.int (5 : Int32))] []))
  refine own_st (fun tg_ kg_ => XS.aloadN X0.here hx rfl (hb hby own_d_jdk_43_method_13_code_15) rfl rfl kg_) ?_
  show own_Gl p e below _ (s₁.setTop (mkF m 16 #[.val (.ref u), .val (.ref w), .val (.int (5 : Int32))] [(.ref u)]))
  refine own_st (fun tg_ kg_ => XS.iloadN X0.here hx rfl (hb hby own_d_jdk_43_method_13_code_16) rfl kg_) ?_
  show own_Gl p e below _ (s₁.setTop (mkF m 17 #[.val (.ref u), .val (.ref w), .val (.int (5 : Int32))] [(.int (5 : Int32)), (.ref u)]))
  obtain ⟨cl29, Ar29, qa29, Sa29, Na29, Ha29, Ga29⟩ := id V_u
  have hin30 : ¬ ((5 : Int32) < 0 ∨ cl29.slots.size ≤ ((5 : Int32)).toNatClampNeg) := inb_of Sa29 ⟨by decide, by decide⟩
  have hat30 : cl29.slots[((5 : Int32)).toNatClampNeg]? = some (.int (111 : Int32)) := Has.at Ha29 hin30 (hR 5 (by decide))
  refine own_st (fun tg_ kg_ => X0.baloadBytes hx (j := (5 : Int32)) (v := (.int (111 : Int32))) (by rw [e0]; exact Ar29.1) (State.isArrayOf_alike hZ.alike Ar29.2.1) Ar29.2.2 hin30 hat30 (g := (mkF m 17 #[.val (.ref u), .val (.ref w), .val (.int (5 : Int32))] [(.int (5 : Int32)), (.ref u)])) rfl rfl (hb hby own_d_jdk_43_method_13_code_17) _ kg_) ?_
  show own_Gl p e below _ (s₁.setTop (mkF m 18 #[.val (.ref u), .val (.ref w), .val (.int (5 : Int32))] [(.int (111 : Int32))]))
  refine own_st (fun tg_ kg_ => XS.aloadN X0.here hx rfl (hb hby own_d_jdk_43_method_13_code_18) rfl rfl kg_) ?_
  show own_Gl p e below _ (s₁.setTop (mkF m 19 #[.val (.ref u), .val (.ref w), .val (.int (5 : Int32))] [(.ref w), (.int (111 : Int32))]))
  refine own_st (fun tg_ kg_ => XS.iloadN X0.here hx rfl (hb hby own_d_jdk_43_method_13_code_19) rfl kg_) ?_
  show own_Gl p e below _ (s₁.setTop (mkF m 20 #[.val (.ref u), .val (.ref w), .val (.int (5 : Int32))] [(.int (5 : Int32)), (.ref w), (.int (111 : Int32))]))
  obtain ⟨cl31, Ar31, qa31, Sa31, Na31, Ha31, Ga31⟩ := id V_w
  have hin32 : ¬ ((5 : Int32) < 0 ∨ cl31.slots.size ≤ ((5 : Int32)).toNatClampNeg) := inb_of Sa31 ⟨by decide, by decide⟩
  have hat32 : cl31.slots[((5 : Int32)).toNatClampNeg]? = some (.int (111 : Int32)) := Has.at Ha31 hin32 rfl
  refine own_st (fun tg_ kg_ => X0.baloadBytes hx (j := (5 : Int32)) (v := (.int (111 : Int32))) (by rw [e0]; exact Ar31.1) (State.isArrayOf_alike hZ.alike Ar31.2.1) Ar31.2.2 hin32 hat32 (g := (mkF m 20 #[.val (.ref u), .val (.ref w), .val (.int (5 : Int32))] [(.int (5 : Int32)), (.ref w), (.int (111 : Int32))])) rfl rfl (hb hby own_d_jdk_43_method_13_code_20) _ kg_) ?_
  show own_Gl p e below _ (s₁.setTop (mkF m 21 #[.val (.ref u), .val (.ref w), .val (.int (5 : Int32))] [(.int (111 : Int32)), (.int (111 : Int32))]))
  refine own_st (fun tg_ kg_ => XS.icmpYes X0.here hx rfl (pc0 := 21) (pc' := 26) rfl (hb hby own_d_jdk_43_method_13_code_21) rfl (teq ((rfl : (111 : Int32) = (111 : Int32)))).1 (by decide) (by decide) kg_) ?_
  show own_Gl p e below _ (s₁.setTop (mkF m 26 #[.val (.ref u), .val (.ref w), .val (.int (5 : Int32))] []))
  refine own_st (fun tg_ kg_ => XS.iinc X0.here hx rfl (hb hby own_d_jdk_43_method_13_code_26) rfl (l' := #[.val (.ref u), .val (.ref w), .val (.int (6 : Int32))]) rfl kg_) ?_
  show own_Gl p e below _ (s₁.setTop (mkF m 29 #[.val (.ref u), .val (.ref w), .val (.int (6 : Int32))] []))
  refine own_st (fun tg_ kg_ => XS.goto X0.here hx rfl (pc0 := 29) (pc' := 9) rfl (hb hby own_d_jdk_43_method_13_code_29) (by decide) (by decide) kg_) ?_
  show own_Gl p e below _ (s₁.setTop (mkF m 9 #[.val (.ref u), .val (.ref w), .val (.int (6 : Int32))] []))
  refine own_st (fun tg_ kg_ => XS.iloadN X0.here hx rfl (hb hby own_d_jdk_43_method_13_code_9) rfl kg_) ?_
  show own_Gl p e below _ (s₁.setTop (mkF m 10 #[.val (.ref u), .val (.ref w), .val (.int (6 : Int32))] [(.int (6 : Int32))]))
  refine own_st (fun tg_ kg_ => XS.aloadN X0.here hx rfl (hb hby own_d_jdk_43_method_13_code_10) rfl rfl kg_) ?_
  show own_Gl p e below _ (s₁.setTop (mkF m 11 #[.val (.ref u), .val (.ref w), .val (.int (6 : Int32))] [(.ref u), (.int (6 : Int32))]))
  obtain ⟨cl33, Ar33, qa33, Sa33, Na33, Ha33, Ga33⟩ := id V_u
  refine own_st (fun tg_ kg_ => X0.arraylength hx (by rw [e0]; exact Ar33.1) (State.isArrayOf_alike hZ.alike Ar33.2.1) (g := (mkF m 11 #[.val (.ref u), .val (.ref w), .val (.int (6 : Int32))] [(.ref u), (.int (6 : Int32))])) rfl rfl (hb hby own_d_jdk_43_method_13_code_11) _ kg_) ?_
  rw [len_of Sa33 Na33]
  show own_Gl p e below _ (s₁.setTop (mkF m 12 #[.val (.ref u), .val (.ref w), .val (.int (6 : Int32))] [(.int (8 : Int32)), (.int (6 : Int32))]))
  refine own_st (fun tg_ kg_ => XS.icmpNo X0.here hx rfl (hb hby own_d_jdk_43_method_13_code_12) rfl (tlt ((by decide : (6 : Int32) < (8 : Int32)))).2.1 kg_) ?_
  show own_Gl p e below _ (s₁.setTop (mkF m 15 #[.val (.ref u), .val (.ref w), .val (.int (6 : Int32))] []))
  refine own_st (fun tg_ kg_ => XS.aloadN X0.here hx rfl (hb hby own_d_jdk_43_method_13_code_15) rfl rfl kg_) ?_
  show own_Gl p e below _ (s₁.setTop (mkF m 16 #[.val (.ref u), .val (.ref w), .val (.int (6 : Int32))] [(.ref u)]))
  refine own_st (fun tg_ kg_ => XS.iloadN X0.here hx rfl (hb hby own_d_jdk_43_method_13_code_16) rfl kg_) ?_
  show own_Gl p e below _ (s₁.setTop (mkF m 17 #[.val (.ref u), .val (.ref w), .val (.int (6 : Int32))] [(.int (6 : Int32)), (.ref u)]))
  obtain ⟨cl34, Ar34, qa34, Sa34, Na34, Ha34, Ga34⟩ := id V_u
  have hin35 : ¬ ((6 : Int32) < 0 ∨ cl34.slots.size ≤ ((6 : Int32)).toNatClampNeg) := inb_of Sa34 ⟨by decide, by decide⟩
  have hat35 : cl34.slots[((6 : Int32)).toNatClampNeg]? = some (.int (110 : Int32)) := Has.at Ha34 hin35 (hR 6 (by decide))
  refine own_st (fun tg_ kg_ => X0.baloadBytes hx (j := (6 : Int32)) (v := (.int (110 : Int32))) (by rw [e0]; exact Ar34.1) (State.isArrayOf_alike hZ.alike Ar34.2.1) Ar34.2.2 hin35 hat35 (g := (mkF m 17 #[.val (.ref u), .val (.ref w), .val (.int (6 : Int32))] [(.int (6 : Int32)), (.ref u)])) rfl rfl (hb hby own_d_jdk_43_method_13_code_17) _ kg_) ?_
  show own_Gl p e below _ (s₁.setTop (mkF m 18 #[.val (.ref u), .val (.ref w), .val (.int (6 : Int32))] [(.int (110 : Int32))]))
  refine own_st (fun tg_ kg_ => XS.aloadN X0.here hx rfl (hb hby own_d_jdk_43_method_13_code_18) rfl rfl kg_) ?_
  show own_Gl p e below _ (s₁.setTop (mkF m 19 #[.val (.ref u), .val (.ref w), .val (.int (6 : Int32))] [(.ref w), (.int (110 : Int32))]))
  refine own_st (fun tg_ kg_ => XS.iloadN X0.here hx rfl (hb hby own_d_jdk_43_method_13_code_19) rfl kg_) ?_
  show own_Gl p e below _ (s₁.setTop (mkF m 20 #[.val (.ref u), .val (.ref w), .val (.int (6 : Int32))] [(.int (6 : Int32)), (.ref w), (.int (110 : Int32))]))
  obtain ⟨cl36, Ar36, qa36, Sa36, Na36, Ha36, Ga36⟩ := id V_w
  have hin37 : ¬ ((6 : Int32) < 0 ∨ cl36.slots.size ≤ ((6 : Int32)).toNatClampNeg) := inb_of Sa36 ⟨by decide, by decide⟩
  have hat37 : cl36.slots[((6 : Int32)).toNatClampNeg]? = some (.int (110 : Int32)) := Has.at Ha36 hin37 rfl
  refine own_st (fun tg_ kg_ => X0.baloadBytes hx (j := (6 : Int32)) (v := (.int (110 : Int32))) (by rw [e0]; exact Ar36.1) (State.isArrayOf_alike hZ.alike Ar36.2.1) Ar36.2.2 hin37 hat37 (g := (mkF m 20 #[.val (.ref u), .val (.ref w), .val (.int (6 : Int32))] [(.int (6 : Int32)), (.ref w), (.int (110 : Int32))])) rfl rfl (hb hby own_d_jdk_43_method_13_code_20) _ kg_) ?_
  show own_Gl p e below _ (s₁.setTop (mkF m 21 #[.val (.ref u), .val (.ref w), .val (.int (6 : Int32))] [(.int (110 : Int32)), (.int (110 : Int32))]))
  refine own_st (fun tg_ kg_ => XS.icmpYes X0.here hx rfl (pc0 := 21) (pc' := 26) rfl (hb hby own_d_jdk_43_method_13_code_21) rfl (teq ((rfl : (110 : Int32) = (110 : Int32)))).1 (by decide) (by decide) kg_) ?_
  show own_Gl p e below _ (s₁.setTop (mkF m 26 #[.val (.ref u), .val (.ref w), .val (.int (6 : Int32))] []))
  refine own_st (fun tg_ kg_ => XS.iinc X0.here hx rfl (hb hby own_d_jdk_43_method_13_code_26) rfl (l' := #[.val (.ref u), .val (.ref w), .val (.int (7 : Int32))]) rfl kg_) ?_
  show own_Gl p e below _ (s₁.setTop (mkF m 29 #[.val (.ref u), .val (.ref w), .val (.int (7 : Int32))] []))
  refine own_st (fun tg_ kg_ => XS.goto X0.here hx rfl (pc0 := 29) (pc' := 9) rfl (hb hby own_d_jdk_43_method_13_code_29) (by decide) (by decide) kg_) ?_
  show own_Gl p e below _ (s₁.setTop (mkF m 9 #[.val (.ref u), .val (.ref w), .val (.int (7 : Int32))] []))
  refine own_st (fun tg_ kg_ => XS.iloadN X0.here hx rfl (hb hby own_d_jdk_43_method_13_code_9) rfl kg_) ?_
  show own_Gl p e below _ (s₁.setTop (mkF m 10 #[.val (.ref u), .val (.ref w), .val (.int (7 : Int32))] [(.int (7 : Int32))]))
  refine own_st (fun tg_ kg_ => XS.aloadN X0.here hx rfl (hb hby own_d_jdk_43_method_13_code_10) rfl rfl kg_) ?_
  show own_Gl p e below _ (s₁.setTop (mkF m 11 #[.val (.ref u), .val (.ref w), .val (.int (7 : Int32))] [(.ref u), (.int (7 : Int32))]))
  obtain ⟨cl38, Ar38, qa38, Sa38, Na38, Ha38, Ga38⟩ := id V_u
  refine own_st (fun tg_ kg_ => X0.arraylength hx (by rw [e0]; exact Ar38.1) (State.isArrayOf_alike hZ.alike Ar38.2.1) (g := (mkF m 11 #[.val (.ref u), .val (.ref w), .val (.int (7 : Int32))] [(.ref u), (.int (7 : Int32))])) rfl rfl (hb hby own_d_jdk_43_method_13_code_11) _ kg_) ?_
  rw [len_of Sa38 Na38]
  show own_Gl p e below _ (s₁.setTop (mkF m 12 #[.val (.ref u), .val (.ref w), .val (.int (7 : Int32))] [(.int (8 : Int32)), (.int (7 : Int32))]))
  refine own_st (fun tg_ kg_ => XS.icmpNo X0.here hx rfl (hb hby own_d_jdk_43_method_13_code_12) rfl (tlt ((by decide : (7 : Int32) < (8 : Int32)))).2.1 kg_) ?_
  show own_Gl p e below _ (s₁.setTop (mkF m 15 #[.val (.ref u), .val (.ref w), .val (.int (7 : Int32))] []))
  refine own_st (fun tg_ kg_ => XS.aloadN X0.here hx rfl (hb hby own_d_jdk_43_method_13_code_15) rfl rfl kg_) ?_
  show own_Gl p e below _ (s₁.setTop (mkF m 16 #[.val (.ref u), .val (.ref w), .val (.int (7 : Int32))] [(.ref u)]))
  refine own_st (fun tg_ kg_ => XS.iloadN X0.here hx rfl (hb hby own_d_jdk_43_method_13_code_16) rfl kg_) ?_
  show own_Gl p e below _ (s₁.setTop (mkF m 17 #[.val (.ref u), .val (.ref w), .val (.int (7 : Int32))] [(.int (7 : Int32)), (.ref u)]))
  obtain ⟨cl39, Ar39, qa39, Sa39, Na39, Ha39, Ga39⟩ := id V_u
  have hin40 : ¬ ((7 : Int32) < 0 ∨ cl39.slots.size ≤ ((7 : Int32)).toNatClampNeg) := inb_of Sa39 ⟨by decide, by decide⟩
  have hat40 : cl39.slots[((7 : Int32)).toNatClampNeg]? = some (.int (100 : Int32)) := Has.at Ha39 hin40 (hR 7 (by decide))
  refine own_st (fun tg_ kg_ => X0.baloadBytes hx (j := (7 : Int32)) (v := (.int (100 : Int32))) (by rw [e0]; exact Ar39.1) (State.isArrayOf_alike hZ.alike Ar39.2.1) Ar39.2.2 hin40 hat40 (g := (mkF m 17 #[.val (.ref u), .val (.ref w), .val (.int (7 : Int32))] [(.int (7 : Int32)), (.ref u)])) rfl rfl (hb hby own_d_jdk_43_method_13_code_17) _ kg_) ?_
  show own_Gl p e below _ (s₁.setTop (mkF m 18 #[.val (.ref u), .val (.ref w), .val (.int (7 : Int32))] [(.int (100 : Int32))]))
  refine own_st (fun tg_ kg_ => XS.aloadN X0.here hx rfl (hb hby own_d_jdk_43_method_13_code_18) rfl rfl kg_) ?_
  show own_Gl p e below _ (s₁.setTop (mkF m 19 #[.val (.ref u), .val (.ref w), .val (.int (7 : Int32))] [(.ref w), (.int (100 : Int32))]))
  refine own_st (fun tg_ kg_ => XS.iloadN X0.here hx rfl (hb hby own_d_jdk_43_method_13_code_19) rfl kg_) ?_
  show own_Gl p e below _ (s₁.setTop (mkF m 20 #[.val (.ref u), .val (.ref w), .val (.int (7 : Int32))] [(.int (7 : Int32)), (.ref w), (.int (100 : Int32))]))
  obtain ⟨cl41, Ar41, qa41, Sa41, Na41, Ha41, Ga41⟩ := id V_w
  have hin42 : ¬ ((7 : Int32) < 0 ∨ cl41.slots.size ≤ ((7 : Int32)).toNatClampNeg) := inb_of Sa41 ⟨by decide, by decide⟩
  have hat42 : cl41.slots[((7 : Int32)).toNatClampNeg]? = some (.int (100 : Int32)) := Has.at Ha41 hin42 rfl
  refine own_st (fun tg_ kg_ => X0.baloadBytes hx (j := (7 : Int32)) (v := (.int (100 : Int32))) (by rw [e0]; exact Ar41.1) (State.isArrayOf_alike hZ.alike Ar41.2.1) Ar41.2.2 hin42 hat42 (g := (mkF m 20 #[.val (.ref u), .val (.ref w), .val (.int (7 : Int32))] [(.int (7 : Int32)), (.ref w), (.int (100 : Int32))])) rfl rfl (hb hby own_d_jdk_43_method_13_code_20) _ kg_) ?_
  show own_Gl p e below _ (s₁.setTop (mkF m 21 #[.val (.ref u), .val (.ref w), .val (.int (7 : Int32))] [(.int (100 : Int32)), (.int (100 : Int32))]))
  refine own_st (fun tg_ kg_ => XS.icmpYes X0.here hx rfl (pc0 := 21) (pc' := 26) rfl (hb hby own_d_jdk_43_method_13_code_21) rfl (teq ((rfl : (100 : Int32) = (100 : Int32)))).1 (by decide) (by decide) kg_) ?_
  show own_Gl p e below _ (s₁.setTop (mkF m 26 #[.val (.ref u), .val (.ref w), .val (.int (7 : Int32))] []))
  refine own_st (fun tg_ kg_ => XS.iinc X0.here hx rfl (hb hby own_d_jdk_43_method_13_code_26) rfl (l' := #[.val (.ref u), .val (.ref w), .val (.int (8 : Int32))]) rfl kg_) ?_
  show own_Gl p e below _ (s₁.setTop (mkF m 29 #[.val (.ref u), .val (.ref w), .val (.int (8 : Int32))] []))
  refine own_st (fun tg_ kg_ => XS.goto X0.here hx rfl (pc0 := 29) (pc' := 9) rfl (hb hby own_d_jdk_43_method_13_code_29) (by decide) (by decide) kg_) ?_
  show own_Gl p e below _ (s₁.setTop (mkF m 9 #[.val (.ref u), .val (.ref w), .val (.int (8 : Int32))] []))
  refine own_st (fun tg_ kg_ => XS.iloadN X0.here hx rfl (hb hby own_d_jdk_43_method_13_code_9) rfl kg_) ?_
  show own_Gl p e below _ (s₁.setTop (mkF m 10 #[.val (.ref u), .val (.ref w), .val (.int (8 : Int32))] [(.int (8 : Int32))]))
  refine own_st (fun tg_ kg_ => XS.aloadN X0.here hx rfl (hb hby own_d_jdk_43_method_13_code_10) rfl rfl kg_) ?_
  show own_Gl p e below _ (s₁.setTop (mkF m 11 #[.val (.ref u), .val (.ref w), .val (.int (8 : Int32))] [(.ref u), (.int (8 : Int32))]))
  obtain ⟨cl43, Ar43, qa43, Sa43, Na43, Ha43, Ga43⟩ := id V_u
  refine own_st (fun tg_ kg_ => X0.arraylength hx (by rw [e0]; exact Ar43.1) (State.isArrayOf_alike hZ.alike Ar43.2.1) (g := (mkF m 11 #[.val (.ref u), .val (.ref w), .val (.int (8 : Int32))] [(.ref u), (.int (8 : Int32))])) rfl rfl (hb hby own_d_jdk_43_method_13_code_11) _ kg_) ?_
  rw [len_of Sa43 Na43]
  show own_Gl p e below _ (s₁.setTop (mkF m 12 #[.val (.ref u), .val (.ref w), .val (.int (8 : Int32))] [(.int (8 : Int32)), (.int (8 : Int32))]))
  refine own_st (fun tg_ kg_ => XS.icmpYes X0.here hx rfl (pc0 := 12) (pc' := 32) rfl (hb hby own_d_jdk_43_method_13_code_12) rfl (flt ((by decide : ¬ ((8 : Int32) < (8 : Int32))))).2.1 (by decide) (by decide) kg_) ?_
  show own_Gl p e below _ (s₁.setTop (mkF m 32 #[.val (.ref u), .val (.ref w), .val (.int (8 : Int32))] []))
  refine own_st (fun tg_ kg_ => XS.iconst X0.here hx rfl (hb hby own_d_jdk_43_method_13_code_32) kg_) ?_
  show own_Gl p e below _ (s₁.setTop (mkF m 33 #[.val (.ref u), .val (.ref w), .val (.int (8 : Int32))] [(.int (1 : Int32))]))
  exact own_retN X0 hx Bd.notSynchronized (t := .boolean) Bd.returns (by simp) (hb hby own_d_jdk_43_method_13_code_33) (by decide) (by decide) e0 (⟨rfl, N0, rfl⟩)
theorem own_pd24 : parseMethodDescriptor "([B[B)Z" = some ⟨[(.array .byte), (.array .byte)], some .boolean⟩ := by decide +kernel
theorem own_d_jdk_42_method_66_code_0 : decode jdk_42_method_66_code 0 = .ok (.aload_n 0, 1) := by decide +kernel
theorem own_d_jdk_42_method_66_code_1 : decode jdk_42_method_66_code 1 = .ok (.aload_n 1, 1) := by decide +kernel
theorem own_d_jdk_42_method_66_code_2 : decode jdk_42_method_66_code 2 = .ok (.if_acmp .ne 5, 3) := by decide +kernel
theorem own_d_jdk_42_method_66_code_5 : decode jdk_42_method_66_code 5 = .ok (.iconst 1, 1) := by decide +kernel
theorem own_d_jdk_42_method_66_code_6 : decode jdk_42_method_66_code 6 = .ok (.ireturn, 1) := by decide +kernel
theorem own_d_jdk_42_method_66_code_7 : decode jdk_42_method_66_code 7 = .ok (.aload_n 1, 1) := by decide +kernel
theorem own_d_jdk_42_method_66_code_8 : decode jdk_42_method_66_code 8 = .ok (.instanceof 10, 3) := by decide +kernel
theorem own_d_jdk_42_method_66_code_11 : decode jdk_42_method_66_code 11 = .ok (.ifCond .eq 43, 3) := by decide +kernel
theorem own_d_jdk_42_method_66_code_14 : decode jdk_42_method_66_code 14 = .ok (.aload_n 1, 1) := by decide +kernel
theorem own_d_jdk_42_method_66_code_15 : decode jdk_42_method_66_code 15 = .ok (.checkcast 10, 3) := by decide +kernel
theorem own_d_jdk_42_method_66_code_18 : decode jdk_42_method_66_code 18 = .ok (.astore_n 2, 1) := by decide +kernel
theorem own_d_jdk_42_method_66_code_19 : decode jdk_42_method_66_code 19 = .ok (.getstatic 38, 3) := by decide +kernel
theorem own_d_jdk_42_method_66_code_22 : decode jdk_42_method_66_code 22 = .ok (.ifCond .eq 14, 3) := by decide +kernel
theorem own_d_jdk_42_method_66_code_25 : decode jdk_42_method_66_code 25 = .ok (.aload_n 0, 1) := by decide +kernel
theorem own_d_jdk_42_method_66_code_26 : decode jdk_42_method_66_code 26 = .ok (.getfield 15, 3) := by decide +kernel
theorem own_d_jdk_42_method_66_code_29 : decode jdk_42_method_66_code 29 = .ok (.aload_n 2, 1) := by decide +kernel
theorem own_d_jdk_42_method_66_code_30 : decode jdk_42_method_66_code 30 = .ok (.getfield 15, 3) := by decide +kernel
theorem own_d_jdk_42_method_66_code_33 : decode jdk_42_method_66_code 33 = .ok (.if_icmp .ne 21, 3) := by decide +kernel
theorem own_d_jdk_42_method_66_code_36 : decode jdk_42_method_66_code 36 = .ok (.aload_n 0, 1) := by decide +kernel
theorem own_d_jdk_42_method_66_code_37 : decode jdk_42_method_66_code 37 = .ok (.getfield 9, 3) := by decide +kernel
theorem own_d_jdk_42_method_66_code_40 : decode jdk_42_method_66_code 40 = .ok (.aload_n 2, 1) := by decide +kernel
theorem own_d_jdk_42_method_66_code_41 : decode jdk_42_method_66_code 41 = .ok (.getfield 9, 3) := by decide +kernel
theorem own_d_jdk_42_method_66_code_44 : decode jdk_42_method_66_code 44 = .ok (.invokestatic 541, 3) := by decide +kernel
theorem own_d_jdk_42_method_66_code_47 : decode jdk_42_method_66_code 47 = .ok (.ifCond .eq 7, 3) := by decide +kernel
theorem own_d_jdk_42_method_66_code_50 : decode jdk_42_method_66_code 50 = .ok (.iconst 1, 1) := by decide +kernel
theorem own_d_jdk_42_method_66_code_51 : decode jdk_42_method_66_code 51 = .ok (.goto 4, 3) := by decide +kernel
theorem own_d_jdk_42_method_66_code_55 : decode jdk_42_method_66_code 55 = .ok (.ireturn, 1) := by decide +kernel
theorem own_ef_eqs (m : MethodId) (x0 : Addr) (x1 : Addr) : entryFrame m #[(.ref x0), (.ref x1)] 3 = mkF m 0 #[.val (.ref x0), .val (.ref x1), .unset] [] := by first | (simp [entryFrame, mkF, argsToLocals, Value.category]; done) | rfl
def own_Q_eqs (Z : State) (x y : Addr) (zc : Int32)(u w : Addr) (ku kw : ClassId) (R : List Value) (h0 : Heap) (n0 : Nat) (v : Option Value) (h : Heap) (L : List Loc) : Prop := v = some (.int 1) ∧ Fr n0 L ∧ h = h0
set_option maxRecDepth 65536 in
set_option maxHeartbeats 40000000 in
theorem own_rm_eqs (l : Launch) (Z : State) (a0 : Array Value) (hw : ∀ d ∈ tables_1, d.before a0 Z = true) (ws : List Jvm.Cond) (x y : Addr) (zc : Int32)(u w : Addr) (ku kw : ClassId) (R : List Value) (h0 : Heap) (n0 : Nat) (Z0 : n0 ≤ h0.size) (S_C : Sta Z h0 "java/lang/String" "COMPACT_STRINGS" "Z" (.int zc)) (hzc : ¬ zc = 0)(E_x : Exa Z h0 x "java/lang/String")(F_c : Fld Z h0 x "java/lang/String" "coder" "B" (.int 0))(F_v : Fld Z h0 x "java/lang/String" "value" "[B" (.ref u))(E_y : Exa Z h0 y "java/lang/String") (G_c : Fld Z h0 y "java/lang/String" "coder" "B" (.int 0)) (G_v : Fld Z h0 y "java/lang/String" "value" "[B" (.ref w))(V_u : Arv Z h0 u ku .byte (8 : Int32) R (.int 0)) (V_w : Arv Z h0 w kw .byte (8 : Int32) own_C (.int 0)) (hR : ∀ i, i < 8 → R.getD i (.int 0) = own_C.getD i (.int 0)) :
    MetFree l (⟨"java/lang/String", "equals", "(Ljava/lang/Object;)Z"⟩ : MethodName) (head1 (Jvm.Cond.code (⟨"java/lang/String", "equals", "(Ljava/lang/Object;)Z"⟩ : MethodName) jdk_42_method_66_code 3 (some .boolean) :: ws) ({ frames := 1, cells := 0, slots := 0, locals := 14 } : Room)) (fun aa UU => aa = #[(.ref x), (.ref y)] ∧ Z.Warmed39 UU.vm ∧ UU.heap = h0) (fun _ _ _ _ _ => True) (fun _ UU oo UU' => ∃ vv LL, oo = .returned vv ∧ own_Q_eqs Z x y zc u w ku kw R h0 n0 vv UU'.heap LL ∧ FrameEnd UU oo UU' LL ({ frames := 1, cells := 0, slots := 0, locals := 14 } : Room).cells ({ frames := 1, cells := 0, slots := 0, locals := 14 } : Room).slots) := by
  refine MetFree.of_bodySF (plainFor_of_name own_pn6) hisR ?_
  intro p e s m args below meth c s₁ Bd hml0 hP hK
  obtain ⟨rfl, hZ, hh⟩ := hP
  have hx := Bd.exec
  have hby := Bd.bytes
  have hml : c.maxLocals = 3 := hml0
  have hown : s.vm.findClass "java/lang/String" = some m.cls := findClass_of_methodNamed Bd.named
  have hnm := (name_of_methodNamed Bd.named Bd.method).1
  have X0 : Stand p l e ({ frames := 1, cells := 0, slots := 0, locals := 14 } : Room) s m #[(.ref x), (.ref y)] below meth c s₁ [] 0 0 := Stand.of_body Bd
  have e0 : s₁.heap = h0 := by rw [← hh, Bd.state]; rfl
  have N0 := Fr.nil n0
  show own_Gl p e below (own_Post s (own_Q_eqs Z x y zc u w ku kw R h0 n0) ({ frames := 1, cells := 0, slots := 0, locals := 14 } : Room).cells ({ frames := 1, cells := 0, slots := 0, locals := 14 } : Room).slots) _
  refine own_st (fun tg_ kg_ => castTop (own_ef_eqs m x y) kg_) ?_
  show own_Gl p e below _ (s₁.setTop (mkF m 0 #[.val (.ref x), .val (.ref y), .unset] []))
  refine own_st (fun tg_ kg_ => XS.aloadN X0.here hx rfl (hb hby own_d_jdk_42_method_66_code_0) rfl rfl kg_) ?_
  show own_Gl p e below _ (s₁.setTop (mkF m 1 #[.val (.ref x), .val (.ref y), .unset] [(.ref x)]))
  refine own_st (fun tg_ kg_ => XS.aloadN X0.here hx rfl (hb hby own_d_jdk_42_method_66_code_1) rfl rfl kg_) ?_
  show own_Gl p e below _ (s₁.setTop (mkF m 2 #[.val (.ref x), .val (.ref y), .unset] [(.ref y), (.ref x)]))
  by_cases ha2_1 : x = y
  ·
    show own_Gl p e below _ (s₁.setTop (mkF m 2 #[.val (.ref x), .val (.ref y), .unset] [(.ref y), (.ref x)]))
    refine own_st (fun tg_ kg_ => Jvm.RoadKit.acmp (g := (mkF m 2 #[.val (.ref x), .val (.ref y), .unset] [(.ref y), (.ref x)])) X0 hx rfl rfl rfl (pc0 := 2) (pc' := 5) (same := true) rfl (hb hby own_d_jdk_42_method_66_code_2) rfl (decide_eq_true (congrArg Value.ref ha2_1)) (by decide) (by decide) kg_) ?_
    show own_Gl p e below _ (s₁.setTop (mkF m 5 #[.val (.ref x), .val (.ref y), .unset] []))
    refine own_st (fun tg_ kg_ => XS.iconst X0.here hx rfl (hb hby own_d_jdk_42_method_66_code_5) kg_) ?_
    show own_Gl p e below _ (s₁.setTop (mkF m 6 #[.val (.ref x), .val (.ref y), .unset] [(.int (1 : Int32))]))
    exact own_retN X0 hx Bd.notSynchronized (t := .boolean) Bd.returns (by simp) (hb hby own_d_jdk_42_method_66_code_6) (by decide) (by decide) e0 (⟨rfl, N0, rfl⟩)
  ·
    show own_Gl p e below _ (s₁.setTop (mkF m 2 #[.val (.ref x), .val (.ref y), .unset] [(.ref y), (.ref x)]))
    refine own_st (fun tg_ kg_ => Jvm.RoadKit.acmp (g := (mkF m 2 #[.val (.ref x), .val (.ref y), .unset] [(.ref y), (.ref x)])) X0 hx rfl rfl rfl (pc0 := 2) (pc' := 7) (same := false) rfl (hb hby own_d_jdk_42_method_66_code_2) rfl (decide_eq_false (fun q => ha2_1 (Value.ref.inj q))) (by decide) (by decide) kg_) ?_
    show own_Gl p e below _ (s₁.setTop (mkF m 7 #[.val (.ref x), .val (.ref y), .unset] []))
    refine own_st (fun tg_ kg_ => XS.aloadN X0.here hx rfl (hb hby own_d_jdk_42_method_66_code_7) rfl rfl kg_) ?_
    show own_Gl p e below _ (s₁.setTop (mkF m 8 #[.val (.ref x), .val (.ref y), .unset] [(.ref y)]))
    obtain ⟨T2, X2, e2, st2⟩ := instY X0 hx hZ hown (hw _ (List.mem_of_getElem? (i := 184) rfl)) e0 (Ins.self E_y) (g := (mkF m 8 #[.val (.ref x), .val (.ref y), .unset] [(.ref y)])) rfl rfl (hb hby own_d_jdk_42_method_66_code_8)
    refine own_st st2 ?_
    try clear st2
    show own_Gl p e below _ (T2.setTop (mkF m 11 #[.val (.ref x), .val (.ref y), .unset] [(.int (1 : Int32))]))
    refine own_st (fun tg_ kg_ => XS.ifNo X2.here hx rfl (hb hby own_d_jdk_42_method_66_code_11) rfl ((if0 _ _).trans (feq ((by decide : ¬ ((1 : Int32) = (0 : Int32))))).1) kg_) ?_
    show own_Gl p e below _ (T2.setTop (mkF m 14 #[.val (.ref x), .val (.ref y), .unset] []))
    refine own_st (fun tg_ kg_ => XS.aloadN X2.here hx rfl (hb hby own_d_jdk_42_method_66_code_14) rfl rfl kg_) ?_
    show own_Gl p e below _ (T2.setTop (mkF m 15 #[.val (.ref x), .val (.ref y), .unset] [(.ref y)]))
    obtain ⟨T3, X3, e3, st3⟩ := castY X2 hx hZ hown (hw _ (List.mem_of_getElem? (i := 184) rfl)) e2 (Ins.self E_y) (g := (mkF m 15 #[.val (.ref x), .val (.ref y), .unset] [(.ref y)])) rfl rfl (hb hby own_d_jdk_42_method_66_code_15)
    refine own_st st3 ?_
    try clear st3
    try clear e2
    try clear X2
    try clear T2
    show own_Gl p e below _ (T3.setTop (mkF m 18 #[.val (.ref x), .val (.ref y), .unset] [(.ref y)]))
    refine own_st (fun tg_ kg_ => XS.astoreN X3.here hx rfl (hb hby own_d_jdk_42_method_66_code_18) rfl rfl (l' := #[.val (.ref x), .val (.ref y), .val (.ref y)]) rfl kg_) ?_
    show own_Gl p e below _ (T3.setTop (mkF m 19 #[.val (.ref x), .val (.ref y), .val (.ref y)] []))
    obtain ⟨T4, X4, e4, st4⟩ := getS2 X3 hx hZ hown (host := "") (Or.inl (hw _ (List.mem_of_getElem? (i := 113) rfl))) Via.refl e3 S_C (g := (mkF m 19 #[.val (.ref x), .val (.ref y), .val (.ref y)] [])) rfl (hb hby own_d_jdk_42_method_66_code_19)
    refine own_st st4 ?_
    try clear st4
    try clear e3
    try clear X3
    try clear T3
    show own_Gl p e below _ (T4.setTop (mkF m 22 #[.val (.ref x), .val (.ref y), .val (.ref y)] [(.int zc)]))
    refine own_st (fun tg_ kg_ => XS.ifNo X4.here hx rfl (hb hby own_d_jdk_42_method_66_code_22) rfl ((if0 _ _).trans (feq (hzc)).1) kg_) ?_
    show own_Gl p e below _ (T4.setTop (mkF m 25 #[.val (.ref x), .val (.ref y), .val (.ref y)] []))
    refine own_st (fun tg_ kg_ => XS.aloadN X4.here hx rfl (hb hby own_d_jdk_42_method_66_code_25) rfl rfl kg_) ?_
    show own_Gl p e below _ (T4.setTop (mkF m 26 #[.val (.ref x), .val (.ref y), .val (.ref y)] [(.ref x)]))
    obtain ⟨T5, X5, e5, st5⟩ := getF X4 hx hZ hown (host := "") (Or.inl (hw _ (List.mem_of_getElem? (i := 114) rfl))) Via.refl e4 F_c (g := (mkF m 26 #[.val (.ref x), .val (.ref y), .val (.ref y)] [(.ref x)])) rfl rfl (hb hby own_d_jdk_42_method_66_code_26)
    refine own_st st5 ?_
    try clear st5
    try clear e4
    try clear X4
    try clear T4
    show own_Gl p e below _ (T5.setTop (mkF m 29 #[.val (.ref x), .val (.ref y), .val (.ref y)] [(.int (0 : Int32))]))
    refine own_st (fun tg_ kg_ => XS.aloadN X5.here hx rfl (hb hby own_d_jdk_42_method_66_code_29) rfl rfl kg_) ?_
    show own_Gl p e below _ (T5.setTop (mkF m 30 #[.val (.ref x), .val (.ref y), .val (.ref y)] [(.ref y), (.int (0 : Int32))]))
    obtain ⟨T6, X6, e6, st6⟩ := getF X5 hx hZ hown (host := "") (Or.inl (hw _ (List.mem_of_getElem? (i := 114) rfl))) Via.refl e5 G_c (g := (mkF m 30 #[.val (.ref x), .val (.ref y), .val (.ref y)] [(.ref y), (.int (0 : Int32))])) rfl rfl (hb hby own_d_jdk_42_method_66_code_30)
    refine own_st st6 ?_
    try clear st6
    try clear e5
    try clear X5
    try clear T5
    show own_Gl p e below _ (T6.setTop (mkF m 33 #[.val (.ref x), .val (.ref y), .val (.ref y)] [(.int (0 : Int32)), (.int (0 : Int32))]))
    refine own_st (fun tg_ kg_ => XS.icmpNo X6.here hx rfl (hb hby own_d_jdk_42_method_66_code_33) rfl (teq ((rfl : (0 : Int32) = (0 : Int32)))).2 kg_) ?_
    show own_Gl p e below _ (T6.setTop (mkF m 36 #[.val (.ref x), .val (.ref y), .val (.ref y)] []))
    refine own_st (fun tg_ kg_ => XS.aloadN X6.here hx rfl (hb hby own_d_jdk_42_method_66_code_36) rfl rfl kg_) ?_
    show own_Gl p e below _ (T6.setTop (mkF m 37 #[.val (.ref x), .val (.ref y), .val (.ref y)] [(.ref x)]))
    obtain ⟨T7, X7, e7, st7⟩ := getF X6 hx hZ hown (host := "") (Or.inl (hw _ (List.mem_of_getElem? (i := 107) rfl))) Via.refl e6 F_v (g := (mkF m 37 #[.val (.ref x), .val (.ref y), .val (.ref y)] [(.ref x)])) rfl rfl (hb hby own_d_jdk_42_method_66_code_37)
    refine own_st st7 ?_
    try clear st7
    try clear e6
    try clear X6
    try clear T6
    show own_Gl p e below _ (T7.setTop (mkF m 40 #[.val (.ref x), .val (.ref y), .val (.ref y)] [(.ref u)]))
    refine own_st (fun tg_ kg_ => XS.aloadN X7.here hx rfl (hb hby own_d_jdk_42_method_66_code_40) rfl rfl kg_) ?_
    show own_Gl p e below _ (T7.setTop (mkF m 41 #[.val (.ref x), .val (.ref y), .val (.ref y)] [(.ref y), (.ref u)]))
    obtain ⟨T8, X8, e8, st8⟩ := getF X7 hx hZ hown (host := "") (Or.inl (hw _ (List.mem_of_getElem? (i := 107) rfl))) Via.refl e7 G_v (g := (mkF m 41 #[.val (.ref x), .val (.ref y), .val (.ref y)] [(.ref y), (.ref u)])) rfl rfl (hb hby own_d_jdk_42_method_66_code_41)
    refine own_st st8 ?_
    try clear st8
    try clear e7
    try clear X7
    try clear T7
    show own_Gl p e below _ (T8.setTop (mkF m 44 #[.val (.ref x), .val (.ref y), .val (.ref y)] [(.ref w), (.ref u)]))
    obtain ⟨_, _, ⟨T9, L9, k9, n9⟩, -, X9, ⟨Lc9, hQ9, l9, y9, z9⟩, st9⟩ := Jvm.LawKit.callS X8 hx (y := (⟨"java/lang/StringLatin1", "equals", "([B[B)Z"⟩ : MethodName)) hown (mvT hZ (hw _ (List.mem_of_getElem? (i := 185) rfl))) (mvT hZ (hw _ (List.mem_of_getElem? (i := 186) rfl))) (mvT hZ (hw _ (List.mem_of_getElem? (i := 187) rfl))) (mvT hZ (hw _ (List.mem_of_getElem? (i := 188) rfl))) (by decide) (backOf (W := 0) (own_rm_leq l Z a0 hw [] u w ku kw R h0 n0 Z0 V_u V_w hR) hZ (hw _ (List.mem_of_getElem? (i := 188) rfl)) (hw _ (List.mem_of_getElem? (i := 187) rfl)) (by decide) (by decide)) (g := (mkF m 44 #[.val (.ref x), .val (.ref y), .val (.ref y)] [(.ref w), (.ref u)])) rfl (by rw [hml]; rfl) (argsL := [(.ref u), (.ref w)]) (rest := []) (lenOf own_pd24 rfl) rfl (by show 2 * 0 + _ ≤ _; exact Nat.le_of_eq rfl) (hb hby own_d_jdk_42_method_66_code_44) (fun _ _ => ⟨rfl, e8, (by decide : 0 + 0 ≤ _), (by decide : 0 + 0 ≤ _)⟩)
    dsimp only [Pt.U, Pt.locs, Pt.cells, Pt.slots] at X9 l9 y9 z9 st9 hQ9
    obtain rfl : k9 = 0 := y9
    obtain rfl : n9 = 0 := z9
    obtain ⟨rfl, N9q, e9⟩ := hQ9
    have N9 : Fr n0 L9 := by rw [l9]; exact Fr.app N0 N9q
    try clear l9
    refine own_st st9 ?_
    show own_Gl p e below _ (T9.setTop (mkF m 47 #[.val (.ref x), .val (.ref y), .val (.ref y)] [(.int (1 : Int32))]))
    try clear st9
    try clear N9q
    try clear e8
    try clear X8
    try clear T8
    refine own_st (fun tg_ kg_ => XS.ifNo X9.here hx rfl (hb hby own_d_jdk_42_method_66_code_47) rfl ((if0 _ _).trans (feq ((by decide : ¬ ((1 : Int32) = (0 : Int32))))).1) kg_) ?_
    show own_Gl p e below _ (T9.setTop (mkF m 50 #[.val (.ref x), .val (.ref y), .val (.ref y)] []))
    refine own_st (fun tg_ kg_ => XS.iconst X9.here hx rfl (hb hby own_d_jdk_42_method_66_code_50) kg_) ?_
    show own_Gl p e below _ (T9.setTop (mkF m 51 #[.val (.ref x), .val (.ref y), .val (.ref y)] [(.int (1 : Int32))]))
    refine own_st (fun tg_ kg_ => XS.goto X9.here hx rfl (pc0 := 51) (pc' := 55) rfl (hb hby own_d_jdk_42_method_66_code_51) (by decide) (by decide) kg_) ?_
    show own_Gl p e below _ (T9.setTop (mkF m 55 #[.val (.ref x), .val (.ref y), .val (.ref y)] [(.int (1 : Int32))]))
    exact own_retN X9 hx Bd.notSynchronized (t := .boolean) Bd.returns (by simp) (hb hby own_d_jdk_42_method_66_code_55) (by decide) (by decide) e9 (⟨rfl, N9, rfl⟩)
theorem own_pn10 : plainName "jdk/internal/util/Preconditions" = true := by first | (simp [plainName, overriddenIn]; done) | decide +kernel
theorem own_d_jdk_41_method_11_code_0 : decode jdk_41_method_11_code 0 = .ok (.iload_n 0, 1) := by decide +kernel
theorem own_d_jdk_41_method_11_code_1 : decode jdk_41_method_11_code 1 = .ok (.ifCond .lt 8, 3) := by decide +kernel
theorem own_d_jdk_41_method_11_code_4 : decode jdk_41_method_11_code 4 = .ok (.iload_n 0, 1) := by decide +kernel
theorem own_d_jdk_41_method_11_code_5 : decode jdk_41_method_11_code 5 = .ok (.iload_n 1, 1) := by decide +kernel
theorem own_d_jdk_41_method_11_code_6 : decode jdk_41_method_11_code 6 = .ok (.if_icmp .lt 10, 3) := by decide +kernel
theorem own_d_jdk_41_method_11_code_16 : decode jdk_41_method_11_code 16 = .ok (.iload_n 0, 1) := by decide +kernel
theorem own_d_jdk_41_method_11_code_17 : decode jdk_41_method_11_code 17 = .ok (.ireturn, 1) := by decide +kernel
theorem own_ef_chk (m : MethodId) (x0 : Int32) (x1 : Int32) (x2 : Value) (q2 : x2.category = 1) : entryFrame m #[(.int x0), (.int x1), x2] 3 = mkF m 0 #[.val (.int x0), .val (.int x1), .val x2] [] := by first | (simp [entryFrame, mkF, argsToLocals, q2, Value.category]; done) | (cases x2 <;> first | (simp_all [Value.category]; done) | (simp [entryFrame, mkF, argsToLocals, Value.category]; done) | rfl)
def own_Q_chk (Z : State) (i mm : Nat) (vf : Value) (h0 : Heap) (n0 : Nat) (v : Option Value) (h : Heap) (L : List Loc) : Prop := v = some (.int (Int32.ofNat i)) ∧ Fr n0 L ∧ h = h0
set_option maxRecDepth 65536 in
set_option maxHeartbeats 40000000 in
theorem own_rm_chk (l : Launch) (Z : State) (a0 : Array Value) (hw : ∀ d ∈ tables_1, d.before a0 Z = true) (ws : List Jvm.Cond) (i mm : Nat) (vf : Value) (h0 : Heap) (n0 : Nat) (Z0 : n0 ≤ h0.size) (hvf : vf.isRef = true)(hi : i < mm) (hmm : mm ≤ 34) :
    MetFree l (⟨"jdk/internal/util/Preconditions", "checkIndex", "(IILjava/util/function/BiFunction;)I"⟩ : MethodName) (head1 (Jvm.Cond.code (⟨"jdk/internal/util/Preconditions", "checkIndex", "(IILjava/util/function/BiFunction;)I"⟩ : MethodName) jdk_41_method_11_code 3 (some .int) :: ws) ({ frames := 0, cells := 0, slots := 0, locals := 0 } : Room)) (fun aa UU => aa = #[(.int (Int32.ofNat i)), (.int (Int32.ofNat mm)), vf] ∧ Z.Warmed39 UU.vm ∧ UU.heap = h0) (fun _ _ _ _ _ => True) (fun _ UU oo UU' => ∃ vv LL, oo = .returned vv ∧ own_Q_chk Z i mm vf h0 n0 vv UU'.heap LL ∧ FrameEnd UU oo UU' LL ({ frames := 0, cells := 0, slots := 0, locals := 0 } : Room).cells ({ frames := 0, cells := 0, slots := 0, locals := 0 } : Room).slots) := by
  refine MetFree.of_bodySF (plainFor_of_name own_pn10) hisR ?_
  intro p e s m args below meth c s₁ Bd hml0 hP hK
  obtain ⟨rfl, hZ, hh⟩ := hP
  have hx := Bd.exec
  have hby := Bd.bytes
  have hml : c.maxLocals = 3 := hml0
  have hown : s.vm.findClass "jdk/internal/util/Preconditions" = some m.cls := findClass_of_methodNamed Bd.named
  have hnm := (name_of_methodNamed Bd.named Bd.method).1
  have X0 : Stand p l e ({ frames := 0, cells := 0, slots := 0, locals := 0 } : Room) s m #[(.int (Int32.ofNat i)), (.int (Int32.ofNat mm)), vf] below meth c s₁ [] 0 0 := Stand.of_body Bd
  have e0 : s₁.heap = h0 := by rw [← hh, Bd.state]; rfl
  have N0 := Fr.nil n0
  show own_Gl p e below (own_Post s (own_Q_chk Z i mm vf h0 n0) ({ frames := 0, cells := 0, slots := 0, locals := 0 } : Room).cells ({ frames := 0, cells := 0, slots := 0, locals := 0 } : Room).slots) _
  refine own_st (fun tg_ kg_ => castTop (own_ef_chk m (Int32.ofNat i) (Int32.ofNat mm) vf (XT.cat1 hvf)) kg_) ?_
  show own_Gl p e below _ (s₁.setTop (mkF m 0 #[.val (.int (Int32.ofNat i)), .val (.int (Int32.ofNat mm)), .val vf] []))
  refine own_st (fun tg_ kg_ => XS.iloadN X0.here hx rfl (hb hby own_d_jdk_41_method_11_code_0) rfl kg_) ?_
  show own_Gl p e below _ (s₁.setTop (mkF m 1 #[.val (.int (Int32.ofNat i)), .val (.int (Int32.ofNat mm)), .val vf] [(.int (Int32.ofNat i))]))
  refine own_st (fun tg_ kg_ => XS.ifNo X0.here hx rfl (hb hby own_d_jdk_41_method_11_code_1) rfl ((if0 _ _).trans (flt (own_ofn_nn (by omega))).1) kg_) ?_
  show own_Gl p e below _ (s₁.setTop (mkF m 4 #[.val (.int (Int32.ofNat i)), .val (.int (Int32.ofNat mm)), .val vf] []))
  refine own_st (fun tg_ kg_ => XS.iloadN X0.here hx rfl (hb hby own_d_jdk_41_method_11_code_4) rfl kg_) ?_
  show own_Gl p e below _ (s₁.setTop (mkF m 5 #[.val (.int (Int32.ofNat i)), .val (.int (Int32.ofNat mm)), .val vf] [(.int (Int32.ofNat i))]))
  refine own_st (fun tg_ kg_ => XS.iloadN X0.here hx rfl (hb hby own_d_jdk_41_method_11_code_5) rfl kg_) ?_
  show own_Gl p e below _ (s₁.setTop (mkF m 6 #[.val (.int (Int32.ofNat i)), .val (.int (Int32.ofNat mm)), .val vf] [(.int (Int32.ofNat mm)), (.int (Int32.ofNat i))]))
  refine own_st (fun tg_ kg_ => XS.icmpYes X0.here hx rfl (pc0 := 6) (pc' := 16) rfl (hb hby own_d_jdk_41_method_11_code_6) rfl (tlt ((own_ofn_lt (by omega) (by omega)).mpr hi)).1 (by decide) (by decide) kg_) ?_
  show own_Gl p e below _ (s₁.setTop (mkF m 16 #[.val (.int (Int32.ofNat i)), .val (.int (Int32.ofNat mm)), .val vf] []))
  refine own_st (fun tg_ kg_ => XS.iloadN X0.here hx rfl (hb hby own_d_jdk_41_method_11_code_16) rfl kg_) ?_
  show own_Gl p e below _ (s₁.setTop (mkF m 17 #[.val (.int (Int32.ofNat i)), .val (.int (Int32.ofNat mm)), .val vf] [(.int (Int32.ofNat i))]))
  exact own_retI X0 hx Bd.notSynchronized Bd.returns (hb hby own_d_jdk_41_method_11_code_17) (by decide) (by decide) e0 (⟨rfl, N0, rfl⟩)
theorem own_pd25 : parseMethodDescriptor "(IILjava/util/function/BiFunction;)I" = some ⟨[.int, .int, (.object "java/util/function/BiFunction")], some .int⟩ := by decide +kernel
theorem own_d_jdk_42_method_155_code_0 : decode jdk_42_method_155_code 0 = .ok (.iload_n 0, 1) := by decide +kernel
theorem own_d_jdk_42_method_155_code_1 : decode jdk_42_method_155_code 1 = .ok (.iload_n 1, 1) := by decide +kernel
theorem own_d_jdk_42_method_155_code_2 : decode jdk_42_method_155_code 2 = .ok (.getstatic 1053, 3) := by decide +kernel
theorem own_d_jdk_42_method_155_code_5 : decode jdk_42_method_155_code 5 = .ok (.invokestatic 1059, 3) := by decide +kernel
theorem own_d_jdk_42_method_155_code_8 : decode jdk_42_method_155_code 8 = .ok (.pop, 1) := by decide +kernel
theorem own_d_jdk_42_method_155_code_9 : decode jdk_42_method_155_code 9 = .ok (.return_, 1) := by decide +kernel
theorem own_ef_sck (m : MethodId) (x0 : Int32) (x1 : Int32) : entryFrame m #[(.int x0), (.int x1)] 2 = mkF m 0 #[.val (.int x0), .val (.int x1)] [] := by first | (simp [entryFrame, mkF, argsToLocals, Value.category]; done) | rfl
def own_Q_sck (Z : State) (i mm : Nat) (vf : Value) (h0 : Heap) (n0 : Nat) (v : Option Value) (h : Heap) (L : List Loc) : Prop := v = none ∧ Fr n0 L ∧ h = h0
set_option maxRecDepth 65536 in
set_option maxHeartbeats 40000000 in
theorem own_rm_sck (l : Launch) (Z : State) (a0 : Array Value) (hw : ∀ d ∈ tables_1, d.before a0 Z = true) (ws : List Jvm.Cond) (i mm : Nat) (vf : Value) (h0 : Heap) (n0 : Nat) (Z0 : n0 ≤ h0.size) (S_F : Sta Z h0 "jdk/internal/util/Preconditions" "SIOOBE_FORMATTER" "Ljava/util/function/BiFunction;" vf) (hvf : vf.isRef = true)(hi : i < mm) (hmm : mm ≤ 34) :
    MetFree l (⟨"java/lang/String", "checkIndex", "(II)V"⟩ : MethodName) (head1 (Jvm.Cond.code (⟨"java/lang/String", "checkIndex", "(II)V"⟩ : MethodName) jdk_42_method_155_code 2 none :: ws) ({ frames := 1, cells := 0, slots := 0, locals := 14 } : Room)) (fun aa UU => aa = #[(.int (Int32.ofNat i)), (.int (Int32.ofNat mm))] ∧ Z.Warmed39 UU.vm ∧ UU.heap = h0) (fun _ _ _ _ _ => True) (fun _ UU oo UU' => ∃ vv LL, oo = .returned vv ∧ own_Q_sck Z i mm vf h0 n0 vv UU'.heap LL ∧ FrameEnd UU oo UU' LL ({ frames := 1, cells := 0, slots := 0, locals := 14 } : Room).cells ({ frames := 1, cells := 0, slots := 0, locals := 14 } : Room).slots) := by
  refine MetFree.of_bodySF (plainFor_of_name own_pn6) hisR ?_
  intro p e s m args below meth c s₁ Bd hml0 hP hK
  obtain ⟨rfl, hZ, hh⟩ := hP
  have hx := Bd.exec
  have hby := Bd.bytes
  have hml : c.maxLocals = 2 := hml0
  have hown : s.vm.findClass "java/lang/String" = some m.cls := findClass_of_methodNamed Bd.named
  have hnm := (name_of_methodNamed Bd.named Bd.method).1
  have X0 : Stand p l e ({ frames := 1, cells := 0, slots := 0, locals := 14 } : Room) s m #[(.int (Int32.ofNat i)), (.int (Int32.ofNat mm))] below meth c s₁ [] 0 0 := Stand.of_body Bd
  have e0 : s₁.heap = h0 := by rw [← hh, Bd.state]; rfl
  have N0 := Fr.nil n0
  show own_Gl p e below (own_Post s (own_Q_sck Z i mm vf h0 n0) ({ frames := 1, cells := 0, slots := 0, locals := 14 } : Room).cells ({ frames := 1, cells := 0, slots := 0, locals := 14 } : Room).slots) _
  refine own_st (fun tg_ kg_ => castTop (own_ef_sck m (Int32.ofNat i) (Int32.ofNat mm)) kg_) ?_
  show own_Gl p e below _ (s₁.setTop (mkF m 0 #[.val (.int (Int32.ofNat i)), .val (.int (Int32.ofNat mm))] []))
  refine own_st (fun tg_ kg_ => XS.iloadN X0.here hx rfl (hb hby own_d_jdk_42_method_155_code_0) rfl kg_) ?_
  show own_Gl p e below _ (s₁.setTop (mkF m 1 #[.val (.int (Int32.ofNat i)), .val (.int (Int32.ofNat mm))] [(.int (Int32.ofNat i))]))
  refine own_st (fun tg_ kg_ => XS.iloadN X0.here hx rfl (hb hby own_d_jdk_42_method_155_code_1) rfl kg_) ?_
  show own_Gl p e below _ (s₁.setTop (mkF m 2 #[.val (.int (Int32.ofNat i)), .val (.int (Int32.ofNat mm))] [(.int (Int32.ofNat mm)), (.int (Int32.ofNat i))]))
  obtain ⟨T1, X1, e1, st1⟩ := getS2 X0 hx hZ hown (host := "") (Or.inl (hw _ (List.mem_of_getElem? (i := 211) rfl))) Via.refl e0 S_F (g := (mkF m 2 #[.val (.int (Int32.ofNat i)), .val (.int (Int32.ofNat mm))] [(.int (Int32.ofNat mm)), (.int (Int32.ofNat i))])) rfl (hb hby own_d_jdk_42_method_155_code_2)
  refine own_st st1 ?_
  try clear st1
  show own_Gl p e below _ (T1.setTop (mkF m 5 #[.val (.int (Int32.ofNat i)), .val (.int (Int32.ofNat mm))] [vf, (.int (Int32.ofNat mm)), (.int (Int32.ofNat i))]))
  obtain ⟨_, _, ⟨T2, L2, k2, n2⟩, -, X2, ⟨Lc2, hQ2, l2, y2, z2⟩, st2⟩ := Jvm.LawKit.callS X1 hx (y := (⟨"jdk/internal/util/Preconditions", "checkIndex", "(IILjava/util/function/BiFunction;)I"⟩ : MethodName)) hown (mvT hZ (hw _ (List.mem_of_getElem? (i := 213) rfl))) (mvT hZ (hw _ (List.mem_of_getElem? (i := 214) rfl))) (mvT hZ (hw _ (List.mem_of_getElem? (i := 212) rfl))) (mvT hZ (hw _ (List.mem_of_getElem? (i := 215) rfl))) (by decide) (backOf (W := 0) (own_rm_chk l Z a0 hw [] i mm vf h0 n0 Z0 hvf hi hmm) hZ (hw _ (List.mem_of_getElem? (i := 215) rfl)) (hw _ (List.mem_of_getElem? (i := 212) rfl)) (by decide) (by decide)) (g := (mkF m 5 #[.val (.int (Int32.ofNat i)), .val (.int (Int32.ofNat mm))] [vf, (.int (Int32.ofNat mm)), (.int (Int32.ofNat i))])) rfl (by rw [hml]; rfl) (argsL := [(.int (Int32.ofNat i)), (.int (Int32.ofNat mm)), vf]) (rest := []) (lenOf own_pd25 rfl) rfl (by show 2 * 0 + _ ≤ _; exact Nat.le_of_eq rfl) (hb hby own_d_jdk_42_method_155_code_5) (fun _ _ => ⟨rfl, e1, (by decide : 0 + 0 ≤ _), (by decide : 0 + 0 ≤ _)⟩)
  dsimp only [Pt.U, Pt.locs, Pt.cells, Pt.slots] at X2 l2 y2 z2 st2 hQ2
  obtain rfl : k2 = 0 := y2
  obtain rfl : n2 = 0 := z2
  obtain ⟨rfl, N2q, e2⟩ := hQ2
  have N2 : Fr n0 L2 := by rw [l2]; exact Fr.app N0 N2q
  try clear l2
  refine own_st st2 ?_
  show own_Gl p e below _ (T2.setTop (mkF m 8 #[.val (.int (Int32.ofNat i)), .val (.int (Int32.ofNat mm))] [(.int (Int32.ofNat i))]))
  try clear st2
  try clear N2q
  try clear e1
  try clear X1
  try clear T1
  refine own_st (fun tg_ kg_ => XS.pop X2.here hx rfl (hb hby own_d_jdk_42_method_155_code_8) rfl rfl kg_) ?_
  show own_Gl p e below _ (T2.setTop (mkF m 9 #[.val (.int (Int32.ofNat i)), .val (.int (Int32.ofNat mm))] []))
  exact own_retV X2 hx Bd.notSynchronized Bd.returns (hb hby own_d_jdk_42_method_155_code_9) (by decide) (by decide) e2 (⟨rfl, N2, rfl⟩)
theorem own_d_jdk_43_method_2_code_0 : decode jdk_43_method_2_code 0 = .ok (.iload_n 1, 1) := by decide +kernel
theorem own_d_jdk_43_method_2_code_1 : decode jdk_43_method_2_code 1 = .ok (.aload_n 0, 1) := by decide +kernel
theorem own_d_jdk_43_method_2_code_2 : decode jdk_43_method_2_code 2 = .ok (.arraylength, 1) := by decide +kernel
theorem own_d_jdk_43_method_2_code_3 : decode jdk_43_method_2_code 3 = .ok (.invokestatic 9, 3) := by decide +kernel
theorem own_d_jdk_43_method_2_code_6 : decode jdk_43_method_2_code 6 = .ok (.aload_n 0, 1) := by decide +kernel
theorem own_d_jdk_43_method_2_code_7 : decode jdk_43_method_2_code 7 = .ok (.iload_n 1, 1) := by decide +kernel
theorem own_d_jdk_43_method_2_code_8 : decode jdk_43_method_2_code 8 = .ok (.baload, 1) := by decide +kernel
theorem own_d_jdk_43_method_2_code_9 : decode jdk_43_method_2_code 9 = .ok (.sipush 255, 3) := by decide +kernel
theorem own_d_jdk_43_method_2_code_12 : decode jdk_43_method_2_code 12 = .ok (.iand, 1) := by decide +kernel
theorem own_d_jdk_43_method_2_code_13 : decode jdk_43_method_2_code 13 = .ok (.i2c, 1) := by decide +kernel
theorem own_d_jdk_43_method_2_code_14 : decode jdk_43_method_2_code 14 = .ok (.ireturn, 1) := by decide +kernel
theorem own_ef_lca (m : MethodId) (x0 : Addr) (x1 : Int32) : entryFrame m #[(.ref x0), (.int x1)] 2 = mkF m 0 #[.val (.ref x0), .val (.int x1)] [] := by first | (simp [entryFrame, mkF, argsToLocals, Value.category]; done) | rfl
def own_Q_lca (Z : State) (u : Addr) (ku : ClassId) (i mm : Nat) (R : List Value) (ch : Int32) (vf : Value) (h0 : Heap) (n0 : Nat) (v : Option Value) (h : Heap) (L : List Loc) : Prop := v = some (.int ch) ∧ Fr n0 L ∧ h = h0
set_option maxRecDepth 65536 in
set_option maxHeartbeats 40000000 in
theorem own_rm_lca (l : Launch) (Z : State) (a0 : Array Value) (hw : ∀ d ∈ tables_1, d.before a0 Z = true) (ws : List Jvm.Cond) (u : Addr) (ku : ClassId) (i mm : Nat) (R : List Value) (ch : Int32) (vf : Value) (h0 : Heap) (n0 : Nat) (Z0 : n0 ≤ h0.size) (S_F : Sta Z h0 "jdk/internal/util/Preconditions" "SIOOBE_FORMATTER" "Ljava/util/function/BiFunction;" vf) (hvf : vf.isRef = true)(V_u : Arv Z h0 u ku .byte (Int32.ofNat mm) R (.int 0))(hi : i < mm) (hmm : mm ≤ 34)(hch : R.getD i (.int 0) = .int ch) (hcr : 0 ≤ ch.toInt ∧ ch.toInt < 128) :
    MetFree l (⟨"java/lang/StringLatin1", "charAt", "([BI)C"⟩ : MethodName) (head1 (Jvm.Cond.code (⟨"java/lang/StringLatin1", "charAt", "([BI)C"⟩ : MethodName) jdk_43_method_2_code 2 (some .char) :: ws) ({ frames := 2, cells := 0, slots := 0, locals := 27 } : Room)) (fun aa UU => aa = #[(.ref u), (.int (Int32.ofNat i))] ∧ Z.Warmed39 UU.vm ∧ UU.heap = h0) (fun _ _ _ _ _ => True) (fun _ UU oo UU' => ∃ vv LL, oo = .returned vv ∧ own_Q_lca Z u ku i mm R ch vf h0 n0 vv UU'.heap LL ∧ FrameEnd UU oo UU' LL ({ frames := 2, cells := 0, slots := 0, locals := 27 } : Room).cells ({ frames := 2, cells := 0, slots := 0, locals := 27 } : Room).slots) := by
  refine MetFree.of_bodySF (plainFor_of_name own_pn9) hisR ?_
  intro p e s m args below meth c s₁ Bd hml0 hP hK
  obtain ⟨rfl, hZ, hh⟩ := hP
  have hx := Bd.exec
  have hby := Bd.bytes
  have hml : c.maxLocals = 2 := hml0
  have hown : s.vm.findClass "java/lang/StringLatin1" = some m.cls := findClass_of_methodNamed Bd.named
  have hnm := (name_of_methodNamed Bd.named Bd.method).1
  have X0 : Stand p l e ({ frames := 2, cells := 0, slots := 0, locals := 27 } : Room) s m #[(.ref u), (.int (Int32.ofNat i))] below meth c s₁ [] 0 0 := Stand.of_body Bd
  have e0 : s₁.heap = h0 := by rw [← hh, Bd.state]; rfl
  have N0 := Fr.nil n0
  show own_Gl p e below (own_Post s (own_Q_lca Z u ku i mm R ch vf h0 n0) ({ frames := 2, cells := 0, slots := 0, locals := 27 } : Room).cells ({ frames := 2, cells := 0, slots := 0, locals := 27 } : Room).slots) _
  refine own_st (fun tg_ kg_ => castTop (own_ef_lca m u (Int32.ofNat i)) kg_) ?_
  show own_Gl p e below _ (s₁.setTop (mkF m 0 #[.val (.ref u), .val (.int (Int32.ofNat i))] []))
  refine own_st (fun tg_ kg_ => XS.iloadN X0.here hx rfl (hb hby own_d_jdk_43_method_2_code_0) rfl kg_) ?_
  show own_Gl p e below _ (s₁.setTop (mkF m 1 #[.val (.ref u), .val (.int (Int32.ofNat i))] [(.int (Int32.ofNat i))]))
  refine own_st (fun tg_ kg_ => XS.aloadN X0.here hx rfl (hb hby own_d_jdk_43_method_2_code_1) rfl rfl kg_) ?_
  show own_Gl p e below _ (s₁.setTop (mkF m 2 #[.val (.ref u), .val (.int (Int32.ofNat i))] [(.ref u), (.int (Int32.ofNat i))]))
  obtain ⟨cl1, Ar1, qa1, Sa1, Na1, Ha1, Ga1⟩ := id V_u
  refine own_st (fun tg_ kg_ => X0.arraylength hx (by rw [e0]; exact Ar1.1) (State.isArrayOf_alike hZ.alike Ar1.2.1) (g := (mkF m 2 #[.val (.ref u), .val (.int (Int32.ofNat i))] [(.ref u), (.int (Int32.ofNat i))])) rfl rfl (hb hby own_d_jdk_43_method_2_code_2) _ kg_) ?_
  rw [len_of Sa1 Na1]
  show own_Gl p e below _ (s₁.setTop (mkF m 3 #[.val (.ref u), .val (.int (Int32.ofNat i))] [(.int (Int32.ofNat mm)), (.int (Int32.ofNat i))]))
  obtain ⟨_, _, ⟨T2, L2, k2, n2⟩, -, X2, ⟨Lc2, hQ2, l2, y2, z2⟩, st2⟩ := Jvm.LawKit.callS X0 hx (y := (⟨"java/lang/String", "checkIndex", "(II)V"⟩ : MethodName)) hown (mvT hZ (hw _ (List.mem_of_getElem? (i := 208) rfl))) (mvT hZ (hw _ (List.mem_of_getElem? (i := 209) rfl))) (mvT hZ (hw _ (List.mem_of_getElem? (i := 51) rfl))) (mvT hZ (hw _ (List.mem_of_getElem? (i := 210) rfl))) (by decide) (backOf (W := 0) (own_rm_sck l Z a0 hw [] i mm vf h0 n0 Z0 S_F hvf hi hmm) hZ (hw _ (List.mem_of_getElem? (i := 210) rfl)) (hw _ (List.mem_of_getElem? (i := 51) rfl)) (by decide) (by decide)) (g := (mkF m 3 #[.val (.ref u), .val (.int (Int32.ofNat i))] [(.int (Int32.ofNat mm)), (.int (Int32.ofNat i))])) rfl (by rw [hml]; rfl) (argsL := [(.int (Int32.ofNat i)), (.int (Int32.ofNat mm))]) (rest := []) (lenOf own_pd14 rfl) rfl (by show 2 * 0 + _ ≤ _; exact Nat.le_of_eq rfl) (hb hby own_d_jdk_43_method_2_code_3) (fun _ _ => ⟨rfl, e0, (by decide : 0 + 0 ≤ _), (by decide : 0 + 0 ≤ _)⟩)
  dsimp only [Pt.U, Pt.locs, Pt.cells, Pt.slots] at X2 l2 y2 z2 st2 hQ2
  obtain rfl : k2 = 0 := y2
  obtain rfl : n2 = 0 := z2
  obtain ⟨rfl, N2q, e2⟩ := hQ2
  have N2 : Fr n0 L2 := by rw [l2]; exact Fr.app N0 N2q
  try clear l2
  refine own_st st2 ?_
  show own_Gl p e below _ (T2.setTop (mkF m 6 #[.val (.ref u), .val (.int (Int32.ofNat i))] []))
  try clear st2
  try clear N2q
  refine own_st (fun tg_ kg_ => XS.aloadN X2.here hx rfl (hb hby own_d_jdk_43_method_2_code_6) rfl rfl kg_) ?_
  show own_Gl p e below _ (T2.setTop (mkF m 7 #[.val (.ref u), .val (.int (Int32.ofNat i))] [(.ref u)]))
  refine own_st (fun tg_ kg_ => XS.iloadN X2.here hx rfl (hb hby own_d_jdk_43_method_2_code_7) rfl kg_) ?_
  show own_Gl p e below _ (T2.setTop (mkF m 8 #[.val (.ref u), .val (.int (Int32.ofNat i))] [(.int (Int32.ofNat i)), (.ref u)]))
  obtain ⟨cl3, Ar3, qa3, Sa3, Na3, Ha3, Ga3⟩ := id V_u
  have hin4 : ¬ ((Int32.ofNat i) < 0 ∨ cl3.slots.size ≤ ((Int32.ofNat i)).toNatClampNeg) := inb_of Sa3 ⟨own_ofn_nn (by omega), (own_ofn_lt (by omega) (by omega)).mpr hi⟩
  have hat4 : cl3.slots[((Int32.ofNat i)).toNatClampNeg]? = some (.int ch) := Has.at Ha3 hin4 (by rw [own_ofn_clamp (by omega)]; exact hch)
  refine own_st (fun tg_ kg_ => X2.baloadBytes hx (j := (Int32.ofNat i)) (v := (.int ch)) (by rw [e2]; exact Ar3.1) (State.isArrayOf_alike hZ.alike Ar3.2.1) Ar3.2.2 hin4 hat4 (g := (mkF m 8 #[.val (.ref u), .val (.int (Int32.ofNat i))] [(.int (Int32.ofNat i)), (.ref u)])) rfl rfl (hb hby own_d_jdk_43_method_2_code_8) _ kg_) ?_
  show own_Gl p e below _ (T2.setTop (mkF m 9 #[.val (.ref u), .val (.int (Int32.ofNat i))] [(.int ch)]))
  refine own_st (fun tg_ kg_ => XS.sipush X2.here hx rfl (hb hby own_d_jdk_43_method_2_code_9) kg_) ?_
  show own_Gl p e below _ (T2.setTop (mkF m 12 #[.val (.ref u), .val (.int (Int32.ofNat i))] [(.int (255 : Int32)), (.int ch)]))
  refine own_st (fun tg_ kg_ => XS.iand X2.here hx rfl (hb hby own_d_jdk_43_method_2_code_12) rfl kg_) ?_
  show own_Gl p e below _ (T2.setTop (mkF m 13 #[.val (.ref u), .val (.int (Int32.ofNat i))] [(.int (ch &&& (255 : Int32)))]))
  refine own_st (fun tg_ kg_ => XS.i2c X2.here hx rfl (hb hby own_d_jdk_43_method_2_code_13) rfl kg_) ?_
  show own_Gl p e below _ (T2.setTop (mkF m 14 #[.val (.ref u), .val (.int (Int32.ofNat i))] [(.int ((ch &&& (255 : Int32)).toUInt32.toUInt16.toUInt32.toInt32))]))
  exact own_retN X2 hx Bd.notSynchronized (t := .char) Bd.returns (by simp) (hb hby own_d_jdk_43_method_2_code_14) (by decide) (by decide) e2 (⟨congrArg (fun z => some (Value.int z)) (own_l1_chr hcr), N2, rfl⟩)
theorem own_pd26 : parseMethodDescriptor "([BI)C" = some ⟨[(.array .byte), .int], some .char⟩ := by decide +kernel
theorem own_d_jdk_42_method_56_code_0 : decode jdk_42_method_56_code 0 = .ok (.aload_n 0, 1) := by decide +kernel
theorem own_d_jdk_42_method_56_code_1 : decode jdk_42_method_56_code 1 = .ok (.invokevirtual 492, 3) := by decide +kernel
theorem own_d_jdk_42_method_56_code_4 : decode jdk_42_method_56_code 4 = .ok (.ifCond .eq 12, 3) := by decide +kernel
theorem own_d_jdk_42_method_56_code_7 : decode jdk_42_method_56_code 7 = .ok (.aload_n 0, 1) := by decide +kernel
theorem own_d_jdk_42_method_56_code_8 : decode jdk_42_method_56_code 8 = .ok (.getfield 9, 3) := by decide +kernel
theorem own_d_jdk_42_method_56_code_11 : decode jdk_42_method_56_code 11 = .ok (.iload_n 1, 1) := by decide +kernel
theorem own_d_jdk_42_method_56_code_12 : decode jdk_42_method_56_code 12 = .ok (.invokestatic 495, 3) := by decide +kernel
theorem own_d_jdk_42_method_56_code_15 : decode jdk_42_method_56_code 15 = .ok (.ireturn, 1) := by decide +kernel
theorem own_ef_sca (m : MethodId) (x0 : Addr) (x1 : Int32) : entryFrame m #[(.ref x0), (.int x1)] 2 = mkF m 0 #[.val (.ref x0), .val (.int x1)] [] := by first | (simp [entryFrame, mkF, argsToLocals, Value.category]; done) | rfl
def own_Q_sca (Z : State) (x u : Addr) (ku : ClassId) (i mm : Nat) (R : List Value) (ch zc : Int32) (vf : Value) (h0 : Heap) (n0 : Nat) (v : Option Value) (h : Heap) (L : List Loc) : Prop := v = some (.int ch) ∧ Fr n0 L ∧ h = h0
set_option maxRecDepth 65536 in
set_option maxHeartbeats 40000000 in
theorem own_rm_sca (l : Launch) (Z : State) (a0 : Array Value) (hw : ∀ d ∈ tables_1, d.before a0 Z = true) (ws : List Jvm.Cond) (x u : Addr) (ku : ClassId) (i mm : Nat) (R : List Value) (ch zc : Int32) (vf : Value) (h0 : Heap) (n0 : Nat) (Z0 : n0 ≤ h0.size) (S_C : Sta Z h0 "java/lang/String" "COMPACT_STRINGS" "Z" (.int zc)) (hzc : ¬ zc = 0)(S_F : Sta Z h0 "jdk/internal/util/Preconditions" "SIOOBE_FORMATTER" "Ljava/util/function/BiFunction;" vf) (hvf : vf.isRef = true)(E_x : Exa Z h0 x "java/lang/String")(F_c : Fld Z h0 x "java/lang/String" "coder" "B" (.int 0))(F_v : Fld Z h0 x "java/lang/String" "value" "[B" (.ref u))(V_u : Arv Z h0 u ku .byte (Int32.ofNat mm) R (.int 0))(hi : i < mm) (hmm : mm ≤ 34)(hch : R.getD i (.int 0) = .int ch) (hcr : 0 ≤ ch.toInt ∧ ch.toInt < 128) :
    MetFree l (⟨"java/lang/String", "charAt", "(I)C"⟩ : MethodName) (head1 (Jvm.Cond.code (⟨"java/lang/String", "charAt", "(I)C"⟩ : MethodName) jdk_42_method_56_code 2 (some .char) :: ws) ({ frames := 3, cells := 0, slots := 0, locals := 40 } : Room)) (fun aa UU => aa = #[(.ref x), (.int (Int32.ofNat i))] ∧ Z.Warmed39 UU.vm ∧ UU.heap = h0) (fun _ _ _ _ _ => True) (fun _ UU oo UU' => ∃ vv LL, oo = .returned vv ∧ own_Q_sca Z x u ku i mm R ch zc vf h0 n0 vv UU'.heap LL ∧ FrameEnd UU oo UU' LL ({ frames := 3, cells := 0, slots := 0, locals := 40 } : Room).cells ({ frames := 3, cells := 0, slots := 0, locals := 40 } : Room).slots) := by
  refine MetFree.of_bodySF (plainFor_of_name own_pn6) hisR ?_
  intro p e s m args below meth c s₁ Bd hml0 hP hK
  obtain ⟨rfl, hZ, hh⟩ := hP
  have hx := Bd.exec
  have hby := Bd.bytes
  have hml : c.maxLocals = 2 := hml0
  have hown : s.vm.findClass "java/lang/String" = some m.cls := findClass_of_methodNamed Bd.named
  have hnm := (name_of_methodNamed Bd.named Bd.method).1
  have X0 : Stand p l e ({ frames := 3, cells := 0, slots := 0, locals := 40 } : Room) s m #[(.ref x), (.int (Int32.ofNat i))] below meth c s₁ [] 0 0 := Stand.of_body Bd
  have e0 : s₁.heap = h0 := by rw [← hh, Bd.state]; rfl
  have N0 := Fr.nil n0
  show own_Gl p e below (own_Post s (own_Q_sca Z x u ku i mm R ch zc vf h0 n0) ({ frames := 3, cells := 0, slots := 0, locals := 40 } : Room).cells ({ frames := 3, cells := 0, slots := 0, locals := 40 } : Room).slots) _
  refine own_st (fun tg_ kg_ => castTop (own_ef_sca m x (Int32.ofNat i)) kg_) ?_
  show own_Gl p e below _ (s₁.setTop (mkF m 0 #[.val (.ref x), .val (.int (Int32.ofNat i))] []))
  refine own_st (fun tg_ kg_ => XS.aloadN X0.here hx rfl (hb hby own_d_jdk_42_method_56_code_0) rfl rfl kg_) ?_
  show own_Gl p e below _ (s₁.setTop (mkF m 1 #[.val (.ref x), .val (.int (Int32.ofNat i))] [(.ref x)]))
  obtain ⟨cq1, kq1, q1a, q1b, q1c⟩ := isOf hZ e0 E_x
  obtain ⟨_, _, ⟨T1, L1, k1, n1⟩, -, X1, ⟨Lc1, hQ1, l1, y1, z1⟩, st1⟩ := X0.virtualBack hx (y := (⟨"java/lang/String", "isLatin1", "()Z"⟩ : MethodName)) (z := (⟨"java/lang/String", "isLatin1", "()Z"⟩ : MethodName)) hown (mvT hZ (hw _ (List.mem_of_getElem? (i := 200) rfl))) (mvT hZ (hw _ (List.mem_of_getElem? (i := 201) rfl))) (notFace_of_selects (args := #[]) (mvT hZ (hw _ (List.mem_of_getElem? (i := 203) rfl)))) (mvT hZ (hw _ (List.mem_of_getElem? (i := 203) rfl))) (mvT hZ (hw _ (List.mem_of_getElem? (i := 202) rfl))) (by decide) (backOf (W := 0) (own_rm_lat l Z a0 hw [] x zc h0 n0 Z0 S_C hzc F_c) hZ (hw _ (List.mem_of_getElem? (i := 204) rfl)) (hw _ (List.mem_of_getElem? (i := 51) rfl)) (by decide) (by decide)) q1a q1c (g := (mkF m 1 #[.val (.ref x), .val (.int (Int32.ofNat i))] [(.ref x)])) rfl (by rw [hml]; rfl) (Steps.refl _) (argsL := []) (rest := []) (lenOf own_pd6 rfl) rfl (by show 2 * 0 + _ ≤ _; exact Nat.le_of_eq rfl) (hb hby own_d_jdk_42_method_56_code_1) (fun _ _ => ⟨rfl, e0, (by decide : 0 + 0 ≤ _), (by decide : 0 + 0 ≤ _)⟩)
  dsimp only [Pt.U, Pt.locs, Pt.cells, Pt.slots] at X1 l1 y1 z1 st1 hQ1
  obtain rfl : k1 = 0 := y1
  obtain rfl : n1 = 0 := z1
  obtain ⟨rfl, N1q, e1⟩ := hQ1
  have N1 : Fr n0 L1 := by rw [l1]; exact Fr.app N0 N1q
  try clear l1
  refine own_tr st1 ?_
  show own_Gl p e below _ (T1.setTop (mkF m 4 #[.val (.ref x), .val (.int (Int32.ofNat i))] [(.int (1 : Int32))]))
  try clear st1
  try clear N1q
  refine own_st (fun tg_ kg_ => XS.ifNo X1.here hx rfl (hb hby own_d_jdk_42_method_56_code_4) rfl ((if0 _ _).trans (feq ((by decide : ¬ ((1 : Int32) = (0 : Int32))))).1) kg_) ?_
  show own_Gl p e below _ (T1.setTop (mkF m 7 #[.val (.ref x), .val (.int (Int32.ofNat i))] []))
  refine own_st (fun tg_ kg_ => XS.aloadN X1.here hx rfl (hb hby own_d_jdk_42_method_56_code_7) rfl rfl kg_) ?_
  show own_Gl p e below _ (T1.setTop (mkF m 8 #[.val (.ref x), .val (.int (Int32.ofNat i))] [(.ref x)]))
  obtain ⟨T2, X2, e2, st2⟩ := getF X1 hx hZ hown (host := "") (Or.inl (hw _ (List.mem_of_getElem? (i := 107) rfl))) Via.refl e1 F_v (g := (mkF m 8 #[.val (.ref x), .val (.int (Int32.ofNat i))] [(.ref x)])) rfl rfl (hb hby own_d_jdk_42_method_56_code_8)
  refine own_st st2 ?_
  try clear st2
  try clear e1
  try clear X1
  try clear T1
  show own_Gl p e below _ (T2.setTop (mkF m 11 #[.val (.ref x), .val (.int (Int32.ofNat i))] [(.ref u)]))
  refine own_st (fun tg_ kg_ => XS.iloadN X2.here hx rfl (hb hby own_d_jdk_42_method_56_code_11) rfl kg_) ?_
  show own_Gl p e below _ (T2.setTop (mkF m 12 #[.val (.ref x), .val (.int (Int32.ofNat i))] [(.int (Int32.ofNat i)), (.ref u)]))
  obtain ⟨_, _, ⟨T3, L3, k3, n3⟩, -, X3, ⟨Lc3, hQ3, l3, y3, z3⟩, st3⟩ := Jvm.LawKit.callS X2 hx (y := (⟨"java/lang/StringLatin1", "charAt", "([BI)C"⟩ : MethodName)) hown (mvT hZ (hw _ (List.mem_of_getElem? (i := 205) rfl))) (mvT hZ (hw _ (List.mem_of_getElem? (i := 206) rfl))) (mvT hZ (hw _ (List.mem_of_getElem? (i := 187) rfl))) (mvT hZ (hw _ (List.mem_of_getElem? (i := 207) rfl))) (by decide) (backOf (W := 0) (own_rm_lca l Z a0 hw [] u ku i mm R ch vf h0 n0 Z0 S_F hvf V_u hi hmm hch hcr) hZ (hw _ (List.mem_of_getElem? (i := 207) rfl)) (hw _ (List.mem_of_getElem? (i := 187) rfl)) (by decide) (by decide)) (g := (mkF m 12 #[.val (.ref x), .val (.int (Int32.ofNat i))] [(.int (Int32.ofNat i)), (.ref u)])) rfl (by rw [hml]; rfl) (argsL := [(.ref u), (.int (Int32.ofNat i))]) (rest := []) (lenOf own_pd26 rfl) rfl (by show 2 * 0 + _ ≤ _; exact Nat.le_of_eq rfl) (hb hby own_d_jdk_42_method_56_code_12) (fun _ _ => ⟨rfl, e2, (by decide : 0 + 0 ≤ _), (by decide : 0 + 0 ≤ _)⟩)
  dsimp only [Pt.U, Pt.locs, Pt.cells, Pt.slots] at X3 l3 y3 z3 st3 hQ3
  obtain rfl : k3 = 0 := y3
  obtain rfl : n3 = 0 := z3
  obtain ⟨rfl, N3q, e3⟩ := hQ3
  have N3 : Fr n0 L3 := by rw [l3]; exact Fr.app N1 N3q
  try clear l3
  refine own_st st3 ?_
  show own_Gl p e below _ (T3.setTop (mkF m 15 #[.val (.ref x), .val (.int (Int32.ofNat i))] [(.int ch)]))
  try clear st3
  try clear N3q
  try clear N1
  try clear e2
  try clear X2
  try clear T2
  exact own_retN X3 hx Bd.notSynchronized (t := .char) Bd.returns (by simp) (hb hby own_d_jdk_42_method_56_code_15) (by decide) (by decide) e3 (⟨congrArg (fun z => some (Value.int z)) (own_narC hcr), N3, rfl⟩)
theorem own_pd27 : parseMethodDescriptor "(I)Lorg/samehood/calls/CallLimit;" = some ⟨[.int], some (.object "org/samehood/calls/CallLimit")⟩ := by decide +kernel
theorem own_pd28 : parseMethodDescriptor "()J" = some ⟨[], some .long⟩ := by decide +kernel
theorem own_pd29 : parseMethodDescriptor "(Ljava/lang/Object;)Z" = some ⟨[(.object "java/lang/Object")], some .boolean⟩ := by decide +kernel
theorem own_pd30 : parseMethodDescriptor "(I)C" = some ⟨[.int], some .char⟩ := by decide +kernel
theorem own_ef_law (m : MethodId) (x0 : Int32) : entryFrame m #[(.int x0)] maxLocals = mkF m 0 #[.val (.int x0), .unset, .unset, .unset, .unset] [] := by first | (simp [entryFrame, mkF, argsToLocals, Value.category, maxLocals]; done) | rfl
def own_Q_law (Z : State) (i0 zc : Int32) (vf : Value) (tu : Addr)(o1 o2 : Addr) (k1 k2 : ClassId) (K2 : List Int32) (h0 : Heap) (n0 : Nat) (v : Option Value) (h : Heap) (L : List Loc) : Prop := v = some (.int 1) ∧ Fr n0 L
set_option maxRecDepth 65536 in
set_option maxHeartbeats 40000000 in
theorem own_rm_law (l : Launch) (Z : State) (a0 : Array Value) (hw : ∀ d ∈ tables_1, d.before a0 Z = true) (ws : List Jvm.Cond) (i0 zc : Int32) (vf : Value) (tu : Addr)(o1 o2 : Addr) (k1 k2 : ClassId) (K2 : List Int32) (h0 : Heap) (n0 : Nat) (Z0 : n0 ≤ h0.size) (S_C : Sta Z h0 "java/lang/String" "COMPACT_STRINGS" "Z" (.int zc)) (hzc : ¬ zc = 0)(S_F : Sta Z h0 "jdk/internal/util/Preconditions" "SIOOBE_FORMATTER" "Ljava/util/function/BiFunction;" vf) (hvf : vf.isRef = true)(S_1 : Sta Z h0 "java/lang/Integer" "DigitOnes" "[B" (.ref o1)) (S_2 : Sta Z h0 "java/lang/Integer" "DigitTens" "[B" (.ref o2)) (V_1 : Arv Z h0 o1 k1 .byte (100 : Int32) own_ones (.int 0)) (V_2 : Arv Z h0 o2 k2 .byte (100 : Int32) (K2.map Value.int) (.int 0))(S_T : Sta Z h0 "java/util/concurrent/TimeUnit" "SECONDS" "Ljava/util/concurrent/TimeUnit;" (.ref tu))(E_t : Exa Z h0 tu "java/util/concurrent/TimeUnit") (F_1 : Fld Z h0 tu "java/util/concurrent/TimeUnit" "scale" "J" (.long (1000000000 : Int64))) (F_2 : Fld Z h0 tu "java/util/concurrent/TimeUnit" "maxNanos" "J" (.long (9223372036 : Int64))) :
    MetFree l x (head1 (Jvm.Cond.code x code maxLocals ret :: ws) room_1) (fun aa UU => aa = #[(.int i0)] ∧ Z.Warmed39 UU.vm ∧ UU.heap = h0 ∧ CHv Z own_EL UU.vm h0) (fun _ _ _ _ _ => True) (fun _ UU oo UU' => ∃ vv LL, oo = .returned vv ∧ own_Q_law Z i0 zc vf tu o1 o2 k1 k2 K2 h0 n0 vv UU'.heap LL ∧ ReturnedEndW UU oo UU' LL room_1.cells room_1.slots) := by
  refine MetFree.of_bodySF (plainFor_of_name own_pn1) hisR ?_
  intro p e s m args below meth c s₁ Bd hml0 hP hK
  obtain ⟨rfl, hZ, hh, hCH⟩ := hP
  have hx := Bd.exec
  have hby := Bd.bytes
  have hml : c.maxLocals = 5 := hml0
  have hown : s.vm.findClass "org/samehood/calls/CallLimitOfPinLaw" = some m.cls := findClass_of_methodNamed Bd.named
  have hnm := (name_of_methodNamed Bd.named Bd.method).1
  have X0 : Stand p l e room_1 (s.setVm s.vm) m #[(.int i0)] below meth c s₁ [] 0 0 := Stand.of_body Bd
  have e0 : s₁.heap = h0 := by rw [← hh, Bd.state]; rfl
  have N0 := Fr.nil n0
  have hZ : Z.Warmed39 (s.setVm s.vm).vm := hZ
  have hown : (s.setVm s.vm).vm.findClass "org/samehood/calls/CallLimitOfPinLaw" = some m.cls := hown
  have hS0 : s.Since s.vm 0 := (State.WarmedH.refl s).since 0
  have hEL : EW Z a0 own_EL := own_ew hw
  show own_Gl p e below (own_LPost s (own_Q_law Z i0 zc vf tu o1 o2 k1 k2 K2 h0 n0) room_1.cells room_1.slots) _
  refine own_st (fun tg_ kg_ => castTop (own_ef_law m i0) kg_) ?_
  show own_Gl p e below _ (s₁.setTop (mkF m 0 #[.val (.int i0), .unset, .unset, .unset, .unset] []))
  have C0 : CHr Z own_EL s.vm h0 s.vm h0 := CHr.refl hCH
  refine own_st (fun tg_ kg_ => XS.iloadN X0.here hx rfl (hb hby at_0) rfl kg_) ?_
  show own_Gl p e below _ (s₁.setTop (mkF m 1 #[.val (.int i0), .unset, .unset, .unset, .unset] [(.int i0)]))
  refine own_st (fun tg_ kg_ => X0.ldcInt hx hown (mvT hZ (hw _ (List.mem_of_getElem? (i := 0) rfl))) (g := (mkF m 1 #[.val (.int i0), .unset, .unset, .unset, .unset] [(.int i0)])) rfl (hb hby at_1) _ kg_) ?_
  show own_Gl p e below _ (s₁.setTop (mkF m 3 #[.val (.int i0), .unset, .unset, .unset, .unset] [(.int (2147483647 : Int32)), (.int i0)]))
  refine own_st (fun tg_ kg_ => XS.iand X0.here hx rfl (hb hby at_3) rfl kg_) ?_
  show own_Gl p e below _ (s₁.setTop (mkF m 4 #[.val (.int i0), .unset, .unset, .unset, .unset] [(.int (i0 &&& (2147483647 : Int32)))]))
  refine own_st (fun tg_ kg_ => XS.istoreN X0.here hx rfl (hb hby at_4) rfl (l' := #[.val (.int i0), .val (.int (i0 &&& (2147483647 : Int32))), .unset, .unset, .unset]) rfl kg_) ?_
  show own_Gl p e below _ (s₁.setTop (mkF m 5 #[.val (.int i0), .val (.int (i0 &&& (2147483647 : Int32))), .unset, .unset, .unset] []))
  refine own_st (fun tg_ kg_ => XS.iloadN X0.here hx rfl (hb hby at_5) rfl kg_) ?_
  show own_Gl p e below _ (s₁.setTop (mkF m 6 #[.val (.int i0), .val (.int (i0 &&& (2147483647 : Int32))), .unset, .unset, .unset] [(.int (i0 &&& (2147483647 : Int32)))]))
  suffices join : ∀ sv : Int32, 1 ≤ sv.toInt → own_Gl p e below (own_LPost s (own_Q_law Z i0 zc vf tu o1 o2 k1 k2 K2 h0 n0) room_1.cells room_1.slots) (s₁.setTop (mkF m 11 #[.val (.int i0), .val (.int sv), .unset, .unset, .unset] [])) by
    by_cases hz : (i0 &&& (2147483647 : Int32)) = (0 : Int32)
    ·
      show own_Gl p e below _ (s₁.setTop (mkF m 6 #[.val (.int i0), .val (.int (i0 &&& (2147483647 : Int32))), .unset, .unset, .unset] [(.int (i0 &&& (2147483647 : Int32)))]))
      refine own_st (fun tg_ kg_ => XS.ifNo X0.here hx rfl (hb hby at_6) rfl ((if0 _ _).trans (teq (hz)).2) kg_) ?_
      show own_Gl p e below _ (s₁.setTop (mkF m 9 #[.val (.int i0), .val (.int (i0 &&& (2147483647 : Int32))), .unset, .unset, .unset] []))
      refine own_st (fun tg_ kg_ => XS.iconst X0.here hx rfl (hb hby at_9) kg_) ?_
      show own_Gl p e below _ (s₁.setTop (mkF m 10 #[.val (.int i0), .val (.int (i0 &&& (2147483647 : Int32))), .unset, .unset, .unset] [(.int (1 : Int32))]))
      refine own_st (fun tg_ kg_ => XS.istoreN X0.here hx rfl (hb hby at_10) rfl (l' := #[.val (.int i0), .val (.int (1 : Int32)), .unset, .unset, .unset]) rfl kg_) ?_
      show own_Gl p e below _ (s₁.setTop (mkF m 11 #[.val (.int i0), .val (.int (1 : Int32)), .unset, .unset, .unset] []))
      exact join 1 (by decide)
    ·
      show own_Gl p e below _ (s₁.setTop (mkF m 6 #[.val (.int i0), .val (.int (i0 &&& (2147483647 : Int32))), .unset, .unset, .unset] [(.int (i0 &&& (2147483647 : Int32)))]))
      refine own_st (fun tg_ kg_ => XS.ifYes X0.here hx rfl (pc0 := 6) (pc' := 11) rfl (hb hby at_6) rfl ((if0 _ _).trans (feq (hz)).2) (by decide) (by decide) kg_) ?_
      show own_Gl p e below _ (s₁.setTop (mkF m 11 #[.val (.int i0), .val (.int (i0 &&& (2147483647 : Int32))), .unset, .unset, .unset] []))
      exact join _ (own_s1 hz)
  intro sv hone
  show own_Gl p e below _ (s₁.setTop (mkF m 11 #[.val (.int i0), .val (.int sv), .unset, .unset, .unset] []))
  refine own_st (fun tg_ kg_ => XS.iloadN X0.here hx rfl (hb hby at_11) rfl kg_) ?_
  show own_Gl p e below _ (s₁.setTop (mkF m 12 #[.val (.int i0), .val (.int sv), .unset, .unset, .unset] [(.int sv)]))
  obtain ⟨_, _, ⟨T1, L1, k1, n1⟩, -, X1, ⟨Lc1, hQ1, l1, y1, z1⟩, st1⟩ := Jvm.LawKit.callS X0 hx (y := (⟨"org/samehood/calls/CallLimit", "of", "(I)Lorg/samehood/calls/CallLimit;"⟩ : MethodName)) hown (mvT hZ (hw _ (List.mem_of_getElem? (i := 1) rfl))) (mvT hZ (hw _ (List.mem_of_getElem? (i := 2) rfl))) (mvT hZ (hw _ (List.mem_of_getElem? (i := 3) rfl))) (mvT hZ (hw _ (List.mem_of_getElem? (i := 4) rfl))) (by decide) (backOf (W := 0) (own_rm_of l Z a0 hw [] sv h0 n0 Z0 hone) hZ (hw _ (List.mem_of_getElem? (i := 4) rfl)) (hw _ (List.mem_of_getElem? (i := 3) rfl)) (by decide) (by decide)) (g := (mkF m 12 #[.val (.int i0), .val (.int sv), .unset, .unset, .unset] [(.int sv)])) rfl (by rw [hml]; rfl) (argsL := [(.int sv)]) (rest := []) (lenOf own_pd27 rfl) rfl (by show 2 * 0 + _ ≤ _; exact Nat.le_of_eq rfl) (hb hby at_12) (fun _ _ => ⟨rfl, e0, (by decide : 0 + 1 ≤ _), (by decide : 0 + 1 ≤ _)⟩)
  dsimp only [Pt.U, Pt.locs, Pt.cells, Pt.slots] at X1 l1 y1 z1 st1 hQ1
  obtain rfl : k1 = 1 := y1
  obtain rfl : n1 = 1 := z1
  obtain ⟨⟨a, rfl, szc1, E_a, F_s⟩, N1q, Kc1⟩ := hQ1
  have N1 : Fr n0 L1 := by rw [l1]; exact Fr.app N0 N1q
  try clear l1
  refine own_st st1 ?_
  have ne_o1_a : o1 ≠ a := Nat.ne_of_lt (Nat.lt_of_lt_of_le V_1.lt szc1)
  have ne_o2_a : o2 ≠ a := Nat.ne_of_lt (Nat.lt_of_lt_of_le V_2.lt szc1)
  have ne_tu_a : tu ≠ a := Nat.ne_of_lt (Nat.lt_of_lt_of_le E_t.lt szc1)
  have sz_a : h0.size ≤ a := szc1
  have g_a : n0 ≤ a := Nat.le_trans Z0 sz_a
  have sf_a : Safe Z own_EL s.vm h0 a := Safe.new szc1
  have sf_a := Safe.ext Kc1 C0.1 sf_a
  have C2 := C0.trans (CHr.ext Kc1 C0.1)
  show own_Gl p e below _ (T1.setTop (mkF m 15 #[.val (.int i0), .val (.int sv), .unset, .unset, .unset] [(.ref a)]))
  try clear st1
  try clear N1q
  refine own_st (fun tg_ kg_ => XS.astoreN X1.here hx rfl (hb hby at_15) rfl rfl (l' := #[.val (.int i0), .val (.int sv), .val (.ref a), .unset, .unset]) rfl kg_) ?_
  show own_Gl p e below _ (T1.setTop (mkF m 16 #[.val (.int i0), .val (.int sv), .val (.ref a), .unset, .unset] []))
  refine own_st (fun tg_ kg_ => XS.aloadN X1.here hx rfl (hb hby at_16) rfl rfl kg_) ?_
  show own_Gl p e below _ (T1.setTop (mkF m 17 #[.val (.int i0), .val (.int sv), .val (.ref a), .unset, .unset] [(.ref a)]))
  refine own_st (fun tg_ kg_ => XT.nonnullYes X1.here hx rfl (pc0 := 17) (pc' := 22) rfl (hb hby at_17) rfl rfl nofun (by decide) (by decide) kg_) ?_
  show own_Gl p e below _ (T1.setTop (mkF m 22 #[.val (.int i0), .val (.int sv), .val (.ref a), .unset, .unset] []))
  refine own_st (fun tg_ kg_ => XS.aloadN X1.here hx rfl (hb hby at_22) rfl rfl kg_) ?_
  show own_Gl p e below _ (T1.setTop (mkF m 23 #[.val (.int i0), .val (.int sv), .val (.ref a), .unset, .unset] [(.ref a)]))
  obtain ⟨cq4, kq4, q4a, q4b, q4c⟩ := isOf hZ rfl E_a
  obtain ⟨_, _, ⟨T4, L4, k4, n4⟩, -, X4, ⟨Lc4, hQ4, l4, y4, z4⟩, st4⟩ := X1.virtualBack hx (y := (⟨"org/samehood/calls/CallLimit", "nanos", "()J"⟩ : MethodName)) (z := (⟨"org/samehood/calls/CallLimit", "nanos", "()J"⟩ : MethodName)) hown (mvT hZ (hw _ (List.mem_of_getElem? (i := 15) rfl))) (mvT hZ (hw _ (List.mem_of_getElem? (i := 16) rfl))) (notFace_of_selects (args := #[]) (mvT hZ (hw _ (List.mem_of_getElem? (i := 18) rfl)))) (mvT hZ (hw _ (List.mem_of_getElem? (i := 18) rfl))) (mvT hZ (hw _ (List.mem_of_getElem? (i := 17) rfl))) (by decide) (backOf (W := 0) (own_rm_nan l Z a0 hw [] a tu sv T1.heap n0 (Nat.le_trans Z0 Kc1.1) (S_T.ext Kc1) (E_t.ext Kc1) (F_1.ext Kc1) (F_2.ext Kc1) F_s) hZ (hw _ (List.mem_of_getElem? (i := 19) rfl)) (hw _ (List.mem_of_getElem? (i := 3) rfl)) (by decide) (by decide)) q4a q4c (g := (mkF m 23 #[.val (.int i0), .val (.int sv), .val (.ref a), .unset, .unset] [(.ref a)])) rfl (by rw [hml]; rfl) (Steps.refl _) (argsL := []) (rest := []) (lenOf own_pd28 rfl) rfl (by show 2 * 0 + _ ≤ _; exact Nat.le_of_eq rfl) (hb hby at_23) (fun _ _ => ⟨rfl, rfl, (by decide : 1 + 0 ≤ _), (by decide : 1 + 0 ≤ _)⟩)
  dsimp only [Pt.U, Pt.locs, Pt.cells, Pt.slots] at X4 l4 y4 z4 st4 hQ4
  obtain rfl : k4 = 1 := y4
  obtain rfl : n4 = 1 := z4
  obtain ⟨rfl, N4q, e4⟩ := hQ4
  have N4 : Fr n0 L4 := by rw [l4]; exact Fr.app N1 N4q
  try clear l4
  refine own_tr st4 ?_
  show own_Gl p e below _ (T4.setTop (mkF m 26 #[.val (.int i0), .val (.int sv), .val (.ref a), .unset, .unset] [(.long (sv.toInt64 * (1000000000 : Int64)))]))
  try clear st4
  try clear N4q
  try clear N1
  try clear X1
  refine own_st (fun tg_ kg_ => XS.iloadN X4.here hx rfl (hb hby at_26) rfl kg_) ?_
  show own_Gl p e below _ (T4.setTop (mkF m 27 #[.val (.int i0), .val (.int sv), .val (.ref a), .unset, .unset] [(.int sv), (.long (sv.toInt64 * (1000000000 : Int64)))]))
  refine own_st (fun tg_ kg_ => XS.i2l X4.here hx rfl (hb hby at_27) rfl kg_) ?_
  show own_Gl p e below _ (T4.setTop (mkF m 28 #[.val (.int i0), .val (.int sv), .val (.ref a), .unset, .unset] [(.long (sv.toInt64)), (.long (sv.toInt64 * (1000000000 : Int64)))]))
  refine own_st (fun tg_ kg_ => X4.ldc2Long hx hown (mvT hZ (hw _ (List.mem_of_getElem? (i := 31) rfl))) (g := (mkF m 28 #[.val (.int i0), .val (.int sv), .val (.ref a), .unset, .unset] [(.long (sv.toInt64)), (.long (sv.toInt64 * (1000000000 : Int64)))])) rfl (hb hby at_28) _ kg_) ?_
  show own_Gl p e below _ (T4.setTop (mkF m 31 #[.val (.int i0), .val (.int sv), .val (.ref a), .unset, .unset] [(.long (1000000000 : Int64)), (.long (sv.toInt64)), (.long (sv.toInt64 * (1000000000 : Int64)))]))
  refine own_st (fun tg_ kg_ => XS.lmul X4.here hx rfl (hb hby at_31) rfl kg_) ?_
  show own_Gl p e below _ (T4.setTop (mkF m 32 #[.val (.int i0), .val (.int sv), .val (.ref a), .unset, .unset] [(.long ((sv.toInt64) * (1000000000 : Int64))), (.long (sv.toInt64 * (1000000000 : Int64)))]))
  refine own_st (fun tg_ kg_ => XS.lcmp X4.here hx rfl (hb hby at_32) rfl kg_) ?_
  show own_Gl p e below _ (T4.setTop (mkF m 33 #[.val (.int i0), .val (.int sv), .val (.ref a), .unset, .unset] [(.int (lcmpW (sv.toInt64 * (1000000000 : Int64)) ((sv.toInt64) * (1000000000 : Int64))))]))
  refine own_st (fun tg_ kg_ => XS.ifYes X4.here hx rfl (pc0 := 33) (pc' := 38) rfl (hb hby at_33) rfl ((if0 _ _).trans (teq ((lw_eq _ _).mpr rfl)).1) (by decide) (by decide) kg_) ?_
  show own_Gl p e below _ (T4.setTop (mkF m 38 #[.val (.int i0), .val (.int sv), .val (.ref a), .unset, .unset] []))
  refine own_st (fun tg_ kg_ => XS.aloadN X4.here hx rfl (hb hby at_38) rfl rfl kg_) ?_
  show own_Gl p e below _ (T4.setTop (mkF m 39 #[.val (.int i0), .val (.int sv), .val (.ref a), .unset, .unset] [(.ref a)]))
  have lt5 : a < T1.heap.size := E_a.lt
  obtain ⟨cq6, kq6, q6a, q6b, q6c⟩ := isOf hZ e4 E_a
  obtain ⟨_, _, ⟨T6, L6, k6, n6⟩, -, X6, hS6, hg6, ⟨Lc6, hQ6, l6, y6, z6, CC6⟩, st6⟩ := X4.virtualBackS hx (y := (⟨"org/samehood/calls/CallLimit", "toString", "()Ljava/lang/String;"⟩ : MethodName)) (z := (⟨"org/samehood/calls/CallLimit", "toString", "()Ljava/lang/String;"⟩ : MethodName)) hown (mvT hZ (hw _ (List.mem_of_getElem? (i := 32) rfl))) (mvT hZ (hw _ (List.mem_of_getElem? (i := 33) rfl))) (notFace_of_selects (args := #[]) (mvT hZ (hw _ (List.mem_of_getElem? (i := 35) rfl)))) (mvT hZ (hw _ (List.mem_of_getElem? (i := 35) rfl))) (mvT hZ (hw _ (List.mem_of_getElem? (i := 34) rfl))) (by decide) (backOfSH (W := 0) (own_rm_cts l Z a0 hw [] a sv zc o1 o2 k1 k2 K2 T1.heap n0 (Nat.le_trans Z0 Kc1.1) (S_C.ext Kc1) hzc hone (S_1.ext Kc1) (S_2.ext Kc1) (V_1.ext Kc1) (V_2.ext Kc1) F_s) hZ (hw _ (List.mem_of_getElem? (i := 36) rfl)) (hw _ (List.mem_of_getElem? (i := 3) rfl)) (by decide) (by decide) hEL C2.1) q6a q6c (g := (mkF m 39 #[.val (.int i0), .val (.int sv), .val (.ref a), .unset, .unset] [(.ref a)])) rfl (by rw [hml]; rfl) (Steps.refl _) (argsL := []) (rest := []) (lenOf own_pd22 rfl) rfl (by show 2 * 0 + _ ≤ _; exact Nat.le_of_eq rfl) (hb hby at_39) (fun _ _ => ⟨rfl, e4, (by decide : 1 + 7 ≤ _), (by decide : 1 + 128 ≤ _)⟩)
  dsimp only [Pt.U, Pt.locs, Pt.cells, Pt.slots] at X6 hS6 hg6 l6 y6 z6 st6 hQ6 CC6
  obtain rfl : k6 = 8 := y6
  obtain rfl : n6 = 129 := z6
  obtain ⟨⟨x, rfl, szc6, E_x, hxs⟩, N6q, Kc6⟩ := hQ6
  have N6 : Fr n0 L6 := by rw [l6]; exact Fr.app N4 N6q
  try clear l6
  obtain ⟨X6, hSb6, hZ, hown⟩ := rebS hS0 (by rw [e4]; exact (Nat.zero_le _)) X6 hS6 hg6 hZ hown
  have hk := Nat.le_refl T6.heap.size
  refine own_tr st6 ?_
  have ne_o1_x : o1 ≠ x := Nat.ne_of_lt (Nat.lt_of_lt_of_le (V_1.ext Kc1).lt szc6)
  have ne_o2_x : o2 ≠ x := Nat.ne_of_lt (Nat.lt_of_lt_of_le (V_2.ext Kc1).lt szc6)
  have ne_tu_x : tu ≠ x := Nat.ne_of_lt (Nat.lt_of_lt_of_le (E_t.ext Kc1).lt szc6)
  have ne_a_x : a ≠ x := Nat.ne_of_lt (Nat.lt_of_lt_of_le E_a.lt szc6)
  have sz_x : h0.size ≤ x := Nat.le_trans Kc1.1 szc6
  have g_x : n0 ≤ x := Nat.le_trans Z0 sz_x
  replace E_a := E_a.ext Kc6
  replace F_s := F_s.ext Kc6
  have K7 := own_ext_tr Kc1 Kc6
  try clear Kc6
  try clear Kc1
  have sf_a := CHr.safe CC6 lt5 sf_a
  have C6 := C2.trans CC6
  show own_Gl p e below _ (T6.setTop (mkF m 42 #[.val (.int i0), .val (.int sv), .val (.ref a), .unset, .unset] [(.ref x)]))
  rcases hxs with ⟨hs1, u, ku, R, dn, F_v, F_c, hD, V_u, hT⟩ | ⟨hs1, u, ku, R, dn, F_v, F_c, hD, V_u, hT⟩
  ·
    subst hs1
    obtain rfl : dn = 1 := own_D_uniq hD (Or.inl ⟨rfl, by decide, by decide⟩)
    have V_u : Arv Z T6.heap u ku .byte (8 : Int32) R (.int 0) := V_u
    show own_Gl p e below _ (T6.setTop (mkF m 42 #[.val (.int i0), .val (.int (1 : Int32)), .val (.ref a), .unset, .unset] [(.ref x)]))
    refine own_st (fun tg_ kg_ => XS.astoreN X6.here hx rfl (hb hby at_42) rfl rfl (l' := #[.val (.int i0), .val (.int (1 : Int32)), .val (.ref a), .val (.ref x), .unset]) rfl kg_) ?_
    show own_Gl p e below _ (T6.setTop (mkF m 43 #[.val (.int i0), .val (.int (1 : Int32)), .val (.ref a), .val (.ref x), .unset] []))
    refine own_st (fun tg_ kg_ => XS.iloadN X6.here hx rfl (hb hby at_43) rfl kg_) ?_
    show own_Gl p e below _ (T6.setTop (mkF m 44 #[.val (.int i0), .val (.int (1 : Int32)), .val (.ref a), .val (.ref x), .unset] [(.int (1 : Int32))]))
    refine own_st (fun tg_ kg_ => XS.iconst X6.here hx rfl (hb hby at_44) kg_) ?_
    show own_Gl p e below _ (T6.setTop (mkF m 45 #[.val (.int i0), .val (.int (1 : Int32)), .val (.ref a), .val (.ref x), .unset] [(.int (1 : Int32)), (.int (1 : Int32))]))
    refine own_st (fun tg_ kg_ => XS.icmpNo X6.here hx rfl (hb hby at_45) rfl (teq (rfl)).2 kg_) ?_
    show own_Gl p e below _ (T6.setTop (mkF m 48 #[.val (.int i0), .val (.int (1 : Int32)), .val (.ref a), .val (.ref x), .unset] []))
    refine own_st (fun tg_ kg_ => XS.aloadN X6.here hx rfl (hb hby at_48) rfl rfl kg_) ?_
    show own_Gl p e below _ (T6.setTop (mkF m 49 #[.val (.int i0), .val (.int (1 : Int32)), .val (.ref a), .val (.ref x), .unset] [(.ref x)]))
    have lt9 : a < T6.heap.size := E_a.lt
    obtain ⟨lit, T8, h8, k8, lit_b, lit_k, X8, e8, E8, hSb8, hk8, hZ, hown, E_lit, Fc_lit, Fv_lit, V_lit_b, -, -, CC8, -, nl8, st8⟩ := ldcCH X6 hx hZ hown (text := "1 second") (hw _ (List.mem_of_getElem? (i := 178) rfl)) (own_wS hw) rfl hSb6 hk hEL (by decide) C6.1 (vs := [(.int 49), (.int 32), (.int 115), (.int 101), (.int 99), (.int 111), (.int 110), (.int 100)]) (z := (8 : Int32)) ⟨by decide, by decide⟩ (by decide) rfl (g := (mkF m 49 #[.val (.int i0), .val (.int (1 : Int32)), .val (.ref a), .val (.ref x), .unset] [(.ref x)])) rfl (hb hby at_49) (n := 32) (by decide) (by decide) (by decide) (by decide)
    have hk := hk8
    replace E_a := E_a.ext E8
    replace F_s := F_s.ext E8
    replace E_x := E_x.ext E8
    replace F_v := F_v.ext E8
    replace F_c := F_c.ext E8
    replace V_u := V_u.ext E8
    have K10 := own_ext_tr K7 E8
    try clear E8
    try clear K7
    have sf_a := CHr.safe CC8 lt9 sf_a
    have C8 := C6.trans CC8
    obtain ⟨ne_a_lit, ne_a_lit_b⟩ := nl8 a sf_a
    refine own_st st8 ?_
    try clear st8
    try clear X6
    try clear T6
    show own_Gl p e below _ (T8.setTop (mkF m 51 #[.val (.int i0), .val (.int (1 : Int32)), .val (.ref a), .val (.ref x), .unset] [(.ref lit), (.ref x)]))
    obtain ⟨cq11, kq11, q11a, q11b, q11c⟩ := isOf hZ e8 E_x
    obtain ⟨_, _, ⟨T11, L11, k11, n11⟩, -, X11, ⟨Lc11, hQ11, l11, y11, z11⟩, st11⟩ := X8.virtualBack hx (y := (⟨"java/lang/String", "equals", "(Ljava/lang/Object;)Z"⟩ : MethodName)) (z := (⟨"java/lang/String", "equals", "(Ljava/lang/Object;)Z"⟩ : MethodName)) hown (mvT hZ (hw _ (List.mem_of_getElem? (i := 179) rfl))) (mvT hZ (hw _ (List.mem_of_getElem? (i := 180) rfl))) (notFace_of_selects (args := #[]) (mvT hZ (hw _ (List.mem_of_getElem? (i := 182) rfl)))) (mvT hZ (hw _ (List.mem_of_getElem? (i := 182) rfl))) (mvT hZ (hw _ (List.mem_of_getElem? (i := 181) rfl))) (by decide) (backOf (W := 0) (own_rm_eqs l Z a0 hw [] x lit zc u lit_b ku lit_k R h8 n0 (Nat.le_trans Z0 K10.1) (S_C.ext K10) hzc E_x F_c F_v E_lit Fc_lit Fv_lit V_u V_lit_b (own_eq8 hT)) hZ (hw _ (List.mem_of_getElem? (i := 183) rfl)) (hw _ (List.mem_of_getElem? (i := 51) rfl)) (by decide) (by decide)) q11a q11c (g := (mkF m 51 #[.val (.int i0), .val (.int (1 : Int32)), .val (.ref a), .val (.ref x), .unset] [(.ref lit), (.ref x)])) rfl (by rw [hml]; rfl) (Steps.refl _) (argsL := [(.ref lit)]) (rest := []) (lenOf own_pd29 rfl) rfl (by show 2 * 0 + _ ≤ _; exact Nat.le_of_eq rfl) (hb hby at_51) (fun _ _ => ⟨rfl, e8, (by decide : 10 + 0 ≤ _), (by decide : 165 + 0 ≤ _)⟩)
    dsimp only [Pt.U, Pt.locs, Pt.cells, Pt.slots] at X11 l11 y11 z11 st11 hQ11
    obtain rfl : k11 = 10 := y11
    obtain rfl : n11 = 165 := z11
    obtain ⟨rfl, N11q, e11⟩ := hQ11
    have N11 : Fr n0 L11 := by rw [l11]; exact Fr.app N6 N11q
    try clear l11
    refine own_tr st11 ?_
    show own_Gl p e below _ (T11.setTop (mkF m 54 #[.val (.int i0), .val (.int (1 : Int32)), .val (.ref a), .val (.ref x), .unset] [(.int (1 : Int32))]))
    try clear st11
    try clear N11q
    try clear N6
    try clear e8
    try clear X8
    try clear T8
    exact own_wlretN X11 hx Bd.notSynchronized (t := .boolean) Bd.returns (by simp) (hb hby at_54) (by decide) (by decide) e11 hSb8 hk (⟨rfl, N11⟩)
  ·
    have hle := own_D_le hD
    show own_Gl p e below _ (T6.setTop (mkF m 42 #[.val (.int i0), .val (.int sv), .val (.ref a), .unset, .unset] [(.ref x)]))
    refine own_st (fun tg_ kg_ => XS.astoreN X6.here hx rfl (hb hby at_42) rfl rfl (l' := #[.val (.int i0), .val (.int sv), .val (.ref a), .val (.ref x), .unset]) rfl kg_) ?_
    show own_Gl p e below _ (T6.setTop (mkF m 43 #[.val (.int i0), .val (.int sv), .val (.ref a), .val (.ref x), .unset] []))
    refine own_st (fun tg_ kg_ => XS.iloadN X6.here hx rfl (hb hby at_43) rfl kg_) ?_
    show own_Gl p e below _ (T6.setTop (mkF m 44 #[.val (.int i0), .val (.int sv), .val (.ref a), .val (.ref x), .unset] [(.int sv)]))
    refine own_st (fun tg_ kg_ => XS.iconst X6.here hx rfl (hb hby at_44) kg_) ?_
    show own_Gl p e below _ (T6.setTop (mkF m 45 #[.val (.int i0), .val (.int sv), .val (.ref a), .val (.ref x), .unset] [(.int (1 : Int32)), (.int sv)]))
    refine own_st (fun tg_ kg_ => XS.icmpYes X6.here hx rfl (pc0 := 45) (pc' := 55) rfl (hb hby at_45) rfl (feq (hs1)).2 (by decide) (by decide) kg_) ?_
    show own_Gl p e below _ (T6.setTop (mkF m 55 #[.val (.int i0), .val (.int sv), .val (.ref a), .val (.ref x), .unset] []))
    refine own_st (fun tg_ kg_ => XS.iloadN X6.here hx rfl (hb hby at_55) rfl kg_) ?_
    show own_Gl p e below _ (T6.setTop (mkF m 56 #[.val (.int i0), .val (.int sv), .val (.ref a), .val (.ref x), .unset] [(.int sv)]))
    obtain ⟨_, _, ⟨T12, L12, k12, n12⟩, -, X12, ⟨Lc12, hQ12, l12, y12, z12⟩, st12⟩ := Jvm.LawKit.callS X6 hx (y := (⟨"org/samehood/calls/CallLimitOfPinLaw", "digits", "(I)I"⟩ : MethodName)) hown (mvT hZ (hw _ (List.mem_of_getElem? (i := 190) rfl))) (mvT hZ (hw _ (List.mem_of_getElem? (i := 191) rfl))) (mvT hZ (hw _ (List.mem_of_getElem? (i := 192) rfl))) (mvT hZ (hw _ (List.mem_of_getElem? (i := 193) rfl))) (by decide) (backOf (W := 0) (own_rm_dig l Z a0 hw [] sv T6.heap n0 (Nat.le_trans Z0 K7.1) hone) hZ (hw _ (List.mem_of_getElem? (i := 193) rfl)) (hw _ (List.mem_of_getElem? (i := 192) rfl)) (by decide) (by decide)) (g := (mkF m 56 #[.val (.int i0), .val (.int sv), .val (.ref a), .val (.ref x), .unset] [(.int sv)])) rfl (by rw [hml]; rfl) (argsL := [(.int sv)]) (rest := []) (lenOf own_pd2 rfl) rfl (by show 2 * 0 + _ ≤ _; exact Nat.le_of_eq rfl) (hb hby at_56) (fun _ _ => ⟨rfl, rfl, (by decide : 8 + 0 ≤ _), (by decide : 129 + 0 ≤ _)⟩)
    dsimp only [Pt.U, Pt.locs, Pt.cells, Pt.slots] at X12 l12 y12 z12 st12 hQ12
    obtain rfl : k12 = 8 := y12
    obtain rfl : n12 = 129 := z12
    obtain ⟨⟨dm, rfl, hDm⟩, N12q, e12⟩ := hQ12
    have N12 : Fr n0 L12 := by rw [l12]; exact Fr.app N6 N12q
    try clear l12
    refine own_st st12 ?_
    show own_Gl p e below _ (T12.setTop (mkF m 59 #[.val (.int i0), .val (.int sv), .val (.ref a), .val (.ref x), .unset] [(.int (Int32.ofNat dm))]))
    try clear st12
    try clear N12q
    try clear N6
    try clear X6
    obtain rfl : dm = dn := own_D_uniq hDm hD
    refine own_st (fun tg_ kg_ => XS.istore X12.here hx rfl (hb hby at_59) rfl (l' := #[.val (.int i0), .val (.int sv), .val (.ref a), .val (.ref x), .val (.int (Int32.ofNat dm))]) rfl kg_) ?_
    show own_Gl p e below _ (T12.setTop (mkF m 61 #[.val (.int i0), .val (.int sv), .val (.ref a), .val (.ref x), .val (.int (Int32.ofNat dm))] []))
    refine own_st (fun tg_ kg_ => XS.aloadN X12.here hx rfl (hb hby at_61) rfl rfl kg_) ?_
    show own_Gl p e below _ (T12.setTop (mkF m 62 #[.val (.int i0), .val (.int sv), .val (.ref a), .val (.ref x), .val (.int (Int32.ofNat dm))] [(.ref x)]))
    obtain ⟨cq13, kq13, q13a, q13b, q13c⟩ := isOf hZ e12 E_x
    obtain ⟨_, _, ⟨T13, L13, k13, n13⟩, -, X13, ⟨Lc13, hQ13, l13, y13, z13⟩, st13⟩ := X12.virtualBack hx (y := (⟨"java/lang/String", "length", "()I"⟩ : MethodName)) (z := (⟨"java/lang/String", "length", "()I"⟩ : MethodName)) hown (mvT hZ (hw _ (List.mem_of_getElem? (i := 194) rfl))) (mvT hZ (hw _ (List.mem_of_getElem? (i := 103) rfl))) (notFace_of_selects (args := #[]) (mvT hZ (hw _ (List.mem_of_getElem? (i := 105) rfl)))) (mvT hZ (hw _ (List.mem_of_getElem? (i := 105) rfl))) (mvT hZ (hw _ (List.mem_of_getElem? (i := 104) rfl))) (by decide) (backOf (W := 0) (own_rm_len l Z a0 hw [] x u ku (dm + own_B.length) R zc T6.heap n0 (Nat.le_trans Z0 K7.1) (S_C.ext K7) hzc E_x F_c F_v V_u (by show dm + 8 ≤ 34; omega)) hZ (hw _ (List.mem_of_getElem? (i := 106) rfl)) (hw _ (List.mem_of_getElem? (i := 51) rfl)) (by decide) (by decide)) q13a q13c (g := (mkF m 62 #[.val (.int i0), .val (.int sv), .val (.ref a), .val (.ref x), .val (.int (Int32.ofNat dm))] [(.ref x)])) rfl (by rw [hml]; rfl) (Steps.refl _) (argsL := []) (rest := []) (lenOf own_pd4 rfl) rfl (by show 2 * 0 + _ ≤ _; exact Nat.le_of_eq rfl) (hb hby at_62) (fun _ _ => ⟨rfl, e12, (by decide : 8 + 0 ≤ _), (by decide : 129 + 0 ≤ _)⟩)
    dsimp only [Pt.U, Pt.locs, Pt.cells, Pt.slots] at X13 l13 y13 z13 st13 hQ13
    obtain rfl : k13 = 8 := y13
    obtain rfl : n13 = 129 := z13
    obtain ⟨rfl, N13q, e13⟩ := hQ13
    have N13 : Fr n0 L13 := by rw [l13]; exact Fr.app N12 N13q
    try clear l13
    refine own_tr st13 ?_
    show own_Gl p e below _ (T13.setTop (mkF m 65 #[.val (.int i0), .val (.int sv), .val (.ref a), .val (.ref x), .val (.int (Int32.ofNat dm))] [(.int (Int32.ofNat (dm + own_B.length)))]))
    try clear st13
    try clear N13q
    try clear N12
    try clear e12
    try clear X12
    try clear T12
    refine own_st (fun tg_ kg_ => XS.iload X13.here hx rfl (hb hby at_65) rfl kg_) ?_
    show own_Gl p e below _ (T13.setTop (mkF m 67 #[.val (.int i0), .val (.int sv), .val (.ref a), .val (.ref x), .val (.int (Int32.ofNat dm))] [(.int (Int32.ofNat dm)), (.int (Int32.ofNat (dm + own_B.length)))]))
    refine own_st (fun tg_ kg_ => XS.bipush X13.here hx rfl (hb hby at_67) kg_) ?_
    show own_Gl p e below _ (T13.setTop (mkF m 69 #[.val (.int i0), .val (.int sv), .val (.ref a), .val (.ref x), .val (.int (Int32.ofNat dm))] [(.int (8 : Int32)), (.int (Int32.ofNat dm)), (.int (Int32.ofNat (dm + own_B.length)))]))
    refine own_st (fun tg_ kg_ => XS.iadd X13.here hx rfl (hb hby at_69) rfl kg_) ?_
    show own_Gl p e below _ (T13.setTop (mkF m 70 #[.val (.int i0), .val (.int sv), .val (.ref a), .val (.ref x), .val (.int (Int32.ofNat dm))] [(.int ((Int32.ofNat dm) + (8 : Int32))), (.int (Int32.ofNat (dm + own_B.length)))]))
    refine own_st (fun tg_ kg_ => XS.icmpYes X13.here hx rfl (pc0 := 70) (pc' := 75) rfl (hb hby at_70) rfl (teq ((own_ofn_add dm 8).symm)).1 (by decide) (by decide) kg_) ?_
    show own_Gl p e below _ (T13.setTop (mkF m 75 #[.val (.int i0), .val (.int sv), .val (.ref a), .val (.ref x), .val (.int (Int32.ofNat dm))] []))
    refine own_st (fun tg_ kg_ => XS.aloadN X13.here hx rfl (hb hby at_75) rfl rfl kg_) ?_
    show own_Gl p e below _ (T13.setTop (mkF m 76 #[.val (.int i0), .val (.int sv), .val (.ref a), .val (.ref x), .val (.int (Int32.ofNat dm))] [(.ref x)]))
    refine own_st (fun tg_ kg_ => XS.iload X13.here hx rfl (hb hby at_76) rfl kg_) ?_
    show own_Gl p e below _ (T13.setTop (mkF m 78 #[.val (.int i0), .val (.int sv), .val (.ref a), .val (.ref x), .val (.int (Int32.ofNat dm))] [(.int (Int32.ofNat dm)), (.ref x)]))
    refine own_st (fun tg_ kg_ => XS.iconst X13.here hx rfl (hb hby at_78) kg_) ?_
    show own_Gl p e below _ (T13.setTop (mkF m 79 #[.val (.int i0), .val (.int sv), .val (.ref a), .val (.ref x), .val (.int (Int32.ofNat dm))] [(.int (1 : Int32)), (.int (Int32.ofNat dm)), (.ref x)]))
    refine own_st (fun tg_ kg_ => XS.isub X13.here hx rfl (hb hby at_79) rfl kg_) ?_
    show own_Gl p e below _ (T13.setTop (mkF m 80 #[.val (.int i0), .val (.int sv), .val (.ref a), .val (.ref x), .val (.int (Int32.ofNat dm))] [(.int ((Int32.ofNat dm) - (1 : Int32))), (.ref x)]))
    have hix : ((Int32.ofNat dm) - (1 : Int32)) = Int32.ofNat (dm - 1) := own_pred' (by omega) (by omega)
    rw [hix]
    clear hix
    show own_Gl p e below _ (T13.setTop (mkF m 80 #[.val (.int i0), .val (.int sv), .val (.ref a), .val (.ref x), .val (.int (Int32.ofNat dm))] [(.int (Int32.ofNat (dm - 1))), (.ref x)]))
    obtain ⟨cq14, kq14, q14a, q14b, q14c⟩ := isOf hZ e13 E_x
    obtain ⟨_, _, ⟨T14, L14, k14, n14⟩, -, X14, ⟨Lc14, hQ14, l14, y14, z14⟩, st14⟩ := X13.virtualBack hx (y := (⟨"java/lang/String", "charAt", "(I)C"⟩ : MethodName)) (z := (⟨"java/lang/String", "charAt", "(I)C"⟩ : MethodName)) hown (mvT hZ (hw _ (List.mem_of_getElem? (i := 195) rfl))) (mvT hZ (hw _ (List.mem_of_getElem? (i := 196) rfl))) (notFace_of_selects (args := #[]) (mvT hZ (hw _ (List.mem_of_getElem? (i := 198) rfl)))) (mvT hZ (hw _ (List.mem_of_getElem? (i := 198) rfl))) (mvT hZ (hw _ (List.mem_of_getElem? (i := 197) rfl))) (by decide) (backOf (W := 0) (own_rm_sca l Z a0 hw [] x u ku (dm - 1) (dm + own_B.length) R (own_dg sv) zc vf T6.heap n0 (Nat.le_trans Z0 K7.1) (S_C.ext K7) hzc (S_F.ext K7) hvf E_x F_c F_v V_u (by show _ < dm + 8; omega) (by show dm + 8 ≤ 34; omega) hT.1 (own_dg_r sv)) hZ (hw _ (List.mem_of_getElem? (i := 199) rfl)) (hw _ (List.mem_of_getElem? (i := 51) rfl)) (by decide) (by decide)) q14a q14c (g := (mkF m 80 #[.val (.int i0), .val (.int sv), .val (.ref a), .val (.ref x), .val (.int (Int32.ofNat dm))] [(.int (Int32.ofNat (dm - 1))), (.ref x)])) rfl (by rw [hml]; rfl) (Steps.refl _) (argsL := [(.int (Int32.ofNat (dm - 1)))]) (rest := []) (lenOf own_pd30 rfl) rfl (by show 2 * 0 + _ ≤ _; exact Nat.le_of_eq rfl) (hb hby at_80) (fun _ _ => ⟨rfl, e13, (by decide : 8 + 0 ≤ _), (by decide : 129 + 0 ≤ _)⟩)
    dsimp only [Pt.U, Pt.locs, Pt.cells, Pt.slots] at X14 l14 y14 z14 st14 hQ14
    obtain rfl : k14 = 8 := y14
    obtain rfl : n14 = 129 := z14
    obtain ⟨rfl, N14q, e14⟩ := hQ14
    have N14 : Fr n0 L14 := by rw [l14]; exact Fr.app N13 N14q
    try clear l14
    refine own_tr st14 ?_
    show own_Gl p e below _ (T14.setTop (mkF m 83 #[.val (.int i0), .val (.int sv), .val (.ref a), .val (.ref x), .val (.int (Int32.ofNat dm))] [(.int (own_dg sv))]))
    try clear st14
    try clear N14q
    try clear N13
    try clear e13
    try clear X13
    try clear T13
    refine own_st (fun tg_ kg_ => XS.bipush X14.here hx rfl (hb hby at_83) kg_) ?_
    show own_Gl p e below _ (T14.setTop (mkF m 85 #[.val (.int i0), .val (.int sv), .val (.ref a), .val (.ref x), .val (.int (Int32.ofNat dm))] [(.int (48 : Int32)), (.int (own_dg sv))]))
    refine own_st (fun tg_ kg_ => XS.iloadN X14.here hx rfl (hb hby at_85) rfl kg_) ?_
    show own_Gl p e below _ (T14.setTop (mkF m 86 #[.val (.int i0), .val (.int sv), .val (.ref a), .val (.ref x), .val (.int (Int32.ofNat dm))] [(.int sv), (.int (48 : Int32)), (.int (own_dg sv))]))
    refine own_st (fun tg_ kg_ => XS.bipush X14.here hx rfl (hb hby at_86) kg_) ?_
    show own_Gl p e below _ (T14.setTop (mkF m 88 #[.val (.int i0), .val (.int sv), .val (.ref a), .val (.ref x), .val (.int (Int32.ofNat dm))] [(.int (10 : Int32)), (.int sv), (.int (48 : Int32)), (.int (own_dg sv))]))
    refine own_st (fun tg_ kg_ => iremM X14 hx (g := (mkF m 88 #[.val (.int i0), .val (.int sv), .val (.ref a), .val (.ref x), .val (.int (Int32.ofNat dm))] [(.int (10 : Int32)), (.int sv), (.int (48 : Int32)), (.int (own_dg sv))])) rfl (hb hby at_88) rfl (by decide) kg_) ?_
    show own_Gl p e below _ (T14.setTop (mkF m 89 #[.val (.int i0), .val (.int sv), .val (.ref a), .val (.ref x), .val (.int (Int32.ofNat dm))] [(.int (sv % (10 : Int32))), (.int (48 : Int32)), (.int (own_dg sv))]))
    refine own_st (fun tg_ kg_ => XS.iadd X14.here hx rfl (hb hby at_89) rfl kg_) ?_
    show own_Gl p e below _ (T14.setTop (mkF m 90 #[.val (.int i0), .val (.int sv), .val (.ref a), .val (.ref x), .val (.int (Int32.ofNat dm))] [(.int ((48 : Int32) + (sv % (10 : Int32)))), (.int (own_dg sv))]))
    refine own_st (fun tg_ kg_ => XS.i2c X14.here hx rfl (hb hby at_90) rfl kg_) ?_
    show own_Gl p e below _ (T14.setTop (mkF m 91 #[.val (.int i0), .val (.int sv), .val (.ref a), .val (.ref x), .val (.int (Int32.ofNat dm))] [(.int (((48 : Int32) + (sv % (10 : Int32))).toUInt32.toUInt16.toUInt32.toInt32)), (.int (own_dg sv))]))
    refine own_st (fun tg_ kg_ => XS.icmpYes X14.here hx rfl (pc0 := 91) (pc' := 96) rfl (hb hby at_91) rfl (teq (own_dgc hone)).1 (by decide) (by decide) kg_) ?_
    show own_Gl p e below _ (T14.setTop (mkF m 96 #[.val (.int i0), .val (.int sv), .val (.ref a), .val (.ref x), .val (.int (Int32.ofNat dm))] []))
    refine own_st (fun tg_ kg_ => XS.aloadN X14.here hx rfl (hb hby at_96) rfl rfl kg_) ?_
    show own_Gl p e below _ (T14.setTop (mkF m 97 #[.val (.int i0), .val (.int sv), .val (.ref a), .val (.ref x), .val (.int (Int32.ofNat dm))] [(.ref x)]))
    refine own_st (fun tg_ kg_ => XS.iload X14.here hx rfl (hb hby at_97) rfl kg_) ?_
    show own_Gl p e below _ (T14.setTop (mkF m 99 #[.val (.int i0), .val (.int sv), .val (.ref a), .val (.ref x), .val (.int (Int32.ofNat dm))] [(.int (Int32.ofNat dm)), (.ref x)]))
    obtain ⟨cq15, kq15, q15a, q15b, q15c⟩ := isOf hZ e14 E_x
    obtain ⟨_, _, ⟨T15, L15, k15, n15⟩, -, X15, ⟨Lc15, hQ15, l15, y15, z15⟩, st15⟩ := X14.virtualBack hx (y := (⟨"java/lang/String", "charAt", "(I)C"⟩ : MethodName)) (z := (⟨"java/lang/String", "charAt", "(I)C"⟩ : MethodName)) hown (mvT hZ (hw _ (List.mem_of_getElem? (i := 195) rfl))) (mvT hZ (hw _ (List.mem_of_getElem? (i := 196) rfl))) (notFace_of_selects (args := #[]) (mvT hZ (hw _ (List.mem_of_getElem? (i := 198) rfl)))) (mvT hZ (hw _ (List.mem_of_getElem? (i := 198) rfl))) (mvT hZ (hw _ (List.mem_of_getElem? (i := 197) rfl))) (by decide) (backOf (W := 0) (own_rm_sca l Z a0 hw [] x u ku dm (dm + own_B.length) R (32 : Int32) zc vf T6.heap n0 (Nat.le_trans Z0 K7.1) (S_C.ext K7) hzc (S_F.ext K7) hvf E_x F_c F_v V_u (by show _ < dm + 8; omega) (by show dm + 8 ≤ 34; omega) (hT.2 0 (by decide)) (by decide)) hZ (hw _ (List.mem_of_getElem? (i := 199) rfl)) (hw _ (List.mem_of_getElem? (i := 51) rfl)) (by decide) (by decide)) q15a q15c (g := (mkF m 99 #[.val (.int i0), .val (.int sv), .val (.ref a), .val (.ref x), .val (.int (Int32.ofNat dm))] [(.int (Int32.ofNat dm)), (.ref x)])) rfl (by rw [hml]; rfl) (Steps.refl _) (argsL := [(.int (Int32.ofNat dm))]) (rest := []) (lenOf own_pd30 rfl) rfl (by show 2 * 0 + _ ≤ _; exact Nat.le_of_eq rfl) (hb hby at_99) (fun _ _ => ⟨rfl, e14, (by decide : 8 + 0 ≤ _), (by decide : 129 + 0 ≤ _)⟩)
    dsimp only [Pt.U, Pt.locs, Pt.cells, Pt.slots] at X15 l15 y15 z15 st15 hQ15
    obtain rfl : k15 = 8 := y15
    obtain rfl : n15 = 129 := z15
    obtain ⟨rfl, N15q, e15⟩ := hQ15
    have N15 : Fr n0 L15 := by rw [l15]; exact Fr.app N14 N15q
    try clear l15
    refine own_tr st15 ?_
    show own_Gl p e below _ (T15.setTop (mkF m 102 #[.val (.int i0), .val (.int sv), .val (.ref a), .val (.ref x), .val (.int (Int32.ofNat dm))] [(.int (32 : Int32))]))
    try clear st15
    try clear N15q
    try clear N14
    try clear e14
    try clear X14
    try clear T14
    refine own_st (fun tg_ kg_ => XS.bipush X15.here hx rfl (hb hby at_102) kg_) ?_
    show own_Gl p e below _ (T15.setTop (mkF m 104 #[.val (.int i0), .val (.int sv), .val (.ref a), .val (.ref x), .val (.int (Int32.ofNat dm))] [(.int (32 : Int32)), (.int (32 : Int32))]))
    refine own_st (fun tg_ kg_ => XS.icmpNo X15.here hx rfl (hb hby at_104) rfl (teq ((rfl : (32 : Int32) = (32 : Int32)))).2 kg_) ?_
    show own_Gl p e below _ (T15.setTop (mkF m 107 #[.val (.int i0), .val (.int sv), .val (.ref a), .val (.ref x), .val (.int (Int32.ofNat dm))] []))
    refine own_st (fun tg_ kg_ => XS.aloadN X15.here hx rfl (hb hby at_107) rfl rfl kg_) ?_
    show own_Gl p e below _ (T15.setTop (mkF m 108 #[.val (.int i0), .val (.int sv), .val (.ref a), .val (.ref x), .val (.int (Int32.ofNat dm))] [(.ref x)]))
    refine own_st (fun tg_ kg_ => XS.iload X15.here hx rfl (hb hby at_108) rfl kg_) ?_
    show own_Gl p e below _ (T15.setTop (mkF m 110 #[.val (.int i0), .val (.int sv), .val (.ref a), .val (.ref x), .val (.int (Int32.ofNat dm))] [(.int (Int32.ofNat dm)), (.ref x)]))
    refine own_st (fun tg_ kg_ => XS.iconst X15.here hx rfl (hb hby at_110) kg_) ?_
    show own_Gl p e below _ (T15.setTop (mkF m 111 #[.val (.int i0), .val (.int sv), .val (.ref a), .val (.ref x), .val (.int (Int32.ofNat dm))] [(.int (1 : Int32)), (.int (Int32.ofNat dm)), (.ref x)]))
    refine own_st (fun tg_ kg_ => XS.iadd X15.here hx rfl (hb hby at_111) rfl kg_) ?_
    show own_Gl p e below _ (T15.setTop (mkF m 112 #[.val (.int i0), .val (.int sv), .val (.ref a), .val (.ref x), .val (.int (Int32.ofNat dm))] [(.int ((Int32.ofNat dm) + (1 : Int32))), (.ref x)]))
    have hix : ((Int32.ofNat dm) + (1 : Int32)) = Int32.ofNat (dm + 1) := own_ofn_add dm 1
    rw [hix]
    clear hix
    show own_Gl p e below _ (T15.setTop (mkF m 112 #[.val (.int i0), .val (.int sv), .val (.ref a), .val (.ref x), .val (.int (Int32.ofNat dm))] [(.int (Int32.ofNat (dm + 1))), (.ref x)]))
    obtain ⟨cq16, kq16, q16a, q16b, q16c⟩ := isOf hZ e15 E_x
    obtain ⟨_, _, ⟨T16, L16, k16, n16⟩, -, X16, ⟨Lc16, hQ16, l16, y16, z16⟩, st16⟩ := X15.virtualBack hx (y := (⟨"java/lang/String", "charAt", "(I)C"⟩ : MethodName)) (z := (⟨"java/lang/String", "charAt", "(I)C"⟩ : MethodName)) hown (mvT hZ (hw _ (List.mem_of_getElem? (i := 195) rfl))) (mvT hZ (hw _ (List.mem_of_getElem? (i := 196) rfl))) (notFace_of_selects (args := #[]) (mvT hZ (hw _ (List.mem_of_getElem? (i := 198) rfl)))) (mvT hZ (hw _ (List.mem_of_getElem? (i := 198) rfl))) (mvT hZ (hw _ (List.mem_of_getElem? (i := 197) rfl))) (by decide) (backOf (W := 0) (own_rm_sca l Z a0 hw [] x u ku (dm + 1) (dm + own_B.length) R (115 : Int32) zc vf T6.heap n0 (Nat.le_trans Z0 K7.1) (S_C.ext K7) hzc (S_F.ext K7) hvf E_x F_c F_v V_u (by show _ < dm + 8; omega) (by show dm + 8 ≤ 34; omega) (hT.2 1 (by decide)) (by decide)) hZ (hw _ (List.mem_of_getElem? (i := 199) rfl)) (hw _ (List.mem_of_getElem? (i := 51) rfl)) (by decide) (by decide)) q16a q16c (g := (mkF m 112 #[.val (.int i0), .val (.int sv), .val (.ref a), .val (.ref x), .val (.int (Int32.ofNat dm))] [(.int (Int32.ofNat (dm + 1))), (.ref x)])) rfl (by rw [hml]; rfl) (Steps.refl _) (argsL := [(.int (Int32.ofNat (dm + 1)))]) (rest := []) (lenOf own_pd30 rfl) rfl (by show 2 * 0 + _ ≤ _; exact Nat.le_of_eq rfl) (hb hby at_112) (fun _ _ => ⟨rfl, e15, (by decide : 8 + 0 ≤ _), (by decide : 129 + 0 ≤ _)⟩)
    dsimp only [Pt.U, Pt.locs, Pt.cells, Pt.slots] at X16 l16 y16 z16 st16 hQ16
    obtain rfl : k16 = 8 := y16
    obtain rfl : n16 = 129 := z16
    obtain ⟨rfl, N16q, e16⟩ := hQ16
    have N16 : Fr n0 L16 := by rw [l16]; exact Fr.app N15 N16q
    try clear l16
    refine own_tr st16 ?_
    show own_Gl p e below _ (T16.setTop (mkF m 115 #[.val (.int i0), .val (.int sv), .val (.ref a), .val (.ref x), .val (.int (Int32.ofNat dm))] [(.int (115 : Int32))]))
    try clear st16
    try clear N16q
    try clear N15
    try clear e15
    try clear X15
    try clear T15
    refine own_st (fun tg_ kg_ => XS.bipush X16.here hx rfl (hb hby at_115) kg_) ?_
    show own_Gl p e below _ (T16.setTop (mkF m 117 #[.val (.int i0), .val (.int sv), .val (.ref a), .val (.ref x), .val (.int (Int32.ofNat dm))] [(.int (115 : Int32)), (.int (115 : Int32))]))
    refine own_st (fun tg_ kg_ => XS.icmpNo X16.here hx rfl (hb hby at_117) rfl (teq ((rfl : (115 : Int32) = (115 : Int32)))).2 kg_) ?_
    show own_Gl p e below _ (T16.setTop (mkF m 120 #[.val (.int i0), .val (.int sv), .val (.ref a), .val (.ref x), .val (.int (Int32.ofNat dm))] []))
    refine own_st (fun tg_ kg_ => XS.aloadN X16.here hx rfl (hb hby at_120) rfl rfl kg_) ?_
    show own_Gl p e below _ (T16.setTop (mkF m 121 #[.val (.int i0), .val (.int sv), .val (.ref a), .val (.ref x), .val (.int (Int32.ofNat dm))] [(.ref x)]))
    refine own_st (fun tg_ kg_ => XS.iload X16.here hx rfl (hb hby at_121) rfl kg_) ?_
    show own_Gl p e below _ (T16.setTop (mkF m 123 #[.val (.int i0), .val (.int sv), .val (.ref a), .val (.ref x), .val (.int (Int32.ofNat dm))] [(.int (Int32.ofNat dm)), (.ref x)]))
    refine own_st (fun tg_ kg_ => XS.iconst X16.here hx rfl (hb hby at_123) kg_) ?_
    show own_Gl p e below _ (T16.setTop (mkF m 124 #[.val (.int i0), .val (.int sv), .val (.ref a), .val (.ref x), .val (.int (Int32.ofNat dm))] [(.int (2 : Int32)), (.int (Int32.ofNat dm)), (.ref x)]))
    refine own_st (fun tg_ kg_ => XS.iadd X16.here hx rfl (hb hby at_124) rfl kg_) ?_
    show own_Gl p e below _ (T16.setTop (mkF m 125 #[.val (.int i0), .val (.int sv), .val (.ref a), .val (.ref x), .val (.int (Int32.ofNat dm))] [(.int ((Int32.ofNat dm) + (2 : Int32))), (.ref x)]))
    have hix : ((Int32.ofNat dm) + (2 : Int32)) = Int32.ofNat (dm + 2) := own_ofn_add dm 2
    rw [hix]
    clear hix
    show own_Gl p e below _ (T16.setTop (mkF m 125 #[.val (.int i0), .val (.int sv), .val (.ref a), .val (.ref x), .val (.int (Int32.ofNat dm))] [(.int (Int32.ofNat (dm + 2))), (.ref x)]))
    obtain ⟨cq17, kq17, q17a, q17b, q17c⟩ := isOf hZ e16 E_x
    obtain ⟨_, _, ⟨T17, L17, k17, n17⟩, -, X17, ⟨Lc17, hQ17, l17, y17, z17⟩, st17⟩ := X16.virtualBack hx (y := (⟨"java/lang/String", "charAt", "(I)C"⟩ : MethodName)) (z := (⟨"java/lang/String", "charAt", "(I)C"⟩ : MethodName)) hown (mvT hZ (hw _ (List.mem_of_getElem? (i := 195) rfl))) (mvT hZ (hw _ (List.mem_of_getElem? (i := 196) rfl))) (notFace_of_selects (args := #[]) (mvT hZ (hw _ (List.mem_of_getElem? (i := 198) rfl)))) (mvT hZ (hw _ (List.mem_of_getElem? (i := 198) rfl))) (mvT hZ (hw _ (List.mem_of_getElem? (i := 197) rfl))) (by decide) (backOf (W := 0) (own_rm_sca l Z a0 hw [] x u ku (dm + 2) (dm + own_B.length) R (101 : Int32) zc vf T6.heap n0 (Nat.le_trans Z0 K7.1) (S_C.ext K7) hzc (S_F.ext K7) hvf E_x F_c F_v V_u (by show _ < dm + 8; omega) (by show dm + 8 ≤ 34; omega) (hT.2 2 (by decide)) (by decide)) hZ (hw _ (List.mem_of_getElem? (i := 199) rfl)) (hw _ (List.mem_of_getElem? (i := 51) rfl)) (by decide) (by decide)) q17a q17c (g := (mkF m 125 #[.val (.int i0), .val (.int sv), .val (.ref a), .val (.ref x), .val (.int (Int32.ofNat dm))] [(.int (Int32.ofNat (dm + 2))), (.ref x)])) rfl (by rw [hml]; rfl) (Steps.refl _) (argsL := [(.int (Int32.ofNat (dm + 2)))]) (rest := []) (lenOf own_pd30 rfl) rfl (by show 2 * 0 + _ ≤ _; exact Nat.le_of_eq rfl) (hb hby at_125) (fun _ _ => ⟨rfl, e16, (by decide : 8 + 0 ≤ _), (by decide : 129 + 0 ≤ _)⟩)
    dsimp only [Pt.U, Pt.locs, Pt.cells, Pt.slots] at X17 l17 y17 z17 st17 hQ17
    obtain rfl : k17 = 8 := y17
    obtain rfl : n17 = 129 := z17
    obtain ⟨rfl, N17q, e17⟩ := hQ17
    have N17 : Fr n0 L17 := by rw [l17]; exact Fr.app N16 N17q
    try clear l17
    refine own_tr st17 ?_
    show own_Gl p e below _ (T17.setTop (mkF m 128 #[.val (.int i0), .val (.int sv), .val (.ref a), .val (.ref x), .val (.int (Int32.ofNat dm))] [(.int (101 : Int32))]))
    try clear st17
    try clear N17q
    try clear N16
    try clear e16
    try clear X16
    try clear T16
    refine own_st (fun tg_ kg_ => XS.bipush X17.here hx rfl (hb hby at_128) kg_) ?_
    show own_Gl p e below _ (T17.setTop (mkF m 130 #[.val (.int i0), .val (.int sv), .val (.ref a), .val (.ref x), .val (.int (Int32.ofNat dm))] [(.int (101 : Int32)), (.int (101 : Int32))]))
    refine own_st (fun tg_ kg_ => XS.icmpNo X17.here hx rfl (hb hby at_130) rfl (teq ((rfl : (101 : Int32) = (101 : Int32)))).2 kg_) ?_
    show own_Gl p e below _ (T17.setTop (mkF m 133 #[.val (.int i0), .val (.int sv), .val (.ref a), .val (.ref x), .val (.int (Int32.ofNat dm))] []))
    refine own_st (fun tg_ kg_ => XS.aloadN X17.here hx rfl (hb hby at_133) rfl rfl kg_) ?_
    show own_Gl p e below _ (T17.setTop (mkF m 134 #[.val (.int i0), .val (.int sv), .val (.ref a), .val (.ref x), .val (.int (Int32.ofNat dm))] [(.ref x)]))
    refine own_st (fun tg_ kg_ => XS.iload X17.here hx rfl (hb hby at_134) rfl kg_) ?_
    show own_Gl p e below _ (T17.setTop (mkF m 136 #[.val (.int i0), .val (.int sv), .val (.ref a), .val (.ref x), .val (.int (Int32.ofNat dm))] [(.int (Int32.ofNat dm)), (.ref x)]))
    refine own_st (fun tg_ kg_ => XS.iconst X17.here hx rfl (hb hby at_136) kg_) ?_
    show own_Gl p e below _ (T17.setTop (mkF m 137 #[.val (.int i0), .val (.int sv), .val (.ref a), .val (.ref x), .val (.int (Int32.ofNat dm))] [(.int (3 : Int32)), (.int (Int32.ofNat dm)), (.ref x)]))
    refine own_st (fun tg_ kg_ => XS.iadd X17.here hx rfl (hb hby at_137) rfl kg_) ?_
    show own_Gl p e below _ (T17.setTop (mkF m 138 #[.val (.int i0), .val (.int sv), .val (.ref a), .val (.ref x), .val (.int (Int32.ofNat dm))] [(.int ((Int32.ofNat dm) + (3 : Int32))), (.ref x)]))
    have hix : ((Int32.ofNat dm) + (3 : Int32)) = Int32.ofNat (dm + 3) := own_ofn_add dm 3
    rw [hix]
    clear hix
    show own_Gl p e below _ (T17.setTop (mkF m 138 #[.val (.int i0), .val (.int sv), .val (.ref a), .val (.ref x), .val (.int (Int32.ofNat dm))] [(.int (Int32.ofNat (dm + 3))), (.ref x)]))
    obtain ⟨cq18, kq18, q18a, q18b, q18c⟩ := isOf hZ e17 E_x
    obtain ⟨_, _, ⟨T18, L18, k18, n18⟩, -, X18, ⟨Lc18, hQ18, l18, y18, z18⟩, st18⟩ := X17.virtualBack hx (y := (⟨"java/lang/String", "charAt", "(I)C"⟩ : MethodName)) (z := (⟨"java/lang/String", "charAt", "(I)C"⟩ : MethodName)) hown (mvT hZ (hw _ (List.mem_of_getElem? (i := 195) rfl))) (mvT hZ (hw _ (List.mem_of_getElem? (i := 196) rfl))) (notFace_of_selects (args := #[]) (mvT hZ (hw _ (List.mem_of_getElem? (i := 198) rfl)))) (mvT hZ (hw _ (List.mem_of_getElem? (i := 198) rfl))) (mvT hZ (hw _ (List.mem_of_getElem? (i := 197) rfl))) (by decide) (backOf (W := 0) (own_rm_sca l Z a0 hw [] x u ku (dm + 3) (dm + own_B.length) R (99 : Int32) zc vf T6.heap n0 (Nat.le_trans Z0 K7.1) (S_C.ext K7) hzc (S_F.ext K7) hvf E_x F_c F_v V_u (by show _ < dm + 8; omega) (by show dm + 8 ≤ 34; omega) (hT.2 3 (by decide)) (by decide)) hZ (hw _ (List.mem_of_getElem? (i := 199) rfl)) (hw _ (List.mem_of_getElem? (i := 51) rfl)) (by decide) (by decide)) q18a q18c (g := (mkF m 138 #[.val (.int i0), .val (.int sv), .val (.ref a), .val (.ref x), .val (.int (Int32.ofNat dm))] [(.int (Int32.ofNat (dm + 3))), (.ref x)])) rfl (by rw [hml]; rfl) (Steps.refl _) (argsL := [(.int (Int32.ofNat (dm + 3)))]) (rest := []) (lenOf own_pd30 rfl) rfl (by show 2 * 0 + _ ≤ _; exact Nat.le_of_eq rfl) (hb hby at_138) (fun _ _ => ⟨rfl, e17, (by decide : 8 + 0 ≤ _), (by decide : 129 + 0 ≤ _)⟩)
    dsimp only [Pt.U, Pt.locs, Pt.cells, Pt.slots] at X18 l18 y18 z18 st18 hQ18
    obtain rfl : k18 = 8 := y18
    obtain rfl : n18 = 129 := z18
    obtain ⟨rfl, N18q, e18⟩ := hQ18
    have N18 : Fr n0 L18 := by rw [l18]; exact Fr.app N17 N18q
    try clear l18
    refine own_tr st18 ?_
    show own_Gl p e below _ (T18.setTop (mkF m 141 #[.val (.int i0), .val (.int sv), .val (.ref a), .val (.ref x), .val (.int (Int32.ofNat dm))] [(.int (99 : Int32))]))
    try clear st18
    try clear N18q
    try clear N17
    try clear e17
    try clear X17
    try clear T17
    refine own_st (fun tg_ kg_ => XS.bipush X18.here hx rfl (hb hby at_141) kg_) ?_
    show own_Gl p e below _ (T18.setTop (mkF m 143 #[.val (.int i0), .val (.int sv), .val (.ref a), .val (.ref x), .val (.int (Int32.ofNat dm))] [(.int (99 : Int32)), (.int (99 : Int32))]))
    refine own_st (fun tg_ kg_ => XS.icmpNo X18.here hx rfl (hb hby at_143) rfl (teq ((rfl : (99 : Int32) = (99 : Int32)))).2 kg_) ?_
    show own_Gl p e below _ (T18.setTop (mkF m 146 #[.val (.int i0), .val (.int sv), .val (.ref a), .val (.ref x), .val (.int (Int32.ofNat dm))] []))
    refine own_st (fun tg_ kg_ => XS.aloadN X18.here hx rfl (hb hby at_146) rfl rfl kg_) ?_
    show own_Gl p e below _ (T18.setTop (mkF m 147 #[.val (.int i0), .val (.int sv), .val (.ref a), .val (.ref x), .val (.int (Int32.ofNat dm))] [(.ref x)]))
    refine own_st (fun tg_ kg_ => XS.iload X18.here hx rfl (hb hby at_147) rfl kg_) ?_
    show own_Gl p e below _ (T18.setTop (mkF m 149 #[.val (.int i0), .val (.int sv), .val (.ref a), .val (.ref x), .val (.int (Int32.ofNat dm))] [(.int (Int32.ofNat dm)), (.ref x)]))
    refine own_st (fun tg_ kg_ => XS.iconst X18.here hx rfl (hb hby at_149) kg_) ?_
    show own_Gl p e below _ (T18.setTop (mkF m 150 #[.val (.int i0), .val (.int sv), .val (.ref a), .val (.ref x), .val (.int (Int32.ofNat dm))] [(.int (4 : Int32)), (.int (Int32.ofNat dm)), (.ref x)]))
    refine own_st (fun tg_ kg_ => XS.iadd X18.here hx rfl (hb hby at_150) rfl kg_) ?_
    show own_Gl p e below _ (T18.setTop (mkF m 151 #[.val (.int i0), .val (.int sv), .val (.ref a), .val (.ref x), .val (.int (Int32.ofNat dm))] [(.int ((Int32.ofNat dm) + (4 : Int32))), (.ref x)]))
    have hix : ((Int32.ofNat dm) + (4 : Int32)) = Int32.ofNat (dm + 4) := own_ofn_add dm 4
    rw [hix]
    clear hix
    show own_Gl p e below _ (T18.setTop (mkF m 151 #[.val (.int i0), .val (.int sv), .val (.ref a), .val (.ref x), .val (.int (Int32.ofNat dm))] [(.int (Int32.ofNat (dm + 4))), (.ref x)]))
    obtain ⟨cq19, kq19, q19a, q19b, q19c⟩ := isOf hZ e18 E_x
    obtain ⟨_, _, ⟨T19, L19, k19, n19⟩, -, X19, ⟨Lc19, hQ19, l19, y19, z19⟩, st19⟩ := X18.virtualBack hx (y := (⟨"java/lang/String", "charAt", "(I)C"⟩ : MethodName)) (z := (⟨"java/lang/String", "charAt", "(I)C"⟩ : MethodName)) hown (mvT hZ (hw _ (List.mem_of_getElem? (i := 195) rfl))) (mvT hZ (hw _ (List.mem_of_getElem? (i := 196) rfl))) (notFace_of_selects (args := #[]) (mvT hZ (hw _ (List.mem_of_getElem? (i := 198) rfl)))) (mvT hZ (hw _ (List.mem_of_getElem? (i := 198) rfl))) (mvT hZ (hw _ (List.mem_of_getElem? (i := 197) rfl))) (by decide) (backOf (W := 0) (own_rm_sca l Z a0 hw [] x u ku (dm + 4) (dm + own_B.length) R (111 : Int32) zc vf T6.heap n0 (Nat.le_trans Z0 K7.1) (S_C.ext K7) hzc (S_F.ext K7) hvf E_x F_c F_v V_u (by show _ < dm + 8; omega) (by show dm + 8 ≤ 34; omega) (hT.2 4 (by decide)) (by decide)) hZ (hw _ (List.mem_of_getElem? (i := 199) rfl)) (hw _ (List.mem_of_getElem? (i := 51) rfl)) (by decide) (by decide)) q19a q19c (g := (mkF m 151 #[.val (.int i0), .val (.int sv), .val (.ref a), .val (.ref x), .val (.int (Int32.ofNat dm))] [(.int (Int32.ofNat (dm + 4))), (.ref x)])) rfl (by rw [hml]; rfl) (Steps.refl _) (argsL := [(.int (Int32.ofNat (dm + 4)))]) (rest := []) (lenOf own_pd30 rfl) rfl (by show 2 * 0 + _ ≤ _; exact Nat.le_of_eq rfl) (hb hby at_151) (fun _ _ => ⟨rfl, e18, (by decide : 8 + 0 ≤ _), (by decide : 129 + 0 ≤ _)⟩)
    dsimp only [Pt.U, Pt.locs, Pt.cells, Pt.slots] at X19 l19 y19 z19 st19 hQ19
    obtain rfl : k19 = 8 := y19
    obtain rfl : n19 = 129 := z19
    obtain ⟨rfl, N19q, e19⟩ := hQ19
    have N19 : Fr n0 L19 := by rw [l19]; exact Fr.app N18 N19q
    try clear l19
    refine own_tr st19 ?_
    show own_Gl p e below _ (T19.setTop (mkF m 154 #[.val (.int i0), .val (.int sv), .val (.ref a), .val (.ref x), .val (.int (Int32.ofNat dm))] [(.int (111 : Int32))]))
    try clear st19
    try clear N19q
    try clear N18
    try clear e18
    try clear X18
    try clear T18
    refine own_st (fun tg_ kg_ => XS.bipush X19.here hx rfl (hb hby at_154) kg_) ?_
    show own_Gl p e below _ (T19.setTop (mkF m 156 #[.val (.int i0), .val (.int sv), .val (.ref a), .val (.ref x), .val (.int (Int32.ofNat dm))] [(.int (111 : Int32)), (.int (111 : Int32))]))
    refine own_st (fun tg_ kg_ => XS.icmpNo X19.here hx rfl (hb hby at_156) rfl (teq ((rfl : (111 : Int32) = (111 : Int32)))).2 kg_) ?_
    show own_Gl p e below _ (T19.setTop (mkF m 159 #[.val (.int i0), .val (.int sv), .val (.ref a), .val (.ref x), .val (.int (Int32.ofNat dm))] []))
    refine own_st (fun tg_ kg_ => XS.aloadN X19.here hx rfl (hb hby at_159) rfl rfl kg_) ?_
    show own_Gl p e below _ (T19.setTop (mkF m 160 #[.val (.int i0), .val (.int sv), .val (.ref a), .val (.ref x), .val (.int (Int32.ofNat dm))] [(.ref x)]))
    refine own_st (fun tg_ kg_ => XS.iload X19.here hx rfl (hb hby at_160) rfl kg_) ?_
    show own_Gl p e below _ (T19.setTop (mkF m 162 #[.val (.int i0), .val (.int sv), .val (.ref a), .val (.ref x), .val (.int (Int32.ofNat dm))] [(.int (Int32.ofNat dm)), (.ref x)]))
    refine own_st (fun tg_ kg_ => XS.iconst X19.here hx rfl (hb hby at_162) kg_) ?_
    show own_Gl p e below _ (T19.setTop (mkF m 163 #[.val (.int i0), .val (.int sv), .val (.ref a), .val (.ref x), .val (.int (Int32.ofNat dm))] [(.int (5 : Int32)), (.int (Int32.ofNat dm)), (.ref x)]))
    refine own_st (fun tg_ kg_ => XS.iadd X19.here hx rfl (hb hby at_163) rfl kg_) ?_
    show own_Gl p e below _ (T19.setTop (mkF m 164 #[.val (.int i0), .val (.int sv), .val (.ref a), .val (.ref x), .val (.int (Int32.ofNat dm))] [(.int ((Int32.ofNat dm) + (5 : Int32))), (.ref x)]))
    have hix : ((Int32.ofNat dm) + (5 : Int32)) = Int32.ofNat (dm + 5) := own_ofn_add dm 5
    rw [hix]
    clear hix
    show own_Gl p e below _ (T19.setTop (mkF m 164 #[.val (.int i0), .val (.int sv), .val (.ref a), .val (.ref x), .val (.int (Int32.ofNat dm))] [(.int (Int32.ofNat (dm + 5))), (.ref x)]))
    obtain ⟨cq20, kq20, q20a, q20b, q20c⟩ := isOf hZ e19 E_x
    obtain ⟨_, _, ⟨T20, L20, k20, n20⟩, -, X20, ⟨Lc20, hQ20, l20, y20, z20⟩, st20⟩ := X19.virtualBack hx (y := (⟨"java/lang/String", "charAt", "(I)C"⟩ : MethodName)) (z := (⟨"java/lang/String", "charAt", "(I)C"⟩ : MethodName)) hown (mvT hZ (hw _ (List.mem_of_getElem? (i := 195) rfl))) (mvT hZ (hw _ (List.mem_of_getElem? (i := 196) rfl))) (notFace_of_selects (args := #[]) (mvT hZ (hw _ (List.mem_of_getElem? (i := 198) rfl)))) (mvT hZ (hw _ (List.mem_of_getElem? (i := 198) rfl))) (mvT hZ (hw _ (List.mem_of_getElem? (i := 197) rfl))) (by decide) (backOf (W := 0) (own_rm_sca l Z a0 hw [] x u ku (dm + 5) (dm + own_B.length) R (110 : Int32) zc vf T6.heap n0 (Nat.le_trans Z0 K7.1) (S_C.ext K7) hzc (S_F.ext K7) hvf E_x F_c F_v V_u (by show _ < dm + 8; omega) (by show dm + 8 ≤ 34; omega) (hT.2 5 (by decide)) (by decide)) hZ (hw _ (List.mem_of_getElem? (i := 199) rfl)) (hw _ (List.mem_of_getElem? (i := 51) rfl)) (by decide) (by decide)) q20a q20c (g := (mkF m 164 #[.val (.int i0), .val (.int sv), .val (.ref a), .val (.ref x), .val (.int (Int32.ofNat dm))] [(.int (Int32.ofNat (dm + 5))), (.ref x)])) rfl (by rw [hml]; rfl) (Steps.refl _) (argsL := [(.int (Int32.ofNat (dm + 5)))]) (rest := []) (lenOf own_pd30 rfl) rfl (by show 2 * 0 + _ ≤ _; exact Nat.le_of_eq rfl) (hb hby at_164) (fun _ _ => ⟨rfl, e19, (by decide : 8 + 0 ≤ _), (by decide : 129 + 0 ≤ _)⟩)
    dsimp only [Pt.U, Pt.locs, Pt.cells, Pt.slots] at X20 l20 y20 z20 st20 hQ20
    obtain rfl : k20 = 8 := y20
    obtain rfl : n20 = 129 := z20
    obtain ⟨rfl, N20q, e20⟩ := hQ20
    have N20 : Fr n0 L20 := by rw [l20]; exact Fr.app N19 N20q
    try clear l20
    refine own_tr st20 ?_
    show own_Gl p e below _ (T20.setTop (mkF m 167 #[.val (.int i0), .val (.int sv), .val (.ref a), .val (.ref x), .val (.int (Int32.ofNat dm))] [(.int (110 : Int32))]))
    try clear st20
    try clear N20q
    try clear N19
    try clear e19
    try clear X19
    try clear T19
    refine own_st (fun tg_ kg_ => XS.bipush X20.here hx rfl (hb hby at_167) kg_) ?_
    show own_Gl p e below _ (T20.setTop (mkF m 169 #[.val (.int i0), .val (.int sv), .val (.ref a), .val (.ref x), .val (.int (Int32.ofNat dm))] [(.int (110 : Int32)), (.int (110 : Int32))]))
    refine own_st (fun tg_ kg_ => XS.icmpNo X20.here hx rfl (hb hby at_169) rfl (teq ((rfl : (110 : Int32) = (110 : Int32)))).2 kg_) ?_
    show own_Gl p e below _ (T20.setTop (mkF m 172 #[.val (.int i0), .val (.int sv), .val (.ref a), .val (.ref x), .val (.int (Int32.ofNat dm))] []))
    refine own_st (fun tg_ kg_ => XS.aloadN X20.here hx rfl (hb hby at_172) rfl rfl kg_) ?_
    show own_Gl p e below _ (T20.setTop (mkF m 173 #[.val (.int i0), .val (.int sv), .val (.ref a), .val (.ref x), .val (.int (Int32.ofNat dm))] [(.ref x)]))
    refine own_st (fun tg_ kg_ => XS.iload X20.here hx rfl (hb hby at_173) rfl kg_) ?_
    show own_Gl p e below _ (T20.setTop (mkF m 175 #[.val (.int i0), .val (.int sv), .val (.ref a), .val (.ref x), .val (.int (Int32.ofNat dm))] [(.int (Int32.ofNat dm)), (.ref x)]))
    refine own_st (fun tg_ kg_ => XS.bipush X20.here hx rfl (hb hby at_175) kg_) ?_
    show own_Gl p e below _ (T20.setTop (mkF m 177 #[.val (.int i0), .val (.int sv), .val (.ref a), .val (.ref x), .val (.int (Int32.ofNat dm))] [(.int (6 : Int32)), (.int (Int32.ofNat dm)), (.ref x)]))
    refine own_st (fun tg_ kg_ => XS.iadd X20.here hx rfl (hb hby at_177) rfl kg_) ?_
    show own_Gl p e below _ (T20.setTop (mkF m 178 #[.val (.int i0), .val (.int sv), .val (.ref a), .val (.ref x), .val (.int (Int32.ofNat dm))] [(.int ((Int32.ofNat dm) + (6 : Int32))), (.ref x)]))
    have hix : ((Int32.ofNat dm) + (6 : Int32)) = Int32.ofNat (dm + 6) := own_ofn_add dm 6
    rw [hix]
    clear hix
    show own_Gl p e below _ (T20.setTop (mkF m 178 #[.val (.int i0), .val (.int sv), .val (.ref a), .val (.ref x), .val (.int (Int32.ofNat dm))] [(.int (Int32.ofNat (dm + 6))), (.ref x)]))
    obtain ⟨cq21, kq21, q21a, q21b, q21c⟩ := isOf hZ e20 E_x
    obtain ⟨_, _, ⟨T21, L21, k21, n21⟩, -, X21, ⟨Lc21, hQ21, l21, y21, z21⟩, st21⟩ := X20.virtualBack hx (y := (⟨"java/lang/String", "charAt", "(I)C"⟩ : MethodName)) (z := (⟨"java/lang/String", "charAt", "(I)C"⟩ : MethodName)) hown (mvT hZ (hw _ (List.mem_of_getElem? (i := 195) rfl))) (mvT hZ (hw _ (List.mem_of_getElem? (i := 196) rfl))) (notFace_of_selects (args := #[]) (mvT hZ (hw _ (List.mem_of_getElem? (i := 198) rfl)))) (mvT hZ (hw _ (List.mem_of_getElem? (i := 198) rfl))) (mvT hZ (hw _ (List.mem_of_getElem? (i := 197) rfl))) (by decide) (backOf (W := 0) (own_rm_sca l Z a0 hw [] x u ku (dm + 6) (dm + own_B.length) R (100 : Int32) zc vf T6.heap n0 (Nat.le_trans Z0 K7.1) (S_C.ext K7) hzc (S_F.ext K7) hvf E_x F_c F_v V_u (by show _ < dm + 8; omega) (by show dm + 8 ≤ 34; omega) (hT.2 6 (by decide)) (by decide)) hZ (hw _ (List.mem_of_getElem? (i := 199) rfl)) (hw _ (List.mem_of_getElem? (i := 51) rfl)) (by decide) (by decide)) q21a q21c (g := (mkF m 178 #[.val (.int i0), .val (.int sv), .val (.ref a), .val (.ref x), .val (.int (Int32.ofNat dm))] [(.int (Int32.ofNat (dm + 6))), (.ref x)])) rfl (by rw [hml]; rfl) (Steps.refl _) (argsL := [(.int (Int32.ofNat (dm + 6)))]) (rest := []) (lenOf own_pd30 rfl) rfl (by show 2 * 0 + _ ≤ _; exact Nat.le_of_eq rfl) (hb hby at_178) (fun _ _ => ⟨rfl, e20, (by decide : 8 + 0 ≤ _), (by decide : 129 + 0 ≤ _)⟩)
    dsimp only [Pt.U, Pt.locs, Pt.cells, Pt.slots] at X21 l21 y21 z21 st21 hQ21
    obtain rfl : k21 = 8 := y21
    obtain rfl : n21 = 129 := z21
    obtain ⟨rfl, N21q, e21⟩ := hQ21
    have N21 : Fr n0 L21 := by rw [l21]; exact Fr.app N20 N21q
    try clear l21
    refine own_tr st21 ?_
    show own_Gl p e below _ (T21.setTop (mkF m 181 #[.val (.int i0), .val (.int sv), .val (.ref a), .val (.ref x), .val (.int (Int32.ofNat dm))] [(.int (100 : Int32))]))
    try clear st21
    try clear N21q
    try clear N20
    try clear e20
    try clear X20
    try clear T20
    refine own_st (fun tg_ kg_ => XS.bipush X21.here hx rfl (hb hby at_181) kg_) ?_
    show own_Gl p e below _ (T21.setTop (mkF m 183 #[.val (.int i0), .val (.int sv), .val (.ref a), .val (.ref x), .val (.int (Int32.ofNat dm))] [(.int (100 : Int32)), (.int (100 : Int32))]))
    refine own_st (fun tg_ kg_ => XS.icmpNo X21.here hx rfl (hb hby at_183) rfl (teq ((rfl : (100 : Int32) = (100 : Int32)))).2 kg_) ?_
    show own_Gl p e below _ (T21.setTop (mkF m 186 #[.val (.int i0), .val (.int sv), .val (.ref a), .val (.ref x), .val (.int (Int32.ofNat dm))] []))
    refine own_st (fun tg_ kg_ => XS.aloadN X21.here hx rfl (hb hby at_186) rfl rfl kg_) ?_
    show own_Gl p e below _ (T21.setTop (mkF m 187 #[.val (.int i0), .val (.int sv), .val (.ref a), .val (.ref x), .val (.int (Int32.ofNat dm))] [(.ref x)]))
    refine own_st (fun tg_ kg_ => XS.iload X21.here hx rfl (hb hby at_187) rfl kg_) ?_
    show own_Gl p e below _ (T21.setTop (mkF m 189 #[.val (.int i0), .val (.int sv), .val (.ref a), .val (.ref x), .val (.int (Int32.ofNat dm))] [(.int (Int32.ofNat dm)), (.ref x)]))
    refine own_st (fun tg_ kg_ => XS.bipush X21.here hx rfl (hb hby at_189) kg_) ?_
    show own_Gl p e below _ (T21.setTop (mkF m 191 #[.val (.int i0), .val (.int sv), .val (.ref a), .val (.ref x), .val (.int (Int32.ofNat dm))] [(.int (7 : Int32)), (.int (Int32.ofNat dm)), (.ref x)]))
    refine own_st (fun tg_ kg_ => XS.iadd X21.here hx rfl (hb hby at_191) rfl kg_) ?_
    show own_Gl p e below _ (T21.setTop (mkF m 192 #[.val (.int i0), .val (.int sv), .val (.ref a), .val (.ref x), .val (.int (Int32.ofNat dm))] [(.int ((Int32.ofNat dm) + (7 : Int32))), (.ref x)]))
    have hix : ((Int32.ofNat dm) + (7 : Int32)) = Int32.ofNat (dm + 7) := own_ofn_add dm 7
    rw [hix]
    clear hix
    show own_Gl p e below _ (T21.setTop (mkF m 192 #[.val (.int i0), .val (.int sv), .val (.ref a), .val (.ref x), .val (.int (Int32.ofNat dm))] [(.int (Int32.ofNat (dm + 7))), (.ref x)]))
    obtain ⟨cq22, kq22, q22a, q22b, q22c⟩ := isOf hZ e21 E_x
    obtain ⟨_, _, ⟨T22, L22, k22, n22⟩, -, X22, ⟨Lc22, hQ22, l22, y22, z22⟩, st22⟩ := X21.virtualBack hx (y := (⟨"java/lang/String", "charAt", "(I)C"⟩ : MethodName)) (z := (⟨"java/lang/String", "charAt", "(I)C"⟩ : MethodName)) hown (mvT hZ (hw _ (List.mem_of_getElem? (i := 195) rfl))) (mvT hZ (hw _ (List.mem_of_getElem? (i := 196) rfl))) (notFace_of_selects (args := #[]) (mvT hZ (hw _ (List.mem_of_getElem? (i := 198) rfl)))) (mvT hZ (hw _ (List.mem_of_getElem? (i := 198) rfl))) (mvT hZ (hw _ (List.mem_of_getElem? (i := 197) rfl))) (by decide) (backOf (W := 0) (own_rm_sca l Z a0 hw [] x u ku (dm + 7) (dm + own_B.length) R (115 : Int32) zc vf T6.heap n0 (Nat.le_trans Z0 K7.1) (S_C.ext K7) hzc (S_F.ext K7) hvf E_x F_c F_v V_u (by show _ < dm + 8; omega) (by show dm + 8 ≤ 34; omega) (hT.2 7 (by decide)) (by decide)) hZ (hw _ (List.mem_of_getElem? (i := 199) rfl)) (hw _ (List.mem_of_getElem? (i := 51) rfl)) (by decide) (by decide)) q22a q22c (g := (mkF m 192 #[.val (.int i0), .val (.int sv), .val (.ref a), .val (.ref x), .val (.int (Int32.ofNat dm))] [(.int (Int32.ofNat (dm + 7))), (.ref x)])) rfl (by rw [hml]; rfl) (Steps.refl _) (argsL := [(.int (Int32.ofNat (dm + 7)))]) (rest := []) (lenOf own_pd30 rfl) rfl (by show 2 * 0 + _ ≤ _; exact Nat.le_of_eq rfl) (hb hby at_192) (fun _ _ => ⟨rfl, e21, (by decide : 8 + 0 ≤ _), (by decide : 129 + 0 ≤ _)⟩)
    dsimp only [Pt.U, Pt.locs, Pt.cells, Pt.slots] at X22 l22 y22 z22 st22 hQ22
    obtain rfl : k22 = 8 := y22
    obtain rfl : n22 = 129 := z22
    obtain ⟨rfl, N22q, e22⟩ := hQ22
    have N22 : Fr n0 L22 := by rw [l22]; exact Fr.app N21 N22q
    try clear l22
    refine own_tr st22 ?_
    show own_Gl p e below _ (T22.setTop (mkF m 195 #[.val (.int i0), .val (.int sv), .val (.ref a), .val (.ref x), .val (.int (Int32.ofNat dm))] [(.int (115 : Int32))]))
    try clear st22
    try clear N22q
    try clear N21
    try clear e21
    try clear X21
    try clear T21
    refine own_st (fun tg_ kg_ => XS.bipush X22.here hx rfl (hb hby at_195) kg_) ?_
    show own_Gl p e below _ (T22.setTop (mkF m 197 #[.val (.int i0), .val (.int sv), .val (.ref a), .val (.ref x), .val (.int (Int32.ofNat dm))] [(.int (115 : Int32)), (.int (115 : Int32))]))
    refine own_st (fun tg_ kg_ => XS.icmpNo X22.here hx rfl (hb hby at_197) rfl (teq ((rfl : (115 : Int32) = (115 : Int32)))).2 kg_) ?_
    show own_Gl p e below _ (T22.setTop (mkF m 200 #[.val (.int i0), .val (.int sv), .val (.ref a), .val (.ref x), .val (.int (Int32.ofNat dm))] []))
    refine own_st (fun tg_ kg_ => XS.iconst X22.here hx rfl (hb hby at_200) kg_) ?_
    show own_Gl p e below _ (T22.setTop (mkF m 201 #[.val (.int i0), .val (.int sv), .val (.ref a), .val (.ref x), .val (.int (Int32.ofNat dm))] [(.int (1 : Int32))]))
    refine own_st (fun tg_ kg_ => XS.goto X22.here hx rfl (pc0 := 201) (pc' := 205) rfl (hb hby at_201) (by decide) (by decide) kg_) ?_
    show own_Gl p e below _ (T22.setTop (mkF m 205 #[.val (.int i0), .val (.int sv), .val (.ref a), .val (.ref x), .val (.int (Int32.ofNat dm))] [(.int (1 : Int32))]))
    exact own_wlretN X22 hx Bd.notSynchronized (t := .boolean) Bd.returns (by simp) (hb hby at_205) (by decide) (by decide) e22 hSb6 hk (⟨rfl, N22⟩)
set_option maxRecDepth 65536 in
set_option maxHeartbeats 40000000 in
theorem comes_1 {Post : Tables → Env → Array Value → State → Outcome → State → Prop} (hpost : ∀ tb e args s v u, (limb_1_1.after args s (.returned v) u = true ∧ limb_1_2.after args s (.returned v) u = true ∧ True) → ReturnedEndW s (.returned v) u (Jvm.fieldLocs frame_1_writes args s ++ Jvm.arrayLocs frame_1_arrays args s ++ Jvm.staticLocs frame_1_statics s) 32 3328 → Post tb e args s (.returned v) u) :
    ArmFor flags0 classFile x code maxLocals ret World_1 tables_1 room_1 Calls_1 rest_1 Pre_1 Post := by
  intro l hfl _ _ p e ha hc hk s m args below hf hA hF happ hP
  obtain ⟨hcalls, hrest, hpre⟩ := hP
  obtain ⟨-, -, -, hnamed, -, -, -, hat⟩ := (Spec.applies_iff hf).mp happ
  obtain ⟨hg, hn⟩ := and_e (Cond.before_iff.mp (show (Jvm.Cond.and given_1 narrow_1).before args s = true from hpre))
  obtain ⟨g0a, g0b⟩ := and_e hg
  obtain ⟨w0, rfl⟩ : ∃ w0 : Value, args = #[w0] := by
    have hs : args.size = 1 := by simpa [Cond.value, given_1] using g0a
    obtain ⟨L⟩ := args
    match L, hs with
    | [w0], _ => exact ⟨w0, rfl⟩
  have hw := fun d (hd : d ∈ tables_1) => atoms_spec (ws := Jvm.Cond.code x code maxLocals ret :: tables_1) hat d (List.mem_cons_of_mem _ hd)
  have hfit : Fit s := fun {y c} hc i hi => by
    obtain ⟨ha, rfl⟩ := Array.getElem?_eq_some_iff.mp hc
    have q := List.all_eq_true.mp ((Array.all_eq_true_iff_forall_mem.mp hF) _ (Array.getElem_mem ha)) i (List.mem_range.mpr hi)
    simpa [Array.getElem?_eq_getElem hi] using q
  obtain ⟨hsets, hown0⟩ := atoms_of _ (rest_1_c_eq ▸ (show rest_1_c.before _ s = true from hrest))
  have hr0 := Cond.before_iff.mp hown0
  obtain ⟨i0, ei0⟩ := is_v g0b
  obtain rfl : w0 = (.int i0) := Option.some.inj ei0
  obtain ⟨zc, ev_C⟩ := is_v (Cond.before_iff.mp (hsets _ (List.mem_of_getElem? (i := 14) rfl)))
  have S_C := Sta.start ev_C (Or.inl (hsets _ (List.mem_of_getElem? (i := 13) rfl)))
  have hzc : ¬ zc = 0 := own_nz ev_C (Cond.before_iff.mp (hsets _ (List.mem_of_getElem? (i := 15) rfl)))
  obtain ⟨vf, ev_F, hvf⟩ := isR_v (Cond.before_iff.mp (hsets _ (List.mem_of_getElem? (i := 21) rfl)))
  have S_F := Sta.start ev_F (Or.inl (hsets _ (List.mem_of_getElem? (i := 20) rfl)))
  obtain ⟨tu, ev_T⟩ := exa_v (Cond.before_iff.mp (hsets _ (List.mem_of_getElem? (i := 2) rfl)))
  have S_T := Sta.start ev_T (Or.inl (hsets _ (List.mem_of_getElem? (i := 1) rfl)))
  have E_t := Exa.start ev_T (Cond.before_iff.mp (hsets _ (List.mem_of_getElem? (i := 2) rfl)))
  have F_1 := own_fldL ev_T (Cond.before_iff.mp (hsets _ (List.mem_of_getElem? (i := 5) rfl)))
  have F_2 := own_fldL ev_T (Cond.before_iff.mp (hsets _ (List.mem_of_getElem? (i := 6) rfl)))
  obtain ⟨o1, D1, ev_1, A_1, z_1⟩ := own_tab (Cond.before_iff.mp (hsets _ (List.mem_of_getElem? (i := 25) rfl))) (Cond.before_iff.mp (hsets _ (List.mem_of_getElem? (i := 26) rfl))) (hw _ (List.mem_of_getElem? (i := 52) rfl))
  have S_1 := Sta.start ev_1 (Or.inl (hsets _ (List.mem_of_getElem? (i := 24) rfl)))
  have V_1 := own_one_arv hfit (fun idx => (show _ = _ from rfl : _ = Term.eval _ s none [] s _).trans ev_1) A_1 z_1 (Cond.before_iff.mp (hsets _ (List.mem_of_getElem? (i := 27) rfl)))
  obtain ⟨o2, D2, ev_2, A_2, z_2⟩ := own_tab (Cond.before_iff.mp (hsets _ (List.mem_of_getElem? (i := 30) rfl))) (Cond.before_iff.mp (hsets _ (List.mem_of_getElem? (i := 31) rfl))) (hw _ (List.mem_of_getElem? (i := 52) rfl))
  have S_2 := Sta.start ev_2 (Or.inl (hsets _ (List.mem_of_getElem? (i := 29) rfl)))
  obtain ⟨K2, V_2⟩ := own_ten_arv hfit A_2 z_2
  have hCH : CHv s own_EL s.vm s.heap := CHv.start (a0 := #[.int i0]) (own_ew hw) hcalls.1 (by have := (hsets _ (List.mem_of_getElem? (i := 15) rfl)); simpa [Jvm.Lit.compactW, Cond.before, Cond.holds, Cond.value, Term.eval] using this) (hw _ (List.mem_of_getElem? (i := 52) rfl)) (hw _ (List.mem_of_getElem? (i := 88) rfl))
  obtain ⟨n, o, h1, h2, h3, _, L, rfl, ⟨rfl, N⟩, hq⟩ := own_rm_law l s _ hw tables_1 i0 zc vf tu o1 o2 D1.cls D2.cls K2 s.heap s.heap.size (Nat.le_refl _) S_C hzc S_F hvf S_1 S_2 V_1 V_2 S_T E_t F_1 F_2 p e ha hc hk s m _ below hf ((Spec.applies_iff_loose hf).mp happ).1 ⟨rfl, State.Warmed39.refl s, rfl, hCH⟩ trivial
  refine ⟨n, _, h1, h2, h3, hpost _ _ _ _ _ _ ⟨Cond.after_iff.mpr rfl, Cond.after_iff.mpr (eq_i res_at (Term.int_eval (1)) rfl), trivial⟩ ⟨hq.1, hq.2.1, hq.2.2.1, (hq.2.2.2.sift fun y hy => Or.inr (N y hy)).mono (by decide) (by decide)⟩⟩
theorem main_1_1 : Claimed_1_1 := comes_1 fun _ _ _ _ _ _ h hF => ⟨h.1, hF⟩
theorem main_1_2 : Claimed_1_2 := comes_1 fun _ _ _ _ _ _ h hF => ⟨h.2.1, hF⟩
end Jvm.Pilot.@@N@@
namespace Jvm.Pilot.@@N@@
open Jvm Jvm.ClassFile Sem Op Lib Jvm.Free Jvm.Stand Jvm.Pilot.@@N@@.Jvm.D
/-! MADE BY PROGRAM (witnessworld.py) out of the Statement's table words and the real class files: 27 classes; the members and pool entries that the words name. The judged class is class 1, her method 1. -/
namespace start1
open Jvm.ClassFile
def u (s : String) : CpInfo := .utf8 (stringToUtf16 s)
/-- a pool by its gaps: so many unusable entries, then the entry; so many at the end -/
def gap : Nat → List CpInfo → List CpInfo
  | 0, r => r
  | n + 1, r => .unusable :: gap n r
def poolList (es : List (Nat × CpInfo)) (last : Nat) : List CpInfo := es.foldr (fun e r => gap e.1 (e.2 :: r)) (gap last [])
def pool (es : List (Nat × CpInfo)) (last : Nat) : Array CpInfo := ⟨poolList es last⟩
def fileOf (pool : Array CpInfo) (this : Nat) (attrs : Array Attribute := #[]) (ms : Array MethodInfo := #[]) (fl : Nat := 33) (sup : Nat := 0) (ifs : Array Nat := #[]) (fds : Array FieldInfo := #[]) : ClassFile where
  minorVersion := 0
  majorVersion := 65
  constantPool := pool
  accessFlags := fl
  thisClass := this
  superClass := sup
  interfaces := ifs
  fields := fds
  methods := ms
  attributes := attrs
def plain (name : String) (sup : Option ClassId) : Class where
  name := name
  kind := .ordinary
  loader := none
  accessFlags := 33
  super := sup
  interfaces := #[]
  cf := none
  fields := #[]
  methods := #[]
  instanceTypes := #[]
  staticTypes := #[]
  resolved := #[]
  callSites := []
  init := .initialized
  statics := none
  mirror := none

def pool0 : Array CpInfo := pool [(5, u "<init>"), (0, u "()V"), (1, .class_ 10), (1, u "java/lang/Object"), (85, u "clone"), (0, u "()Ljava/lang/Object;")] 26

def k0c0 : Code := { maxStack := 0, maxLocals := 1, code := object_method_1_code, exceptionTable := #[], attributes := #[] }
def k0m0 : Method := { name := "<init>", desc := "()V", sig := { parameters := [], returnType := none }, accessFlags := 1, code := some k0c0 }
def k0m1 : Method := { name := "clone", desc := "()Ljava/lang/Object;", sig := { parameters := [], returnType := some (.object "java/lang/Object") }, accessFlags := 260, code := none }
/-- java/lang/Object -/
def k0 : Class := { plain "java/lang/Object" none with
  accessFlags := 33
  interfaces := #[]
  cf := some (fileOf pool0 8 #[] #[{ accessFlags := 1, nameIndex := 5, descriptorIndex := 6, attributes := #[] }, { accessFlags := 260, nameIndex := 96, descriptorIndex := 97, attributes := #[] }] 33 0 #[] #[])
  fields := #[]
  methods := #[k0m0, k0m1]
  instanceTypes := #[]
  staticTypes := #[]
  resolved := Array.replicate 124 none
  statics := none }

def pool1 : Array CpInfo := pool [(2, .class_ 4), (1, u "java/lang/Object"), (0, u "<init>"), (0, u "()V"), (0, .integer 2147483647), (0, .methodref 9 10), (0, .class_ 11), (0, .nameAndType 12 13), (0, u "org/samehood/calls/CallLimit"), (0, u "of"), (0, u "(I)Lorg/samehood/calls/CallLimit;"), (0, .methodref 9 15), (0, .nameAndType 16 17), (0, u "nanos"), (0, u "()J"), (0, .long 1000000000), (1, .methodref 9 21), (0, .nameAndType 22 23), (0, u "toString"), (0, u "()Ljava/lang/String;"), (0, .string 25), (0, u "1 second"), (0, .methodref 27 28), (0, .class_ 29), (0, .nameAndType 30 31), (0, u "java/lang/String"), (0, u "equals"), (0, u "(Ljava/lang/Object;)Z"), (0, .methodref 33 34), (0, .class_ 35), (0, .nameAndType 36 37), (0, u "org/samehood/calls/CallLimitOfPinLaw"), (0, u "digits"), (0, u "(I)I"), (0, .methodref 27 39), (0, .nameAndType 40 41), (0, u "length"), (0, u "()I"), (0, .methodref 27 43), (0, .nameAndType 44 45), (0, u "charAt"), (0, u "(I)C"), (0, .integer 100000), (0, .integer 1000000), (0, .integer 10000000), (0, .integer 100000000), (0, .integer 1000000000), (2, u "law"), (0, u "(I)Z")] 3

def k1m0 : Method := { name := "<init>", desc := "()V", sig := { parameters := [], returnType := none }, accessFlags := 1, code := none }
def k1c1 : Code := { maxStack := 6, maxLocals := 5, code := code, exceptionTable := #[], attributes := #[] }
def k1m1 : Method := { name := "law", desc := "(I)Z", sig := { parameters := [.int], returnType := some .boolean }, accessFlags := 9, code := some k1c1 }
def k1c2 : Code := { maxStack := 2, maxLocals := 1, code := method_3_code, exceptionTable := #[], attributes := #[] }
def k1m2 : Method := { name := "digits", desc := "(I)I", sig := { parameters := [.int], returnType := some .int }, accessFlags := 10, code := some k1c2 }
/-- org/samehood/calls/CallLimitOfPinLaw -/
def k1 : Class := { plain "org/samehood/calls/CallLimitOfPinLaw" (some 0) with
  accessFlags := 49
  interfaces := #[]
  cf := some (fileOf pool1 33 #[] #[{ accessFlags := 1, nameIndex := 5, descriptorIndex := 6, attributes := #[] }, { accessFlags := 9, nameIndex := 53, descriptorIndex := 54, attributes := #[] }, { accessFlags := 10, nameIndex := 36, descriptorIndex := 37, attributes := #[] }] 49 2 #[] #[])
  fields := #[]
  methods := #[k1m0, k1m1, k1m2]
  instanceTypes := #[]
  staticTypes := #[]
  resolved := Array.replicate 58 none
  statics := none }

def pool2 : Array CpInfo := pool [(1, .methodref 2 3), (0, .class_ 4), (0, .nameAndType 5 6), (0, u "java/lang/Object"), (0, u "<init>"), (0, u "()V"), (0, .fieldref 8 9), (0, .class_ 10), (0, .nameAndType 11 12), (0, u "org/samehood/calls/CallLimit"), (0, u "seconds"), (0, u "I"), (2, .class_ 16), (0, u "java/lang/StringBuilder"), (0, .methodref 15 3), (2, .methodref 15 21), (0, .nameAndType 22 23), (0, u "append"), (0, u "(Ljava/lang/String;)Ljava/lang/StringBuilder;"), (0, .methodref 15 25), (0, .nameAndType 22 26), (0, u "(I)Ljava/lang/StringBuilder;"), (0, .methodref 15 28), (0, .nameAndType 29 30), (0, u "toString"), (0, u "()Ljava/lang/String;"), (3, .methodref 8 35), (0, .nameAndType 5 36), (0, u "(I)V"), (16, .fieldref 54 55), (0, .class_ 56), (0, .nameAndType 57 58), (0, u "java/util/concurrent/TimeUnit"), (0, u "SECONDS"), (0, u "Ljava/util/concurrent/TimeUnit;"), (0, .methodref 54 60), (0, .nameAndType 61 62), (0, u "toNanos"), (0, u "(J)J"), (0, .class_ 64), (0, u "org/samehood/calls/CallLimit$Exceeded"), (6, .class_ 72), (0, u "org/samehood/calls/CallLimit$EndsTheJvm"), (5, .string 79), (0, u " second"), (0, .string 81), (0, u " seconds"), (12, u "DEFAULT"), (0, u "Lorg/samehood/calls/CallLimit;"), (2, u "of"), (0, u "(I)Lorg/samehood/calls/CallLimit;"), (6, u "nanos"), (0, u "()J"), (14, .class_ 123), (0, u "org/samehood/calls/CallLimit$Call")] 22

def k2c0 : Code := { maxStack := 2, maxLocals := 2, code := prog_15_method_1_code, exceptionTable := #[], attributes := #[] }
def k2m0 : Method := { name := "<init>", desc := "(I)V", sig := { parameters := [.int], returnType := none }, accessFlags := 2, code := some k2c0 }
def k2c1 : Code := { maxStack := 4, maxLocals := 1, code := prog_15_method_2_code, exceptionTable := #[], attributes := #[] }
def k2m1 : Method := { name := "of", desc := "(I)Lorg/samehood/calls/CallLimit;", sig := { parameters := [.int], returnType := some (.object "org/samehood/calls/CallLimit") }, accessFlags := 9, code := some k2c1 }
def k2c2 : Code := { maxStack := 3, maxLocals := 1, code := prog_15_method_5_code, exceptionTable := #[], attributes := #[] }
def k2m2 : Method := { name := "nanos", desc := "()J", sig := { parameters := [], returnType := some .long }, accessFlags := 0, code := some k2c2 }
def k2c3 : Code := { maxStack := 3, maxLocals := 1, code := prog_15_method_8_code, exceptionTable := #[], attributes := #[] }
def k2m3 : Method := { name := "toString", desc := "()Ljava/lang/String;", sig := { parameters := [], returnType := some (.object "java/lang/String") }, accessFlags := 1, code := some k2c3 }
/-- org/samehood/calls/CallLimit -/
def k2 : Class := { plain "org/samehood/calls/CallLimit" (some 0) with
  accessFlags := 49
  interfaces := #[]
  cf := some (fileOf pool2 8 #[.nestMembers #[71, 63, 122]] #[{ accessFlags := 2, nameIndex := 5, descriptorIndex := 36, attributes := #[] }, { accessFlags := 9, nameIndex := 98, descriptorIndex := 99, attributes := #[] }, { accessFlags := 0, nameIndex := 106, descriptorIndex := 107, attributes := #[] }, { accessFlags := 1, nameIndex := 29, descriptorIndex := 30, attributes := #[] }] 49 2 #[] #[{ accessFlags := 25, nameIndex := 94, descriptorIndex := 95, attributes := #[] }, { accessFlags := 18, nameIndex := 11, descriptorIndex := 12, attributes := #[] }])
  fields := #[{ name := "DEFAULT", type := (.object "org/samehood/calls/CallLimit"), accessFlags := 25, slot := 0, constantValue := 0 }, { name := "seconds", type := .int, accessFlags := 18, slot := 0, constantValue := 0 }]
  methods := #[k2m0, k2m1, k2m2, k2m3]
  instanceTypes := #[.int]
  staticTypes := #[(.object "org/samehood/calls/CallLimit")]
  resolved := Array.replicate 146 none
  statics := none }

def pool3 : Array CpInfo := pool [(1, .class_ 2), (0, u "java/lang/constant/Constable"), (0, .class_ 4), (0, u "java/lang/Object")] 6

/-- java/lang/constant/Constable -/
def k3 : Class := { plain "java/lang/constant/Constable" (some 0) with
  accessFlags := 1537
  interfaces := #[]
  cf := some (fileOf pool3 1 #[] #[] 1537 3 #[] #[])
  fields := #[]
  methods := #[]
  instanceTypes := #[]
  staticTypes := #[]
  resolved := Array.replicate 11 none
  statics := none }

def pool4 : Array CpInfo := pool [(1, .class_ 2), (0, u "java/lang/Comparable"), (0, .class_ 4), (0, u "java/lang/Object")] 7

/-- java/lang/Comparable -/
def k4 : Class := { plain "java/lang/Comparable" (some 0) with
  accessFlags := 1537
  interfaces := #[]
  cf := some (fileOf pool4 1 #[] #[] 1537 3 #[] #[])
  fields := #[]
  methods := #[]
  instanceTypes := #[]
  staticTypes := #[]
  resolved := Array.replicate 12 none
  statics := none }

def pool5 : Array CpInfo := pool [(1, .class_ 2), (0, u "java/io/Serializable"), (0, .class_ 4), (0, u "java/lang/Object")] 2

/-- java/io/Serializable -/
def k5 : Class := { plain "java/io/Serializable" (some 0) with
  accessFlags := 1537
  interfaces := #[]
  cf := some (fileOf pool5 1 #[] #[] 1537 3 #[] #[])
  fields := #[]
  methods := #[]
  instanceTypes := #[]
  staticTypes := #[]
  resolved := Array.replicate 7 none
  statics := none }

def pool6 : Array CpInfo := pool [(2, .class_ 4), (1, u "java/lang/Enum"), (0, u "name"), (0, u "Ljava/lang/String;"), (2, u "ordinal"), (0, u "I"), (1, .class_ 14), (1, u "java/lang/Object"), (4, u "hash"), (86, .class_ 108), (1, u "java/lang/Enum$EnumDesc"), (2, .class_ 112), (0, u "java/lang/constant/Constable"), (0, .class_ 114), (0, u "java/lang/Comparable"), (0, .class_ 116), (0, u "java/io/Serializable")] 87

/-- java/lang/Enum -/
def k6 : Class := { plain "java/lang/Enum" (some 0) with
  accessFlags := 1057
  interfaces := #[3, 4, 5]
  cf := some (fileOf pool6 2 #[.nestMembers #[106]] #[] 1057 12 #[111, 113, 115] #[{ accessFlags := 18, nameIndex := 5, descriptorIndex := 6, attributes := #[] }, { accessFlags := 18, nameIndex := 9, descriptorIndex := 10, attributes := #[] }, { accessFlags := 2, nameIndex := 19, descriptorIndex := 10, attributes := #[] }])
  fields := #[{ name := "name", type := (.object "java/lang/String"), accessFlags := 18, slot := 0, constantValue := 0 }, { name := "ordinal", type := .int, accessFlags := 18, slot := 1, constantValue := 0 }, { name := "hash", type := .int, accessFlags := 2, slot := 2, constantValue := 0 }]
  methods := #[]
  instanceTypes := #[(.object "java/lang/String"), .int, .int]
  staticTypes := #[]
  resolved := Array.replicate 204 none
  statics := none }

def pool7 : Array CpInfo := pool [(1, .class_ 2), (0, u "java/util/concurrent/TimeUnit"), (2, u "NANOSECONDS"), (0, u "Ljava/util/concurrent/TimeUnit;"), (2, u "MICROSECONDS"), (2, u "MILLISECONDS"), (2, u "SECONDS"), (2, u "MINUTES"), (2, u "HOURS"), (2, u "DAYS"), (2, u "$VALUES"), (0, u "[Ljava/util/concurrent/TimeUnit;"), (6, .class_ 37), (1, u "java/lang/Enum"), (6, .fieldref 1 45), (0, .nameAndType 46 47), (0, u "scale"), (0, u "J"), (4, .fieldref 1 53), (0, .nameAndType 54 47), (0, u "maxNanos"), (4, u "microRatio"), (2, u "maxMicros"), (4, u "milliRatio"), (0, u "I"), (2, u "maxMillis"), (4, u "secRatio"), (2, u "maxSecs"), (8, u "toNanos"), (0, u "(J)J"), (73, .class_ 165), (1, u "java/util/concurrent/TimeUnit$1"), (46, u "NANO_SCALE"), (3, u "MICRO_SCALE"), (0, u "MILLI_SCALE"), (0, u "SECOND_SCALE"), (0, u "MINUTE_SCALE"), (0, u "HOUR_SCALE"), (0, u "DAY_SCALE")] 61

def k7c0 : Code := { maxStack := 6, maxLocals := 7, code := jdk_2799_method_7_code, exceptionTable := #[], attributes := #[] }
def k7m0 : Method := { name := "toNanos", desc := "(J)J", sig := { parameters := [.long], returnType := some .long }, accessFlags := 1, code := some k7c0 }
/-- java/util/concurrent/TimeUnit -/
def k7 : Class := { plain "java/util/concurrent/TimeUnit" (some 6) with
  accessFlags := 16433
  interfaces := #[]
  cf := some (fileOf pool7 1 #[.nestMembers #[163]] #[{ accessFlags := 1, nameIndex := 88, descriptorIndex := 89, attributes := #[] }] 16433 35 #[] #[{ accessFlags := 16409, nameIndex := 5, descriptorIndex := 6, attributes := #[] }, { accessFlags := 16409, nameIndex := 9, descriptorIndex := 6, attributes := #[] }, { accessFlags := 16409, nameIndex := 12, descriptorIndex := 6, attributes := #[] }, { accessFlags := 16409, nameIndex := 15, descriptorIndex := 6, attributes := #[] }, { accessFlags := 16409, nameIndex := 18, descriptorIndex := 6, attributes := #[] }, { accessFlags := 16409, nameIndex := 21, descriptorIndex := 6, attributes := #[] }, { accessFlags := 16409, nameIndex := 24, descriptorIndex := 6, attributes := #[] }, { accessFlags := 26, nameIndex := 212, descriptorIndex := 47, attributes := #[] }, { accessFlags := 26, nameIndex := 216, descriptorIndex := 47, attributes := #[] }, { accessFlags := 26, nameIndex := 217, descriptorIndex := 47, attributes := #[] }, { accessFlags := 26, nameIndex := 218, descriptorIndex := 47, attributes := #[] }, { accessFlags := 26, nameIndex := 219, descriptorIndex := 47, attributes := #[] }, { accessFlags := 26, nameIndex := 220, descriptorIndex := 47, attributes := #[] }, { accessFlags := 26, nameIndex := 221, descriptorIndex := 47, attributes := #[] }, { accessFlags := 18, nameIndex := 46, descriptorIndex := 47, attributes := #[] }, { accessFlags := 18, nameIndex := 54, descriptorIndex := 47, attributes := #[] }, { accessFlags := 18, nameIndex := 62, descriptorIndex := 47, attributes := #[] }, { accessFlags := 18, nameIndex := 71, descriptorIndex := 47, attributes := #[] }, { accessFlags := 18, nameIndex := 79, descriptorIndex := 47, attributes := #[] }, { accessFlags := 18, nameIndex := 59, descriptorIndex := 47, attributes := #[] }, { accessFlags := 18, nameIndex := 67, descriptorIndex := 68, attributes := #[] }, { accessFlags := 18, nameIndex := 76, descriptorIndex := 68, attributes := #[] }, { accessFlags := 4122, nameIndex := 27, descriptorIndex := 28, attributes := #[] }])
  fields := #[{ name := "NANOSECONDS", type := (.object "java/util/concurrent/TimeUnit"), accessFlags := 16409, slot := 0, constantValue := 0 }, { name := "MICROSECONDS", type := (.object "java/util/concurrent/TimeUnit"), accessFlags := 16409, slot := 1, constantValue := 0 }, { name := "MILLISECONDS", type := (.object "java/util/concurrent/TimeUnit"), accessFlags := 16409, slot := 2, constantValue := 0 }, { name := "SECONDS", type := (.object "java/util/concurrent/TimeUnit"), accessFlags := 16409, slot := 3, constantValue := 0 }, { name := "MINUTES", type := (.object "java/util/concurrent/TimeUnit"), accessFlags := 16409, slot := 4, constantValue := 0 }, { name := "HOURS", type := (.object "java/util/concurrent/TimeUnit"), accessFlags := 16409, slot := 5, constantValue := 0 }, { name := "DAYS", type := (.object "java/util/concurrent/TimeUnit"), accessFlags := 16409, slot := 6, constantValue := 0 }, { name := "NANO_SCALE", type := .long, accessFlags := 26, slot := 7, constantValue := 0 }, { name := "MICRO_SCALE", type := .long, accessFlags := 26, slot := 8, constantValue := 0 }, { name := "MILLI_SCALE", type := .long, accessFlags := 26, slot := 9, constantValue := 0 }, { name := "SECOND_SCALE", type := .long, accessFlags := 26, slot := 10, constantValue := 0 }, { name := "MINUTE_SCALE", type := .long, accessFlags := 26, slot := 11, constantValue := 0 }, { name := "HOUR_SCALE", type := .long, accessFlags := 26, slot := 12, constantValue := 0 }, { name := "DAY_SCALE", type := .long, accessFlags := 26, slot := 13, constantValue := 0 }, { name := "scale", type := .long, accessFlags := 18, slot := 3, constantValue := 0 }, { name := "maxNanos", type := .long, accessFlags := 18, slot := 4, constantValue := 0 }, { name := "maxMicros", type := .long, accessFlags := 18, slot := 5, constantValue := 0 }, { name := "maxMillis", type := .long, accessFlags := 18, slot := 6, constantValue := 0 }, { name := "maxSecs", type := .long, accessFlags := 18, slot := 7, constantValue := 0 }, { name := "microRatio", type := .long, accessFlags := 18, slot := 8, constantValue := 0 }, { name := "milliRatio", type := .int, accessFlags := 18, slot := 9, constantValue := 0 }, { name := "secRatio", type := .int, accessFlags := 18, slot := 10, constantValue := 0 }, { name := "$VALUES", type := (.array (.object "java/util/concurrent/TimeUnit")), accessFlags := 4122, slot := 14, constantValue := 0 }]
  methods := #[k7m0]
  instanceTypes := #[(.object "java/lang/String"), .int, .int, .long, .long, .long, .long, .long, .long, .int, .int]
  staticTypes := #[(.object "java/util/concurrent/TimeUnit"), (.object "java/util/concurrent/TimeUnit"), (.object "java/util/concurrent/TimeUnit"), (.object "java/util/concurrent/TimeUnit"), (.object "java/util/concurrent/TimeUnit"), (.object "java/util/concurrent/TimeUnit"), (.object "java/util/concurrent/TimeUnit"), .long, .long, .long, .long, .long, .long, .long, (.array (.object "java/util/concurrent/TimeUnit"))]
  resolved := Array.replicate 283 none
  statics := some 0 }

def pool8 : Array CpInfo := pool [(1, .class_ 2), (0, u "java/lang/Appendable"), (0, .class_ 4), (0, u "java/lang/Object")] 9

/-- java/lang/Appendable -/
def k8 : Class := { plain "java/lang/Appendable" (some 0) with
  accessFlags := 1537
  interfaces := #[]
  cf := some (fileOf pool8 1 #[] #[] 1537 3 #[] #[])
  fields := #[]
  methods := #[]
  instanceTypes := #[]
  staticTypes := #[]
  resolved := Array.replicate 14 none
  statics := none }

def pool9 : Array CpInfo := pool [(2, .class_ 4), (1, u "java/lang/CharSequence"), (42, .class_ 48), (0, u "java/lang/CharSequence$1CodePointIterator"), (10, .class_ 60), (0, u "java/lang/CharSequence$1CharIterator"), (5, .class_ 67), (0, u "java/lang/Object")] 63

/-- java/lang/CharSequence -/
def k9 : Class := { plain "java/lang/CharSequence" (some 0) with
  accessFlags := 1537
  interfaces := #[]
  cf := some (fileOf pool9 2 #[.nestMembers #[47, 59]] #[] 1537 66 #[] #[])
  fields := #[]
  methods := #[]
  instanceTypes := #[]
  staticTypes := #[]
  resolved := Array.replicate 131 none
  statics := none }

def pool10 : Array CpInfo := pool [(1, .class_ 2), (0, u "java/lang/String"), (0, .methodref 4 5), (0, .class_ 6), (0, .nameAndType 7 8), (0, u "java/lang/Object"), (0, u "<init>"), (0, u "()V"), (1, .class_ 12), (1, u "java/lang/AbstractStringBuilder"), (0, u "EMPTYVALUE"), (0, u "[B"), (0, .fieldref 10 16), (0, .nameAndType 17 14), (0, u "value"), (0, .fieldref 1 19), (0, .nameAndType 20 21), (0, u "COMPACT_STRINGS"), (0, u "Z"), (0, .fieldref 10 23), (0, .nameAndType 24 25), (0, u "coder"), (0, u "B"), (6, .methodref 1 33), (0, .nameAndType 34 35), (0, u "length"), (0, u "()I"), (0, .class_ 37), (0, u "java/lang/Integer"), (1, .integer 2147483647), (0, .methodref 1 41), (0, .nameAndType 24 42), (0, u "()B"), (2, u "append"), (0, u "(Ljava/lang/String;)Ljava/lang/AbstractStringBuilder;"), (1, .class_ 49), (0, u "java/lang/CharSequence"), (19, u "(Ljava/lang/String;)V"), (5, u "maybeLatin1"), (3, .fieldref 10 80), (0, .nameAndType 81 82), (0, u "count"), (0, u "I"), (0, .methodref 10 84), (0, .nameAndType 85 86), (0, u "isLatin1"), (0, u "()Z"), (13, .methodref 10 101), (0, .nameAndType 102 103), (0, u "ensureCapacityInternal"), (0, u "(I)V"), (0, .methodref 10 105), (0, .nameAndType 106 107), (0, u "newCapacity"), (0, u "(I)I"), (0, .methodref 109 110), (0, .class_ 111), (0, .nameAndType 112 113), (0, u "java/util/Arrays"), (0, u "copyOf"), (0, u "([BI)[B"), (0, .methodref 115 116), (0, .class_ 117), (0, .nameAndType 118 119), (0, u "jdk/internal/util/ArraysSupport"), (0, u "newLength"), (0, u "(III)I"), (68, u "getChars"), (19, .methodref 10 209), (0, .nameAndType 210 211), (0, u "putStringAt"), (0, u "(ILjava/lang/String;)V"), (5, u "inflateIfNeededFor"), (2, .nameAndType 221 222), (0, u "getBytes"), (0, u "([BIB)V"), (22, .methodref 36 246), (0, .nameAndType 247 107), (0, u "stringSize"), (0, .methodref 36 249), (0, .nameAndType 188 250), (0, u "(II[B)I"), (146, .methodref 10 398), (0, .nameAndType 217 69), (0, .methodref 1 220), (3, u "()[B"), (40, .class_ 445), (0, u "java/lang/Appendable"), (65, u "(I)Ljava/lang/AbstractStringBuilder;"), (40, u "getValue")] 56

def k10m0 : Method := { name := "<init>", desc := "()V", sig := { parameters := [], returnType := none }, accessFlags := 0, code := none }
def k10c1 : Code := { maxStack := 2, maxLocals := 2, code := jdk_68_method_2_code, exceptionTable := #[], attributes := #[] }
def k10m1 : Method := { name := "<init>", desc := "(I)V", sig := { parameters := [.int], returnType := none }, accessFlags := 0, code := some k10c1 }
def k10c2 : Code := { maxStack := 1, maxLocals := 1, code := jdk_68_method_6_code, exceptionTable := #[], attributes := #[] }
def k10m2 : Method := { name := "length", desc := "()I", sig := { parameters := [], returnType := some .int }, accessFlags := 1, code := some k10c2 }
def k10c3 : Code := { maxStack := 4, maxLocals := 3, code := jdk_68_method_9_code, exceptionTable := #[], attributes := #[] }
def k10m3 : Method := { name := "ensureCapacityInternal", desc := "(I)V", sig := { parameters := [.int], returnType := none }, accessFlags := 2, code := some k10c3 }
def k10c4 : Code := { maxStack := 5, maxLocals := 6, code := jdk_68_method_10_code, exceptionTable := #[], attributes := #[] }
def k10m4 : Method := { name := "newCapacity", desc := "(I)I", sig := { parameters := [.int], returnType := some .int }, accessFlags := 2, code := some k10c4 }
def k10c5 : Code := { maxStack := 3, maxLocals := 3, code := jdk_68_method_22_code, exceptionTable := #[], attributes := #[] }
def k10m5 : Method := { name := "append", desc := "(Ljava/lang/String;)Ljava/lang/AbstractStringBuilder;", sig := { parameters := [(.object "java/lang/String")], returnType := some (.object "java/lang/AbstractStringBuilder") }, accessFlags := 1, code := some k10c5 }
def k10c6 : Code := { maxStack := 4, maxLocals := 4, code := jdk_68_method_32_code, exceptionTable := #[], attributes := #[] }
def k10m6 : Method := { name := "append", desc := "(I)Ljava/lang/AbstractStringBuilder;", sig := { parameters := [.int], returnType := some (.object "java/lang/AbstractStringBuilder") }, accessFlags := 1, code := some k10c6 }
def k10c7 : Code := { maxStack := 1, maxLocals := 1, code := jdk_68_method_64_code, exceptionTable := #[], attributes := #[] }
def k10m7 : Method := { name := "getValue", desc := "()[B", sig := { parameters := [], returnType := some (.array .byte) }, accessFlags := 16, code := some k10c7 }
def k10c8 : Code := { maxStack := 1, maxLocals := 1, code := jdk_68_method_68_code, exceptionTable := #[], attributes := #[] }
def k10m8 : Method := { name := "isLatin1", desc := "()Z", sig := { parameters := [], returnType := some .boolean }, accessFlags := 16, code := some k10c8 }
def k10c9 : Code := { maxStack := 2, maxLocals := 2, code := jdk_68_method_71_code, exceptionTable := #[], attributes := #[] }
def k10m9 : Method := { name := "inflateIfNeededFor", desc := "(Ljava/lang/String;)V", sig := { parameters := [(.object "java/lang/String")], returnType := none }, accessFlags := 2, code := some k10c9 }
def k10c10 : Code := { maxStack := 4, maxLocals := 3, code := jdk_68_method_73_code, exceptionTable := #[], attributes := #[] }
def k10m10 : Method := { name := "putStringAt", desc := "(ILjava/lang/String;)V", sig := { parameters := [.int, (.object "java/lang/String")], returnType := none }, accessFlags := 2, code := some k10c10 }
/-- java/lang/AbstractStringBuilder -/
def k10 : Class := { plain "java/lang/AbstractStringBuilder" (some 0) with
  accessFlags := 1056
  interfaces := #[8, 9]
  cf := some (fileOf pool10 10 #[] #[{ accessFlags := 0, nameIndex := 7, descriptorIndex := 8, attributes := #[] }, { accessFlags := 0, nameIndex := 7, descriptorIndex := 103, attributes := #[] }, { accessFlags := 1, nameIndex := 34, descriptorIndex := 35, attributes := #[] }, { accessFlags := 2, nameIndex := 102, descriptorIndex := 103, attributes := #[] }, { accessFlags := 2, nameIndex := 106, descriptorIndex := 107, attributes := #[] }, { accessFlags := 1, nameIndex := 45, descriptorIndex := 46, attributes := #[] }, { accessFlags := 1, nameIndex := 45, descriptorIndex := 511, attributes := #[] }, { accessFlags := 16, nameIndex := 552, descriptorIndex := 403, attributes := #[] }, { accessFlags := 16, nameIndex := 85, descriptorIndex := 86, attributes := #[] }, { accessFlags := 2, nameIndex := 217, descriptorIndex := 69, attributes := #[] }, { accessFlags := 2, nameIndex := 210, descriptorIndex := 211, attributes := #[] }] 1056 4 #[444, 48] #[{ accessFlags := 0, nameIndex := 17, descriptorIndex := 14, attributes := #[] }, { accessFlags := 0, nameIndex := 24, descriptorIndex := 25, attributes := #[] }, { accessFlags := 0, nameIndex := 75, descriptorIndex := 21, attributes := #[] }, { accessFlags := 0, nameIndex := 81, descriptorIndex := 82, attributes := #[] }, { accessFlags := 26, nameIndex := 13, descriptorIndex := 14, attributes := #[] }])
  fields := #[{ name := "value", type := (.array .byte), accessFlags := 0, slot := 0, constantValue := 0 }, { name := "coder", type := .byte, accessFlags := 0, slot := 1, constantValue := 0 }, { name := "maybeLatin1", type := .boolean, accessFlags := 0, slot := 2, constantValue := 0 }, { name := "count", type := .int, accessFlags := 0, slot := 3, constantValue := 0 }, { name := "EMPTYVALUE", type := (.array .byte), accessFlags := 26, slot := 0, constantValue := 0 }]
  methods := #[k10m0, k10m1, k10m2, k10m3, k10m4, k10m5, k10m6, k10m7, k10m8, k10m9, k10m10]
  instanceTypes := #[(.array .byte), .byte, .boolean, .int]
  staticTypes := #[(.array .byte)]
  resolved := Array.replicate 609 none
  statics := none }

def pool11 : Array CpInfo := pool [(1, .methodref 2 3), (0, .class_ 4), (0, .nameAndType 5 6), (0, u "java/lang/AbstractStringBuilder"), (0, u "<init>"), (0, u "(I)V"), (11, .class_ 20), (1, u "java/lang/String"), (3, .class_ 26), (1, u "java/lang/StringBuilder"), (0, u "append"), (0, u "(Ljava/lang/String;)Ljava/lang/StringBuilder;"), (0, .methodref 2 30), (0, .nameAndType 27 31), (0, u "(Ljava/lang/String;)Ljava/lang/AbstractStringBuilder;"), (21, .methodref 2 54), (0, .nameAndType 27 55), (0, u "(I)Ljava/lang/AbstractStringBuilder;"), (81, .methodref 18 138), (0, .nameAndType 5 139), (0, u "(Ljava/lang/StringBuilder;)V"), (5, u "()V"), (10, u "()I"), (111, u "(I)Ljava/lang/StringBuilder;"), (74, .methodref 2 344), (0, .nameAndType 345 156), (0, u "length"), (3, .class_ 350), (0, u "java/lang/Appendable"), (0, .class_ 352), (0, u "java/io/Serializable"), (0, .class_ 354), (0, u "java/lang/Comparable"), (0, .class_ 356), (0, u "java/lang/CharSequence"), (0, u "serialVersionUID"), (0, u "J"), (40, u "toString"), (0, u "()Ljava/lang/String;")] 21

def k11c0 : Code := { maxStack := 2, maxLocals := 1, code := jdk_67_method_1_code, exceptionTable := #[], attributes := #[] }
def k11m0 : Method := { name := "<init>", desc := "()V", sig := { parameters := [], returnType := none }, accessFlags := 1, code := some k11c0 }
def k11c1 : Code := { maxStack := 2, maxLocals := 2, code := jdk_67_method_7_code, exceptionTable := #[], attributes := #[] }
def k11m1 : Method := { name := "append", desc := "(Ljava/lang/String;)Ljava/lang/StringBuilder;", sig := { parameters := [(.object "java/lang/String")], returnType := some (.object "java/lang/StringBuilder") }, accessFlags := 1, code := some k11c1 }
def k11c2 : Code := { maxStack := 2, maxLocals := 2, code := jdk_67_method_15_code, exceptionTable := #[], attributes := #[] }
def k11m2 : Method := { name := "append", desc := "(I)Ljava/lang/StringBuilder;", sig := { parameters := [.int], returnType := some (.object "java/lang/StringBuilder") }, accessFlags := 1, code := some k11c2 }
def k11c3 : Code := { maxStack := 3, maxLocals := 1, code := jdk_67_method_42_code, exceptionTable := #[], attributes := #[] }
def k11m3 : Method := { name := "toString", desc := "()Ljava/lang/String;", sig := { parameters := [], returnType := some (.object "java/lang/String") }, accessFlags := 1, code := some k11c3 }
def k11c4 : Code := { maxStack := 1, maxLocals := 1, code := jdk_67_method_93_code, exceptionTable := #[], attributes := #[] }
def k11m4 : Method := { name := "length", desc := "()I", sig := { parameters := [], returnType := some .int }, accessFlags := 4161, code := some k11c4 }
/-- java/lang/StringBuilder -/
def k11 : Class := { plain "java/lang/StringBuilder" (some 10) with
  accessFlags := 49
  interfaces := #[8, 5, 4, 9]
  cf := some (fileOf pool11 24 #[] #[{ accessFlags := 1, nameIndex := 5, descriptorIndex := 145, attributes := #[] }, { accessFlags := 1, nameIndex := 27, descriptorIndex := 28, attributes := #[] }, { accessFlags := 1, nameIndex := 27, descriptorIndex := 268, attributes := #[] }, { accessFlags := 1, nameIndex := 399, descriptorIndex := 400, attributes := #[] }, { accessFlags := 4161, nameIndex := 345, descriptorIndex := 156, attributes := #[] }] 49 2 #[349, 351, 353, 355] #[{ accessFlags := 24, nameIndex := 357, descriptorIndex := 358, attributes := #[] }])
  fields := #[{ name := "serialVersionUID", type := .long, accessFlags := 24, slot := 0, constantValue := 0 }]
  methods := #[k11m0, k11m1, k11m2, k11m3, k11m4]
  instanceTypes := #[(.array .byte), .byte, .boolean, .int]
  staticTypes := #[.long]
  resolved := Array.replicate 422 none
  statics := none }

def pool12 : Array CpInfo := pool [(1, .class_ 2), (0, u "java/lang/constant/ConstantDesc"), (0, .class_ 4), (0, u "java/lang/Object")] 32

/-- java/lang/constant/ConstantDesc -/
def k12 : Class := { plain "java/lang/constant/ConstantDesc" (some 0) with
  accessFlags := 1537
  interfaces := #[]
  cf := some (fileOf pool12 1 #[] #[] 1537 3 #[] #[])
  fields := #[]
  methods := #[]
  instanceTypes := #[]
  staticTypes := #[]
  resolved := Array.replicate 37 none
  statics := none }

def pool13 : Array CpInfo := pool [(1, .methodref 2 3), (0, .class_ 4), (0, .nameAndType 5 6), (0, u "java/lang/Object"), (0, u "<init>"), (0, u "()V"), (2, .fieldref 10 11), (0, .class_ 12), (0, .nameAndType 13 14), (0, u "java/lang/String"), (0, u "value"), (0, u "[B"), (0, .fieldref 10 16), (0, .nameAndType 17 18), (0, u "coder"), (0, u "B"), (2, u "hash"), (0, u "I"), (2, u "hashIsZero"), (0, u "Z"), (11, .fieldref 10 39), (0, .nameAndType 40 26), (0, u "COMPACT_STRINGS"), (13, .methodref 55 56), (0, .class_ 57), (0, .nameAndType 58 59), (0, u "java/util/Arrays"), (0, u "copyOfRange"), (0, u "([BII)[B"), (47, .class_ 109), (1, u "java/lang/StringLatin1"), (32, u "()Z"), (50, .class_ 195), (1, u "java/lang/System"), (16, .methodref 193 213), (0, .nameAndType 214 215), (0, u "arraycopy"), (0, u "(Ljava/lang/Object;ILjava/lang/Object;II)V"), (118, u "()I"), (0, .methodref 10 336), (0, .nameAndType 17 337), (0, u "()B"), (2, u "()[B"), (22, u "([BI)C"), (27, u "(II)V"), (35, u "(I)C"), (61, .methodref 10 490), (0, .nameAndType 5 491), (0, u "(Ljava/lang/AbstractStringBuilder;Ljava/lang/Void;)V"), (0, .methodref 10 493), (0, .nameAndType 494 142), (0, u "isLatin1"), (0, .methodref 107 496), (0, .nameAndType 497 363), (0, u "charAt"), (3, u "checkIndex"), (4, .nameAndType 507 334), (0, u "length"), (24, u "getBytes"), (8, .methodref 107 542), (0, .nameAndType 543 544), (0, u "equals"), (0, u "([B[B)Z"), (4, .methodref 550 506), (0, .class_ 551), (0, u "java/lang/AbstractStringBuilder"), (0, .methodref 550 553), (0, .nameAndType 554 340), (0, u "getValue"), (18, u "(Ljava/lang/Object;)Z"), (1, .class_ 576), (0, u "java/lang/CharSequence"), (22, u "CASE_INSENSITIVE_ORDER"), (0, u "Ljava/util/Comparator;"), (220, u "([BIB)V"), (225, .methodref 550 493), (5, .fieldref 1054 1055), (0, .class_ 1056), (0, .nameAndType 1057 1058), (0, u "jdk/internal/util/Preconditions"), (0, u "SIOOBE_FORMATTER"), (0, u "Ljava/util/function/BiFunction;"), (0, .methodref 1054 1060), (0, .nameAndType 501 1061), (0, u "(IILjava/util/function/BiFunction;)I"), (39, u "serialPersistentFields"), (0, u "[Ljava/io/ObjectStreamField;"), (0, .class_ 1104), (0, u "java/lang/String$CaseInsensitiveComparator"), (1, .class_ 1107), (0, u "java/io/Serializable"), (0, .class_ 1109), (0, u "java/lang/Comparable"), (0, .class_ 1111), (0, u "java/lang/constant/Constable"), (0, .class_ 1113), (0, u "java/lang/constant/ConstantDesc"), (2, u "serialVersionUID"), (0, u "J"), (3, u "REPL"), (0, u "C"), (2, u "LATIN1"), (1, u "UTF16"), (105, u "(Ljava/lang/StringBuilder;)V")] 217

def k13m0 : Method := { name := "<init>", desc := "()V", sig := { parameters := [], returnType := none }, accessFlags := 1, code := none }
def k13c1 : Code := { maxStack := 3, maxLocals := 2, code := jdk_42_method_53_code, exceptionTable := #[], attributes := #[] }
def k13m1 : Method := { name := "<init>", desc := "(Ljava/lang/StringBuilder;)V", sig := { parameters := [(.object "java/lang/StringBuilder")], returnType := none }, accessFlags := 1, code := some k13c1 }
def k13c2 : Code := { maxStack := 2, maxLocals := 1, code := jdk_42_method_54_code, exceptionTable := #[], attributes := #[] }
def k13m2 : Method := { name := "length", desc := "()I", sig := { parameters := [], returnType := some .int }, accessFlags := 1, code := some k13c2 }
def k13c3 : Code := { maxStack := 2, maxLocals := 2, code := jdk_42_method_56_code, exceptionTable := #[], attributes := #[] }
def k13m3 : Method := { name := "charAt", desc := "(I)C", sig := { parameters := [.int], returnType := some .char }, accessFlags := 1, code := some k13c3 }
def k13c4 : Code := { maxStack := 2, maxLocals := 3, code := jdk_42_method_66_code, exceptionTable := #[], attributes := #[] }
def k13m4 : Method := { name := "equals", desc := "(Ljava/lang/Object;)Z", sig := { parameters := [(.object "java/lang/Object")], returnType := some .boolean }, accessFlags := 1, code := some k13c4 }
def k13c5 : Code := { maxStack := 5, maxLocals := 4, code := jdk_42_method_147_code, exceptionTable := #[], attributes := #[] }
def k13m5 : Method := { name := "getBytes", desc := "([BIB)V", sig := { parameters := [(.array .byte), .int, .byte], returnType := none }, accessFlags := 0, code := some k13c5 }
def k13c6 : Code := { maxStack := 5, maxLocals := 5, code := jdk_42_method_150_code, exceptionTable := #[], attributes := #[] }
def k13m6 : Method := { name := "<init>", desc := "(Ljava/lang/AbstractStringBuilder;Ljava/lang/Void;)V", sig := { parameters := [(.object "java/lang/AbstractStringBuilder"), (.object "java/lang/Void")], returnType := none }, accessFlags := 0, code := some k13c6 }
def k13c7 : Code := { maxStack := 1, maxLocals := 1, code := jdk_42_method_152_code, exceptionTable := #[], attributes := #[] }
def k13m7 : Method := { name := "coder", desc := "()B", sig := { parameters := [], returnType := some .byte }, accessFlags := 0, code := some k13c7 }
def k13c8 : Code := { maxStack := 1, maxLocals := 1, code := jdk_42_method_154_code, exceptionTable := #[], attributes := #[] }
def k13m8 : Method := { name := "isLatin1", desc := "()Z", sig := { parameters := [], returnType := some .boolean }, accessFlags := 0, code := some k13c8 }
def k13c9 : Code := { maxStack := 3, maxLocals := 2, code := jdk_42_method_155_code, exceptionTable := #[], attributes := #[] }
def k13m9 : Method := { name := "checkIndex", desc := "(II)V", sig := { parameters := [.int, .int], returnType := none }, accessFlags := 8, code := some k13c9 }
/-- java/lang/String -/
def k13 : Class := { plain "java/lang/String" (some 0) with
  accessFlags := 49
  interfaces := #[5, 4, 9, 3, 12]
  cf := some (fileOf pool13 10 #[.nestMembers #[1103]] #[{ accessFlags := 1, nameIndex := 5, descriptorIndex := 6, attributes := #[] }, { accessFlags := 1, nameIndex := 5, descriptorIndex := 1233, attributes := #[] }, { accessFlags := 1, nameIndex := 507, descriptorIndex := 334, attributes := #[] }, { accessFlags := 1, nameIndex := 497, descriptorIndex := 427, attributes := #[] }, { accessFlags := 1, nameIndex := 543, descriptorIndex := 573, attributes := #[] }, { accessFlags := 0, nameIndex := 532, descriptorIndex := 821, attributes := #[] }, { accessFlags := 0, nameIndex := 5, descriptorIndex := 491, attributes := #[] }, { accessFlags := 0, nameIndex := 17, descriptorIndex := 337, attributes := #[] }, { accessFlags := 0, nameIndex := 494, descriptorIndex := 142, attributes := #[] }, { accessFlags := 8, nameIndex := 501, descriptorIndex := 391, attributes := #[] }] 49 2 #[1106, 1108, 575, 1110, 1112] #[{ accessFlags := 18, nameIndex := 13, descriptorIndex := 14, attributes := #[] }, { accessFlags := 18, nameIndex := 17, descriptorIndex := 18, attributes := #[] }, { accessFlags := 2, nameIndex := 21, descriptorIndex := 22, attributes := #[] }, { accessFlags := 2, nameIndex := 25, descriptorIndex := 26, attributes := #[] }, { accessFlags := 26, nameIndex := 1116, descriptorIndex := 1117, attributes := #[] }, { accessFlags := 24, nameIndex := 40, descriptorIndex := 26, attributes := #[] }, { accessFlags := 26, nameIndex := 1101, descriptorIndex := 1102, attributes := #[] }, { accessFlags := 26, nameIndex := 1121, descriptorIndex := 1122, attributes := #[] }, { accessFlags := 25, nameIndex := 599, descriptorIndex := 600, attributes := #[] }, { accessFlags := 24, nameIndex := 1125, descriptorIndex := 18, attributes := #[] }, { accessFlags := 24, nameIndex := 1127, descriptorIndex := 18, attributes := #[] }])
  fields := #[{ name := "value", type := (.array .byte), accessFlags := 18, slot := 0, constantValue := 0 }, { name := "coder", type := .byte, accessFlags := 18, slot := 1, constantValue := 0 }, { name := "hash", type := .int, accessFlags := 2, slot := 2, constantValue := 0 }, { name := "hashIsZero", type := .boolean, accessFlags := 2, slot := 3, constantValue := 0 }, { name := "serialVersionUID", type := .long, accessFlags := 26, slot := 0, constantValue := 0 }, { name := "COMPACT_STRINGS", type := .boolean, accessFlags := 24, slot := 1, constantValue := 0 }, { name := "serialPersistentFields", type := (.array (.object "java/io/ObjectStreamField")), accessFlags := 26, slot := 2, constantValue := 0 }, { name := "REPL", type := .char, accessFlags := 26, slot := 3, constantValue := 0 }, { name := "CASE_INSENSITIVE_ORDER", type := (.object "java/util/Comparator"), accessFlags := 25, slot := 4, constantValue := 0 }, { name := "LATIN1", type := .byte, accessFlags := 24, slot := 5, constantValue := 0 }, { name := "UTF16", type := .byte, accessFlags := 24, slot := 6, constantValue := 0 }]
  methods := #[k13m0, k13m1, k13m2, k13m3, k13m4, k13m5, k13m6, k13m7, k13m8, k13m9]
  instanceTypes := #[(.array .byte), .byte, .int, .boolean]
  staticTypes := #[.long, .boolean, (.array (.object "java/io/ObjectStreamField")), .char, (.object "java/util/Comparator"), .byte, .byte]
  resolved := Array.replicate 1451 none
  statics := some 1 }

def pool14 : Array CpInfo := pool [(2, .class_ 4), (1, u "java/lang/Object"), (0, u "<init>"), (0, u "()V"), (1, .class_ 10), (1, u "java/lang/Number"), (2, .class_ 14), (0, u "java/io/Serializable"), (0, u "serialVersionUID"), (0, u "J")] 20

def k14m0 : Method := { name := "<init>", desc := "()V", sig := { parameters := [], returnType := none }, accessFlags := 1, code := none }
/-- java/lang/Number -/
def k14 : Class := { plain "java/lang/Number" (some 0) with
  accessFlags := 1057
  interfaces := #[5]
  cf := some (fileOf pool14 8 #[] #[{ accessFlags := 1, nameIndex := 5, descriptorIndex := 6, attributes := #[] }] 1057 2 #[13] #[{ accessFlags := 26, nameIndex := 15, descriptorIndex := 16, attributes := #[] }])
  fields := #[{ name := "serialVersionUID", type := .long, accessFlags := 26, slot := 0, constantValue := 0 }]
  methods := #[k14m0]
  instanceTypes := #[]
  staticTypes := #[.long]
  resolved := Array.replicate 37 none
  statics := none }

def pool15 : Array CpInfo := pool [(1, .class_ 2), (0, u "java/lang/Integer"), (16, u "digits"), (0, u "[C"), (33, u "(I)I"), (19, u "stringSize"), (2, u "getChars"), (0, u "(II[B)I"), (4, .fieldref 1 84), (0, .nameAndType 85 86), (0, u "DigitOnes"), (0, u "[B"), (0, .fieldref 1 88), (0, .nameAndType 89 86), (0, u "DigitTens"), (99, .class_ 190), (0, u "java/lang/Integer$IntegerCache"), (3, u "I"), (8, .class_ 204), (0, u "java/lang/Number"), (2, u "value"), (94, u "TYPE"), (0, u "Ljava/lang/Class;"), (0, .class_ 305), (0, u "java/lang/Comparable"), (0, .class_ 307), (0, u "java/lang/constant/Constable"), (0, .class_ 309), (0, u "java/lang/constant/ConstantDesc"), (0, u "MIN_VALUE"), (1, u "MAX_VALUE"), (3, u "SIZE"), (1, u "BYTES"), (1, u "serialVersionUID"), (0, u "J")] 131

def k15c0 : Code := { maxStack := 4, maxLocals := 7, code := jdk_33_method_12_code, exceptionTable := #[], attributes := #[] }
def k15m0 : Method := { name := "getChars", desc := "(II[B)I", sig := { parameters := [.int, .int, (.array .byte)], returnType := some .int }, accessFlags := 8, code := some k15c0 }
def k15c1 : Code := { maxStack := 2, maxLocals := 4, code := jdk_33_method_13_code, exceptionTable := #[], attributes := #[] }
def k15m1 : Method := { name := "stringSize", desc := "(I)I", sig := { parameters := [.int], returnType := some .int }, accessFlags := 8, code := some k15c1 }
/-- java/lang/Integer -/
def k15 : Class := { plain "java/lang/Integer" (some 14) with
  accessFlags := 49
  interfaces := #[4, 3, 12]
  cf := some (fileOf pool15 1 #[.nestMembers #[189]] #[{ accessFlags := 8, nameIndex := 77, descriptorIndex := 78, attributes := #[] }, { accessFlags := 8, nameIndex := 74, descriptorIndex := 54, attributes := #[] }] 49 203 #[304, 306, 308] #[{ accessFlags := 25, nameIndex := 310, descriptorIndex := 194, attributes := #[] }, { accessFlags := 25, nameIndex := 312, descriptorIndex := 194, attributes := #[] }, { accessFlags := 25, nameIndex := 302, descriptorIndex := 303, attributes := #[] }, { accessFlags := 24, nameIndex := 19, descriptorIndex := 20, attributes := #[] }, { accessFlags := 24, nameIndex := 89, descriptorIndex := 86, attributes := #[] }, { accessFlags := 24, nameIndex := 85, descriptorIndex := 86, attributes := #[] }, { accessFlags := 18, nameIndex := 207, descriptorIndex := 194, attributes := #[] }, { accessFlags := 25, nameIndex := 316, descriptorIndex := 194, attributes := #[] }, { accessFlags := 25, nameIndex := 318, descriptorIndex := 194, attributes := #[] }, { accessFlags := 26, nameIndex := 320, descriptorIndex := 321, attributes := #[] }])
  fields := #[{ name := "MIN_VALUE", type := .int, accessFlags := 25, slot := 0, constantValue := 0 }, { name := "MAX_VALUE", type := .int, accessFlags := 25, slot := 1, constantValue := 0 }, { name := "TYPE", type := (.object "java/lang/Class"), accessFlags := 25, slot := 2, constantValue := 0 }, { name := "digits", type := (.array .char), accessFlags := 24, slot := 3, constantValue := 0 }, { name := "DigitTens", type := (.array .byte), accessFlags := 24, slot := 4, constantValue := 0 }, { name := "DigitOnes", type := (.array .byte), accessFlags := 24, slot := 5, constantValue := 0 }, { name := "value", type := .int, accessFlags := 18, slot := 0, constantValue := 0 }, { name := "SIZE", type := .int, accessFlags := 25, slot := 6, constantValue := 0 }, { name := "BYTES", type := .int, accessFlags := 25, slot := 7, constantValue := 0 }, { name := "serialVersionUID", type := .long, accessFlags := 26, slot := 8, constantValue := 0 }]
  methods := #[k15m0, k15m1]
  instanceTypes := #[.int]
  staticTypes := #[.int, .int, (.object "java/lang/Class"), (.array .char), (.array .byte), (.array .byte), .int, .int, .long]
  resolved := Array.replicate 453 none
  statics := some 2 }

def pool16 : Array CpInfo := pool [(2, .class_ 4), (1, u "java/lang/Object"), (0, u "<init>"), (0, u "()V"), (1, .class_ 10), (1, u "java/lang/System"), (0, u "allowSecurityManager"), (0, u "I"), (16, u "cons"), (0, u "Ljava/io/Console;"), (77, .class_ 110), (1, u "java/lang/System$CallersHolder"), (43, u "initialErrStream"), (0, u "Ljava/io/PrintStream;"), (19, u "security"), (0, u "Ljava/lang/SecurityManager;"), (31, .class_ 209), (0, u "java/lang/System$1"), (7, u "props"), (0, u "Ljava/util/Properties;"), (2, u "lineSeparator"), (0, u "Ljava/lang/String;"), (96, .class_ 321), (1, u "java/lang/System$LoggerFinder"), (5, .class_ 328), (0, u "java/lang/System$Logger"), (67, u "err"), (2, u "out"), (91, u "notSupportedJnuEncoding"), (15, u "in"), (17, u "initialIn"), (0, u "Ljava/io/InputStream;"), (35, u "bootLayer"), (0, u "Ljava/lang/ModuleLayer;"), (99, .class_ 664), (0, u "java/lang/System$2"), (9, u "NEVER"), (2, u "MAYBE"), (49, u "arraycopy"), (0, u "(Ljava/lang/Object;ILjava/lang/Object;II)V"), (72, .class_ 802), (0, u "java/lang/System$Logger$Level")] 31

def k16m0 : Method := { name := "<init>", desc := "()V", sig := { parameters := [], returnType := none }, accessFlags := 2, code := none }
def k16m1 : Method := { name := "arraycopy", desc := "(Ljava/lang/Object;ILjava/lang/Object;II)V", sig := { parameters := [(.object "java/lang/Object"), .int, (.object "java/lang/Object"), .int, .int], returnType := none }, accessFlags := 265, code := none }
/-- java/lang/System -/
def k16 : Class := { plain "java/lang/System" (some 0) with
  accessFlags := 49
  interfaces := #[]
  cf := some (fileOf pool16 8 #[.nestMembers #[319, 327, 801, 108, 663, 208]] #[{ accessFlags := 2, nameIndex := 5, descriptorIndex := 6, attributes := #[] }, { accessFlags := 265, nameIndex := 727, descriptorIndex := 728, attributes := #[] }] 49 2 #[] #[{ accessFlags := 25, nameIndex := 507, descriptorIndex := 526, attributes := #[] }, { accessFlags := 25, nameIndex := 399, descriptorIndex := 155, attributes := #[] }, { accessFlags := 25, nameIndex := 396, descriptorIndex := 155, attributes := #[] }, { accessFlags := 10, nameIndex := 525, descriptorIndex := 526, attributes := #[] }, { accessFlags := 26, nameIndex := 674, descriptorIndex := 12, attributes := #[] }, { accessFlags := 26, nameIndex := 677, descriptorIndex := 12, attributes := #[] }, { accessFlags := 10, nameIndex := 11, descriptorIndex := 12, attributes := #[] }, { accessFlags := 74, nameIndex := 175, descriptorIndex := 176, attributes := #[] }, { accessFlags := 10, nameIndex := 491, descriptorIndex := 222, attributes := #[] }, { accessFlags := 74, nameIndex := 29, descriptorIndex := 30, attributes := #[] }, { accessFlags := 74, nameIndex := 154, descriptorIndex := 155, attributes := #[] }, { accessFlags := 10, nameIndex := 217, descriptorIndex := 218, attributes := #[] }, { accessFlags := 10, nameIndex := 221, descriptorIndex := 222, attributes := #[] }, { accessFlags := 8, nameIndex := 562, descriptorIndex := 563, attributes := #[] }])
  fields := #[{ name := "in", type := (.object "java/io/InputStream"), accessFlags := 25, slot := 0, constantValue := 0 }, { name := "out", type := (.object "java/io/PrintStream"), accessFlags := 25, slot := 1, constantValue := 0 }, { name := "err", type := (.object "java/io/PrintStream"), accessFlags := 25, slot := 2, constantValue := 0 }, { name := "initialIn", type := (.object "java/io/InputStream"), accessFlags := 10, slot := 3, constantValue := 0 }, { name := "NEVER", type := .int, accessFlags := 26, slot := 4, constantValue := 0 }, { name := "MAYBE", type := .int, accessFlags := 26, slot := 5, constantValue := 0 }, { name := "allowSecurityManager", type := .int, accessFlags := 10, slot := 6, constantValue := 0 }, { name := "security", type := (.object "java/lang/SecurityManager"), accessFlags := 74, slot := 7, constantValue := 0 }, { name := "notSupportedJnuEncoding", type := (.object "java/lang/String"), accessFlags := 10, slot := 8, constantValue := 0 }, { name := "cons", type := (.object "java/io/Console"), accessFlags := 74, slot := 9, constantValue := 0 }, { name := "initialErrStream", type := (.object "java/io/PrintStream"), accessFlags := 74, slot := 10, constantValue := 0 }, { name := "props", type := (.object "java/util/Properties"), accessFlags := 10, slot := 11, constantValue := 0 }, { name := "lineSeparator", type := (.object "java/lang/String"), accessFlags := 10, slot := 12, constantValue := 0 }, { name := "bootLayer", type := (.object "java/lang/ModuleLayer"), accessFlags := 8, slot := 13, constantValue := 0 }]
  methods := #[k16m0, k16m1]
  instanceTypes := #[]
  staticTypes := #[(.object "java/io/InputStream"), (.object "java/io/PrintStream"), (.object "java/io/PrintStream"), (.object "java/io/InputStream"), .int, .int, .int, (.object "java/lang/SecurityManager"), (.object "java/lang/String"), (.object "java/io/Console"), (.object "java/io/PrintStream"), (.object "java/util/Properties"), (.object "java/lang/String"), (.object "java/lang/ModuleLayer")]
  resolved := Array.replicate 834 none
  statics := none }

def pool17 : Array CpInfo := pool [(2, .class_ 4), (1, u "java/lang/Object"), (0, u "<init>"), (0, u "()V"), (7, .class_ 16), (1, u "java/util/Arrays"), (57, .class_ 76), (1, u "java/util/Arrays$NaturalOrder"), (32, u "()Ljava/lang/Object;"), (3, .class_ 115), (1, u "java/util/Arrays$LegacyMergeSort"), (1, u "Z"), (10, .nameAndType 129 109), (0, u "clone"), (9, u "copyOfRange"), (10, .methodref 151 152), (0, .class_ 153), (0, .nameAndType 154 155), (0, u "java/lang/System"), (0, u "arraycopy"), (0, u "(Ljava/lang/Object;ILjava/lang/Object;II)V"), (146, u "copyOf"), (1, .methodref 305 306), (0, .class_ 307), (0, .nameAndType 308 309), (0, u "java/lang/Math"), (0, u "min"), (0, u "(II)I"), (0, .methodref 311 128), (0, .class_ 312), (0, u "[B"), (26, .methodref 14 340), (0, .nameAndType 341 342), (0, u "copyOfRangeByte"), (0, u "([BII)[B"), (0, .methodref 14 344), (0, .nameAndType 345 346), (0, u "checkLength"), (0, u "(II)V"), (28, .class_ 376), (0, u "java/util/Arrays$ArrayList"), (68, u "$assertionsDisabled"), (269, u "MIN_ARRAY_SORT_GRAN"), (0, u "I"), (2, u "INSERTIONSORT_THRESHOLD"), (149, u "([BI)[B"), (105, .class_ 976), (0, u "java/util/Arrays$ArrayItr")] 52

def k17m0 : Method := { name := "<init>", desc := "()V", sig := { parameters := [], returnType := none }, accessFlags := 2, code := none }
def k17c1 : Code := { maxStack := 6, maxLocals := 3, code := jdk_65_method_121_code, exceptionTable := #[], attributes := #[] }
def k17m1 : Method := { name := "copyOf", desc := "([BI)[B", sig := { parameters := [(.array .byte), .int], returnType := some (.array .byte) }, accessFlags := 9, code := some k17c1 }
def k17c2 : Code := { maxStack := 4, maxLocals := 2, code := jdk_65_method_131_code, exceptionTable := #[], attributes := #[] }
def k17m2 : Method := { name := "checkLength", desc := "(II)V", sig := { parameters := [.int, .int], returnType := none }, accessFlags := 10, code := some k17c2 }
def k17c3 : Code := { maxStack := 3, maxLocals := 3, code := jdk_65_method_132_code, exceptionTable := #[], attributes := #[] }
def k17m3 : Method := { name := "copyOfRange", desc := "([BII)[B", sig := { parameters := [(.array .byte), .int, .int], returnType := some (.array .byte) }, accessFlags := 9, code := some k17c3 }
def k17c4 : Code := { maxStack := 6, maxLocals := 5, code := jdk_65_method_133_code, exceptionTable := #[], attributes := #[] }
def k17m4 : Method := { name := "copyOfRangeByte", desc := "([BII)[B", sig := { parameters := [(.array .byte), .int, .int], returnType := some (.array .byte) }, accessFlags := 10, code := some k17c4 }
/-- java/util/Arrays -/
def k17 : Class := { plain "java/util/Arrays" (some 0) with
  accessFlags := 49
  interfaces := #[]
  cf := some (fileOf pool17 14 #[.nestMembers #[975, 375, 113, 74]] #[{ accessFlags := 2, nameIndex := 5, descriptorIndex := 6, attributes := #[] }, { accessFlags := 9, nameIndex := 302, descriptorIndex := 869, attributes := #[] }, { accessFlags := 10, nameIndex := 345, descriptorIndex := 346, attributes := #[] }, { accessFlags := 9, nameIndex := 139, descriptorIndex := 342, attributes := #[] }, { accessFlags := 10, nameIndex := 341, descriptorIndex := 342, attributes := #[] }] 49 2 #[] #[{ accessFlags := 26, nameIndex := 715, descriptorIndex := 716, attributes := #[] }, { accessFlags := 26, nameIndex := 719, descriptorIndex := 716, attributes := #[] }, { accessFlags := 4120, nameIndex := 445, descriptorIndex := 117, attributes := #[] }])
  fields := #[{ name := "MIN_ARRAY_SORT_GRAN", type := .int, accessFlags := 26, slot := 0, constantValue := 0 }, { name := "INSERTIONSORT_THRESHOLD", type := .int, accessFlags := 26, slot := 1, constantValue := 0 }, { name := "$assertionsDisabled", type := .boolean, accessFlags := 4120, slot := 2, constantValue := 0 }]
  methods := #[k17m0, k17m1, k17m2, k17m3, k17m4]
  instanceTypes := #[]
  staticTypes := #[.int, .int, .boolean]
  resolved := Array.replicate 1029 none
  statics := none }

def pool18 : Array CpInfo := pool [(1, .class_ 2), (0, u "java/lang/Math"), (1, .class_ 6), (1, u "java/lang/Object"), (0, u "<init>"), (0, u "()V"), (89, .class_ 100), (1, u "java/lang/Math$RandomNumberGeneratorHolder"), (71, u "negativeZeroFloatBits"), (0, u "J"), (2, u "negativeZeroDoubleBits"), (21, u "max"), (2, u "min"), (43, u "$assertionsDisabled"), (0, u "Z"), (88, u "(II)I"), (2, u "twoToTheDoubleScaleDown"), (0, u "D"), (4, u "twoToTheDoubleScaleUp"), (9, u "E"), (3, u "PI"), (2, u "TAU"), (2, u "DEGREES_TO_RADIANS"), (0, u "RADIANS_TO_DEGREES")] 94

def k18m0 : Method := { name := "<init>", desc := "()V", sig := { parameters := [], returnType := none }, accessFlags := 2, code := none }
def k18c1 : Code := { maxStack := 2, maxLocals := 2, code := jdk_29_method_65_code, exceptionTable := #[], attributes := #[] }
def k18m1 : Method := { name := "max", desc := "(II)I", sig := { parameters := [.int, .int], returnType := some .int }, accessFlags := 9, code := some k18c1 }
def k18c2 : Code := { maxStack := 2, maxLocals := 2, code := jdk_29_method_69_code, exceptionTable := #[], attributes := #[] }
def k18m2 : Method := { name := "min", desc := "(II)I", sig := { parameters := [.int, .int], returnType := some .int }, accessFlags := 9, code := some k18c2 }
/-- java/lang/Math -/
def k18 : Class := { plain "java/lang/Math" (some 0) with
  accessFlags := 49
  interfaces := #[]
  cf := some (fileOf pool18 1 #[.nestMembers #[98]] #[{ accessFlags := 2, nameIndex := 7, descriptorIndex := 8, attributes := #[] }, { accessFlags := 9, nameIndex := 198, descriptorIndex := 335, attributes := #[] }, { accessFlags := 9, nameIndex := 201, descriptorIndex := 335, attributes := #[] }] 49 4 #[] #[{ accessFlags := 25, nameIndex := 354, descriptorIndex := 339, attributes := #[] }, { accessFlags := 25, nameIndex := 358, descriptorIndex := 339, attributes := #[] }, { accessFlags := 25, nameIndex := 361, descriptorIndex := 339, attributes := #[] }, { accessFlags := 26, nameIndex := 364, descriptorIndex := 339, attributes := #[] }, { accessFlags := 26, nameIndex := 365, descriptorIndex := 339, attributes := #[] }, { accessFlags := 26, nameIndex := 172, descriptorIndex := 173, attributes := #[] }, { accessFlags := 26, nameIndex := 176, descriptorIndex := 173, attributes := #[] }, { accessFlags := 8, nameIndex := 344, descriptorIndex := 339, attributes := #[] }, { accessFlags := 8, nameIndex := 338, descriptorIndex := 339, attributes := #[] }, { accessFlags := 4120, nameIndex := 245, descriptorIndex := 246, attributes := #[] }])
  fields := #[{ name := "E", type := .double, accessFlags := 25, slot := 0, constantValue := 0 }, { name := "PI", type := .double, accessFlags := 25, slot := 1, constantValue := 0 }, { name := "TAU", type := .double, accessFlags := 25, slot := 2, constantValue := 0 }, { name := "DEGREES_TO_RADIANS", type := .double, accessFlags := 26, slot := 3, constantValue := 0 }, { name := "RADIANS_TO_DEGREES", type := .double, accessFlags := 26, slot := 4, constantValue := 0 }, { name := "negativeZeroFloatBits", type := .long, accessFlags := 26, slot := 5, constantValue := 0 }, { name := "negativeZeroDoubleBits", type := .long, accessFlags := 26, slot := 6, constantValue := 0 }, { name := "twoToTheDoubleScaleUp", type := .double, accessFlags := 8, slot := 7, constantValue := 0 }, { name := "twoToTheDoubleScaleDown", type := .double, accessFlags := 8, slot := 8, constantValue := 0 }, { name := "$assertionsDisabled", type := .boolean, accessFlags := 4120, slot := 9, constantValue := 0 }]
  methods := #[k18m0, k18m1, k18m2]
  instanceTypes := #[]
  staticTypes := #[.double, .double, .double, .double, .double, .long, .long, .double, .double, .boolean]
  resolved := Array.replicate 460 none
  statics := none }

def pool19 : Array CpInfo := pool [(1, .class_ 2), (0, u "java/lang/String"), (1, .class_ 6), (1, u "java/lang/Object"), (0, u "<init>"), (0, u "()V"), (0, .methodref 1 10), (0, .nameAndType 11 12), (0, u "checkIndex"), (0, u "(II)V"), (1, .class_ 16), (1, u "java/lang/StringLatin1"), (36, u "([BI)C"), (67, u "$assertionsDisabled"), (0, u "Z"), (98, .class_ 223), (1, u "java/lang/StringLatin1$LinesSpliterator"), (28, u "charAt"), (28, u "equals"), (0, u "([B[B)Z"), (107, .class_ 391), (0, u "java/lang/StringLatin1$CharsSpliterator")] 3

def k19m0 : Method := { name := "<init>", desc := "()V", sig := { parameters := [], returnType := none }, accessFlags := 0, code := none }
def k19c1 : Code := { maxStack := 2, maxLocals := 2, code := jdk_43_method_2_code, exceptionTable := #[], attributes := #[] }
def k19m1 : Method := { name := "charAt", desc := "([BI)C", sig := { parameters := [(.array .byte), .int], returnType := some .char }, accessFlags := 9, code := some k19c1 }
def k19c2 : Code := { maxStack := 3, maxLocals := 3, code := jdk_43_method_13_code, exceptionTable := #[], attributes := #[] }
def k19m2 : Method := { name := "equals", desc := "([B[B)Z", sig := { parameters := [(.array .byte), (.array .byte)], returnType := some .boolean }, accessFlags := 9, code := some k19c2 }
/-- java/lang/StringLatin1 -/
def k19 : Class := { plain "java/lang/StringLatin1" (some 0) with
  accessFlags := 48
  interfaces := #[]
  cf := some (fileOf pool19 14 #[.nestMembers #[390, 221]] #[{ accessFlags := 0, nameIndex := 7, descriptorIndex := 8, attributes := #[] }, { accessFlags := 9, nameIndex := 252, descriptorIndex := 53, attributes := #[] }, { accessFlags := 9, nameIndex := 281, descriptorIndex := 282, attributes := #[] }] 48 4 #[] #[{ accessFlags := 4120, nameIndex := 121, descriptorIndex := 122, attributes := #[] }])
  fields := #[{ name := "$assertionsDisabled", type := .boolean, accessFlags := 4120, slot := 0, constantValue := 0 }]
  methods := #[k19m0, k19m1, k19m2]
  instanceTypes := #[]
  staticTypes := #[.boolean]
  resolved := Array.replicate 395 none
  statics := none }

def pool20 : Array CpInfo := pool [(2, .class_ 4), (1, u "java/lang/Object"), (0, u "<init>"), (0, u "()V"), (17, .class_ 26), (1, u "jdk/internal/util/Preconditions"), (6, u "checkIndex"), (21, .class_ 56), (0, u "jdk/internal/util/Preconditions$4"), (57, .class_ 115), (0, u "jdk/internal/util/Preconditions$1"), (7, u "SIOOBE_FORMATTER"), (0, u "Ljava/util/function/BiFunction;"), (0, .class_ 126), (0, u "jdk/internal/util/Preconditions$2"), (3, u "AIOOBE_FORMATTER"), (0, .class_ 132), (0, u "jdk/internal/util/Preconditions$3"), (3, u "IOOBE_FORMATTER"), (41, u "(IILjava/util/function/BiFunction;)I")] 15

def k20m0 : Method := { name := "<init>", desc := "()V", sig := { parameters := [], returnType := none }, accessFlags := 1, code := none }
def k20c1 : Code := { maxStack := 3, maxLocals := 3, code := jdk_41_method_11_code, exceptionTable := #[], attributes := #[] }
def k20m1 : Method := { name := "checkIndex", desc := "(IILjava/util/function/BiFunction;)I", sig := { parameters := [.int, .int, (.object "java/util/function/BiFunction")], returnType := some .int }, accessFlags := 9, code := some k20c1 }
/-- jdk/internal/util/Preconditions -/
def k20 : Class := { plain "jdk/internal/util/Preconditions" (some 0) with
  accessFlags := 33
  interfaces := #[]
  cf := some (fileOf pool20 24 #[.nestMembers #[55, 131, 125, 114]] #[{ accessFlags := 1, nameIndex := 5, descriptorIndex := 6, attributes := #[] }, { accessFlags := 9, nameIndex := 33, descriptorIndex := 178, attributes := #[] }] 33 2 #[] #[{ accessFlags := 25, nameIndex := 123, descriptorIndex := 124, attributes := #[] }, { accessFlags := 25, nameIndex := 130, descriptorIndex := 124, attributes := #[] }, { accessFlags := 25, nameIndex := 136, descriptorIndex := 124, attributes := #[] }])
  fields := #[{ name := "SIOOBE_FORMATTER", type := (.object "java/util/function/BiFunction"), accessFlags := 25, slot := 0, constantValue := 0 }, { name := "AIOOBE_FORMATTER", type := (.object "java/util/function/BiFunction"), accessFlags := 25, slot := 1, constantValue := 0 }, { name := "IOOBE_FORMATTER", type := (.object "java/util/function/BiFunction"), accessFlags := 25, slot := 2, constantValue := 0 }]
  methods := #[k20m0, k20m1]
  instanceTypes := #[]
  staticTypes := #[(.object "java/util/function/BiFunction"), (.object "java/util/function/BiFunction"), (.object "java/util/function/BiFunction")]
  resolved := Array.replicate 194 none
  statics := some 3 }

def pool21 : Array CpInfo := pool [(9, u "<init>"), (6, .class_ 18), (1, u "java/lang/Object"), (0, u "()V"), (1, .class_ 23), (1, u "jdk/internal/util/ArraysSupport"), (0, u "LOG2_ARRAY_LONG_INDEX_SCALE"), (0, u "I"), (2, u "U"), (0, u "Ljdk/internal/misc/Unsafe;"), (8, u "BIG_ENDIAN"), (0, u "Z"), (8, u "LOG2_BYTE_BIT_SIZE"), (4, u "LOG2_ARRAY_INT_INDEX_SCALE"), (54, u "JLA"), (0, u "Ljdk/internal/access/JavaLangAccess;"), (11, u "LOG2_ARRAY_BOOLEAN_INDEX_SCALE"), (9, u "LOG2_ARRAY_BYTE_INDEX_SCALE"), (5, u "LOG2_ARRAY_CHAR_INDEX_SCALE"), (5, u "LOG2_ARRAY_SHORT_INDEX_SCALE"), (18, u "LOG2_ARRAY_FLOAT_INDEX_SCALE"), (24, u "LOG2_ARRAY_DOUBLE_INDEX_SCALE"), (6, .methodref 195 196), (0, .class_ 197), (0, .nameAndType 198 199), (0, u "java/lang/Math"), (0, u "max"), (0, u "(II)I"), (0, .integer 2147483639), (76, u "T_BOOLEAN"), (2, u "T_CHAR"), (1, u "T_FLOAT"), (1, u "T_DOUBLE"), (1, u "T_BYTE"), (1, u "T_SHORT"), (1, u "T_INT"), (1, u "T_LONG"), (1, u "SOFT_MAX_ARRAY_LENGTH"), (56, u "newLength"), (0, u "(III)I")] 25

def k21m0 : Method := { name := "<init>", desc := "()V", sig := { parameters := [], returnType := none }, accessFlags := 2, code := none }
def k21c1 : Code := { maxStack := 3, maxLocals := 4, code := jdk_48_method_27_code, exceptionTable := #[], attributes := #[] }
def k21m1 : Method := { name := "newLength", desc := "(III)I", sig := { parameters := [.int, .int, .int], returnType := some .int }, accessFlags := 9, code := some k21c1 }
/-- jdk/internal/util/ArraysSupport -/
def k21 : Class := { plain "jdk/internal/util/ArraysSupport" (some 0) with
  accessFlags := 33
  interfaces := #[]
  cf := some (fileOf pool21 21 #[] #[{ accessFlags := 2, nameIndex := 9, descriptorIndex := 19, attributes := #[] }, { accessFlags := 9, nameIndex := 351, descriptorIndex := 352, attributes := #[] }] 33 16 #[] #[{ accessFlags := 24, nameIndex := 28, descriptorIndex := 29, attributes := #[] }, { accessFlags := 26, nameIndex := 38, descriptorIndex := 39, attributes := #[] }, { accessFlags := 25, nameIndex := 121, descriptorIndex := 25, attributes := #[] }, { accessFlags := 25, nameIndex := 131, descriptorIndex := 25, attributes := #[] }, { accessFlags := 25, nameIndex := 137, descriptorIndex := 25, attributes := #[] }, { accessFlags := 25, nameIndex := 143, descriptorIndex := 25, attributes := #[] }, { accessFlags := 25, nameIndex := 53, descriptorIndex := 25, attributes := #[] }, { accessFlags := 25, nameIndex := 24, descriptorIndex := 25, attributes := #[] }, { accessFlags := 25, nameIndex := 162, descriptorIndex := 25, attributes := #[] }, { accessFlags := 25, nameIndex := 187, descriptorIndex := 25, attributes := #[] }, { accessFlags := 26, nameIndex := 48, descriptorIndex := 25, attributes := #[] }, { accessFlags := 25, nameIndex := 277, descriptorIndex := 25, attributes := #[] }, { accessFlags := 25, nameIndex := 280, descriptorIndex := 25, attributes := #[] }, { accessFlags := 25, nameIndex := 282, descriptorIndex := 25, attributes := #[] }, { accessFlags := 25, nameIndex := 284, descriptorIndex := 25, attributes := #[] }, { accessFlags := 25, nameIndex := 286, descriptorIndex := 25, attributes := #[] }, { accessFlags := 25, nameIndex := 288, descriptorIndex := 25, attributes := #[] }, { accessFlags := 25, nameIndex := 290, descriptorIndex := 25, attributes := #[] }, { accessFlags := 25, nameIndex := 292, descriptorIndex := 25, attributes := #[] }, { accessFlags := 26, nameIndex := 108, descriptorIndex := 109, attributes := #[] }, { accessFlags := 25, nameIndex := 294, descriptorIndex := 25, attributes := #[] }])
  fields := #[{ name := "U", type := (.object "jdk/internal/misc/Unsafe"), accessFlags := 24, slot := 0, constantValue := 0 }, { name := "BIG_ENDIAN", type := .boolean, accessFlags := 26, slot := 1, constantValue := 0 }, { name := "LOG2_ARRAY_BOOLEAN_INDEX_SCALE", type := .int, accessFlags := 25, slot := 2, constantValue := 0 }, { name := "LOG2_ARRAY_BYTE_INDEX_SCALE", type := .int, accessFlags := 25, slot := 3, constantValue := 0 }, { name := "LOG2_ARRAY_CHAR_INDEX_SCALE", type := .int, accessFlags := 25, slot := 4, constantValue := 0 }, { name := "LOG2_ARRAY_SHORT_INDEX_SCALE", type := .int, accessFlags := 25, slot := 5, constantValue := 0 }, { name := "LOG2_ARRAY_INT_INDEX_SCALE", type := .int, accessFlags := 25, slot := 6, constantValue := 0 }, { name := "LOG2_ARRAY_LONG_INDEX_SCALE", type := .int, accessFlags := 25, slot := 7, constantValue := 0 }, { name := "LOG2_ARRAY_FLOAT_INDEX_SCALE", type := .int, accessFlags := 25, slot := 8, constantValue := 0 }, { name := "LOG2_ARRAY_DOUBLE_INDEX_SCALE", type := .int, accessFlags := 25, slot := 9, constantValue := 0 }, { name := "LOG2_BYTE_BIT_SIZE", type := .int, accessFlags := 26, slot := 10, constantValue := 0 }, { name := "T_BOOLEAN", type := .int, accessFlags := 25, slot := 11, constantValue := 0 }, { name := "T_CHAR", type := .int, accessFlags := 25, slot := 12, constantValue := 0 }, { name := "T_FLOAT", type := .int, accessFlags := 25, slot := 13, constantValue := 0 }, { name := "T_DOUBLE", type := .int, accessFlags := 25, slot := 14, constantValue := 0 }, { name := "T_BYTE", type := .int, accessFlags := 25, slot := 15, constantValue := 0 }, { name := "T_SHORT", type := .int, accessFlags := 25, slot := 16, constantValue := 0 }, { name := "T_INT", type := .int, accessFlags := 25, slot := 17, constantValue := 0 }, { name := "T_LONG", type := .int, accessFlags := 25, slot := 18, constantValue := 0 }, { name := "JLA", type := (.object "jdk/internal/access/JavaLangAccess"), accessFlags := 26, slot := 19, constantValue := 0 }, { name := "SOFT_MAX_ARRAY_LENGTH", type := .int, accessFlags := 25, slot := 20, constantValue := 0 }]
  methods := #[k21m0, k21m1]
  instanceTypes := #[]
  staticTypes := #[(.object "jdk/internal/misc/Unsafe"), .boolean, .int, .int, .int, .int, .int, .int, .int, .int, .int, .int, .int, .int, .int, .int, .int, .int, .int, (.object "jdk/internal/access/JavaLangAccess"), .int]
  resolved := Array.replicate 378 none
  statics := none }

def pool22 : Array CpInfo := pool [(1, .class_ 2), (0, u "java/lang/Cloneable"), (0, .class_ 4), (0, u "java/lang/Object")] 2

/-- java/lang/Cloneable -/
def k22 : Class := { plain "java/lang/Cloneable" (some 0) with
  accessFlags := 1537
  interfaces := #[]
  cf := some (fileOf pool22 1 #[] #[] 1537 3 #[] #[])
  fields := #[]
  methods := #[]
  instanceTypes := #[]
  staticTypes := #[]
  resolved := Array.replicate 7 none
  statics := none }

/-- the primitive byte -/
def k23 : Class := { plain "byte" none with kind := .primitive 'B', accessFlags := 0x411 }
/-- [B -/
def k24 : Class := { plain "[B" (some 0) with kind := .array 23 .byte, interfaces := #[22, 5], accessFlags := 1041 }

/-- the primitive int -/
def k25 : Class := { plain "int" none with kind := .primitive 'I', accessFlags := 0x411 }
/-- [I -/
def k26 : Class := { plain "[I" (some 0) with kind := .array 25 .int, interfaces := #[22, 5], accessFlags := 1041 }

def heap : Heap := #[{ cls := 7, slots := #[.null, .null, .null, .ref 5, .null, .null, .null, .long 0, .long 0, .long 0, .long 0, .long 0, .long 0, .long 0, .null], vm := .statics 7 },
  { cls := 13, slots := #[.long 0, .int 1, .null, .int 0, .null, .int 0, .int 0], vm := .statics 13 },
  { cls := 15, slots := #[.int 0, .int 0, .null, .null, .ref 7, .ref 6, .int 0, .int 0, .long 0], vm := .statics 15 },
  { cls := 20, slots := #[.null, .null, .null], vm := .statics 20 },
  { cls := 13, slots := #[.null, .int 0, .int 0, .int 0], vm := .none },
  { cls := 7, slots := #[.ref 4, .int 3, .int 0, .long 1000000000, .long 9223372036, .long 9223372036854, .long 9223372036854775, .long 9223372036854775807, .long 1000000, .int 1000, .int 1], vm := .none },
  { cls := 24, slots := #[.int 48, .int 49, .int 50, .int 51, .int 52, .int 53, .int 54, .int 55, .int 56, .int 57, .int 48, .int 49, .int 50, .int 51, .int 52, .int 53, .int 54, .int 55, .int 56, .int 57, .int 48, .int 49, .int 50, .int 51, .int 52, .int 53, .int 54, .int 55, .int 56, .int 57, .int 48, .int 49, .int 50, .int 51, .int 52, .int 53, .int 54, .int 55, .int 56, .int 57, .int 48, .int 49, .int 50, .int 51, .int 52, .int 53, .int 54, .int 55, .int 56, .int 57, .int 48, .int 49, .int 50, .int 51, .int 52, .int 53, .int 54, .int 55, .int 56, .int 57, .int 48, .int 49, .int 50, .int 51, .int 52, .int 53, .int 54, .int 55, .int 56, .int 57, .int 48, .int 49, .int 50, .int 51, .int 52, .int 53, .int 54, .int 55, .int 56, .int 57, .int 48, .int 49, .int 50, .int 51, .int 52, .int 53, .int 54, .int 55, .int 56, .int 57, .int 48, .int 49, .int 50, .int 51, .int 52, .int 53, .int 54, .int 55, .int 56, .int 57], vm := .none },
  { cls := 24, slots := #[.int 48, .int 48, .int 48, .int 48, .int 48, .int 48, .int 48, .int 48, .int 48, .int 48, .int 49, .int 49, .int 49, .int 49, .int 49, .int 49, .int 49, .int 49, .int 49, .int 49, .int 50, .int 50, .int 50, .int 50, .int 50, .int 50, .int 50, .int 50, .int 50, .int 50, .int 51, .int 51, .int 51, .int 51, .int 51, .int 51, .int 51, .int 51, .int 51, .int 51, .int 52, .int 52, .int 52, .int 52, .int 52, .int 52, .int 52, .int 52, .int 52, .int 52, .int 53, .int 53, .int 53, .int 53, .int 53, .int 53, .int 53, .int 53, .int 53, .int 53, .int 54, .int 54, .int 54, .int 54, .int 54, .int 54, .int 54, .int 54, .int 54, .int 54, .int 55, .int 55, .int 55, .int 55, .int 55, .int 55, .int 55, .int 55, .int 55, .int 55, .int 56, .int 56, .int 56, .int 56, .int 56, .int 56, .int 56, .int 56, .int 56, .int 56, .int 57, .int 57, .int 57, .int 57, .int 57, .int 57, .int 57, .int 57, .int 57, .int 57], vm := .none }]
def classes : Array Class := #[k0, k1, k2, k3, k4, k5, k6, k7, k8, k9, k10, k11, k12, k13, k14, k15, k16, k17, k18, k19, k20, k21, k22, k23, k24, k25, k26]
def interned : List (Array UInt16 × Addr) := []
def slotsUsed : Nat := 249
def theMethod : MethodId := ⟨1, 1⟩
def args0 : Array Value := #[.int 12]
def aboutOver (below : List Frame) : State where
  vm := { classes := classes, interned := interned.toArray }
  heap := heap
  slotsUsed := slotsUsed
  threads := #[{ frames := .invoking theMethod args0 :: below }]
def below0 : List Frame := [.native { method := ⟨0, 0⟩, args := #[] }]
def about1 : State := aboutOver below0
def p0 : Program := .bare "" "" ""
def e0 : Env := launch0.env 0 0 0
theorem w_frames : about1.frames = Frame.invoking theMethod args0 :: below0 := rfl
set_option maxRecDepth 65536 in
theorem w_args : argsFit about1.vm theMethod args0 = true := by decide +kernel
set_option maxRecDepth 65536 in
theorem w_heap : heapFits about1 = true := by decide +kernel
set_option maxRecDepth 65536 in
theorem w_runnable : about1.curStatus? = some .runnable := by decide +kernel
set_option maxRecDepth 65536 in
theorem w_alone : about1.alone = true := by decide +kernel
set_option maxRecDepth 65536 in
theorem w_named : about1.methodNamed? x = some theMethod := by decide +kernel
set_option maxRecDepth 65536 in
theorem w_hears : about1.hears theMethod below0 = true := by decide +kernel
set_option maxRecDepth 65536 in
theorem w_ripe : about1.ripe theMethod args0 below0 = true := by decide +kernel
theorem w_running : about1.status = .running := rfl
set_option maxRecDepth 65536 in
theorem w_room : about1.hasRoom e0.platform room_1 = true :=
  launch0.hasRoom_least _ room_1 (by decide +kernel) (by decide +kernel) (by decide +kernel) (by decide +kernel) (by decide +kernel) (by decide +kernel)
theorem allAtoms_all (ts : List Jvm.Cond) (a : Array Jvm.Value) (st : Jvm.State) : (allAtoms ts).before a st = ts.all (fun c => c.before a st) := by
  induction ts with
  | nil => rfl
  | cons c t ih =>
    show (Jvm.Cond.and c (allAtoms t)).before a st = _
    rw [Jvm.Cond.before_and, ih, List.all_cons]
def words1 : List Jvm.Cond := Jvm.Cond.code x code maxLocals ret :: tables_1
/-- a 'code' word, met by the world's own term for the bytes: nothing is compared byte by byte -/
theorem code_word {y : MethodName} {bytes : ByteArray} {mx : Nat} {rt : Option FieldType} {a : Array Value} {s : State} {m : MethodId} {meth : Method} {c : Code} (h1 : s.methodNamed? y = some m) (h2 : s.vm.method? m = some meth) (h3 : meth.code = some c) (h4 : c.code = bytes)
    (h5 : (c.maxLocals == mx && c.exceptionTable.isEmpty && decide (c.maxStack ≤ mostOperands) && decide (meth.sig.returnType = rt) && !meth.locks && decide (parseMethodDescriptor y.desc = some meth.sig)) = true) : (Jvm.Cond.code y bytes mx rt).before a s = true := by
  simp only [Bool.and_eq_true, beq_iff_eq, Bool.not_eq_true', decide_eq_true_eq] at h5
  obtain ⟨⟨⟨⟨⟨g1, g2⟩, g3⟩, g4⟩, g5⟩, g6⟩ := h5
  simp [Cond.before, Cond.holds, Cond.value, h1, h2, h3, h4, g1, g2, g3, g4, g5, g6]
def isCode : Jvm.Cond → Bool
  | .code _ _ _ _ => true
  | _ => false
theorem all_split {L : List Jvm.Cond} {P : Jvm.Cond → Bool} (h1 : L.all (fun c => isCode c || P c) = true) (h2 : ∀ c ∈ L.filter isCode, P c = true) : L.all P = true := by
  refine List.all_eq_true.mpr fun c hc => ?_
  have h := List.all_eq_true.mp h1 c hc
  rcases Bool.eq_false_or_eq_true (isCode c) with hi | hi
  · exact h2 c (List.mem_filter.mpr ⟨hc, hi⟩)
  · simpa [hi] using h
set_option maxRecDepth 65536 in
theorem w_c0 : (Jvm.Cond.code x code maxLocals ret).before args0 about1 = true := code_word (m := ⟨1, 1⟩) (meth := k1m1) (c := k1c1) (by decide +kernel) rfl rfl rfl (by decide +kernel)
set_option maxRecDepth 65536 in
theorem w_c1 : (Jvm.Cond.code ({ cls := "org/samehood/calls/CallLimit", name := "of", desc := "(I)Lorg/samehood/calls/CallLimit;" } : Jvm.MethodName) prog_15_method_2_code (1 : Nat) (Option.some (Jvm.ClassFile.FieldType.object "org/samehood/calls/CallLimit"))).before args0 about1 = true := code_word (m := ⟨2, 1⟩) (meth := k2m1) (c := k2c1) (by decide +kernel) rfl rfl rfl (by decide +kernel)
set_option maxRecDepth 65536 in
theorem w_c2 : (Jvm.Cond.code ({ cls := "org/samehood/calls/CallLimit", name := "<init>", desc := "(I)V" } : Jvm.MethodName) prog_15_method_1_code (2 : Nat) (Option.none : Option Jvm.ClassFile.FieldType)).before args0 about1 = true := code_word (m := ⟨2, 0⟩) (meth := k2m0) (c := k2c0) (by decide +kernel) rfl rfl rfl (by decide +kernel)
set_option maxRecDepth 65536 in
theorem w_c3 : (Jvm.Cond.code ({ cls := "java/lang/Object", name := "<init>", desc := "()V" } : Jvm.MethodName) object_method_1_code (1 : Nat) (Option.none : Option Jvm.ClassFile.FieldType)).before args0 about1 = true := code_word (m := ⟨0, 0⟩) (meth := k0m0) (c := k0c0) (by decide +kernel) rfl rfl rfl (by decide +kernel)
set_option maxRecDepth 65536 in
theorem w_c4 : (Jvm.Cond.code ({ cls := "org/samehood/calls/CallLimit", name := "nanos", desc := "()J" } : Jvm.MethodName) prog_15_method_5_code (1 : Nat) (Option.some Jvm.ClassFile.FieldType.long)).before args0 about1 = true := code_word (m := ⟨2, 2⟩) (meth := k2m2) (c := k2c2) (by decide +kernel) rfl rfl rfl (by decide +kernel)
set_option maxRecDepth 65536 in
theorem w_c5 : (Jvm.Cond.code ({ cls := "java/util/concurrent/TimeUnit", name := "toNanos", desc := "(J)J" } : Jvm.MethodName) jdk_2799_method_7_code (7 : Nat) (Option.some Jvm.ClassFile.FieldType.long)).before args0 about1 = true := code_word (m := ⟨7, 0⟩) (meth := k7m0) (c := k7c0) (by decide +kernel) rfl rfl rfl (by decide +kernel)
set_option maxRecDepth 65536 in
theorem w_c6 : (Jvm.Cond.code ({ cls := "org/samehood/calls/CallLimit", name := "toString", desc := "()Ljava/lang/String;" } : Jvm.MethodName) prog_15_method_8_code (1 : Nat) (Option.some (Jvm.ClassFile.FieldType.object "java/lang/String"))).before args0 about1 = true := code_word (m := ⟨2, 3⟩) (meth := k2m3) (c := k2c3) (by decide +kernel) rfl rfl rfl (by decide +kernel)
set_option maxRecDepth 65536 in
theorem w_c7 : (Jvm.Cond.code ({ cls := "java/lang/StringBuilder", name := "<init>", desc := "()V" } : Jvm.MethodName) jdk_67_method_1_code (1 : Nat) (Option.none : Option Jvm.ClassFile.FieldType)).before args0 about1 = true := code_word (m := ⟨11, 0⟩) (meth := k11m0) (c := k11c0) (by decide +kernel) rfl rfl rfl (by decide +kernel)
set_option maxRecDepth 65536 in
theorem w_c8 : (Jvm.Cond.code ({ cls := "java/lang/AbstractStringBuilder", name := "<init>", desc := "(I)V" } : Jvm.MethodName) jdk_68_method_2_code (2 : Nat) (Option.none : Option Jvm.ClassFile.FieldType)).before args0 about1 = true := code_word (m := ⟨10, 1⟩) (meth := k10m1) (c := k10c1) (by decide +kernel) rfl rfl rfl (by decide +kernel)
set_option maxRecDepth 65536 in
theorem w_c9 : (Jvm.Cond.code ({ cls := "java/lang/StringBuilder", name := "append", desc := "(I)Ljava/lang/StringBuilder;" } : Jvm.MethodName) jdk_67_method_15_code (2 : Nat) (Option.some (Jvm.ClassFile.FieldType.object "java/lang/StringBuilder"))).before args0 about1 = true := code_word (m := ⟨11, 2⟩) (meth := k11m2) (c := k11c2) (by decide +kernel) rfl rfl rfl (by decide +kernel)
set_option maxRecDepth 65536 in
theorem w_c10 : (Jvm.Cond.code ({ cls := "java/lang/AbstractStringBuilder", name := "append", desc := "(I)Ljava/lang/AbstractStringBuilder;" } : Jvm.MethodName) jdk_68_method_32_code (4 : Nat) (Option.some (Jvm.ClassFile.FieldType.object "java/lang/AbstractStringBuilder"))).before args0 about1 = true := code_word (m := ⟨10, 6⟩) (meth := k10m6) (c := k10c6) (by decide +kernel) rfl rfl rfl (by decide +kernel)
set_option maxRecDepth 65536 in
theorem w_c11 : (Jvm.Cond.code ({ cls := "java/lang/Integer", name := "stringSize", desc := "(I)I" } : Jvm.MethodName) jdk_33_method_13_code (4 : Nat) (Option.some Jvm.ClassFile.FieldType.int)).before args0 about1 = true := code_word (m := ⟨15, 1⟩) (meth := k15m1) (c := k15c1) (by decide +kernel) rfl rfl rfl (by decide +kernel)
set_option maxRecDepth 65536 in
theorem w_c12 : (Jvm.Cond.code ({ cls := "java/lang/AbstractStringBuilder", name := "ensureCapacityInternal", desc := "(I)V" } : Jvm.MethodName) jdk_68_method_9_code (3 : Nat) (Option.none : Option Jvm.ClassFile.FieldType)).before args0 about1 = true := code_word (m := ⟨10, 3⟩) (meth := k10m3) (c := k10c3) (by decide +kernel) rfl rfl rfl (by decide +kernel)
set_option maxRecDepth 65536 in
theorem w_c13 : (Jvm.Cond.code ({ cls := "java/lang/AbstractStringBuilder", name := "isLatin1", desc := "()Z" } : Jvm.MethodName) jdk_68_method_68_code (1 : Nat) (Option.some Jvm.ClassFile.FieldType.boolean)).before args0 about1 = true := code_word (m := ⟨10, 8⟩) (meth := k10m8) (c := k10c8) (by decide +kernel) rfl rfl rfl (by decide +kernel)
set_option maxRecDepth 65536 in
theorem w_c14 : (Jvm.Cond.code ({ cls := "java/lang/Integer", name := "getChars", desc := "(II[B)I" } : Jvm.MethodName) jdk_33_method_12_code (7 : Nat) (Option.some Jvm.ClassFile.FieldType.int)).before args0 about1 = true := code_word (m := ⟨15, 0⟩) (meth := k15m0) (c := k15c0) (by decide +kernel) rfl rfl rfl (by decide +kernel)
set_option maxRecDepth 65536 in
theorem w_c15 : (Jvm.Cond.code ({ cls := "java/lang/StringBuilder", name := "append", desc := "(Ljava/lang/String;)Ljava/lang/StringBuilder;" } : Jvm.MethodName) jdk_67_method_7_code (2 : Nat) (Option.some (Jvm.ClassFile.FieldType.object "java/lang/StringBuilder"))).before args0 about1 = true := code_word (m := ⟨11, 1⟩) (meth := k11m1) (c := k11c1) (by decide +kernel) rfl rfl rfl (by decide +kernel)
set_option maxRecDepth 65536 in
theorem w_c16 : (Jvm.Cond.code ({ cls := "java/lang/AbstractStringBuilder", name := "append", desc := "(Ljava/lang/String;)Ljava/lang/AbstractStringBuilder;" } : Jvm.MethodName) jdk_68_method_22_code (3 : Nat) (Option.some (Jvm.ClassFile.FieldType.object "java/lang/AbstractStringBuilder"))).before args0 about1 = true := code_word (m := ⟨10, 5⟩) (meth := k10m5) (c := k10c5) (by decide +kernel) rfl rfl rfl (by decide +kernel)
set_option maxRecDepth 65536 in
theorem w_c17 : (Jvm.Cond.code ({ cls := "java/lang/String", name := "length", desc := "()I" } : Jvm.MethodName) jdk_42_method_54_code (1 : Nat) (Option.some Jvm.ClassFile.FieldType.int)).before args0 about1 = true := code_word (m := ⟨13, 2⟩) (meth := k13m2) (c := k13c2) (by decide +kernel) rfl rfl rfl (by decide +kernel)
set_option maxRecDepth 65536 in
theorem w_c18 : (Jvm.Cond.code ({ cls := "java/lang/String", name := "coder", desc := "()B" } : Jvm.MethodName) jdk_42_method_152_code (1 : Nat) (Option.some Jvm.ClassFile.FieldType.byte)).before args0 about1 = true := code_word (m := ⟨13, 7⟩) (meth := k13m7) (c := k13c7) (by decide +kernel) rfl rfl rfl (by decide +kernel)
set_option maxRecDepth 65536 in
theorem w_c19 : (Jvm.Cond.code ({ cls := "java/lang/AbstractStringBuilder", name := "putStringAt", desc := "(ILjava/lang/String;)V" } : Jvm.MethodName) jdk_68_method_73_code (3 : Nat) (Option.none : Option Jvm.ClassFile.FieldType)).before args0 about1 = true := code_word (m := ⟨10, 10⟩) (meth := k10m10) (c := k10c10) (by decide +kernel) rfl rfl rfl (by decide +kernel)
set_option maxRecDepth 65536 in
theorem w_c20 : (Jvm.Cond.code ({ cls := "java/lang/AbstractStringBuilder", name := "inflateIfNeededFor", desc := "(Ljava/lang/String;)V" } : Jvm.MethodName) jdk_68_method_71_code (2 : Nat) (Option.none : Option Jvm.ClassFile.FieldType)).before args0 about1 = true := code_word (m := ⟨10, 9⟩) (meth := k10m9) (c := k10c9) (by decide +kernel) rfl rfl rfl (by decide +kernel)
set_option maxRecDepth 65536 in
theorem w_c21 : (Jvm.Cond.code ({ cls := "java/lang/String", name := "getBytes", desc := "([BIB)V" } : Jvm.MethodName) jdk_42_method_147_code (4 : Nat) (Option.none : Option Jvm.ClassFile.FieldType)).before args0 about1 = true := code_word (m := ⟨13, 5⟩) (meth := k13m5) (c := k13c5) (by decide +kernel) rfl rfl rfl (by decide +kernel)
set_option maxRecDepth 65536 in
theorem w_c22 : (Jvm.Cond.code ({ cls := "java/lang/StringBuilder", name := "toString", desc := "()Ljava/lang/String;" } : Jvm.MethodName) jdk_67_method_42_code (1 : Nat) (Option.some (Jvm.ClassFile.FieldType.object "java/lang/String"))).before args0 about1 = true := code_word (m := ⟨11, 3⟩) (meth := k11m3) (c := k11c3) (by decide +kernel) rfl rfl rfl (by decide +kernel)
set_option maxRecDepth 65536 in
theorem w_c23 : (Jvm.Cond.code ({ cls := "java/lang/String", name := "<init>", desc := "(Ljava/lang/StringBuilder;)V" } : Jvm.MethodName) jdk_42_method_53_code (2 : Nat) (Option.none : Option Jvm.ClassFile.FieldType)).before args0 about1 = true := code_word (m := ⟨13, 1⟩) (meth := k13m1) (c := k13c1) (by decide +kernel) rfl rfl rfl (by decide +kernel)
set_option maxRecDepth 65536 in
theorem w_c24 : (Jvm.Cond.code ({ cls := "java/lang/String", name := "<init>", desc := "(Ljava/lang/AbstractStringBuilder;Ljava/lang/Void;)V" } : Jvm.MethodName) jdk_42_method_150_code (5 : Nat) (Option.none : Option Jvm.ClassFile.FieldType)).before args0 about1 = true := code_word (m := ⟨13, 6⟩) (meth := k13m6) (c := k13c6) (by decide +kernel) rfl rfl rfl (by decide +kernel)
set_option maxRecDepth 65536 in
theorem w_c25 : (Jvm.Cond.code ({ cls := "java/lang/AbstractStringBuilder", name := "getValue", desc := "()[B" } : Jvm.MethodName) jdk_68_method_64_code (1 : Nat) (Option.some (Jvm.ClassFile.FieldType.array Jvm.ClassFile.FieldType.byte))).before args0 about1 = true := code_word (m := ⟨10, 7⟩) (meth := k10m7) (c := k10c7) (by decide +kernel) rfl rfl rfl (by decide +kernel)
set_option maxRecDepth 65536 in
theorem w_c26 : (Jvm.Cond.code ({ cls := "java/lang/StringBuilder", name := "length", desc := "()I" } : Jvm.MethodName) jdk_67_method_93_code (1 : Nat) (Option.some Jvm.ClassFile.FieldType.int)).before args0 about1 = true := code_word (m := ⟨11, 4⟩) (meth := k11m4) (c := k11c4) (by decide +kernel) rfl rfl rfl (by decide +kernel)
set_option maxRecDepth 65536 in
theorem w_c27 : (Jvm.Cond.code ({ cls := "java/lang/AbstractStringBuilder", name := "length", desc := "()I" } : Jvm.MethodName) jdk_68_method_6_code (1 : Nat) (Option.some Jvm.ClassFile.FieldType.int)).before args0 about1 = true := code_word (m := ⟨10, 2⟩) (meth := k10m2) (c := k10c2) (by decide +kernel) rfl rfl rfl (by decide +kernel)
set_option maxRecDepth 65536 in
theorem w_c28 : (Jvm.Cond.code ({ cls := "java/util/Arrays", name := "copyOfRange", desc := "([BII)[B" } : Jvm.MethodName) jdk_65_method_132_code (3 : Nat) (Option.some (Jvm.ClassFile.FieldType.array Jvm.ClassFile.FieldType.byte))).before args0 about1 = true := code_word (m := ⟨17, 3⟩) (meth := k17m3) (c := k17c3) (by decide +kernel) rfl rfl rfl (by decide +kernel)
set_option maxRecDepth 65536 in
theorem w_c29 : (Jvm.Cond.code ({ cls := "java/util/Arrays", name := "copyOfRangeByte", desc := "([BII)[B" } : Jvm.MethodName) jdk_65_method_133_code (5 : Nat) (Option.some (Jvm.ClassFile.FieldType.array Jvm.ClassFile.FieldType.byte))).before args0 about1 = true := code_word (m := ⟨17, 4⟩) (meth := k17m4) (c := k17c4) (by decide +kernel) rfl rfl rfl (by decide +kernel)
set_option maxRecDepth 65536 in
theorem w_c30 : (Jvm.Cond.code ({ cls := "java/util/Arrays", name := "checkLength", desc := "(II)V" } : Jvm.MethodName) jdk_65_method_131_code (2 : Nat) (Option.none : Option Jvm.ClassFile.FieldType)).before args0 about1 = true := code_word (m := ⟨17, 2⟩) (meth := k17m2) (c := k17c2) (by decide +kernel) rfl rfl rfl (by decide +kernel)
set_option maxRecDepth 65536 in
theorem w_c31 : (Jvm.Cond.code ({ cls := "java/lang/Math", name := "min", desc := "(II)I" } : Jvm.MethodName) jdk_29_method_69_code (2 : Nat) (Option.some Jvm.ClassFile.FieldType.int)).before args0 about1 = true := code_word (m := ⟨18, 2⟩) (meth := k18m2) (c := k18c2) (by decide +kernel) rfl rfl rfl (by decide +kernel)
set_option maxRecDepth 65536 in
theorem w_c32 : (Jvm.Cond.code ({ cls := "java/lang/String", name := "equals", desc := "(Ljava/lang/Object;)Z" } : Jvm.MethodName) jdk_42_method_66_code (3 : Nat) (Option.some Jvm.ClassFile.FieldType.boolean)).before args0 about1 = true := code_word (m := ⟨13, 4⟩) (meth := k13m4) (c := k13c4) (by decide +kernel) rfl rfl rfl (by decide +kernel)
set_option maxRecDepth 65536 in
theorem w_c33 : (Jvm.Cond.code ({ cls := "java/lang/StringLatin1", name := "equals", desc := "([B[B)Z" } : Jvm.MethodName) jdk_43_method_13_code (3 : Nat) (Option.some Jvm.ClassFile.FieldType.boolean)).before args0 about1 = true := code_word (m := ⟨19, 2⟩) (meth := k19m2) (c := k19c2) (by decide +kernel) rfl rfl rfl (by decide +kernel)
set_option maxRecDepth 65536 in
theorem w_c34 : (Jvm.Cond.code ({ cls := "org/samehood/calls/CallLimitOfPinLaw", name := "digits", desc := "(I)I" } : Jvm.MethodName) method_3_code (1 : Nat) (Option.some Jvm.ClassFile.FieldType.int)).before args0 about1 = true := code_word (m := ⟨1, 2⟩) (meth := k1m2) (c := k1c2) (by decide +kernel) rfl rfl rfl (by decide +kernel)
set_option maxRecDepth 65536 in
theorem w_c35 : (Jvm.Cond.code ({ cls := "java/lang/String", name := "charAt", desc := "(I)C" } : Jvm.MethodName) jdk_42_method_56_code (2 : Nat) (Option.some Jvm.ClassFile.FieldType.char)).before args0 about1 = true := code_word (m := ⟨13, 3⟩) (meth := k13m3) (c := k13c3) (by decide +kernel) rfl rfl rfl (by decide +kernel)
set_option maxRecDepth 65536 in
theorem w_c36 : (Jvm.Cond.code ({ cls := "java/lang/String", name := "isLatin1", desc := "()Z" } : Jvm.MethodName) jdk_42_method_154_code (1 : Nat) (Option.some Jvm.ClassFile.FieldType.boolean)).before args0 about1 = true := code_word (m := ⟨13, 8⟩) (meth := k13m8) (c := k13c8) (by decide +kernel) rfl rfl rfl (by decide +kernel)
set_option maxRecDepth 65536 in
theorem w_c37 : (Jvm.Cond.code ({ cls := "java/lang/StringLatin1", name := "charAt", desc := "([BI)C" } : Jvm.MethodName) jdk_43_method_2_code (2 : Nat) (Option.some Jvm.ClassFile.FieldType.char)).before args0 about1 = true := code_word (m := ⟨19, 1⟩) (meth := k19m1) (c := k19c1) (by decide +kernel) rfl rfl rfl (by decide +kernel)
set_option maxRecDepth 65536 in
theorem w_c38 : (Jvm.Cond.code ({ cls := "java/lang/String", name := "checkIndex", desc := "(II)V" } : Jvm.MethodName) jdk_42_method_155_code (2 : Nat) (Option.none : Option Jvm.ClassFile.FieldType)).before args0 about1 = true := code_word (m := ⟨13, 9⟩) (meth := k13m9) (c := k13c9) (by decide +kernel) rfl rfl rfl (by decide +kernel)
set_option maxRecDepth 65536 in
theorem w_c39 : (Jvm.Cond.code ({ cls := "jdk/internal/util/Preconditions", name := "checkIndex", desc := "(IILjava/util/function/BiFunction;)I" } : Jvm.MethodName) jdk_41_method_11_code (3 : Nat) (Option.some Jvm.ClassFile.FieldType.int)).before args0 about1 = true := code_word (m := ⟨20, 1⟩) (meth := k20m1) (c := k20c1) (by decide +kernel) rfl rfl rfl (by decide +kernel)
set_option maxRecDepth 65536 in
theorem w_c40 : (Jvm.Cond.code ({ cls := "java/lang/AbstractStringBuilder", name := "newCapacity", desc := "(I)I" } : Jvm.MethodName) jdk_68_method_10_code (6 : Nat) (Option.some Jvm.ClassFile.FieldType.int)).before args0 about1 = true := code_word (m := ⟨10, 4⟩) (meth := k10m4) (c := k10c4) (by decide +kernel) rfl rfl rfl (by decide +kernel)
set_option maxRecDepth 65536 in
theorem w_c41 : (Jvm.Cond.code ({ cls := "jdk/internal/util/ArraysSupport", name := "newLength", desc := "(III)I" } : Jvm.MethodName) jdk_48_method_27_code (4 : Nat) (Option.some Jvm.ClassFile.FieldType.int)).before args0 about1 = true := code_word (m := ⟨21, 1⟩) (meth := k21m1) (c := k21c1) (by decide +kernel) rfl rfl rfl (by decide +kernel)
set_option maxRecDepth 65536 in
theorem w_c42 : (Jvm.Cond.code ({ cls := "java/lang/Math", name := "max", desc := "(II)I" } : Jvm.MethodName) jdk_29_method_65_code (2 : Nat) (Option.some Jvm.ClassFile.FieldType.int)).before args0 about1 = true := code_word (m := ⟨18, 1⟩) (meth := k18m1) (c := k18c1) (by decide +kernel) rfl rfl rfl (by decide +kernel)
set_option maxRecDepth 65536 in
theorem w_c43 : (Jvm.Cond.code ({ cls := "java/util/Arrays", name := "copyOf", desc := "([BI)[B" } : Jvm.MethodName) jdk_65_method_121_code (3 : Nat) (Option.some (Jvm.ClassFile.FieldType.array Jvm.ClassFile.FieldType.byte))).before args0 about1 = true := code_word (m := ⟨17, 1⟩) (meth := k17m1) (c := k17c1) (by decide +kernel) rfl rfl rfl (by decide +kernel)
def codes1 : List Jvm.Cond := [Jvm.Cond.code x code maxLocals ret, Jvm.Cond.code ({ cls := "org/samehood/calls/CallLimit", name := "of", desc := "(I)Lorg/samehood/calls/CallLimit;" } : Jvm.MethodName) prog_15_method_2_code (1 : Nat) (Option.some (Jvm.ClassFile.FieldType.object "org/samehood/calls/CallLimit")), Jvm.Cond.code ({ cls := "org/samehood/calls/CallLimit", name := "<init>", desc := "(I)V" } : Jvm.MethodName) prog_15_method_1_code (2 : Nat) (Option.none : Option Jvm.ClassFile.FieldType), Jvm.Cond.code ({ cls := "java/lang/Object", name := "<init>", desc := "()V" } : Jvm.MethodName) object_method_1_code (1 : Nat) (Option.none : Option Jvm.ClassFile.FieldType), Jvm.Cond.code ({ cls := "org/samehood/calls/CallLimit", name := "nanos", desc := "()J" } : Jvm.MethodName) prog_15_method_5_code (1 : Nat) (Option.some Jvm.ClassFile.FieldType.long), Jvm.Cond.code ({ cls := "java/util/concurrent/TimeUnit", name := "toNanos", desc := "(J)J" } : Jvm.MethodName) jdk_2799_method_7_code (7 : Nat) (Option.some Jvm.ClassFile.FieldType.long), Jvm.Cond.code ({ cls := "org/samehood/calls/CallLimit", name := "toString", desc := "()Ljava/lang/String;" } : Jvm.MethodName) prog_15_method_8_code (1 : Nat) (Option.some (Jvm.ClassFile.FieldType.object "java/lang/String")), Jvm.Cond.code ({ cls := "java/lang/StringBuilder", name := "<init>", desc := "()V" } : Jvm.MethodName) jdk_67_method_1_code (1 : Nat) (Option.none : Option Jvm.ClassFile.FieldType), Jvm.Cond.code ({ cls := "java/lang/AbstractStringBuilder", name := "<init>", desc := "(I)V" } : Jvm.MethodName) jdk_68_method_2_code (2 : Nat) (Option.none : Option Jvm.ClassFile.FieldType), Jvm.Cond.code ({ cls := "java/lang/StringBuilder", name := "append", desc := "(I)Ljava/lang/StringBuilder;" } : Jvm.MethodName) jdk_67_method_15_code (2 : Nat) (Option.some (Jvm.ClassFile.FieldType.object "java/lang/StringBuilder")), Jvm.Cond.code ({ cls := "java/lang/AbstractStringBuilder", name := "append", desc := "(I)Ljava/lang/AbstractStringBuilder;" } : Jvm.MethodName) jdk_68_method_32_code (4 : Nat) (Option.some (Jvm.ClassFile.FieldType.object "java/lang/AbstractStringBuilder")), Jvm.Cond.code ({ cls := "java/lang/Integer", name := "stringSize", desc := "(I)I" } : Jvm.MethodName) jdk_33_method_13_code (4 : Nat) (Option.some Jvm.ClassFile.FieldType.int), Jvm.Cond.code ({ cls := "java/lang/AbstractStringBuilder", name := "ensureCapacityInternal", desc := "(I)V" } : Jvm.MethodName) jdk_68_method_9_code (3 : Nat) (Option.none : Option Jvm.ClassFile.FieldType), Jvm.Cond.code ({ cls := "java/lang/AbstractStringBuilder", name := "isLatin1", desc := "()Z" } : Jvm.MethodName) jdk_68_method_68_code (1 : Nat) (Option.some Jvm.ClassFile.FieldType.boolean), Jvm.Cond.code ({ cls := "java/lang/Integer", name := "getChars", desc := "(II[B)I" } : Jvm.MethodName) jdk_33_method_12_code (7 : Nat) (Option.some Jvm.ClassFile.FieldType.int), Jvm.Cond.code ({ cls := "java/lang/StringBuilder", name := "append", desc := "(Ljava/lang/String;)Ljava/lang/StringBuilder;" } : Jvm.MethodName) jdk_67_method_7_code (2 : Nat) (Option.some (Jvm.ClassFile.FieldType.object "java/lang/StringBuilder")), Jvm.Cond.code ({ cls := "java/lang/AbstractStringBuilder", name := "append", desc := "(Ljava/lang/String;)Ljava/lang/AbstractStringBuilder;" } : Jvm.MethodName) jdk_68_method_22_code (3 : Nat) (Option.some (Jvm.ClassFile.FieldType.object "java/lang/AbstractStringBuilder")), Jvm.Cond.code ({ cls := "java/lang/String", name := "length", desc := "()I" } : Jvm.MethodName) jdk_42_method_54_code (1 : Nat) (Option.some Jvm.ClassFile.FieldType.int), Jvm.Cond.code ({ cls := "java/lang/String", name := "coder", desc := "()B" } : Jvm.MethodName) jdk_42_method_152_code (1 : Nat) (Option.some Jvm.ClassFile.FieldType.byte), Jvm.Cond.code ({ cls := "java/lang/AbstractStringBuilder", name := "putStringAt", desc := "(ILjava/lang/String;)V" } : Jvm.MethodName) jdk_68_method_73_code (3 : Nat) (Option.none : Option Jvm.ClassFile.FieldType), Jvm.Cond.code ({ cls := "java/lang/AbstractStringBuilder", name := "inflateIfNeededFor", desc := "(Ljava/lang/String;)V" } : Jvm.MethodName) jdk_68_method_71_code (2 : Nat) (Option.none : Option Jvm.ClassFile.FieldType), Jvm.Cond.code ({ cls := "java/lang/String", name := "getBytes", desc := "([BIB)V" } : Jvm.MethodName) jdk_42_method_147_code (4 : Nat) (Option.none : Option Jvm.ClassFile.FieldType), Jvm.Cond.code ({ cls := "java/lang/StringBuilder", name := "toString", desc := "()Ljava/lang/String;" } : Jvm.MethodName) jdk_67_method_42_code (1 : Nat) (Option.some (Jvm.ClassFile.FieldType.object "java/lang/String")), Jvm.Cond.code ({ cls := "java/lang/String", name := "<init>", desc := "(Ljava/lang/StringBuilder;)V" } : Jvm.MethodName) jdk_42_method_53_code (2 : Nat) (Option.none : Option Jvm.ClassFile.FieldType), Jvm.Cond.code ({ cls := "java/lang/String", name := "<init>", desc := "(Ljava/lang/AbstractStringBuilder;Ljava/lang/Void;)V" } : Jvm.MethodName) jdk_42_method_150_code (5 : Nat) (Option.none : Option Jvm.ClassFile.FieldType), Jvm.Cond.code ({ cls := "java/lang/AbstractStringBuilder", name := "getValue", desc := "()[B" } : Jvm.MethodName) jdk_68_method_64_code (1 : Nat) (Option.some (Jvm.ClassFile.FieldType.array Jvm.ClassFile.FieldType.byte)), Jvm.Cond.code ({ cls := "java/lang/StringBuilder", name := "length", desc := "()I" } : Jvm.MethodName) jdk_67_method_93_code (1 : Nat) (Option.some Jvm.ClassFile.FieldType.int), Jvm.Cond.code ({ cls := "java/lang/AbstractStringBuilder", name := "length", desc := "()I" } : Jvm.MethodName) jdk_68_method_6_code (1 : Nat) (Option.some Jvm.ClassFile.FieldType.int), Jvm.Cond.code ({ cls := "java/util/Arrays", name := "copyOfRange", desc := "([BII)[B" } : Jvm.MethodName) jdk_65_method_132_code (3 : Nat) (Option.some (Jvm.ClassFile.FieldType.array Jvm.ClassFile.FieldType.byte)), Jvm.Cond.code ({ cls := "java/util/Arrays", name := "copyOfRangeByte", desc := "([BII)[B" } : Jvm.MethodName) jdk_65_method_133_code (5 : Nat) (Option.some (Jvm.ClassFile.FieldType.array Jvm.ClassFile.FieldType.byte)), Jvm.Cond.code ({ cls := "java/util/Arrays", name := "checkLength", desc := "(II)V" } : Jvm.MethodName) jdk_65_method_131_code (2 : Nat) (Option.none : Option Jvm.ClassFile.FieldType), Jvm.Cond.code ({ cls := "java/lang/Math", name := "min", desc := "(II)I" } : Jvm.MethodName) jdk_29_method_69_code (2 : Nat) (Option.some Jvm.ClassFile.FieldType.int), Jvm.Cond.code ({ cls := "java/lang/String", name := "equals", desc := "(Ljava/lang/Object;)Z" } : Jvm.MethodName) jdk_42_method_66_code (3 : Nat) (Option.some Jvm.ClassFile.FieldType.boolean), Jvm.Cond.code ({ cls := "java/lang/StringLatin1", name := "equals", desc := "([B[B)Z" } : Jvm.MethodName) jdk_43_method_13_code (3 : Nat) (Option.some Jvm.ClassFile.FieldType.boolean), Jvm.Cond.code ({ cls := "org/samehood/calls/CallLimitOfPinLaw", name := "digits", desc := "(I)I" } : Jvm.MethodName) method_3_code (1 : Nat) (Option.some Jvm.ClassFile.FieldType.int), Jvm.Cond.code ({ cls := "java/lang/String", name := "charAt", desc := "(I)C" } : Jvm.MethodName) jdk_42_method_56_code (2 : Nat) (Option.some Jvm.ClassFile.FieldType.char), Jvm.Cond.code ({ cls := "java/lang/String", name := "isLatin1", desc := "()Z" } : Jvm.MethodName) jdk_42_method_154_code (1 : Nat) (Option.some Jvm.ClassFile.FieldType.boolean), Jvm.Cond.code ({ cls := "java/lang/StringLatin1", name := "charAt", desc := "([BI)C" } : Jvm.MethodName) jdk_43_method_2_code (2 : Nat) (Option.some Jvm.ClassFile.FieldType.char), Jvm.Cond.code ({ cls := "java/lang/String", name := "checkIndex", desc := "(II)V" } : Jvm.MethodName) jdk_42_method_155_code (2 : Nat) (Option.none : Option Jvm.ClassFile.FieldType), Jvm.Cond.code ({ cls := "jdk/internal/util/Preconditions", name := "checkIndex", desc := "(IILjava/util/function/BiFunction;)I" } : Jvm.MethodName) jdk_41_method_11_code (3 : Nat) (Option.some Jvm.ClassFile.FieldType.int), Jvm.Cond.code ({ cls := "java/lang/AbstractStringBuilder", name := "newCapacity", desc := "(I)I" } : Jvm.MethodName) jdk_68_method_10_code (6 : Nat) (Option.some Jvm.ClassFile.FieldType.int), Jvm.Cond.code ({ cls := "jdk/internal/util/ArraysSupport", name := "newLength", desc := "(III)I" } : Jvm.MethodName) jdk_48_method_27_code (4 : Nat) (Option.some Jvm.ClassFile.FieldType.int), Jvm.Cond.code ({ cls := "java/lang/Math", name := "max", desc := "(II)I" } : Jvm.MethodName) jdk_29_method_65_code (2 : Nat) (Option.some Jvm.ClassFile.FieldType.int), Jvm.Cond.code ({ cls := "java/util/Arrays", name := "copyOf", desc := "([BI)[B" } : Jvm.MethodName) jdk_65_method_121_code (3 : Nat) (Option.some (Jvm.ClassFile.FieldType.array Jvm.ClassFile.FieldType.byte))]
set_option maxRecDepth 65536 in
theorem codes_eq : words1.filter isCode = codes1 := rfl
theorem w_codes : ∀ c ∈ words1.filter isCode, c.before args0 about1 = true := by
  rw [codes_eq]
  intro c hc
  simp only [codes1, List.mem_cons, List.not_mem_nil, or_false] at hc
  rcases hc with rfl | rfl | rfl | rfl | rfl | rfl | rfl | rfl | rfl | rfl | rfl | rfl | rfl | rfl | rfl | rfl | rfl | rfl | rfl | rfl | rfl | rfl | rfl | rfl | rfl | rfl | rfl | rfl | rfl | rfl | rfl | rfl | rfl | rfl | rfl | rfl | rfl | rfl | rfl | rfl | rfl | rfl | rfl | rfl
  · exact w_c0
  · exact w_c1
  · exact w_c2
  · exact w_c3
  · exact w_c4
  · exact w_c5
  · exact w_c6
  · exact w_c7
  · exact w_c8
  · exact w_c9
  · exact w_c10
  · exact w_c11
  · exact w_c12
  · exact w_c13
  · exact w_c14
  · exact w_c15
  · exact w_c16
  · exact w_c17
  · exact w_c18
  · exact w_c19
  · exact w_c20
  · exact w_c21
  · exact w_c22
  · exact w_c23
  · exact w_c24
  · exact w_c25
  · exact w_c26
  · exact w_c27
  · exact w_c28
  · exact w_c29
  · exact w_c30
  · exact w_c31
  · exact w_c32
  · exact w_c33
  · exact w_c34
  · exact w_c35
  · exact w_c36
  · exact w_c37
  · exact w_c38
  · exact w_c39
  · exact w_c40
  · exact w_c41
  · exact w_c42
  · exact w_c43
set_option maxRecDepth 65536 in
theorem w_t1 : (words1.take 24).all (fun c => isCode c || c.before args0 about1) = true := by decide +kernel
set_option maxRecDepth 65536 in
theorem w_t2 : ((words1.drop 24).take 24).all (fun c => isCode c || c.before args0 about1) = true := by decide +kernel
set_option maxRecDepth 65536 in
theorem w_t3 : (((words1.drop 24).drop 24).take 24).all (fun c => isCode c || c.before args0 about1) = true := by decide +kernel
set_option maxRecDepth 65536 in
theorem w_t4 : ((((words1.drop 24).drop 24).drop 24).take 24).all (fun c => isCode c || c.before args0 about1) = true := by decide +kernel
set_option maxRecDepth 65536 in
theorem w_t5 : (((((words1.drop 24).drop 24).drop 24).drop 24).take 24).all (fun c => isCode c || c.before args0 about1) = true := by decide +kernel
set_option maxRecDepth 65536 in
theorem w_t6 : ((((((words1.drop 24).drop 24).drop 24).drop 24).drop 24).take 24).all (fun c => isCode c || c.before args0 about1) = true := by decide +kernel
set_option maxRecDepth 65536 in
theorem w_t7 : (((((((words1.drop 24).drop 24).drop 24).drop 24).drop 24).drop 24).take 24).all (fun c => isCode c || c.before args0 about1) = true := by decide +kernel
set_option maxRecDepth 65536 in
theorem w_t8 : ((((((((words1.drop 24).drop 24).drop 24).drop 24).drop 24).drop 24).drop 24).take 24).all (fun c => isCode c || c.before args0 about1) = true := by decide +kernel
set_option maxRecDepth 65536 in
theorem w_t9 : (((((((((words1.drop 24).drop 24).drop 24).drop 24).drop 24).drop 24).drop 24).drop 24).take 24).all (fun c => isCode c || c.before args0 about1) = true := by decide +kernel
set_option maxRecDepth 65536 in
theorem w_t10 : ((((((((((words1.drop 24).drop 24).drop 24).drop 24).drop 24).drop 24).drop 24).drop 24).drop 24).take 24).all (fun c => isCode c || c.before args0 about1) = true := by decide +kernel
set_option maxRecDepth 65536 in
theorem w_t11 : ((((((((((words1.drop 24).drop 24).drop 24).drop 24).drop 24).drop 24).drop 24).drop 24).drop 24).drop 24).all (fun c => isCode c || c.before args0 about1) = true := by decide +kernel
theorem w_tables : (allAtoms (Jvm.Cond.code x code maxLocals ret :: tables_1)).before args0 about1 = true := by
  rw [allAtoms_all]
  show words1.all (fun c => c.before args0 about1) = true
  refine all_split ?_ w_codes
  rw [← List.take_append_drop 24 words1, List.all_append, w_t1, ← List.take_append_drop 24 (words1.drop 24), List.all_append, w_t2, ← List.take_append_drop 24 ((words1.drop 24).drop 24), List.all_append, w_t3, ← List.take_append_drop 24 (((words1.drop 24).drop 24).drop 24), List.all_append, w_t4, ← List.take_append_drop 24 ((((words1.drop 24).drop 24).drop 24).drop 24), List.all_append, w_t5, ← List.take_append_drop 24 (((((words1.drop 24).drop 24).drop 24).drop 24).drop 24), List.all_append, w_t6, ← List.take_append_drop 24 ((((((words1.drop 24).drop 24).drop 24).drop 24).drop 24).drop 24), List.all_append, w_t7, ← List.take_append_drop 24 (((((((words1.drop 24).drop 24).drop 24).drop 24).drop 24).drop 24).drop 24), List.all_append, w_t8, ← List.take_append_drop 24 ((((((((words1.drop 24).drop 24).drop 24).drop 24).drop 24).drop 24).drop 24).drop 24), List.all_append, w_t9, ← List.take_append_drop 24 (((((((((words1.drop 24).drop 24).drop 24).drop 24).drop 24).drop 24).drop 24).drop 24).drop 24), List.all_append, w_t10, w_t11]
  rfl
set_option maxRecDepth 65536 in
theorem w_rest : rest_1_c.before args0 about1 = true := by decide +kernel
set_option maxRecDepth 65536 in
theorem w_case : (Jvm.Cond.and given_1 narrow_1).before args0 about1 = true := by decide +kernel
set_option maxRecDepth 65536 in
theorem w_consts : constsHeld consts_1 about1 := Jvm.Lit.constsHeldB_iff.mp (by decide +kernel)
theorem w_applies : (headSpec (Jvm.Cond.code x code maxLocals ret :: tables_1) room_1).applies x e0.platform about1 = true :=
  (Spec.applies_iff w_frames).mpr ⟨w_running, w_runnable, w_alone, w_named, w_hears, w_ripe, w_room, w_tables⟩
theorem atStart : AtStart classFile x code maxLocals ret World_1 tables_1 room_1 Calls_1 rest_1 Pre_1 launch0 p0 e0 about1 theMethod args0 below0 :=
  ⟨lists_1, trivial, launch0.admits_env _ _ _, launch0.least_env, fairChoices_fair.cas, fairChoices_fair.clock, w_frames, w_args, w_heap, w_applies, ⟨w_consts, trivial⟩, w_rest, w_case⟩
end start1
theorem witness_1 : WitnessClaimed_1 := ⟨start1.p0, start1.e0, start1.about1, start1.theMethod, start1.args0, start1.below0, start1.atStart⟩
end Jvm.Pilot.@@N@@
