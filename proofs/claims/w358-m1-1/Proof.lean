import JvmDerived
import JvmDerived.Pilot.@@N@@Statement
import JvmDerived.Pilot.@@N@@Code
set_option linter.unusedVariables false
set_option linter.unusedSimpArgs false
namespace Jvm.Pilot.@@N@@
open Jvm Jvm.ClassFile Sem Op Lib Jvm.Free Jvm.Stand Jvm.LawKit Jvm.RoadKit Bundle Jvm.Pilot.@@N@@.Jvm.D
/-! the goal form of a walk: from S the run ends in Q -/
def own_Gl (p : Program) (e : Env) (below : List Frame) (Q : Outcome → State → Prop) (S : State) : Prop := ∃ s₂ o, Steps p.tables e below S s₂ ∧ s₂.status = .running ∧ Ended s₂ below o ∧ Q o s₂
def own_Post (s : State) (Q : Option Value → Heap → List Loc → Prop) (C N : Nat) : Outcome → State → Prop := fun o U' => ∃ v L, o = .returned v ∧ Q v U'.heap L ∧ FrameEnd s o U' L C N
section Own
variable {p : Program} {l : Launch} {e : Env} {R : Room} {s : State} {m : MethodId} {args : Array Value} {below : List Frame} {meth : Method} {c : Code} {T : State} {locs : List Loc} {cells slots : Nat} {Q : Outcome → State → Prop} {QQ : Option Value → Heap → List Loc → Prop} {S S' : State} {C N : Nat} {h : Heap}
theorem own_st (st : ∀ t, Steps p.tables e below S' t → Steps p.tables e below S t) (g : own_Gl p e below Q S') : own_Gl p e below Q S := by
  obtain ⟨s₂, o, h1, h2⟩ := g; exact ⟨s₂, o, st _ h1, h2⟩
theorem own_tr (st : Steps p.tables e below S S') (g : own_Gl p e below Q S') : own_Gl p e below Q S := by
  obtain ⟨s₂, o, h1, h2⟩ := g; exact ⟨s₂, o, st.trans h1, h2⟩
theorem own_retO (X : Stand p l e R s m args below meth c T locs cells slots) (hx : p.tables.exec = Jvm.exec) (hlk : meth.locks = false) {pc : Nat} {Ls : Array Slot} {w : Value} {t : FieldType} {i : Instr} {rest : List Value} (hret : meth.sig.returnType = some t) (hn : narrow t w = w)
    (hi : (i = .ireturn ∧ (t = .int ∨ t = .boolean ∨ t = .byte ∨ t = .char ∨ t = .short) ∧ ∃ z, w = .int z) ∨ (i = .lreturn ∧ t = .long ∧ ∃ z, w = .long z) ∨ (i = .dreturn ∧ t = .double ∧ ∃ z, w = .double z) ∨ (i = .freturn ∧ t = .float ∧ ∃ z, w = .float z) ∨ (i = .areturn ∧ t.isReference = true ∧ w.isRef = true))
    (hd : decode c.code pc = .ok (i, 1)) (hc : cells ≤ C) (hs : slots ≤ N) (eT : T.heap = h) (hq : QQ (some w) h locs) : own_Gl p e below (own_Post s QQ C N) (T.setTop (mkF m pc Ls (w :: rest))) := by
  obtain ⟨fs, hr, hrun, hended, hW, hsame⟩ := X.leave (v := some w) (fun h => by rw [hret] at h; cases h) hlk
  subst eT
  exact ⟨_, _, retOut X hx hret hn hi hd hr, hrun, hended, _, _, rfl, hq, ⟨_, rfl⟩, hW, hsame.mono hc hs⟩
theorem own_retI (X : Stand p l e R s m args below meth c T locs cells slots) (hx : p.tables.exec = Jvm.exec) (hlk : meth.locks = false) {pc : Nat} {Ls : Array Slot} {z : Int32} {rest : List Value} (hret : meth.sig.returnType = some .int)
    (hd : decode c.code pc = .ok (.ireturn, 1)) (hc : cells ≤ C) (hs : slots ≤ N) (eT : T.heap = h) (hq : QQ (some (.int z)) h locs) : own_Gl p e below (own_Post s QQ C N) (T.setTop (mkF m pc Ls (.int z :: rest))) :=
  own_retO X hx hlk hret rfl (Or.inl ⟨rfl, Or.inl rfl, z, rfl⟩) hd hc hs eT hq
theorem own_retL (X : Stand p l e R s m args below meth c T locs cells slots) (hx : p.tables.exec = Jvm.exec) (hlk : meth.locks = false) {pc : Nat} {Ls : Array Slot} {z : Int64} {rest : List Value} (hret : meth.sig.returnType = some .long)
    (hd : decode c.code pc = .ok (.lreturn, 1)) (hc : cells ≤ C) (hs : slots ≤ N) (eT : T.heap = h) (hq : QQ (some (.long z)) h locs) : own_Gl p e below (own_Post s QQ C N) (T.setTop (mkF m pc Ls (.long z :: rest))) :=
  own_retO X hx hlk hret rfl (Or.inr (Or.inl ⟨rfl, rfl, z, rfl⟩)) hd hc hs eT hq
theorem own_nref {t : FieldType} {w : Value} (h : w.isRef = true) : narrow t w = w := by cases t <;> cases w <;> first | rfl | simp [Value.isRef] at h
theorem own_retA (X : Stand p l e R s m args below meth c T locs cells slots) (hx : p.tables.exec = Jvm.exec) (hlk : meth.locks = false) {pc : Nat} {Ls : Array Slot} {w : Value} {t : FieldType} {rest : List Value} (hret : meth.sig.returnType = some t) (ht : t.isReference = true) (hw : w.isRef = true)
    (hd : decode c.code pc = .ok (.areturn, 1)) (hc : cells ≤ C) (hs : slots ≤ N) (eT : T.heap = h) (hq : QQ (some w) h locs) : own_Gl p e below (own_Post s QQ C N) (T.setTop (mkF m pc Ls (w :: rest))) :=
  own_retO X hx hlk hret (own_nref hw) (Or.inr (Or.inr (Or.inr (Or.inr ⟨rfl, ht, hw⟩)))) hd hc hs eT hq
theorem own_retN (X : Stand p l e R s m args below meth c T locs cells slots) (hx : p.tables.exec = Jvm.exec) (hlk : meth.locks = false) {pc : Nat} {Ls : Array Slot} {z : Int32} {t : FieldType} {rest : List Value} (hret : meth.sig.returnType = some t) (ht : t = .boolean ∨ t = .byte ∨ t = .char ∨ t = .short)
    (hd : decode c.code pc = .ok (.ireturn, 1)) (hc : cells ≤ C) (hs : slots ≤ N) (eT : T.heap = h) (hq : QQ (some (.int (nar t z))) h locs) : own_Gl p e below (own_Post s QQ C N) (T.setTop (mkF m pc Ls (.int z :: rest))) := by
  obtain ⟨fs, hr, hrun, hended, hW, hsame⟩ := X.leave (v := some (.int (nar t z))) (fun h => by rw [hret] at h; cases h) hlk
  subst eT
  exact ⟨_, _, retN X hx hret ht hd hr, hrun, hended, _, _, rfl, hq, ⟨_, rfl⟩, hW, hsame.mono hc hs⟩
theorem own_retV (X : Stand p l e R s m args below meth c T locs cells slots) (hx : p.tables.exec = Jvm.exec) (hlk : meth.locks = false) {pc : Nat} {Ls : Array Slot} (hret : meth.sig.returnType = none)
    (hd : decode c.code pc = .ok (.return_, 1)) (hc : cells ≤ C) (hs : slots ≤ N) (eT : T.heap = h) (hq : QQ none h locs) : own_Gl p e below (own_Post s QQ C N) (T.setTop (mkF m pc Ls [])) := by
  obtain ⟨fs, hr, hrun, hended, hW, hsame⟩ := X.leave (v := none) (fun _ => rfl) hlk
  subst eT
  exact ⟨_, _, X.returnOut hx hret hd hr, hrun, hended, _, _, rfl, hq, ⟨_, rfl⟩, hW, hsame.mono hc hs⟩
theorem own_ext_refl (h : Heap) : Ext h h := ⟨Nat.le_refl _, fun _ _ q => q⟩
theorem own_ext_tr {h0 h h' : Heap} (A : Ext h0 h) (B : Ext h h') : Ext h0 h' := ⟨Nat.le_trans A.1 B.1, fun x c q => B.2 x c (A.2 x c q)⟩
theorem own_ext_keep {h0 h h' : Heap} {ws : List Addr} (A : Ext h0 h) (K : Keep h h' ws) (q : ∀ x ∈ ws, h0.size ≤ x) : Ext h0 h' := ⟨Nat.le_trans A.1 K.1, fun x c r => K.2.1 x c (A.2 x c r) fun z => absurd (Array.getElem?_eq_some_iff.mp r).1 (Nat.not_lt.mpr (q x z))⟩
theorem own_ext_wr {h0 h h' : Heap} {a : Addr} {sl : Nat} {v : Value} (A : Ext h0 h) (W : Wr h h' a sl v) (q : h0.size ≤ a) : Ext h0 h' := own_ext_keep A (Keep.of_wr W) (allS q all0)
theorem own_sta_keep {Z : State} {h h' : Heap} {ws : List Addr} {C n d : String} {v : Value} (F : Sta Z h C n d v) (K : Keep h h' ws) (q : ∀ x ∈ ws, ∀ cell : Cell, h[x]? = some cell → cell.vm.isStatics = false) : Sta Z h' C n d v := by
  obtain ⟨cf, i, k, f, st, cell, h1, h2, h3, h4, h5, h6, h7⟩ := F
  exact ⟨cf, i, k, f, st, cell, h1, h2, h3, h4, K.2.1 _ _ h5 (fun z => by rw [q _ z _ h5] at h6; cases h6), h6, h7⟩
end Own
def own_of (p : Int32) (aN aS aD aC : Addr) : Addr := if p = 1 ∨ p = 3 then aN else if p = 2 then aS else if p = 4 then aD else aC
theorem own_of1 {p : Int32} {aN aS aD aC : Addr} (h : p = 1 ∨ p = 3) : own_of p aN aS aD aC = aN := if_pos h
theorem own_of2 {p : Int32} {aN aS aD aC : Addr} (h : p = 2) : own_of p aN aS aD aC = aS := by subst h; rfl
theorem own_of4 {p : Int32} {aN aS aD aC : Addr} (h : p = 4) : own_of p aN aS aD aC = aD := by subst h; rfl
theorem own_of5 {p : Int32} {aN aS aD aC : Addr} (h3 : ¬ p = 3) (h1 : ¬ p = 1) (h2 : ¬ p = 2) (h4 : ¬ p = 4) : own_of p aN aS aD aC = aC := by simp [own_of, h1, h2, h3, h4]
theorem own_sw (p : Int32) : p = 1 ∨ p = 2 ∨ p = 3 ∨ p = 4 ∨ ((p.toInt < 1 ∨ p.toInt > 4) ∧ ¬ p = 3 ∧ ¬ p = 1 ∧ ¬ p = 2 ∧ ¬ p = 4) := by
  by_cases h1 : p = 1; · exact Or.inl h1
  by_cases h2 : p = 2; · exact Or.inr (Or.inl h2)
  by_cases h3 : p = 3; · exact Or.inr (Or.inr (Or.inl h3))
  by_cases h4 : p = 4; · exact Or.inr (Or.inr (Or.inr (Or.inl h4)))
  refine Or.inr (Or.inr (Or.inr (Or.inr ⟨?_, h3, h1, h2, h4⟩)))
  have q1 : p.toInt ≠ 1 := fun h => h1 (Int32.toInt_inj.mp h)
  have q2 : p.toInt ≠ 2 := fun h => h2 (Int32.toInt_inj.mp h)
  have q3 : p.toInt ≠ 3 := fun h => h3 (Int32.toInt_inj.mp h)
  have q4 : p.toInt ≠ 4 := fun h => h4 (Int32.toInt_inj.mp h)
  omega
theorem own_pn0 : plainName "com/example/libentity/libentity/jdbc/DeleteRule" = true := by first | (simp [plainName, overriddenIn]; done) | decide +kernel
theorem own_d_prog_35_method_4_code_0 : decode prog_35_method_4_code 0 = .ok (.iload_n 0, 1) := by decide +kernel
theorem own_d_prog_35_method_4_code_1 : decode prog_35_method_4_code 1 = .ok (.tableswitch 49 1 4 #[31, 37, 31, 43], 31) := by decide +kernel
theorem own_d_prog_35_method_4_code_32 : decode prog_35_method_4_code 32 = .ok (.getstatic 3, 3) := by decide +kernel
theorem own_d_prog_35_method_4_code_35 : decode prog_35_method_4_code 35 = .ok (.goto 18, 3) := by decide +kernel
theorem own_d_prog_35_method_4_code_38 : decode prog_35_method_4_code 38 = .ok (.getstatic 7, 3) := by decide +kernel
theorem own_d_prog_35_method_4_code_41 : decode prog_35_method_4_code 41 = .ok (.goto 12, 3) := by decide +kernel
theorem own_d_prog_35_method_4_code_44 : decode prog_35_method_4_code 44 = .ok (.getstatic 10, 3) := by decide +kernel
theorem own_d_prog_35_method_4_code_47 : decode prog_35_method_4_code 47 = .ok (.goto 6, 3) := by decide +kernel
theorem own_d_prog_35_method_4_code_50 : decode prog_35_method_4_code 50 = .ok (.getstatic 13, 3) := by decide +kernel
theorem own_d_prog_35_method_4_code_53 : decode prog_35_method_4_code 53 = .ok (.areturn, 1) := by decide +kernel
theorem own_ef_of (m : MethodId) (x0 : Int32) : entryFrame m #[(.int x0)] 1 = mkF m 0 #[.val (.int x0)] [] := by first | (simp [entryFrame, mkF, argsToLocals, Value.category]; done) | rfl
def own_Q_of (Z : State) (p1 : Int32) (aN aS aD aC : Addr) (h0 : Heap) (n0 : Nat) (v : Option Value) (h : Heap) (L : List Loc) : Prop := v = some (.ref (own_of p1 aN aS aD aC)) ∧ Fr n0 L ∧ h = h0
set_option maxRecDepth 65536 in
set_option maxHeartbeats 40000000 in
theorem own_rm_of (l : Launch) (Z : State) (a0 : Array Value) (hw : ∀ d ∈ tables_1, d.before a0 Z = true) (ws : List Jvm.Cond) (p1 : Int32) (aN aS aD aC : Addr) (h0 : Heap) (n0 : Nat) (Z0 : n0 ≤ h0.size) (S_aN : Sta Z h0 "com/example/libentity/libentity/jdbc/DeleteRule" "NO_ACTION" "Lcom/example/libentity/libentity/jdbc/DeleteRule;" (.ref aN)) (S_aS : Sta Z h0 "com/example/libentity/libentity/jdbc/DeleteRule" "SET_NULL" "Lcom/example/libentity/libentity/jdbc/DeleteRule;" (.ref aS)) (S_aD : Sta Z h0 "com/example/libentity/libentity/jdbc/DeleteRule" "SET_DEFAULT" "Lcom/example/libentity/libentity/jdbc/DeleteRule;" (.ref aD)) (S_aC : Sta Z h0 "com/example/libentity/libentity/jdbc/DeleteRule" "CASCADE" "Lcom/example/libentity/libentity/jdbc/DeleteRule;" (.ref aC)) :
    MetFree l (⟨"com/example/libentity/libentity/jdbc/DeleteRule", "of", "(I)Lcom/example/libentity/libentity/jdbc/DeleteRule;"⟩ : MethodName) (head1 (Jvm.Cond.code (⟨"com/example/libentity/libentity/jdbc/DeleteRule", "of", "(I)Lcom/example/libentity/libentity/jdbc/DeleteRule;"⟩ : MethodName) prog_35_method_4_code 1 (some (.object "com/example/libentity/libentity/jdbc/DeleteRule")) :: ws) ({ frames := 0, cells := 0, slots := 0, locals := 0 } : Room)) (fun a U => a = #[(.int p1)] ∧ Z.Warmed39 U.vm ∧ U.heap = h0) (fun _ _ _ _ _ => True) (fun _ U o U' => ∃ v L, o = .returned v ∧ own_Q_of Z p1 aN aS aD aC h0 n0 v U'.heap L ∧ FrameEnd U o U' L ({ frames := 0, cells := 0, slots := 0, locals := 0 } : Room).cells ({ frames := 0, cells := 0, slots := 0, locals := 0 } : Room).slots) := by
  refine MetFree.of_bodySF (plainFor_of_name own_pn0) hisR ?_
  intro p e s m args below meth c s₁ Bd hml0 hP hK
  obtain ⟨rfl, hZ, hh⟩ := hP
  have hx := Bd.exec
  have hby := Bd.bytes
  have hml : c.maxLocals = 1 := hml0
  have hown : s.vm.findClass "com/example/libentity/libentity/jdbc/DeleteRule" = some m.cls := findClass_of_methodNamed Bd.named
  have hnm := (name_of_methodNamed Bd.named Bd.method).1
  have X0 : Stand p l e ({ frames := 0, cells := 0, slots := 0, locals := 0 } : Room) s m #[(.int p1)] below meth c s₁ [] 0 0 := Stand.of_body Bd
  have e0 : s₁.heap = h0 := by rw [← hh, Bd.state]; rfl
  have N0 := Fr.nil n0
  show own_Gl p e below (own_Post s (own_Q_of Z p1 aN aS aD aC h0 n0) ({ frames := 0, cells := 0, slots := 0, locals := 0 } : Room).cells ({ frames := 0, cells := 0, slots := 0, locals := 0 } : Room).slots) _
  refine own_st (fun t k => castTop (own_ef_of m p1) k) ?_
  show own_Gl p e below _ (s₁.setTop (mkF m 0 #[.val (.int p1)] []))
  refine own_st (fun t k => XS.iloadN X0.here hx rfl (hb hby own_d_prog_35_method_4_code_0) rfl k) ?_
  show own_Gl p e below _ (s₁.setTop (mkF m 1 #[.val (.int p1)] [(.int p1)]))
  rcases own_sw p1 with hs | hs | hs | hs | hs
  ·
    show own_Gl p e below _ (s₁.setTop (mkF m 1 #[.val (.int p1)] [(.int p1)]))
    refine own_st (fun t k => XS.tswIn X0.here hx rfl (pc0 := 1) (pc' := 32) (o := 31) rfl (hb hby own_d_prog_35_method_4_code_1) rfl (by rw [hs]; decide) (by rw [hs]; rfl) (by decide) (by decide) k) ?_
    show own_Gl p e below _ (s₁.setTop (mkF m 32 #[.val (.int p1)] []))
    obtain ⟨T1, X1, e1, st1⟩ := getS2 X0 hx hZ hown (host := "") (Or.inl (hw _ (List.mem_of_getElem? (i := 7) rfl))) Via.refl e0 S_aN (g := (mkF m 32 #[.val (.int p1)] [])) rfl (hb hby own_d_prog_35_method_4_code_32)
    refine own_st st1 ?_
    show own_Gl p e below _ (T1.setTop (mkF m 35 #[.val (.int p1)] [(.ref aN)]))
    refine own_st (fun t k => XS.goto X1.here hx rfl (pc0 := 35) (pc' := 53) rfl (hb hby own_d_prog_35_method_4_code_35) (by decide) (by decide) k) ?_
    show own_Gl p e below _ (T1.setTop (mkF m 53 #[.val (.int p1)] [(.ref aN)]))
    exact own_retA X1 hx Bd.notSynchronized Bd.returns rfl rfl (hb hby own_d_prog_35_method_4_code_53) (by decide) (by decide) e1 (⟨congrArg (fun z => some (Value.ref z)) (own_of1 (Or.inl hs)).symm, N0, rfl⟩)
  ·
    show own_Gl p e below _ (s₁.setTop (mkF m 1 #[.val (.int p1)] [(.int p1)]))
    refine own_st (fun t k => XS.tswIn X0.here hx rfl (pc0 := 1) (pc' := 38) (o := 37) rfl (hb hby own_d_prog_35_method_4_code_1) rfl (by rw [hs]; decide) (by rw [hs]; rfl) (by decide) (by decide) k) ?_
    show own_Gl p e below _ (s₁.setTop (mkF m 38 #[.val (.int p1)] []))
    obtain ⟨T2, X2, e2, st2⟩ := getS2 X0 hx hZ hown (host := "") (Or.inl (hw _ (List.mem_of_getElem? (i := 13) rfl))) Via.refl e0 S_aS (g := (mkF m 38 #[.val (.int p1)] [])) rfl (hb hby own_d_prog_35_method_4_code_38)
    refine own_st st2 ?_
    show own_Gl p e below _ (T2.setTop (mkF m 41 #[.val (.int p1)] [(.ref aS)]))
    refine own_st (fun t k => XS.goto X2.here hx rfl (pc0 := 41) (pc' := 53) rfl (hb hby own_d_prog_35_method_4_code_41) (by decide) (by decide) k) ?_
    show own_Gl p e below _ (T2.setTop (mkF m 53 #[.val (.int p1)] [(.ref aS)]))
    exact own_retA X2 hx Bd.notSynchronized Bd.returns rfl rfl (hb hby own_d_prog_35_method_4_code_53) (by decide) (by decide) e2 (⟨congrArg (fun z => some (Value.ref z)) (own_of2 hs).symm, N0, rfl⟩)
  ·
    show own_Gl p e below _ (s₁.setTop (mkF m 1 #[.val (.int p1)] [(.int p1)]))
    refine own_st (fun t k => XS.tswIn X0.here hx rfl (pc0 := 1) (pc' := 32) (o := 31) rfl (hb hby own_d_prog_35_method_4_code_1) rfl (by rw [hs]; decide) (by rw [hs]; rfl) (by decide) (by decide) k) ?_
    show own_Gl p e below _ (s₁.setTop (mkF m 32 #[.val (.int p1)] []))
    obtain ⟨T3, X3, e3, st3⟩ := getS2 X0 hx hZ hown (host := "") (Or.inl (hw _ (List.mem_of_getElem? (i := 7) rfl))) Via.refl e0 S_aN (g := (mkF m 32 #[.val (.int p1)] [])) rfl (hb hby own_d_prog_35_method_4_code_32)
    refine own_st st3 ?_
    show own_Gl p e below _ (T3.setTop (mkF m 35 #[.val (.int p1)] [(.ref aN)]))
    refine own_st (fun t k => XS.goto X3.here hx rfl (pc0 := 35) (pc' := 53) rfl (hb hby own_d_prog_35_method_4_code_35) (by decide) (by decide) k) ?_
    show own_Gl p e below _ (T3.setTop (mkF m 53 #[.val (.int p1)] [(.ref aN)]))
    exact own_retA X3 hx Bd.notSynchronized Bd.returns rfl rfl (hb hby own_d_prog_35_method_4_code_53) (by decide) (by decide) e3 (⟨congrArg (fun z => some (Value.ref z)) (own_of1 (Or.inr hs)).symm, N0, rfl⟩)
  ·
    show own_Gl p e below _ (s₁.setTop (mkF m 1 #[.val (.int p1)] [(.int p1)]))
    refine own_st (fun t k => XS.tswIn X0.here hx rfl (pc0 := 1) (pc' := 44) (o := 43) rfl (hb hby own_d_prog_35_method_4_code_1) rfl (by rw [hs]; decide) (by rw [hs]; rfl) (by decide) (by decide) k) ?_
    show own_Gl p e below _ (s₁.setTop (mkF m 44 #[.val (.int p1)] []))
    obtain ⟨T4, X4, e4, st4⟩ := getS2 X0 hx hZ hown (host := "") (Or.inl (hw _ (List.mem_of_getElem? (i := 10) rfl))) Via.refl e0 S_aD (g := (mkF m 44 #[.val (.int p1)] [])) rfl (hb hby own_d_prog_35_method_4_code_44)
    refine own_st st4 ?_
    show own_Gl p e below _ (T4.setTop (mkF m 47 #[.val (.int p1)] [(.ref aD)]))
    refine own_st (fun t k => XS.goto X4.here hx rfl (pc0 := 47) (pc' := 53) rfl (hb hby own_d_prog_35_method_4_code_47) (by decide) (by decide) k) ?_
    show own_Gl p e below _ (T4.setTop (mkF m 53 #[.val (.int p1)] [(.ref aD)]))
    exact own_retA X4 hx Bd.notSynchronized Bd.returns rfl rfl (hb hby own_d_prog_35_method_4_code_53) (by decide) (by decide) e4 (⟨congrArg (fun z => some (Value.ref z)) (own_of4 hs).symm, N0, rfl⟩)
  ·
    show own_Gl p e below _ (s₁.setTop (mkF m 1 #[.val (.int p1)] [(.int p1)]))
    refine own_st (fun t k => XS.tswOut X0.here hx rfl (pc0 := 1) (pc' := 50) rfl (hb hby own_d_prog_35_method_4_code_1) rfl hs.1 (by decide) (by decide) k) ?_
    show own_Gl p e below _ (s₁.setTop (mkF m 50 #[.val (.int p1)] []))
    obtain ⟨T5, X5, e5, st5⟩ := getS2 X0 hx hZ hown (host := "") (Or.inl (hw _ (List.mem_of_getElem? (i := 4) rfl))) Via.refl e0 S_aC (g := (mkF m 50 #[.val (.int p1)] [])) rfl (hb hby own_d_prog_35_method_4_code_50)
    refine own_st st5 ?_
    show own_Gl p e below _ (T5.setTop (mkF m 53 #[.val (.int p1)] [(.ref aC)]))
    exact own_retA X5 hx Bd.notSynchronized Bd.returns rfl rfl (hb hby own_d_prog_35_method_4_code_53) (by decide) (by decide) e5 (⟨congrArg (fun z => some (Value.ref z)) (own_of5 hs.2.1 hs.2.2.1 hs.2.2.2.1 hs.2.2.2.2).symm, N0, rfl⟩)
theorem own_pd0 : parseMethodDescriptor "(I)Lcom/example/libentity/libentity/jdbc/DeleteRule;" = some ⟨[.int], some (.object "com/example/libentity/libentity/jdbc/DeleteRule")⟩ := by decide +kernel
theorem own_pn1 : plainName "com/example/libentity/libentity/jdbc/DeleteRuleOfPinLaw" = true := by first | (simp [plainName, overriddenIn]; done) | decide +kernel
theorem own_ef_law (m : MethodId) (x0 : Int32) (x1 : Int32) : entryFrame m #[(.int x0), (.int x1)] maxLocals = mkF m 0 #[.val (.int x0), .val (.int x1), .unset, .unset, .unset] [] := by first | (simp [entryFrame, mkF, argsToLocals, Value.category, maxLocals]; done) | rfl
def own_Q_law (Z : State) (i0 i1 : Int32) (aN aS aD aC : Addr) (h0 : Heap) (n0 : Nat) (v : Option Value) (h : Heap) (L : List Loc) : Prop := v = some (.int 1) ∧ Fr n0 L
set_option maxRecDepth 65536 in
set_option maxHeartbeats 40000000 in
theorem own_rm_law (l : Launch) (Z : State) (a0 : Array Value) (hw : ∀ d ∈ tables_1, d.before a0 Z = true) (ws : List Jvm.Cond) (i0 i1 : Int32) (aN aS aD aC : Addr) (h0 : Heap) (n0 : Nat) (Z0 : n0 ≤ h0.size) (S_aN : Sta Z h0 "com/example/libentity/libentity/jdbc/DeleteRule" "NO_ACTION" "Lcom/example/libentity/libentity/jdbc/DeleteRule;" (.ref aN)) (S_aS : Sta Z h0 "com/example/libentity/libentity/jdbc/DeleteRule" "SET_NULL" "Lcom/example/libentity/libentity/jdbc/DeleteRule;" (.ref aS)) (S_aD : Sta Z h0 "com/example/libentity/libentity/jdbc/DeleteRule" "SET_DEFAULT" "Lcom/example/libentity/libentity/jdbc/DeleteRule;" (.ref aD)) (S_aC : Sta Z h0 "com/example/libentity/libentity/jdbc/DeleteRule" "CASCADE" "Lcom/example/libentity/libentity/jdbc/DeleteRule;" (.ref aC)) :
    MetFree l x (head1 (Jvm.Cond.code x code maxLocals ret :: ws) room_1) (fun a U => a = #[(.int i0), (.int i1)] ∧ Z.Warmed39 U.vm ∧ U.heap = h0) (fun _ _ _ _ _ => True) (fun _ U o U' => ∃ v L, o = .returned v ∧ own_Q_law Z i0 i1 aN aS aD aC h0 n0 v U'.heap L ∧ FrameEnd U o U' L room_1.cells room_1.slots) := by
  refine MetFree.of_bodySF (plainFor_of_name own_pn1) hisR ?_
  intro p e s m args below meth c s₁ Bd hml0 hP hK
  obtain ⟨rfl, hZ, hh⟩ := hP
  have hx := Bd.exec
  have hby := Bd.bytes
  have hml : c.maxLocals = 5 := hml0
  have hown : s.vm.findClass "com/example/libentity/libentity/jdbc/DeleteRuleOfPinLaw" = some m.cls := findClass_of_methodNamed Bd.named
  have hnm := (name_of_methodNamed Bd.named Bd.method).1
  have X0 : Stand p l e room_1 s m #[(.int i0), (.int i1)] below meth c s₁ [] 0 0 := Stand.of_body Bd
  have e0 : s₁.heap = h0 := by rw [← hh, Bd.state]; rfl
  have N0 := Fr.nil n0
  show own_Gl p e below (own_Post s (own_Q_law Z i0 i1 aN aS aD aC h0 n0) room_1.cells room_1.slots) _
  refine own_st (fun t k => castTop (own_ef_law m i0 i1) k) ?_
  show own_Gl p e below _ (s₁.setTop (mkF m 0 #[.val (.int i0), .val (.int i1), .unset, .unset, .unset] []))
  refine own_st (fun t k => XS.iloadN X0.here hx rfl (hb hby at_0) rfl k) ?_
  show own_Gl p e below _ (s₁.setTop (mkF m 1 #[.val (.int i0), .val (.int i1), .unset, .unset, .unset] [(.int i1)]))
  refine own_st (fun t k => XS.iconst X0.here hx rfl (hb hby at_1) k) ?_
  show own_Gl p e below _ (s₁.setTop (mkF m 2 #[.val (.int i0), .val (.int i1), .unset, .unset, .unset] [(.int (1 : Int32)), (.int i1)]))
  refine own_st (fun t k => XS.iand X0.here hx rfl (hb hby at_2) rfl k) ?_
  show own_Gl p e below _ (s₁.setTop (mkF m 3 #[.val (.int i0), .val (.int i1), .unset, .unset, .unset] [(.int (i1 &&& (1 : Int32)))]))
  by_cases hc3_1 : (i1 &&& (1 : Int32)) = (0 : Int32)
  ·
    show own_Gl p e below _ (s₁.setTop (mkF m 3 #[.val (.int i0), .val (.int i1), .unset, .unset, .unset] [(.int (i1 &&& (1 : Int32)))]))
    refine own_st (fun t k => XS.ifYes X0.here hx rfl (pc0 := 3) (pc' := 10) rfl (hb hby at_3) rfl ((if0 _ _).trans (teq (hc3_1)).1) (by decide) (by decide) k) ?_
    show own_Gl p e below _ (s₁.setTop (mkF m 10 #[.val (.int i0), .val (.int i1), .unset, .unset, .unset] []))
    refine own_st (fun t k => XS.iloadN X0.here hx rfl (hb hby at_10) rfl k) ?_
    show own_Gl p e below _ (s₁.setTop (mkF m 11 #[.val (.int i0), .val (.int i1), .unset, .unset, .unset] [(.int i0)]))
    refine own_st (fun t k => XS.bipush X0.here hx rfl (hb hby at_11) k) ?_
    show own_Gl p e below _ (s₁.setTop (mkF m 13 #[.val (.int i0), .val (.int i1), .unset, .unset, .unset] [(.int (7 : Int32)), (.int i0)]))
    refine own_st (fun t k => XS.iand X0.here hx rfl (hb hby at_13) rfl k) ?_
    show own_Gl p e below _ (s₁.setTop (mkF m 14 #[.val (.int i0), .val (.int i1), .unset, .unset, .unset] [(.int (i0 &&& (7 : Int32)))]))
    refine own_st (fun t k => XS.iconst X0.here hx rfl (hb hby at_14) k) ?_
    show own_Gl p e below _ (s₁.setTop (mkF m 15 #[.val (.int i0), .val (.int i1), .unset, .unset, .unset] [(.int (1 : Int32)), (.int (i0 &&& (7 : Int32)))]))
    refine own_st (fun t k => XS.isub X0.here hx rfl (hb hby at_15) rfl k) ?_
    show own_Gl p e below _ (s₁.setTop (mkF m 16 #[.val (.int i0), .val (.int i1), .unset, .unset, .unset] [(.int ((i0 &&& (7 : Int32)) - (1 : Int32)))]))
    refine own_st (fun t k => XS.istoreN X0.here hx rfl (hb hby at_16) rfl (l' := #[.val (.int i0), .val (.int i1), .val (.int ((i0 &&& (7 : Int32)) - (1 : Int32))), .unset, .unset]) rfl k) ?_
    show own_Gl p e below _ (s₁.setTop (mkF m 17 #[.val (.int i0), .val (.int i1), .val (.int ((i0 &&& (7 : Int32)) - (1 : Int32))), .unset, .unset] []))
    refine own_st (fun t k => XS.iloadN X0.here hx rfl (hb hby at_17) rfl k) ?_
    show own_Gl p e below _ (s₁.setTop (mkF m 18 #[.val (.int i0), .val (.int i1), .val (.int ((i0 &&& (7 : Int32)) - (1 : Int32))), .unset, .unset] [(.int ((i0 &&& (7 : Int32)) - (1 : Int32)))]))
    obtain ⟨_, _, ⟨T2, L2, k2, n2⟩, -, X2, ⟨Lc2, hQ2, l2, y2, z2⟩, st2⟩ := Jvm.LawKit.callS X0 hx (y := (⟨"com/example/libentity/libentity/jdbc/DeleteRule", "of", "(I)Lcom/example/libentity/libentity/jdbc/DeleteRule;"⟩ : MethodName)) hown (mvT hZ (hw _ (List.mem_of_getElem? (i := 0) rfl))) (mvT hZ (hw _ (List.mem_of_getElem? (i := 1) rfl))) (mvT hZ (hw _ (List.mem_of_getElem? (i := 2) rfl))) (mvT hZ (hw _ (List.mem_of_getElem? (i := 3) rfl))) (by decide) (backOf (W := 0) (own_rm_of l Z a0 hw [] ((i0 &&& (7 : Int32)) - (1 : Int32)) aN aS aD aC h0 n0 Z0 S_aN S_aS S_aD S_aC) hZ (hw _ (List.mem_of_getElem? (i := 3) rfl)) (hw _ (List.mem_of_getElem? (i := 2) rfl)) (by decide) (by decide)) (g := (mkF m 18 #[.val (.int i0), .val (.int i1), .val (.int ((i0 &&& (7 : Int32)) - (1 : Int32))), .unset, .unset] [(.int ((i0 &&& (7 : Int32)) - (1 : Int32)))])) rfl (by rw [hml]; rfl) (argsL := [(.int ((i0 &&& (7 : Int32)) - (1 : Int32)))]) (rest := []) (lenOf own_pd0 rfl) rfl (by show 2 * 0 + _ ≤ _; exact Nat.le_of_eq rfl) (hb hby at_18) (fun _ _ => ⟨rfl, e0, (by decide : 0 + 0 ≤ _), (by decide : 0 + 0 ≤ _)⟩)
    dsimp only [Pt.U, Pt.locs, Pt.cells, Pt.slots] at X2 l2 y2 z2 st2 hQ2
    subst l2 y2 z2
    obtain ⟨rfl, N2q, e2⟩ := hQ2
    have N2 := Fr.app N0 N2q
    refine own_st st2 ?_
    show own_Gl p e below _ (T2.setTop (mkF m 21 #[.val (.int i0), .val (.int i1), .val (.int ((i0 &&& (7 : Int32)) - (1 : Int32))), .unset, .unset] [(.ref (own_of ((i0 &&& (7 : Int32)) - (1 : Int32)) aN aS aD aC))]))
    refine own_st (fun t k => XS.astoreN X2.here hx rfl (hb hby at_21) rfl rfl (l' := #[.val (.int i0), .val (.int i1), .val (.int ((i0 &&& (7 : Int32)) - (1 : Int32))), .val (.ref (own_of ((i0 &&& (7 : Int32)) - (1 : Int32)) aN aS aD aC)), .unset]) rfl k) ?_
    show own_Gl p e below _ (T2.setTop (mkF m 22 #[.val (.int i0), .val (.int i1), .val (.int ((i0 &&& (7 : Int32)) - (1 : Int32))), .val (.ref (own_of ((i0 &&& (7 : Int32)) - (1 : Int32)) aN aS aD aC)), .unset] []))
    refine own_st (fun t k => XS.iloadN X2.here hx rfl (hb hby at_22) rfl k) ?_
    show own_Gl p e below _ (T2.setTop (mkF m 23 #[.val (.int i0), .val (.int i1), .val (.int ((i0 &&& (7 : Int32)) - (1 : Int32))), .val (.ref (own_of ((i0 &&& (7 : Int32)) - (1 : Int32)) aN aS aD aC)), .unset] [(.int ((i0 &&& (7 : Int32)) - (1 : Int32)))]))
    refine own_st (fun t k => XS.iconst X2.here hx rfl (hb hby at_23) k) ?_
    show own_Gl p e below _ (T2.setTop (mkF m 24 #[.val (.int i0), .val (.int i1), .val (.int ((i0 &&& (7 : Int32)) - (1 : Int32))), .val (.ref (own_of ((i0 &&& (7 : Int32)) - (1 : Int32)) aN aS aD aC)), .unset] [(.int (3 : Int32)), (.int ((i0 &&& (7 : Int32)) - (1 : Int32)))]))
    by_cases hc24_3 : ((i0 &&& (7 : Int32)) - (1 : Int32)) = (3 : Int32)
    ·
      show own_Gl p e below _ (T2.setTop (mkF m 24 #[.val (.int i0), .val (.int i1), .val (.int ((i0 &&& (7 : Int32)) - (1 : Int32))), .val (.ref (own_of ((i0 &&& (7 : Int32)) - (1 : Int32)) aN aS aD aC)), .unset] [(.int (3 : Int32)), (.int ((i0 &&& (7 : Int32)) - (1 : Int32)))]))
      refine own_st (fun t k => XS.icmpYes X2.here hx rfl (pc0 := 24) (pc' := 32) rfl (hb hby at_24) rfl (teq (hc24_3)).1 (by decide) (by decide) k) ?_
      show own_Gl p e below _ (T2.setTop (mkF m 32 #[.val (.int i0), .val (.int i1), .val (.int ((i0 &&& (7 : Int32)) - (1 : Int32))), .val (.ref (own_of ((i0 &&& (7 : Int32)) - (1 : Int32)) aN aS aD aC)), .unset] []))
      obtain ⟨T4, X4, e4, st4⟩ := getS2 X2 hx hZ hown (host := "") (Or.inl (hw _ (List.mem_of_getElem? (i := 9) rfl))) Via.refl e2 S_aN (g := (mkF m 32 #[.val (.int i0), .val (.int i1), .val (.int ((i0 &&& (7 : Int32)) - (1 : Int32))), .val (.ref (own_of ((i0 &&& (7 : Int32)) - (1 : Int32)) aN aS aD aC)), .unset] [])) rfl (hb hby at_32)
      refine own_st st4 ?_
      show own_Gl p e below _ (T4.setTop (mkF m 35 #[.val (.int i0), .val (.int i1), .val (.int ((i0 &&& (7 : Int32)) - (1 : Int32))), .val (.ref (own_of ((i0 &&& (7 : Int32)) - (1 : Int32)) aN aS aD aC)), .unset] [(.ref aN)]))
      refine own_st (fun t k => XS.astore X4.here hx rfl (hb hby at_35) rfl rfl (l' := #[.val (.int i0), .val (.int i1), .val (.int ((i0 &&& (7 : Int32)) - (1 : Int32))), .val (.ref (own_of ((i0 &&& (7 : Int32)) - (1 : Int32)) aN aS aD aC)), .val (.ref aN)]) rfl k) ?_
      show own_Gl p e below _ (T4.setTop (mkF m 37 #[.val (.int i0), .val (.int i1), .val (.int ((i0 &&& (7 : Int32)) - (1 : Int32))), .val (.ref (own_of ((i0 &&& (7 : Int32)) - (1 : Int32)) aN aS aD aC)), .val (.ref aN)] []))
      refine own_st (fun t k => XS.goto X4.here hx rfl (pc0 := 37) (pc' := 71) rfl (hb hby at_37) (by decide) (by decide) k) ?_
      show own_Gl p e below _ (T4.setTop (mkF m 71 #[.val (.int i0), .val (.int i1), .val (.int ((i0 &&& (7 : Int32)) - (1 : Int32))), .val (.ref (own_of ((i0 &&& (7 : Int32)) - (1 : Int32)) aN aS aD aC)), .val (.ref aN)] []))
      refine own_st (fun t k => XS.aloadN X4.here hx rfl (hb hby at_71) rfl rfl k) ?_
      show own_Gl p e below _ (T4.setTop (mkF m 72 #[.val (.int i0), .val (.int i1), .val (.int ((i0 &&& (7 : Int32)) - (1 : Int32))), .val (.ref (own_of ((i0 &&& (7 : Int32)) - (1 : Int32)) aN aS aD aC)), .val (.ref aN)] [(.ref (own_of ((i0 &&& (7 : Int32)) - (1 : Int32)) aN aS aD aC))]))
      refine own_st (fun t k => XS.aload X4.here hx rfl (hb hby at_72) rfl rfl k) ?_
      show own_Gl p e below _ (T4.setTop (mkF m 74 #[.val (.int i0), .val (.int i1), .val (.int ((i0 &&& (7 : Int32)) - (1 : Int32))), .val (.ref (own_of ((i0 &&& (7 : Int32)) - (1 : Int32)) aN aS aD aC)), .val (.ref aN)] [(.ref aN), (.ref (own_of ((i0 &&& (7 : Int32)) - (1 : Int32)) aN aS aD aC))]))
      refine own_st (fun t k => Jvm.RoadKit.acmp (g := (mkF m 74 #[.val (.int i0), .val (.int i1), .val (.int ((i0 &&& (7 : Int32)) - (1 : Int32))), .val (.ref (own_of ((i0 &&& (7 : Int32)) - (1 : Int32)) aN aS aD aC)), .val (.ref aN)] [(.ref aN), (.ref (own_of ((i0 &&& (7 : Int32)) - (1 : Int32)) aN aS aD aC))])) X4 hx rfl rfl rfl (pc0 := 74) (pc' := 77) (same := true) rfl (hb hby at_74) rfl (decide_eq_true (congrArg Value.ref (own_of1 (Or.inr hc24_3)))) (by decide) (by decide) k) ?_
      show own_Gl p e below _ (T4.setTop (mkF m 77 #[.val (.int i0), .val (.int i1), .val (.int ((i0 &&& (7 : Int32)) - (1 : Int32))), .val (.ref (own_of ((i0 &&& (7 : Int32)) - (1 : Int32)) aN aS aD aC)), .val (.ref aN)] []))
      refine own_st (fun t k => XS.iconst X4.here hx rfl (hb hby at_77) k) ?_
      show own_Gl p e below _ (T4.setTop (mkF m 78 #[.val (.int i0), .val (.int i1), .val (.int ((i0 &&& (7 : Int32)) - (1 : Int32))), .val (.ref (own_of ((i0 &&& (7 : Int32)) - (1 : Int32)) aN aS aD aC)), .val (.ref aN)] [(.int (1 : Int32))]))
      refine own_st (fun t k => XS.goto X4.here hx rfl (pc0 := 78) (pc' := 82) rfl (hb hby at_78) (by decide) (by decide) k) ?_
      show own_Gl p e below _ (T4.setTop (mkF m 82 #[.val (.int i0), .val (.int i1), .val (.int ((i0 &&& (7 : Int32)) - (1 : Int32))), .val (.ref (own_of ((i0 &&& (7 : Int32)) - (1 : Int32)) aN aS aD aC)), .val (.ref aN)] [(.int (1 : Int32))]))
      exact own_retN X4 hx Bd.notSynchronized (t := .boolean) Bd.returns (by simp) (hb hby at_82) (by decide) (by decide) e4 (⟨rfl, N2⟩)
    ·
      show own_Gl p e below _ (T2.setTop (mkF m 24 #[.val (.int i0), .val (.int i1), .val (.int ((i0 &&& (7 : Int32)) - (1 : Int32))), .val (.ref (own_of ((i0 &&& (7 : Int32)) - (1 : Int32)) aN aS aD aC)), .unset] [(.int (3 : Int32)), (.int ((i0 &&& (7 : Int32)) - (1 : Int32)))]))
      refine own_st (fun t k => XS.icmpNo X2.here hx rfl (hb hby at_24) rfl (feq (hc24_3)).1 k) ?_
      show own_Gl p e below _ (T2.setTop (mkF m 27 #[.val (.int i0), .val (.int i1), .val (.int ((i0 &&& (7 : Int32)) - (1 : Int32))), .val (.ref (own_of ((i0 &&& (7 : Int32)) - (1 : Int32)) aN aS aD aC)), .unset] []))
      refine own_st (fun t k => XS.iloadN X2.here hx rfl (hb hby at_27) rfl k) ?_
      show own_Gl p e below _ (T2.setTop (mkF m 28 #[.val (.int i0), .val (.int i1), .val (.int ((i0 &&& (7 : Int32)) - (1 : Int32))), .val (.ref (own_of ((i0 &&& (7 : Int32)) - (1 : Int32)) aN aS aD aC)), .unset] [(.int ((i0 &&& (7 : Int32)) - (1 : Int32)))]))
      refine own_st (fun t k => XS.iconst X2.here hx rfl (hb hby at_28) k) ?_
      show own_Gl p e below _ (T2.setTop (mkF m 29 #[.val (.int i0), .val (.int i1), .val (.int ((i0 &&& (7 : Int32)) - (1 : Int32))), .val (.ref (own_of ((i0 &&& (7 : Int32)) - (1 : Int32)) aN aS aD aC)), .unset] [(.int (1 : Int32)), (.int ((i0 &&& (7 : Int32)) - (1 : Int32)))]))
      by_cases hc29_5 : ((i0 &&& (7 : Int32)) - (1 : Int32)) = (1 : Int32)
      ·
        show own_Gl p e below _ (T2.setTop (mkF m 29 #[.val (.int i0), .val (.int i1), .val (.int ((i0 &&& (7 : Int32)) - (1 : Int32))), .val (.ref (own_of ((i0 &&& (7 : Int32)) - (1 : Int32)) aN aS aD aC)), .unset] [(.int (1 : Int32)), (.int ((i0 &&& (7 : Int32)) - (1 : Int32)))]))
        refine own_st (fun t k => XS.icmpNo X2.here hx rfl (hb hby at_29) rfl (teq (hc29_5)).2 k) ?_
        show own_Gl p e below _ (T2.setTop (mkF m 32 #[.val (.int i0), .val (.int i1), .val (.int ((i0 &&& (7 : Int32)) - (1 : Int32))), .val (.ref (own_of ((i0 &&& (7 : Int32)) - (1 : Int32)) aN aS aD aC)), .unset] []))
        obtain ⟨T6, X6, e6, st6⟩ := getS2 X2 hx hZ hown (host := "") (Or.inl (hw _ (List.mem_of_getElem? (i := 9) rfl))) Via.refl e2 S_aN (g := (mkF m 32 #[.val (.int i0), .val (.int i1), .val (.int ((i0 &&& (7 : Int32)) - (1 : Int32))), .val (.ref (own_of ((i0 &&& (7 : Int32)) - (1 : Int32)) aN aS aD aC)), .unset] [])) rfl (hb hby at_32)
        refine own_st st6 ?_
        show own_Gl p e below _ (T6.setTop (mkF m 35 #[.val (.int i0), .val (.int i1), .val (.int ((i0 &&& (7 : Int32)) - (1 : Int32))), .val (.ref (own_of ((i0 &&& (7 : Int32)) - (1 : Int32)) aN aS aD aC)), .unset] [(.ref aN)]))
        refine own_st (fun t k => XS.astore X6.here hx rfl (hb hby at_35) rfl rfl (l' := #[.val (.int i0), .val (.int i1), .val (.int ((i0 &&& (7 : Int32)) - (1 : Int32))), .val (.ref (own_of ((i0 &&& (7 : Int32)) - (1 : Int32)) aN aS aD aC)), .val (.ref aN)]) rfl k) ?_
        show own_Gl p e below _ (T6.setTop (mkF m 37 #[.val (.int i0), .val (.int i1), .val (.int ((i0 &&& (7 : Int32)) - (1 : Int32))), .val (.ref (own_of ((i0 &&& (7 : Int32)) - (1 : Int32)) aN aS aD aC)), .val (.ref aN)] []))
        refine own_st (fun t k => XS.goto X6.here hx rfl (pc0 := 37) (pc' := 71) rfl (hb hby at_37) (by decide) (by decide) k) ?_
        show own_Gl p e below _ (T6.setTop (mkF m 71 #[.val (.int i0), .val (.int i1), .val (.int ((i0 &&& (7 : Int32)) - (1 : Int32))), .val (.ref (own_of ((i0 &&& (7 : Int32)) - (1 : Int32)) aN aS aD aC)), .val (.ref aN)] []))
        refine own_st (fun t k => XS.aloadN X6.here hx rfl (hb hby at_71) rfl rfl k) ?_
        show own_Gl p e below _ (T6.setTop (mkF m 72 #[.val (.int i0), .val (.int i1), .val (.int ((i0 &&& (7 : Int32)) - (1 : Int32))), .val (.ref (own_of ((i0 &&& (7 : Int32)) - (1 : Int32)) aN aS aD aC)), .val (.ref aN)] [(.ref (own_of ((i0 &&& (7 : Int32)) - (1 : Int32)) aN aS aD aC))]))
        refine own_st (fun t k => XS.aload X6.here hx rfl (hb hby at_72) rfl rfl k) ?_
        show own_Gl p e below _ (T6.setTop (mkF m 74 #[.val (.int i0), .val (.int i1), .val (.int ((i0 &&& (7 : Int32)) - (1 : Int32))), .val (.ref (own_of ((i0 &&& (7 : Int32)) - (1 : Int32)) aN aS aD aC)), .val (.ref aN)] [(.ref aN), (.ref (own_of ((i0 &&& (7 : Int32)) - (1 : Int32)) aN aS aD aC))]))
        refine own_st (fun t k => Jvm.RoadKit.acmp (g := (mkF m 74 #[.val (.int i0), .val (.int i1), .val (.int ((i0 &&& (7 : Int32)) - (1 : Int32))), .val (.ref (own_of ((i0 &&& (7 : Int32)) - (1 : Int32)) aN aS aD aC)), .val (.ref aN)] [(.ref aN), (.ref (own_of ((i0 &&& (7 : Int32)) - (1 : Int32)) aN aS aD aC))])) X6 hx rfl rfl rfl (pc0 := 74) (pc' := 77) (same := true) rfl (hb hby at_74) rfl (decide_eq_true (congrArg Value.ref (own_of1 (Or.inl hc29_5)))) (by decide) (by decide) k) ?_
        show own_Gl p e below _ (T6.setTop (mkF m 77 #[.val (.int i0), .val (.int i1), .val (.int ((i0 &&& (7 : Int32)) - (1 : Int32))), .val (.ref (own_of ((i0 &&& (7 : Int32)) - (1 : Int32)) aN aS aD aC)), .val (.ref aN)] []))
        refine own_st (fun t k => XS.iconst X6.here hx rfl (hb hby at_77) k) ?_
        show own_Gl p e below _ (T6.setTop (mkF m 78 #[.val (.int i0), .val (.int i1), .val (.int ((i0 &&& (7 : Int32)) - (1 : Int32))), .val (.ref (own_of ((i0 &&& (7 : Int32)) - (1 : Int32)) aN aS aD aC)), .val (.ref aN)] [(.int (1 : Int32))]))
        refine own_st (fun t k => XS.goto X6.here hx rfl (pc0 := 78) (pc' := 82) rfl (hb hby at_78) (by decide) (by decide) k) ?_
        show own_Gl p e below _ (T6.setTop (mkF m 82 #[.val (.int i0), .val (.int i1), .val (.int ((i0 &&& (7 : Int32)) - (1 : Int32))), .val (.ref (own_of ((i0 &&& (7 : Int32)) - (1 : Int32)) aN aS aD aC)), .val (.ref aN)] [(.int (1 : Int32))]))
        exact own_retN X6 hx Bd.notSynchronized (t := .boolean) Bd.returns (by simp) (hb hby at_82) (by decide) (by decide) e6 (⟨rfl, N2⟩)
      ·
        show own_Gl p e below _ (T2.setTop (mkF m 29 #[.val (.int i0), .val (.int i1), .val (.int ((i0 &&& (7 : Int32)) - (1 : Int32))), .val (.ref (own_of ((i0 &&& (7 : Int32)) - (1 : Int32)) aN aS aD aC)), .unset] [(.int (1 : Int32)), (.int ((i0 &&& (7 : Int32)) - (1 : Int32)))]))
        refine own_st (fun t k => XS.icmpYes X2.here hx rfl (pc0 := 29) (pc' := 40) rfl (hb hby at_29) rfl (feq (hc29_5)).2 (by decide) (by decide) k) ?_
        show own_Gl p e below _ (T2.setTop (mkF m 40 #[.val (.int i0), .val (.int i1), .val (.int ((i0 &&& (7 : Int32)) - (1 : Int32))), .val (.ref (own_of ((i0 &&& (7 : Int32)) - (1 : Int32)) aN aS aD aC)), .unset] []))
        refine own_st (fun t k => XS.iloadN X2.here hx rfl (hb hby at_40) rfl k) ?_
        show own_Gl p e below _ (T2.setTop (mkF m 41 #[.val (.int i0), .val (.int i1), .val (.int ((i0 &&& (7 : Int32)) - (1 : Int32))), .val (.ref (own_of ((i0 &&& (7 : Int32)) - (1 : Int32)) aN aS aD aC)), .unset] [(.int ((i0 &&& (7 : Int32)) - (1 : Int32)))]))
        refine own_st (fun t k => XS.iconst X2.here hx rfl (hb hby at_41) k) ?_
        show own_Gl p e below _ (T2.setTop (mkF m 42 #[.val (.int i0), .val (.int i1), .val (.int ((i0 &&& (7 : Int32)) - (1 : Int32))), .val (.ref (own_of ((i0 &&& (7 : Int32)) - (1 : Int32)) aN aS aD aC)), .unset] [(.int (2 : Int32)), (.int ((i0 &&& (7 : Int32)) - (1 : Int32)))]))
        by_cases hc42_7 : ((i0 &&& (7 : Int32)) - (1 : Int32)) = (2 : Int32)
        ·
          show own_Gl p e below _ (T2.setTop (mkF m 42 #[.val (.int i0), .val (.int i1), .val (.int ((i0 &&& (7 : Int32)) - (1 : Int32))), .val (.ref (own_of ((i0 &&& (7 : Int32)) - (1 : Int32)) aN aS aD aC)), .unset] [(.int (2 : Int32)), (.int ((i0 &&& (7 : Int32)) - (1 : Int32)))]))
          refine own_st (fun t k => XS.icmpNo X2.here hx rfl (hb hby at_42) rfl (teq (hc42_7)).2 k) ?_
          show own_Gl p e below _ (T2.setTop (mkF m 45 #[.val (.int i0), .val (.int i1), .val (.int ((i0 &&& (7 : Int32)) - (1 : Int32))), .val (.ref (own_of ((i0 &&& (7 : Int32)) - (1 : Int32)) aN aS aD aC)), .unset] []))
          obtain ⟨T8, X8, e8, st8⟩ := getS2 X2 hx hZ hown (host := "") (Or.inl (hw _ (List.mem_of_getElem? (i := 15) rfl))) Via.refl e2 S_aS (g := (mkF m 45 #[.val (.int i0), .val (.int i1), .val (.int ((i0 &&& (7 : Int32)) - (1 : Int32))), .val (.ref (own_of ((i0 &&& (7 : Int32)) - (1 : Int32)) aN aS aD aC)), .unset] [])) rfl (hb hby at_45)
          refine own_st st8 ?_
          show own_Gl p e below _ (T8.setTop (mkF m 48 #[.val (.int i0), .val (.int i1), .val (.int ((i0 &&& (7 : Int32)) - (1 : Int32))), .val (.ref (own_of ((i0 &&& (7 : Int32)) - (1 : Int32)) aN aS aD aC)), .unset] [(.ref aS)]))
          refine own_st (fun t k => XS.astore X8.here hx rfl (hb hby at_48) rfl rfl (l' := #[.val (.int i0), .val (.int i1), .val (.int ((i0 &&& (7 : Int32)) - (1 : Int32))), .val (.ref (own_of ((i0 &&& (7 : Int32)) - (1 : Int32)) aN aS aD aC)), .val (.ref aS)]) rfl k) ?_
          show own_Gl p e below _ (T8.setTop (mkF m 50 #[.val (.int i0), .val (.int i1), .val (.int ((i0 &&& (7 : Int32)) - (1 : Int32))), .val (.ref (own_of ((i0 &&& (7 : Int32)) - (1 : Int32)) aN aS aD aC)), .val (.ref aS)] []))
          refine own_st (fun t k => XS.goto X8.here hx rfl (pc0 := 50) (pc' := 71) rfl (hb hby at_50) (by decide) (by decide) k) ?_
          show own_Gl p e below _ (T8.setTop (mkF m 71 #[.val (.int i0), .val (.int i1), .val (.int ((i0 &&& (7 : Int32)) - (1 : Int32))), .val (.ref (own_of ((i0 &&& (7 : Int32)) - (1 : Int32)) aN aS aD aC)), .val (.ref aS)] []))
          refine own_st (fun t k => XS.aloadN X8.here hx rfl (hb hby at_71) rfl rfl k) ?_
          show own_Gl p e below _ (T8.setTop (mkF m 72 #[.val (.int i0), .val (.int i1), .val (.int ((i0 &&& (7 : Int32)) - (1 : Int32))), .val (.ref (own_of ((i0 &&& (7 : Int32)) - (1 : Int32)) aN aS aD aC)), .val (.ref aS)] [(.ref (own_of ((i0 &&& (7 : Int32)) - (1 : Int32)) aN aS aD aC))]))
          refine own_st (fun t k => XS.aload X8.here hx rfl (hb hby at_72) rfl rfl k) ?_
          show own_Gl p e below _ (T8.setTop (mkF m 74 #[.val (.int i0), .val (.int i1), .val (.int ((i0 &&& (7 : Int32)) - (1 : Int32))), .val (.ref (own_of ((i0 &&& (7 : Int32)) - (1 : Int32)) aN aS aD aC)), .val (.ref aS)] [(.ref aS), (.ref (own_of ((i0 &&& (7 : Int32)) - (1 : Int32)) aN aS aD aC))]))
          refine own_st (fun t k => Jvm.RoadKit.acmp (g := (mkF m 74 #[.val (.int i0), .val (.int i1), .val (.int ((i0 &&& (7 : Int32)) - (1 : Int32))), .val (.ref (own_of ((i0 &&& (7 : Int32)) - (1 : Int32)) aN aS aD aC)), .val (.ref aS)] [(.ref aS), (.ref (own_of ((i0 &&& (7 : Int32)) - (1 : Int32)) aN aS aD aC))])) X8 hx rfl rfl rfl (pc0 := 74) (pc' := 77) (same := true) rfl (hb hby at_74) rfl (decide_eq_true (congrArg Value.ref (own_of2 hc42_7))) (by decide) (by decide) k) ?_
          show own_Gl p e below _ (T8.setTop (mkF m 77 #[.val (.int i0), .val (.int i1), .val (.int ((i0 &&& (7 : Int32)) - (1 : Int32))), .val (.ref (own_of ((i0 &&& (7 : Int32)) - (1 : Int32)) aN aS aD aC)), .val (.ref aS)] []))
          refine own_st (fun t k => XS.iconst X8.here hx rfl (hb hby at_77) k) ?_
          show own_Gl p e below _ (T8.setTop (mkF m 78 #[.val (.int i0), .val (.int i1), .val (.int ((i0 &&& (7 : Int32)) - (1 : Int32))), .val (.ref (own_of ((i0 &&& (7 : Int32)) - (1 : Int32)) aN aS aD aC)), .val (.ref aS)] [(.int (1 : Int32))]))
          refine own_st (fun t k => XS.goto X8.here hx rfl (pc0 := 78) (pc' := 82) rfl (hb hby at_78) (by decide) (by decide) k) ?_
          show own_Gl p e below _ (T8.setTop (mkF m 82 #[.val (.int i0), .val (.int i1), .val (.int ((i0 &&& (7 : Int32)) - (1 : Int32))), .val (.ref (own_of ((i0 &&& (7 : Int32)) - (1 : Int32)) aN aS aD aC)), .val (.ref aS)] [(.int (1 : Int32))]))
          exact own_retN X8 hx Bd.notSynchronized (t := .boolean) Bd.returns (by simp) (hb hby at_82) (by decide) (by decide) e8 (⟨rfl, N2⟩)
        ·
          show own_Gl p e below _ (T2.setTop (mkF m 42 #[.val (.int i0), .val (.int i1), .val (.int ((i0 &&& (7 : Int32)) - (1 : Int32))), .val (.ref (own_of ((i0 &&& (7 : Int32)) - (1 : Int32)) aN aS aD aC)), .unset] [(.int (2 : Int32)), (.int ((i0 &&& (7 : Int32)) - (1 : Int32)))]))
          refine own_st (fun t k => XS.icmpYes X2.here hx rfl (pc0 := 42) (pc' := 53) rfl (hb hby at_42) rfl (feq (hc42_7)).2 (by decide) (by decide) k) ?_
          show own_Gl p e below _ (T2.setTop (mkF m 53 #[.val (.int i0), .val (.int i1), .val (.int ((i0 &&& (7 : Int32)) - (1 : Int32))), .val (.ref (own_of ((i0 &&& (7 : Int32)) - (1 : Int32)) aN aS aD aC)), .unset] []))
          refine own_st (fun t k => XS.iloadN X2.here hx rfl (hb hby at_53) rfl k) ?_
          show own_Gl p e below _ (T2.setTop (mkF m 54 #[.val (.int i0), .val (.int i1), .val (.int ((i0 &&& (7 : Int32)) - (1 : Int32))), .val (.ref (own_of ((i0 &&& (7 : Int32)) - (1 : Int32)) aN aS aD aC)), .unset] [(.int ((i0 &&& (7 : Int32)) - (1 : Int32)))]))
          refine own_st (fun t k => XS.iconst X2.here hx rfl (hb hby at_54) k) ?_
          show own_Gl p e below _ (T2.setTop (mkF m 55 #[.val (.int i0), .val (.int i1), .val (.int ((i0 &&& (7 : Int32)) - (1 : Int32))), .val (.ref (own_of ((i0 &&& (7 : Int32)) - (1 : Int32)) aN aS aD aC)), .unset] [(.int (4 : Int32)), (.int ((i0 &&& (7 : Int32)) - (1 : Int32)))]))
          by_cases hc55_9 : ((i0 &&& (7 : Int32)) - (1 : Int32)) = (4 : Int32)
          ·
            show own_Gl p e below _ (T2.setTop (mkF m 55 #[.val (.int i0), .val (.int i1), .val (.int ((i0 &&& (7 : Int32)) - (1 : Int32))), .val (.ref (own_of ((i0 &&& (7 : Int32)) - (1 : Int32)) aN aS aD aC)), .unset] [(.int (4 : Int32)), (.int ((i0 &&& (7 : Int32)) - (1 : Int32)))]))
            refine own_st (fun t k => XS.icmpNo X2.here hx rfl (hb hby at_55) rfl (teq (hc55_9)).2 k) ?_
            show own_Gl p e below _ (T2.setTop (mkF m 58 #[.val (.int i0), .val (.int i1), .val (.int ((i0 &&& (7 : Int32)) - (1 : Int32))), .val (.ref (own_of ((i0 &&& (7 : Int32)) - (1 : Int32)) aN aS aD aC)), .unset] []))
            obtain ⟨T10, X10, e10, st10⟩ := getS2 X2 hx hZ hown (host := "") (Or.inl (hw _ (List.mem_of_getElem? (i := 12) rfl))) Via.refl e2 S_aD (g := (mkF m 58 #[.val (.int i0), .val (.int i1), .val (.int ((i0 &&& (7 : Int32)) - (1 : Int32))), .val (.ref (own_of ((i0 &&& (7 : Int32)) - (1 : Int32)) aN aS aD aC)), .unset] [])) rfl (hb hby at_58)
            refine own_st st10 ?_
            show own_Gl p e below _ (T10.setTop (mkF m 61 #[.val (.int i0), .val (.int i1), .val (.int ((i0 &&& (7 : Int32)) - (1 : Int32))), .val (.ref (own_of ((i0 &&& (7 : Int32)) - (1 : Int32)) aN aS aD aC)), .unset] [(.ref aD)]))
            refine own_st (fun t k => XS.astore X10.here hx rfl (hb hby at_61) rfl rfl (l' := #[.val (.int i0), .val (.int i1), .val (.int ((i0 &&& (7 : Int32)) - (1 : Int32))), .val (.ref (own_of ((i0 &&& (7 : Int32)) - (1 : Int32)) aN aS aD aC)), .val (.ref aD)]) rfl k) ?_
            show own_Gl p e below _ (T10.setTop (mkF m 63 #[.val (.int i0), .val (.int i1), .val (.int ((i0 &&& (7 : Int32)) - (1 : Int32))), .val (.ref (own_of ((i0 &&& (7 : Int32)) - (1 : Int32)) aN aS aD aC)), .val (.ref aD)] []))
            refine own_st (fun t k => XS.goto X10.here hx rfl (pc0 := 63) (pc' := 71) rfl (hb hby at_63) (by decide) (by decide) k) ?_
            show own_Gl p e below _ (T10.setTop (mkF m 71 #[.val (.int i0), .val (.int i1), .val (.int ((i0 &&& (7 : Int32)) - (1 : Int32))), .val (.ref (own_of ((i0 &&& (7 : Int32)) - (1 : Int32)) aN aS aD aC)), .val (.ref aD)] []))
            refine own_st (fun t k => XS.aloadN X10.here hx rfl (hb hby at_71) rfl rfl k) ?_
            show own_Gl p e below _ (T10.setTop (mkF m 72 #[.val (.int i0), .val (.int i1), .val (.int ((i0 &&& (7 : Int32)) - (1 : Int32))), .val (.ref (own_of ((i0 &&& (7 : Int32)) - (1 : Int32)) aN aS aD aC)), .val (.ref aD)] [(.ref (own_of ((i0 &&& (7 : Int32)) - (1 : Int32)) aN aS aD aC))]))
            refine own_st (fun t k => XS.aload X10.here hx rfl (hb hby at_72) rfl rfl k) ?_
            show own_Gl p e below _ (T10.setTop (mkF m 74 #[.val (.int i0), .val (.int i1), .val (.int ((i0 &&& (7 : Int32)) - (1 : Int32))), .val (.ref (own_of ((i0 &&& (7 : Int32)) - (1 : Int32)) aN aS aD aC)), .val (.ref aD)] [(.ref aD), (.ref (own_of ((i0 &&& (7 : Int32)) - (1 : Int32)) aN aS aD aC))]))
            refine own_st (fun t k => Jvm.RoadKit.acmp (g := (mkF m 74 #[.val (.int i0), .val (.int i1), .val (.int ((i0 &&& (7 : Int32)) - (1 : Int32))), .val (.ref (own_of ((i0 &&& (7 : Int32)) - (1 : Int32)) aN aS aD aC)), .val (.ref aD)] [(.ref aD), (.ref (own_of ((i0 &&& (7 : Int32)) - (1 : Int32)) aN aS aD aC))])) X10 hx rfl rfl rfl (pc0 := 74) (pc' := 77) (same := true) rfl (hb hby at_74) rfl (decide_eq_true (congrArg Value.ref (own_of4 hc55_9))) (by decide) (by decide) k) ?_
            show own_Gl p e below _ (T10.setTop (mkF m 77 #[.val (.int i0), .val (.int i1), .val (.int ((i0 &&& (7 : Int32)) - (1 : Int32))), .val (.ref (own_of ((i0 &&& (7 : Int32)) - (1 : Int32)) aN aS aD aC)), .val (.ref aD)] []))
            refine own_st (fun t k => XS.iconst X10.here hx rfl (hb hby at_77) k) ?_
            show own_Gl p e below _ (T10.setTop (mkF m 78 #[.val (.int i0), .val (.int i1), .val (.int ((i0 &&& (7 : Int32)) - (1 : Int32))), .val (.ref (own_of ((i0 &&& (7 : Int32)) - (1 : Int32)) aN aS aD aC)), .val (.ref aD)] [(.int (1 : Int32))]))
            refine own_st (fun t k => XS.goto X10.here hx rfl (pc0 := 78) (pc' := 82) rfl (hb hby at_78) (by decide) (by decide) k) ?_
            show own_Gl p e below _ (T10.setTop (mkF m 82 #[.val (.int i0), .val (.int i1), .val (.int ((i0 &&& (7 : Int32)) - (1 : Int32))), .val (.ref (own_of ((i0 &&& (7 : Int32)) - (1 : Int32)) aN aS aD aC)), .val (.ref aD)] [(.int (1 : Int32))]))
            exact own_retN X10 hx Bd.notSynchronized (t := .boolean) Bd.returns (by simp) (hb hby at_82) (by decide) (by decide) e10 (⟨rfl, N2⟩)
          ·
            show own_Gl p e below _ (T2.setTop (mkF m 55 #[.val (.int i0), .val (.int i1), .val (.int ((i0 &&& (7 : Int32)) - (1 : Int32))), .val (.ref (own_of ((i0 &&& (7 : Int32)) - (1 : Int32)) aN aS aD aC)), .unset] [(.int (4 : Int32)), (.int ((i0 &&& (7 : Int32)) - (1 : Int32)))]))
            refine own_st (fun t k => XS.icmpYes X2.here hx rfl (pc0 := 55) (pc' := 66) rfl (hb hby at_55) rfl (feq (hc55_9)).2 (by decide) (by decide) k) ?_
            show own_Gl p e below _ (T2.setTop (mkF m 66 #[.val (.int i0), .val (.int i1), .val (.int ((i0 &&& (7 : Int32)) - (1 : Int32))), .val (.ref (own_of ((i0 &&& (7 : Int32)) - (1 : Int32)) aN aS aD aC)), .unset] []))
            obtain ⟨T11, X11, e11, st11⟩ := getS2 X2 hx hZ hown (host := "") (Or.inl (hw _ (List.mem_of_getElem? (i := 6) rfl))) Via.refl e2 S_aC (g := (mkF m 66 #[.val (.int i0), .val (.int i1), .val (.int ((i0 &&& (7 : Int32)) - (1 : Int32))), .val (.ref (own_of ((i0 &&& (7 : Int32)) - (1 : Int32)) aN aS aD aC)), .unset] [])) rfl (hb hby at_66)
            refine own_st st11 ?_
            show own_Gl p e below _ (T11.setTop (mkF m 69 #[.val (.int i0), .val (.int i1), .val (.int ((i0 &&& (7 : Int32)) - (1 : Int32))), .val (.ref (own_of ((i0 &&& (7 : Int32)) - (1 : Int32)) aN aS aD aC)), .unset] [(.ref aC)]))
            refine own_st (fun t k => XS.astore X11.here hx rfl (hb hby at_69) rfl rfl (l' := #[.val (.int i0), .val (.int i1), .val (.int ((i0 &&& (7 : Int32)) - (1 : Int32))), .val (.ref (own_of ((i0 &&& (7 : Int32)) - (1 : Int32)) aN aS aD aC)), .val (.ref aC)]) rfl k) ?_
            show own_Gl p e below _ (T11.setTop (mkF m 71 #[.val (.int i0), .val (.int i1), .val (.int ((i0 &&& (7 : Int32)) - (1 : Int32))), .val (.ref (own_of ((i0 &&& (7 : Int32)) - (1 : Int32)) aN aS aD aC)), .val (.ref aC)] []))
            refine own_st (fun t k => XS.aloadN X11.here hx rfl (hb hby at_71) rfl rfl k) ?_
            show own_Gl p e below _ (T11.setTop (mkF m 72 #[.val (.int i0), .val (.int i1), .val (.int ((i0 &&& (7 : Int32)) - (1 : Int32))), .val (.ref (own_of ((i0 &&& (7 : Int32)) - (1 : Int32)) aN aS aD aC)), .val (.ref aC)] [(.ref (own_of ((i0 &&& (7 : Int32)) - (1 : Int32)) aN aS aD aC))]))
            refine own_st (fun t k => XS.aload X11.here hx rfl (hb hby at_72) rfl rfl k) ?_
            show own_Gl p e below _ (T11.setTop (mkF m 74 #[.val (.int i0), .val (.int i1), .val (.int ((i0 &&& (7 : Int32)) - (1 : Int32))), .val (.ref (own_of ((i0 &&& (7 : Int32)) - (1 : Int32)) aN aS aD aC)), .val (.ref aC)] [(.ref aC), (.ref (own_of ((i0 &&& (7 : Int32)) - (1 : Int32)) aN aS aD aC))]))
            refine own_st (fun t k => Jvm.RoadKit.acmp (g := (mkF m 74 #[.val (.int i0), .val (.int i1), .val (.int ((i0 &&& (7 : Int32)) - (1 : Int32))), .val (.ref (own_of ((i0 &&& (7 : Int32)) - (1 : Int32)) aN aS aD aC)), .val (.ref aC)] [(.ref aC), (.ref (own_of ((i0 &&& (7 : Int32)) - (1 : Int32)) aN aS aD aC))])) X11 hx rfl rfl rfl (pc0 := 74) (pc' := 77) (same := true) rfl (hb hby at_74) rfl (decide_eq_true (congrArg Value.ref (own_of5 hc24_3 hc29_5 hc42_7 hc55_9))) (by decide) (by decide) k) ?_
            show own_Gl p e below _ (T11.setTop (mkF m 77 #[.val (.int i0), .val (.int i1), .val (.int ((i0 &&& (7 : Int32)) - (1 : Int32))), .val (.ref (own_of ((i0 &&& (7 : Int32)) - (1 : Int32)) aN aS aD aC)), .val (.ref aC)] []))
            refine own_st (fun t k => XS.iconst X11.here hx rfl (hb hby at_77) k) ?_
            show own_Gl p e below _ (T11.setTop (mkF m 78 #[.val (.int i0), .val (.int i1), .val (.int ((i0 &&& (7 : Int32)) - (1 : Int32))), .val (.ref (own_of ((i0 &&& (7 : Int32)) - (1 : Int32)) aN aS aD aC)), .val (.ref aC)] [(.int (1 : Int32))]))
            refine own_st (fun t k => XS.goto X11.here hx rfl (pc0 := 78) (pc' := 82) rfl (hb hby at_78) (by decide) (by decide) k) ?_
            show own_Gl p e below _ (T11.setTop (mkF m 82 #[.val (.int i0), .val (.int i1), .val (.int ((i0 &&& (7 : Int32)) - (1 : Int32))), .val (.ref (own_of ((i0 &&& (7 : Int32)) - (1 : Int32)) aN aS aD aC)), .val (.ref aC)] [(.int (1 : Int32))]))
            exact own_retN X11 hx Bd.notSynchronized (t := .boolean) Bd.returns (by simp) (hb hby at_82) (by decide) (by decide) e11 (⟨rfl, N2⟩)
  ·
    show own_Gl p e below _ (s₁.setTop (mkF m 3 #[.val (.int i0), .val (.int i1), .unset, .unset, .unset] [(.int (i1 &&& (1 : Int32)))]))
    refine own_st (fun t k => XS.ifNo X0.here hx rfl (hb hby at_3) rfl ((if0 _ _).trans (feq (hc3_1)).1) k) ?_
    show own_Gl p e below _ (s₁.setTop (mkF m 6 #[.val (.int i0), .val (.int i1), .unset, .unset, .unset] []))
    refine own_st (fun t k => XS.iloadN X0.here hx rfl (hb hby at_6) rfl k) ?_
    show own_Gl p e below _ (s₁.setTop (mkF m 7 #[.val (.int i0), .val (.int i1), .unset, .unset, .unset] [(.int i0)]))
    refine own_st (fun t k => XS.goto X0.here hx rfl (pc0 := 7) (pc' := 16) rfl (hb hby at_7) (by decide) (by decide) k) ?_
    show own_Gl p e below _ (s₁.setTop (mkF m 16 #[.val (.int i0), .val (.int i1), .unset, .unset, .unset] [(.int i0)]))
    refine own_st (fun t k => XS.istoreN X0.here hx rfl (hb hby at_16) rfl (l' := #[.val (.int i0), .val (.int i1), .val (.int i0), .unset, .unset]) rfl k) ?_
    show own_Gl p e below _ (s₁.setTop (mkF m 17 #[.val (.int i0), .val (.int i1), .val (.int i0), .unset, .unset] []))
    refine own_st (fun t k => XS.iloadN X0.here hx rfl (hb hby at_17) rfl k) ?_
    show own_Gl p e below _ (s₁.setTop (mkF m 18 #[.val (.int i0), .val (.int i1), .val (.int i0), .unset, .unset] [(.int i0)]))
    obtain ⟨_, _, ⟨T12, L12, k12, n12⟩, -, X12, ⟨Lc12, hQ12, l12, y12, z12⟩, st12⟩ := Jvm.LawKit.callS X0 hx (y := (⟨"com/example/libentity/libentity/jdbc/DeleteRule", "of", "(I)Lcom/example/libentity/libentity/jdbc/DeleteRule;"⟩ : MethodName)) hown (mvT hZ (hw _ (List.mem_of_getElem? (i := 0) rfl))) (mvT hZ (hw _ (List.mem_of_getElem? (i := 1) rfl))) (mvT hZ (hw _ (List.mem_of_getElem? (i := 2) rfl))) (mvT hZ (hw _ (List.mem_of_getElem? (i := 3) rfl))) (by decide) (backOf (W := 0) (own_rm_of l Z a0 hw [] i0 aN aS aD aC h0 n0 Z0 S_aN S_aS S_aD S_aC) hZ (hw _ (List.mem_of_getElem? (i := 3) rfl)) (hw _ (List.mem_of_getElem? (i := 2) rfl)) (by decide) (by decide)) (g := (mkF m 18 #[.val (.int i0), .val (.int i1), .val (.int i0), .unset, .unset] [(.int i0)])) rfl (by rw [hml]; rfl) (argsL := [(.int i0)]) (rest := []) (lenOf own_pd0 rfl) rfl (by show 2 * 0 + _ ≤ _; exact Nat.le_of_eq rfl) (hb hby at_18) (fun _ _ => ⟨rfl, e0, (by decide : 0 + 0 ≤ _), (by decide : 0 + 0 ≤ _)⟩)
    dsimp only [Pt.U, Pt.locs, Pt.cells, Pt.slots] at X12 l12 y12 z12 st12 hQ12
    subst l12 y12 z12
    obtain ⟨rfl, N12q, e12⟩ := hQ12
    have N12 := Fr.app N0 N12q
    refine own_st st12 ?_
    show own_Gl p e below _ (T12.setTop (mkF m 21 #[.val (.int i0), .val (.int i1), .val (.int i0), .unset, .unset] [(.ref (own_of i0 aN aS aD aC))]))
    refine own_st (fun t k => XS.astoreN X12.here hx rfl (hb hby at_21) rfl rfl (l' := #[.val (.int i0), .val (.int i1), .val (.int i0), .val (.ref (own_of i0 aN aS aD aC)), .unset]) rfl k) ?_
    show own_Gl p e below _ (T12.setTop (mkF m 22 #[.val (.int i0), .val (.int i1), .val (.int i0), .val (.ref (own_of i0 aN aS aD aC)), .unset] []))
    refine own_st (fun t k => XS.iloadN X12.here hx rfl (hb hby at_22) rfl k) ?_
    show own_Gl p e below _ (T12.setTop (mkF m 23 #[.val (.int i0), .val (.int i1), .val (.int i0), .val (.ref (own_of i0 aN aS aD aC)), .unset] [(.int i0)]))
    refine own_st (fun t k => XS.iconst X12.here hx rfl (hb hby at_23) k) ?_
    show own_Gl p e below _ (T12.setTop (mkF m 24 #[.val (.int i0), .val (.int i1), .val (.int i0), .val (.ref (own_of i0 aN aS aD aC)), .unset] [(.int (3 : Int32)), (.int i0)]))
    by_cases hc24_13 : i0 = (3 : Int32)
    ·
      show own_Gl p e below _ (T12.setTop (mkF m 24 #[.val (.int i0), .val (.int i1), .val (.int i0), .val (.ref (own_of i0 aN aS aD aC)), .unset] [(.int (3 : Int32)), (.int i0)]))
      refine own_st (fun t k => XS.icmpYes X12.here hx rfl (pc0 := 24) (pc' := 32) rfl (hb hby at_24) rfl (teq (hc24_13)).1 (by decide) (by decide) k) ?_
      show own_Gl p e below _ (T12.setTop (mkF m 32 #[.val (.int i0), .val (.int i1), .val (.int i0), .val (.ref (own_of i0 aN aS aD aC)), .unset] []))
      obtain ⟨T14, X14, e14, st14⟩ := getS2 X12 hx hZ hown (host := "") (Or.inl (hw _ (List.mem_of_getElem? (i := 9) rfl))) Via.refl e12 S_aN (g := (mkF m 32 #[.val (.int i0), .val (.int i1), .val (.int i0), .val (.ref (own_of i0 aN aS aD aC)), .unset] [])) rfl (hb hby at_32)
      refine own_st st14 ?_
      show own_Gl p e below _ (T14.setTop (mkF m 35 #[.val (.int i0), .val (.int i1), .val (.int i0), .val (.ref (own_of i0 aN aS aD aC)), .unset] [(.ref aN)]))
      refine own_st (fun t k => XS.astore X14.here hx rfl (hb hby at_35) rfl rfl (l' := #[.val (.int i0), .val (.int i1), .val (.int i0), .val (.ref (own_of i0 aN aS aD aC)), .val (.ref aN)]) rfl k) ?_
      show own_Gl p e below _ (T14.setTop (mkF m 37 #[.val (.int i0), .val (.int i1), .val (.int i0), .val (.ref (own_of i0 aN aS aD aC)), .val (.ref aN)] []))
      refine own_st (fun t k => XS.goto X14.here hx rfl (pc0 := 37) (pc' := 71) rfl (hb hby at_37) (by decide) (by decide) k) ?_
      show own_Gl p e below _ (T14.setTop (mkF m 71 #[.val (.int i0), .val (.int i1), .val (.int i0), .val (.ref (own_of i0 aN aS aD aC)), .val (.ref aN)] []))
      refine own_st (fun t k => XS.aloadN X14.here hx rfl (hb hby at_71) rfl rfl k) ?_
      show own_Gl p e below _ (T14.setTop (mkF m 72 #[.val (.int i0), .val (.int i1), .val (.int i0), .val (.ref (own_of i0 aN aS aD aC)), .val (.ref aN)] [(.ref (own_of i0 aN aS aD aC))]))
      refine own_st (fun t k => XS.aload X14.here hx rfl (hb hby at_72) rfl rfl k) ?_
      show own_Gl p e below _ (T14.setTop (mkF m 74 #[.val (.int i0), .val (.int i1), .val (.int i0), .val (.ref (own_of i0 aN aS aD aC)), .val (.ref aN)] [(.ref aN), (.ref (own_of i0 aN aS aD aC))]))
      refine own_st (fun t k => Jvm.RoadKit.acmp (g := (mkF m 74 #[.val (.int i0), .val (.int i1), .val (.int i0), .val (.ref (own_of i0 aN aS aD aC)), .val (.ref aN)] [(.ref aN), (.ref (own_of i0 aN aS aD aC))])) X14 hx rfl rfl rfl (pc0 := 74) (pc' := 77) (same := true) rfl (hb hby at_74) rfl (decide_eq_true (congrArg Value.ref (own_of1 (Or.inr hc24_13)))) (by decide) (by decide) k) ?_
      show own_Gl p e below _ (T14.setTop (mkF m 77 #[.val (.int i0), .val (.int i1), .val (.int i0), .val (.ref (own_of i0 aN aS aD aC)), .val (.ref aN)] []))
      refine own_st (fun t k => XS.iconst X14.here hx rfl (hb hby at_77) k) ?_
      show own_Gl p e below _ (T14.setTop (mkF m 78 #[.val (.int i0), .val (.int i1), .val (.int i0), .val (.ref (own_of i0 aN aS aD aC)), .val (.ref aN)] [(.int (1 : Int32))]))
      refine own_st (fun t k => XS.goto X14.here hx rfl (pc0 := 78) (pc' := 82) rfl (hb hby at_78) (by decide) (by decide) k) ?_
      show own_Gl p e below _ (T14.setTop (mkF m 82 #[.val (.int i0), .val (.int i1), .val (.int i0), .val (.ref (own_of i0 aN aS aD aC)), .val (.ref aN)] [(.int (1 : Int32))]))
      exact own_retN X14 hx Bd.notSynchronized (t := .boolean) Bd.returns (by simp) (hb hby at_82) (by decide) (by decide) e14 (⟨rfl, N12⟩)
    ·
      show own_Gl p e below _ (T12.setTop (mkF m 24 #[.val (.int i0), .val (.int i1), .val (.int i0), .val (.ref (own_of i0 aN aS aD aC)), .unset] [(.int (3 : Int32)), (.int i0)]))
      refine own_st (fun t k => XS.icmpNo X12.here hx rfl (hb hby at_24) rfl (feq (hc24_13)).1 k) ?_
      show own_Gl p e below _ (T12.setTop (mkF m 27 #[.val (.int i0), .val (.int i1), .val (.int i0), .val (.ref (own_of i0 aN aS aD aC)), .unset] []))
      refine own_st (fun t k => XS.iloadN X12.here hx rfl (hb hby at_27) rfl k) ?_
      show own_Gl p e below _ (T12.setTop (mkF m 28 #[.val (.int i0), .val (.int i1), .val (.int i0), .val (.ref (own_of i0 aN aS aD aC)), .unset] [(.int i0)]))
      refine own_st (fun t k => XS.iconst X12.here hx rfl (hb hby at_28) k) ?_
      show own_Gl p e below _ (T12.setTop (mkF m 29 #[.val (.int i0), .val (.int i1), .val (.int i0), .val (.ref (own_of i0 aN aS aD aC)), .unset] [(.int (1 : Int32)), (.int i0)]))
      by_cases hc29_15 : i0 = (1 : Int32)
      ·
        show own_Gl p e below _ (T12.setTop (mkF m 29 #[.val (.int i0), .val (.int i1), .val (.int i0), .val (.ref (own_of i0 aN aS aD aC)), .unset] [(.int (1 : Int32)), (.int i0)]))
        refine own_st (fun t k => XS.icmpNo X12.here hx rfl (hb hby at_29) rfl (teq (hc29_15)).2 k) ?_
        show own_Gl p e below _ (T12.setTop (mkF m 32 #[.val (.int i0), .val (.int i1), .val (.int i0), .val (.ref (own_of i0 aN aS aD aC)), .unset] []))
        obtain ⟨T16, X16, e16, st16⟩ := getS2 X12 hx hZ hown (host := "") (Or.inl (hw _ (List.mem_of_getElem? (i := 9) rfl))) Via.refl e12 S_aN (g := (mkF m 32 #[.val (.int i0), .val (.int i1), .val (.int i0), .val (.ref (own_of i0 aN aS aD aC)), .unset] [])) rfl (hb hby at_32)
        refine own_st st16 ?_
        show own_Gl p e below _ (T16.setTop (mkF m 35 #[.val (.int i0), .val (.int i1), .val (.int i0), .val (.ref (own_of i0 aN aS aD aC)), .unset] [(.ref aN)]))
        refine own_st (fun t k => XS.astore X16.here hx rfl (hb hby at_35) rfl rfl (l' := #[.val (.int i0), .val (.int i1), .val (.int i0), .val (.ref (own_of i0 aN aS aD aC)), .val (.ref aN)]) rfl k) ?_
        show own_Gl p e below _ (T16.setTop (mkF m 37 #[.val (.int i0), .val (.int i1), .val (.int i0), .val (.ref (own_of i0 aN aS aD aC)), .val (.ref aN)] []))
        refine own_st (fun t k => XS.goto X16.here hx rfl (pc0 := 37) (pc' := 71) rfl (hb hby at_37) (by decide) (by decide) k) ?_
        show own_Gl p e below _ (T16.setTop (mkF m 71 #[.val (.int i0), .val (.int i1), .val (.int i0), .val (.ref (own_of i0 aN aS aD aC)), .val (.ref aN)] []))
        refine own_st (fun t k => XS.aloadN X16.here hx rfl (hb hby at_71) rfl rfl k) ?_
        show own_Gl p e below _ (T16.setTop (mkF m 72 #[.val (.int i0), .val (.int i1), .val (.int i0), .val (.ref (own_of i0 aN aS aD aC)), .val (.ref aN)] [(.ref (own_of i0 aN aS aD aC))]))
        refine own_st (fun t k => XS.aload X16.here hx rfl (hb hby at_72) rfl rfl k) ?_
        show own_Gl p e below _ (T16.setTop (mkF m 74 #[.val (.int i0), .val (.int i1), .val (.int i0), .val (.ref (own_of i0 aN aS aD aC)), .val (.ref aN)] [(.ref aN), (.ref (own_of i0 aN aS aD aC))]))
        refine own_st (fun t k => Jvm.RoadKit.acmp (g := (mkF m 74 #[.val (.int i0), .val (.int i1), .val (.int i0), .val (.ref (own_of i0 aN aS aD aC)), .val (.ref aN)] [(.ref aN), (.ref (own_of i0 aN aS aD aC))])) X16 hx rfl rfl rfl (pc0 := 74) (pc' := 77) (same := true) rfl (hb hby at_74) rfl (decide_eq_true (congrArg Value.ref (own_of1 (Or.inl hc29_15)))) (by decide) (by decide) k) ?_
        show own_Gl p e below _ (T16.setTop (mkF m 77 #[.val (.int i0), .val (.int i1), .val (.int i0), .val (.ref (own_of i0 aN aS aD aC)), .val (.ref aN)] []))
        refine own_st (fun t k => XS.iconst X16.here hx rfl (hb hby at_77) k) ?_
        show own_Gl p e below _ (T16.setTop (mkF m 78 #[.val (.int i0), .val (.int i1), .val (.int i0), .val (.ref (own_of i0 aN aS aD aC)), .val (.ref aN)] [(.int (1 : Int32))]))
        refine own_st (fun t k => XS.goto X16.here hx rfl (pc0 := 78) (pc' := 82) rfl (hb hby at_78) (by decide) (by decide) k) ?_
        show own_Gl p e below _ (T16.setTop (mkF m 82 #[.val (.int i0), .val (.int i1), .val (.int i0), .val (.ref (own_of i0 aN aS aD aC)), .val (.ref aN)] [(.int (1 : Int32))]))
        exact own_retN X16 hx Bd.notSynchronized (t := .boolean) Bd.returns (by simp) (hb hby at_82) (by decide) (by decide) e16 (⟨rfl, N12⟩)
      ·
        show own_Gl p e below _ (T12.setTop (mkF m 29 #[.val (.int i0), .val (.int i1), .val (.int i0), .val (.ref (own_of i0 aN aS aD aC)), .unset] [(.int (1 : Int32)), (.int i0)]))
        refine own_st (fun t k => XS.icmpYes X12.here hx rfl (pc0 := 29) (pc' := 40) rfl (hb hby at_29) rfl (feq (hc29_15)).2 (by decide) (by decide) k) ?_
        show own_Gl p e below _ (T12.setTop (mkF m 40 #[.val (.int i0), .val (.int i1), .val (.int i0), .val (.ref (own_of i0 aN aS aD aC)), .unset] []))
        refine own_st (fun t k => XS.iloadN X12.here hx rfl (hb hby at_40) rfl k) ?_
        show own_Gl p e below _ (T12.setTop (mkF m 41 #[.val (.int i0), .val (.int i1), .val (.int i0), .val (.ref (own_of i0 aN aS aD aC)), .unset] [(.int i0)]))
        refine own_st (fun t k => XS.iconst X12.here hx rfl (hb hby at_41) k) ?_
        show own_Gl p e below _ (T12.setTop (mkF m 42 #[.val (.int i0), .val (.int i1), .val (.int i0), .val (.ref (own_of i0 aN aS aD aC)), .unset] [(.int (2 : Int32)), (.int i0)]))
        by_cases hc42_17 : i0 = (2 : Int32)
        ·
          show own_Gl p e below _ (T12.setTop (mkF m 42 #[.val (.int i0), .val (.int i1), .val (.int i0), .val (.ref (own_of i0 aN aS aD aC)), .unset] [(.int (2 : Int32)), (.int i0)]))
          refine own_st (fun t k => XS.icmpNo X12.here hx rfl (hb hby at_42) rfl (teq (hc42_17)).2 k) ?_
          show own_Gl p e below _ (T12.setTop (mkF m 45 #[.val (.int i0), .val (.int i1), .val (.int i0), .val (.ref (own_of i0 aN aS aD aC)), .unset] []))
          obtain ⟨T18, X18, e18, st18⟩ := getS2 X12 hx hZ hown (host := "") (Or.inl (hw _ (List.mem_of_getElem? (i := 15) rfl))) Via.refl e12 S_aS (g := (mkF m 45 #[.val (.int i0), .val (.int i1), .val (.int i0), .val (.ref (own_of i0 aN aS aD aC)), .unset] [])) rfl (hb hby at_45)
          refine own_st st18 ?_
          show own_Gl p e below _ (T18.setTop (mkF m 48 #[.val (.int i0), .val (.int i1), .val (.int i0), .val (.ref (own_of i0 aN aS aD aC)), .unset] [(.ref aS)]))
          refine own_st (fun t k => XS.astore X18.here hx rfl (hb hby at_48) rfl rfl (l' := #[.val (.int i0), .val (.int i1), .val (.int i0), .val (.ref (own_of i0 aN aS aD aC)), .val (.ref aS)]) rfl k) ?_
          show own_Gl p e below _ (T18.setTop (mkF m 50 #[.val (.int i0), .val (.int i1), .val (.int i0), .val (.ref (own_of i0 aN aS aD aC)), .val (.ref aS)] []))
          refine own_st (fun t k => XS.goto X18.here hx rfl (pc0 := 50) (pc' := 71) rfl (hb hby at_50) (by decide) (by decide) k) ?_
          show own_Gl p e below _ (T18.setTop (mkF m 71 #[.val (.int i0), .val (.int i1), .val (.int i0), .val (.ref (own_of i0 aN aS aD aC)), .val (.ref aS)] []))
          refine own_st (fun t k => XS.aloadN X18.here hx rfl (hb hby at_71) rfl rfl k) ?_
          show own_Gl p e below _ (T18.setTop (mkF m 72 #[.val (.int i0), .val (.int i1), .val (.int i0), .val (.ref (own_of i0 aN aS aD aC)), .val (.ref aS)] [(.ref (own_of i0 aN aS aD aC))]))
          refine own_st (fun t k => XS.aload X18.here hx rfl (hb hby at_72) rfl rfl k) ?_
          show own_Gl p e below _ (T18.setTop (mkF m 74 #[.val (.int i0), .val (.int i1), .val (.int i0), .val (.ref (own_of i0 aN aS aD aC)), .val (.ref aS)] [(.ref aS), (.ref (own_of i0 aN aS aD aC))]))
          refine own_st (fun t k => Jvm.RoadKit.acmp (g := (mkF m 74 #[.val (.int i0), .val (.int i1), .val (.int i0), .val (.ref (own_of i0 aN aS aD aC)), .val (.ref aS)] [(.ref aS), (.ref (own_of i0 aN aS aD aC))])) X18 hx rfl rfl rfl (pc0 := 74) (pc' := 77) (same := true) rfl (hb hby at_74) rfl (decide_eq_true (congrArg Value.ref (own_of2 hc42_17))) (by decide) (by decide) k) ?_
          show own_Gl p e below _ (T18.setTop (mkF m 77 #[.val (.int i0), .val (.int i1), .val (.int i0), .val (.ref (own_of i0 aN aS aD aC)), .val (.ref aS)] []))
          refine own_st (fun t k => XS.iconst X18.here hx rfl (hb hby at_77) k) ?_
          show own_Gl p e below _ (T18.setTop (mkF m 78 #[.val (.int i0), .val (.int i1), .val (.int i0), .val (.ref (own_of i0 aN aS aD aC)), .val (.ref aS)] [(.int (1 : Int32))]))
          refine own_st (fun t k => XS.goto X18.here hx rfl (pc0 := 78) (pc' := 82) rfl (hb hby at_78) (by decide) (by decide) k) ?_
          show own_Gl p e below _ (T18.setTop (mkF m 82 #[.val (.int i0), .val (.int i1), .val (.int i0), .val (.ref (own_of i0 aN aS aD aC)), .val (.ref aS)] [(.int (1 : Int32))]))
          exact own_retN X18 hx Bd.notSynchronized (t := .boolean) Bd.returns (by simp) (hb hby at_82) (by decide) (by decide) e18 (⟨rfl, N12⟩)
        ·
          show own_Gl p e below _ (T12.setTop (mkF m 42 #[.val (.int i0), .val (.int i1), .val (.int i0), .val (.ref (own_of i0 aN aS aD aC)), .unset] [(.int (2 : Int32)), (.int i0)]))
          refine own_st (fun t k => XS.icmpYes X12.here hx rfl (pc0 := 42) (pc' := 53) rfl (hb hby at_42) rfl (feq (hc42_17)).2 (by decide) (by decide) k) ?_
          show own_Gl p e below _ (T12.setTop (mkF m 53 #[.val (.int i0), .val (.int i1), .val (.int i0), .val (.ref (own_of i0 aN aS aD aC)), .unset] []))
          refine own_st (fun t k => XS.iloadN X12.here hx rfl (hb hby at_53) rfl k) ?_
          show own_Gl p e below _ (T12.setTop (mkF m 54 #[.val (.int i0), .val (.int i1), .val (.int i0), .val (.ref (own_of i0 aN aS aD aC)), .unset] [(.int i0)]))
          refine own_st (fun t k => XS.iconst X12.here hx rfl (hb hby at_54) k) ?_
          show own_Gl p e below _ (T12.setTop (mkF m 55 #[.val (.int i0), .val (.int i1), .val (.int i0), .val (.ref (own_of i0 aN aS aD aC)), .unset] [(.int (4 : Int32)), (.int i0)]))
          by_cases hc55_19 : i0 = (4 : Int32)
          ·
            show own_Gl p e below _ (T12.setTop (mkF m 55 #[.val (.int i0), .val (.int i1), .val (.int i0), .val (.ref (own_of i0 aN aS aD aC)), .unset] [(.int (4 : Int32)), (.int i0)]))
            refine own_st (fun t k => XS.icmpNo X12.here hx rfl (hb hby at_55) rfl (teq (hc55_19)).2 k) ?_
            show own_Gl p e below _ (T12.setTop (mkF m 58 #[.val (.int i0), .val (.int i1), .val (.int i0), .val (.ref (own_of i0 aN aS aD aC)), .unset] []))
            obtain ⟨T20, X20, e20, st20⟩ := getS2 X12 hx hZ hown (host := "") (Or.inl (hw _ (List.mem_of_getElem? (i := 12) rfl))) Via.refl e12 S_aD (g := (mkF m 58 #[.val (.int i0), .val (.int i1), .val (.int i0), .val (.ref (own_of i0 aN aS aD aC)), .unset] [])) rfl (hb hby at_58)
            refine own_st st20 ?_
            show own_Gl p e below _ (T20.setTop (mkF m 61 #[.val (.int i0), .val (.int i1), .val (.int i0), .val (.ref (own_of i0 aN aS aD aC)), .unset] [(.ref aD)]))
            refine own_st (fun t k => XS.astore X20.here hx rfl (hb hby at_61) rfl rfl (l' := #[.val (.int i0), .val (.int i1), .val (.int i0), .val (.ref (own_of i0 aN aS aD aC)), .val (.ref aD)]) rfl k) ?_
            show own_Gl p e below _ (T20.setTop (mkF m 63 #[.val (.int i0), .val (.int i1), .val (.int i0), .val (.ref (own_of i0 aN aS aD aC)), .val (.ref aD)] []))
            refine own_st (fun t k => XS.goto X20.here hx rfl (pc0 := 63) (pc' := 71) rfl (hb hby at_63) (by decide) (by decide) k) ?_
            show own_Gl p e below _ (T20.setTop (mkF m 71 #[.val (.int i0), .val (.int i1), .val (.int i0), .val (.ref (own_of i0 aN aS aD aC)), .val (.ref aD)] []))
            refine own_st (fun t k => XS.aloadN X20.here hx rfl (hb hby at_71) rfl rfl k) ?_
            show own_Gl p e below _ (T20.setTop (mkF m 72 #[.val (.int i0), .val (.int i1), .val (.int i0), .val (.ref (own_of i0 aN aS aD aC)), .val (.ref aD)] [(.ref (own_of i0 aN aS aD aC))]))
            refine own_st (fun t k => XS.aload X20.here hx rfl (hb hby at_72) rfl rfl k) ?_
            show own_Gl p e below _ (T20.setTop (mkF m 74 #[.val (.int i0), .val (.int i1), .val (.int i0), .val (.ref (own_of i0 aN aS aD aC)), .val (.ref aD)] [(.ref aD), (.ref (own_of i0 aN aS aD aC))]))
            refine own_st (fun t k => Jvm.RoadKit.acmp (g := (mkF m 74 #[.val (.int i0), .val (.int i1), .val (.int i0), .val (.ref (own_of i0 aN aS aD aC)), .val (.ref aD)] [(.ref aD), (.ref (own_of i0 aN aS aD aC))])) X20 hx rfl rfl rfl (pc0 := 74) (pc' := 77) (same := true) rfl (hb hby at_74) rfl (decide_eq_true (congrArg Value.ref (own_of4 hc55_19))) (by decide) (by decide) k) ?_
            show own_Gl p e below _ (T20.setTop (mkF m 77 #[.val (.int i0), .val (.int i1), .val (.int i0), .val (.ref (own_of i0 aN aS aD aC)), .val (.ref aD)] []))
            refine own_st (fun t k => XS.iconst X20.here hx rfl (hb hby at_77) k) ?_
            show own_Gl p e below _ (T20.setTop (mkF m 78 #[.val (.int i0), .val (.int i1), .val (.int i0), .val (.ref (own_of i0 aN aS aD aC)), .val (.ref aD)] [(.int (1 : Int32))]))
            refine own_st (fun t k => XS.goto X20.here hx rfl (pc0 := 78) (pc' := 82) rfl (hb hby at_78) (by decide) (by decide) k) ?_
            show own_Gl p e below _ (T20.setTop (mkF m 82 #[.val (.int i0), .val (.int i1), .val (.int i0), .val (.ref (own_of i0 aN aS aD aC)), .val (.ref aD)] [(.int (1 : Int32))]))
            exact own_retN X20 hx Bd.notSynchronized (t := .boolean) Bd.returns (by simp) (hb hby at_82) (by decide) (by decide) e20 (⟨rfl, N12⟩)
          ·
            show own_Gl p e below _ (T12.setTop (mkF m 55 #[.val (.int i0), .val (.int i1), .val (.int i0), .val (.ref (own_of i0 aN aS aD aC)), .unset] [(.int (4 : Int32)), (.int i0)]))
            refine own_st (fun t k => XS.icmpYes X12.here hx rfl (pc0 := 55) (pc' := 66) rfl (hb hby at_55) rfl (feq (hc55_19)).2 (by decide) (by decide) k) ?_
            show own_Gl p e below _ (T12.setTop (mkF m 66 #[.val (.int i0), .val (.int i1), .val (.int i0), .val (.ref (own_of i0 aN aS aD aC)), .unset] []))
            obtain ⟨T21, X21, e21, st21⟩ := getS2 X12 hx hZ hown (host := "") (Or.inl (hw _ (List.mem_of_getElem? (i := 6) rfl))) Via.refl e12 S_aC (g := (mkF m 66 #[.val (.int i0), .val (.int i1), .val (.int i0), .val (.ref (own_of i0 aN aS aD aC)), .unset] [])) rfl (hb hby at_66)
            refine own_st st21 ?_
            show own_Gl p e below _ (T21.setTop (mkF m 69 #[.val (.int i0), .val (.int i1), .val (.int i0), .val (.ref (own_of i0 aN aS aD aC)), .unset] [(.ref aC)]))
            refine own_st (fun t k => XS.astore X21.here hx rfl (hb hby at_69) rfl rfl (l' := #[.val (.int i0), .val (.int i1), .val (.int i0), .val (.ref (own_of i0 aN aS aD aC)), .val (.ref aC)]) rfl k) ?_
            show own_Gl p e below _ (T21.setTop (mkF m 71 #[.val (.int i0), .val (.int i1), .val (.int i0), .val (.ref (own_of i0 aN aS aD aC)), .val (.ref aC)] []))
            refine own_st (fun t k => XS.aloadN X21.here hx rfl (hb hby at_71) rfl rfl k) ?_
            show own_Gl p e below _ (T21.setTop (mkF m 72 #[.val (.int i0), .val (.int i1), .val (.int i0), .val (.ref (own_of i0 aN aS aD aC)), .val (.ref aC)] [(.ref (own_of i0 aN aS aD aC))]))
            refine own_st (fun t k => XS.aload X21.here hx rfl (hb hby at_72) rfl rfl k) ?_
            show own_Gl p e below _ (T21.setTop (mkF m 74 #[.val (.int i0), .val (.int i1), .val (.int i0), .val (.ref (own_of i0 aN aS aD aC)), .val (.ref aC)] [(.ref aC), (.ref (own_of i0 aN aS aD aC))]))
            refine own_st (fun t k => Jvm.RoadKit.acmp (g := (mkF m 74 #[.val (.int i0), .val (.int i1), .val (.int i0), .val (.ref (own_of i0 aN aS aD aC)), .val (.ref aC)] [(.ref aC), (.ref (own_of i0 aN aS aD aC))])) X21 hx rfl rfl rfl (pc0 := 74) (pc' := 77) (same := true) rfl (hb hby at_74) rfl (decide_eq_true (congrArg Value.ref (own_of5 hc24_13 hc29_15 hc42_17 hc55_19))) (by decide) (by decide) k) ?_
            show own_Gl p e below _ (T21.setTop (mkF m 77 #[.val (.int i0), .val (.int i1), .val (.int i0), .val (.ref (own_of i0 aN aS aD aC)), .val (.ref aC)] []))
            refine own_st (fun t k => XS.iconst X21.here hx rfl (hb hby at_77) k) ?_
            show own_Gl p e below _ (T21.setTop (mkF m 78 #[.val (.int i0), .val (.int i1), .val (.int i0), .val (.ref (own_of i0 aN aS aD aC)), .val (.ref aC)] [(.int (1 : Int32))]))
            refine own_st (fun t k => XS.goto X21.here hx rfl (pc0 := 78) (pc' := 82) rfl (hb hby at_78) (by decide) (by decide) k) ?_
            show own_Gl p e below _ (T21.setTop (mkF m 82 #[.val (.int i0), .val (.int i1), .val (.int i0), .val (.ref (own_of i0 aN aS aD aC)), .val (.ref aC)] [(.int (1 : Int32))]))
            exact own_retN X21 hx Bd.notSynchronized (t := .boolean) Bd.returns (by simp) (hb hby at_82) (by decide) (by decide) e21 (⟨rfl, N12⟩)
set_option maxRecDepth 65536 in
set_option maxHeartbeats 40000000 in
theorem comes_1 {Post : Tables → Env → Array Value → State → Outcome → State → Prop} (hpost : ∀ tb e args s v u, (limb_1_1.after args s (.returned v) u = true ∧ limb_1_2.after args s (.returned v) u = true ∧ True) → FrameEnd s (.returned v) u (Jvm.fieldLocs frame_1_writes args s ++ Jvm.arrayLocs frame_1_arrays args s ++ Jvm.staticLocs frame_1_statics s) 0 0 → Post tb e args s (.returned v) u) :
    ArmFor flags0 classFile x code maxLocals ret World_1 tables_1 room_1 Calls_1 rest_1 Pre_1 Post := by
  intro l hfl _ _ p e ha hc hk s m args below hf hA hF happ hP
  obtain ⟨hcalls, hrest, hpre⟩ := hP
  obtain ⟨-, -, -, hnamed, -, -, -, hat⟩ := (Spec.applies_iff hf).mp happ
  obtain ⟨hg, hn⟩ := and_e (Cond.before_iff.mp (show (Jvm.Cond.and given_1 narrow_1).before args s = true from hpre))
  obtain ⟨g0a, g0b⟩ := and_e hg
  obtain ⟨g1a, g1b⟩ := and_e g0b
  obtain ⟨w0, w1, rfl⟩ : ∃ w0 w1 : Value, args = #[w0, w1] := by
    have hs : args.size = 2 := by simpa [Cond.value, given_1] using g0a
    obtain ⟨L⟩ := args
    match L, hs with
    | [w0, w1], _ => exact ⟨w0, w1, rfl⟩
  have hw := fun d (hd : d ∈ tables_1) => atoms_spec (ws := Jvm.Cond.code x code maxLocals ret :: tables_1) hat d (List.mem_cons_of_mem _ hd)
  have hfit : Fit s := fun {y c} hc i hi => by
    obtain ⟨ha, rfl⟩ := Array.getElem?_eq_some_iff.mp hc
    have q := List.all_eq_true.mp ((Array.all_eq_true_iff_forall_mem.mp hF) _ (Array.getElem_mem ha)) i (List.mem_range.mpr hi)
    simpa [Array.getElem?_eq_getElem hi] using q
  obtain ⟨i0, ei0⟩ := is_v g1a
  obtain rfl : w0 = (.int i0) := Option.some.inj ei0
  obtain ⟨i1, ei1⟩ := is_v g1b
  obtain rfl : w1 = (.int i1) := Option.some.inj ei1
  obtain ⟨w_0a, w_0b⟩ := and_e hn
  obtain ⟨w_1a, w_1b⟩ := and_e w_0b
  obtain ⟨w_2a, w_2b⟩ := and_e w_1b
  obtain ⟨aN, ev_aN⟩ := exa_v w_1a
  have S_aN := Sta.start ev_aN (Or.inr ⟨(hw _ (List.mem_of_getElem? (i := 2) rfl)), (hw _ (List.mem_of_getElem? (i := 8) rfl))⟩)
  obtain ⟨aS, ev_aS⟩ := exa_v w_2b
  have S_aS := Sta.start ev_aS (Or.inr ⟨(hw _ (List.mem_of_getElem? (i := 2) rfl)), (hw _ (List.mem_of_getElem? (i := 14) rfl))⟩)
  obtain ⟨aD, ev_aD⟩ := exa_v w_2a
  have S_aD := Sta.start ev_aD (Or.inr ⟨(hw _ (List.mem_of_getElem? (i := 2) rfl)), (hw _ (List.mem_of_getElem? (i := 11) rfl))⟩)
  obtain ⟨aC, ev_aC⟩ := exa_v w_0a
  have S_aC := Sta.start ev_aC (Or.inr ⟨(hw _ (List.mem_of_getElem? (i := 2) rfl)), (hw _ (List.mem_of_getElem? (i := 5) rfl))⟩)
  obtain ⟨n, o, h1, h2, h3, _, L, rfl, ⟨rfl, N⟩, hq⟩ := own_rm_law l s _ hw tables_1 i0 i1 aN aS aD aC s.heap s.heap.size (Nat.le_refl _) S_aN S_aS S_aD S_aC p e ha hc hk s m _ below hf ((Spec.applies_iff_loose hf).mp happ).1 ⟨rfl, State.Warmed39.refl s, rfl⟩ trivial
  refine ⟨n, _, h1, h2, h3, hpost _ _ _ _ _ _ ⟨Cond.after_iff.mpr rfl, Cond.after_iff.mpr (eq_i res_at (Term.int_eval (1)) rfl), trivial⟩ ⟨hq.1, hq.2.1, (hq.2.2.sift fun y hy => Or.inr (N y hy)).mono (by decide) (by decide)⟩⟩
theorem main_1_1 : Claimed_1_1 := comes_1 fun _ _ _ _ _ _ h hF => ⟨h.1, hF⟩
theorem main_1_2 : Claimed_1_2 := comes_1 fun _ _ _ _ _ _ h hF => ⟨h.2.1, hF⟩
end Jvm.Pilot.@@N@@
namespace Jvm.Pilot.@@N@@
open Jvm Jvm.ClassFile Sem Op Lib Jvm.Free Jvm.Stand Jvm.Pilot.@@N@@.Jvm.D
/-! MADE BY PROGRAM (witnessworld.py) out of the Statement's table words and the real class files: 10 classes; the members and pool entries that the words name. The judged class is class 1, her method 1. -/
namespace start1
open Jvm.ClassFile
def u (s : String) : CpInfo := .utf8 (stringToUtf16 s)
/-- a pool by its gaps: so many unusable entries, then the entry; so many at the end -/
def gap : Nat → List CpInfo → List CpInfo
  | 0, r => r
  | n + 1, r => .unusable :: gap n r
def poolList (es : List (Nat × CpInfo)) (last : Nat) : List CpInfo := es.foldr (fun e r => gap e.1 (e.2 :: r)) (gap last [])
def pool (es : List (Nat × CpInfo)) (last : Nat) : Array CpInfo := ⟨poolList es last⟩
def fileOf (pool : Array CpInfo) (this : Nat) (attrs : Array Attribute := #[]) (ms : Array MethodInfo := #[]) (fl : Nat := 33) (sup : Nat := 0) (ifs : Array Nat := #[]) (fds : Array FieldInfo := #[]) : ClassFile where
  minorVersion := 0
  majorVersion := 65
  constantPool := pool
  accessFlags := fl
  thisClass := this
  superClass := sup
  interfaces := ifs
  fields := fds
  methods := ms
  attributes := attrs
def plain (name : String) (sup : Option ClassId) : Class where
  name := name
  kind := .ordinary
  loader := none
  accessFlags := 33
  super := sup
  interfaces := #[]
  cf := none
  fields := #[]
  methods := #[]
  instanceTypes := #[]
  staticTypes := #[]
  resolved := #[]
  callSites := []
  init := .initialized
  statics := none
  mirror := none

def pool0 : Array CpInfo := pool [(5, u "<init>"), (0, u "()V"), (1, .class_ 10), (1, u "java/lang/Object")] 113

def k0m0 : Method := { name := "<init>", desc := "()V", sig := { parameters := [], returnType := none }, accessFlags := 1, code := none }
/-- java/lang/Object -/
def k0 : Class := { plain "java/lang/Object" none with
  accessFlags := 33
  interfaces := #[]
  cf := some (fileOf pool0 8 #[] #[{ accessFlags := 1, nameIndex := 5, descriptorIndex := 6, attributes := #[] }] 33 0 #[] #[])
  fields := #[]
  methods := #[k0m0]
  instanceTypes := #[]
  staticTypes := #[]
  resolved := Array.replicate 124 none
  statics := none }

def pool1 : Array CpInfo := pool [(2, .class_ 4), (1, u "java/lang/Object"), (0, u "<init>"), (0, u "()V"), (0, .methodref 8 9), (0, .class_ 10), (0, .nameAndType 11 12), (0, u "com/example/libentity/libentity/jdbc/DeleteRule"), (0, u "of"), (0, u "(I)Lcom/example/libentity/libentity/jdbc/DeleteRule;"), (0, .fieldref 8 14), (0, .nameAndType 15 16), (0, u "NO_ACTION"), (0, u "Lcom/example/libentity/libentity/jdbc/DeleteRule;"), (0, .fieldref 8 18), (0, .nameAndType 19 16), (0, u "SET_NULL"), (0, .fieldref 8 21), (0, .nameAndType 22 16), (0, u "SET_DEFAULT"), (0, .fieldref 8 24), (0, .nameAndType 25 16), (0, u "CASCADE"), (0, .class_ 27), (0, u "com/example/libentity/libentity/jdbc/DeleteRuleOfPinLaw"), (2, u "law"), (0, u "(II)Z")] 3

def k1m0 : Method := { name := "<init>", desc := "()V", sig := { parameters := [], returnType := none }, accessFlags := 1, code := none }
def k1c1 : Code := { maxStack := 2, maxLocals := 5, code := code, exceptionTable := #[], attributes := #[] }
def k1m1 : Method := { name := "law", desc := "(II)Z", sig := { parameters := [.int, .int], returnType := some .boolean }, accessFlags := 9, code := some k1c1 }
/-- com/example/libentity/libentity/jdbc/DeleteRuleOfPinLaw -/
def k1 : Class := { plain "com/example/libentity/libentity/jdbc/DeleteRuleOfPinLaw" (some 0) with
  accessFlags := 49
  interfaces := #[]
  cf := some (fileOf pool1 26 #[] #[{ accessFlags := 1, nameIndex := 5, descriptorIndex := 6, attributes := #[] }, { accessFlags := 9, nameIndex := 30, descriptorIndex := 31, attributes := #[] }] 49 2 #[] #[])
  fields := #[]
  methods := #[k1m0, k1m1]
  instanceTypes := #[]
  staticTypes := #[]
  resolved := Array.replicate 35 none
  statics := none }

def pool2 : Array CpInfo := pool [(1, .class_ 2), (0, u "java/lang/constant/Constable"), (0, .class_ 4), (0, u "java/lang/Object")] 6

/-- java/lang/constant/Constable -/
def k2 : Class := { plain "java/lang/constant/Constable" (some 0) with
  accessFlags := 1537
  interfaces := #[]
  cf := some (fileOf pool2 1 #[] #[] 1537 3 #[] #[])
  fields := #[]
  methods := #[]
  instanceTypes := #[]
  staticTypes := #[]
  resolved := Array.replicate 11 none
  statics := none }

def pool3 : Array CpInfo := pool [(1, .class_ 2), (0, u "java/lang/Comparable"), (0, .class_ 4), (0, u "java/lang/Object")] 7

/-- java/lang/Comparable -/
def k3 : Class := { plain "java/lang/Comparable" (some 0) with
  accessFlags := 1537
  interfaces := #[]
  cf := some (fileOf pool3 1 #[] #[] 1537 3 #[] #[])
  fields := #[]
  methods := #[]
  instanceTypes := #[]
  staticTypes := #[]
  resolved := Array.replicate 12 none
  statics := none }

def pool4 : Array CpInfo := pool [(1, .class_ 2), (0, u "java/io/Serializable"), (0, .class_ 4), (0, u "java/lang/Object")] 2

/-- java/io/Serializable -/
def k4 : Class := { plain "java/io/Serializable" (some 0) with
  accessFlags := 1537
  interfaces := #[]
  cf := some (fileOf pool4 1 #[] #[] 1537 3 #[] #[])
  fields := #[]
  methods := #[]
  instanceTypes := #[]
  staticTypes := #[]
  resolved := Array.replicate 7 none
  statics := none }

def pool5 : Array CpInfo := pool [(2, .class_ 4), (1, u "java/lang/Enum"), (0, u "name"), (0, u "Ljava/lang/String;"), (2, u "ordinal"), (0, u "I"), (1, .class_ 14), (1, u "java/lang/Object"), (4, u "hash"), (86, .class_ 108), (1, u "java/lang/Enum$EnumDesc"), (2, .class_ 112), (0, u "java/lang/constant/Constable"), (0, .class_ 114), (0, u "java/lang/Comparable"), (0, .class_ 116), (0, u "java/io/Serializable")] 87

/-- java/lang/Enum -/
def k5 : Class := { plain "java/lang/Enum" (some 0) with
  accessFlags := 1057
  interfaces := #[2, 3, 4]
  cf := some (fileOf pool5 2 #[.nestMembers #[106]] #[] 1057 12 #[111, 113, 115] #[{ accessFlags := 18, nameIndex := 5, descriptorIndex := 6, attributes := #[] }, { accessFlags := 18, nameIndex := 9, descriptorIndex := 10, attributes := #[] }, { accessFlags := 2, nameIndex := 19, descriptorIndex := 10, attributes := #[] }])
  fields := #[{ name := "name", type := (.object "java/lang/String"), accessFlags := 18, slot := 0, constantValue := 0 }, { name := "ordinal", type := .int, accessFlags := 18, slot := 1, constantValue := 0 }, { name := "hash", type := .int, accessFlags := 2, slot := 2, constantValue := 0 }]
  methods := #[]
  instanceTypes := #[(.object "java/lang/String"), .int, .int]
  staticTypes := #[]
  resolved := Array.replicate 204 none
  statics := none }

def pool6 : Array CpInfo := pool [(1, .class_ 2), (0, u "com/example/libentity/libentity/jdbc/DeleteRule"), (0, .fieldref 1 4), (0, .nameAndType 5 6), (0, u "NO_ACTION"), (0, u "Lcom/example/libentity/libentity/jdbc/DeleteRule;"), (0, .fieldref 1 8), (0, .nameAndType 9 6), (0, u "SET_NULL"), (0, .fieldref 1 11), (0, .nameAndType 12 6), (0, u "SET_DEFAULT"), (0, .fieldref 1 14), (0, .nameAndType 15 6), (0, u "CASCADE"), (2, u "$VALUES"), (0, u "[Lcom/example/libentity/libentity/jdbc/DeleteRule;"), (6, .class_ 28), (1, u "java/lang/Enum"), (22, u "of"), (0, u "(I)Lcom/example/libentity/libentity/jdbc/DeleteRule;")] 5

def k6c0 : Code := { maxStack := 1, maxLocals := 1, code := prog_35_method_4_code, exceptionTable := #[], attributes := #[] }
def k6m0 : Method := { name := "of", desc := "(I)Lcom/example/libentity/libentity/jdbc/DeleteRule;", sig := { parameters := [.int], returnType := some (.object "com/example/libentity/libentity/jdbc/DeleteRule") }, accessFlags := 8, code := some k6c0 }
/-- com/example/libentity/libentity/jdbc/DeleteRule -/
def k6 : Class := { plain "com/example/libentity/libentity/jdbc/DeleteRule" (some 5) with
  accessFlags := 16433
  interfaces := #[]
  cf := some (fileOf pool6 1 #[] #[{ accessFlags := 8, nameIndex := 51, descriptorIndex := 52, attributes := #[] }] 16433 26 #[] #[{ accessFlags := 16409, nameIndex := 5, descriptorIndex := 6, attributes := #[] }, { accessFlags := 16409, nameIndex := 9, descriptorIndex := 6, attributes := #[] }, { accessFlags := 16409, nameIndex := 12, descriptorIndex := 6, attributes := #[] }, { accessFlags := 16409, nameIndex := 15, descriptorIndex := 6, attributes := #[] }, { accessFlags := 4122, nameIndex := 18, descriptorIndex := 19, attributes := #[] }])
  fields := #[{ name := "NO_ACTION", type := (.object "com/example/libentity/libentity/jdbc/DeleteRule"), accessFlags := 16409, slot := 0, constantValue := 0 }, { name := "SET_NULL", type := (.object "com/example/libentity/libentity/jdbc/DeleteRule"), accessFlags := 16409, slot := 1, constantValue := 0 }, { name := "SET_DEFAULT", type := (.object "com/example/libentity/libentity/jdbc/DeleteRule"), accessFlags := 16409, slot := 2, constantValue := 0 }, { name := "CASCADE", type := (.object "com/example/libentity/libentity/jdbc/DeleteRule"), accessFlags := 16409, slot := 3, constantValue := 0 }, { name := "$VALUES", type := (.array (.object "com/example/libentity/libentity/jdbc/DeleteRule")), accessFlags := 4122, slot := 4, constantValue := 0 }]
  methods := #[k6m0]
  instanceTypes := #[(.object "java/lang/String"), .int, .int]
  staticTypes := #[(.object "com/example/libentity/libentity/jdbc/DeleteRule"), (.object "com/example/libentity/libentity/jdbc/DeleteRule"), (.object "com/example/libentity/libentity/jdbc/DeleteRule"), (.object "com/example/libentity/libentity/jdbc/DeleteRule"), (.array (.object "com/example/libentity/libentity/jdbc/DeleteRule"))]
  resolved := Array.replicate 58 none
  statics := some 0 }

def pool7 : Array CpInfo := pool [(1, u "java/lang/Cloneable"), (0, .class_ 1), (0, u "java/lang/Object"), (0, .class_ 3)] 3

/-- java/lang/Cloneable -/
def k7 : Class := { plain "java/lang/Cloneable" (some 0) with
  accessFlags := 1537
  interfaces := #[]
  cf := some (fileOf pool7 2 #[] #[] 1537 4 #[] #[])
  fields := #[]
  methods := #[]
  instanceTypes := #[]
  staticTypes := #[]
  resolved := Array.replicate 8 none
  statics := none }

/-- the primitive byte -/
def k8 : Class := { plain "byte" none with kind := .primitive 'B', accessFlags := 0x411 }
/-- [B -/
def k9 : Class := { plain "[B" (some 0) with kind := .array 8 .byte, interfaces := #[7, 4], accessFlags := 1041 }

def heap : Heap := #[{ cls := 6, slots := #[.ref 1, .ref 2, .ref 3, .ref 4, .null], vm := .statics 6 },
  { cls := 6, slots := #[.null, .int 0, .int 0], vm := .none },
  { cls := 6, slots := #[.null, .int 1, .int 0], vm := .none },
  { cls := 6, slots := #[.null, .int 2, .int 0], vm := .none },
  { cls := 6, slots := #[.null, .int 3, .int 0], vm := .none }]
def classes : Array Class := #[k0, k1, k2, k3, k4, k5, k6, k7, k8, k9]
def interned : List (Array UInt16 × Addr) := []
def slotsUsed : Nat := 17
def theMethod : MethodId := ⟨1, 1⟩
def args0 : Array Value := #[.int 3, .int 1]
def aboutOver (below : List Frame) : State where
  vm := { classes := classes, interned := interned.toArray }
  heap := heap
  slotsUsed := slotsUsed
  threads := #[{ frames := .invoking theMethod args0 :: below }]
def below0 : List Frame := [.native { method := ⟨0, 0⟩, args := #[] }]
def about1 : State := aboutOver below0
def p0 : Program := .bare "" "" ""
def e0 : Env := launch0.env 0 0 0
theorem w_frames : about1.frames = Frame.invoking theMethod args0 :: below0 := rfl
set_option maxRecDepth 65536 in
theorem w_args : argsFit about1.vm theMethod args0 = true := by decide +kernel
set_option maxRecDepth 65536 in
theorem w_heap : heapFits about1 = true := by decide +kernel
set_option maxRecDepth 65536 in
theorem w_runnable : about1.curStatus? = some .runnable := by decide +kernel
set_option maxRecDepth 65536 in
theorem w_alone : about1.alone = true := by decide +kernel
set_option maxRecDepth 65536 in
theorem w_named : about1.methodNamed? x = some theMethod := by decide +kernel
set_option maxRecDepth 65536 in
theorem w_hears : about1.hears theMethod below0 = true := by decide +kernel
set_option maxRecDepth 65536 in
theorem w_ripe : about1.ripe theMethod args0 below0 = true := by decide +kernel
theorem w_running : about1.status = .running := rfl
set_option maxRecDepth 65536 in
theorem w_room : about1.hasRoom e0.platform room_1 = true :=
  launch0.hasRoom_least _ room_1 (by decide +kernel) (by decide +kernel) (by decide +kernel) (by decide +kernel) (by decide +kernel) (by decide +kernel)
theorem allAtoms_all (ts : List Jvm.Cond) (a : Array Jvm.Value) (st : Jvm.State) : (allAtoms ts).before a st = ts.all (fun c => c.before a st) := by
  induction ts with
  | nil => rfl
  | cons c t ih =>
    show (Jvm.Cond.and c (allAtoms t)).before a st = _
    rw [Jvm.Cond.before_and, ih, List.all_cons]
def words1 : List Jvm.Cond := Jvm.Cond.code x code maxLocals ret :: tables_1
/-- a 'code' word, met by the world's own term for the bytes: nothing is compared byte by byte -/
theorem code_word {y : MethodName} {bytes : ByteArray} {mx : Nat} {rt : Option FieldType} {a : Array Value} {s : State} {m : MethodId} {meth : Method} {c : Code} (h1 : s.methodNamed? y = some m) (h2 : s.vm.method? m = some meth) (h3 : meth.code = some c) (h4 : c.code = bytes)
    (h5 : (c.maxLocals == mx && c.exceptionTable.isEmpty && decide (c.maxStack ≤ mostOperands) && decide (meth.sig.returnType = rt) && !meth.locks && decide (parseMethodDescriptor y.desc = some meth.sig)) = true) : (Jvm.Cond.code y bytes mx rt).before a s = true := by
  simp only [Bool.and_eq_true, beq_iff_eq, Bool.not_eq_true', decide_eq_true_eq] at h5
  obtain ⟨⟨⟨⟨⟨g1, g2⟩, g3⟩, g4⟩, g5⟩, g6⟩ := h5
  simp [Cond.before, Cond.holds, Cond.value, h1, h2, h3, h4, g1, g2, g3, g4, g5, g6]
def isCode : Jvm.Cond → Bool
  | .code _ _ _ _ => true
  | _ => false
theorem all_split {L : List Jvm.Cond} {P : Jvm.Cond → Bool} (h1 : L.all (fun c => isCode c || P c) = true) (h2 : ∀ c ∈ L.filter isCode, P c = true) : L.all P = true := by
  refine List.all_eq_true.mpr fun c hc => ?_
  have h := List.all_eq_true.mp h1 c hc
  rcases Bool.eq_false_or_eq_true (isCode c) with hi | hi
  · exact h2 c (List.mem_filter.mpr ⟨hc, hi⟩)
  · simpa [hi] using h
set_option maxRecDepth 65536 in
theorem w_c0 : (Jvm.Cond.code x code maxLocals ret).before args0 about1 = true := code_word (m := ⟨1, 1⟩) (meth := k1m1) (c := k1c1) (by decide +kernel) rfl rfl rfl (by decide +kernel)
set_option maxRecDepth 65536 in
theorem w_c1 : (Jvm.Cond.code ({ cls := "com/example/libentity/libentity/jdbc/DeleteRule", name := "of", desc := "(I)Lcom/example/libentity/libentity/jdbc/DeleteRule;" } : Jvm.MethodName) prog_35_method_4_code (1 : Nat) (Option.some (Jvm.ClassFile.FieldType.object "com/example/libentity/libentity/jdbc/DeleteRule"))).before args0 about1 = true := code_word (m := ⟨6, 0⟩) (meth := k6m0) (c := k6c0) (by decide +kernel) rfl rfl rfl (by decide +kernel)
def codes1 : List Jvm.Cond := [Jvm.Cond.code x code maxLocals ret, Jvm.Cond.code ({ cls := "com/example/libentity/libentity/jdbc/DeleteRule", name := "of", desc := "(I)Lcom/example/libentity/libentity/jdbc/DeleteRule;" } : Jvm.MethodName) prog_35_method_4_code (1 : Nat) (Option.some (Jvm.ClassFile.FieldType.object "com/example/libentity/libentity/jdbc/DeleteRule"))]
set_option maxRecDepth 65536 in
theorem codes_eq : words1.filter isCode = codes1 := rfl
theorem w_codes : ∀ c ∈ words1.filter isCode, c.before args0 about1 = true := by
  rw [codes_eq]
  intro c hc
  simp only [codes1, List.mem_cons, List.not_mem_nil, or_false] at hc
  rcases hc with rfl | rfl
  · exact w_c0
  · exact w_c1
set_option maxRecDepth 65536 in
theorem w_t1 : words1.all (fun c => isCode c || c.before args0 about1) = true := by decide +kernel
theorem w_tables : (allAtoms (Jvm.Cond.code x code maxLocals ret :: tables_1)).before args0 about1 = true := by
  rw [allAtoms_all]
  show words1.all (fun c => c.before args0 about1) = true
  refine all_split ?_ w_codes
  rw [w_t1]
set_option maxRecDepth 65536 in
theorem w_case : (Jvm.Cond.and given_1 narrow_1).before args0 about1 = true := by decide +kernel
theorem w_applies : (headSpec (Jvm.Cond.code x code maxLocals ret :: tables_1) room_1).applies x e0.platform about1 = true :=
  (Spec.applies_iff w_frames).mpr ⟨w_running, w_runnable, w_alone, w_named, w_hears, w_ripe, w_room, w_tables⟩
theorem atStart : AtStart classFile x code maxLocals ret World_1 tables_1 room_1 Calls_1 rest_1 Pre_1 launch0 p0 e0 about1 theMethod args0 below0 :=
  ⟨lists_1, trivial, launch0.admits_env _ _ _, launch0.least_env, fairChoices_fair.cas, fairChoices_fair.clock, w_frames, w_args, w_heap, w_applies, trivial, trivial, w_case⟩
end start1
theorem witness_1 : WitnessClaimed_1 := ⟨start1.p0, start1.e0, start1.about1, start1.theMethod, start1.args0, start1.below0, start1.atStart⟩
end Jvm.Pilot.@@N@@
