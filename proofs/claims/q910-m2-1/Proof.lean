import JvmDerived
import JvmDerived.Pilot.@@N@@Statement
import JvmDerived.Pilot.@@N@@Code
set_option linter.unusedVariables false
set_option linter.unusedSimpArgs false
namespace Jvm.Pilot.@@N@@
open Jvm Jvm.ClassFile Sem Op Lib Jvm.Free Jvm.Stand Jvm.LawKit Jvm.RoadKit Bundle Jvm.Pilot.@@N@@.Jvm.D
/-! own layer: the walk goes forward; own_G S: from S the body ends as F says -/
def own_G (tb : Tables) (e : Env) (below : List Frame) (F : Outcome → State → Prop) (S : State) : Prop :=
  ∃ s₂ o, Steps tb e below S s₂ ∧ s₂.status = .running ∧ Ended s₂ below o ∧ F o s₂
theorem own_go {tb : Tables} {e : Env} {below : List Frame} {F : Outcome → State → Prop} {A B : State} (st : ∀ t, Steps tb e below B t → Steps tb e below A t) (h : own_G tb e below F B) : own_G tb e below F A := by
  obtain ⟨t, o, h1, h2⟩ := h
  exact ⟨t, o, st t h1, h2⟩
theorem own_tr {tb : Tables} {e : Env} {below : List Frame} {F : Outcome → State → Prop} {A B : State} (st : Steps tb e below A B) (h : own_G tb e below F B) : own_G tb e below F A := own_go (fun _ k => st.trans k) h
theorem own_b {n k : Nat} (h : Nat.ble n k = true) : n ≤ k := Nat.le_of_ble_eq_true h
def own_yes {α : Type} [LT α] : ClassFile.Cond → α → α → Prop
  | .eq, x, y => x = y
  | .ne, x, y => ¬ x = y
  | .lt, x, y => x < y
  | .ge, x, y => ¬ x < y
  | .gt, x, y => y < x
  | .le, x, y => ¬ y < x
def own_no {α : Type} [LT α] : ClassFile.Cond → α → α → Prop
  | .eq, x, y => ¬ x = y
  | .ne, x, y => x = y
  | .lt, x, y => ¬ x < y
  | .ge, x, y => x < y
  | .gt, x, y => ¬ y < x
  | .le, x, y => y < x
theorem own_hy {cd : ClassFile.Cond} {x y : Int32} (h : own_yes cd x y) : if_icmp.holds cd x y = true := by
  cases cd
  · exact (teq h).1
  · exact (feq h).2
  · exact (tlt h).1
  · exact (flt h).2.1
  · exact (tlt h).2.2.1
  · exact (flt h).2.2.2
theorem own_hn {cd : ClassFile.Cond} {x y : Int32} (h : own_no cd x y) : if_icmp.holds cd x y = false := by
  cases cd
  · exact (feq h).1
  · exact (teq h).2
  · exact (flt h).1
  · exact (tlt h).2.1
  · exact (flt h).2.2.1
  · exact (tlt h).2.2.2
theorem own_yn {cd : ClassFile.Cond} {x y : Int32} : own_yes cd x y ∨ own_no cd x y := by
  cases cd
  · exact Classical.em _
  · exact (Classical.em _).symm
  · exact Classical.em _
  · exact (Classical.em _).symm
  · exact Classical.em _
  · exact (Classical.em _).symm
theorem own_ynL {cd : ClassFile.Cond} {x y : Int64} : own_yes cd x y ∨ own_no cd x y := by
  cases cd
  · exact Classical.em _
  · exact (Classical.em _).symm
  · exact Classical.em _
  · exact (Classical.em _).symm
  · exact Classical.em _
  · exact (Classical.em _).symm
theorem own_hyL {cd : ClassFile.Cond} {x y : Int64} (h : own_yes cd x y) : ifCond.holds cd (lcmpW x y) = true := by
  rw [if0]
  refine own_hy ?_
  cases cd
  · exact (lw_eq x y).mpr h
  · exact fun q => h ((lw_eq x y).mp q)
  · exact (lw_lt x y).mpr h
  · exact fun q => h ((lw_lt x y).mp q)
  · exact (lw_gt x y).mpr h
  · exact fun q => h ((lw_gt x y).mp q)
theorem own_hnL {cd : ClassFile.Cond} {x y : Int64} (h : own_no cd x y) : ifCond.holds cd (lcmpW x y) = false := by
  rw [if0]
  refine own_hn ?_
  cases cd
  · exact fun q => h ((lw_eq x y).mp q)
  · exact (lw_eq x y).mpr h
  · exact fun q => h ((lw_lt x y).mp q)
  · exact (lw_lt x y).mpr h
  · exact fun q => h ((lw_gt x y).mp q)
  · exact (lw_gt x y).mpr h
section Own
variable {p : Program} {l : Launch} {e : Env} {R : Room} {s : State} {m : MethodId} {args : Array Value} {below : List Frame} {meth : Method} {c : Code} {T : State} {locs : List Loc} {cells slots : Nat} {F : Outcome → State → Prop}
theorem own_icmpY (X : Stand p l e R s m args below meth c T locs cells slots) (hx : p.tables.exec = Jvm.exec) {cd : ClassFile.Cond} {x y : Int32} {o : Int} {pc pc' : Nat} {Ls : Array Slot} {rest : List Value} (hd : decode c.code pc = .ok (.if_icmp cd o, 3)) (ho : 0 ≤ (pc : Int) + o) (hp : ((pc : Int) + o).toNat = pc')
    (hc : own_yes cd x y) (h1 : own_G p.tables e below F (T.setTop (mkF m pc' Ls rest))) : own_G p.tables e below F (T.setTop (mkF m pc Ls (.int y :: .int x :: rest))) :=
  own_go (fun _ k => XS.icmpYes X.here hx rfl (pc0 := pc) (pc' := pc') rfl hd rfl (own_hy hc) ho hp k) h1
theorem own_icmpN (X : Stand p l e R s m args below meth c T locs cells slots) (hx : p.tables.exec = Jvm.exec) {cd : ClassFile.Cond} {x y : Int32} {o : Int} {pc pn : Nat} {Ls : Array Slot} {rest : List Value} (hd : decode c.code pc = .ok (.if_icmp cd o, 3)) (hq : pc + 3 = pn)
    (hc : own_no cd x y) (h1 : own_G p.tables e below F (T.setTop (mkF m pn Ls rest))) : own_G p.tables e below F (T.setTop (mkF m pc Ls (.int y :: .int x :: rest))) := by
  subst hq
  exact own_go (fun _ k => XS.icmpNo X.here hx rfl hd rfl (own_hn hc) k) h1
theorem own_icmp (X : Stand p l e R s m args below meth c T locs cells slots) (hx : p.tables.exec = Jvm.exec) {cd : ClassFile.Cond} {x y : Int32} {o : Int} {pc pc' pn : Nat} {Ls : Array Slot} {rest : List Value} (hd : decode c.code pc = .ok (.if_icmp cd o, 3)) (ho : 0 ≤ (pc : Int) + o) (hp : ((pc : Int) + o).toNat = pc') (hq : pc + 3 = pn)
    (h1 : own_yes cd x y → own_G p.tables e below F (T.setTop (mkF m pc' Ls rest))) (h2 : own_no cd x y → own_G p.tables e below F (T.setTop (mkF m pn Ls rest))) : own_G p.tables e below F (T.setTop (mkF m pc Ls (.int y :: .int x :: rest))) :=
  own_yn.elim (fun q => own_icmpY X hx hd ho hp q (h1 q)) (fun q => own_icmpN X hx hd hq q (h2 q))
theorem own_ifY (X : Stand p l e R s m args below meth c T locs cells slots) (hx : p.tables.exec = Jvm.exec) {cd : ClassFile.Cond} {x : Int32} {o : Int} {pc pc' : Nat} {Ls : Array Slot} {rest : List Value} (hd : decode c.code pc = .ok (.ifCond cd o, 3)) (ho : 0 ≤ (pc : Int) + o) (hp : ((pc : Int) + o).toNat = pc')
    (hc : own_yes cd x 0) (h1 : own_G p.tables e below F (T.setTop (mkF m pc' Ls rest))) : own_G p.tables e below F (T.setTop (mkF m pc Ls (.int x :: rest))) :=
  own_go (fun _ k => XS.ifYes X.here hx rfl (pc0 := pc) (pc' := pc') rfl hd rfl ((if0 cd x).trans (own_hy hc)) ho hp k) h1
theorem own_ifN (X : Stand p l e R s m args below meth c T locs cells slots) (hx : p.tables.exec = Jvm.exec) {cd : ClassFile.Cond} {x : Int32} {o : Int} {pc pn : Nat} {Ls : Array Slot} {rest : List Value} (hd : decode c.code pc = .ok (.ifCond cd o, 3)) (hq : pc + 3 = pn)
    (hc : own_no cd x 0) (h1 : own_G p.tables e below F (T.setTop (mkF m pn Ls rest))) : own_G p.tables e below F (T.setTop (mkF m pc Ls (.int x :: rest))) := by
  subst hq
  exact own_go (fun _ k => XS.ifNo X.here hx rfl hd rfl ((if0 cd x).trans (own_hn hc)) k) h1
theorem own_if (X : Stand p l e R s m args below meth c T locs cells slots) (hx : p.tables.exec = Jvm.exec) {cd : ClassFile.Cond} {x : Int32} {o : Int} {pc pc' pn : Nat} {Ls : Array Slot} {rest : List Value} (hd : decode c.code pc = .ok (.ifCond cd o, 3)) (ho : 0 ≤ (pc : Int) + o) (hp : ((pc : Int) + o).toNat = pc') (hq : pc + 3 = pn)
    (h1 : own_yes cd x 0 → own_G p.tables e below F (T.setTop (mkF m pc' Ls rest))) (h2 : own_no cd x 0 → own_G p.tables e below F (T.setTop (mkF m pn Ls rest))) : own_G p.tables e below F (T.setTop (mkF m pc Ls (.int x :: rest))) :=
  own_yn.elim (fun q => own_ifY X hx hd ho hp q (h1 q)) (fun q => own_ifN X hx hd hq q (h2 q))
theorem own_lifY (X : Stand p l e R s m args below meth c T locs cells slots) (hx : p.tables.exec = Jvm.exec) {cd : ClassFile.Cond} {x y : Int64} {o : Int} {pc pc' : Nat} {Ls : Array Slot} {rest : List Value} (hd : decode c.code pc = .ok (.ifCond cd o, 3)) (ho : 0 ≤ (pc : Int) + o) (hp : ((pc : Int) + o).toNat = pc')
    (hc : own_yes cd x y) (h1 : own_G p.tables e below F (T.setTop (mkF m pc' Ls rest))) : own_G p.tables e below F (T.setTop (mkF m pc Ls (.int (lcmpW x y) :: rest))) :=
  own_go (fun _ k => XS.ifYes X.here hx rfl (pc0 := pc) (pc' := pc') rfl hd rfl (own_hyL hc) ho hp k) h1
theorem own_lifN (X : Stand p l e R s m args below meth c T locs cells slots) (hx : p.tables.exec = Jvm.exec) {cd : ClassFile.Cond} {x y : Int64} {o : Int} {pc pn : Nat} {Ls : Array Slot} {rest : List Value} (hd : decode c.code pc = .ok (.ifCond cd o, 3)) (hq : pc + 3 = pn)
    (hc : own_no cd x y) (h1 : own_G p.tables e below F (T.setTop (mkF m pn Ls rest))) : own_G p.tables e below F (T.setTop (mkF m pc Ls (.int (lcmpW x y) :: rest))) := by
  subst hq
  exact own_go (fun _ k => XS.ifNo X.here hx rfl hd rfl (own_hnL hc) k) h1
theorem own_lif (X : Stand p l e R s m args below meth c T locs cells slots) (hx : p.tables.exec = Jvm.exec) {cd : ClassFile.Cond} {x y : Int64} {o : Int} {pc pc' pn : Nat} {Ls : Array Slot} {rest : List Value} (hd : decode c.code pc = .ok (.ifCond cd o, 3)) (ho : 0 ≤ (pc : Int) + o) (hp : ((pc : Int) + o).toNat = pc') (hq : pc + 3 = pn)
    (h1 : own_yes cd x y → own_G p.tables e below F (T.setTop (mkF m pc' Ls rest))) (h2 : own_no cd x y → own_G p.tables e below F (T.setTop (mkF m pn Ls rest))) : own_G p.tables e below F (T.setTop (mkF m pc Ls (.int (lcmpW x y) :: rest))) :=
  own_ynL.elim (fun q => own_lifY X hx hd ho hp q (h1 q)) (fun q => own_lifN X hx hd hq q (h2 q))
theorem own_ret (X : Stand p l e R s m args below meth c T locs cells slots) (hx : p.tables.exec = Jvm.exec) (hlk : meth.locks = false) {K N pc : Nat} {Ls : Array Slot} {w : Value} {t : FieldType} {i : Instr} {rest : List Value} {Q : Option Value → Heap → List Loc → Prop} (hret : meth.sig.returnType = some t) (hn : narrow t w = w)
    (hi : (i = .ireturn ∧ (t = .int ∨ t = .boolean ∨ t = .byte ∨ t = .char ∨ t = .short) ∧ ∃ z, w = .int z) ∨ (i = .lreturn ∧ t = .long ∧ ∃ z, w = .long z) ∨ (i = .dreturn ∧ t = .double ∧ ∃ z, w = .double z) ∨ (i = .freturn ∧ t = .float ∧ ∃ z, w = .float z) ∨ (i = .areturn ∧ t.isReference = true ∧ w.isRef = true))
    (hd : decode c.code pc = .ok (i, 1)) (hK : cells ≤ K) (hN : slots ≤ N) (hQ : Q (some w) T.heap locs) :
    own_G p.tables e below (fun o U' => ∃ v L, o = .returned v ∧ Q v U'.heap L ∧ FrameEnd s o U' L K N) (T.setTop (mkF m pc Ls (w :: rest))) := by
  obtain ⟨fs, hr, hrun, hended, hW, hsame⟩ := X.leave (v := some w) (fun h => by rw [hret] at h; cases h) hlk
  exact ⟨_, _, retOut X hx hret hn hi hd hr, hrun, hended, _, _, rfl, hQ, ⟨_, rfl⟩, hW, hsame.mono hK hN⟩
theorem own_retI (X : Stand p l e R s m args below meth c T locs cells slots) (hx : p.tables.exec = Jvm.exec) (hlk : meth.locks = false) {K N pc : Nat} {Ls : Array Slot} {z : Int32} {rest : List Value} {Q : Option Value → Heap → List Loc → Prop} (hret : meth.sig.returnType = some .int)
    (hd : decode c.code pc = .ok (.ireturn, 1)) (hK : cells ≤ K) (hN : slots ≤ N) (hQ : Q (some (.int z)) T.heap locs) :
    own_G p.tables e below (fun o U' => ∃ v L, o = .returned v ∧ Q v U'.heap L ∧ FrameEnd s o U' L K N) (T.setTop (mkF m pc Ls (.int z :: rest))) :=
  own_ret X hx hlk hret rfl (Or.inl ⟨rfl, Or.inl rfl, z, rfl⟩) hd hK hN hQ
theorem own_retZ (X : Stand p l e R s m args below meth c T locs cells slots) (hx : p.tables.exec = Jvm.exec) (hlk : meth.locks = false) {K N pc : Nat} {Ls : Array Slot} {z : Int32} {rest : List Value} {Q : Option Value → Heap → List Loc → Prop} (hret : meth.sig.returnType = some .boolean)
    (hd : decode c.code pc = .ok (.ireturn, 1)) (hz : z = 0 ∨ z = 1) (hK : cells ≤ K) (hN : slots ≤ N) (hQ : Q (some (.int z)) T.heap locs) :
    own_G p.tables e below (fun o U' => ∃ v L, o = .returned v ∧ Q v U'.heap L ∧ FrameEnd s o U' L K N) (T.setTop (mkF m pc Ls (.int z :: rest))) :=
  own_ret X hx hlk hret (by rcases hz with rfl | rfl <;> rfl) (Or.inl ⟨rfl, Or.inr (Or.inl rfl), z, rfl⟩) hd hK hN hQ
theorem own_retL (X : Stand p l e R s m args below meth c T locs cells slots) (hx : p.tables.exec = Jvm.exec) (hlk : meth.locks = false) {K N pc : Nat} {Ls : Array Slot} {z : Int64} {rest : List Value} {Q : Option Value → Heap → List Loc → Prop} (hret : meth.sig.returnType = some .long)
    (hd : decode c.code pc = .ok (.lreturn, 1)) (hK : cells ≤ K) (hN : slots ≤ N) (hQ : Q (some (.long z)) T.heap locs) :
    own_G p.tables e below (fun o U' => ∃ v L, o = .returned v ∧ Q v U'.heap L ∧ FrameEnd s o U' L K N) (T.setTop (mkF m pc Ls (.long z :: rest))) :=
  own_ret X hx hlk hret rfl (Or.inr (Or.inl ⟨rfl, rfl, z, rfl⟩)) hd hK hN hQ
theorem own_retA (X : Stand p l e R s m args below meth c T locs cells slots) (hx : p.tables.exec = Jvm.exec) (hlk : meth.locks = false) {K N pc : Nat} {Ls : Array Slot} {w : Value} {t : FieldType} {rest : List Value} {Q : Option Value → Heap → List Loc → Prop} (hret : meth.sig.returnType = some t) (ht : t.isReference = true) (hw : w.isRef = true)
    (hd : decode c.code pc = .ok (.areturn, 1)) (hK : cells ≤ K) (hN : slots ≤ N) (hQ : Q (some w) T.heap locs) :
    own_G p.tables e below (fun o U' => ∃ v L, o = .returned v ∧ Q v U'.heap L ∧ FrameEnd s o U' L K N) (T.setTop (mkF m pc Ls (w :: rest))) :=
  own_ret X hx hlk hret (by cases t <;> first | (cases ht; done) | (rcases ref_cases hw with rfl | ⟨z, rfl⟩ <;> rfl)) (Or.inr (Or.inr (Or.inr (Or.inr ⟨rfl, ht, hw⟩)))) hd hK hN hQ
theorem own_retV (X : Stand p l e R s m args below meth c T locs cells slots) (hx : p.tables.exec = Jvm.exec) (hlk : meth.locks = false) {K N pc : Nat} {Ls : Array Slot} {Q : Option Value → Heap → List Loc → Prop} (hret : meth.sig.returnType = none)
    (hd : decode c.code pc = .ok (.return_, 1)) (hK : cells ≤ K) (hN : slots ≤ N) (hQ : Q none T.heap locs) :
    own_G p.tables e below (fun o U' => ∃ v L, o = .returned v ∧ Q v U'.heap L ∧ FrameEnd s o U' L K N) (T.setTop (mkF m pc Ls [])) := by
  obtain ⟨fs, hr, hrun, hended, hW, hsame⟩ := X.leave (v := none) (fun _ => rfl) hlk
  exact ⟨_, _, X.returnOut hx hret hd hr, hrun, hended, _, _, rfl, hQ, ⟨_, rfl⟩, hW, hsame.mono hK hN⟩
theorem own_acmpVE (X : Stand p l e R s m args below meth c T locs cells slots) (hx : p.tables.exec = Jvm.exec) {cd : ACond} {x y : Value} (h1 : x.isRef = true) (h2 : y.isRef = true) {o : Int} {pc pc' : Nat} {Ls : Array Slot} {rest : List Value} (hd : decode c.code pc = .ok (.if_acmp cd o, 3)) (ho : 0 ≤ (pc : Int) + o) (hp : pc' = if acV cd true = true then ((pc : Int) + o).toNat else pc + 3)
    (hc : x = y) (k : own_G p.tables e below F (T.setTop (mkF m pc' Ls rest))) : own_G p.tables e below F (T.setTop (mkF m pc Ls (y :: x :: rest))) :=
  own_go (fun _ q => RoadKit.acmp X hx rfl h1 h2 (pc0 := pc) (pc' := pc') (same := true) rfl hd rfl (by simp [hc]) ho hp q) k
theorem own_acmpVD (X : Stand p l e R s m args below meth c T locs cells slots) (hx : p.tables.exec = Jvm.exec) {cd : ACond} {x y : Value} (h1 : x.isRef = true) (h2 : y.isRef = true) {o : Int} {pc pc' : Nat} {Ls : Array Slot} {rest : List Value} (hd : decode c.code pc = .ok (.if_acmp cd o, 3)) (ho : 0 ≤ (pc : Int) + o) (hp : pc' = if acV cd false = true then ((pc : Int) + o).toNat else pc + 3)
    (hc : ¬ x = y) (k : own_G p.tables e below F (T.setTop (mkF m pc' Ls rest))) : own_G p.tables e below F (T.setTop (mkF m pc Ls (y :: x :: rest))) :=
  own_go (fun _ q => RoadKit.acmp X hx rfl h1 h2 (pc0 := pc) (pc' := pc') (same := false) rfl hd rfl (by simp [hc]) ho hp q) k
theorem own_acmpAE (X : Stand p l e R s m args below meth c T locs cells slots) (hx : p.tables.exec = Jvm.exec) {cd : ACond} {x y : Addr} {o : Int} {pc pc' : Nat} {Ls : Array Slot} {rest : List Value} (hd : decode c.code pc = .ok (.if_acmp cd o, 3)) (ho : 0 ≤ (pc : Int) + o) (hp : pc' = if acV cd true = true then ((pc : Int) + o).toNat else pc + 3)
    (hc : x = y) (k : own_G p.tables e below F (T.setTop (mkF m pc' Ls rest))) : own_G p.tables e below F (T.setTop (mkF m pc Ls (.ref y :: .ref x :: rest))) :=
  own_acmpVE X hx rfl rfl hd ho hp (by rw [hc]) k
theorem own_acmpAD (X : Stand p l e R s m args below meth c T locs cells slots) (hx : p.tables.exec = Jvm.exec) {cd : ACond} {x y : Addr} {o : Int} {pc pc' : Nat} {Ls : Array Slot} {rest : List Value} (hd : decode c.code pc = .ok (.if_acmp cd o, 3)) (ho : 0 ≤ (pc : Int) + o) (hp : pc' = if acV cd false = true then ((pc : Int) + o).toNat else pc + 3)
    (hc : ¬ x = y) (k : own_G p.tables e below F (T.setTop (mkF m pc' Ls rest))) : own_G p.tables e below F (T.setTop (mkF m pc Ls (.ref y :: .ref x :: rest))) :=
  own_acmpVD X hx rfl rfl hd ho hp (fun q => hc (by cases q; rfl)) k
end Own
theorem own_cat1 {v : Value} (h : v.isRef = true) : v.category = 1 := by cases v <;> first | (cases h; done) | rfl
theorem own_sta_keep {Z : State} {h h' : Heap} {C n d : String} {v : Value} {ws : List Addr} (F : Sta Z h C n d v) (K : Keep h h' ws) (q : ∀ x ∈ ws, ∀ c : Cell, h[x]? = some c → c.vm.isStatics = false) : Sta Z h' C n d v := by
  obtain ⟨cf, i, k, f, st, cell, h1, h2, h3, h4, h5, h6, h7⟩ := F
  exact ⟨cf, i, k, f, st, cell, h1, h2, h3, h4, K.2.1 _ _ h5 (fun z => by rw [q _ z _ h5] at h6; cases h6), h6, h7⟩
theorem own_eqint {t : Term} {n : Int32} {args : Array Value} {s : State} (h : (Jvm.Cond.eq t (Term.int n)).value args s none s [] = some true) : t.eval args s none [] s = some (.int n) := by
  have hb : (Term.int n).eval args s none [] s = some (.int n) := Term.int_eval n
  simp only [Jvm.Cond.value, hb] at h
  cases ht : t.eval args s none [] s with
  | none => simp [ht] at h
  | some v => cases v <;> simp [ht] at h ⊢; exact h
abbrev own_y1 : MethodName := ⟨"com/example/parts_to_policy/partstopolicy/model/MatchNegatePinLaw", "pick", "(I)Lcom/example/parts_to_policy/partstopolicy/model/Match;"⟩
abbrev own_y2 : MethodName := ⟨"com/example/parts_to_policy/partstopolicy/model/Match", "negate", "()Lcom/example/parts_to_policy/partstopolicy/model/Match;"⟩
abbrev own_y3 : MethodName := ⟨"com/example/parts_to_policy/partstopolicy/model/Match", "of", "(Z)Lcom/example/parts_to_policy/partstopolicy/model/Match;"⟩
theorem own_pd1 : parseMethodDescriptor "(I)Lcom/example/parts_to_policy/partstopolicy/model/Match;" = some ⟨[.int], (some (.object "com/example/parts_to_policy/partstopolicy/model/Match"))⟩ := by decide +kernel
theorem own_pd2 : parseMethodDescriptor "()Lcom/example/parts_to_policy/partstopolicy/model/Match;" = some ⟨[], (some (.object "com/example/parts_to_policy/partstopolicy/model/Match"))⟩ := by decide +kernel
theorem own_pd3 : parseMethodDescriptor "(Z)Lcom/example/parts_to_policy/partstopolicy/model/Match;" = some ⟨[.boolean], (some (.object "com/example/parts_to_policy/partstopolicy/model/Match"))⟩ := by decide +kernel

def own_pick (p : Int32) (aY aN aU : Addr) : Addr := if ((p &&& (2147483647 : Int32)) % (3 : Int32)) = 0 then aY else if ((p &&& (2147483647 : Int32)) % (3 : Int32)) = 1 then aN else aU
def own_neg (t aY aN aU : Addr) : Addr := if t = aY then aN else if t = aN then aY else aU
def own_off (p : Int32) (aY aN : Addr) : Addr := if p = 0 then aN else aY
theorem own_pk3 {z aY aN aU : Addr} {p : Int32} (h : z = own_pick p aY aN aU) : z = aY ∨ z = aN ∨ z = aU := by
  unfold own_pick at h
  split at h
  · exact Or.inl h
  · split at h
    · exact Or.inr (Or.inl h)
    · exact Or.inr (Or.inr h)
theorem own_ng3 {z t aY aN aU : Addr} (h : z = own_neg t aY aN aU) : z = aY ∨ z = aN ∨ z = aU := by
  unfold own_neg at h
  split at h
  · exact Or.inr (Or.inl h)
  · split at h
    · exact Or.inl h
    · exact Or.inr (Or.inr h)
theorem own_of3 {z aY aN aU : Addr} {p : Int32} (h : z = own_off p aY aN) : z = aY ∨ z = aN ∨ z = aU := by
  unfold own_off at h
  split at h
  · exact Or.inr (Or.inl h)
  · exact Or.inl h
theorem own_ex {Z : State} {h : Heap} {C : String} {z aY aN aU : Addr} (q : z = aY ∨ z = aN ∨ z = aU) (e0 : Exa Z h aY C) (e1 : Exa Z h aN C) (e2 : Exa Z h aU C) : Exa Z h z C := by
  rcases q with rfl | rfl | rfl
  · exact e0
  · exact e1
  · exact e2
theorem own_inv {z w r aY aN aU : Addr} (n1 : aY ≠ aN) (n2 : aY ≠ aU) (n3 : aN ≠ aU) (q : z = aY ∨ z = aN ∨ z = aU) (h : w = own_neg z aY aN aU) (h2 : r = own_neg w aY aN aU) : r = z := by
  rcases q with q | q | q
  · rw [own_neg, if_pos q] at h
    rw [own_neg, if_neg (by rw [h]; exact n1.symm), if_pos h] at h2
    rw [h2, q]
  · rw [own_neg, if_neg (by rw [q]; exact n1.symm), if_pos q] at h
    rw [own_neg, if_pos h] at h2
    rw [h2, q]
  · rw [own_neg, if_neg (by rw [q]; exact n2.symm), if_neg (by rw [q]; exact n3.symm)] at h
    rw [own_neg, if_neg (by rw [h]; exact n2.symm), if_neg (by rw [h]; exact n3.symm)] at h2
    rw [h2, q]
theorem own_cl1 {z w r aY aN aU : Addr} {p : Int32} (n1 : aY ≠ aN) (h : z = own_off p aY aN) (h2 : w = own_neg z aY aN aU) (h3 : r = own_off (0 : Int32) aY aN) (hp : ¬ p = 0) : w = r := by
  rw [own_off, if_neg hp] at h
  rw [own_neg, if_pos h] at h2
  rw [own_off, if_pos rfl] at h3
  rw [h2, h3]
theorem own_cl0 {z w r aY aN aU : Addr} {p : Int32} (n1 : aY ≠ aN) (h : z = own_off p aY aN) (h2 : w = own_neg z aY aN aU) (h3 : r = own_off (1 : Int32) aY aN) (hp : p = 0) : w = r := by
  rw [own_off, if_pos hp] at h
  rw [own_neg, if_neg (by rw [h]; exact n1.symm), if_pos h] at h2
  rw [own_off, if_neg (by decide)] at h3
  rw [h2, h3]
theorem own_u1 {z w aY aN aU : Addr} (n2 : aY ≠ aU) (n3 : aN ≠ aU) (h : w = own_neg z aY aN aU) (q : z = aU) : w = aU := by
  rw [own_neg, if_neg (by rw [q]; exact n2.symm), if_neg (by rw [q]; exact n3.symm)] at h
  exact h
theorem own_u0 {z w aY aN aU : Addr} (n2 : aY ≠ aU) (n3 : aN ≠ aU) (k : z = aY ∨ z = aN ∨ z = aU) (h : w = own_neg z aY aN aU) (q : ¬ z = aU) : ¬ w = aU := by
  unfold own_neg at h
  split at h
  · rw [h]; exact n3
  · split at h
    · rw [h]; exact n2
    · rename_i h1 h2
      rcases k with k | k | k
      · exact absurd k h1
      · exact absurd k h2
      · exact absurd k q

theorem own_pk_d0 : decode method_2_code 0 = .ok (.iload_n 0, 1) := by decide +kernel
theorem own_pk_d1 : decode method_2_code 1 = .ok (.ldc 7, 2) := by decide +kernel
theorem own_pk_d3 : decode method_2_code 3 = .ok (.iand, 1) := by decide +kernel
theorem own_pk_d4 : decode method_2_code 4 = .ok (.iconst 3, 1) := by decide +kernel
theorem own_pk_d5 : decode method_2_code 5 = .ok (.irem, 1) := by decide +kernel
theorem own_pk_d6 : decode method_2_code 6 = .ok (.istore_n 1, 1) := by decide +kernel
theorem own_pk_d7 : decode method_2_code 7 = .ok (.iload_n 1, 1) := by decide +kernel
theorem own_pk_d8 : decode method_2_code 8 = .ok (.ifCond .ne 7, 3) := by decide +kernel
theorem own_pk_d11 : decode method_2_code 11 = .ok (.getstatic 8, 3) := by decide +kernel
theorem own_pk_d14 : decode method_2_code 14 = .ok (.areturn, 1) := by decide +kernel
theorem own_pk_d15 : decode method_2_code 15 = .ok (.iload_n 1, 1) := by decide +kernel
theorem own_pk_d16 : decode method_2_code 16 = .ok (.iconst 1, 1) := by decide +kernel
theorem own_pk_d17 : decode method_2_code 17 = .ok (.if_icmp .ne 7, 3) := by decide +kernel
theorem own_pk_d20 : decode method_2_code 20 = .ok (.getstatic 14, 3) := by decide +kernel
theorem own_pk_d23 : decode method_2_code 23 = .ok (.areturn, 1) := by decide +kernel
theorem own_pk_d24 : decode method_2_code 24 = .ok (.getstatic 17, 3) := by decide +kernel
theorem own_pk_d27 : decode method_2_code 27 = .ok (.areturn, 1) := by decide +kernel
theorem own_pk_pn : plainName "com/example/parts_to_policy/partstopolicy/model/MatchNegatePinLaw" = true := by first | (simp [plainName, overriddenIn]; done) | decide +kernel
theorem own_pk_ef (m : MethodId) (p0 : Int32) : entryFrame m #[(.int p0)] 2 = mkF m 0 #[iv p0, .unset] [] := by first | (simp [entryFrame, mkF, argsToLocals, Value.category]; done) | rfl
def own_pk_Q (Z : State) (p0 : Int32) (aY aN aU : Addr) (h0 : Heap) (n0 : Nat) (v : Option Value) (h : Heap) (L : List Loc) : Prop := v = some (.ref (own_pick p0 aY aN aU)) ∧ Fr n0 L ∧ h = h0
set_option maxRecDepth 65536 in
set_option maxHeartbeats 40000000 in
theorem own_pk (l : Launch) (Z : State) (a0 : Array Value) (hw : ∀ d ∈ tables_1, d.before a0 Z = true) (ws : List Jvm.Cond) (p0 : Int32) (aY aN aU : Addr) (h0 : Heap) (n0 : Nat) (S_YES : Sta Z h0 "com/example/parts_to_policy/partstopolicy/model/Match" "YES" "Lcom/example/parts_to_policy/partstopolicy/model/Match;" (.ref aY)) (S_NO : Sta Z h0 "com/example/parts_to_policy/partstopolicy/model/Match" "NO" "Lcom/example/parts_to_policy/partstopolicy/model/Match;" (.ref aN)) (S_UNKNOWN : Sta Z h0 "com/example/parts_to_policy/partstopolicy/model/Match" "UNKNOWN" "Lcom/example/parts_to_policy/partstopolicy/model/Match;" (.ref aU)) :
    MetFree l own_y1 (head1 (Jvm.Cond.code own_y1 method_2_code 2 (some (.object "com/example/parts_to_policy/partstopolicy/model/Match")) :: ws) ({ frames := 0, cells := 0, slots := 0, locals := 0 } : Room)) (fun a U => a = #[(.int p0)] ∧ Z.Warmed39 U.vm ∧ U.heap = h0) (fun _ _ _ _ _ => True) (fun _ U o U' => ∃ v L, o = .returned v ∧ (own_pk_Q Z p0 aY aN aU h0 n0) v U'.heap L ∧ FrameEnd U o U' L ({ frames := 0, cells := 0, slots := 0, locals := 0 } : Room).cells ({ frames := 0, cells := 0, slots := 0, locals := 0 } : Room).slots) := by
  refine MetFree.of_bodySF (plainFor_of_name own_pk_pn) hisR ?_
  intro p e s m args below meth c s₁ Bd hml0 hP hK
  obtain ⟨rfl, hZ, hh⟩ := hP
  have hx := Bd.exec
  have hby := Bd.bytes
  have hml : c.maxLocals = 2 := hml0
  have hown : s.vm.findClass "com/example/parts_to_policy/partstopolicy/model/MatchNegatePinLaw" = some m.cls := findClass_of_methodNamed Bd.named
  have hnm := (name_of_methodNamed Bd.named Bd.method).1
  have hlk : meth.locks = false := Bd.notSynchronized
  have X0 : Stand p l e ({ frames := 0, cells := 0, slots := 0, locals := 0 } : Room) s m #[(.int p0)] below meth c s₁ [] 0 0 := Stand.of_body Bd
  have e0 : s₁.heap = h0 := by rw [← hh, Bd.state]; rfl
  have N0 := Fr.nil n0
  have w_4 := hw _ (List.mem_of_getElem? (l := tables_1) (i := 4) rfl)
  have w_5 := hw _ (List.mem_of_getElem? (l := tables_1) (i := 5) rfl)
  have w_19 := hw _ (List.mem_of_getElem? (l := tables_1) (i := 19) rfl)
  have w_22 := hw _ (List.mem_of_getElem? (l := tables_1) (i := 22) rfl)
  show own_G p.tables e below (fun o U' => ∃ v L, o = .returned v ∧ (own_pk_Q Z p0 aY aN aU h0 n0) v U'.heap L ∧ FrameEnd s o U' L ({ frames := 0, cells := 0, slots := 0, locals := 0 } : Room).cells ({ frames := 0, cells := 0, slots := 0, locals := 0 } : Room).slots) (s₁.setTop (entryFrame m #[(.int p0)] 2))
  refine own_go (B := s₁.setTop (mkF m 0 #[iv p0, .unset] [])) (fun t k => castTop (own_pk_ef m p0) k) ?_
  refine own_go (B := (s₁.setTop (mkF m 1 #[iv p0, .unset] [(.int p0)]))) (fun t k => XS.iloadN X0.here hx rfl (hb hby own_pk_d0) rfl k) ?_
  have lc1 := X0.ldcInt hx hown (v := (2147483647 : Int32)) (mvT hZ w_4) (g := (mkF m 1 #[iv p0, .unset] [(.int p0)])) rfl (hb hby own_pk_d1)
  refine own_go (B := (s₁.setTop (mkF m 3 #[iv p0, .unset] [(.int (2147483647 : Int32)), (.int p0)]))) lc1 ?_
  refine own_go (B := (s₁.setTop (mkF m 4 #[iv p0, .unset] [(.int (p0 &&& (2147483647 : Int32)))]))) (fun t k => XS.iand X0.here hx rfl (hb hby own_pk_d3) rfl k) ?_
  refine own_go (B := (s₁.setTop (mkF m 5 #[iv p0, .unset] [(.int (3 : Int32)), (.int (p0 &&& (2147483647 : Int32)))]))) (fun t k => XS.iconst X0.here hx rfl (hb hby own_pk_d4) k) ?_
  refine own_go (B := (s₁.setTop (mkF m 6 #[iv p0, .unset] [(.int ((p0 &&& (2147483647 : Int32)) % (3 : Int32)))]))) (fun t k => iremM X0 hx rfl (hb hby own_pk_d5) rfl (by decide) k) ?_
  obtain ⟨z6, hz6⟩ : ∃ z : Int32, z = ((p0 &&& (2147483647 : Int32)) % (3 : Int32)) := ⟨_, rfl⟩
  rw [← hz6]
  refine own_go (B := (s₁.setTop (mkF m 7 #[iv p0, iv z6] []))) (fun t k => XS.istoreN X0.here hx rfl (hb hby own_pk_d6) rfl (l' := #[iv p0, iv z6]) rfl k) ?_
  refine own_go (B := (s₁.setTop (mkF m 8 #[iv p0, iv z6] [(.int z6)]))) (fun t k => XS.iloadN X0.here hx rfl (hb hby own_pk_d7) rfl k) ?_
  refine own_if X0 hx (hb hby own_pk_d8) (pc' := 15) (pn := 11) (by decide) (by decide) rfl (fun (hc8 : ¬ z6 = (0 : Int32)) => ?_) (fun (hc8 : z6 = (0 : Int32)) => ?_)
  · refine own_go (B := (s₁.setTop (mkF m 16 #[iv p0, iv z6] [(.int z6)]))) (fun t k => XS.iloadN X0.here hx rfl (hb hby own_pk_d15) rfl k) ?_
    refine own_go (B := (s₁.setTop (mkF m 17 #[iv p0, iv z6] [(.int (1 : Int32)), (.int z6)]))) (fun t k => XS.iconst X0.here hx rfl (hb hby own_pk_d16) k) ?_
    refine own_icmp X0 hx (hb hby own_pk_d17) (pc' := 24) (pn := 20) (by decide) (by decide) rfl (fun (hc17 : ¬ z6 = (1 : Int32)) => ?_) (fun (hc17 : z6 = (1 : Int32)) => ?_)
    · obtain ⟨T2, X2, e2, st2⟩ := getS X0 hx hZ hown (host := "") w_19 Via.refl e0 S_UNKNOWN (g := (mkF m 24 #[iv p0, iv z6] [])) rfl (hb hby own_pk_d24)
      refine own_go (B := (T2.setTop (mkF m 27 #[iv p0, iv z6] [(.ref aU)]))) st2 ?_
      exact own_retA X2 hx hlk Bd.returns rfl rfl (hb hby own_pk_d27) (own_b rfl) (own_b rfl) (Q := (own_pk_Q Z p0 aY aN aU h0 n0)) ⟨by rw [own_pick, ← hz6, if_neg hc8, if_neg hc17], N0, e2⟩
    · obtain ⟨T3, X3, e3, st3⟩ := getS X0 hx hZ hown (host := "") w_22 Via.refl e0 S_NO (g := (mkF m 20 #[iv p0, iv z6] [])) rfl (hb hby own_pk_d20)
      refine own_go (B := (T3.setTop (mkF m 23 #[iv p0, iv z6] [(.ref aN)]))) st3 ?_
      exact own_retA X3 hx hlk Bd.returns rfl rfl (hb hby own_pk_d23) (own_b rfl) (own_b rfl) (Q := (own_pk_Q Z p0 aY aN aU h0 n0)) ⟨by rw [own_pick, ← hz6, if_neg hc8, if_pos hc17], N0, e3⟩
  · obtain ⟨T4, X4, e4, st4⟩ := getS X0 hx hZ hown (host := "") w_5 Via.refl e0 S_YES (g := (mkF m 11 #[iv p0, iv z6] [])) rfl (hb hby own_pk_d11)
    refine own_go (B := (T4.setTop (mkF m 14 #[iv p0, iv z6] [(.ref aY)]))) st4 ?_
    exact own_retA X4 hx hlk Bd.returns rfl rfl (hb hby own_pk_d14) (own_b rfl) (own_b rfl) (Q := (own_pk_Q Z p0 aY aN aU h0 n0)) ⟨by rw [own_pick, ← hz6, if_pos hc8], N0, e4⟩

theorem own_ng_d0 : decode prog_73_method_5_code 0 = .ok (.aload_n 0, 1) := by decide +kernel
theorem own_ng_d1 : decode prog_73_method_5_code 1 = .ok (.getstatic 3, 3) := by decide +kernel
theorem own_ng_d4 : decode prog_73_method_5_code 4 = .ok (.if_acmp .ne 10, 3) := by decide +kernel
theorem own_ng_d7 : decode prog_73_method_5_code 7 = .ok (.getstatic 7, 3) := by decide +kernel
theorem own_ng_d10 : decode prog_73_method_5_code 10 = .ok (.astore_n 1, 1) := by decide +kernel
theorem own_ng_d11 : decode prog_73_method_5_code 11 = .ok (.goto 21, 3) := by decide +kernel
theorem own_ng_d14 : decode prog_73_method_5_code 14 = .ok (.aload_n 0, 1) := by decide +kernel
theorem own_ng_d15 : decode prog_73_method_5_code 15 = .ok (.getstatic 7, 3) := by decide +kernel
theorem own_ng_d18 : decode prog_73_method_5_code 18 = .ok (.if_acmp .ne 10, 3) := by decide +kernel
theorem own_ng_d21 : decode prog_73_method_5_code 21 = .ok (.getstatic 3, 3) := by decide +kernel
theorem own_ng_d24 : decode prog_73_method_5_code 24 = .ok (.astore_n 1, 1) := by decide +kernel
theorem own_ng_d25 : decode prog_73_method_5_code 25 = .ok (.goto 7, 3) := by decide +kernel
theorem own_ng_d28 : decode prog_73_method_5_code 28 = .ok (.getstatic 10, 3) := by decide +kernel
theorem own_ng_d31 : decode prog_73_method_5_code 31 = .ok (.astore_n 1, 1) := by decide +kernel
theorem own_ng_d32 : decode prog_73_method_5_code 32 = .ok (.aload_n 1, 1) := by decide +kernel
theorem own_ng_d33 : decode prog_73_method_5_code 33 = .ok (.areturn, 1) := by decide +kernel
theorem own_ng_pn : plainName "com/example/parts_to_policy/partstopolicy/model/Match" = true := by first | (simp [plainName, overriddenIn]; done) | decide +kernel
theorem own_ng_ef (m : MethodId) (th : Addr) : entryFrame m #[(.ref th)] 2 = mkF m 0 #[rv th, .unset] [] := by first | (simp [entryFrame, mkF, argsToLocals, Value.category]; done) | rfl
def own_ng_Q (Z : State) (th : Addr) (aY aN aU : Addr) (h0 : Heap) (n0 : Nat) (v : Option Value) (h : Heap) (L : List Loc) : Prop := v = some (.ref (own_neg th aY aN aU)) ∧ Fr n0 L ∧ h = h0
set_option maxRecDepth 65536 in
set_option maxHeartbeats 40000000 in
theorem own_ng (l : Launch) (Z : State) (a0 : Array Value) (hw : ∀ d ∈ tables_1, d.before a0 Z = true) (ws : List Jvm.Cond) (th : Addr) (aY aN aU : Addr) (h0 : Heap) (n0 : Nat) (S_YES : Sta Z h0 "com/example/parts_to_policy/partstopolicy/model/Match" "YES" "Lcom/example/parts_to_policy/partstopolicy/model/Match;" (.ref aY)) (S_NO : Sta Z h0 "com/example/parts_to_policy/partstopolicy/model/Match" "NO" "Lcom/example/parts_to_policy/partstopolicy/model/Match;" (.ref aN)) (S_UNKNOWN : Sta Z h0 "com/example/parts_to_policy/partstopolicy/model/Match" "UNKNOWN" "Lcom/example/parts_to_policy/partstopolicy/model/Match;" (.ref aU)) :
    MetFree l own_y2 (head1 (Jvm.Cond.code own_y2 prog_73_method_5_code 2 (some (.object "com/example/parts_to_policy/partstopolicy/model/Match")) :: ws) ({ frames := 0, cells := 0, slots := 0, locals := 0 } : Room)) (fun a U => a = #[(.ref th)] ∧ Z.Warmed39 U.vm ∧ U.heap = h0) (fun _ _ _ _ _ => True) (fun _ U o U' => ∃ v L, o = .returned v ∧ (own_ng_Q Z th aY aN aU h0 n0) v U'.heap L ∧ FrameEnd U o U' L ({ frames := 0, cells := 0, slots := 0, locals := 0 } : Room).cells ({ frames := 0, cells := 0, slots := 0, locals := 0 } : Room).slots) := by
  refine MetFree.of_bodySF (plainFor_of_name own_ng_pn) hisR ?_
  intro p e s m args below meth c s₁ Bd hml0 hP hK
  obtain ⟨rfl, hZ, hh⟩ := hP
  have hx := Bd.exec
  have hby := Bd.bytes
  have hml : c.maxLocals = 2 := hml0
  have hown : s.vm.findClass "com/example/parts_to_policy/partstopolicy/model/Match" = some m.cls := findClass_of_methodNamed Bd.named
  have hnm := (name_of_methodNamed Bd.named Bd.method).1
  have hlk : meth.locks = false := Bd.notSynchronized
  have X0 : Stand p l e ({ frames := 0, cells := 0, slots := 0, locals := 0 } : Room) s m #[(.ref th)] below meth c s₁ [] 0 0 := Stand.of_body Bd
  have e0 : s₁.heap = h0 := by rw [← hh, Bd.state]; rfl
  have N0 := Fr.nil n0
  have w_13 := hw _ (List.mem_of_getElem? (l := tables_1) (i := 13) rfl)
  have w_14 := hw _ (List.mem_of_getElem? (l := tables_1) (i := 14) rfl)
  have w_21 := hw _ (List.mem_of_getElem? (l := tables_1) (i := 21) rfl)
  show own_G p.tables e below (fun o U' => ∃ v L, o = .returned v ∧ (own_ng_Q Z th aY aN aU h0 n0) v U'.heap L ∧ FrameEnd s o U' L ({ frames := 0, cells := 0, slots := 0, locals := 0 } : Room).cells ({ frames := 0, cells := 0, slots := 0, locals := 0 } : Room).slots) (s₁.setTop (entryFrame m #[(.ref th)] 2))
  refine own_go (B := s₁.setTop (mkF m 0 #[rv th, .unset] [])) (fun t k => castTop (own_ng_ef m th) k) ?_
  refine own_go (B := (s₁.setTop (mkF m 1 #[rv th, .unset] [(.ref th)]))) (fun t k => XS.aloadN X0.here hx rfl (hb hby own_ng_d0) rfl rfl k) ?_
  obtain ⟨T1, X1, e1, st1⟩ := getS X0 hx hZ hown (host := "") w_13 Via.refl e0 S_YES (g := (mkF m 1 #[rv th, .unset] [(.ref th)])) rfl (hb hby own_ng_d1)
  refine own_go (B := (T1.setTop (mkF m 4 #[rv th, .unset] [(.ref aY), (.ref th)]))) st1 ?_
  rcases Classical.em (th = aY) with hc4 | hc4
  · refine own_acmpAE X1 hx (hb hby own_ng_d4) (pc' := 7) (by decide) (by decide) hc4 ?_
    obtain ⟨T2, X2, e2, st2⟩ := getS X1 hx hZ hown (host := "") w_14 Via.refl e1 S_NO (g := (mkF m 7 #[rv th, .unset] [])) rfl (hb hby own_ng_d7)
    refine own_go (B := (T2.setTop (mkF m 10 #[rv th, .unset] [(.ref aN)]))) st2 ?_
    refine own_go (B := (T2.setTop (mkF m 11 #[rv th, rv aN] []))) (fun t k => XS.astoreN X2.here hx rfl (hb hby own_ng_d10) rfl rfl (l' := #[rv th, rv aN]) rfl k) ?_
    refine own_go (B := (T2.setTop (mkF m 32 #[rv th, rv aN] []))) (fun t k => XS.goto X2.here hx rfl (pc0 := 11) (pc' := 32) rfl (hb hby own_ng_d11) (by decide) (by decide) k) ?_
    refine own_go (B := (T2.setTop (mkF m 33 #[rv th, rv aN] [(.ref aN)]))) (fun t k => XS.aloadN X2.here hx rfl (hb hby own_ng_d32) rfl rfl k) ?_
    exact own_retA X2 hx hlk Bd.returns rfl rfl (hb hby own_ng_d33) (own_b rfl) (own_b rfl) (Q := (own_ng_Q Z th aY aN aU h0 n0)) ⟨by rw [own_neg, if_pos hc4], N0, e2⟩
  · refine own_acmpAD X1 hx (hb hby own_ng_d4) (pc' := 14) (by decide) (by decide) hc4 ?_
    refine own_go (B := (T1.setTop (mkF m 15 #[rv th, .unset] [(.ref th)]))) (fun t k => XS.aloadN X1.here hx rfl (hb hby own_ng_d14) rfl rfl k) ?_
    obtain ⟨T3, X3, e3, st3⟩ := getS X1 hx hZ hown (host := "") w_14 Via.refl e1 S_NO (g := (mkF m 15 #[rv th, .unset] [(.ref th)])) rfl (hb hby own_ng_d15)
    refine own_go (B := (T3.setTop (mkF m 18 #[rv th, .unset] [(.ref aN), (.ref th)]))) st3 ?_
    rcases Classical.em (th = aN) with hc18 | hc18
    · refine own_acmpAE X3 hx (hb hby own_ng_d18) (pc' := 21) (by decide) (by decide) hc18 ?_
      obtain ⟨T4, X4, e4, st4⟩ := getS X3 hx hZ hown (host := "") w_13 Via.refl e3 S_YES (g := (mkF m 21 #[rv th, .unset] [])) rfl (hb hby own_ng_d21)
      refine own_go (B := (T4.setTop (mkF m 24 #[rv th, .unset] [(.ref aY)]))) st4 ?_
      refine own_go (B := (T4.setTop (mkF m 25 #[rv th, rv aY] []))) (fun t k => XS.astoreN X4.here hx rfl (hb hby own_ng_d24) rfl rfl (l' := #[rv th, rv aY]) rfl k) ?_
      refine own_go (B := (T4.setTop (mkF m 32 #[rv th, rv aY] []))) (fun t k => XS.goto X4.here hx rfl (pc0 := 25) (pc' := 32) rfl (hb hby own_ng_d25) (by decide) (by decide) k) ?_
      refine own_go (B := (T4.setTop (mkF m 33 #[rv th, rv aY] [(.ref aY)]))) (fun t k => XS.aloadN X4.here hx rfl (hb hby own_ng_d32) rfl rfl k) ?_
      exact own_retA X4 hx hlk Bd.returns rfl rfl (hb hby own_ng_d33) (own_b rfl) (own_b rfl) (Q := (own_ng_Q Z th aY aN aU h0 n0)) ⟨by rw [own_neg, if_neg hc4, if_pos hc18], N0, e4⟩
    · refine own_acmpAD X3 hx (hb hby own_ng_d18) (pc' := 28) (by decide) (by decide) hc18 ?_
      obtain ⟨T5, X5, e5, st5⟩ := getS X3 hx hZ hown (host := "") w_21 Via.refl e3 S_UNKNOWN (g := (mkF m 28 #[rv th, .unset] [])) rfl (hb hby own_ng_d28)
      refine own_go (B := (T5.setTop (mkF m 31 #[rv th, .unset] [(.ref aU)]))) st5 ?_
      refine own_go (B := (T5.setTop (mkF m 32 #[rv th, rv aU] []))) (fun t k => XS.astoreN X5.here hx rfl (hb hby own_ng_d31) rfl rfl (l' := #[rv th, rv aU]) rfl k) ?_
      refine own_go (B := (T5.setTop (mkF m 33 #[rv th, rv aU] [(.ref aU)]))) (fun t k => XS.aloadN X5.here hx rfl (hb hby own_ng_d32) rfl rfl k) ?_
      exact own_retA X5 hx hlk Bd.returns rfl rfl (hb hby own_ng_d33) (own_b rfl) (own_b rfl) (Q := (own_ng_Q Z th aY aN aU h0 n0)) ⟨by rw [own_neg, if_neg hc4, if_neg hc18], N0, e5⟩

theorem own_of_d0 : decode prog_73_method_4_code 0 = .ok (.iload_n 0, 1) := by decide +kernel
theorem own_of_d1 : decode prog_73_method_4_code 1 = .ok (.ifCond .eq 9, 3) := by decide +kernel
theorem own_of_d4 : decode prog_73_method_4_code 4 = .ok (.getstatic 3, 3) := by decide +kernel
theorem own_of_d7 : decode prog_73_method_4_code 7 = .ok (.goto 6, 3) := by decide +kernel
theorem own_of_d10 : decode prog_73_method_4_code 10 = .ok (.getstatic 7, 3) := by decide +kernel
theorem own_of_d13 : decode prog_73_method_4_code 13 = .ok (.areturn, 1) := by decide +kernel
theorem own_of_pn : plainName "com/example/parts_to_policy/partstopolicy/model/Match" = true := by first | (simp [plainName, overriddenIn]; done) | decide +kernel
theorem own_of_ef (m : MethodId) (ph : Int32) : entryFrame m #[(.int ph)] 1 = mkF m 0 #[iv ph] [] := by first | (simp [entryFrame, mkF, argsToLocals, Value.category]; done) | rfl
def own_of_Q (Z : State) (ph : Int32) (aY aN : Addr) (h0 : Heap) (n0 : Nat) (v : Option Value) (h : Heap) (L : List Loc) : Prop := v = some (.ref (own_off ph aY aN)) ∧ Fr n0 L ∧ h = h0
set_option maxRecDepth 65536 in
set_option maxHeartbeats 40000000 in
theorem own_of (l : Launch) (Z : State) (a0 : Array Value) (hw : ∀ d ∈ tables_1, d.before a0 Z = true) (ws : List Jvm.Cond) (ph : Int32) (aY aN : Addr) (h0 : Heap) (n0 : Nat) (S_YES : Sta Z h0 "com/example/parts_to_policy/partstopolicy/model/Match" "YES" "Lcom/example/parts_to_policy/partstopolicy/model/Match;" (.ref aY)) (S_NO : Sta Z h0 "com/example/parts_to_policy/partstopolicy/model/Match" "NO" "Lcom/example/parts_to_policy/partstopolicy/model/Match;" (.ref aN)) :
    MetFree l own_y3 (head1 (Jvm.Cond.code own_y3 prog_73_method_4_code 1 (some (.object "com/example/parts_to_policy/partstopolicy/model/Match")) :: ws) ({ frames := 0, cells := 0, slots := 0, locals := 0 } : Room)) (fun a U => a = #[(.int ph)] ∧ Z.Warmed39 U.vm ∧ U.heap = h0) (fun _ _ _ _ _ => True) (fun _ U o U' => ∃ v L, o = .returned v ∧ (own_of_Q Z ph aY aN h0 n0) v U'.heap L ∧ FrameEnd U o U' L ({ frames := 0, cells := 0, slots := 0, locals := 0 } : Room).cells ({ frames := 0, cells := 0, slots := 0, locals := 0 } : Room).slots) := by
  refine MetFree.of_bodySF (plainFor_of_name own_of_pn) hisR ?_
  intro p e s m args below meth c s₁ Bd hml0 hP hK
  obtain ⟨rfl, hZ, hh⟩ := hP
  have hx := Bd.exec
  have hby := Bd.bytes
  have hml : c.maxLocals = 1 := hml0
  have hown : s.vm.findClass "com/example/parts_to_policy/partstopolicy/model/Match" = some m.cls := findClass_of_methodNamed Bd.named
  have hnm := (name_of_methodNamed Bd.named Bd.method).1
  have hlk : meth.locks = false := Bd.notSynchronized
  have X0 : Stand p l e ({ frames := 0, cells := 0, slots := 0, locals := 0 } : Room) s m #[(.int ph)] below meth c s₁ [] 0 0 := Stand.of_body Bd
  have e0 : s₁.heap = h0 := by rw [← hh, Bd.state]; rfl
  have N0 := Fr.nil n0
  have w_13 := hw _ (List.mem_of_getElem? (l := tables_1) (i := 13) rfl)
  have w_14 := hw _ (List.mem_of_getElem? (l := tables_1) (i := 14) rfl)
  show own_G p.tables e below (fun o U' => ∃ v L, o = .returned v ∧ (own_of_Q Z ph aY aN h0 n0) v U'.heap L ∧ FrameEnd s o U' L ({ frames := 0, cells := 0, slots := 0, locals := 0 } : Room).cells ({ frames := 0, cells := 0, slots := 0, locals := 0 } : Room).slots) (s₁.setTop (entryFrame m #[(.int ph)] 1))
  refine own_go (B := s₁.setTop (mkF m 0 #[iv ph] [])) (fun t k => castTop (own_of_ef m ph) k) ?_
  refine own_go (B := (s₁.setTop (mkF m 1 #[iv ph] [(.int ph)]))) (fun t k => XS.iloadN X0.here hx rfl (hb hby own_of_d0) rfl k) ?_
  refine own_if X0 hx (hb hby own_of_d1) (pc' := 10) (pn := 4) (by decide) (by decide) rfl (fun (hc1 : ph = (0 : Int32)) => ?_) (fun (hc1 : ¬ ph = (0 : Int32)) => ?_)
  · obtain ⟨T1, X1, e1, st1⟩ := getS X0 hx hZ hown (host := "") w_14 Via.refl e0 S_NO (g := (mkF m 10 #[iv ph] [])) rfl (hb hby own_of_d10)
    refine own_go (B := (T1.setTop (mkF m 13 #[iv ph] [(.ref aN)]))) st1 ?_
    exact own_retA X1 hx hlk Bd.returns rfl rfl (hb hby own_of_d13) (own_b rfl) (own_b rfl) (Q := (own_of_Q Z ph aY aN h0 n0)) ⟨by rw [own_off, if_pos hc1], N0, e1⟩
  · obtain ⟨T2, X2, e2, st2⟩ := getS X0 hx hZ hown (host := "") w_13 Via.refl e0 S_YES (g := (mkF m 4 #[iv ph] [])) rfl (hb hby own_of_d4)
    refine own_go (B := (T2.setTop (mkF m 7 #[iv ph] [(.ref aY)]))) st2 ?_
    refine own_go (B := (T2.setTop (mkF m 13 #[iv ph] [(.ref aY)]))) (fun t k => XS.goto X2.here hx rfl (pc0 := 7) (pc' := 13) rfl (hb hby own_of_d7) (by decide) (by decide) k) ?_
    exact own_retA X2 hx hlk Bd.returns rfl rfl (hb hby own_of_d13) (own_b rfl) (own_b rfl) (Q := (own_of_Q Z ph aY aN h0 n0)) ⟨by rw [own_off, if_neg hc1], N0, e2⟩

theorem own_law_pn : plainName "com/example/parts_to_policy/partstopolicy/model/MatchNegatePinLaw" = true := by first | (simp [plainName, overriddenIn]; done) | decide +kernel
theorem own_law_ef (m : MethodId) (p0 : Int32) (p1 : Int32) : entryFrame m #[(.int p0), (.int p1)] maxLocals = mkF m 0 #[iv p0, iv p1, .unset, .unset, .unset, .unset, .unset, .unset] [] := by first | (simp [entryFrame, mkF, argsToLocals, Value.category, maxLocals]; done) | rfl
def own_law_Q (Z : State) (p0 : Int32) (p1 : Int32) (aY aN aU : Addr) (h0 : Heap) (n0 : Nat) (v : Option Value) (h : Heap) (L : List Loc) : Prop := v = some (.int 1) ∧ Fr n0 L
set_option maxRecDepth 65536 in
set_option maxHeartbeats 40000000 in
theorem own_law (l : Launch) (Z : State) (a0 : Array Value) (hw : ∀ d ∈ tables_1, d.before a0 Z = true) (ws : List Jvm.Cond) (p0 : Int32) (p1 : Int32) (aY aN aU : Addr) (h0 : Heap) (n0 : Nat) (S_YES : Sta Z h0 "com/example/parts_to_policy/partstopolicy/model/Match" "YES" "Lcom/example/parts_to_policy/partstopolicy/model/Match;" (.ref aY)) (E_YES : Exa Z h0 aY "com/example/parts_to_policy/partstopolicy/model/Match") (S_NO : Sta Z h0 "com/example/parts_to_policy/partstopolicy/model/Match" "NO" "Lcom/example/parts_to_policy/partstopolicy/model/Match;" (.ref aN)) (E_NO : Exa Z h0 aN "com/example/parts_to_policy/partstopolicy/model/Match") (S_UNKNOWN : Sta Z h0 "com/example/parts_to_policy/partstopolicy/model/Match" "UNKNOWN" "Lcom/example/parts_to_policy/partstopolicy/model/Match;" (.ref aU)) (E_UNKNOWN : Exa Z h0 aU "com/example/parts_to_policy/partstopolicy/model/Match") (n1 : aY ≠ aN) (n2 : aY ≠ aU) (n3 : aN ≠ aU) :
    MetFree l x (head1 (Jvm.Cond.code x code maxLocals ret :: ws) room_1) (fun a U => a = #[(.int p0), (.int p1)] ∧ Z.Warmed39 U.vm ∧ U.heap = h0) (fun _ _ _ _ _ => True) (fun _ U o U' => ∃ v L, o = .returned v ∧ (own_law_Q Z p0 p1 aY aN aU h0 n0) v U'.heap L ∧ FrameEnd U o U' L 0 0) := by
  refine MetFree.of_bodySF (plainFor_of_name own_law_pn) hisR ?_
  intro p e s m args below meth c s₁ Bd hml0 hP hK
  obtain ⟨rfl, hZ, hh⟩ := hP
  have hx := Bd.exec
  have hby := Bd.bytes
  have hml : c.maxLocals = 8 := hml0
  have hown : s.vm.findClass "com/example/parts_to_policy/partstopolicy/model/MatchNegatePinLaw" = some m.cls := findClass_of_methodNamed Bd.named
  have hnm := (name_of_methodNamed Bd.named Bd.method).1
  have hlk : meth.locks = false := Bd.notSynchronized
  have X0 : Stand p l e room_1 s m #[(.int p0), (.int p1)] below meth c s₁ [] 0 0 := Stand.of_body Bd
  have e0 : s₁.heap = h0 := by rw [← hh, Bd.state]; rfl
  have N0 := Fr.nil n0
  have w_0 := hw _ (List.mem_of_getElem? (l := tables_1) (i := 0) rfl)
  have w_1 := hw _ (List.mem_of_getElem? (l := tables_1) (i := 1) rfl)
  have w_2 := hw _ (List.mem_of_getElem? (l := tables_1) (i := 2) rfl)
  have w_3 := hw _ (List.mem_of_getElem? (l := tables_1) (i := 3) rfl)
  have w_6 := hw _ (List.mem_of_getElem? (l := tables_1) (i := 6) rfl)
  have w_8 := hw _ (List.mem_of_getElem? (l := tables_1) (i := 8) rfl)
  have w_9 := hw _ (List.mem_of_getElem? (l := tables_1) (i := 9) rfl)
  have w_10 := hw _ (List.mem_of_getElem? (l := tables_1) (i := 10) rfl)
  have w_11 := hw _ (List.mem_of_getElem? (l := tables_1) (i := 11) rfl)
  have w_12 := hw _ (List.mem_of_getElem? (l := tables_1) (i := 12) rfl)
  have w_16 := hw _ (List.mem_of_getElem? (l := tables_1) (i := 16) rfl)
  have w_17 := hw _ (List.mem_of_getElem? (l := tables_1) (i := 17) rfl)
  have w_18 := hw _ (List.mem_of_getElem? (l := tables_1) (i := 18) rfl)
  have w_19 := hw _ (List.mem_of_getElem? (l := tables_1) (i := 19) rfl)
  show own_G p.tables e below (fun o U' => ∃ v L, o = .returned v ∧ (own_law_Q Z p0 p1 aY aN aU h0 n0) v U'.heap L ∧ FrameEnd s o U' L 0 0) (s₁.setTop (entryFrame m #[(.int p0), (.int p1)] maxLocals))
  refine own_go (B := s₁.setTop (mkF m 0 #[iv p0, iv p1, .unset, .unset, .unset, .unset, .unset, .unset] [])) (fun t k => castTop (own_law_ef m p0 p1) k) ?_
  refine own_go (B := (s₁.setTop (mkF m 1 #[iv p0, iv p1, .unset, .unset, .unset, .unset, .unset, .unset] [(.int p0)]))) (fun t k => XS.iloadN X0.here hx rfl (hb hby at_0) rfl k) ?_
  obtain ⟨_, _, ⟨T1, L1, k1, n1⟩, -, X1, ⟨Lc1, hQ1, l1, y1, z1⟩, st1⟩ := Jvm.LawKit.callS X0 hx (y := own_y1) hown (mvT hZ w_0) (mvT hZ w_1) (mvT hZ w_2) (mvT hZ w_3) (by decide) (backOf (W := 0) (own_pk l Z a0 hw [] p0 aY aN aU h0 n0 S_YES S_NO S_UNKNOWN) hZ w_3 w_2 (by decide) (by decide)) (g := (mkF m 1 #[iv p0, iv p1, .unset, .unset, .unset, .unset, .unset, .unset] [(.int p0)])) rfl (by rw [hml]; rfl) (argsL := [(.int p0)]) (rest := []) (lenOf own_pd1 rfl) rfl (by show 2 * 0 + _ ≤ _; exact own_b rfl) (hb hby at_1) (fun _ _ => ⟨rfl, e0, (own_b rfl : 0 + 0 ≤ _), (own_b rfl : 0 + 0 ≤ _)⟩)
  dsimp only [Pt.U, Pt.locs, Pt.cells, Pt.slots] at X1 l1 y1 z1 st1 hQ1
  subst l1 y1 z1
  obtain ⟨rfl, Nq1, eq1⟩ := hQ1
  have N1 := Fr.app N0 Nq1
  have e1 : T1.heap = h0 := eq1
  refine own_go (B := (T1.setTop (mkF m 4 #[iv p0, iv p1, .unset, .unset, .unset, .unset, .unset, .unset] [(.ref (own_pick p0 aY aN aU))]))) st1 ?_
  obtain ⟨z4, hz4⟩ : ∃ z : Addr, z = (own_pick p0 aY aN aU) := ⟨_, rfl⟩
  rw [← hz4]
  refine own_go (B := (T1.setTop (mkF m 5 #[iv p0, iv p1, rv z4, .unset, .unset, .unset, .unset, .unset] []))) (fun t k => XS.astoreN X1.here hx rfl (hb hby at_4) rfl rfl (l' := #[iv p0, iv p1, rv z4, .unset, .unset, .unset, .unset, .unset]) rfl k) ?_
  have hE4 := own_ex (own_pk3 hz4) E_YES E_NO E_UNKNOWN
  have J17 : ∀ (hol : Int32), own_G p.tables e below (fun o U' => ∃ v L, o = .returned v ∧ (own_law_Q Z p0 p1 aY aN aU h0 n0) v U'.heap L ∧ FrameEnd s o U' L 0 0) (T1.setTop (mkF m 17 #[iv p0, iv p1, rv z4, iv hol, .unset, .unset, .unset, .unset] [])) := by
    intro hol
    refine own_go (B := (T1.setTop (mkF m 18 #[iv p0, iv p1, rv z4, iv hol, .unset, .unset, .unset, .unset] [(.ref z4)]))) (fun t k => XS.aloadN X1.here hx rfl (hb hby at_17) rfl rfl k) ?_
    obtain ⟨cq2, kq2, qa2, qb2, qc2⟩ := isOf hZ e1 hE4
    obtain ⟨_, _, ⟨T2, L2, k2, n2⟩, -, X2, ⟨Lc2, hQ2, l2, y2, z2⟩, st2⟩ := X1.virtualBack hx (y := own_y2) (z := own_y2) hown (mvT hZ w_8) (mvT hZ w_9) (notFace_of_selects (args := #[]) (mvT hZ w_11)) (mvT hZ w_11) (mvT hZ w_10) (by decide) (backOf (W := 0) (own_ng l Z a0 hw [] z4 aY aN aU h0 n0 S_YES S_NO S_UNKNOWN) hZ w_12 w_6 (by decide) (by decide)) qa2 qc2 (g := (mkF m 18 #[iv p0, iv p1, rv z4, iv hol, .unset, .unset, .unset, .unset] [(.ref z4)])) rfl (by rw [hml]; rfl) (Steps.refl _) (argsL := []) (rest := []) (lenOf own_pd2 rfl) rfl (by show 2 * 0 + _ ≤ _; exact own_b rfl) (hb hby at_18) (fun _ _ => ⟨rfl, e1, (own_b rfl : 0 + 0 ≤ _), (own_b rfl : 0 + 0 ≤ _)⟩)
    dsimp only [Pt.U, Pt.locs, Pt.cells, Pt.slots] at X2 l2 y2 z2 st2 hQ2
    subst l2 y2 z2
    obtain ⟨rfl, Nq2, eq2⟩ := hQ2
    have N2 := Fr.app N1 Nq2
    have e2 : T2.heap = h0 := eq2
    refine own_tr (B := (T2.setTop (mkF m 21 #[iv p0, iv p1, rv z4, iv hol, .unset, .unset, .unset, .unset] [(.ref (own_neg z4 aY aN aU))]))) st2 ?_
    obtain ⟨z21, hz21⟩ : ∃ z : Addr, z = (own_neg z4 aY aN aU) := ⟨_, rfl⟩
    rw [← hz21]
    have hE21 := own_ex (own_ng3 hz21) E_YES E_NO E_UNKNOWN
    refine own_go (B := (T2.setTop (mkF m 23 #[iv p0, iv p1, rv z4, iv hol, rv z21, .unset, .unset, .unset] []))) (fun t k => XS.astore X2.here hx rfl (hb hby at_21) rfl rfl (l' := #[iv p0, iv p1, rv z4, iv hol, rv z21, .unset, .unset, .unset]) rfl k) ?_
    refine own_go (B := (T2.setTop (mkF m 25 #[iv p0, iv p1, rv z4, iv hol, rv z21, .unset, .unset, .unset] [(.ref z21)]))) (fun t k => XS.aload X2.here hx rfl (hb hby at_23) rfl rfl k) ?_
    refine own_go (B := (T2.setTop (mkF m 30 #[iv p0, iv p1, rv z4, iv hol, rv z21, .unset, .unset, .unset] []))) (fun t k => XS.ifnonnullYes X2.here hx rfl (pc0 := 25) (pc' := 30) rfl (hb hby at_25) rfl (by decide) (by decide) k) ?_
    refine own_go (B := (T2.setTop (mkF m 32 #[iv p0, iv p1, rv z4, iv hol, rv z21, .unset, .unset, .unset] [(.ref z21)]))) (fun t k => XS.aload X2.here hx rfl (hb hby at_30) rfl rfl k) ?_
    obtain ⟨cq3, kq3, qa3, qb3, qc3⟩ := isOf hZ e2 hE21
    obtain ⟨_, _, ⟨T3, L3, k3, n3⟩, -, X3, ⟨Lc3, hQ3, l3, y3, z3⟩, st3⟩ := X2.virtualBack hx (y := own_y2) (z := own_y2) hown (mvT hZ w_8) (mvT hZ w_9) (notFace_of_selects (args := #[]) (mvT hZ w_11)) (mvT hZ w_11) (mvT hZ w_10) (by decide) (backOf (W := 0) (own_ng l Z a0 hw [] z21 aY aN aU h0 n0 S_YES S_NO S_UNKNOWN) hZ w_12 w_6 (by decide) (by decide)) qa3 qc3 (g := (mkF m 32 #[iv p0, iv p1, rv z4, iv hol, rv z21, .unset, .unset, .unset] [(.ref z21)])) rfl (by rw [hml]; rfl) (Steps.refl _) (argsL := []) (rest := []) (lenOf own_pd2 rfl) rfl (by show 2 * 0 + _ ≤ _; exact own_b rfl) (hb hby at_32) (fun _ _ => ⟨rfl, e2, (own_b rfl : 0 + 0 ≤ _), (own_b rfl : 0 + 0 ≤ _)⟩)
    dsimp only [Pt.U, Pt.locs, Pt.cells, Pt.slots] at X3 l3 y3 z3 st3 hQ3
    subst l3 y3 z3
    obtain ⟨rfl, Nq3, eq3⟩ := hQ3
    have N3 := Fr.app N2 Nq3
    have e3 : T3.heap = h0 := eq3
    refine own_tr (B := (T3.setTop (mkF m 35 #[iv p0, iv p1, rv z4, iv hol, rv z21, .unset, .unset, .unset] [(.ref (own_neg z21 aY aN aU))]))) st3 ?_
    obtain ⟨z35, hz35⟩ : ∃ z : Addr, z = (own_neg z21 aY aN aU) := ⟨_, rfl⟩
    rw [← hz35]
    refine own_go (B := (T3.setTop (mkF m 36 #[iv p0, iv p1, rv z4, iv hol, rv z21, .unset, .unset, .unset] [(.ref z4), (.ref z35)]))) (fun t k => XS.aloadN X3.here hx rfl (hb hby at_35) rfl rfl k) ?_
    have hc36 : z35 = z4 := (own_inv n1 n2 n3 (own_pk3 hz4) hz21 hz35)
    refine own_acmpAE X3 hx (hb hby at_36) (pc' := 39) (by decide) (by decide) hc36 ?_
    refine own_go (B := (T3.setTop (mkF m 40 #[iv p0, iv p1, rv z4, iv hol, rv z21, .unset, .unset, .unset] [(.int (1 : Int32))]))) (fun t k => XS.iconst X3.here hx rfl (hb hby at_39) k) ?_
    refine own_go (B := (T3.setTop (mkF m 44 #[iv p0, iv p1, rv z4, iv hol, rv z21, .unset, .unset, .unset] [(.int (1 : Int32))]))) (fun t k => XS.goto X3.here hx rfl (pc0 := 40) (pc' := 44) rfl (hb hby at_40) (by decide) (by decide) k) ?_
    refine own_go (B := (T3.setTop (mkF m 46 #[iv p0, iv p1, rv z4, iv hol, rv z21, iv (1 : Int32), .unset, .unset] []))) (fun t k => XS.istore X3.here hx rfl (hb hby at_44) rfl (l' := #[iv p0, iv p1, rv z4, iv hol, rv z21, iv (1 : Int32), .unset, .unset]) rfl k) ?_
    refine own_go (B := (T3.setTop (mkF m 47 #[iv p0, iv p1, rv z4, iv hol, rv z21, iv (1 : Int32), .unset, .unset] [(.int hol)]))) (fun t k => XS.iloadN X3.here hx rfl (hb hby at_46) rfl k) ?_
    obtain ⟨_, _, ⟨T4, L4, k4, n4⟩, -, X4, ⟨Lc4, hQ4, l4, y4, z4⟩, st4⟩ := Jvm.LawKit.callS X3 hx (y := own_y3) hown (mvT hZ w_16) (mvT hZ w_17) (mvT hZ w_6) (mvT hZ w_18) (by decide) (backOf (W := 0) (own_of l Z a0 hw [] hol aY aN h0 n0 S_YES S_NO) hZ w_18 w_6 (by decide) (by decide)) (g := (mkF m 47 #[iv p0, iv p1, rv z4, iv hol, rv z21, iv (1 : Int32), .unset, .unset] [(.int hol)])) rfl (by rw [hml]; rfl) (argsL := [(.int hol)]) (rest := []) (lenOf own_pd3 rfl) rfl (by show 2 * 0 + _ ≤ _; exact own_b rfl) (hb hby at_47) (fun _ _ => ⟨rfl, e3, (own_b rfl : 0 + 0 ≤ _), (own_b rfl : 0 + 0 ≤ _)⟩)
    dsimp only [Pt.U, Pt.locs, Pt.cells, Pt.slots] at X4 l4 y4 z4 st4 hQ4
    subst l4 y4 z4
    obtain ⟨rfl, Nq4, eq4⟩ := hQ4
    have N4 := Fr.app N3 Nq4
    have e4 : T4.heap = h0 := eq4
    refine own_go (B := (T4.setTop (mkF m 50 #[iv p0, iv p1, rv z4, iv hol, rv z21, iv (1 : Int32), .unset, .unset] [(.ref (own_off hol aY aN))]))) st4 ?_
    obtain ⟨z50, hz50⟩ : ∃ z : Addr, z = (own_off hol aY aN) := ⟨_, rfl⟩
    rw [← hz50]
    have hE50 := own_ex (own_of3 (aU := aU) hz50) E_YES E_NO E_UNKNOWN
    obtain ⟨cq5, kq5, qa5, qb5, qc5⟩ := isOf hZ e4 hE50
    obtain ⟨_, _, ⟨T5, L5, k5, n5⟩, -, X5, ⟨Lc5, hQ5, l5, y5, z5⟩, st5⟩ := X4.virtualBack hx (y := own_y2) (z := own_y2) hown (mvT hZ w_8) (mvT hZ w_9) (notFace_of_selects (args := #[]) (mvT hZ w_11)) (mvT hZ w_11) (mvT hZ w_10) (by decide) (backOf (W := 0) (own_ng l Z a0 hw [] z50 aY aN aU h0 n0 S_YES S_NO S_UNKNOWN) hZ w_12 w_6 (by decide) (by decide)) qa5 qc5 (g := (mkF m 50 #[iv p0, iv p1, rv z4, iv hol, rv z21, iv (1 : Int32), .unset, .unset] [(.ref z50)])) rfl (by rw [hml]; rfl) (Steps.refl _) (argsL := []) (rest := []) (lenOf own_pd2 rfl) rfl (by show 2 * 0 + _ ≤ _; exact own_b rfl) (hb hby at_50) (fun _ _ => ⟨rfl, e4, (own_b rfl : 0 + 0 ≤ _), (own_b rfl : 0 + 0 ≤ _)⟩)
    dsimp only [Pt.U, Pt.locs, Pt.cells, Pt.slots] at X5 l5 y5 z5 st5 hQ5
    subst l5 y5 z5
    obtain ⟨rfl, Nq5, eq5⟩ := hQ5
    have N5 := Fr.app N4 Nq5
    have e5 : T5.heap = h0 := eq5
    refine own_tr (B := (T5.setTop (mkF m 53 #[iv p0, iv p1, rv z4, iv hol, rv z21, iv (1 : Int32), .unset, .unset] [(.ref (own_neg z50 aY aN aU))]))) st5 ?_
    obtain ⟨z53, hz53⟩ : ∃ z : Addr, z = (own_neg z50 aY aN aU) := ⟨_, rfl⟩
    rw [← hz53]
    refine own_go (B := (T5.setTop (mkF m 54 #[iv p0, iv p1, rv z4, iv hol, rv z21, iv (1 : Int32), .unset, .unset] [(.int hol), (.ref z53)]))) (fun t k => XS.iloadN X5.here hx rfl (hb hby at_53) rfl k) ?_
    refine own_if X5 hx (hb hby at_54) (pc' := 61) (pn := 57) (by decide) (by decide) rfl (fun (hc54 : ¬ hol = (0 : Int32)) => ?_) (fun (hc54 : hol = (0 : Int32)) => ?_)
    · refine own_go (B := (T5.setTop (mkF m 62 #[iv p0, iv p1, rv z4, iv hol, rv z21, iv (1 : Int32), .unset, .unset] [(.int (0 : Int32)), (.ref z53)]))) (fun t k => XS.iconst X5.here hx rfl (hb hby at_61) k) ?_
      obtain ⟨_, _, ⟨T6, L6, k6, n6⟩, -, X6, ⟨Lc6, hQ6, l6, y6, z6⟩, st6⟩ := Jvm.LawKit.callS X5 hx (y := own_y3) hown (mvT hZ w_16) (mvT hZ w_17) (mvT hZ w_6) (mvT hZ w_18) (by decide) (backOf (W := 1) (own_of l Z a0 hw [] (0 : Int32) aY aN h0 n0 S_YES S_NO) hZ w_18 w_6 (by decide) (by decide)) (g := (mkF m 62 #[iv p0, iv p1, rv z4, iv hol, rv z21, iv (1 : Int32), .unset, .unset] [(.int (0 : Int32)), (.ref z53)])) rfl (by rw [hml]; rfl) (argsL := [(.int (0 : Int32))]) (rest := [(.ref z53)]) (lenOf own_pd3 rfl) rfl (by show 2 * 0 + _ ≤ _; exact own_b rfl) (hb hby at_62) (fun _ _ => ⟨rfl, e5, (own_b rfl : 0 + 0 ≤ _), (own_b rfl : 0 + 0 ≤ _)⟩)
      dsimp only [Pt.U, Pt.locs, Pt.cells, Pt.slots] at X6 l6 y6 z6 st6 hQ6
      subst l6 y6 z6
      obtain ⟨rfl, Nq6, eq6⟩ := hQ6
      have N6 := Fr.app N5 Nq6
      have e6 : T6.heap = h0 := eq6
      refine own_go (B := (T6.setTop (mkF m 65 #[iv p0, iv p1, rv z4, iv hol, rv z21, iv (1 : Int32), .unset, .unset] [(.ref (own_off (0 : Int32) aY aN)), (.ref z53)]))) st6 ?_
      obtain ⟨z65, hz65⟩ : ∃ z : Addr, z = (own_off (0 : Int32) aY aN) := ⟨_, rfl⟩
      rw [← hz65]
      have hc65 : z53 = z65 := (own_cl1 n1 hz50 hz53 hz65 hc54)
      refine own_acmpAE X6 hx (hb hby at_65) (pc' := 68) (by decide) (by decide) hc65 ?_
      refine own_go (B := (T6.setTop (mkF m 69 #[iv p0, iv p1, rv z4, iv hol, rv z21, iv (1 : Int32), .unset, .unset] [(.int (1 : Int32))]))) (fun t k => XS.iconst X6.here hx rfl (hb hby at_68) k) ?_
      refine own_go (B := (T6.setTop (mkF m 73 #[iv p0, iv p1, rv z4, iv hol, rv z21, iv (1 : Int32), .unset, .unset] [(.int (1 : Int32))]))) (fun t k => XS.goto X6.here hx rfl (pc0 := 69) (pc' := 73) rfl (hb hby at_69) (by decide) (by decide) k) ?_
      refine own_go (B := (T6.setTop (mkF m 75 #[iv p0, iv p1, rv z4, iv hol, rv z21, iv (1 : Int32), iv (1 : Int32), .unset] []))) (fun t k => XS.istore X6.here hx rfl (hb hby at_73) rfl (l' := #[iv p0, iv p1, rv z4, iv hol, rv z21, iv (1 : Int32), iv (1 : Int32), .unset]) rfl k) ?_
      refine own_go (B := (T6.setTop (mkF m 76 #[iv p0, iv p1, rv z4, iv hol, rv z21, iv (1 : Int32), iv (1 : Int32), .unset] [(.ref z4)]))) (fun t k => XS.aloadN X6.here hx rfl (hb hby at_75) rfl rfl k) ?_
      obtain ⟨T7, X7, e7, st7⟩ := getS X6 hx hZ hown (host := "") w_19 Via.refl e6 S_UNKNOWN (g := (mkF m 76 #[iv p0, iv p1, rv z4, iv hol, rv z21, iv (1 : Int32), iv (1 : Int32), .unset] [(.ref z4)])) rfl (hb hby at_76)
      refine own_go (B := (T7.setTop (mkF m 79 #[iv p0, iv p1, rv z4, iv hol, rv z21, iv (1 : Int32), iv (1 : Int32), .unset] [(.ref aU), (.ref z4)]))) st7 ?_
      rcases Classical.em (z4 = aU) with hc79 | hc79
      · refine own_acmpAE X7 hx (hb hby at_79) (pc' := 82) (by decide) (by decide) hc79 ?_
        refine own_go (B := (T7.setTop (mkF m 83 #[iv p0, iv p1, rv z4, iv hol, rv z21, iv (1 : Int32), iv (1 : Int32), .unset] [(.int (1 : Int32))]))) (fun t k => XS.iconst X7.here hx rfl (hb hby at_82) k) ?_
        refine own_go (B := (T7.setTop (mkF m 87 #[iv p0, iv p1, rv z4, iv hol, rv z21, iv (1 : Int32), iv (1 : Int32), .unset] [(.int (1 : Int32))]))) (fun t k => XS.goto X7.here hx rfl (pc0 := 83) (pc' := 87) rfl (hb hby at_83) (by decide) (by decide) k) ?_
        refine own_go (B := (T7.setTop (mkF m 89 #[iv p0, iv p1, rv z4, iv hol, rv z21, iv (1 : Int32), iv (1 : Int32), .unset] [(.ref z21), (.int (1 : Int32))]))) (fun t k => XS.aload X7.here hx rfl (hb hby at_87) rfl rfl k) ?_
        obtain ⟨T8, X8, e8, st8⟩ := getS X7 hx hZ hown (host := "") w_19 Via.refl e7 S_UNKNOWN (g := (mkF m 89 #[iv p0, iv p1, rv z4, iv hol, rv z21, iv (1 : Int32), iv (1 : Int32), .unset] [(.ref z21), (.int (1 : Int32))])) rfl (hb hby at_89)
        refine own_go (B := (T8.setTop (mkF m 92 #[iv p0, iv p1, rv z4, iv hol, rv z21, iv (1 : Int32), iv (1 : Int32), .unset] [(.ref aU), (.ref z21), (.int (1 : Int32))]))) st8 ?_
        have hc92 : z21 = aU := (own_u1 n2 n3 hz21 hc79)
        refine own_acmpAE X8 hx (hb hby at_92) (pc' := 95) (by decide) (by decide) hc92 ?_
        refine own_go (B := (T8.setTop (mkF m 96 #[iv p0, iv p1, rv z4, iv hol, rv z21, iv (1 : Int32), iv (1 : Int32), .unset] [(.int (1 : Int32)), (.int (1 : Int32))]))) (fun t k => XS.iconst X8.here hx rfl (hb hby at_95) k) ?_
        refine own_go (B := (T8.setTop (mkF m 100 #[iv p0, iv p1, rv z4, iv hol, rv z21, iv (1 : Int32), iv (1 : Int32), .unset] [(.int (1 : Int32)), (.int (1 : Int32))]))) (fun t k => XS.goto X8.here hx rfl (pc0 := 96) (pc' := 100) rfl (hb hby at_96) (by decide) (by decide) k) ?_
        have hc100 : (1 : Int32) = (1 : Int32) := (by decide)
        refine own_icmpN X8 hx (hb hby at_100) (pn := 103) rfl hc100 ?_
        refine own_go (B := (T8.setTop (mkF m 104 #[iv p0, iv p1, rv z4, iv hol, rv z21, iv (1 : Int32), iv (1 : Int32), .unset] [(.int (1 : Int32))]))) (fun t k => XS.iconst X8.here hx rfl (hb hby at_103) k) ?_
        refine own_go (B := (T8.setTop (mkF m 108 #[iv p0, iv p1, rv z4, iv hol, rv z21, iv (1 : Int32), iv (1 : Int32), .unset] [(.int (1 : Int32))]))) (fun t k => XS.goto X8.here hx rfl (pc0 := 104) (pc' := 108) rfl (hb hby at_104) (by decide) (by decide) k) ?_
        refine own_go (B := (T8.setTop (mkF m 110 #[iv p0, iv p1, rv z4, iv hol, rv z21, iv (1 : Int32), iv (1 : Int32), iv (1 : Int32)] []))) (fun t k => XS.istore X8.here hx rfl (hb hby at_108) rfl (l' := #[iv p0, iv p1, rv z4, iv hol, rv z21, iv (1 : Int32), iv (1 : Int32), iv (1 : Int32)]) rfl k) ?_
        refine own_go (B := (T8.setTop (mkF m 112 #[iv p0, iv p1, rv z4, iv hol, rv z21, iv (1 : Int32), iv (1 : Int32), iv (1 : Int32)] [(.int (1 : Int32))]))) (fun t k => XS.iload X8.here hx rfl (hb hby at_110) rfl k) ?_
        have hc112 : ¬ (1 : Int32) = (0 : Int32) := (by decide)
        refine own_ifN X8 hx (hb hby at_112) (pn := 115) rfl hc112 ?_
        refine own_go (B := (T8.setTop (mkF m 117 #[iv p0, iv p1, rv z4, iv hol, rv z21, iv (1 : Int32), iv (1 : Int32), iv (1 : Int32)] [(.int (1 : Int32))]))) (fun t k => XS.iload X8.here hx rfl (hb hby at_115) rfl k) ?_
        have hc117 : ¬ (1 : Int32) = (0 : Int32) := (by decide)
        refine own_ifN X8 hx (hb hby at_117) (pn := 120) rfl hc117 ?_
        refine own_go (B := (T8.setTop (mkF m 122 #[iv p0, iv p1, rv z4, iv hol, rv z21, iv (1 : Int32), iv (1 : Int32), iv (1 : Int32)] [(.int (1 : Int32))]))) (fun t k => XS.iload X8.here hx rfl (hb hby at_120) rfl k) ?_
        have hc122 : ¬ (1 : Int32) = (0 : Int32) := (by decide)
        refine own_ifN X8 hx (hb hby at_122) (pn := 125) rfl hc122 ?_
        refine own_go (B := (T8.setTop (mkF m 126 #[iv p0, iv p1, rv z4, iv hol, rv z21, iv (1 : Int32), iv (1 : Int32), iv (1 : Int32)] [(.int (1 : Int32))]))) (fun t k => XS.iconst X8.here hx rfl (hb hby at_125) k) ?_
        refine own_go (B := (T8.setTop (mkF m 130 #[iv p0, iv p1, rv z4, iv hol, rv z21, iv (1 : Int32), iv (1 : Int32), iv (1 : Int32)] [(.int (1 : Int32))]))) (fun t k => XS.goto X8.here hx rfl (pc0 := 126) (pc' := 130) rfl (hb hby at_126) (by decide) (by decide) k) ?_
        exact own_retZ X8 hx hlk Bd.returns (hb hby at_130) (by decide) (own_b rfl) (own_b rfl) (Q := (own_law_Q Z p0 p1 aY aN aU h0 n0)) ⟨rfl, N6⟩
      · refine own_acmpAD X7 hx (hb hby at_79) (pc' := 86) (by decide) (by decide) hc79 ?_
        refine own_go (B := (T7.setTop (mkF m 87 #[iv p0, iv p1, rv z4, iv hol, rv z21, iv (1 : Int32), iv (1 : Int32), .unset] [(.int (0 : Int32))]))) (fun t k => XS.iconst X7.here hx rfl (hb hby at_86) k) ?_
        refine own_go (B := (T7.setTop (mkF m 89 #[iv p0, iv p1, rv z4, iv hol, rv z21, iv (1 : Int32), iv (1 : Int32), .unset] [(.ref z21), (.int (0 : Int32))]))) (fun t k => XS.aload X7.here hx rfl (hb hby at_87) rfl rfl k) ?_
        obtain ⟨T9, X9, e9, st9⟩ := getS X7 hx hZ hown (host := "") w_19 Via.refl e7 S_UNKNOWN (g := (mkF m 89 #[iv p0, iv p1, rv z4, iv hol, rv z21, iv (1 : Int32), iv (1 : Int32), .unset] [(.ref z21), (.int (0 : Int32))])) rfl (hb hby at_89)
        refine own_go (B := (T9.setTop (mkF m 92 #[iv p0, iv p1, rv z4, iv hol, rv z21, iv (1 : Int32), iv (1 : Int32), .unset] [(.ref aU), (.ref z21), (.int (0 : Int32))]))) st9 ?_
        have hc92 : ¬ z21 = aU := (own_u0 n2 n3 (own_pk3 hz4) hz21 hc79)
        refine own_acmpAD X9 hx (hb hby at_92) (pc' := 99) (by decide) (by decide) hc92 ?_
        refine own_go (B := (T9.setTop (mkF m 100 #[iv p0, iv p1, rv z4, iv hol, rv z21, iv (1 : Int32), iv (1 : Int32), .unset] [(.int (0 : Int32)), (.int (0 : Int32))]))) (fun t k => XS.iconst X9.here hx rfl (hb hby at_99) k) ?_
        have hc100 : (0 : Int32) = (0 : Int32) := (by decide)
        refine own_icmpN X9 hx (hb hby at_100) (pn := 103) rfl hc100 ?_
        refine own_go (B := (T9.setTop (mkF m 104 #[iv p0, iv p1, rv z4, iv hol, rv z21, iv (1 : Int32), iv (1 : Int32), .unset] [(.int (1 : Int32))]))) (fun t k => XS.iconst X9.here hx rfl (hb hby at_103) k) ?_
        refine own_go (B := (T9.setTop (mkF m 108 #[iv p0, iv p1, rv z4, iv hol, rv z21, iv (1 : Int32), iv (1 : Int32), .unset] [(.int (1 : Int32))]))) (fun t k => XS.goto X9.here hx rfl (pc0 := 104) (pc' := 108) rfl (hb hby at_104) (by decide) (by decide) k) ?_
        refine own_go (B := (T9.setTop (mkF m 110 #[iv p0, iv p1, rv z4, iv hol, rv z21, iv (1 : Int32), iv (1 : Int32), iv (1 : Int32)] []))) (fun t k => XS.istore X9.here hx rfl (hb hby at_108) rfl (l' := #[iv p0, iv p1, rv z4, iv hol, rv z21, iv (1 : Int32), iv (1 : Int32), iv (1 : Int32)]) rfl k) ?_
        refine own_go (B := (T9.setTop (mkF m 112 #[iv p0, iv p1, rv z4, iv hol, rv z21, iv (1 : Int32), iv (1 : Int32), iv (1 : Int32)] [(.int (1 : Int32))]))) (fun t k => XS.iload X9.here hx rfl (hb hby at_110) rfl k) ?_
        have hc112 : ¬ (1 : Int32) = (0 : Int32) := (by decide)
        refine own_ifN X9 hx (hb hby at_112) (pn := 115) rfl hc112 ?_
        refine own_go (B := (T9.setTop (mkF m 117 #[iv p0, iv p1, rv z4, iv hol, rv z21, iv (1 : Int32), iv (1 : Int32), iv (1 : Int32)] [(.int (1 : Int32))]))) (fun t k => XS.iload X9.here hx rfl (hb hby at_115) rfl k) ?_
        have hc117 : ¬ (1 : Int32) = (0 : Int32) := (by decide)
        refine own_ifN X9 hx (hb hby at_117) (pn := 120) rfl hc117 ?_
        refine own_go (B := (T9.setTop (mkF m 122 #[iv p0, iv p1, rv z4, iv hol, rv z21, iv (1 : Int32), iv (1 : Int32), iv (1 : Int32)] [(.int (1 : Int32))]))) (fun t k => XS.iload X9.here hx rfl (hb hby at_120) rfl k) ?_
        have hc122 : ¬ (1 : Int32) = (0 : Int32) := (by decide)
        refine own_ifN X9 hx (hb hby at_122) (pn := 125) rfl hc122 ?_
        refine own_go (B := (T9.setTop (mkF m 126 #[iv p0, iv p1, rv z4, iv hol, rv z21, iv (1 : Int32), iv (1 : Int32), iv (1 : Int32)] [(.int (1 : Int32))]))) (fun t k => XS.iconst X9.here hx rfl (hb hby at_125) k) ?_
        refine own_go (B := (T9.setTop (mkF m 130 #[iv p0, iv p1, rv z4, iv hol, rv z21, iv (1 : Int32), iv (1 : Int32), iv (1 : Int32)] [(.int (1 : Int32))]))) (fun t k => XS.goto X9.here hx rfl (pc0 := 126) (pc' := 130) rfl (hb hby at_126) (by decide) (by decide) k) ?_
        exact own_retZ X9 hx hlk Bd.returns (hb hby at_130) (by decide) (own_b rfl) (own_b rfl) (Q := (own_law_Q Z p0 p1 aY aN aU h0 n0)) ⟨rfl, N6⟩
    · refine own_go (B := (T5.setTop (mkF m 58 #[iv p0, iv p1, rv z4, iv hol, rv z21, iv (1 : Int32), .unset, .unset] [(.int (1 : Int32)), (.ref z53)]))) (fun t k => XS.iconst X5.here hx rfl (hb hby at_57) k) ?_
      refine own_go (B := (T5.setTop (mkF m 62 #[iv p0, iv p1, rv z4, iv hol, rv z21, iv (1 : Int32), .unset, .unset] [(.int (1 : Int32)), (.ref z53)]))) (fun t k => XS.goto X5.here hx rfl (pc0 := 58) (pc' := 62) rfl (hb hby at_58) (by decide) (by decide) k) ?_
      obtain ⟨_, _, ⟨T10, L10, k10, n10⟩, -, X10, ⟨Lc10, hQ10, l10, y10, z10⟩, st10⟩ := Jvm.LawKit.callS X5 hx (y := own_y3) hown (mvT hZ w_16) (mvT hZ w_17) (mvT hZ w_6) (mvT hZ w_18) (by decide) (backOf (W := 1) (own_of l Z a0 hw [] (1 : Int32) aY aN h0 n0 S_YES S_NO) hZ w_18 w_6 (by decide) (by decide)) (g := (mkF m 62 #[iv p0, iv p1, rv z4, iv hol, rv z21, iv (1 : Int32), .unset, .unset] [(.int (1 : Int32)), (.ref z53)])) rfl (by rw [hml]; rfl) (argsL := [(.int (1 : Int32))]) (rest := [(.ref z53)]) (lenOf own_pd3 rfl) rfl (by show 2 * 0 + _ ≤ _; exact own_b rfl) (hb hby at_62) (fun _ _ => ⟨rfl, e5, (own_b rfl : 0 + 0 ≤ _), (own_b rfl : 0 + 0 ≤ _)⟩)
      dsimp only [Pt.U, Pt.locs, Pt.cells, Pt.slots] at X10 l10 y10 z10 st10 hQ10
      subst l10 y10 z10
      obtain ⟨rfl, Nq10, eq10⟩ := hQ10
      have N10 := Fr.app N5 Nq10
      have e10 : T10.heap = h0 := eq10
      refine own_go (B := (T10.setTop (mkF m 65 #[iv p0, iv p1, rv z4, iv hol, rv z21, iv (1 : Int32), .unset, .unset] [(.ref (own_off (1 : Int32) aY aN)), (.ref z53)]))) st10 ?_
      obtain ⟨z65, hz65⟩ : ∃ z : Addr, z = (own_off (1 : Int32) aY aN) := ⟨_, rfl⟩
      rw [← hz65]
      have hc65 : z53 = z65 := (own_cl0 n1 hz50 hz53 hz65 hc54)
      refine own_acmpAE X10 hx (hb hby at_65) (pc' := 68) (by decide) (by decide) hc65 ?_
      refine own_go (B := (T10.setTop (mkF m 69 #[iv p0, iv p1, rv z4, iv hol, rv z21, iv (1 : Int32), .unset, .unset] [(.int (1 : Int32))]))) (fun t k => XS.iconst X10.here hx rfl (hb hby at_68) k) ?_
      refine own_go (B := (T10.setTop (mkF m 73 #[iv p0, iv p1, rv z4, iv hol, rv z21, iv (1 : Int32), .unset, .unset] [(.int (1 : Int32))]))) (fun t k => XS.goto X10.here hx rfl (pc0 := 69) (pc' := 73) rfl (hb hby at_69) (by decide) (by decide) k) ?_
      refine own_go (B := (T10.setTop (mkF m 75 #[iv p0, iv p1, rv z4, iv hol, rv z21, iv (1 : Int32), iv (1 : Int32), .unset] []))) (fun t k => XS.istore X10.here hx rfl (hb hby at_73) rfl (l' := #[iv p0, iv p1, rv z4, iv hol, rv z21, iv (1 : Int32), iv (1 : Int32), .unset]) rfl k) ?_
      refine own_go (B := (T10.setTop (mkF m 76 #[iv p0, iv p1, rv z4, iv hol, rv z21, iv (1 : Int32), iv (1 : Int32), .unset] [(.ref z4)]))) (fun t k => XS.aloadN X10.here hx rfl (hb hby at_75) rfl rfl k) ?_
      obtain ⟨T11, X11, e11, st11⟩ := getS X10 hx hZ hown (host := "") w_19 Via.refl e10 S_UNKNOWN (g := (mkF m 76 #[iv p0, iv p1, rv z4, iv hol, rv z21, iv (1 : Int32), iv (1 : Int32), .unset] [(.ref z4)])) rfl (hb hby at_76)
      refine own_go (B := (T11.setTop (mkF m 79 #[iv p0, iv p1, rv z4, iv hol, rv z21, iv (1 : Int32), iv (1 : Int32), .unset] [(.ref aU), (.ref z4)]))) st11 ?_
      rcases Classical.em (z4 = aU) with hc79 | hc79
      · refine own_acmpAE X11 hx (hb hby at_79) (pc' := 82) (by decide) (by decide) hc79 ?_
        refine own_go (B := (T11.setTop (mkF m 83 #[iv p0, iv p1, rv z4, iv hol, rv z21, iv (1 : Int32), iv (1 : Int32), .unset] [(.int (1 : Int32))]))) (fun t k => XS.iconst X11.here hx rfl (hb hby at_82) k) ?_
        refine own_go (B := (T11.setTop (mkF m 87 #[iv p0, iv p1, rv z4, iv hol, rv z21, iv (1 : Int32), iv (1 : Int32), .unset] [(.int (1 : Int32))]))) (fun t k => XS.goto X11.here hx rfl (pc0 := 83) (pc' := 87) rfl (hb hby at_83) (by decide) (by decide) k) ?_
        refine own_go (B := (T11.setTop (mkF m 89 #[iv p0, iv p1, rv z4, iv hol, rv z21, iv (1 : Int32), iv (1 : Int32), .unset] [(.ref z21), (.int (1 : Int32))]))) (fun t k => XS.aload X11.here hx rfl (hb hby at_87) rfl rfl k) ?_
        obtain ⟨T12, X12, e12, st12⟩ := getS X11 hx hZ hown (host := "") w_19 Via.refl e11 S_UNKNOWN (g := (mkF m 89 #[iv p0, iv p1, rv z4, iv hol, rv z21, iv (1 : Int32), iv (1 : Int32), .unset] [(.ref z21), (.int (1 : Int32))])) rfl (hb hby at_89)
        refine own_go (B := (T12.setTop (mkF m 92 #[iv p0, iv p1, rv z4, iv hol, rv z21, iv (1 : Int32), iv (1 : Int32), .unset] [(.ref aU), (.ref z21), (.int (1 : Int32))]))) st12 ?_
        have hc92 : z21 = aU := (own_u1 n2 n3 hz21 hc79)
        refine own_acmpAE X12 hx (hb hby at_92) (pc' := 95) (by decide) (by decide) hc92 ?_
        refine own_go (B := (T12.setTop (mkF m 96 #[iv p0, iv p1, rv z4, iv hol, rv z21, iv (1 : Int32), iv (1 : Int32), .unset] [(.int (1 : Int32)), (.int (1 : Int32))]))) (fun t k => XS.iconst X12.here hx rfl (hb hby at_95) k) ?_
        refine own_go (B := (T12.setTop (mkF m 100 #[iv p0, iv p1, rv z4, iv hol, rv z21, iv (1 : Int32), iv (1 : Int32), .unset] [(.int (1 : Int32)), (.int (1 : Int32))]))) (fun t k => XS.goto X12.here hx rfl (pc0 := 96) (pc' := 100) rfl (hb hby at_96) (by decide) (by decide) k) ?_
        have hc100 : (1 : Int32) = (1 : Int32) := (by decide)
        refine own_icmpN X12 hx (hb hby at_100) (pn := 103) rfl hc100 ?_
        refine own_go (B := (T12.setTop (mkF m 104 #[iv p0, iv p1, rv z4, iv hol, rv z21, iv (1 : Int32), iv (1 : Int32), .unset] [(.int (1 : Int32))]))) (fun t k => XS.iconst X12.here hx rfl (hb hby at_103) k) ?_
        refine own_go (B := (T12.setTop (mkF m 108 #[iv p0, iv p1, rv z4, iv hol, rv z21, iv (1 : Int32), iv (1 : Int32), .unset] [(.int (1 : Int32))]))) (fun t k => XS.goto X12.here hx rfl (pc0 := 104) (pc' := 108) rfl (hb hby at_104) (by decide) (by decide) k) ?_
        refine own_go (B := (T12.setTop (mkF m 110 #[iv p0, iv p1, rv z4, iv hol, rv z21, iv (1 : Int32), iv (1 : Int32), iv (1 : Int32)] []))) (fun t k => XS.istore X12.here hx rfl (hb hby at_108) rfl (l' := #[iv p0, iv p1, rv z4, iv hol, rv z21, iv (1 : Int32), iv (1 : Int32), iv (1 : Int32)]) rfl k) ?_
        refine own_go (B := (T12.setTop (mkF m 112 #[iv p0, iv p1, rv z4, iv hol, rv z21, iv (1 : Int32), iv (1 : Int32), iv (1 : Int32)] [(.int (1 : Int32))]))) (fun t k => XS.iload X12.here hx rfl (hb hby at_110) rfl k) ?_
        have hc112 : ¬ (1 : Int32) = (0 : Int32) := (by decide)
        refine own_ifN X12 hx (hb hby at_112) (pn := 115) rfl hc112 ?_
        refine own_go (B := (T12.setTop (mkF m 117 #[iv p0, iv p1, rv z4, iv hol, rv z21, iv (1 : Int32), iv (1 : Int32), iv (1 : Int32)] [(.int (1 : Int32))]))) (fun t k => XS.iload X12.here hx rfl (hb hby at_115) rfl k) ?_
        have hc117 : ¬ (1 : Int32) = (0 : Int32) := (by decide)
        refine own_ifN X12 hx (hb hby at_117) (pn := 120) rfl hc117 ?_
        refine own_go (B := (T12.setTop (mkF m 122 #[iv p0, iv p1, rv z4, iv hol, rv z21, iv (1 : Int32), iv (1 : Int32), iv (1 : Int32)] [(.int (1 : Int32))]))) (fun t k => XS.iload X12.here hx rfl (hb hby at_120) rfl k) ?_
        have hc122 : ¬ (1 : Int32) = (0 : Int32) := (by decide)
        refine own_ifN X12 hx (hb hby at_122) (pn := 125) rfl hc122 ?_
        refine own_go (B := (T12.setTop (mkF m 126 #[iv p0, iv p1, rv z4, iv hol, rv z21, iv (1 : Int32), iv (1 : Int32), iv (1 : Int32)] [(.int (1 : Int32))]))) (fun t k => XS.iconst X12.here hx rfl (hb hby at_125) k) ?_
        refine own_go (B := (T12.setTop (mkF m 130 #[iv p0, iv p1, rv z4, iv hol, rv z21, iv (1 : Int32), iv (1 : Int32), iv (1 : Int32)] [(.int (1 : Int32))]))) (fun t k => XS.goto X12.here hx rfl (pc0 := 126) (pc' := 130) rfl (hb hby at_126) (by decide) (by decide) k) ?_
        exact own_retZ X12 hx hlk Bd.returns (hb hby at_130) (by decide) (own_b rfl) (own_b rfl) (Q := (own_law_Q Z p0 p1 aY aN aU h0 n0)) ⟨rfl, N10⟩
      · refine own_acmpAD X11 hx (hb hby at_79) (pc' := 86) (by decide) (by decide) hc79 ?_
        refine own_go (B := (T11.setTop (mkF m 87 #[iv p0, iv p1, rv z4, iv hol, rv z21, iv (1 : Int32), iv (1 : Int32), .unset] [(.int (0 : Int32))]))) (fun t k => XS.iconst X11.here hx rfl (hb hby at_86) k) ?_
        refine own_go (B := (T11.setTop (mkF m 89 #[iv p0, iv p1, rv z4, iv hol, rv z21, iv (1 : Int32), iv (1 : Int32), .unset] [(.ref z21), (.int (0 : Int32))]))) (fun t k => XS.aload X11.here hx rfl (hb hby at_87) rfl rfl k) ?_
        obtain ⟨T13, X13, e13, st13⟩ := getS X11 hx hZ hown (host := "") w_19 Via.refl e11 S_UNKNOWN (g := (mkF m 89 #[iv p0, iv p1, rv z4, iv hol, rv z21, iv (1 : Int32), iv (1 : Int32), .unset] [(.ref z21), (.int (0 : Int32))])) rfl (hb hby at_89)
        refine own_go (B := (T13.setTop (mkF m 92 #[iv p0, iv p1, rv z4, iv hol, rv z21, iv (1 : Int32), iv (1 : Int32), .unset] [(.ref aU), (.ref z21), (.int (0 : Int32))]))) st13 ?_
        have hc92 : ¬ z21 = aU := (own_u0 n2 n3 (own_pk3 hz4) hz21 hc79)
        refine own_acmpAD X13 hx (hb hby at_92) (pc' := 99) (by decide) (by decide) hc92 ?_
        refine own_go (B := (T13.setTop (mkF m 100 #[iv p0, iv p1, rv z4, iv hol, rv z21, iv (1 : Int32), iv (1 : Int32), .unset] [(.int (0 : Int32)), (.int (0 : Int32))]))) (fun t k => XS.iconst X13.here hx rfl (hb hby at_99) k) ?_
        have hc100 : (0 : Int32) = (0 : Int32) := (by decide)
        refine own_icmpN X13 hx (hb hby at_100) (pn := 103) rfl hc100 ?_
        refine own_go (B := (T13.setTop (mkF m 104 #[iv p0, iv p1, rv z4, iv hol, rv z21, iv (1 : Int32), iv (1 : Int32), .unset] [(.int (1 : Int32))]))) (fun t k => XS.iconst X13.here hx rfl (hb hby at_103) k) ?_
        refine own_go (B := (T13.setTop (mkF m 108 #[iv p0, iv p1, rv z4, iv hol, rv z21, iv (1 : Int32), iv (1 : Int32), .unset] [(.int (1 : Int32))]))) (fun t k => XS.goto X13.here hx rfl (pc0 := 104) (pc' := 108) rfl (hb hby at_104) (by decide) (by decide) k) ?_
        refine own_go (B := (T13.setTop (mkF m 110 #[iv p0, iv p1, rv z4, iv hol, rv z21, iv (1 : Int32), iv (1 : Int32), iv (1 : Int32)] []))) (fun t k => XS.istore X13.here hx rfl (hb hby at_108) rfl (l' := #[iv p0, iv p1, rv z4, iv hol, rv z21, iv (1 : Int32), iv (1 : Int32), iv (1 : Int32)]) rfl k) ?_
        refine own_go (B := (T13.setTop (mkF m 112 #[iv p0, iv p1, rv z4, iv hol, rv z21, iv (1 : Int32), iv (1 : Int32), iv (1 : Int32)] [(.int (1 : Int32))]))) (fun t k => XS.iload X13.here hx rfl (hb hby at_110) rfl k) ?_
        have hc112 : ¬ (1 : Int32) = (0 : Int32) := (by decide)
        refine own_ifN X13 hx (hb hby at_112) (pn := 115) rfl hc112 ?_
        refine own_go (B := (T13.setTop (mkF m 117 #[iv p0, iv p1, rv z4, iv hol, rv z21, iv (1 : Int32), iv (1 : Int32), iv (1 : Int32)] [(.int (1 : Int32))]))) (fun t k => XS.iload X13.here hx rfl (hb hby at_115) rfl k) ?_
        have hc117 : ¬ (1 : Int32) = (0 : Int32) := (by decide)
        refine own_ifN X13 hx (hb hby at_117) (pn := 120) rfl hc117 ?_
        refine own_go (B := (T13.setTop (mkF m 122 #[iv p0, iv p1, rv z4, iv hol, rv z21, iv (1 : Int32), iv (1 : Int32), iv (1 : Int32)] [(.int (1 : Int32))]))) (fun t k => XS.iload X13.here hx rfl (hb hby at_120) rfl k) ?_
        have hc122 : ¬ (1 : Int32) = (0 : Int32) := (by decide)
        refine own_ifN X13 hx (hb hby at_122) (pn := 125) rfl hc122 ?_
        refine own_go (B := (T13.setTop (mkF m 126 #[iv p0, iv p1, rv z4, iv hol, rv z21, iv (1 : Int32), iv (1 : Int32), iv (1 : Int32)] [(.int (1 : Int32))]))) (fun t k => XS.iconst X13.here hx rfl (hb hby at_125) k) ?_
        refine own_go (B := (T13.setTop (mkF m 130 #[iv p0, iv p1, rv z4, iv hol, rv z21, iv (1 : Int32), iv (1 : Int32), iv (1 : Int32)] [(.int (1 : Int32))]))) (fun t k => XS.goto X13.here hx rfl (pc0 := 126) (pc' := 130) rfl (hb hby at_126) (by decide) (by decide) k) ?_
        exact own_retZ X13 hx hlk Bd.returns (hb hby at_130) (by decide) (own_b rfl) (own_b rfl) (Q := (own_law_Q Z p0 p1 aY aN aU h0 n0)) ⟨rfl, N10⟩
  refine own_go (B := (T1.setTop (mkF m 6 #[iv p0, iv p1, rv z4, .unset, .unset, .unset, .unset, .unset] [(.int p1)]))) (fun t k => XS.iloadN X1.here hx rfl (hb hby at_5) rfl k) ?_
  refine own_go (B := (T1.setTop (mkF m 7 #[iv p0, iv p1, rv z4, .unset, .unset, .unset, .unset, .unset] [(.int (1 : Int32)), (.int p1)]))) (fun t k => XS.iconst X1.here hx rfl (hb hby at_6) k) ?_
  refine own_go (B := (T1.setTop (mkF m 8 #[iv p0, iv p1, rv z4, .unset, .unset, .unset, .unset, .unset] [(.int (p1 &&& (1 : Int32)))]))) (fun t k => XS.iand X1.here hx rfl (hb hby at_7) rfl k) ?_
  refine own_if X1 hx (hb hby at_8) (pc' := 15) (pn := 11) (by decide) (by decide) rfl (fun (hc8 : (p1 &&& (1 : Int32)) = (0 : Int32)) => ?_) (fun (hc8 : ¬ (p1 &&& (1 : Int32)) = (0 : Int32)) => ?_)
  · refine own_go (B := (T1.setTop (mkF m 16 #[iv p0, iv p1, rv z4, .unset, .unset, .unset, .unset, .unset] [(.int (0 : Int32))]))) (fun t k => XS.iconst X1.here hx rfl (hb hby at_15) k) ?_
    refine own_go (B := (T1.setTop (mkF m 17 #[iv p0, iv p1, rv z4, iv (0 : Int32), .unset, .unset, .unset, .unset] []))) (fun t k => XS.istoreN X1.here hx rfl (hb hby at_16) rfl (l' := #[iv p0, iv p1, rv z4, iv (0 : Int32), .unset, .unset, .unset, .unset]) rfl k) ?_
    exact J17 _
  · refine own_go (B := (T1.setTop (mkF m 12 #[iv p0, iv p1, rv z4, .unset, .unset, .unset, .unset, .unset] [(.int (1 : Int32))]))) (fun t k => XS.iconst X1.here hx rfl (hb hby at_11) k) ?_
    refine own_go (B := (T1.setTop (mkF m 16 #[iv p0, iv p1, rv z4, .unset, .unset, .unset, .unset, .unset] [(.int (1 : Int32))]))) (fun t k => XS.goto X1.here hx rfl (pc0 := 12) (pc' := 16) rfl (hb hby at_12) (by decide) (by decide) k) ?_
    refine own_go (B := (T1.setTop (mkF m 17 #[iv p0, iv p1, rv z4, iv (1 : Int32), .unset, .unset, .unset, .unset] []))) (fun t k => XS.istoreN X1.here hx rfl (hb hby at_16) rfl (l' := #[iv p0, iv p1, rv z4, iv (1 : Int32), .unset, .unset, .unset, .unset]) rfl k) ?_
    exact J17 _

set_option maxRecDepth 65536 in
set_option maxHeartbeats 40000000 in
theorem own_comes {Post : Tables → Env → Array Value → State → Outcome → State → Prop} (hpost : ∀ tb e args s v u, (limb_1_1.after args s (.returned v) u = true ∧ limb_1_2.after args s (.returned v) u = true ∧ True) → FrameEnd s (.returned v) u (Jvm.fieldLocs frame_1_writes args s ++ Jvm.arrayLocs frame_1_arrays args s ++ Jvm.staticLocs frame_1_statics s) 0 0 → Post tb e args s (.returned v) u) :
    ArmFor flags0 classFile x code maxLocals ret World_1 tables_1 room_1 Calls_1 rest_1 Pre_1 Post := by
  intro l hfl _ _ p e ha hc hk s m args below hf hA hF happ hP
  obtain ⟨hcalls, hrest, hpre⟩ := hP
  obtain ⟨-, -, -, hnamed, -, -, -, hat⟩ := (Spec.applies_iff hf).mp happ
  obtain ⟨hg, hn⟩ := and_e (Cond.before_iff.mp (show (Jvm.Cond.and given_1 narrow_1).before args s = true from hpre))
  obtain ⟨g0, r0⟩ := and_e hg
  obtain ⟨g1, r1⟩ := and_e r0
  obtain ⟨w0, w1, rfl⟩ : ∃ w0 w1 : Value, args = #[w0, w1] := by
    have hs : args.size = 2 := by simpa [Cond.value, given_1] using g0
    obtain ⟨L⟩ := args
    match L, hs with
    | [w0, w1], _ => exact ⟨w0, w1, rfl⟩
  have hw := fun d (hd : d ∈ tables_1) => atoms_spec (ws := Jvm.Cond.code x code maxLocals ret :: tables_1) hat d (List.mem_cons_of_mem _ hd)
  have hfit : Fit s := fun {y c} hc i hi => by
    obtain ⟨ha, rfl⟩ := Array.getElem?_eq_some_iff.mp hc
    have q := List.all_eq_true.mp ((Array.all_eq_true_iff_forall_mem.mp hF) _ (Array.getElem_mem ha)) i (List.mem_range.mpr hi)
    simpa [Array.getElem?_eq_getElem hi] using q
  obtain ⟨i0, e0⟩ := is_v g1
  obtain rfl : w0 = (.int i0) := Option.some.inj e0
  obtain ⟨i1, e1⟩ := is_v r1
  obtain rfl : w1 = (.int i1) := Option.some.inj e1
  have w_6 := hw _ (List.mem_of_getElem? (l := tables_1) (i := 6) rfl)
  have w_7 := hw _ (List.mem_of_getElem? (l := tables_1) (i := 7) rfl)
  have w_15 := hw _ (List.mem_of_getElem? (l := tables_1) (i := 15) rfl)
  have w_20 := hw _ (List.mem_of_getElem? (l := tables_1) (i := 20) rfl)
  obtain ⟨nn0, nr0⟩ := and_e hn
  obtain ⟨nn1, nr1⟩ := and_e nr0
  obtain ⟨nn2, nr2⟩ := and_e nr1
  obtain ⟨nn3, nr3⟩ := and_e nr2
  obtain ⟨nn4, nr4⟩ := and_e nr3
  obtain ⟨a_YES, ev_YES⟩ := exa_v nn0
  have E_YES : Exa s s.heap a_YES "com/example/parts_to_policy/partstopolicy/model/Match" := Exa.start ev_YES nn0
  have S_YES : Sta s s.heap "com/example/parts_to_policy/partstopolicy/model/Match" "YES" "Lcom/example/parts_to_policy/partstopolicy/model/Match;" (.ref a_YES) := Sta.start ev_YES (Or.inr ⟨w_6, w_7⟩)
  obtain ⟨a_NO, ev_NO⟩ := exa_v nn1
  have E_NO : Exa s s.heap a_NO "com/example/parts_to_policy/partstopolicy/model/Match" := Exa.start ev_NO nn1
  have S_NO : Sta s s.heap "com/example/parts_to_policy/partstopolicy/model/Match" "NO" "Lcom/example/parts_to_policy/partstopolicy/model/Match;" (.ref a_NO) := Sta.start ev_NO (Or.inr ⟨w_6, w_15⟩)
  obtain ⟨a_UNKNOWN, ev_UNKNOWN⟩ := exa_v nn4
  have E_UNKNOWN : Exa s s.heap a_UNKNOWN "com/example/parts_to_policy/partstopolicy/model/Match" := Exa.start ev_UNKNOWN nn4
  have S_UNKNOWN : Sta s s.heap "com/example/parts_to_policy/partstopolicy/model/Match" "UNKNOWN" "Lcom/example/parts_to_policy/partstopolicy/model/Match;" (.ref a_UNKNOWN) := Sta.start ev_UNKNOWN (Or.inr ⟨w_6, w_20⟩)
  have F_NO_ordinal : Fld s s.heap a_NO "java/lang/Enum" "ordinal" "I" (.int (1 : Int32)) := Fld.start ((fld_at ev_NO).symm.trans (own_eqint nn2))
  have F_YES_ordinal : Fld s s.heap a_YES "java/lang/Enum" "ordinal" "I" (.int (0 : Int32)) := Fld.start ((fld_at ev_YES).symm.trans (own_eqint nn3))
  have F_UNKNOWN_ordinal : Fld s s.heap a_UNKNOWN "java/lang/Enum" "ordinal" "I" (.int (2 : Int32)) := Fld.start ((fld_at ev_UNKNOWN).symm.trans (own_eqint nr4))
  have n1 := Fld.ne F_YES_ordinal F_NO_ordinal (by decide)
  have n2 := Fld.ne F_YES_ordinal F_UNKNOWN_ordinal (by decide)
  have n3 := Fld.ne F_NO_ordinal F_UNKNOWN_ordinal (by decide)
  obtain ⟨n, o, h1, h2, h3, _, L, rfl, ⟨rfl, N⟩, hq⟩ := own_law l s _ hw tables_1 i0 i1 a_YES a_NO a_UNKNOWN s.heap s.heap.size S_YES E_YES S_NO E_NO S_UNKNOWN E_UNKNOWN n1 n2 n3 p e ha hc hk s m _ below hf ((Spec.applies_iff_loose hf).mp happ).1 ⟨rfl, State.Warmed39.refl s, rfl⟩ trivial
  refine ⟨n, _, h1, h2, h3, hpost _ _ _ _ _ _ ⟨Cond.after_iff.mpr rfl, Cond.after_iff.mpr (eq_i res_at (Term.int_eval (1)) rfl), trivial⟩ ⟨hq.1, hq.2.1, (hq.2.2.sift fun y hy => Or.inr (N y hy)).mono (by decide) (by decide)⟩⟩
theorem main_1_1 : Claimed_1_1 := own_comes fun _ _ _ _ _ _ h hF => ⟨h.1, hF⟩
theorem main_1_2 : Claimed_1_2 := own_comes fun _ _ _ _ _ _ h hF => ⟨h.2.1, hF⟩
end Jvm.Pilot.@@N@@
namespace Jvm.Pilot.@@N@@
open Jvm Jvm.ClassFile Sem Op Lib Jvm.Free Jvm.Stand Jvm.Pilot.@@N@@.Jvm.D
/-! MADE BY PROGRAM (witnessworld.py) out of the Statement's table words and the real class files: 12 classes; the members and pool entries that the words name. The judged class is class 1, her method 2. -/
namespace start1
open Jvm.ClassFile
def u (s : String) : CpInfo := .utf8 (stringToUtf16 s)
/-- a pool by its gaps: so many unusable entries, then the entry; so many at the end -/
def gap : Nat → List CpInfo → List CpInfo
  | 0, r => r
  | n + 1, r => .unusable :: gap n r
def poolList (es : List (Nat × CpInfo)) (last : Nat) : List CpInfo := es.foldr (fun e r => gap e.1 (e.2 :: r)) (gap last [])
def pool (es : List (Nat × CpInfo)) (last : Nat) : Array CpInfo := ⟨poolList es last⟩
def fileOf (pool : Array CpInfo) (this : Nat) (attrs : Array Attribute := #[]) (ms : Array MethodInfo := #[]) (fl : Nat := 33) (sup : Nat := 0) (ifs : Array Nat := #[]) (fds : Array FieldInfo := #[]) : ClassFile where
  minorVersion := 0
  majorVersion := 65
  constantPool := pool
  accessFlags := fl
  thisClass := this
  superClass := sup
  interfaces := ifs
  fields := fds
  methods := ms
  attributes := attrs
def plain (name : String) (sup : Option ClassId) : Class where
  name := name
  kind := .ordinary
  loader := none
  accessFlags := 33
  super := sup
  interfaces := #[]
  cf := none
  fields := #[]
  methods := #[]
  instanceTypes := #[]
  staticTypes := #[]
  resolved := #[]
  callSites := []
  init := .initialized
  statics := none
  mirror := none

def pool0 : Array CpInfo := pool [(5, u "<init>"), (0, u "()V"), (1, .class_ 10), (1, u "java/lang/Object")] 113

def k0m0 : Method := { name := "<init>", desc := "()V", sig := { parameters := [], returnType := none }, accessFlags := 1, code := none }
/-- java/lang/Object -/
def k0 : Class := { plain "java/lang/Object" none with
  accessFlags := 33
  interfaces := #[]
  cf := some (fileOf pool0 8 #[] #[{ accessFlags := 1, nameIndex := 5, descriptorIndex := 6, attributes := #[] }] 33 0 #[] #[])
  fields := #[]
  methods := #[k0m0]
  instanceTypes := #[]
  staticTypes := #[]
  resolved := Array.replicate 124 none
  statics := none }

def pool1 : Array CpInfo := pool [(2, .class_ 4), (1, u "java/lang/Object"), (0, u "<init>"), (0, u "()V"), (0, .integer 2147483647), (0, .fieldref 9 10), (0, .class_ 11), (0, .nameAndType 12 13), (0, u "com/example/parts_to_policy/partstopolicy/model/Match"), (0, u "YES"), (0, u "Lcom/example/parts_to_policy/partstopolicy/model/Match;"), (0, .fieldref 9 15), (0, .nameAndType 16 13), (0, u "NO"), (0, .fieldref 9 18), (0, .nameAndType 19 13), (0, u "UNKNOWN"), (0, .methodref 21 22), (0, .class_ 23), (0, .nameAndType 24 25), (0, u "com/example/parts_to_policy/partstopolicy/model/MatchNegatePinLaw"), (0, u "pick"), (0, u "(I)Lcom/example/parts_to_policy/partstopolicy/model/Match;"), (0, .methodref 9 27), (0, .nameAndType 28 29), (0, u "negate"), (0, u "()Lcom/example/parts_to_policy/partstopolicy/model/Match;"), (0, .methodref 9 31), (0, .nameAndType 32 33), (0, u "of"), (0, u "(Z)Lcom/example/parts_to_policy/partstopolicy/model/Match;"), (3, u "law"), (0, u "(II)Z")] 2

def k1m0 : Method := { name := "<init>", desc := "()V", sig := { parameters := [], returnType := none }, accessFlags := 2, code := none }
def k1c1 : Code := { maxStack := 2, maxLocals := 2, code := method_2_code, exceptionTable := #[], attributes := #[] }
def k1m1 : Method := { name := "pick", desc := "(I)Lcom/example/parts_to_policy/partstopolicy/model/Match;", sig := { parameters := [.int], returnType := some (.object "com/example/parts_to_policy/partstopolicy/model/Match") }, accessFlags := 10, code := some k1c1 }
def k1c2 : Code := { maxStack := 3, maxLocals := 8, code := code, exceptionTable := #[], attributes := #[] }
def k1m2 : Method := { name := "law", desc := "(II)Z", sig := { parameters := [.int, .int], returnType := some .boolean }, accessFlags := 9, code := some k1c2 }
/-- com/example/parts_to_policy/partstopolicy/model/MatchNegatePinLaw -/
def k1 : Class := { plain "com/example/parts_to_policy/partstopolicy/model/MatchNegatePinLaw" (some 0) with
  accessFlags := 49
  interfaces := #[]
  cf := some (fileOf pool1 21 #[] #[{ accessFlags := 2, nameIndex := 5, descriptorIndex := 6, attributes := #[] }, { accessFlags := 10, nameIndex := 24, descriptorIndex := 25, attributes := #[] }, { accessFlags := 9, nameIndex := 37, descriptorIndex := 38, attributes := #[] }] 49 2 #[] #[])
  fields := #[]
  methods := #[k1m0, k1m1, k1m2]
  instanceTypes := #[]
  staticTypes := #[]
  resolved := Array.replicate 41 none
  statics := none }

def pool2 : Array CpInfo := pool [(1, .class_ 2), (0, u "java/lang/constant/Constable"), (0, .class_ 4), (0, u "java/lang/Object")] 6

/-- java/lang/constant/Constable -/
def k2 : Class := { plain "java/lang/constant/Constable" (some 0) with
  accessFlags := 1537
  interfaces := #[]
  cf := some (fileOf pool2 1 #[] #[] 1537 3 #[] #[])
  fields := #[]
  methods := #[]
  instanceTypes := #[]
  staticTypes := #[]
  resolved := Array.replicate 11 none
  statics := none }

def pool3 : Array CpInfo := pool [(1, .class_ 2), (0, u "java/lang/Comparable"), (0, .class_ 4), (0, u "java/lang/Object")] 7

/-- java/lang/Comparable -/
def k3 : Class := { plain "java/lang/Comparable" (some 0) with
  accessFlags := 1537
  interfaces := #[]
  cf := some (fileOf pool3 1 #[] #[] 1537 3 #[] #[])
  fields := #[]
  methods := #[]
  instanceTypes := #[]
  staticTypes := #[]
  resolved := Array.replicate 12 none
  statics := none }

def pool4 : Array CpInfo := pool [(1, .class_ 2), (0, u "java/io/Serializable"), (0, .class_ 4), (0, u "java/lang/Object")] 2

/-- java/io/Serializable -/
def k4 : Class := { plain "java/io/Serializable" (some 0) with
  accessFlags := 1537
  interfaces := #[]
  cf := some (fileOf pool4 1 #[] #[] 1537 3 #[] #[])
  fields := #[]
  methods := #[]
  instanceTypes := #[]
  staticTypes := #[]
  resolved := Array.replicate 7 none
  statics := none }

def pool5 : Array CpInfo := pool [(2, .class_ 4), (1, u "java/lang/Enum"), (0, u "name"), (0, u "Ljava/lang/String;"), (2, u "ordinal"), (0, u "I"), (1, .class_ 14), (1, u "java/lang/Object"), (4, u "hash"), (86, .class_ 108), (1, u "java/lang/Enum$EnumDesc"), (2, .class_ 112), (0, u "java/lang/constant/Constable"), (0, .class_ 114), (0, u "java/lang/Comparable"), (0, .class_ 116), (0, u "java/io/Serializable")] 87

/-- java/lang/Enum -/
def k5 : Class := { plain "java/lang/Enum" (some 0) with
  accessFlags := 1057
  interfaces := #[2, 3, 4]
  cf := some (fileOf pool5 2 #[.nestMembers #[106]] #[] 1057 12 #[111, 113, 115] #[{ accessFlags := 18, nameIndex := 5, descriptorIndex := 6, attributes := #[] }, { accessFlags := 18, nameIndex := 9, descriptorIndex := 10, attributes := #[] }, { accessFlags := 2, nameIndex := 19, descriptorIndex := 10, attributes := #[] }])
  fields := #[{ name := "name", type := (.object "java/lang/String"), accessFlags := 18, slot := 0, constantValue := 0 }, { name := "ordinal", type := .int, accessFlags := 18, slot := 1, constantValue := 0 }, { name := "hash", type := .int, accessFlags := 2, slot := 2, constantValue := 0 }]
  methods := #[]
  instanceTypes := #[(.object "java/lang/String"), .int, .int]
  staticTypes := #[]
  resolved := Array.replicate 204 none
  statics := none }

def pool6 : Array CpInfo := pool [(1, .class_ 2), (0, u "com/example/parts_to_policy/partstopolicy/model/Match"), (0, .fieldref 1 4), (0, .nameAndType 5 6), (0, u "YES"), (0, u "Lcom/example/parts_to_policy/partstopolicy/model/Match;"), (0, .fieldref 1 8), (0, .nameAndType 9 6), (0, u "NO"), (0, .fieldref 1 11), (0, .nameAndType 12 6), (0, u "UNKNOWN"), (2, u "$VALUES"), (0, u "[Lcom/example/parts_to_policy/partstopolicy/model/Match;"), (6, .class_ 25), (1, u "java/lang/Enum"), (21, u "of"), (0, u "(Z)Lcom/example/parts_to_policy/partstopolicy/model/Match;"), (1, u "negate"), (0, u "()Lcom/example/parts_to_policy/partstopolicy/model/Match;")] 4

def k6c0 : Code := { maxStack := 1, maxLocals := 1, code := prog_73_method_4_code, exceptionTable := #[], attributes := #[] }
def k6m0 : Method := { name := "of", desc := "(Z)Lcom/example/parts_to_policy/partstopolicy/model/Match;", sig := { parameters := [.boolean], returnType := some (.object "com/example/parts_to_policy/partstopolicy/model/Match") }, accessFlags := 9, code := some k6c0 }
def k6c1 : Code := { maxStack := 2, maxLocals := 2, code := prog_73_method_5_code, exceptionTable := #[], attributes := #[] }
def k6m1 : Method := { name := "negate", desc := "()Lcom/example/parts_to_policy/partstopolicy/model/Match;", sig := { parameters := [], returnType := some (.object "com/example/parts_to_policy/partstopolicy/model/Match") }, accessFlags := 1, code := some k6c1 }
/-- com/example/parts_to_policy/partstopolicy/model/Match -/
def k6 : Class := { plain "com/example/parts_to_policy/partstopolicy/model/Match" (some 5) with
  accessFlags := 16433
  interfaces := #[]
  cf := some (fileOf pool6 1 #[] #[{ accessFlags := 9, nameIndex := 47, descriptorIndex := 48, attributes := #[] }, { accessFlags := 1, nameIndex := 50, descriptorIndex := 51, attributes := #[] }] 16433 23 #[] #[{ accessFlags := 16409, nameIndex := 5, descriptorIndex := 6, attributes := #[] }, { accessFlags := 16409, nameIndex := 9, descriptorIndex := 6, attributes := #[] }, { accessFlags := 16409, nameIndex := 12, descriptorIndex := 6, attributes := #[] }, { accessFlags := 4122, nameIndex := 15, descriptorIndex := 16, attributes := #[] }])
  fields := #[{ name := "YES", type := (.object "com/example/parts_to_policy/partstopolicy/model/Match"), accessFlags := 16409, slot := 0, constantValue := 0 }, { name := "NO", type := (.object "com/example/parts_to_policy/partstopolicy/model/Match"), accessFlags := 16409, slot := 1, constantValue := 0 }, { name := "UNKNOWN", type := (.object "com/example/parts_to_policy/partstopolicy/model/Match"), accessFlags := 16409, slot := 2, constantValue := 0 }, { name := "$VALUES", type := (.array (.object "com/example/parts_to_policy/partstopolicy/model/Match")), accessFlags := 4122, slot := 3, constantValue := 0 }]
  methods := #[k6m0, k6m1]
  instanceTypes := #[(.object "java/lang/String"), .int, .int]
  staticTypes := #[(.object "com/example/parts_to_policy/partstopolicy/model/Match"), (.object "com/example/parts_to_policy/partstopolicy/model/Match"), (.object "com/example/parts_to_policy/partstopolicy/model/Match"), (.array (.object "com/example/parts_to_policy/partstopolicy/model/Match"))]
  resolved := Array.replicate 56 none
  statics := some 0 }

def pool7 : Array CpInfo := pool [(1, u "java/lang/Cloneable"), (0, .class_ 1), (0, u "java/lang/Object"), (0, .class_ 3)] 3

/-- java/lang/Cloneable -/
def k7 : Class := { plain "java/lang/Cloneable" (some 0) with
  accessFlags := 1537
  interfaces := #[]
  cf := some (fileOf pool7 2 #[] #[] 1537 4 #[] #[])
  fields := #[]
  methods := #[]
  instanceTypes := #[]
  staticTypes := #[]
  resolved := Array.replicate 8 none
  statics := none }

/-- the primitive byte -/
def k8 : Class := { plain "byte" none with kind := .primitive 'B', accessFlags := 0x411 }
/-- [B -/
def k9 : Class := { plain "[B" (some 0) with kind := .array 8 .byte, interfaces := #[7, 4], accessFlags := 1041 }

/-- the primitive int -/
def k10 : Class := { plain "int" none with kind := .primitive 'I', accessFlags := 0x411 }
/-- [I -/
def k11 : Class := { plain "[I" (some 0) with kind := .array 10 .int, interfaces := #[7, 4], accessFlags := 1041 }

def heap : Heap := #[{ cls := 6, slots := #[.ref 1, .ref 2, .ref 3, .null], vm := .statics 6 },
  { cls := 6, slots := #[.null, .int 0, .int 0], vm := .none },
  { cls := 6, slots := #[.null, .int 1, .int 0], vm := .none },
  { cls := 6, slots := #[.null, .int 2, .int 0], vm := .none }]
def classes : Array Class := #[k0, k1, k2, k3, k4, k5, k6, k7, k8, k9, k10, k11]
def interned : List (Array UInt16 × Addr) := []
def slotsUsed : Nat := 13
def theMethod : MethodId := ⟨1, 2⟩
def args0 : Array Value := #[.int 5, .int 300]
def aboutOver (below : List Frame) : State where
  vm := { classes := classes, interned := interned.toArray }
  heap := heap
  slotsUsed := slotsUsed
  threads := #[{ frames := .invoking theMethod args0 :: below }]
def below0 : List Frame := [.native { method := ⟨0, 0⟩, args := #[] }]
def about1 : State := aboutOver below0
def p0 : Program := .bare "" "" ""
def e0 : Env := launch0.env 0 0 0
theorem w_frames : about1.frames = Frame.invoking theMethod args0 :: below0 := rfl
set_option maxRecDepth 65536 in
theorem w_args : argsFit about1.vm theMethod args0 = true := by decide +kernel
set_option maxRecDepth 65536 in
theorem w_heap : heapFits about1 = true := by decide +kernel
set_option maxRecDepth 65536 in
theorem w_runnable : about1.curStatus? = some .runnable := by decide +kernel
set_option maxRecDepth 65536 in
theorem w_alone : about1.alone = true := by decide +kernel
set_option maxRecDepth 65536 in
theorem w_named : about1.methodNamed? x = some theMethod := by decide +kernel
set_option maxRecDepth 65536 in
theorem w_hears : about1.hears theMethod below0 = true := by decide +kernel
set_option maxRecDepth 65536 in
theorem w_ripe : about1.ripe theMethod args0 below0 = true := by decide +kernel
theorem w_running : about1.status = .running := rfl
set_option maxRecDepth 65536 in
theorem w_room : about1.hasRoom e0.platform room_1 = true :=
  launch0.hasRoom_least _ room_1 (by decide +kernel) (by decide +kernel) (by decide +kernel) (by decide +kernel) (by decide +kernel) (by decide +kernel)
theorem allAtoms_all (ts : List Jvm.Cond) (a : Array Jvm.Value) (st : Jvm.State) : (allAtoms ts).before a st = ts.all (fun c => c.before a st) := by
  induction ts with
  | nil => rfl
  | cons c t ih =>
    show (Jvm.Cond.and c (allAtoms t)).before a st = _
    rw [Jvm.Cond.before_and, ih, List.all_cons]
def words1 : List Jvm.Cond := Jvm.Cond.code x code maxLocals ret :: tables_1
/-- a 'code' word, met by the world's own term for the bytes: nothing is compared byte by byte -/
theorem code_word {y : MethodName} {bytes : ByteArray} {mx : Nat} {rt : Option FieldType} {a : Array Value} {s : State} {m : MethodId} {meth : Method} {c : Code} (h1 : s.methodNamed? y = some m) (h2 : s.vm.method? m = some meth) (h3 : meth.code = some c) (h4 : c.code = bytes)
    (h5 : (c.maxLocals == mx && c.exceptionTable.isEmpty && decide (c.maxStack ≤ mostOperands) && decide (meth.sig.returnType = rt) && !meth.locks && decide (parseMethodDescriptor y.desc = some meth.sig)) = true) : (Jvm.Cond.code y bytes mx rt).before a s = true := by
  simp only [Bool.and_eq_true, beq_iff_eq, Bool.not_eq_true', decide_eq_true_eq] at h5
  obtain ⟨⟨⟨⟨⟨g1, g2⟩, g3⟩, g4⟩, g5⟩, g6⟩ := h5
  simp [Cond.before, Cond.holds, Cond.value, h1, h2, h3, h4, g1, g2, g3, g4, g5, g6]
def isCode : Jvm.Cond → Bool
  | .code _ _ _ _ => true
  | _ => false
theorem all_split {L : List Jvm.Cond} {P : Jvm.Cond → Bool} (h1 : L.all (fun c => isCode c || P c) = true) (h2 : ∀ c ∈ L.filter isCode, P c = true) : L.all P = true := by
  refine List.all_eq_true.mpr fun c hc => ?_
  have h := List.all_eq_true.mp h1 c hc
  rcases Bool.eq_false_or_eq_true (isCode c) with hi | hi
  · exact h2 c (List.mem_filter.mpr ⟨hc, hi⟩)
  · simpa [hi] using h
set_option maxRecDepth 65536 in
theorem w_c0 : (Jvm.Cond.code x code maxLocals ret).before args0 about1 = true := code_word (m := ⟨1, 2⟩) (meth := k1m2) (c := k1c2) (by decide +kernel) rfl rfl rfl (by decide +kernel)
set_option maxRecDepth 65536 in
theorem w_c1 : (Jvm.Cond.code ({ cls := "com/example/parts_to_policy/partstopolicy/model/MatchNegatePinLaw", name := "pick", desc := "(I)Lcom/example/parts_to_policy/partstopolicy/model/Match;" } : Jvm.MethodName) method_2_code (2 : Nat) (Option.some (Jvm.ClassFile.FieldType.object "com/example/parts_to_policy/partstopolicy/model/Match"))).before args0 about1 = true := code_word (m := ⟨1, 1⟩) (meth := k1m1) (c := k1c1) (by decide +kernel) rfl rfl rfl (by decide +kernel)
set_option maxRecDepth 65536 in
theorem w_c2 : (Jvm.Cond.code ({ cls := "com/example/parts_to_policy/partstopolicy/model/Match", name := "negate", desc := "()Lcom/example/parts_to_policy/partstopolicy/model/Match;" } : Jvm.MethodName) prog_73_method_5_code (2 : Nat) (Option.some (Jvm.ClassFile.FieldType.object "com/example/parts_to_policy/partstopolicy/model/Match"))).before args0 about1 = true := code_word (m := ⟨6, 1⟩) (meth := k6m1) (c := k6c1) (by decide +kernel) rfl rfl rfl (by decide +kernel)
set_option maxRecDepth 65536 in
theorem w_c3 : (Jvm.Cond.code ({ cls := "com/example/parts_to_policy/partstopolicy/model/Match", name := "of", desc := "(Z)Lcom/example/parts_to_policy/partstopolicy/model/Match;" } : Jvm.MethodName) prog_73_method_4_code (1 : Nat) (Option.some (Jvm.ClassFile.FieldType.object "com/example/parts_to_policy/partstopolicy/model/Match"))).before args0 about1 = true := code_word (m := ⟨6, 0⟩) (meth := k6m0) (c := k6c0) (by decide +kernel) rfl rfl rfl (by decide +kernel)
def codes1 : List Jvm.Cond := [Jvm.Cond.code x code maxLocals ret, Jvm.Cond.code ({ cls := "com/example/parts_to_policy/partstopolicy/model/MatchNegatePinLaw", name := "pick", desc := "(I)Lcom/example/parts_to_policy/partstopolicy/model/Match;" } : Jvm.MethodName) method_2_code (2 : Nat) (Option.some (Jvm.ClassFile.FieldType.object "com/example/parts_to_policy/partstopolicy/model/Match")), Jvm.Cond.code ({ cls := "com/example/parts_to_policy/partstopolicy/model/Match", name := "negate", desc := "()Lcom/example/parts_to_policy/partstopolicy/model/Match;" } : Jvm.MethodName) prog_73_method_5_code (2 : Nat) (Option.some (Jvm.ClassFile.FieldType.object "com/example/parts_to_policy/partstopolicy/model/Match")), Jvm.Cond.code ({ cls := "com/example/parts_to_policy/partstopolicy/model/Match", name := "of", desc := "(Z)Lcom/example/parts_to_policy/partstopolicy/model/Match;" } : Jvm.MethodName) prog_73_method_4_code (1 : Nat) (Option.some (Jvm.ClassFile.FieldType.object "com/example/parts_to_policy/partstopolicy/model/Match"))]
set_option maxRecDepth 65536 in
theorem codes_eq : words1.filter isCode = codes1 := rfl
theorem w_codes : ∀ c ∈ words1.filter isCode, c.before args0 about1 = true := by
  rw [codes_eq]
  intro c hc
  simp only [codes1, List.mem_cons, List.not_mem_nil, or_false] at hc
  rcases hc with rfl | rfl | rfl | rfl
  · exact w_c0
  · exact w_c1
  · exact w_c2
  · exact w_c3
set_option maxRecDepth 65536 in
theorem w_t1 : words1.all (fun c => isCode c || c.before args0 about1) = true := by decide +kernel
theorem w_tables : (allAtoms (Jvm.Cond.code x code maxLocals ret :: tables_1)).before args0 about1 = true := by
  rw [allAtoms_all]
  show words1.all (fun c => c.before args0 about1) = true
  refine all_split ?_ w_codes
  rw [w_t1]
set_option maxRecDepth 65536 in
theorem w_case : (Jvm.Cond.and given_1 narrow_1).before args0 about1 = true := by decide +kernel
theorem w_applies : (headSpec (Jvm.Cond.code x code maxLocals ret :: tables_1) room_1).applies x e0.platform about1 = true :=
  (Spec.applies_iff w_frames).mpr ⟨w_running, w_runnable, w_alone, w_named, w_hears, w_ripe, w_room, w_tables⟩
theorem atStart : AtStart classFile x code maxLocals ret World_1 tables_1 room_1 Calls_1 rest_1 Pre_1 launch0 p0 e0 about1 theMethod args0 below0 :=
  ⟨lists_1, trivial, launch0.admits_env _ _ _, launch0.least_env, fairChoices_fair.cas, fairChoices_fair.clock, w_frames, w_args, w_heap, w_applies, trivial, trivial, w_case⟩
end start1
theorem witness_1 : WitnessClaimed_1 := ⟨start1.p0, start1.e0, start1.about1, start1.theMethod, start1.args0, start1.below0, start1.atStart⟩
end Jvm.Pilot.@@N@@
