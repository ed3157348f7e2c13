import JvmDerived
import JvmDerived.Pilot.@@N@@Statement
import JvmDerived.Pilot.@@N@@Code
set_option linter.unusedVariables false
set_option linter.unusedSimpArgs false
namespace Jvm.Pilot.@@N@@
open Jvm Jvm.ClassFile Sem Op Lib Jvm.Free Jvm.Stand Jvm.LawKit Jvm.RoadKit Bundle Jvm.Pilot.@@N@@.Jvm.D
/-! own layer: the walk goes forward; own_G S: from S the body ends as F says -/
def own_G (tb : Tables) (e : Env) (below : List Frame) (F : Outcome → State → Prop) (S : State) : Prop :=
  ∃ s₂ o, Steps tb e below S s₂ ∧ s₂.status = .running ∧ Ended s₂ below o ∧ F o s₂
theorem own_go {tb : Tables} {e : Env} {below : List Frame} {F : Outcome → State → Prop} {A B : State} (st : ∀ t, Steps tb e below B t → Steps tb e below A t) (h : own_G tb e below F B) : own_G tb e below F A := by
  obtain ⟨t, o, h1, h2⟩ := h
  exact ⟨t, o, st t h1, h2⟩
theorem own_tr {tb : Tables} {e : Env} {below : List Frame} {F : Outcome → State → Prop} {A B : State} (st : Steps tb e below A B) (h : own_G tb e below F B) : own_G tb e below F A := own_go (fun _ k => st.trans k) h
theorem own_b {n k : Nat} (h : Nat.ble n k = true) : n ≤ k := Nat.le_of_ble_eq_true h
def own_yes {α : Type} [LT α] : ClassFile.Cond → α → α → Prop
  | .eq, x, y => x = y
  | .ne, x, y => ¬ x = y
  | .lt, x, y => x < y
  | .ge, x, y => ¬ x < y
  | .gt, x, y => y < x
  | .le, x, y => ¬ y < x
def own_no {α : Type} [LT α] : ClassFile.Cond → α → α → Prop
  | .eq, x, y => ¬ x = y
  | .ne, x, y => x = y
  | .lt, x, y => ¬ x < y
  | .ge, x, y => x < y
  | .gt, x, y => ¬ y < x
  | .le, x, y => y < x
theorem own_hy {cd : ClassFile.Cond} {x y : Int32} (h : own_yes cd x y) : if_icmp.holds cd x y = true := by
  cases cd
  · exact (teq h).1
  · exact (feq h).2
  · exact (tlt h).1
  · exact (flt h).2.1
  · exact (tlt h).2.2.1
  · exact (flt h).2.2.2
theorem own_hn {cd : ClassFile.Cond} {x y : Int32} (h : own_no cd x y) : if_icmp.holds cd x y = false := by
  cases cd
  · exact (feq h).1
  · exact (teq h).2
  · exact (flt h).1
  · exact (tlt h).2.1
  · exact (flt h).2.2.1
  · exact (tlt h).2.2.2
theorem own_yn {cd : ClassFile.Cond} {x y : Int32} : own_yes cd x y ∨ own_no cd x y := by
  cases cd
  · exact Classical.em _
  · exact (Classical.em _).symm
  · exact Classical.em _
  · exact (Classical.em _).symm
  · exact Classical.em _
  · exact (Classical.em _).symm
theorem own_ynL {cd : ClassFile.Cond} {x y : Int64} : own_yes cd x y ∨ own_no cd x y := by
  cases cd
  · exact Classical.em _
  · exact (Classical.em _).symm
  · exact Classical.em _
  · exact (Classical.em _).symm
  · exact Classical.em _
  · exact (Classical.em _).symm
theorem own_hyL {cd : ClassFile.Cond} {x y : Int64} (h : own_yes cd x y) : ifCond.holds cd (lcmpW x y) = true := by
  rw [if0]
  refine own_hy ?_
  cases cd
  · exact (lw_eq x y).mpr h
  · exact fun q => h ((lw_eq x y).mp q)
  · exact (lw_lt x y).mpr h
  · exact fun q => h ((lw_lt x y).mp q)
  · exact (lw_gt x y).mpr h
  · exact fun q => h ((lw_gt x y).mp q)
theorem own_hnL {cd : ClassFile.Cond} {x y : Int64} (h : own_no cd x y) : ifCond.holds cd (lcmpW x y) = false := by
  rw [if0]
  refine own_hn ?_
  cases cd
  · exact fun q => h ((lw_eq x y).mp q)
  · exact (lw_eq x y).mpr h
  · exact fun q => h ((lw_lt x y).mp q)
  · exact (lw_lt x y).mpr h
  · exact fun q => h ((lw_gt x y).mp q)
  · exact (lw_gt x y).mpr h
section Own
variable {p : Program} {l : Launch} {e : Env} {R : Room} {s : State} {m : MethodId} {args : Array Value} {below : List Frame} {meth : Method} {c : Code} {T : State} {locs : List Loc} {cells slots : Nat} {F : Outcome → State → Prop}
theorem own_icmpY (X : Stand p l e R s m args below meth c T locs cells slots) (hx : p.tables.exec = Jvm.exec) {cd : ClassFile.Cond} {x y : Int32} {o : Int} {pc pc' : Nat} {Ls : Array Slot} {rest : List Value} (hd : decode c.code pc = .ok (.if_icmp cd o, 3)) (ho : 0 ≤ (pc : Int) + o) (hp : ((pc : Int) + o).toNat = pc')
    (hc : own_yes cd x y) (h1 : own_G p.tables e below F (T.setTop (mkF m pc' Ls rest))) : own_G p.tables e below F (T.setTop (mkF m pc Ls (.int y :: .int x :: rest))) :=
  own_go (fun _ k => XS.icmpYes X.here hx rfl (pc0 := pc) (pc' := pc') rfl hd rfl (own_hy hc) ho hp k) h1
theorem own_icmpN (X : Stand p l e R s m args below meth c T locs cells slots) (hx : p.tables.exec = Jvm.exec) {cd : ClassFile.Cond} {x y : Int32} {o : Int} {pc pn : Nat} {Ls : Array Slot} {rest : List Value} (hd : decode c.code pc = .ok (.if_icmp cd o, 3)) (hq : pc + 3 = pn)
    (hc : own_no cd x y) (h1 : own_G p.tables e below F (T.setTop (mkF m pn Ls rest))) : own_G p.tables e below F (T.setTop (mkF m pc Ls (.int y :: .int x :: rest))) := by
  subst hq
  exact own_go (fun _ k => XS.icmpNo X.here hx rfl hd rfl (own_hn hc) k) h1
theorem own_icmp (X : Stand p l e R s m args below meth c T locs cells slots) (hx : p.tables.exec = Jvm.exec) {cd : ClassFile.Cond} {x y : Int32} {o : Int} {pc pc' pn : Nat} {Ls : Array Slot} {rest : List Value} (hd : decode c.code pc = .ok (.if_icmp cd o, 3)) (ho : 0 ≤ (pc : Int) + o) (hp : ((pc : Int) + o).toNat = pc') (hq : pc + 3 = pn)
    (h1 : own_yes cd x y → own_G p.tables e below F (T.setTop (mkF m pc' Ls rest))) (h2 : own_no cd x y → own_G p.tables e below F (T.setTop (mkF m pn Ls rest))) : own_G p.tables e below F (T.setTop (mkF m pc Ls (.int y :: .int x :: rest))) :=
  own_yn.elim (fun q => own_icmpY X hx hd ho hp q (h1 q)) (fun q => own_icmpN X hx hd hq q (h2 q))
theorem own_ifY (X : Stand p l e R s m args below meth c T locs cells slots) (hx : p.tables.exec = Jvm.exec) {cd : ClassFile.Cond} {x : Int32} {o : Int} {pc pc' : Nat} {Ls : Array Slot} {rest : List Value} (hd : decode c.code pc = .ok (.ifCond cd o, 3)) (ho : 0 ≤ (pc : Int) + o) (hp : ((pc : Int) + o).toNat = pc')
    (hc : own_yes cd x 0) (h1 : own_G p.tables e below F (T.setTop (mkF m pc' Ls rest))) : own_G p.tables e below F (T.setTop (mkF m pc Ls (.int x :: rest))) :=
  own_go (fun _ k => XS.ifYes X.here hx rfl (pc0 := pc) (pc' := pc') rfl hd rfl ((if0 cd x).trans (own_hy hc)) ho hp k) h1
theorem own_ifN (X : Stand p l e R s m args below meth c T locs cells slots) (hx : p.tables.exec = Jvm.exec) {cd : ClassFile.Cond} {x : Int32} {o : Int} {pc pn : Nat} {Ls : Array Slot} {rest : List Value} (hd : decode c.code pc = .ok (.ifCond cd o, 3)) (hq : pc + 3 = pn)
    (hc : own_no cd x 0) (h1 : own_G p.tables e below F (T.setTop (mkF m pn Ls rest))) : own_G p.tables e below F (T.setTop (mkF m pc Ls (.int x :: rest))) := by
  subst hq
  exact own_go (fun _ k => XS.ifNo X.here hx rfl hd rfl ((if0 cd x).trans (own_hn hc)) k) h1
theorem own_if (X : Stand p l e R s m args below meth c T locs cells slots) (hx : p.tables.exec = Jvm.exec) {cd : ClassFile.Cond} {x : Int32} {o : Int} {pc pc' pn : Nat} {Ls : Array Slot} {rest : List Value} (hd : decode c.code pc = .ok (.ifCond cd o, 3)) (ho : 0 ≤ (pc : Int) + o) (hp : ((pc : Int) + o).toNat = pc') (hq : pc + 3 = pn)
    (h1 : own_yes cd x 0 → own_G p.tables e below F (T.setTop (mkF m pc' Ls rest))) (h2 : own_no cd x 0 → own_G p.tables e below F (T.setTop (mkF m pn Ls rest))) : own_G p.tables e below F (T.setTop (mkF m pc Ls (.int x :: rest))) :=
  own_yn.elim (fun q => own_ifY X hx hd ho hp q (h1 q)) (fun q => own_ifN X hx hd hq q (h2 q))
theorem own_lifY (X : Stand p l e R s m args below meth c T locs cells slots) (hx : p.tables.exec = Jvm.exec) {cd : ClassFile.Cond} {x y : Int64} {o : Int} {pc pc' : Nat} {Ls : Array Slot} {rest : List Value} (hd : decode c.code pc = .ok (.ifCond cd o, 3)) (ho : 0 ≤ (pc : Int) + o) (hp : ((pc : Int) + o).toNat = pc')
    (hc : own_yes cd x y) (h1 : own_G p.tables e below F (T.setTop (mkF m pc' Ls rest))) : own_G p.tables e below F (T.setTop (mkF m pc Ls (.int (lcmpW x y) :: rest))) :=
  own_go (fun _ k => XS.ifYes X.here hx rfl (pc0 := pc) (pc' := pc') rfl hd rfl (own_hyL hc) ho hp k) h1
theorem own_lifN (X : Stand p l e R s m args below meth c T locs cells slots) (hx : p.tables.exec = Jvm.exec) {cd : ClassFile.Cond} {x y : Int64} {o : Int} {pc pn : Nat} {Ls : Array Slot} {rest : List Value} (hd : decode c.code pc = .ok (.ifCond cd o, 3)) (hq : pc + 3 = pn)
    (hc : own_no cd x y) (h1 : own_G p.tables e below F (T.setTop (mkF m pn Ls rest))) : own_G p.tables e below F (T.setTop (mkF m pc Ls (.int (lcmpW x y) :: rest))) := by
  subst hq
  exact own_go (fun _ k => XS.ifNo X.here hx rfl hd rfl (own_hnL hc) k) h1
theorem own_lif (X : Stand p l e R s m args below meth c T locs cells slots) (hx : p.tables.exec = Jvm.exec) {cd : ClassFile.Cond} {x y : Int64} {o : Int} {pc pc' pn : Nat} {Ls : Array Slot} {rest : List Value} (hd : decode c.code pc = .ok (.ifCond cd o, 3)) (ho : 0 ≤ (pc : Int) + o) (hp : ((pc : Int) + o).toNat = pc') (hq : pc + 3 = pn)
    (h1 : own_yes cd x y → own_G p.tables e below F (T.setTop (mkF m pc' Ls rest))) (h2 : own_no cd x y → own_G p.tables e below F (T.setTop (mkF m pn Ls rest))) : own_G p.tables e below F (T.setTop (mkF m pc Ls (.int (lcmpW x y) :: rest))) :=
  own_ynL.elim (fun q => own_lifY X hx hd ho hp q (h1 q)) (fun q => own_lifN X hx hd hq q (h2 q))
theorem own_ret (X : Stand p l e R s m args below meth c T locs cells slots) (hx : p.tables.exec = Jvm.exec) (hlk : meth.locks = false) {K N pc : Nat} {Ls : Array Slot} {w : Value} {t : FieldType} {i : Instr} {rest : List Value} {Q : Option Value → Heap → List Loc → Prop} (hret : meth.sig.returnType = some t) (hn : narrow t w = w)
    (hi : (i = .ireturn ∧ (t = .int ∨ t = .boolean ∨ t = .byte ∨ t = .char ∨ t = .short) ∧ ∃ z, w = .int z) ∨ (i = .lreturn ∧ t = .long ∧ ∃ z, w = .long z) ∨ (i = .dreturn ∧ t = .double ∧ ∃ z, w = .double z) ∨ (i = .freturn ∧ t = .float ∧ ∃ z, w = .float z) ∨ (i = .areturn ∧ t.isReference = true ∧ w.isRef = true))
    (hd : decode c.code pc = .ok (i, 1)) (hK : cells ≤ K) (hN : slots ≤ N) (hQ : Q (some w) T.heap locs) :
    own_G p.tables e below (fun o U' => ∃ v L, o = .returned v ∧ Q v U'.heap L ∧ FrameEnd s o U' L K N) (T.setTop (mkF m pc Ls (w :: rest))) := by
  obtain ⟨fs, hr, hrun, hended, hW, hsame⟩ := X.leave (v := some w) (fun h => by rw [hret] at h; cases h) hlk
  exact ⟨_, _, retOut X hx hret hn hi hd hr, hrun, hended, _, _, rfl, hQ, ⟨_, rfl⟩, hW, hsame.mono hK hN⟩
theorem own_retI (X : Stand p l e R s m args below meth c T locs cells slots) (hx : p.tables.exec = Jvm.exec) (hlk : meth.locks = false) {K N pc : Nat} {Ls : Array Slot} {z : Int32} {rest : List Value} {Q : Option Value → Heap → List Loc → Prop} (hret : meth.sig.returnType = some .int)
    (hd : decode c.code pc = .ok (.ireturn, 1)) (hK : cells ≤ K) (hN : slots ≤ N) (hQ : Q (some (.int z)) T.heap locs) :
    own_G p.tables e below (fun o U' => ∃ v L, o = .returned v ∧ Q v U'.heap L ∧ FrameEnd s o U' L K N) (T.setTop (mkF m pc Ls (.int z :: rest))) :=
  own_ret X hx hlk hret rfl (Or.inl ⟨rfl, Or.inl rfl, z, rfl⟩) hd hK hN hQ
theorem own_retZ (X : Stand p l e R s m args below meth c T locs cells slots) (hx : p.tables.exec = Jvm.exec) (hlk : meth.locks = false) {K N pc : Nat} {Ls : Array Slot} {z : Int32} {rest : List Value} {Q : Option Value → Heap → List Loc → Prop} (hret : meth.sig.returnType = some .boolean)
    (hd : decode c.code pc = .ok (.ireturn, 1)) (hz : z = 0 ∨ z = 1) (hK : cells ≤ K) (hN : slots ≤ N) (hQ : Q (some (.int z)) T.heap locs) :
    own_G p.tables e below (fun o U' => ∃ v L, o = .returned v ∧ Q v U'.heap L ∧ FrameEnd s o U' L K N) (T.setTop (mkF m pc Ls (.int z :: rest))) :=
  own_ret X hx hlk hret (by rcases hz with rfl | rfl <;> rfl) (Or.inl ⟨rfl, Or.inr (Or.inl rfl), z, rfl⟩) hd hK hN hQ
theorem own_retL (X : Stand p l e R s m args below meth c T locs cells slots) (hx : p.tables.exec = Jvm.exec) (hlk : meth.locks = false) {K N pc : Nat} {Ls : Array Slot} {z : Int64} {rest : List Value} {Q : Option Value → Heap → List Loc → Prop} (hret : meth.sig.returnType = some .long)
    (hd : decode c.code pc = .ok (.lreturn, 1)) (hK : cells ≤ K) (hN : slots ≤ N) (hQ : Q (some (.long z)) T.heap locs) :
    own_G p.tables e below (fun o U' => ∃ v L, o = .returned v ∧ Q v U'.heap L ∧ FrameEnd s o U' L K N) (T.setTop (mkF m pc Ls (.long z :: rest))) :=
  own_ret X hx hlk hret rfl (Or.inr (Or.inl ⟨rfl, rfl, z, rfl⟩)) hd hK hN hQ
theorem own_retA (X : Stand p l e R s m args below meth c T locs cells slots) (hx : p.tables.exec = Jvm.exec) (hlk : meth.locks = false) {K N pc : Nat} {Ls : Array Slot} {w : Value} {t : FieldType} {rest : List Value} {Q : Option Value → Heap → List Loc → Prop} (hret : meth.sig.returnType = some t) (ht : t.isReference = true) (hw : w.isRef = true)
    (hd : decode c.code pc = .ok (.areturn, 1)) (hK : cells ≤ K) (hN : slots ≤ N) (hQ : Q (some w) T.heap locs) :
    own_G p.tables e below (fun o U' => ∃ v L, o = .returned v ∧ Q v U'.heap L ∧ FrameEnd s o U' L K N) (T.setTop (mkF m pc Ls (w :: rest))) :=
  own_ret X hx hlk hret (by cases t <;> first | (cases ht; done) | (rcases ref_cases hw with rfl | ⟨z, rfl⟩ <;> rfl)) (Or.inr (Or.inr (Or.inr (Or.inr ⟨rfl, ht, hw⟩)))) hd hK hN hQ
theorem own_retV (X : Stand p l e R s m args below meth c T locs cells slots) (hx : p.tables.exec = Jvm.exec) (hlk : meth.locks = false) {K N pc : Nat} {Ls : Array Slot} {Q : Option Value → Heap → List Loc → Prop} (hret : meth.sig.returnType = none)
    (hd : decode c.code pc = .ok (.return_, 1)) (hK : cells ≤ K) (hN : slots ≤ N) (hQ : Q none T.heap locs) :
    own_G p.tables e below (fun o U' => ∃ v L, o = .returned v ∧ Q v U'.heap L ∧ FrameEnd s o U' L K N) (T.setTop (mkF m pc Ls [])) := by
  obtain ⟨fs, hr, hrun, hended, hW, hsame⟩ := X.leave (v := none) (fun _ => rfl) hlk
  exact ⟨_, _, X.returnOut hx hret hd hr, hrun, hended, _, _, rfl, hQ, ⟨_, rfl⟩, hW, hsame.mono hK hN⟩
theorem own_acmpVE (X : Stand p l e R s m args below meth c T locs cells slots) (hx : p.tables.exec = Jvm.exec) {cd : ACond} {x y : Value} (h1 : x.isRef = true) (h2 : y.isRef = true) {o : Int} {pc pc' : Nat} {Ls : Array Slot} {rest : List Value} (hd : decode c.code pc = .ok (.if_acmp cd o, 3)) (ho : 0 ≤ (pc : Int) + o) (hp : pc' = if acV cd true = true then ((pc : Int) + o).toNat else pc + 3)
    (hc : x = y) (k : own_G p.tables e below F (T.setTop (mkF m pc' Ls rest))) : own_G p.tables e below F (T.setTop (mkF m pc Ls (y :: x :: rest))) :=
  own_go (fun _ q => RoadKit.acmp X hx rfl h1 h2 (pc0 := pc) (pc' := pc') (same := true) rfl hd rfl (by simp [hc]) ho hp q) k
theorem own_acmpVD (X : Stand p l e R s m args below meth c T locs cells slots) (hx : p.tables.exec = Jvm.exec) {cd : ACond} {x y : Value} (h1 : x.isRef = true) (h2 : y.isRef = true) {o : Int} {pc pc' : Nat} {Ls : Array Slot} {rest : List Value} (hd : decode c.code pc = .ok (.if_acmp cd o, 3)) (ho : 0 ≤ (pc : Int) + o) (hp : pc' = if acV cd false = true then ((pc : Int) + o).toNat else pc + 3)
    (hc : ¬ x = y) (k : own_G p.tables e below F (T.setTop (mkF m pc' Ls rest))) : own_G p.tables e below F (T.setTop (mkF m pc Ls (y :: x :: rest))) :=
  own_go (fun _ q => RoadKit.acmp X hx rfl h1 h2 (pc0 := pc) (pc' := pc') (same := false) rfl hd rfl (by simp [hc]) ho hp q) k
theorem own_acmpAE (X : Stand p l e R s m args below meth c T locs cells slots) (hx : p.tables.exec = Jvm.exec) {cd : ACond} {x y : Addr} {o : Int} {pc pc' : Nat} {Ls : Array Slot} {rest : List Value} (hd : decode c.code pc = .ok (.if_acmp cd o, 3)) (ho : 0 ≤ (pc : Int) + o) (hp : pc' = if acV cd true = true then ((pc : Int) + o).toNat else pc + 3)
    (hc : x = y) (k : own_G p.tables e below F (T.setTop (mkF m pc' Ls rest))) : own_G p.tables e below F (T.setTop (mkF m pc Ls (.ref y :: .ref x :: rest))) :=
  own_acmpVE X hx rfl rfl hd ho hp (by rw [hc]) k
theorem own_acmpAD (X : Stand p l e R s m args below meth c T locs cells slots) (hx : p.tables.exec = Jvm.exec) {cd : ACond} {x y : Addr} {o : Int} {pc pc' : Nat} {Ls : Array Slot} {rest : List Value} (hd : decode c.code pc = .ok (.if_acmp cd o, 3)) (ho : 0 ≤ (pc : Int) + o) (hp : pc' = if acV cd false = true then ((pc : Int) + o).toNat else pc + 3)
    (hc : ¬ x = y) (k : own_G p.tables e below F (T.setTop (mkF m pc' Ls rest))) : own_G p.tables e below F (T.setTop (mkF m pc Ls (.ref y :: .ref x :: rest))) :=
  own_acmpVD X hx rfl rfl hd ho hp (fun q => hc (by cases q; rfl)) k
end Own
theorem own_cat1 {v : Value} (h : v.isRef = true) : v.category = 1 := by cases v <;> first | (cases h; done) | rfl
theorem own_sta_keep {Z : State} {h h' : Heap} {C n d : String} {v : Value} {ws : List Addr} (F : Sta Z h C n d v) (K : Keep h h' ws) (q : ∀ x ∈ ws, ∀ c : Cell, h[x]? = some c → c.vm.isStatics = false) : Sta Z h' C n d v := by
  obtain ⟨cf, i, k, f, st, cell, h1, h2, h3, h4, h5, h6, h7⟩ := F
  exact ⟨cf, i, k, f, st, cell, h1, h2, h3, h4, K.2.1 _ _ h5 (fun z => by rw [q _ z _ h5] at h6; cases h6), h6, h7⟩
theorem own_eqint {t : Term} {n : Int32} {args : Array Value} {s : State} (h : (Jvm.Cond.eq t (Term.int n)).value args s none s [] = some true) : t.eval args s none [] s = some (.int n) := by
  have hb : (Term.int n).eval args s none [] s = some (.int n) := Term.int_eval n
  simp only [Jvm.Cond.value, hb] at h
  cases ht : t.eval args s none [] s with
  | none => simp [ht] at h
  | some v => cases v <;> simp [ht] at h ⊢; exact h
abbrev own_y1 : MethodName := ⟨"com/example/honeybee/honeybee/device/KeyStatus", "ordinal", "()I"⟩
abbrev own_y2 : MethodName := ⟨"java/lang/Enum", "ordinal", "()I"⟩
abbrev own_y3 : MethodName := ⟨"com/example/honeybee/honeybee/device/KeyStatusCanMoveToPinLaw", "pick", "(I)Lcom/example/honeybee/honeybee/device/KeyStatus;"⟩
abbrev own_y4 : MethodName := ⟨"com/example/honeybee/honeybee/device/KeyStatus", "canMoveTo", "(Lcom/example/honeybee/honeybee/device/KeyStatus;)Z"⟩
theorem own_pd1 : parseMethodDescriptor "()I" = some ⟨[], (some .int)⟩ := by decide +kernel
theorem own_pd2 : parseMethodDescriptor "(I)Lcom/example/honeybee/honeybee/device/KeyStatus;" = some ⟨[.int], (some (.object "com/example/honeybee/honeybee/device/KeyStatus"))⟩ := by decide +kernel
theorem own_pd3 : parseMethodDescriptor "(Lcom/example/honeybee/honeybee/device/KeyStatus;)Z" = some ⟨[(.object "com/example/honeybee/honeybee/device/KeyStatus")], (some .boolean)⟩ := by decide +kernel

def own_pick (p : Int32) (aP aQ aA aR : Addr) : Addr := if (p &&& (3 : Int32)) = 0 then aP else if (p &&& (3 : Int32)) = 1 then aQ else if (p &&& (3 : Int32)) = 2 then aA else aR
def own_can (o : Int32) (n aA aR : Addr) : Int32 := if o = 0 ∨ o = 1 then (if n = aA ∨ n = aR then 1 else 0) else if o = 2 then (if n = aR then 1 else 0) else (if n = aA then 1 else 0)
theorem own_or4 {z aP aQ aA aR : Addr} {o : Int32} (hd : (z = aP ∧ o = 0) ∨ (z = aQ ∧ o = 1) ∨ (z = aA ∧ o = 2) ∨ (z = aR ∧ o = 3)) : o = 0 ∨ o = 1 ∨ o = 2 ∨ o = 3 := by
  rcases hd with ⟨-, h⟩ | ⟨-, h⟩ | ⟨-, h⟩ | ⟨-, h⟩
  · exact Or.inl h
  · exact Or.inr (Or.inl h)
  · exact Or.inr (Or.inr (Or.inl h))
  · exact Or.inr (Or.inr (Or.inr h))
theorem own_pkd {Z : State} {h : Heap} {C D N T : String} {z aP aQ aA aR : Addr} {p : Int32} (hz : z = own_pick p aP aQ aA aR) (e0 : Exa Z h aP C) (e1 : Exa Z h aQ C) (e2 : Exa Z h aA C) (e3 : Exa Z h aR C)
    (f0 : Fld Z h aP D N T (.int (0 : Int32))) (f1 : Fld Z h aQ D N T (.int (1 : Int32))) (f2 : Fld Z h aA D N T (.int (2 : Int32))) (f3 : Fld Z h aR D N T (.int (3 : Int32))) :
    ∃ o : Int32, Exa Z h z C ∧ Fld Z h z D N T (.int o) ∧ ((z = aP ∧ o = 0) ∨ (z = aQ ∧ o = 1) ∨ (z = aA ∧ o = 2) ∨ (z = aR ∧ o = 3)) := by
  unfold own_pick at hz
  split at hz
  · subst hz; exact ⟨_, e0, f0, Or.inl ⟨rfl, rfl⟩⟩
  · split at hz
    · subst hz; exact ⟨_, e1, f1, Or.inr (Or.inl ⟨rfl, rfl⟩)⟩
    · split at hz
      · subst hz; exact ⟨_, e2, f2, Or.inr (Or.inr (Or.inl ⟨rfl, rfl⟩))⟩
      · subst hz; exact ⟨_, e3, f3, Or.inr (Or.inr (Or.inr ⟨rfl, rfl⟩))⟩
theorem own_fin0 {z n aP aQ aA aR : Addr} {o : Int32} (hd : (z = aP ∧ o = 0) ∨ (z = aQ ∧ o = 1) ∨ (z = aA ∧ o = 2) ∨ (z = aR ∧ o = 3)) (n1 : aP ≠ aA) (n2 : aP ≠ aR) (n3 : aQ ≠ aA) (n4 : aQ ≠ aR) (n5 : aA ≠ aR) (hn : n = aA ∨ n = aR) (he : n = z) : own_can o n aA aR = (0 : Int32) := by
  rcases hd with ⟨h, ho⟩ | ⟨h, ho⟩ | ⟨h, ho⟩ | ⟨h, ho⟩
  · rcases hn with q | q
    · exact absurd (h.symm.trans (he.symm.trans q)) n1
    · exact absurd (h.symm.trans (he.symm.trans q)) n2
  · rcases hn with q | q
    · exact absurd (h.symm.trans (he.symm.trans q)) n3
    · exact absurd (h.symm.trans (he.symm.trans q)) n4
  · have e : n = aA := he.trans h
    simp +decide [own_can, ho, e, n5]
  · have e : n = aR := he.trans h
    simp +decide [own_can, ho, e, n5.symm]
theorem own_fin1 {z n aP aQ aA aR : Addr} {o : Int32} (hd : (z = aP ∧ o = 0) ∨ (z = aQ ∧ o = 1) ∨ (z = aA ∧ o = 2) ∨ (z = aR ∧ o = 3)) (n1 : aP ≠ aA) (n2 : aP ≠ aR) (n3 : aQ ≠ aA) (n4 : aQ ≠ aR) (n5 : aA ≠ aR) (hn : n = aA ∨ n = aR) (he : ¬ n = z) : own_can o n aA aR = (1 : Int32) := by
  rcases hd with ⟨h, ho⟩ | ⟨h, ho⟩ | ⟨h, ho⟩ | ⟨h, ho⟩
  · simp +decide [own_can, ho, hn]
  · simp +decide [own_can, ho, hn]
  · have e : n = aR := hn.resolve_left (fun q => he (q.trans h.symm))
    simp +decide [own_can, ho, e]
  · have e : n = aA := hn.resolve_right (fun q => he (q.trans h.symm))
    simp +decide [own_can, ho, e]
theorem own_fin2 {z n aP aQ aA aR : Addr} {o : Int32} (hd : (z = aP ∧ o = 0) ∨ (z = aQ ∧ o = 1) ∨ (z = aA ∧ o = 2) ∨ (z = aR ∧ o = 3)) (n1 : aP ≠ aA) (n2 : aP ≠ aR) (n3 : aQ ≠ aA) (n4 : aQ ≠ aR) (n5 : aA ≠ aR) (h1 : ¬ n = aA) (h2 : ¬ n = aR) : own_can o n aA aR = (0 : Int32) := by
  rcases hd with ⟨h, ho⟩ | ⟨h, ho⟩ | ⟨h, ho⟩ | ⟨h, ho⟩ <;> simp +decide [own_can, ho, h1, h2]

theorem own_pk_d0 : decode method_2_code 0 = .ok (.iload_n 0, 1) := by decide +kernel
theorem own_pk_d1 : decode method_2_code 1 = .ok (.iconst 3, 1) := by decide +kernel
theorem own_pk_d2 : decode method_2_code 2 = .ok (.iand, 1) := by decide +kernel
theorem own_pk_d3 : decode method_2_code 3 = .ok (.istore_n 1, 1) := by decide +kernel
theorem own_pk_d4 : decode method_2_code 4 = .ok (.iload_n 1, 1) := by decide +kernel
theorem own_pk_d5 : decode method_2_code 5 = .ok (.ifCond .ne 7, 3) := by decide +kernel
theorem own_pk_d8 : decode method_2_code 8 = .ok (.getstatic 7, 3) := by decide +kernel
theorem own_pk_d11 : decode method_2_code 11 = .ok (.areturn, 1) := by decide +kernel
theorem own_pk_d12 : decode method_2_code 12 = .ok (.iload_n 1, 1) := by decide +kernel
theorem own_pk_d13 : decode method_2_code 13 = .ok (.iconst 1, 1) := by decide +kernel
theorem own_pk_d14 : decode method_2_code 14 = .ok (.if_icmp .ne 7, 3) := by decide +kernel
theorem own_pk_d17 : decode method_2_code 17 = .ok (.getstatic 13, 3) := by decide +kernel
theorem own_pk_d20 : decode method_2_code 20 = .ok (.areturn, 1) := by decide +kernel
theorem own_pk_d21 : decode method_2_code 21 = .ok (.iload_n 1, 1) := by decide +kernel
theorem own_pk_d22 : decode method_2_code 22 = .ok (.iconst 2, 1) := by decide +kernel
theorem own_pk_d23 : decode method_2_code 23 = .ok (.if_icmp .ne 7, 3) := by decide +kernel
theorem own_pk_d26 : decode method_2_code 26 = .ok (.getstatic 16, 3) := by decide +kernel
theorem own_pk_d29 : decode method_2_code 29 = .ok (.areturn, 1) := by decide +kernel
theorem own_pk_d30 : decode method_2_code 30 = .ok (.getstatic 19, 3) := by decide +kernel
theorem own_pk_d33 : decode method_2_code 33 = .ok (.areturn, 1) := by decide +kernel
theorem own_pk_pn : plainName "com/example/honeybee/honeybee/device/KeyStatusCanMoveToPinLaw" = true := by first | (simp [plainName, overriddenIn]; done) | decide +kernel
theorem own_pk_ef (m : MethodId) (p0 : Int32) : entryFrame m #[(.int p0)] 2 = mkF m 0 #[iv p0, .unset] [] := by first | (simp [entryFrame, mkF, argsToLocals, Value.category]; done) | rfl
def own_pk_Q (Z : State) (p0 : Int32) (aP aQ aA aR : Addr) (h0 : Heap) (n0 : Nat) (v : Option Value) (h : Heap) (L : List Loc) : Prop := v = some (.ref (own_pick p0 aP aQ aA aR)) ∧ Fr n0 L ∧ h = h0
set_option maxRecDepth 65536 in
set_option maxHeartbeats 40000000 in
theorem own_pk (l : Launch) (Z : State) (a0 : Array Value) (hw : ∀ d ∈ tables_1, d.before a0 Z = true) (ws : List Jvm.Cond) (p0 : Int32) (aP aQ aA aR : Addr) (h0 : Heap) (n0 : Nat) (S_PENDING : Sta Z h0 "com/example/honeybee/honeybee/device/KeyStatus" "PENDING" "Lcom/example/honeybee/honeybee/device/KeyStatus;" (.ref aP)) (S_PREAUTHORIZED : Sta Z h0 "com/example/honeybee/honeybee/device/KeyStatus" "PREAUTHORIZED" "Lcom/example/honeybee/honeybee/device/KeyStatus;" (.ref aQ)) (S_ACCEPTED : Sta Z h0 "com/example/honeybee/honeybee/device/KeyStatus" "ACCEPTED" "Lcom/example/honeybee/honeybee/device/KeyStatus;" (.ref aA)) (S_REJECTED : Sta Z h0 "com/example/honeybee/honeybee/device/KeyStatus" "REJECTED" "Lcom/example/honeybee/honeybee/device/KeyStatus;" (.ref aR)) :
    MetFree l own_y3 (head1 (Jvm.Cond.code own_y3 method_2_code 2 (some (.object "com/example/honeybee/honeybee/device/KeyStatus")) :: ws) ({ frames := 0, cells := 0, slots := 0, locals := 0 } : Room)) (fun a U => a = #[(.int p0)] ∧ Z.Warmed39 U.vm ∧ U.heap = h0) (fun _ _ _ _ _ => True) (fun _ U o U' => ∃ v L, o = .returned v ∧ (own_pk_Q Z p0 aP aQ aA aR h0 n0) v U'.heap L ∧ FrameEnd U o U' L ({ frames := 0, cells := 0, slots := 0, locals := 0 } : Room).cells ({ frames := 0, cells := 0, slots := 0, locals := 0 } : Room).slots) := by
  refine MetFree.of_bodySF (plainFor_of_name own_pk_pn) hisR ?_
  intro p e s m args below meth c s₁ Bd hml0 hP hK
  obtain ⟨rfl, hZ, hh⟩ := hP
  have hx := Bd.exec
  have hby := Bd.bytes
  have hml : c.maxLocals = 2 := hml0
  have hown : s.vm.findClass "com/example/honeybee/honeybee/device/KeyStatusCanMoveToPinLaw" = some m.cls := findClass_of_methodNamed Bd.named
  have hnm := (name_of_methodNamed Bd.named Bd.method).1
  have hlk : meth.locks = false := Bd.notSynchronized
  have X0 : Stand p l e ({ frames := 0, cells := 0, slots := 0, locals := 0 } : Room) s m #[(.int p0)] below meth c s₁ [] 0 0 := Stand.of_body Bd
  have e0 : s₁.heap = h0 := by rw [← hh, Bd.state]; rfl
  have N0 := Fr.nil n0
  have w_4 := hw _ (List.mem_of_getElem? (l := tables_1) (i := 4) rfl)
  have w_7 := hw _ (List.mem_of_getElem? (l := tables_1) (i := 7) rfl)
  have w_9 := hw _ (List.mem_of_getElem? (l := tables_1) (i := 9) rfl)
  have w_27 := hw _ (List.mem_of_getElem? (l := tables_1) (i := 27) rfl)
  show own_G p.tables e below (fun o U' => ∃ v L, o = .returned v ∧ (own_pk_Q Z p0 aP aQ aA aR h0 n0) v U'.heap L ∧ FrameEnd s o U' L ({ frames := 0, cells := 0, slots := 0, locals := 0 } : Room).cells ({ frames := 0, cells := 0, slots := 0, locals := 0 } : Room).slots) (s₁.setTop (entryFrame m #[(.int p0)] 2))
  refine own_go (B := s₁.setTop (mkF m 0 #[iv p0, .unset] [])) (fun t k => castTop (own_pk_ef m p0) k) ?_
  refine own_go (B := (s₁.setTop (mkF m 1 #[iv p0, .unset] [(.int p0)]))) (fun t k => XS.iloadN X0.here hx rfl (hb hby own_pk_d0) rfl k) ?_
  refine own_go (B := (s₁.setTop (mkF m 2 #[iv p0, .unset] [(.int (3 : Int32)), (.int p0)]))) (fun t k => XS.iconst X0.here hx rfl (hb hby own_pk_d1) k) ?_
  refine own_go (B := (s₁.setTop (mkF m 3 #[iv p0, .unset] [(.int (p0 &&& (3 : Int32)))]))) (fun t k => XS.iand X0.here hx rfl (hb hby own_pk_d2) rfl k) ?_
  obtain ⟨z3, hz3⟩ : ∃ z : Int32, z = (p0 &&& (3 : Int32)) := ⟨_, rfl⟩
  rw [← hz3]
  refine own_go (B := (s₁.setTop (mkF m 4 #[iv p0, iv z3] []))) (fun t k => XS.istoreN X0.here hx rfl (hb hby own_pk_d3) rfl (l' := #[iv p0, iv z3]) rfl k) ?_
  refine own_go (B := (s₁.setTop (mkF m 5 #[iv p0, iv z3] [(.int z3)]))) (fun t k => XS.iloadN X0.here hx rfl (hb hby own_pk_d4) rfl k) ?_
  refine own_if X0 hx (hb hby own_pk_d5) (pc' := 12) (pn := 8) (by decide) (by decide) rfl (fun (hc5 : ¬ z3 = (0 : Int32)) => ?_) (fun (hc5 : z3 = (0 : Int32)) => ?_)
  · refine own_go (B := (s₁.setTop (mkF m 13 #[iv p0, iv z3] [(.int z3)]))) (fun t k => XS.iloadN X0.here hx rfl (hb hby own_pk_d12) rfl k) ?_
    refine own_go (B := (s₁.setTop (mkF m 14 #[iv p0, iv z3] [(.int (1 : Int32)), (.int z3)]))) (fun t k => XS.iconst X0.here hx rfl (hb hby own_pk_d13) k) ?_
    refine own_icmp X0 hx (hb hby own_pk_d14) (pc' := 21) (pn := 17) (by decide) (by decide) rfl (fun (hc14 : ¬ z3 = (1 : Int32)) => ?_) (fun (hc14 : z3 = (1 : Int32)) => ?_)
    · refine own_go (B := (s₁.setTop (mkF m 22 #[iv p0, iv z3] [(.int z3)]))) (fun t k => XS.iloadN X0.here hx rfl (hb hby own_pk_d21) rfl k) ?_
      refine own_go (B := (s₁.setTop (mkF m 23 #[iv p0, iv z3] [(.int (2 : Int32)), (.int z3)]))) (fun t k => XS.iconst X0.here hx rfl (hb hby own_pk_d22) k) ?_
      refine own_icmp X0 hx (hb hby own_pk_d23) (pc' := 30) (pn := 26) (by decide) (by decide) rfl (fun (hc23 : ¬ z3 = (2 : Int32)) => ?_) (fun (hc23 : z3 = (2 : Int32)) => ?_)
      · obtain ⟨T1, X1, e1, st1⟩ := getS X0 hx hZ hown (host := "") w_7 Via.refl e0 S_REJECTED (g := (mkF m 30 #[iv p0, iv z3] [])) rfl (hb hby own_pk_d30)
        refine own_go (B := (T1.setTop (mkF m 33 #[iv p0, iv z3] [(.ref aR)]))) st1 ?_
        exact own_retA X1 hx hlk Bd.returns rfl rfl (hb hby own_pk_d33) (own_b rfl) (own_b rfl) (Q := (own_pk_Q Z p0 aP aQ aA aR h0 n0)) ⟨by rw [own_pick, ← hz3, if_neg hc5, if_neg hc14, if_neg hc23], N0, e1⟩
      · obtain ⟨T2, X2, e2, st2⟩ := getS X0 hx hZ hown (host := "") w_9 Via.refl e0 S_ACCEPTED (g := (mkF m 26 #[iv p0, iv z3] [])) rfl (hb hby own_pk_d26)
        refine own_go (B := (T2.setTop (mkF m 29 #[iv p0, iv z3] [(.ref aA)]))) st2 ?_
        exact own_retA X2 hx hlk Bd.returns rfl rfl (hb hby own_pk_d29) (own_b rfl) (own_b rfl) (Q := (own_pk_Q Z p0 aP aQ aA aR h0 n0)) ⟨by rw [own_pick, ← hz3, if_neg hc5, if_neg hc14, if_pos hc23], N0, e2⟩
    · obtain ⟨T3, X3, e3, st3⟩ := getS X0 hx hZ hown (host := "") w_27 Via.refl e0 S_PREAUTHORIZED (g := (mkF m 17 #[iv p0, iv z3] [])) rfl (hb hby own_pk_d17)
      refine own_go (B := (T3.setTop (mkF m 20 #[iv p0, iv z3] [(.ref aQ)]))) st3 ?_
      exact own_retA X3 hx hlk Bd.returns rfl rfl (hb hby own_pk_d20) (own_b rfl) (own_b rfl) (Q := (own_pk_Q Z p0 aP aQ aA aR h0 n0)) ⟨by rw [own_pick, ← hz3, if_neg hc5, if_pos hc14], N0, e3⟩
  · obtain ⟨T4, X4, e4, st4⟩ := getS X0 hx hZ hown (host := "") w_4 Via.refl e0 S_PENDING (g := (mkF m 8 #[iv p0, iv z3] [])) rfl (hb hby own_pk_d8)
    refine own_go (B := (T4.setTop (mkF m 11 #[iv p0, iv z3] [(.ref aP)]))) st4 ?_
    exact own_retA X4 hx hlk Bd.returns rfl rfl (hb hby own_pk_d11) (own_b rfl) (own_b rfl) (Q := (own_pk_Q Z p0 aP aQ aA aR h0 n0)) ⟨by rw [own_pick, ← hz3, if_pos hc5], N0, e4⟩

theorem own_or_d0 : decode jdk_37_method_2_code 0 = .ok (.aload_n 0, 1) := by decide +kernel
theorem own_or_d1 : decode jdk_37_method_2_code 1 = .ok (.getfield 7, 3) := by decide +kernel
theorem own_or_d4 : decode jdk_37_method_2_code 4 = .ok (.ireturn, 1) := by decide +kernel
theorem own_or_pn : plainName "java/lang/Enum" = true := by first | (simp [plainName, overriddenIn]; done) | decide +kernel
theorem own_or_ef (m : MethodId) (th : Addr) : entryFrame m #[(.ref th)] 1 = mkF m 0 #[rv th] [] := by first | (simp [entryFrame, mkF, argsToLocals, Value.category]; done) | rfl
def own_or_Q (Z : State) (th : Addr) (od : Int32) (h0 : Heap) (n0 : Nat) (v : Option Value) (h : Heap) (L : List Loc) : Prop := v = some (.int od) ∧ Fr n0 L ∧ h = h0
set_option maxRecDepth 65536 in
set_option maxHeartbeats 40000000 in
theorem own_or (l : Launch) (Z : State) (a0 : Array Value) (hw : ∀ d ∈ tables_1, d.before a0 Z = true) (ws : List Jvm.Cond) (th : Addr) (od : Int32) (h0 : Heap) (n0 : Nat) (F1 : Fld Z h0 th "java/lang/Enum" "ordinal" "I" (.int od)) :
    MetFree l own_y2 (head1 (Jvm.Cond.code own_y2 jdk_37_method_2_code 1 (some .int) :: ws) ({ frames := 0, cells := 0, slots := 0, locals := 0 } : Room)) (fun a U => a = #[(.ref th)] ∧ Z.Warmed39 U.vm ∧ U.heap = h0) (fun _ _ _ _ _ => True) (fun _ U o U' => ∃ v L, o = .returned v ∧ (own_or_Q Z th od h0 n0) v U'.heap L ∧ FrameEnd U o U' L ({ frames := 0, cells := 0, slots := 0, locals := 0 } : Room).cells ({ frames := 0, cells := 0, slots := 0, locals := 0 } : Room).slots) := by
  refine MetFree.of_bodySF (plainFor_of_name own_or_pn) hisR ?_
  intro p e s m args below meth c s₁ Bd hml0 hP hK
  obtain ⟨rfl, hZ, hh⟩ := hP
  have hx := Bd.exec
  have hby := Bd.bytes
  have hml : c.maxLocals = 1 := hml0
  have hown : s.vm.findClass "java/lang/Enum" = some m.cls := findClass_of_methodNamed Bd.named
  have hnm := (name_of_methodNamed Bd.named Bd.method).1
  have hlk : meth.locks = false := Bd.notSynchronized
  have X0 : Stand p l e ({ frames := 0, cells := 0, slots := 0, locals := 0 } : Room) s m #[(.ref th)] below meth c s₁ [] 0 0 := Stand.of_body Bd
  have e0 : s₁.heap = h0 := by rw [← hh, Bd.state]; rfl
  have N0 := Fr.nil n0
  have w_23 := hw _ (List.mem_of_getElem? (l := tables_1) (i := 23) rfl)
  show own_G p.tables e below (fun o U' => ∃ v L, o = .returned v ∧ (own_or_Q Z th od h0 n0) v U'.heap L ∧ FrameEnd s o U' L ({ frames := 0, cells := 0, slots := 0, locals := 0 } : Room).cells ({ frames := 0, cells := 0, slots := 0, locals := 0 } : Room).slots) (s₁.setTop (entryFrame m #[(.ref th)] 1))
  refine own_go (B := s₁.setTop (mkF m 0 #[rv th] [])) (fun t k => castTop (own_or_ef m th) k) ?_
  refine own_go (B := (s₁.setTop (mkF m 1 #[rv th] [(.ref th)]))) (fun t k => XS.aloadN X0.here hx rfl (hb hby own_or_d0) rfl rfl k) ?_
  obtain ⟨T1, X1, e1, st1⟩ := getF X0 hx hZ hown (host := "") (Or.inl w_23) Via.refl e0 F1 (g := (mkF m 1 #[rv th] [(.ref th)])) rfl rfl (hb hby own_or_d1)
  refine own_go (B := (T1.setTop (mkF m 4 #[rv th] [(.int od)]))) st1 ?_
  exact own_retI X1 hx hlk Bd.returns (hb hby own_or_d4) (own_b rfl) (own_b rfl) (Q := (own_or_Q Z th od h0 n0)) ⟨rfl, N0, e1⟩

theorem own_cm_d0 : decode prog_4_method_4_code 0 = .ok (.aload_n 0, 1) := by decide +kernel
theorem own_cm_d1 : decode prog_4_method_4_code 1 = .ok (.invokevirtual 35, 3) := by decide +kernel
theorem own_cm_d4 : decode prog_4_method_4_code 4 = .ok (.tableswitch 32 0 3 #[42, 42, 64, 79], 32) := by decide +kernel
theorem own_cm_d46 : decode prog_4_method_4_code 46 = .ok (.aload_n 1, 1) := by decide +kernel
theorem own_cm_d47 : decode prog_4_method_4_code 47 = .ok (.getstatic 10, 3) := by decide +kernel
theorem own_cm_d50 : decode prog_4_method_4_code 50 = .ok (.if_acmp .eq 10, 3) := by decide +kernel
theorem own_cm_d53 : decode prog_4_method_4_code 53 = .ok (.aload_n 1, 1) := by decide +kernel
theorem own_cm_d54 : decode prog_4_method_4_code 54 = .ok (.getstatic 13, 3) := by decide +kernel
theorem own_cm_d57 : decode prog_4_method_4_code 57 = .ok (.if_acmp .ne 7, 3) := by decide +kernel
theorem own_cm_d60 : decode prog_4_method_4_code 60 = .ok (.iconst 1, 1) := by decide +kernel
theorem own_cm_d61 : decode prog_4_method_4_code 61 = .ok (.goto 34, 3) := by decide +kernel
theorem own_cm_d64 : decode prog_4_method_4_code 64 = .ok (.iconst 0, 1) := by decide +kernel
theorem own_cm_d65 : decode prog_4_method_4_code 65 = .ok (.goto 30, 3) := by decide +kernel
theorem own_cm_d68 : decode prog_4_method_4_code 68 = .ok (.aload_n 1, 1) := by decide +kernel
theorem own_cm_d69 : decode prog_4_method_4_code 69 = .ok (.getstatic 13, 3) := by decide +kernel
theorem own_cm_d72 : decode prog_4_method_4_code 72 = .ok (.if_acmp .ne 7, 3) := by decide +kernel
theorem own_cm_d75 : decode prog_4_method_4_code 75 = .ok (.iconst 1, 1) := by decide +kernel
theorem own_cm_d76 : decode prog_4_method_4_code 76 = .ok (.goto 19, 3) := by decide +kernel
theorem own_cm_d79 : decode prog_4_method_4_code 79 = .ok (.iconst 0, 1) := by decide +kernel
theorem own_cm_d80 : decode prog_4_method_4_code 80 = .ok (.goto 15, 3) := by decide +kernel
theorem own_cm_d83 : decode prog_4_method_4_code 83 = .ok (.aload_n 1, 1) := by decide +kernel
theorem own_cm_d84 : decode prog_4_method_4_code 84 = .ok (.getstatic 10, 3) := by decide +kernel
theorem own_cm_d87 : decode prog_4_method_4_code 87 = .ok (.if_acmp .ne 7, 3) := by decide +kernel
theorem own_cm_d90 : decode prog_4_method_4_code 90 = .ok (.iconst 1, 1) := by decide +kernel
theorem own_cm_d91 : decode prog_4_method_4_code 91 = .ok (.goto 4, 3) := by decide +kernel
theorem own_cm_d94 : decode prog_4_method_4_code 94 = .ok (.iconst 0, 1) := by decide +kernel
theorem own_cm_d95 : decode prog_4_method_4_code 95 = .ok (.ireturn, 1) := by decide +kernel
theorem own_cm_pn : plainName "com/example/honeybee/honeybee/device/KeyStatus" = true := by first | (simp [plainName, overriddenIn]; done) | decide +kernel
theorem own_cm_ef (m : MethodId) (th : Addr) (nx : Addr) : entryFrame m #[(.ref th), (.ref nx)] 2 = mkF m 0 #[rv th, rv nx] [] := by first | (simp [entryFrame, mkF, argsToLocals, Value.category]; done) | rfl
def own_cm_Q (Z : State) (th : Addr) (nx : Addr) (od : Int32) (aA aR : Addr) (h0 : Heap) (n0 : Nat) (v : Option Value) (h : Heap) (L : List Loc) : Prop := v = some (.int (own_can od nx aA aR)) ∧ Fr n0 L ∧ h = h0
set_option maxRecDepth 65536 in
set_option maxHeartbeats 40000000 in
theorem own_cm (l : Launch) (Z : State) (a0 : Array Value) (hw : ∀ d ∈ tables_1, d.before a0 Z = true) (ws : List Jvm.Cond) (th : Addr) (nx : Addr) (od : Int32) (aA aR : Addr) (h0 : Heap) (n0 : Nat) (E1 : Exa Z h0 th "com/example/honeybee/honeybee/device/KeyStatus") (F1 : Fld Z h0 th "java/lang/Enum" "ordinal" "I" (.int od)) (S_ACCEPTED : Sta Z h0 "com/example/honeybee/honeybee/device/KeyStatus" "ACCEPTED" "Lcom/example/honeybee/honeybee/device/KeyStatus;" (.ref aA)) (S_REJECTED : Sta Z h0 "com/example/honeybee/honeybee/device/KeyStatus" "REJECTED" "Lcom/example/honeybee/honeybee/device/KeyStatus;" (.ref aR)) (ho : od = 0 ∨ od = 1 ∨ od = 2 ∨ od = 3) :
    MetFree l own_y4 (head1 (Jvm.Cond.code own_y4 prog_4_method_4_code 2 (some .boolean) :: ws) ({ frames := 1, cells := 0, slots := 0, locals := 12 } : Room)) (fun a U => a = #[(.ref th), (.ref nx)] ∧ Z.Warmed39 U.vm ∧ U.heap = h0) (fun _ _ _ _ _ => True) (fun _ U o U' => ∃ v L, o = .returned v ∧ (own_cm_Q Z th nx od aA aR h0 n0) v U'.heap L ∧ FrameEnd U o U' L ({ frames := 1, cells := 0, slots := 0, locals := 12 } : Room).cells ({ frames := 1, cells := 0, slots := 0, locals := 12 } : Room).slots) := by
  refine MetFree.of_bodySF (plainFor_of_name own_cm_pn) hisR ?_
  intro p e s m args below meth c s₁ Bd hml0 hP hK
  obtain ⟨rfl, hZ, hh⟩ := hP
  have hx := Bd.exec
  have hby := Bd.bytes
  have hml : c.maxLocals = 2 := hml0
  have hown : s.vm.findClass "com/example/honeybee/honeybee/device/KeyStatus" = some m.cls := findClass_of_methodNamed Bd.named
  have hnm := (name_of_methodNamed Bd.named Bd.method).1
  have hlk : meth.locks = false := Bd.notSynchronized
  have X0 : Stand p l e ({ frames := 1, cells := 0, slots := 0, locals := 12 } : Room) s m #[(.ref th), (.ref nx)] below meth c s₁ [] 0 0 := Stand.of_body Bd
  have e0 : s₁.heap = h0 := by rw [← hh, Bd.state]; rfl
  have N0 := Fr.nil n0
  have w_16 := hw _ (List.mem_of_getElem? (l := tables_1) (i := 16) rfl)
  have w_17 := hw _ (List.mem_of_getElem? (l := tables_1) (i := 17) rfl)
  have w_18 := hw _ (List.mem_of_getElem? (l := tables_1) (i := 18) rfl)
  have w_19 := hw _ (List.mem_of_getElem? (l := tables_1) (i := 19) rfl)
  have w_20 := hw _ (List.mem_of_getElem? (l := tables_1) (i := 20) rfl)
  have w_21 := hw _ (List.mem_of_getElem? (l := tables_1) (i := 21) rfl)
  have w_22 := hw _ (List.mem_of_getElem? (l := tables_1) (i := 22) rfl)
  have w_25 := hw _ (List.mem_of_getElem? (l := tables_1) (i := 25) rfl)
  have w_26 := hw _ (List.mem_of_getElem? (l := tables_1) (i := 26) rfl)
  show own_G p.tables e below (fun o U' => ∃ v L, o = .returned v ∧ (own_cm_Q Z th nx od aA aR h0 n0) v U'.heap L ∧ FrameEnd s o U' L ({ frames := 1, cells := 0, slots := 0, locals := 12 } : Room).cells ({ frames := 1, cells := 0, slots := 0, locals := 12 } : Room).slots) (s₁.setTop (entryFrame m #[(.ref th), (.ref nx)] 2))
  refine own_go (B := s₁.setTop (mkF m 0 #[rv th, rv nx] [])) (fun t k => castTop (own_cm_ef m th nx) k) ?_
  refine own_go (B := (s₁.setTop (mkF m 1 #[rv th, rv nx] [(.ref th)]))) (fun t k => XS.aloadN X0.here hx rfl (hb hby own_cm_d0) rfl rfl k) ?_
  obtain ⟨cq1, kq1, qa1, qb1, qc1⟩ := isOf hZ e0 E1
  obtain ⟨_, _, ⟨T1, L1, k1, n1⟩, -, X1, ⟨Lc1, hQ1, l1, y1, z1⟩, st1⟩ := X0.virtualBackUp hx (owner := "java/lang/Enum") (x := own_y1) (y := own_y2) hown (mvT hZ w_16) (mvT hZ w_17) (mvT hZ w_18) (by decide) (mvT hZ w_20) (mvT hZ w_19) (backOf (W := 0) (own_or l Z a0 hw [] th od h0 n0 F1) hZ w_22 w_21 (by decide) (by decide)) qa1 qc1 (g := (mkF m 1 #[rv th, rv nx] [(.ref th)])) rfl (by rw [hml]; rfl) (Steps.refl _) (argsL := []) (rest := []) (lenOf own_pd1 rfl) rfl (by show 2 * 0 + _ ≤ _; exact own_b rfl) (hb hby own_cm_d1) (fun _ _ => ⟨rfl, e0, (own_b rfl : 0 + 0 ≤ _), (own_b rfl : 0 + 0 ≤ _)⟩)
  dsimp only [Pt.U, Pt.locs, Pt.cells, Pt.slots] at X1 l1 y1 z1 st1 hQ1
  subst l1 y1 z1
  obtain ⟨rfl, Nq1, eq1⟩ := hQ1
  have N1 := Fr.app N0 Nq1
  have e1 : T1.heap = h0 := eq1
  refine own_tr (B := (T1.setTop (mkF m 4 #[rv th, rv nx] [(.int od)]))) st1 ?_
  rcases ho with ho | ho | ho | ho
  · refine own_go (B := (T1.setTop (mkF m 46 #[rv th, rv nx] []))) (fun t k => XS.tswIn X1.here hx rfl (pc0 := 4) (pc' := 46) rfl (hb hby own_cm_d4) rfl (by rw [ho]; decide) (o := 42) (by rw [ho]; decide) (by decide) (by decide) k) ?_
    refine own_go (B := (T1.setTop (mkF m 47 #[rv th, rv nx] [(.ref nx)]))) (fun t k => XS.aloadN X1.here hx rfl (hb hby own_cm_d46) rfl rfl k) ?_
    obtain ⟨T2, X2, e2, st2⟩ := getS X1 hx hZ hown (host := "") w_25 Via.refl e1 S_ACCEPTED (g := (mkF m 47 #[rv th, rv nx] [(.ref nx)])) rfl (hb hby own_cm_d47)
    refine own_go (B := (T2.setTop (mkF m 50 #[rv th, rv nx] [(.ref aA), (.ref nx)]))) st2 ?_
    rcases Classical.em (nx = aA) with hc50 | hc50
    · refine own_acmpAE X2 hx (hb hby own_cm_d50) (pc' := 60) (by decide) (by decide) hc50 ?_
      refine own_go (B := (T2.setTop (mkF m 61 #[rv th, rv nx] [(.int (1 : Int32))]))) (fun t k => XS.iconst X2.here hx rfl (hb hby own_cm_d60) k) ?_
      refine own_go (B := (T2.setTop (mkF m 95 #[rv th, rv nx] [(.int (1 : Int32))]))) (fun t k => XS.goto X2.here hx rfl (pc0 := 61) (pc' := 95) rfl (hb hby own_cm_d61) (by decide) (by decide) k) ?_
      exact own_retZ X2 hx hlk Bd.returns (hb hby own_cm_d95) (by decide) (own_b rfl) (own_b rfl) (Q := (own_cm_Q Z th nx od aA aR h0 n0)) ⟨by simp +decide [own_can, ho, hc50], N1, e2⟩
    · refine own_acmpAD X2 hx (hb hby own_cm_d50) (pc' := 53) (by decide) (by decide) hc50 ?_
      refine own_go (B := (T2.setTop (mkF m 54 #[rv th, rv nx] [(.ref nx)]))) (fun t k => XS.aloadN X2.here hx rfl (hb hby own_cm_d53) rfl rfl k) ?_
      obtain ⟨T3, X3, e3, st3⟩ := getS X2 hx hZ hown (host := "") w_26 Via.refl e2 S_REJECTED (g := (mkF m 54 #[rv th, rv nx] [(.ref nx)])) rfl (hb hby own_cm_d54)
      refine own_go (B := (T3.setTop (mkF m 57 #[rv th, rv nx] [(.ref aR), (.ref nx)]))) st3 ?_
      rcases Classical.em (nx = aR) with hc57 | hc57
      · refine own_acmpAE X3 hx (hb hby own_cm_d57) (pc' := 60) (by decide) (by decide) hc57 ?_
        refine own_go (B := (T3.setTop (mkF m 61 #[rv th, rv nx] [(.int (1 : Int32))]))) (fun t k => XS.iconst X3.here hx rfl (hb hby own_cm_d60) k) ?_
        refine own_go (B := (T3.setTop (mkF m 95 #[rv th, rv nx] [(.int (1 : Int32))]))) (fun t k => XS.goto X3.here hx rfl (pc0 := 61) (pc' := 95) rfl (hb hby own_cm_d61) (by decide) (by decide) k) ?_
        exact own_retZ X3 hx hlk Bd.returns (hb hby own_cm_d95) (by decide) (own_b rfl) (own_b rfl) (Q := (own_cm_Q Z th nx od aA aR h0 n0)) ⟨by simp +decide [own_can, ho, hc50, hc57], N1, e3⟩
      · refine own_acmpAD X3 hx (hb hby own_cm_d57) (pc' := 64) (by decide) (by decide) hc57 ?_
        refine own_go (B := (T3.setTop (mkF m 65 #[rv th, rv nx] [(.int (0 : Int32))]))) (fun t k => XS.iconst X3.here hx rfl (hb hby own_cm_d64) k) ?_
        refine own_go (B := (T3.setTop (mkF m 95 #[rv th, rv nx] [(.int (0 : Int32))]))) (fun t k => XS.goto X3.here hx rfl (pc0 := 65) (pc' := 95) rfl (hb hby own_cm_d65) (by decide) (by decide) k) ?_
        exact own_retZ X3 hx hlk Bd.returns (hb hby own_cm_d95) (by decide) (own_b rfl) (own_b rfl) (Q := (own_cm_Q Z th nx od aA aR h0 n0)) ⟨by simp +decide [own_can, ho, hc50, hc57], N1, e3⟩
  · refine own_go (B := (T1.setTop (mkF m 46 #[rv th, rv nx] []))) (fun t k => XS.tswIn X1.here hx rfl (pc0 := 4) (pc' := 46) rfl (hb hby own_cm_d4) rfl (by rw [ho]; decide) (o := 42) (by rw [ho]; decide) (by decide) (by decide) k) ?_
    refine own_go (B := (T1.setTop (mkF m 47 #[rv th, rv nx] [(.ref nx)]))) (fun t k => XS.aloadN X1.here hx rfl (hb hby own_cm_d46) rfl rfl k) ?_
    obtain ⟨T4, X4, e4, st4⟩ := getS X1 hx hZ hown (host := "") w_25 Via.refl e1 S_ACCEPTED (g := (mkF m 47 #[rv th, rv nx] [(.ref nx)])) rfl (hb hby own_cm_d47)
    refine own_go (B := (T4.setTop (mkF m 50 #[rv th, rv nx] [(.ref aA), (.ref nx)]))) st4 ?_
    rcases Classical.em (nx = aA) with hc50 | hc50
    · refine own_acmpAE X4 hx (hb hby own_cm_d50) (pc' := 60) (by decide) (by decide) hc50 ?_
      refine own_go (B := (T4.setTop (mkF m 61 #[rv th, rv nx] [(.int (1 : Int32))]))) (fun t k => XS.iconst X4.here hx rfl (hb hby own_cm_d60) k) ?_
      refine own_go (B := (T4.setTop (mkF m 95 #[rv th, rv nx] [(.int (1 : Int32))]))) (fun t k => XS.goto X4.here hx rfl (pc0 := 61) (pc' := 95) rfl (hb hby own_cm_d61) (by decide) (by decide) k) ?_
      exact own_retZ X4 hx hlk Bd.returns (hb hby own_cm_d95) (by decide) (own_b rfl) (own_b rfl) (Q := (own_cm_Q Z th nx od aA aR h0 n0)) ⟨by simp +decide [own_can, ho, hc50], N1, e4⟩
    · refine own_acmpAD X4 hx (hb hby own_cm_d50) (pc' := 53) (by decide) (by decide) hc50 ?_
      refine own_go (B := (T4.setTop (mkF m 54 #[rv th, rv nx] [(.ref nx)]))) (fun t k => XS.aloadN X4.here hx rfl (hb hby own_cm_d53) rfl rfl k) ?_
      obtain ⟨T5, X5, e5, st5⟩ := getS X4 hx hZ hown (host := "") w_26 Via.refl e4 S_REJECTED (g := (mkF m 54 #[rv th, rv nx] [(.ref nx)])) rfl (hb hby own_cm_d54)
      refine own_go (B := (T5.setTop (mkF m 57 #[rv th, rv nx] [(.ref aR), (.ref nx)]))) st5 ?_
      rcases Classical.em (nx = aR) with hc57 | hc57
      · refine own_acmpAE X5 hx (hb hby own_cm_d57) (pc' := 60) (by decide) (by decide) hc57 ?_
        refine own_go (B := (T5.setTop (mkF m 61 #[rv th, rv nx] [(.int (1 : Int32))]))) (fun t k => XS.iconst X5.here hx rfl (hb hby own_cm_d60) k) ?_
        refine own_go (B := (T5.setTop (mkF m 95 #[rv th, rv nx] [(.int (1 : Int32))]))) (fun t k => XS.goto X5.here hx rfl (pc0 := 61) (pc' := 95) rfl (hb hby own_cm_d61) (by decide) (by decide) k) ?_
        exact own_retZ X5 hx hlk Bd.returns (hb hby own_cm_d95) (by decide) (own_b rfl) (own_b rfl) (Q := (own_cm_Q Z th nx od aA aR h0 n0)) ⟨by simp +decide [own_can, ho, hc50, hc57], N1, e5⟩
      · refine own_acmpAD X5 hx (hb hby own_cm_d57) (pc' := 64) (by decide) (by decide) hc57 ?_
        refine own_go (B := (T5.setTop (mkF m 65 #[rv th, rv nx] [(.int (0 : Int32))]))) (fun t k => XS.iconst X5.here hx rfl (hb hby own_cm_d64) k) ?_
        refine own_go (B := (T5.setTop (mkF m 95 #[rv th, rv nx] [(.int (0 : Int32))]))) (fun t k => XS.goto X5.here hx rfl (pc0 := 65) (pc' := 95) rfl (hb hby own_cm_d65) (by decide) (by decide) k) ?_
        exact own_retZ X5 hx hlk Bd.returns (hb hby own_cm_d95) (by decide) (own_b rfl) (own_b rfl) (Q := (own_cm_Q Z th nx od aA aR h0 n0)) ⟨by simp +decide [own_can, ho, hc50, hc57], N1, e5⟩
  · refine own_go (B := (T1.setTop (mkF m 68 #[rv th, rv nx] []))) (fun t k => XS.tswIn X1.here hx rfl (pc0 := 4) (pc' := 68) rfl (hb hby own_cm_d4) rfl (by rw [ho]; decide) (o := 64) (by rw [ho]; decide) (by decide) (by decide) k) ?_
    refine own_go (B := (T1.setTop (mkF m 69 #[rv th, rv nx] [(.ref nx)]))) (fun t k => XS.aloadN X1.here hx rfl (hb hby own_cm_d68) rfl rfl k) ?_
    obtain ⟨T6, X6, e6, st6⟩ := getS X1 hx hZ hown (host := "") w_26 Via.refl e1 S_REJECTED (g := (mkF m 69 #[rv th, rv nx] [(.ref nx)])) rfl (hb hby own_cm_d69)
    refine own_go (B := (T6.setTop (mkF m 72 #[rv th, rv nx] [(.ref aR), (.ref nx)]))) st6 ?_
    rcases Classical.em (nx = aR) with hc72 | hc72
    · refine own_acmpAE X6 hx (hb hby own_cm_d72) (pc' := 75) (by decide) (by decide) hc72 ?_
      refine own_go (B := (T6.setTop (mkF m 76 #[rv th, rv nx] [(.int (1 : Int32))]))) (fun t k => XS.iconst X6.here hx rfl (hb hby own_cm_d75) k) ?_
      refine own_go (B := (T6.setTop (mkF m 95 #[rv th, rv nx] [(.int (1 : Int32))]))) (fun t k => XS.goto X6.here hx rfl (pc0 := 76) (pc' := 95) rfl (hb hby own_cm_d76) (by decide) (by decide) k) ?_
      exact own_retZ X6 hx hlk Bd.returns (hb hby own_cm_d95) (by decide) (own_b rfl) (own_b rfl) (Q := (own_cm_Q Z th nx od aA aR h0 n0)) ⟨by simp +decide [own_can, ho, hc72], N1, e6⟩
    · refine own_acmpAD X6 hx (hb hby own_cm_d72) (pc' := 79) (by decide) (by decide) hc72 ?_
      refine own_go (B := (T6.setTop (mkF m 80 #[rv th, rv nx] [(.int (0 : Int32))]))) (fun t k => XS.iconst X6.here hx rfl (hb hby own_cm_d79) k) ?_
      refine own_go (B := (T6.setTop (mkF m 95 #[rv th, rv nx] [(.int (0 : Int32))]))) (fun t k => XS.goto X6.here hx rfl (pc0 := 80) (pc' := 95) rfl (hb hby own_cm_d80) (by decide) (by decide) k) ?_
      exact own_retZ X6 hx hlk Bd.returns (hb hby own_cm_d95) (by decide) (own_b rfl) (own_b rfl) (Q := (own_cm_Q Z th nx od aA aR h0 n0)) ⟨by simp +decide [own_can, ho, hc72], N1, e6⟩
  · refine own_go (B := (T1.setTop (mkF m 83 #[rv th, rv nx] []))) (fun t k => XS.tswIn X1.here hx rfl (pc0 := 4) (pc' := 83) rfl (hb hby own_cm_d4) rfl (by rw [ho]; decide) (o := 79) (by rw [ho]; decide) (by decide) (by decide) k) ?_
    refine own_go (B := (T1.setTop (mkF m 84 #[rv th, rv nx] [(.ref nx)]))) (fun t k => XS.aloadN X1.here hx rfl (hb hby own_cm_d83) rfl rfl k) ?_
    obtain ⟨T7, X7, e7, st7⟩ := getS X1 hx hZ hown (host := "") w_25 Via.refl e1 S_ACCEPTED (g := (mkF m 84 #[rv th, rv nx] [(.ref nx)])) rfl (hb hby own_cm_d84)
    refine own_go (B := (T7.setTop (mkF m 87 #[rv th, rv nx] [(.ref aA), (.ref nx)]))) st7 ?_
    rcases Classical.em (nx = aA) with hc87 | hc87
    · refine own_acmpAE X7 hx (hb hby own_cm_d87) (pc' := 90) (by decide) (by decide) hc87 ?_
      refine own_go (B := (T7.setTop (mkF m 91 #[rv th, rv nx] [(.int (1 : Int32))]))) (fun t k => XS.iconst X7.here hx rfl (hb hby own_cm_d90) k) ?_
      refine own_go (B := (T7.setTop (mkF m 95 #[rv th, rv nx] [(.int (1 : Int32))]))) (fun t k => XS.goto X7.here hx rfl (pc0 := 91) (pc' := 95) rfl (hb hby own_cm_d91) (by decide) (by decide) k) ?_
      exact own_retZ X7 hx hlk Bd.returns (hb hby own_cm_d95) (by decide) (own_b rfl) (own_b rfl) (Q := (own_cm_Q Z th nx od aA aR h0 n0)) ⟨by simp +decide [own_can, ho, hc87], N1, e7⟩
    · refine own_acmpAD X7 hx (hb hby own_cm_d87) (pc' := 94) (by decide) (by decide) hc87 ?_
      refine own_go (B := (T7.setTop (mkF m 95 #[rv th, rv nx] [(.int (0 : Int32))]))) (fun t k => XS.iconst X7.here hx rfl (hb hby own_cm_d94) k) ?_
      exact own_retZ X7 hx hlk Bd.returns (hb hby own_cm_d95) (by decide) (own_b rfl) (own_b rfl) (Q := (own_cm_Q Z th nx od aA aR h0 n0)) ⟨by simp +decide [own_can, ho, hc87], N1, e7⟩

theorem own_law_pn : plainName "com/example/honeybee/honeybee/device/KeyStatusCanMoveToPinLaw" = true := by first | (simp [plainName, overriddenIn]; done) | decide +kernel
theorem own_law_ef (m : MethodId) (p0 : Int32) (p1 : Int32) : entryFrame m #[(.int p0), (.int p1)] maxLocals = mkF m 0 #[iv p0, iv p1, .unset, .unset, .unset, .unset] [] := by first | (simp [entryFrame, mkF, argsToLocals, Value.category, maxLocals]; done) | rfl
def own_law_Q (Z : State) (p0 : Int32) (p1 : Int32) (aP aQ aA aR : Addr) (h0 : Heap) (n0 : Nat) (v : Option Value) (h : Heap) (L : List Loc) : Prop := v = some (.int 1) ∧ Fr n0 L
set_option maxRecDepth 65536 in
set_option maxHeartbeats 40000000 in
theorem own_law (l : Launch) (Z : State) (a0 : Array Value) (hw : ∀ d ∈ tables_1, d.before a0 Z = true) (ws : List Jvm.Cond) (p0 : Int32) (p1 : Int32) (aP aQ aA aR : Addr) (h0 : Heap) (n0 : Nat) (S_PENDING : Sta Z h0 "com/example/honeybee/honeybee/device/KeyStatus" "PENDING" "Lcom/example/honeybee/honeybee/device/KeyStatus;" (.ref aP)) (E_PENDING : Exa Z h0 aP "com/example/honeybee/honeybee/device/KeyStatus") (F_PENDING : Fld Z h0 aP "java/lang/Enum" "ordinal" "I" (.int (0 : Int32))) (S_PREAUTHORIZED : Sta Z h0 "com/example/honeybee/honeybee/device/KeyStatus" "PREAUTHORIZED" "Lcom/example/honeybee/honeybee/device/KeyStatus;" (.ref aQ)) (E_PREAUTHORIZED : Exa Z h0 aQ "com/example/honeybee/honeybee/device/KeyStatus") (F_PREAUTHORIZED : Fld Z h0 aQ "java/lang/Enum" "ordinal" "I" (.int (1 : Int32))) (S_ACCEPTED : Sta Z h0 "com/example/honeybee/honeybee/device/KeyStatus" "ACCEPTED" "Lcom/example/honeybee/honeybee/device/KeyStatus;" (.ref aA)) (E_ACCEPTED : Exa Z h0 aA "com/example/honeybee/honeybee/device/KeyStatus") (F_ACCEPTED : Fld Z h0 aA "java/lang/Enum" "ordinal" "I" (.int (2 : Int32))) (S_REJECTED : Sta Z h0 "com/example/honeybee/honeybee/device/KeyStatus" "REJECTED" "Lcom/example/honeybee/honeybee/device/KeyStatus;" (.ref aR)) (E_REJECTED : Exa Z h0 aR "com/example/honeybee/honeybee/device/KeyStatus") (F_REJECTED : Fld Z h0 aR "java/lang/Enum" "ordinal" "I" (.int (3 : Int32))) :
    MetFree l x (head1 (Jvm.Cond.code x code maxLocals ret :: ws) room_1) (fun a U => a = #[(.int p0), (.int p1)] ∧ Z.Warmed39 U.vm ∧ U.heap = h0) (fun _ _ _ _ _ => True) (fun _ U o U' => ∃ v L, o = .returned v ∧ (own_law_Q Z p0 p1 aP aQ aA aR h0 n0) v U'.heap L ∧ FrameEnd U o U' L 0 0) := by
  refine MetFree.of_bodySF (plainFor_of_name own_law_pn) hisR ?_
  intro p e s m args below meth c s₁ Bd hml0 hP hK
  obtain ⟨rfl, hZ, hh⟩ := hP
  have hx := Bd.exec
  have hby := Bd.bytes
  have hml : c.maxLocals = 6 := hml0
  have hown : s.vm.findClass "com/example/honeybee/honeybee/device/KeyStatusCanMoveToPinLaw" = some m.cls := findClass_of_methodNamed Bd.named
  have hnm := (name_of_methodNamed Bd.named Bd.method).1
  have hlk : meth.locks = false := Bd.notSynchronized
  have X0 : Stand p l e room_1 s m #[(.int p0), (.int p1)] below meth c s₁ [] 0 0 := Stand.of_body Bd
  have e0 : s₁.heap = h0 := by rw [← hh, Bd.state]; rfl
  have N0 := Fr.nil n0
  have w_0 := hw _ (List.mem_of_getElem? (l := tables_1) (i := 0) rfl)
  have w_1 := hw _ (List.mem_of_getElem? (l := tables_1) (i := 1) rfl)
  have w_2 := hw _ (List.mem_of_getElem? (l := tables_1) (i := 2) rfl)
  have w_3 := hw _ (List.mem_of_getElem? (l := tables_1) (i := 3) rfl)
  have w_5 := hw _ (List.mem_of_getElem? (l := tables_1) (i := 5) rfl)
  have w_7 := hw _ (List.mem_of_getElem? (l := tables_1) (i := 7) rfl)
  have w_9 := hw _ (List.mem_of_getElem? (l := tables_1) (i := 9) rfl)
  have w_11 := hw _ (List.mem_of_getElem? (l := tables_1) (i := 11) rfl)
  have w_12 := hw _ (List.mem_of_getElem? (l := tables_1) (i := 12) rfl)
  have w_13 := hw _ (List.mem_of_getElem? (l := tables_1) (i := 13) rfl)
  have w_14 := hw _ (List.mem_of_getElem? (l := tables_1) (i := 14) rfl)
  have w_15 := hw _ (List.mem_of_getElem? (l := tables_1) (i := 15) rfl)
  show own_G p.tables e below (fun o U' => ∃ v L, o = .returned v ∧ (own_law_Q Z p0 p1 aP aQ aA aR h0 n0) v U'.heap L ∧ FrameEnd s o U' L 0 0) (s₁.setTop (entryFrame m #[(.int p0), (.int p1)] maxLocals))
  refine own_go (B := s₁.setTop (mkF m 0 #[iv p0, iv p1, .unset, .unset, .unset, .unset] [])) (fun t k => castTop (own_law_ef m p0 p1) k) ?_
  refine own_go (B := (s₁.setTop (mkF m 1 #[iv p0, iv p1, .unset, .unset, .unset, .unset] [(.int p0)]))) (fun t k => XS.iloadN X0.here hx rfl (hb hby at_0) rfl k) ?_
  obtain ⟨_, _, ⟨T1, L1, k1, n1⟩, -, X1, ⟨Lc1, hQ1, l1, y1, z1⟩, st1⟩ := Jvm.LawKit.callS X0 hx (y := own_y3) hown (mvT hZ w_0) (mvT hZ w_1) (mvT hZ w_2) (mvT hZ w_3) (by decide) (backOf (W := 0) (own_pk l Z a0 hw [] p0 aP aQ aA aR h0 n0 S_PENDING S_PREAUTHORIZED S_ACCEPTED S_REJECTED) hZ w_3 w_2 (by decide) (by decide)) (g := (mkF m 1 #[iv p0, iv p1, .unset, .unset, .unset, .unset] [(.int p0)])) rfl (by rw [hml]; rfl) (argsL := [(.int p0)]) (rest := []) (lenOf own_pd2 rfl) rfl (by show 2 * 0 + _ ≤ _; exact own_b rfl) (hb hby at_1) (fun _ _ => ⟨rfl, e0, (own_b rfl : 0 + 0 ≤ _), (own_b rfl : 0 + 0 ≤ _)⟩)
  dsimp only [Pt.U, Pt.locs, Pt.cells, Pt.slots] at X1 l1 y1 z1 st1 hQ1
  subst l1 y1 z1
  obtain ⟨rfl, Nq1, eq1⟩ := hQ1
  have N1 := Fr.app N0 Nq1
  have e1 : T1.heap = h0 := eq1
  refine own_go (B := (T1.setTop (mkF m 4 #[iv p0, iv p1, .unset, .unset, .unset, .unset] [(.ref (own_pick p0 aP aQ aA aR))]))) st1 ?_
  obtain ⟨z4, hz4⟩ : ∃ z : Addr, z = (own_pick p0 aP aQ aA aR) := ⟨_, rfl⟩
  rw [← hz4]
  refine own_go (B := (T1.setTop (mkF m 5 #[iv p0, iv p1, rv z4, .unset, .unset, .unset] []))) (fun t k => XS.astoreN X1.here hx rfl (hb hby at_4) rfl rfl (l' := #[iv p0, iv p1, rv z4, .unset, .unset, .unset]) rfl k) ?_
  refine own_go (B := (T1.setTop (mkF m 6 #[iv p0, iv p1, rv z4, .unset, .unset, .unset] [(.int p1)]))) (fun t k => XS.iloadN X1.here hx rfl (hb hby at_5) rfl k) ?_
  obtain ⟨_, _, ⟨T2, L2, k2, n2⟩, -, X2, ⟨Lc2, hQ2, l2, y2, z2⟩, st2⟩ := Jvm.LawKit.callS X1 hx (y := own_y3) hown (mvT hZ w_0) (mvT hZ w_1) (mvT hZ w_2) (mvT hZ w_3) (by decide) (backOf (W := 0) (own_pk l Z a0 hw [] p1 aP aQ aA aR h0 n0 S_PENDING S_PREAUTHORIZED S_ACCEPTED S_REJECTED) hZ w_3 w_2 (by decide) (by decide)) (g := (mkF m 6 #[iv p0, iv p1, rv z4, .unset, .unset, .unset] [(.int p1)])) rfl (by rw [hml]; rfl) (argsL := [(.int p1)]) (rest := []) (lenOf own_pd2 rfl) rfl (by show 2 * 0 + _ ≤ _; exact own_b rfl) (hb hby at_6) (fun _ _ => ⟨rfl, e1, (own_b rfl : 0 + 0 ≤ _), (own_b rfl : 0 + 0 ≤ _)⟩)
  dsimp only [Pt.U, Pt.locs, Pt.cells, Pt.slots] at X2 l2 y2 z2 st2 hQ2
  subst l2 y2 z2
  obtain ⟨rfl, Nq2, eq2⟩ := hQ2
  have N2 := Fr.app N1 Nq2
  have e2 : T2.heap = h0 := eq2
  refine own_go (B := (T2.setTop (mkF m 9 #[iv p0, iv p1, rv z4, .unset, .unset, .unset] [(.ref (own_pick p1 aP aQ aA aR))]))) st2 ?_
  obtain ⟨z9, hz9⟩ : ∃ z : Addr, z = (own_pick p1 aP aQ aA aR) := ⟨_, rfl⟩
  rw [← hz9]
  refine own_go (B := (T2.setTop (mkF m 10 #[iv p0, iv p1, rv z4, rv z9, .unset, .unset] []))) (fun t k => XS.astoreN X2.here hx rfl (hb hby at_9) rfl rfl (l' := #[iv p0, iv p1, rv z4, rv z9, .unset, .unset]) rfl k) ?_
  obtain ⟨od, hE, hF, hd⟩ := own_pkd (Z := Z) (h := h0) hz4 E_PENDING E_PREAUTHORIZED E_ACCEPTED E_REJECTED F_PENDING F_PREAUTHORIZED F_ACCEPTED F_REJECTED
  have n_PE_A := Fld.ne F_PENDING F_ACCEPTED (by decide)
  have n_PE_R := Fld.ne F_PENDING F_REJECTED (by decide)
  have n_PR_A := Fld.ne F_PREAUTHORIZED F_ACCEPTED (by decide)
  have n_PR_R := Fld.ne F_PREAUTHORIZED F_REJECTED (by decide)
  have n_AC_R := Fld.ne F_ACCEPTED F_REJECTED (by decide)
  refine own_go (B := (T2.setTop (mkF m 11 #[iv p0, iv p1, rv z4, rv z9, .unset, .unset] [(.ref z9)]))) (fun t k => XS.aloadN X2.here hx rfl (hb hby at_10) rfl rfl k) ?_
  obtain ⟨T3, X3, e3, st3⟩ := getS X2 hx hZ hown (host := "") w_9 Via.refl e2 S_ACCEPTED (g := (mkF m 11 #[iv p0, iv p1, rv z4, rv z9, .unset, .unset] [(.ref z9)])) rfl (hb hby at_11)
  refine own_go (B := (T3.setTop (mkF m 14 #[iv p0, iv p1, rv z4, rv z9, .unset, .unset] [(.ref aA), (.ref z9)]))) st3 ?_
  rcases Classical.em (z9 = aA) with hc14 | hc14
  · refine own_acmpAE X3 hx (hb hby at_14) (pc' := 24) (by decide) (by decide) hc14 ?_
    refine own_go (B := (T3.setTop (mkF m 25 #[iv p0, iv p1, rv z4, rv z9, .unset, .unset] [(.int (1 : Int32))]))) (fun t k => XS.iconst X3.here hx rfl (hb hby at_24) k) ?_
    refine own_go (B := (T3.setTop (mkF m 29 #[iv p0, iv p1, rv z4, rv z9, .unset, .unset] [(.int (1 : Int32))]))) (fun t k => XS.goto X3.here hx rfl (pc0 := 25) (pc' := 29) rfl (hb hby at_25) (by decide) (by decide) k) ?_
    refine own_go (B := (T3.setTop (mkF m 31 #[iv p0, iv p1, rv z4, rv z9, iv (1 : Int32), .unset] []))) (fun t k => XS.istore X3.here hx rfl (hb hby at_29) rfl (l' := #[iv p0, iv p1, rv z4, rv z9, iv (1 : Int32), .unset]) rfl k) ?_
    refine own_go (B := (T3.setTop (mkF m 33 #[iv p0, iv p1, rv z4, rv z9, iv (1 : Int32), .unset] [(.int (1 : Int32))]))) (fun t k => XS.iload X3.here hx rfl (hb hby at_31) rfl k) ?_
    have hc33 : ¬ (1 : Int32) = (0 : Int32) := (by decide)
    refine own_ifN X3 hx (hb hby at_33) (pn := 36) rfl hc33 ?_
    refine own_go (B := (T3.setTop (mkF m 37 #[iv p0, iv p1, rv z4, rv z9, iv (1 : Int32), .unset] [(.ref z9)]))) (fun t k => XS.aloadN X3.here hx rfl (hb hby at_36) rfl rfl k) ?_
    refine own_go (B := (T3.setTop (mkF m 38 #[iv p0, iv p1, rv z4, rv z9, iv (1 : Int32), .unset] [(.ref z4), (.ref z9)]))) (fun t k => XS.aloadN X3.here hx rfl (hb hby at_37) rfl rfl k) ?_
    rcases Classical.em (z9 = z4) with hc38 | hc38
    · refine own_acmpAE X3 hx (hb hby at_38) (pc' := 45) (by decide) (by decide) hc38 ?_
      refine own_go (B := (T3.setTop (mkF m 46 #[iv p0, iv p1, rv z4, rv z9, iv (1 : Int32), .unset] [(.int (0 : Int32))]))) (fun t k => XS.iconst X3.here hx rfl (hb hby at_45) k) ?_
      refine own_go (B := (T3.setTop (mkF m 48 #[iv p0, iv p1, rv z4, rv z9, iv (1 : Int32), iv (0 : Int32)] []))) (fun t k => XS.istore X3.here hx rfl (hb hby at_46) rfl (l' := #[iv p0, iv p1, rv z4, rv z9, iv (1 : Int32), iv (0 : Int32)]) rfl k) ?_
      refine own_go (B := (T3.setTop (mkF m 49 #[iv p0, iv p1, rv z4, rv z9, iv (1 : Int32), iv (0 : Int32)] [(.ref z4)]))) (fun t k => XS.aloadN X3.here hx rfl (hb hby at_48) rfl rfl k) ?_
      refine own_go (B := (T3.setTop (mkF m 50 #[iv p0, iv p1, rv z4, rv z9, iv (1 : Int32), iv (0 : Int32)] [(.ref z9), (.ref z4)]))) (fun t k => XS.aloadN X3.here hx rfl (hb hby at_49) rfl rfl k) ?_
      obtain ⟨cq4, kq4, qa4, qb4, qc4⟩ := isOf hZ e3 hE
      obtain ⟨_, _, ⟨T4, L4, k4, n4⟩, -, X4, ⟨Lc4, hQ4, l4, y4, z4⟩, st4⟩ := X3.virtualBack hx (y := own_y4) (z := own_y4) hown (mvT hZ w_11) (mvT hZ w_12) (notFace_of_selects (args := #[]) (mvT hZ w_14)) (mvT hZ w_14) (mvT hZ w_13) (by decide) (backOf (W := 0) (own_cm l Z a0 hw [] z4 z9 od aA aR h0 n0 hE hF S_ACCEPTED S_REJECTED (own_or4 hd)) hZ w_15 w_5 (by decide) (by decide)) qa4 qc4 (g := (mkF m 50 #[iv p0, iv p1, rv z4, rv z9, iv (1 : Int32), iv (0 : Int32)] [(.ref z9), (.ref z4)])) rfl (by rw [hml]; rfl) (Steps.refl _) (argsL := [(.ref z9)]) (rest := []) (lenOf own_pd3 rfl) rfl (by show 2 * 0 + _ ≤ _; exact own_b rfl) (hb hby at_50) (fun _ _ => ⟨rfl, e3, (own_b rfl : 0 + 0 ≤ _), (own_b rfl : 0 + 0 ≤ _)⟩)
      dsimp only [Pt.U, Pt.locs, Pt.cells, Pt.slots] at X4 l4 y4 z4 st4 hQ4
      subst l4 y4 z4
      obtain ⟨rfl, Nq4, eq4⟩ := hQ4
      have N4 := Fr.app N2 Nq4
      have e4 : T4.heap = h0 := eq4
      refine own_tr (B := (T4.setTop (mkF m 53 #[iv p0, iv p1, rv z4, rv z9, iv (1 : Int32), iv (0 : Int32)] [(.int (own_can od z9 aA aR))]))) st4 ?_
      refine own_go (B := (T4.setTop (mkF m 55 #[iv p0, iv p1, rv z4, rv z9, iv (1 : Int32), iv (0 : Int32)] [(.int (0 : Int32)), (.int (own_can od z9 aA aR))]))) (fun t k => XS.iload X4.here hx rfl (hb hby at_53) rfl k) ?_
      have hc55 : (own_can od z9 aA aR) = (0 : Int32) := (own_fin0 hd n_PE_A n_PE_R n_PR_A n_PR_R n_AC_R (Or.inl hc14) hc38)
      refine own_icmpN X4 hx (hb hby at_55) (pn := 58) rfl hc55 ?_
      refine own_go (B := (T4.setTop (mkF m 59 #[iv p0, iv p1, rv z4, rv z9, iv (1 : Int32), iv (0 : Int32)] [(.int (1 : Int32))]))) (fun t k => XS.iconst X4.here hx rfl (hb hby at_58) k) ?_
      refine own_go (B := (T4.setTop (mkF m 63 #[iv p0, iv p1, rv z4, rv z9, iv (1 : Int32), iv (0 : Int32)] [(.int (1 : Int32))]))) (fun t k => XS.goto X4.here hx rfl (pc0 := 59) (pc' := 63) rfl (hb hby at_59) (by decide) (by decide) k) ?_
      exact own_retZ X4 hx hlk Bd.returns (hb hby at_63) (by decide) (own_b rfl) (own_b rfl) (Q := (own_law_Q Z p0 p1 aP aQ aA aR h0 n0)) ⟨rfl, N4⟩
    · refine own_acmpAD X3 hx (hb hby at_38) (pc' := 41) (by decide) (by decide) hc38 ?_
      refine own_go (B := (T3.setTop (mkF m 42 #[iv p0, iv p1, rv z4, rv z9, iv (1 : Int32), .unset] [(.int (1 : Int32))]))) (fun t k => XS.iconst X3.here hx rfl (hb hby at_41) k) ?_
      refine own_go (B := (T3.setTop (mkF m 46 #[iv p0, iv p1, rv z4, rv z9, iv (1 : Int32), .unset] [(.int (1 : Int32))]))) (fun t k => XS.goto X3.here hx rfl (pc0 := 42) (pc' := 46) rfl (hb hby at_42) (by decide) (by decide) k) ?_
      refine own_go (B := (T3.setTop (mkF m 48 #[iv p0, iv p1, rv z4, rv z9, iv (1 : Int32), iv (1 : Int32)] []))) (fun t k => XS.istore X3.here hx rfl (hb hby at_46) rfl (l' := #[iv p0, iv p1, rv z4, rv z9, iv (1 : Int32), iv (1 : Int32)]) rfl k) ?_
      refine own_go (B := (T3.setTop (mkF m 49 #[iv p0, iv p1, rv z4, rv z9, iv (1 : Int32), iv (1 : Int32)] [(.ref z4)]))) (fun t k => XS.aloadN X3.here hx rfl (hb hby at_48) rfl rfl k) ?_
      refine own_go (B := (T3.setTop (mkF m 50 #[iv p0, iv p1, rv z4, rv z9, iv (1 : Int32), iv (1 : Int32)] [(.ref z9), (.ref z4)]))) (fun t k => XS.aloadN X3.here hx rfl (hb hby at_49) rfl rfl k) ?_
      obtain ⟨cq5, kq5, qa5, qb5, qc5⟩ := isOf hZ e3 hE
      obtain ⟨_, _, ⟨T5, L5, k5, n5⟩, -, X5, ⟨Lc5, hQ5, l5, y5, z5⟩, st5⟩ := X3.virtualBack hx (y := own_y4) (z := own_y4) hown (mvT hZ w_11) (mvT hZ w_12) (notFace_of_selects (args := #[]) (mvT hZ w_14)) (mvT hZ w_14) (mvT hZ w_13) (by decide) (backOf (W := 0) (own_cm l Z a0 hw [] z4 z9 od aA aR h0 n0 hE hF S_ACCEPTED S_REJECTED (own_or4 hd)) hZ w_15 w_5 (by decide) (by decide)) qa5 qc5 (g := (mkF m 50 #[iv p0, iv p1, rv z4, rv z9, iv (1 : Int32), iv (1 : Int32)] [(.ref z9), (.ref z4)])) rfl (by rw [hml]; rfl) (Steps.refl _) (argsL := [(.ref z9)]) (rest := []) (lenOf own_pd3 rfl) rfl (by show 2 * 0 + _ ≤ _; exact own_b rfl) (hb hby at_50) (fun _ _ => ⟨rfl, e3, (own_b rfl : 0 + 0 ≤ _), (own_b rfl : 0 + 0 ≤ _)⟩)
      dsimp only [Pt.U, Pt.locs, Pt.cells, Pt.slots] at X5 l5 y5 z5 st5 hQ5
      subst l5 y5 z5
      obtain ⟨rfl, Nq5, eq5⟩ := hQ5
      have N5 := Fr.app N2 Nq5
      have e5 : T5.heap = h0 := eq5
      refine own_tr (B := (T5.setTop (mkF m 53 #[iv p0, iv p1, rv z4, rv z9, iv (1 : Int32), iv (1 : Int32)] [(.int (own_can od z9 aA aR))]))) st5 ?_
      refine own_go (B := (T5.setTop (mkF m 55 #[iv p0, iv p1, rv z4, rv z9, iv (1 : Int32), iv (1 : Int32)] [(.int (1 : Int32)), (.int (own_can od z9 aA aR))]))) (fun t k => XS.iload X5.here hx rfl (hb hby at_53) rfl k) ?_
      have hc55 : (own_can od z9 aA aR) = (1 : Int32) := (own_fin1 hd n_PE_A n_PE_R n_PR_A n_PR_R n_AC_R (Or.inl hc14) hc38)
      refine own_icmpN X5 hx (hb hby at_55) (pn := 58) rfl hc55 ?_
      refine own_go (B := (T5.setTop (mkF m 59 #[iv p0, iv p1, rv z4, rv z9, iv (1 : Int32), iv (1 : Int32)] [(.int (1 : Int32))]))) (fun t k => XS.iconst X5.here hx rfl (hb hby at_58) k) ?_
      refine own_go (B := (T5.setTop (mkF m 63 #[iv p0, iv p1, rv z4, rv z9, iv (1 : Int32), iv (1 : Int32)] [(.int (1 : Int32))]))) (fun t k => XS.goto X5.here hx rfl (pc0 := 59) (pc' := 63) rfl (hb hby at_59) (by decide) (by decide) k) ?_
      exact own_retZ X5 hx hlk Bd.returns (hb hby at_63) (by decide) (own_b rfl) (own_b rfl) (Q := (own_law_Q Z p0 p1 aP aQ aA aR h0 n0)) ⟨rfl, N5⟩
  · refine own_acmpAD X3 hx (hb hby at_14) (pc' := 17) (by decide) (by decide) hc14 ?_
    refine own_go (B := (T3.setTop (mkF m 18 #[iv p0, iv p1, rv z4, rv z9, .unset, .unset] [(.ref z9)]))) (fun t k => XS.aloadN X3.here hx rfl (hb hby at_17) rfl rfl k) ?_
    obtain ⟨T6, X6, e6, st6⟩ := getS X3 hx hZ hown (host := "") w_7 Via.refl e3 S_REJECTED (g := (mkF m 18 #[iv p0, iv p1, rv z4, rv z9, .unset, .unset] [(.ref z9)])) rfl (hb hby at_18)
    refine own_go (B := (T6.setTop (mkF m 21 #[iv p0, iv p1, rv z4, rv z9, .unset, .unset] [(.ref aR), (.ref z9)]))) st6 ?_
    rcases Classical.em (z9 = aR) with hc21 | hc21
    · refine own_acmpAE X6 hx (hb hby at_21) (pc' := 24) (by decide) (by decide) hc21 ?_
      refine own_go (B := (T6.setTop (mkF m 25 #[iv p0, iv p1, rv z4, rv z9, .unset, .unset] [(.int (1 : Int32))]))) (fun t k => XS.iconst X6.here hx rfl (hb hby at_24) k) ?_
      refine own_go (B := (T6.setTop (mkF m 29 #[iv p0, iv p1, rv z4, rv z9, .unset, .unset] [(.int (1 : Int32))]))) (fun t k => XS.goto X6.here hx rfl (pc0 := 25) (pc' := 29) rfl (hb hby at_25) (by decide) (by decide) k) ?_
      refine own_go (B := (T6.setTop (mkF m 31 #[iv p0, iv p1, rv z4, rv z9, iv (1 : Int32), .unset] []))) (fun t k => XS.istore X6.here hx rfl (hb hby at_29) rfl (l' := #[iv p0, iv p1, rv z4, rv z9, iv (1 : Int32), .unset]) rfl k) ?_
      refine own_go (B := (T6.setTop (mkF m 33 #[iv p0, iv p1, rv z4, rv z9, iv (1 : Int32), .unset] [(.int (1 : Int32))]))) (fun t k => XS.iload X6.here hx rfl (hb hby at_31) rfl k) ?_
      have hc33 : ¬ (1 : Int32) = (0 : Int32) := (by decide)
      refine own_ifN X6 hx (hb hby at_33) (pn := 36) rfl hc33 ?_
      refine own_go (B := (T6.setTop (mkF m 37 #[iv p0, iv p1, rv z4, rv z9, iv (1 : Int32), .unset] [(.ref z9)]))) (fun t k => XS.aloadN X6.here hx rfl (hb hby at_36) rfl rfl k) ?_
      refine own_go (B := (T6.setTop (mkF m 38 #[iv p0, iv p1, rv z4, rv z9, iv (1 : Int32), .unset] [(.ref z4), (.ref z9)]))) (fun t k => XS.aloadN X6.here hx rfl (hb hby at_37) rfl rfl k) ?_
      rcases Classical.em (z9 = z4) with hc38 | hc38
      · refine own_acmpAE X6 hx (hb hby at_38) (pc' := 45) (by decide) (by decide) hc38 ?_
        refine own_go (B := (T6.setTop (mkF m 46 #[iv p0, iv p1, rv z4, rv z9, iv (1 : Int32), .unset] [(.int (0 : Int32))]))) (fun t k => XS.iconst X6.here hx rfl (hb hby at_45) k) ?_
        refine own_go (B := (T6.setTop (mkF m 48 #[iv p0, iv p1, rv z4, rv z9, iv (1 : Int32), iv (0 : Int32)] []))) (fun t k => XS.istore X6.here hx rfl (hb hby at_46) rfl (l' := #[iv p0, iv p1, rv z4, rv z9, iv (1 : Int32), iv (0 : Int32)]) rfl k) ?_
        refine own_go (B := (T6.setTop (mkF m 49 #[iv p0, iv p1, rv z4, rv z9, iv (1 : Int32), iv (0 : Int32)] [(.ref z4)]))) (fun t k => XS.aloadN X6.here hx rfl (hb hby at_48) rfl rfl k) ?_
        refine own_go (B := (T6.setTop (mkF m 50 #[iv p0, iv p1, rv z4, rv z9, iv (1 : Int32), iv (0 : Int32)] [(.ref z9), (.ref z4)]))) (fun t k => XS.aloadN X6.here hx rfl (hb hby at_49) rfl rfl k) ?_
        obtain ⟨cq7, kq7, qa7, qb7, qc7⟩ := isOf hZ e6 hE
        obtain ⟨_, _, ⟨T7, L7, k7, n7⟩, -, X7, ⟨Lc7, hQ7, l7, y7, z7⟩, st7⟩ := X6.virtualBack hx (y := own_y4) (z := own_y4) hown (mvT hZ w_11) (mvT hZ w_12) (notFace_of_selects (args := #[]) (mvT hZ w_14)) (mvT hZ w_14) (mvT hZ w_13) (by decide) (backOf (W := 0) (own_cm l Z a0 hw [] z4 z9 od aA aR h0 n0 hE hF S_ACCEPTED S_REJECTED (own_or4 hd)) hZ w_15 w_5 (by decide) (by decide)) qa7 qc7 (g := (mkF m 50 #[iv p0, iv p1, rv z4, rv z9, iv (1 : Int32), iv (0 : Int32)] [(.ref z9), (.ref z4)])) rfl (by rw [hml]; rfl) (Steps.refl _) (argsL := [(.ref z9)]) (rest := []) (lenOf own_pd3 rfl) rfl (by show 2 * 0 + _ ≤ _; exact own_b rfl) (hb hby at_50) (fun _ _ => ⟨rfl, e6, (own_b rfl : 0 + 0 ≤ _), (own_b rfl : 0 + 0 ≤ _)⟩)
        dsimp only [Pt.U, Pt.locs, Pt.cells, Pt.slots] at X7 l7 y7 z7 st7 hQ7
        subst l7 y7 z7
        obtain ⟨rfl, Nq7, eq7⟩ := hQ7
        have N7 := Fr.app N2 Nq7
        have e7 : T7.heap = h0 := eq7
        refine own_tr (B := (T7.setTop (mkF m 53 #[iv p0, iv p1, rv z4, rv z9, iv (1 : Int32), iv (0 : Int32)] [(.int (own_can od z9 aA aR))]))) st7 ?_
        refine own_go (B := (T7.setTop (mkF m 55 #[iv p0, iv p1, rv z4, rv z9, iv (1 : Int32), iv (0 : Int32)] [(.int (0 : Int32)), (.int (own_can od z9 aA aR))]))) (fun t k => XS.iload X7.here hx rfl (hb hby at_53) rfl k) ?_
        have hc55 : (own_can od z9 aA aR) = (0 : Int32) := (own_fin0 hd n_PE_A n_PE_R n_PR_A n_PR_R n_AC_R (Or.inr hc21) hc38)
        refine own_icmpN X7 hx (hb hby at_55) (pn := 58) rfl hc55 ?_
        refine own_go (B := (T7.setTop (mkF m 59 #[iv p0, iv p1, rv z4, rv z9, iv (1 : Int32), iv (0 : Int32)] [(.int (1 : Int32))]))) (fun t k => XS.iconst X7.here hx rfl (hb hby at_58) k) ?_
        refine own_go (B := (T7.setTop (mkF m 63 #[iv p0, iv p1, rv z4, rv z9, iv (1 : Int32), iv (0 : Int32)] [(.int (1 : Int32))]))) (fun t k => XS.goto X7.here hx rfl (pc0 := 59) (pc' := 63) rfl (hb hby at_59) (by decide) (by decide) k) ?_
        exact own_retZ X7 hx hlk Bd.returns (hb hby at_63) (by decide) (own_b rfl) (own_b rfl) (Q := (own_law_Q Z p0 p1 aP aQ aA aR h0 n0)) ⟨rfl, N7⟩
      · refine own_acmpAD X6 hx (hb hby at_38) (pc' := 41) (by decide) (by decide) hc38 ?_
        refine own_go (B := (T6.setTop (mkF m 42 #[iv p0, iv p1, rv z4, rv z9, iv (1 : Int32), .unset] [(.int (1 : Int32))]))) (fun t k => XS.iconst X6.here hx rfl (hb hby at_41) k) ?_
        refine own_go (B := (T6.setTop (mkF m 46 #[iv p0, iv p1, rv z4, rv z9, iv (1 : Int32), .unset] [(.int (1 : Int32))]))) (fun t k => XS.goto X6.here hx rfl (pc0 := 42) (pc' := 46) rfl (hb hby at_42) (by decide) (by decide) k) ?_
        refine own_go (B := (T6.setTop (mkF m 48 #[iv p0, iv p1, rv z4, rv z9, iv (1 : Int32), iv (1 : Int32)] []))) (fun t k => XS.istore X6.here hx rfl (hb hby at_46) rfl (l' := #[iv p0, iv p1, rv z4, rv z9, iv (1 : Int32), iv (1 : Int32)]) rfl k) ?_
        refine own_go (B := (T6.setTop (mkF m 49 #[iv p0, iv p1, rv z4, rv z9, iv (1 : Int32), iv (1 : Int32)] [(.ref z4)]))) (fun t k => XS.aloadN X6.here hx rfl (hb hby at_48) rfl rfl k) ?_
        refine own_go (B := (T6.setTop (mkF m 50 #[iv p0, iv p1, rv z4, rv z9, iv (1 : Int32), iv (1 : Int32)] [(.ref z9), (.ref z4)]))) (fun t k => XS.aloadN X6.here hx rfl (hb hby at_49) rfl rfl k) ?_
        obtain ⟨cq8, kq8, qa8, qb8, qc8⟩ := isOf hZ e6 hE
        obtain ⟨_, _, ⟨T8, L8, k8, n8⟩, -, X8, ⟨Lc8, hQ8, l8, y8, z8⟩, st8⟩ := X6.virtualBack hx (y := own_y4) (z := own_y4) hown (mvT hZ w_11) (mvT hZ w_12) (notFace_of_selects (args := #[]) (mvT hZ w_14)) (mvT hZ w_14) (mvT hZ w_13) (by decide) (backOf (W := 0) (own_cm l Z a0 hw [] z4 z9 od aA aR h0 n0 hE hF S_ACCEPTED S_REJECTED (own_or4 hd)) hZ w_15 w_5 (by decide) (by decide)) qa8 qc8 (g := (mkF m 50 #[iv p0, iv p1, rv z4, rv z9, iv (1 : Int32), iv (1 : Int32)] [(.ref z9), (.ref z4)])) rfl (by rw [hml]; rfl) (Steps.refl _) (argsL := [(.ref z9)]) (rest := []) (lenOf own_pd3 rfl) rfl (by show 2 * 0 + _ ≤ _; exact own_b rfl) (hb hby at_50) (fun _ _ => ⟨rfl, e6, (own_b rfl : 0 + 0 ≤ _), (own_b rfl : 0 + 0 ≤ _)⟩)
        dsimp only [Pt.U, Pt.locs, Pt.cells, Pt.slots] at X8 l8 y8 z8 st8 hQ8
        subst l8 y8 z8
        obtain ⟨rfl, Nq8, eq8⟩ := hQ8
        have N8 := Fr.app N2 Nq8
        have e8 : T8.heap = h0 := eq8
        refine own_tr (B := (T8.setTop (mkF m 53 #[iv p0, iv p1, rv z4, rv z9, iv (1 : Int32), iv (1 : Int32)] [(.int (own_can od z9 aA aR))]))) st8 ?_
        refine own_go (B := (T8.setTop (mkF m 55 #[iv p0, iv p1, rv z4, rv z9, iv (1 : Int32), iv (1 : Int32)] [(.int (1 : Int32)), (.int (own_can od z9 aA aR))]))) (fun t k => XS.iload X8.here hx rfl (hb hby at_53) rfl k) ?_
        have hc55 : (own_can od z9 aA aR) = (1 : Int32) := (own_fin1 hd n_PE_A n_PE_R n_PR_A n_PR_R n_AC_R (Or.inr hc21) hc38)
        refine own_icmpN X8 hx (hb hby at_55) (pn := 58) rfl hc55 ?_
        refine own_go (B := (T8.setTop (mkF m 59 #[iv p0, iv p1, rv z4, rv z9, iv (1 : Int32), iv (1 : Int32)] [(.int (1 : Int32))]))) (fun t k => XS.iconst X8.here hx rfl (hb hby at_58) k) ?_
        refine own_go (B := (T8.setTop (mkF m 63 #[iv p0, iv p1, rv z4, rv z9, iv (1 : Int32), iv (1 : Int32)] [(.int (1 : Int32))]))) (fun t k => XS.goto X8.here hx rfl (pc0 := 59) (pc' := 63) rfl (hb hby at_59) (by decide) (by decide) k) ?_
        exact own_retZ X8 hx hlk Bd.returns (hb hby at_63) (by decide) (own_b rfl) (own_b rfl) (Q := (own_law_Q Z p0 p1 aP aQ aA aR h0 n0)) ⟨rfl, N8⟩
    · refine own_acmpAD X6 hx (hb hby at_21) (pc' := 28) (by decide) (by decide) hc21 ?_
      refine own_go (B := (T6.setTop (mkF m 29 #[iv p0, iv p1, rv z4, rv z9, .unset, .unset] [(.int (0 : Int32))]))) (fun t k => XS.iconst X6.here hx rfl (hb hby at_28) k) ?_
      refine own_go (B := (T6.setTop (mkF m 31 #[iv p0, iv p1, rv z4, rv z9, iv (0 : Int32), .unset] []))) (fun t k => XS.istore X6.here hx rfl (hb hby at_29) rfl (l' := #[iv p0, iv p1, rv z4, rv z9, iv (0 : Int32), .unset]) rfl k) ?_
      refine own_go (B := (T6.setTop (mkF m 33 #[iv p0, iv p1, rv z4, rv z9, iv (0 : Int32), .unset] [(.int (0 : Int32))]))) (fun t k => XS.iload X6.here hx rfl (hb hby at_31) rfl k) ?_
      have hc33 : (0 : Int32) = (0 : Int32) := (by decide)
      refine own_ifY X6 hx (hb hby at_33) (pc' := 45) (by decide) (by decide) hc33 ?_
      refine own_go (B := (T6.setTop (mkF m 46 #[iv p0, iv p1, rv z4, rv z9, iv (0 : Int32), .unset] [(.int (0 : Int32))]))) (fun t k => XS.iconst X6.here hx rfl (hb hby at_45) k) ?_
      refine own_go (B := (T6.setTop (mkF m 48 #[iv p0, iv p1, rv z4, rv z9, iv (0 : Int32), iv (0 : Int32)] []))) (fun t k => XS.istore X6.here hx rfl (hb hby at_46) rfl (l' := #[iv p0, iv p1, rv z4, rv z9, iv (0 : Int32), iv (0 : Int32)]) rfl k) ?_
      refine own_go (B := (T6.setTop (mkF m 49 #[iv p0, iv p1, rv z4, rv z9, iv (0 : Int32), iv (0 : Int32)] [(.ref z4)]))) (fun t k => XS.aloadN X6.here hx rfl (hb hby at_48) rfl rfl k) ?_
      refine own_go (B := (T6.setTop (mkF m 50 #[iv p0, iv p1, rv z4, rv z9, iv (0 : Int32), iv (0 : Int32)] [(.ref z9), (.ref z4)]))) (fun t k => XS.aloadN X6.here hx rfl (hb hby at_49) rfl rfl k) ?_
      obtain ⟨cq9, kq9, qa9, qb9, qc9⟩ := isOf hZ e6 hE
      obtain ⟨_, _, ⟨T9, L9, k9, n9⟩, -, X9, ⟨Lc9, hQ9, l9, y9, z9⟩, st9⟩ := X6.virtualBack hx (y := own_y4) (z := own_y4) hown (mvT hZ w_11) (mvT hZ w_12) (notFace_of_selects (args := #[]) (mvT hZ w_14)) (mvT hZ w_14) (mvT hZ w_13) (by decide) (backOf (W := 0) (own_cm l Z a0 hw [] z4 z9 od aA aR h0 n0 hE hF S_ACCEPTED S_REJECTED (own_or4 hd)) hZ w_15 w_5 (by decide) (by decide)) qa9 qc9 (g := (mkF m 50 #[iv p0, iv p1, rv z4, rv z9, iv (0 : Int32), iv (0 : Int32)] [(.ref z9), (.ref z4)])) rfl (by rw [hml]; rfl) (Steps.refl _) (argsL := [(.ref z9)]) (rest := []) (lenOf own_pd3 rfl) rfl (by show 2 * 0 + _ ≤ _; exact own_b rfl) (hb hby at_50) (fun _ _ => ⟨rfl, e6, (own_b rfl : 0 + 0 ≤ _), (own_b rfl : 0 + 0 ≤ _)⟩)
      dsimp only [Pt.U, Pt.locs, Pt.cells, Pt.slots] at X9 l9 y9 z9 st9 hQ9
      subst l9 y9 z9
      obtain ⟨rfl, Nq9, eq9⟩ := hQ9
      have N9 := Fr.app N2 Nq9
      have e9 : T9.heap = h0 := eq9
      refine own_tr (B := (T9.setTop (mkF m 53 #[iv p0, iv p1, rv z4, rv z9, iv (0 : Int32), iv (0 : Int32)] [(.int (own_can od z9 aA aR))]))) st9 ?_
      refine own_go (B := (T9.setTop (mkF m 55 #[iv p0, iv p1, rv z4, rv z9, iv (0 : Int32), iv (0 : Int32)] [(.int (0 : Int32)), (.int (own_can od z9 aA aR))]))) (fun t k => XS.iload X9.here hx rfl (hb hby at_53) rfl k) ?_
      have hc55 : (own_can od z9 aA aR) = (0 : Int32) := (own_fin2 hd n_PE_A n_PE_R n_PR_A n_PR_R n_AC_R hc14 hc21)
      refine own_icmpN X9 hx (hb hby at_55) (pn := 58) rfl hc55 ?_
      refine own_go (B := (T9.setTop (mkF m 59 #[iv p0, iv p1, rv z4, rv z9, iv (0 : Int32), iv (0 : Int32)] [(.int (1 : Int32))]))) (fun t k => XS.iconst X9.here hx rfl (hb hby at_58) k) ?_
      refine own_go (B := (T9.setTop (mkF m 63 #[iv p0, iv p1, rv z4, rv z9, iv (0 : Int32), iv (0 : Int32)] [(.int (1 : Int32))]))) (fun t k => XS.goto X9.here hx rfl (pc0 := 59) (pc' := 63) rfl (hb hby at_59) (by decide) (by decide) k) ?_
      exact own_retZ X9 hx hlk Bd.returns (hb hby at_63) (by decide) (own_b rfl) (own_b rfl) (Q := (own_law_Q Z p0 p1 aP aQ aA aR h0 n0)) ⟨rfl, N9⟩

set_option maxRecDepth 65536 in
set_option maxHeartbeats 40000000 in
theorem own_comes {Post : Tables → Env → Array Value → State → Outcome → State → Prop} (hpost : ∀ tb e args s v u, (limb_1_1.after args s (.returned v) u = true ∧ limb_1_2.after args s (.returned v) u = true ∧ True) → FrameEnd s (.returned v) u (Jvm.fieldLocs frame_1_writes args s ++ Jvm.arrayLocs frame_1_arrays args s ++ Jvm.staticLocs frame_1_statics s) 0 0 → Post tb e args s (.returned v) u) :
    ArmFor flags0 classFile x code maxLocals ret World_1 tables_1 room_1 Calls_1 rest_1 Pre_1 Post := by
  intro l hfl _ _ p e ha hc hk s m args below hf hA hF happ hP
  obtain ⟨hcalls, hrest, hpre⟩ := hP
  obtain ⟨-, -, -, hnamed, -, -, -, hat⟩ := (Spec.applies_iff hf).mp happ
  obtain ⟨hg, hn⟩ := and_e (Cond.before_iff.mp (show (Jvm.Cond.and given_1 narrow_1).before args s = true from hpre))
  obtain ⟨g0, r0⟩ := and_e hg
  obtain ⟨g1, r1⟩ := and_e r0
  obtain ⟨w0, w1, rfl⟩ : ∃ w0 w1 : Value, args = #[w0, w1] := by
    have hs : args.size = 2 := by simpa [Cond.value, given_1] using g0
    obtain ⟨L⟩ := args
    match L, hs with
    | [w0, w1], _ => exact ⟨w0, w1, rfl⟩
  have hw := fun d (hd : d ∈ tables_1) => atoms_spec (ws := Jvm.Cond.code x code maxLocals ret :: tables_1) hat d (List.mem_cons_of_mem _ hd)
  have hfit : Fit s := fun {y c} hc i hi => by
    obtain ⟨ha, rfl⟩ := Array.getElem?_eq_some_iff.mp hc
    have q := List.all_eq_true.mp ((Array.all_eq_true_iff_forall_mem.mp hF) _ (Array.getElem_mem ha)) i (List.mem_range.mpr hi)
    simpa [Array.getElem?_eq_getElem hi] using q
  obtain ⟨i0, e0⟩ := is_v g1
  obtain rfl : w0 = (.int i0) := Option.some.inj e0
  obtain ⟨i1, e1⟩ := is_v r1
  obtain rfl : w1 = (.int i1) := Option.some.inj e1
  have w_5 := hw _ (List.mem_of_getElem? (l := tables_1) (i := 5) rfl)
  have w_6 := hw _ (List.mem_of_getElem? (l := tables_1) (i := 6) rfl)
  have w_8 := hw _ (List.mem_of_getElem? (l := tables_1) (i := 8) rfl)
  have w_10 := hw _ (List.mem_of_getElem? (l := tables_1) (i := 10) rfl)
  have w_28 := hw _ (List.mem_of_getElem? (l := tables_1) (i := 28) rfl)
  obtain ⟨nn0, nr0⟩ := and_e hn
  obtain ⟨nn1, nr1⟩ := and_e nr0
  obtain ⟨nn2, nr2⟩ := and_e nr1
  obtain ⟨nn3, nr3⟩ := and_e nr2
  obtain ⟨nn4, nr4⟩ := and_e nr3
  obtain ⟨nn5, nr5⟩ := and_e nr4
  obtain ⟨nn6, nr6⟩ := and_e nr5
  obtain ⟨a_PENDING, ev_PENDING⟩ := exa_v nn0
  have E_PENDING : Exa s s.heap a_PENDING "com/example/honeybee/honeybee/device/KeyStatus" := Exa.start ev_PENDING nn0
  have S_PENDING : Sta s s.heap "com/example/honeybee/honeybee/device/KeyStatus" "PENDING" "Lcom/example/honeybee/honeybee/device/KeyStatus;" (.ref a_PENDING) := Sta.start ev_PENDING (Or.inr ⟨w_5, w_6⟩)
  obtain ⟨a_REJECTED, ev_REJECTED⟩ := exa_v nn1
  have E_REJECTED : Exa s s.heap a_REJECTED "com/example/honeybee/honeybee/device/KeyStatus" := Exa.start ev_REJECTED nn1
  have S_REJECTED : Sta s s.heap "com/example/honeybee/honeybee/device/KeyStatus" "REJECTED" "Lcom/example/honeybee/honeybee/device/KeyStatus;" (.ref a_REJECTED) := Sta.start ev_REJECTED (Or.inr ⟨w_5, w_8⟩)
  obtain ⟨a_ACCEPTED, ev_ACCEPTED⟩ := exa_v nn2
  have E_ACCEPTED : Exa s s.heap a_ACCEPTED "com/example/honeybee/honeybee/device/KeyStatus" := Exa.start ev_ACCEPTED nn2
  have S_ACCEPTED : Sta s s.heap "com/example/honeybee/honeybee/device/KeyStatus" "ACCEPTED" "Lcom/example/honeybee/honeybee/device/KeyStatus;" (.ref a_ACCEPTED) := Sta.start ev_ACCEPTED (Or.inr ⟨w_5, w_10⟩)
  obtain ⟨a_PREAUTHORIZED, ev_PREAUTHORIZED⟩ := exa_v nn6
  have E_PREAUTHORIZED : Exa s s.heap a_PREAUTHORIZED "com/example/honeybee/honeybee/device/KeyStatus" := Exa.start ev_PREAUTHORIZED nn6
  have S_PREAUTHORIZED : Sta s s.heap "com/example/honeybee/honeybee/device/KeyStatus" "PREAUTHORIZED" "Lcom/example/honeybee/honeybee/device/KeyStatus;" (.ref a_PREAUTHORIZED) := Sta.start ev_PREAUTHORIZED (Or.inr ⟨w_5, w_28⟩)
  have F_REJECTED_ordinal : Fld s s.heap a_REJECTED "java/lang/Enum" "ordinal" "I" (.int (3 : Int32)) := Fld.start ((fld_at ev_REJECTED).symm.trans (own_eqint nn3))
  have F_ACCEPTED_ordinal : Fld s s.heap a_ACCEPTED "java/lang/Enum" "ordinal" "I" (.int (2 : Int32)) := Fld.start ((fld_at ev_ACCEPTED).symm.trans (own_eqint nn4))
  have F_PENDING_ordinal : Fld s s.heap a_PENDING "java/lang/Enum" "ordinal" "I" (.int (0 : Int32)) := Fld.start ((fld_at ev_PENDING).symm.trans (own_eqint nn5))
  have F_PREAUTHORIZED_ordinal : Fld s s.heap a_PREAUTHORIZED "java/lang/Enum" "ordinal" "I" (.int (1 : Int32)) := Fld.start ((fld_at ev_PREAUTHORIZED).symm.trans (own_eqint nr6))
  obtain ⟨n, o, h1, h2, h3, _, L, rfl, ⟨rfl, N⟩, hq⟩ := own_law l s _ hw tables_1 i0 i1 a_PENDING a_PREAUTHORIZED a_ACCEPTED a_REJECTED s.heap s.heap.size S_PENDING E_PENDING F_PENDING_ordinal S_PREAUTHORIZED E_PREAUTHORIZED F_PREAUTHORIZED_ordinal S_ACCEPTED E_ACCEPTED F_ACCEPTED_ordinal S_REJECTED E_REJECTED F_REJECTED_ordinal p e ha hc hk s m _ below hf ((Spec.applies_iff_loose hf).mp happ).1 ⟨rfl, State.Warmed39.refl s, rfl⟩ trivial
  refine ⟨n, _, h1, h2, h3, hpost _ _ _ _ _ _ ⟨Cond.after_iff.mpr rfl, Cond.after_iff.mpr (eq_i res_at (Term.int_eval (1)) rfl), trivial⟩ ⟨hq.1, hq.2.1, (hq.2.2.sift fun y hy => Or.inr (N y hy)).mono (by decide) (by decide)⟩⟩
theorem main_1_1 : Claimed_1_1 := own_comes fun _ _ _ _ _ _ h hF => ⟨h.1, hF⟩
theorem main_1_2 : Claimed_1_2 := own_comes fun _ _ _ _ _ _ h hF => ⟨h.2.1, hF⟩
end Jvm.Pilot.@@N@@
namespace Jvm.Pilot.@@N@@
open Jvm Jvm.ClassFile Sem Op Lib Jvm.Free Jvm.Stand Jvm.Pilot.@@N@@.Jvm.D
/-! MADE BY PROGRAM (witnessworld.py) out of the Statement's table words and the real class files: 12 classes; the members and pool entries that the words name. The judged class is class 1, her method 2. -/
namespace start1
open Jvm.ClassFile
def u (s : String) : CpInfo := .utf8 (stringToUtf16 s)
/-- a pool by its gaps: so many unusable entries, then the entry; so many at the end -/
def gap : Nat → List CpInfo → List CpInfo
  | 0, r => r
  | n + 1, r => .unusable :: gap n r
def poolList (es : List (Nat × CpInfo)) (last : Nat) : List CpInfo := es.foldr (fun e r => gap e.1 (e.2 :: r)) (gap last [])
def pool (es : List (Nat × CpInfo)) (last : Nat) : Array CpInfo := ⟨poolList es last⟩
def fileOf (pool : Array CpInfo) (this : Nat) (attrs : Array Attribute := #[]) (ms : Array MethodInfo := #[]) (fl : Nat := 33) (sup : Nat := 0) (ifs : Array Nat := #[]) (fds : Array FieldInfo := #[]) : ClassFile where
  minorVersion := 0
  majorVersion := 65
  constantPool := pool
  accessFlags := fl
  thisClass := this
  superClass := sup
  interfaces := ifs
  fields := fds
  methods := ms
  attributes := attrs
def plain (name : String) (sup : Option ClassId) : Class where
  name := name
  kind := .ordinary
  loader := none
  accessFlags := 33
  super := sup
  interfaces := #[]
  cf := none
  fields := #[]
  methods := #[]
  instanceTypes := #[]
  staticTypes := #[]
  resolved := #[]
  callSites := []
  init := .initialized
  statics := none
  mirror := none

def pool0 : Array CpInfo := pool [(5, u "<init>"), (0, u "()V"), (1, .class_ 10), (1, u "java/lang/Object")] 113

def k0m0 : Method := { name := "<init>", desc := "()V", sig := { parameters := [], returnType := none }, accessFlags := 1, code := none }
/-- java/lang/Object -/
def k0 : Class := { plain "java/lang/Object" none with
  accessFlags := 33
  interfaces := #[]
  cf := some (fileOf pool0 8 #[] #[{ accessFlags := 1, nameIndex := 5, descriptorIndex := 6, attributes := #[] }] 33 0 #[] #[])
  fields := #[]
  methods := #[k0m0]
  instanceTypes := #[]
  staticTypes := #[]
  resolved := Array.replicate 124 none
  statics := none }

def pool1 : Array CpInfo := pool [(2, .class_ 4), (1, u "java/lang/Object"), (0, u "<init>"), (0, u "()V"), (0, .fieldref 8 9), (0, .class_ 10), (0, .nameAndType 11 12), (0, u "com/example/honeybee/honeybee/device/KeyStatus"), (0, u "PENDING"), (0, u "Lcom/example/honeybee/honeybee/device/KeyStatus;"), (0, .fieldref 8 14), (0, .nameAndType 15 12), (0, u "PREAUTHORIZED"), (0, .fieldref 8 17), (0, .nameAndType 18 12), (0, u "ACCEPTED"), (0, .fieldref 8 20), (0, .nameAndType 21 12), (0, u "REJECTED"), (0, .methodref 23 24), (0, .class_ 25), (0, .nameAndType 26 27), (0, u "com/example/honeybee/honeybee/device/KeyStatusCanMoveToPinLaw"), (0, u "pick"), (0, u "(I)Lcom/example/honeybee/honeybee/device/KeyStatus;"), (0, .methodref 8 29), (0, .nameAndType 30 31), (0, u "canMoveTo"), (0, u "(Lcom/example/honeybee/honeybee/device/KeyStatus;)Z"), (3, u "law"), (0, u "(II)Z")] 2

def k1m0 : Method := { name := "<init>", desc := "()V", sig := { parameters := [], returnType := none }, accessFlags := 1, code := none }
def k1c1 : Code := { maxStack := 2, maxLocals := 2, code := method_2_code, exceptionTable := #[], attributes := #[] }
def k1m1 : Method := { name := "pick", desc := "(I)Lcom/example/honeybee/honeybee/device/KeyStatus;", sig := { parameters := [.int], returnType := some (.object "com/example/honeybee/honeybee/device/KeyStatus") }, accessFlags := 10, code := some k1c1 }
def k1c2 : Code := { maxStack := 2, maxLocals := 6, code := code, exceptionTable := #[], attributes := #[] }
def k1m2 : Method := { name := "law", desc := "(II)Z", sig := { parameters := [.int, .int], returnType := some .boolean }, accessFlags := 9, code := some k1c2 }
/-- com/example/honeybee/honeybee/device/KeyStatusCanMoveToPinLaw -/
def k1 : Class := { plain "com/example/honeybee/honeybee/device/KeyStatusCanMoveToPinLaw" (some 0) with
  accessFlags := 49
  interfaces := #[]
  cf := some (fileOf pool1 23 #[] #[{ accessFlags := 1, nameIndex := 5, descriptorIndex := 6, attributes := #[] }, { accessFlags := 10, nameIndex := 26, descriptorIndex := 27, attributes := #[] }, { accessFlags := 9, nameIndex := 35, descriptorIndex := 36, attributes := #[] }] 49 2 #[] #[])
  fields := #[]
  methods := #[k1m0, k1m1, k1m2]
  instanceTypes := #[]
  staticTypes := #[]
  resolved := Array.replicate 39 none
  statics := none }

def pool2 : Array CpInfo := pool [(1, .class_ 2), (0, u "java/lang/constant/Constable"), (0, .class_ 4), (0, u "java/lang/Object")] 6

/-- java/lang/constant/Constable -/
def k2 : Class := { plain "java/lang/constant/Constable" (some 0) with
  accessFlags := 1537
  interfaces := #[]
  cf := some (fileOf pool2 1 #[] #[] 1537 3 #[] #[])
  fields := #[]
  methods := #[]
  instanceTypes := #[]
  staticTypes := #[]
  resolved := Array.replicate 11 none
  statics := none }

def pool3 : Array CpInfo := pool [(1, .class_ 2), (0, u "java/lang/Comparable"), (0, .class_ 4), (0, u "java/lang/Object")] 7

/-- java/lang/Comparable -/
def k3 : Class := { plain "java/lang/Comparable" (some 0) with
  accessFlags := 1537
  interfaces := #[]
  cf := some (fileOf pool3 1 #[] #[] 1537 3 #[] #[])
  fields := #[]
  methods := #[]
  instanceTypes := #[]
  staticTypes := #[]
  resolved := Array.replicate 12 none
  statics := none }

def pool4 : Array CpInfo := pool [(1, .class_ 2), (0, u "java/io/Serializable"), (0, .class_ 4), (0, u "java/lang/Object")] 2

/-- java/io/Serializable -/
def k4 : Class := { plain "java/io/Serializable" (some 0) with
  accessFlags := 1537
  interfaces := #[]
  cf := some (fileOf pool4 1 #[] #[] 1537 3 #[] #[])
  fields := #[]
  methods := #[]
  instanceTypes := #[]
  staticTypes := #[]
  resolved := Array.replicate 7 none
  statics := none }

def pool5 : Array CpInfo := pool [(2, .class_ 4), (1, u "java/lang/Enum"), (0, u "name"), (0, u "Ljava/lang/String;"), (0, .fieldref 2 8), (0, .nameAndType 9 10), (0, u "ordinal"), (0, u "I"), (1, .class_ 14), (1, u "java/lang/Object"), (4, u "hash"), (86, .class_ 108), (1, u "java/lang/Enum$EnumDesc"), (2, .class_ 112), (0, u "java/lang/constant/Constable"), (0, .class_ 114), (0, u "java/lang/Comparable"), (0, .class_ 116), (0, u "java/io/Serializable"), (9, u "()I")] 77

def k5c0 : Code := { maxStack := 1, maxLocals := 1, code := jdk_37_method_2_code, exceptionTable := #[], attributes := #[] }
def k5m0 : Method := { name := "ordinal", desc := "()I", sig := { parameters := [], returnType := some .int }, accessFlags := 17, code := some k5c0 }
/-- java/lang/Enum -/
def k5 : Class := { plain "java/lang/Enum" (some 0) with
  accessFlags := 1057
  interfaces := #[2, 3, 4]
  cf := some (fileOf pool5 2 #[.nestMembers #[106]] #[{ accessFlags := 17, nameIndex := 9, descriptorIndex := 126, attributes := #[] }] 1057 12 #[111, 113, 115] #[{ accessFlags := 18, nameIndex := 5, descriptorIndex := 6, attributes := #[] }, { accessFlags := 18, nameIndex := 9, descriptorIndex := 10, attributes := #[] }, { accessFlags := 2, nameIndex := 19, descriptorIndex := 10, attributes := #[] }])
  fields := #[{ name := "name", type := (.object "java/lang/String"), accessFlags := 18, slot := 0, constantValue := 0 }, { name := "ordinal", type := .int, accessFlags := 18, slot := 1, constantValue := 0 }, { name := "hash", type := .int, accessFlags := 2, slot := 2, constantValue := 0 }]
  methods := #[k5m0]
  instanceTypes := #[(.object "java/lang/String"), .int, .int]
  staticTypes := #[]
  resolved := Array.replicate 204 none
  statics := none }

def pool6 : Array CpInfo := pool [(1, .class_ 2), (0, u "com/example/honeybee/honeybee/device/KeyStatus"), (2, u "PENDING"), (0, u "Lcom/example/honeybee/honeybee/device/KeyStatus;"), (2, u "PREAUTHORIZED"), (0, .fieldref 1 11), (0, .nameAndType 12 6), (0, u "ACCEPTED"), (0, .fieldref 1 14), (0, .nameAndType 15 6), (0, u "REJECTED"), (2, u "$VALUES"), (0, u "[Lcom/example/honeybee/honeybee/device/KeyStatus;"), (6, .class_ 28), (1, u "java/lang/Enum"), (6, .methodref 1 36), (0, .nameAndType 37 38), (0, u "ordinal"), (0, u "()I"), (21, u "canMoveTo"), (0, u "(Lcom/example/honeybee/honeybee/device/KeyStatus;)Z")] 5

def k6c0 : Code := { maxStack := 4, maxLocals := 2, code := prog_4_method_4_code, exceptionTable := #[], attributes := #[] }
def k6m0 : Method := { name := "canMoveTo", desc := "(Lcom/example/honeybee/honeybee/device/KeyStatus;)Z", sig := { parameters := [(.object "com/example/honeybee/honeybee/device/KeyStatus")], returnType := some .boolean }, accessFlags := 0, code := some k6c0 }
/-- com/example/honeybee/honeybee/device/KeyStatus -/
def k6 : Class := { plain "com/example/honeybee/honeybee/device/KeyStatus" (some 5) with
  accessFlags := 16433
  interfaces := #[]
  cf := some (fileOf pool6 1 #[] #[{ accessFlags := 0, nameIndex := 60, descriptorIndex := 61, attributes := #[] }] 16433 26 #[] #[{ accessFlags := 16409, nameIndex := 5, descriptorIndex := 6, attributes := #[] }, { accessFlags := 16409, nameIndex := 9, descriptorIndex := 6, attributes := #[] }, { accessFlags := 16409, nameIndex := 12, descriptorIndex := 6, attributes := #[] }, { accessFlags := 16409, nameIndex := 15, descriptorIndex := 6, attributes := #[] }, { accessFlags := 4122, nameIndex := 18, descriptorIndex := 19, attributes := #[] }])
  fields := #[{ name := "PENDING", type := (.object "com/example/honeybee/honeybee/device/KeyStatus"), accessFlags := 16409, slot := 0, constantValue := 0 }, { name := "PREAUTHORIZED", type := (.object "com/example/honeybee/honeybee/device/KeyStatus"), accessFlags := 16409, slot := 1, constantValue := 0 }, { name := "ACCEPTED", type := (.object "com/example/honeybee/honeybee/device/KeyStatus"), accessFlags := 16409, slot := 2, constantValue := 0 }, { name := "REJECTED", type := (.object "com/example/honeybee/honeybee/device/KeyStatus"), accessFlags := 16409, slot := 3, constantValue := 0 }, { name := "$VALUES", type := (.array (.object "com/example/honeybee/honeybee/device/KeyStatus")), accessFlags := 4122, slot := 4, constantValue := 0 }]
  methods := #[k6m0]
  instanceTypes := #[(.object "java/lang/String"), .int, .int]
  staticTypes := #[(.object "com/example/honeybee/honeybee/device/KeyStatus"), (.object "com/example/honeybee/honeybee/device/KeyStatus"), (.object "com/example/honeybee/honeybee/device/KeyStatus"), (.object "com/example/honeybee/honeybee/device/KeyStatus"), (.array (.object "com/example/honeybee/honeybee/device/KeyStatus"))]
  resolved := Array.replicate 67 none
  statics := some 0 }

def pool7 : Array CpInfo := pool [(1, u "java/lang/Cloneable"), (0, .class_ 1), (0, u "java/lang/Object"), (0, .class_ 3)] 3

/-- java/lang/Cloneable -/
def k7 : Class := { plain "java/lang/Cloneable" (some 0) with
  accessFlags := 1537
  interfaces := #[]
  cf := some (fileOf pool7 2 #[] #[] 1537 4 #[] #[])
  fields := #[]
  methods := #[]
  instanceTypes := #[]
  staticTypes := #[]
  resolved := Array.replicate 8 none
  statics := none }

/-- the primitive byte -/
def k8 : Class := { plain "byte" none with kind := .primitive 'B', accessFlags := 0x411 }
/-- [B -/
def k9 : Class := { plain "[B" (some 0) with kind := .array 8 .byte, interfaces := #[7, 4], accessFlags := 1041 }

/-- the primitive int -/
def k10 : Class := { plain "int" none with kind := .primitive 'I', accessFlags := 0x411 }
/-- [I -/
def k11 : Class := { plain "[I" (some 0) with kind := .array 10 .int, interfaces := #[7, 4], accessFlags := 1041 }

def heap : Heap := #[{ cls := 6, slots := #[.ref 1, .ref 2, .ref 3, .ref 4, .null], vm := .statics 6 },
  { cls := 6, slots := #[.null, .int 0, .int 0], vm := .none },
  { cls := 6, slots := #[.null, .int 1, .int 0], vm := .none },
  { cls := 6, slots := #[.null, .int 2, .int 0], vm := .none },
  { cls := 6, slots := #[.null, .int 3, .int 0], vm := .none }]
def classes : Array Class := #[k0, k1, k2, k3, k4, k5, k6, k7, k8, k9, k10, k11]
def interned : List (Array UInt16 × Addr) := []
def slotsUsed : Nat := 17
def theMethod : MethodId := ⟨1, 2⟩
def args0 : Array Value := #[.int 5, .int 300]
def aboutOver (below : List Frame) : State where
  vm := { classes := classes, interned := interned.toArray }
  heap := heap
  slotsUsed := slotsUsed
  threads := #[{ frames := .invoking theMethod args0 :: below }]
def below0 : List Frame := [.native { method := ⟨0, 0⟩, args := #[] }]
def about1 : State := aboutOver below0
def p0 : Program := .bare "" "" ""
def e0 : Env := launch0.env 0 0 0
theorem w_frames : about1.frames = Frame.invoking theMethod args0 :: below0 := rfl
set_option maxRecDepth 65536 in
theorem w_args : argsFit about1.vm theMethod args0 = true := by decide +kernel
set_option maxRecDepth 65536 in
theorem w_heap : heapFits about1 = true := by decide +kernel
set_option maxRecDepth 65536 in
theorem w_runnable : about1.curStatus? = some .runnable := by decide +kernel
set_option maxRecDepth 65536 in
theorem w_alone : about1.alone = true := by decide +kernel
set_option maxRecDepth 65536 in
theorem w_named : about1.methodNamed? x = some theMethod := by decide +kernel
set_option maxRecDepth 65536 in
theorem w_hears : about1.hears theMethod below0 = true := by decide +kernel
set_option maxRecDepth 65536 in
theorem w_ripe : about1.ripe theMethod args0 below0 = true := by decide +kernel
theorem w_running : about1.status = .running := rfl
set_option maxRecDepth 65536 in
theorem w_room : about1.hasRoom e0.platform room_1 = true :=
  launch0.hasRoom_least _ room_1 (by decide +kernel) (by decide +kernel) (by decide +kernel) (by decide +kernel) (by decide +kernel) (by decide +kernel)
theorem allAtoms_all (ts : List Jvm.Cond) (a : Array Jvm.Value) (st : Jvm.State) : (allAtoms ts).before a st = ts.all (fun c => c.before a st) := by
  induction ts with
  | nil => rfl
  | cons c t ih =>
    show (Jvm.Cond.and c (allAtoms t)).before a st = _
    rw [Jvm.Cond.before_and, ih, List.all_cons]
def words1 : List Jvm.Cond := Jvm.Cond.code x code maxLocals ret :: tables_1
/-- a 'code' word, met by the world's own term for the bytes: nothing is compared byte by byte -/
theorem code_word {y : MethodName} {bytes : ByteArray} {mx : Nat} {rt : Option FieldType} {a : Array Value} {s : State} {m : MethodId} {meth : Method} {c : Code} (h1 : s.methodNamed? y = some m) (h2 : s.vm.method? m = some meth) (h3 : meth.code = some c) (h4 : c.code = bytes)
    (h5 : (c.maxLocals == mx && c.exceptionTable.isEmpty && decide (c.maxStack ≤ mostOperands) && decide (meth.sig.returnType = rt) && !meth.locks && decide (parseMethodDescriptor y.desc = some meth.sig)) = true) : (Jvm.Cond.code y bytes mx rt).before a s = true := by
  simp only [Bool.and_eq_true, beq_iff_eq, Bool.not_eq_true', decide_eq_true_eq] at h5
  obtain ⟨⟨⟨⟨⟨g1, g2⟩, g3⟩, g4⟩, g5⟩, g6⟩ := h5
  simp [Cond.before, Cond.holds, Cond.value, h1, h2, h3, h4, g1, g2, g3, g4, g5, g6]
def isCode : Jvm.Cond → Bool
  | .code _ _ _ _ => true
  | _ => false
theorem all_split {L : List Jvm.Cond} {P : Jvm.Cond → Bool} (h1 : L.all (fun c => isCode c || P c) = true) (h2 : ∀ c ∈ L.filter isCode, P c = true) : L.all P = true := by
  refine List.all_eq_true.mpr fun c hc => ?_
  have h := List.all_eq_true.mp h1 c hc
  rcases Bool.eq_false_or_eq_true (isCode c) with hi | hi
  · exact h2 c (List.mem_filter.mpr ⟨hc, hi⟩)
  · simpa [hi] using h
set_option maxRecDepth 65536 in
theorem w_c0 : (Jvm.Cond.code x code maxLocals ret).before args0 about1 = true := code_word (m := ⟨1, 2⟩) (meth := k1m2) (c := k1c2) (by decide +kernel) rfl rfl rfl (by decide +kernel)
set_option maxRecDepth 65536 in
theorem w_c1 : (Jvm.Cond.code ({ cls := "com/example/honeybee/honeybee/device/KeyStatusCanMoveToPinLaw", name := "pick", desc := "(I)Lcom/example/honeybee/honeybee/device/KeyStatus;" } : Jvm.MethodName) method_2_code (2 : Nat) (Option.some (Jvm.ClassFile.FieldType.object "com/example/honeybee/honeybee/device/KeyStatus"))).before args0 about1 = true := code_word (m := ⟨1, 1⟩) (meth := k1m1) (c := k1c1) (by decide +kernel) rfl rfl rfl (by decide +kernel)
set_option maxRecDepth 65536 in
theorem w_c2 : (Jvm.Cond.code ({ cls := "com/example/honeybee/honeybee/device/KeyStatus", name := "canMoveTo", desc := "(Lcom/example/honeybee/honeybee/device/KeyStatus;)Z" } : Jvm.MethodName) prog_4_method_4_code (2 : Nat) (Option.some Jvm.ClassFile.FieldType.boolean)).before args0 about1 = true := code_word (m := ⟨6, 0⟩) (meth := k6m0) (c := k6c0) (by decide +kernel) rfl rfl rfl (by decide +kernel)
set_option maxRecDepth 65536 in
theorem w_c3 : (Jvm.Cond.code ({ cls := "java/lang/Enum", name := "ordinal", desc := "()I" } : Jvm.MethodName) jdk_37_method_2_code (1 : Nat) (Option.some Jvm.ClassFile.FieldType.int)).before args0 about1 = true := code_word (m := ⟨5, 0⟩) (meth := k5m0) (c := k5c0) (by decide +kernel) rfl rfl rfl (by decide +kernel)
def codes1 : List Jvm.Cond := [Jvm.Cond.code x code maxLocals ret, Jvm.Cond.code ({ cls := "com/example/honeybee/honeybee/device/KeyStatusCanMoveToPinLaw", name := "pick", desc := "(I)Lcom/example/honeybee/honeybee/device/KeyStatus;" } : Jvm.MethodName) method_2_code (2 : Nat) (Option.some (Jvm.ClassFile.FieldType.object "com/example/honeybee/honeybee/device/KeyStatus")), Jvm.Cond.code ({ cls := "com/example/honeybee/honeybee/device/KeyStatus", name := "canMoveTo", desc := "(Lcom/example/honeybee/honeybee/device/KeyStatus;)Z" } : Jvm.MethodName) prog_4_method_4_code (2 : Nat) (Option.some Jvm.ClassFile.FieldType.boolean), Jvm.Cond.code ({ cls := "java/lang/Enum", name := "ordinal", desc := "()I" } : Jvm.MethodName) jdk_37_method_2_code (1 : Nat) (Option.some Jvm.ClassFile.FieldType.int)]
set_option maxRecDepth 65536 in
theorem codes_eq : words1.filter isCode = codes1 := rfl
theorem w_codes : ∀ c ∈ words1.filter isCode, c.before args0 about1 = true := by
  rw [codes_eq]
  intro c hc
  simp only [codes1, List.mem_cons, List.not_mem_nil, or_false] at hc
  rcases hc with rfl | rfl | rfl | rfl
  · exact w_c0
  · exact w_c1
  · exact w_c2
  · exact w_c3
set_option maxRecDepth 65536 in
theorem w_t1 : (words1.take 24).all (fun c => isCode c || c.before args0 about1) = true := by decide +kernel
set_option maxRecDepth 65536 in
theorem w_t2 : (words1.drop 24).all (fun c => isCode c || c.before args0 about1) = true := by decide +kernel
theorem w_tables : (allAtoms (Jvm.Cond.code x code maxLocals ret :: tables_1)).before args0 about1 = true := by
  rw [allAtoms_all]
  show words1.all (fun c => c.before args0 about1) = true
  refine all_split ?_ w_codes
  rw [← List.take_append_drop 24 words1, List.all_append, w_t1, w_t2]
  rfl
set_option maxRecDepth 65536 in
theorem w_case : (Jvm.Cond.and given_1 narrow_1).before args0 about1 = true := by decide +kernel
theorem w_applies : (headSpec (Jvm.Cond.code x code maxLocals ret :: tables_1) room_1).applies x e0.platform about1 = true :=
  (Spec.applies_iff w_frames).mpr ⟨w_running, w_runnable, w_alone, w_named, w_hears, w_ripe, w_room, w_tables⟩
theorem atStart : AtStart classFile x code maxLocals ret World_1 tables_1 room_1 Calls_1 rest_1 Pre_1 launch0 p0 e0 about1 theMethod args0 below0 :=
  ⟨lists_1, trivial, launch0.admits_env _ _ _, launch0.least_env, fairChoices_fair.cas, fairChoices_fair.clock, w_frames, w_args, w_heap, w_applies, trivial, trivial, w_case⟩
end start1
theorem witness_1 : WitnessClaimed_1 := ⟨start1.p0, start1.e0, start1.about1, start1.theMethod, start1.args0, start1.below0, start1.atStart⟩
end Jvm.Pilot.@@N@@
