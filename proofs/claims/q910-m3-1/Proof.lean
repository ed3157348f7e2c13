import JvmDerived
import JvmDerived.Pilot.@@N@@Statement
import JvmDerived.Pilot.@@N@@Code
set_option linter.unusedVariables false
set_option linter.unusedSimpArgs false
namespace Jvm.Pilot.@@N@@
open Jvm Jvm.ClassFile Sem Op Lib Jvm.Free Jvm.Stand Jvm.LawKit Jvm.RoadKit Bundle Jvm.Pilot.@@N@@.Jvm.D
/-! own layer: the walk goes forward; own_G S: from S the body ends as F says -/
def own_G (tb : Tables) (e : Env) (below : List Frame) (F : Outcome → State → Prop) (S : State) : Prop :=
  ∃ s₂ o, Steps tb e below S s₂ ∧ s₂.status = .running ∧ Ended s₂ below o ∧ F o s₂
theorem own_go {tb : Tables} {e : Env} {below : List Frame} {F : Outcome → State → Prop} {A B : State} (st : ∀ t, Steps tb e below B t → Steps tb e below A t) (h : own_G tb e below F B) : own_G tb e below F A := by
  obtain ⟨t, o, h1, h2⟩ := h
  exact ⟨t, o, st t h1, h2⟩
theorem own_tr {tb : Tables} {e : Env} {below : List Frame} {F : Outcome → State → Prop} {A B : State} (st : Steps tb e below A B) (h : own_G tb e below F B) : own_G tb e below F A := own_go (fun _ k => st.trans k) h
theorem own_b {n k : Nat} (h : Nat.ble n k = true) : n ≤ k := Nat.le_of_ble_eq_true h
def own_yes {α : Type} [LT α] : ClassFile.Cond → α → α → Prop
  | .eq, x, y => x = y
  | .ne, x, y => ¬ x = y
  | .lt, x, y => x < y
  | .ge, x, y => ¬ x < y
  | .gt, x, y => y < x
  | .le, x, y => ¬ y < x
def own_no {α : Type} [LT α] : ClassFile.Cond → α → α → Prop
  | .eq, x, y => ¬ x = y
  | .ne, x, y => x = y
  | .lt, x, y => ¬ x < y
  | .ge, x, y => x < y
  | .gt, x, y => ¬ y < x
  | .le, x, y => y < x
theorem own_hy {cd : ClassFile.Cond} {x y : Int32} (h : own_yes cd x y) : if_icmp.holds cd x y = true := by
  cases cd
  · exact (teq h).1
  · exact (feq h).2
  · exact (tlt h).1
  · exact (flt h).2.1
  · exact (tlt h).2.2.1
  · exact (flt h).2.2.2
theorem own_hn {cd : ClassFile.Cond} {x y : Int32} (h : own_no cd x y) : if_icmp.holds cd x y = false := by
  cases cd
  · exact (feq h).1
  · exact (teq h).2
  · exact (flt h).1
  · exact (tlt h).2.1
  · exact (flt h).2.2.1
  · exact (tlt h).2.2.2
theorem own_yn {cd : ClassFile.Cond} {x y : Int32} : own_yes cd x y ∨ own_no cd x y := by
  cases cd
  · exact Classical.em _
  · exact (Classical.em _).symm
  · exact Classical.em _
  · exact (Classical.em _).symm
  · exact Classical.em _
  · exact (Classical.em _).symm
theorem own_ynL {cd : ClassFile.Cond} {x y : Int64} : own_yes cd x y ∨ own_no cd x y := by
  cases cd
  · exact Classical.em _
  · exact (Classical.em _).symm
  · exact Classical.em _
  · exact (Classical.em _).symm
  · exact Classical.em _
  · exact (Classical.em _).symm
theorem own_hyL {cd : ClassFile.Cond} {x y : Int64} (h : own_yes cd x y) : ifCond.holds cd (lcmpW x y) = true := by
  rw [if0]
  refine own_hy ?_
  cases cd
  · exact (lw_eq x y).mpr h
  · exact fun q => h ((lw_eq x y).mp q)
  · exact (lw_lt x y).mpr h
  · exact fun q => h ((lw_lt x y).mp q)
  · exact (lw_gt x y).mpr h
  · exact fun q => h ((lw_gt x y).mp q)
theorem own_hnL {cd : ClassFile.Cond} {x y : Int64} (h : own_no cd x y) : ifCond.holds cd (lcmpW x y) = false := by
  rw [if0]
  refine own_hn ?_
  cases cd
  · exact fun q => h ((lw_eq x y).mp q)
  · exact (lw_eq x y).mpr h
  · exact fun q => h ((lw_lt x y).mp q)
  · exact (lw_lt x y).mpr h
  · exact fun q => h ((lw_gt x y).mp q)
  · exact (lw_gt x y).mpr h
section Own
variable {p : Program} {l : Launch} {e : Env} {R : Room} {s : State} {m : MethodId} {args : Array Value} {below : List Frame} {meth : Method} {c : Code} {T : State} {locs : List Loc} {cells slots : Nat} {F : Outcome → State → Prop}
theorem own_icmpY (X : Stand p l e R s m args below meth c T locs cells slots) (hx : p.tables.exec = Jvm.exec) {cd : ClassFile.Cond} {x y : Int32} {o : Int} {pc pc' : Nat} {Ls : Array Slot} {rest : List Value} (hd : decode c.code pc = .ok (.if_icmp cd o, 3)) (ho : 0 ≤ (pc : Int) + o) (hp : ((pc : Int) + o).toNat = pc')
    (hc : own_yes cd x y) (h1 : own_G p.tables e below F (T.setTop (mkF m pc' Ls rest))) : own_G p.tables e below F (T.setTop (mkF m pc Ls (.int y :: .int x :: rest))) :=
  own_go (fun _ k => XS.icmpYes X.here hx rfl (pc0 := pc) (pc' := pc') rfl hd rfl (own_hy hc) ho hp k) h1
theorem own_icmpN (X : Stand p l e R s m args below meth c T locs cells slots) (hx : p.tables.exec = Jvm.exec) {cd : ClassFile.Cond} {x y : Int32} {o : Int} {pc pn : Nat} {Ls : Array Slot} {rest : List Value} (hd : decode c.code pc = .ok (.if_icmp cd o, 3)) (hq : pc + 3 = pn)
    (hc : own_no cd x y) (h1 : own_G p.tables e below F (T.setTop (mkF m pn Ls rest))) : own_G p.tables e below F (T.setTop (mkF m pc Ls (.int y :: .int x :: rest))) := by
  subst hq
  exact own_go (fun _ k => XS.icmpNo X.here hx rfl hd rfl (own_hn hc) k) h1
theorem own_icmp (X : Stand p l e R s m args below meth c T locs cells slots) (hx : p.tables.exec = Jvm.exec) {cd : ClassFile.Cond} {x y : Int32} {o : Int} {pc pc' pn : Nat} {Ls : Array Slot} {rest : List Value} (hd : decode c.code pc = .ok (.if_icmp cd o, 3)) (ho : 0 ≤ (pc : Int) + o) (hp : ((pc : Int) + o).toNat = pc') (hq : pc + 3 = pn)
    (h1 : own_yes cd x y → own_G p.tables e below F (T.setTop (mkF m pc' Ls rest))) (h2 : own_no cd x y → own_G p.tables e below F (T.setTop (mkF m pn Ls rest))) : own_G p.tables e below F (T.setTop (mkF m pc Ls (.int y :: .int x :: rest))) :=
  own_yn.elim (fun q => own_icmpY X hx hd ho hp q (h1 q)) (fun q => own_icmpN X hx hd hq q (h2 q))
theorem own_ifY (X : Stand p l e R s m args below meth c T locs cells slots) (hx : p.tables.exec = Jvm.exec) {cd : ClassFile.Cond} {x : Int32} {o : Int} {pc pc' : Nat} {Ls : Array Slot} {rest : List Value} (hd : decode c.code pc = .ok (.ifCond cd o, 3)) (ho : 0 ≤ (pc : Int) + o) (hp : ((pc : Int) + o).toNat = pc')
    (hc : own_yes cd x 0) (h1 : own_G p.tables e below F (T.setTop (mkF m pc' Ls rest))) : own_G p.tables e below F (T.setTop (mkF m pc Ls (.int x :: rest))) :=
  own_go (fun _ k => XS.ifYes X.here hx rfl (pc0 := pc) (pc' := pc') rfl hd rfl ((if0 cd x).trans (own_hy hc)) ho hp k) h1
theorem own_ifN (X : Stand p l e R s m args below meth c T locs cells slots) (hx : p.tables.exec = Jvm.exec) {cd : ClassFile.Cond} {x : Int32} {o : Int} {pc pn : Nat} {Ls : Array Slot} {rest : List Value} (hd : decode c.code pc = .ok (.ifCond cd o, 3)) (hq : pc + 3 = pn)
    (hc : own_no cd x 0) (h1 : own_G p.tables e below F (T.setTop (mkF m pn Ls rest))) : own_G p.tables e below F (T.setTop (mkF m pc Ls (.int x :: rest))) := by
  subst hq
  exact own_go (fun _ k => XS.ifNo X.here hx rfl hd rfl ((if0 cd x).trans (own_hn hc)) k) h1
theorem own_if (X : Stand p l e R s m args below meth c T locs cells slots) (hx : p.tables.exec = Jvm.exec) {cd : ClassFile.Cond} {x : Int32} {o : Int} {pc pc' pn : Nat} {Ls : Array Slot} {rest : List Value} (hd : decode c.code pc = .ok (.ifCond cd o, 3)) (ho : 0 ≤ (pc : Int) + o) (hp : ((pc : Int) + o).toNat = pc') (hq : pc + 3 = pn)
    (h1 : own_yes cd x 0 → own_G p.tables e below F (T.setTop (mkF m pc' Ls rest))) (h2 : own_no cd x 0 → own_G p.tables e below F (T.setTop (mkF m pn Ls rest))) : own_G p.tables e below F (T.setTop (mkF m pc Ls (.int x :: rest))) :=
  own_yn.elim (fun q => own_ifY X hx hd ho hp q (h1 q)) (fun q => own_ifN X hx hd hq q (h2 q))
theorem own_lifY (X : Stand p l e R s m args below meth c T locs cells slots) (hx : p.tables.exec = Jvm.exec) {cd : ClassFile.Cond} {x y : Int64} {o : Int} {pc pc' : Nat} {Ls : Array Slot} {rest : List Value} (hd : decode c.code pc = .ok (.ifCond cd o, 3)) (ho : 0 ≤ (pc : Int) + o) (hp : ((pc : Int) + o).toNat = pc')
    (hc : own_yes cd x y) (h1 : own_G p.tables e below F (T.setTop (mkF m pc' Ls rest))) : own_G p.tables e below F (T.setTop (mkF m pc Ls (.int (lcmpW x y) :: rest))) :=
  own_go (fun _ k => XS.ifYes X.here hx rfl (pc0 := pc) (pc' := pc') rfl hd rfl (own_hyL hc) ho hp k) h1
theorem own_lifN (X : Stand p l e R s m args below meth c T locs cells slots) (hx : p.tables.exec = Jvm.exec) {cd : ClassFile.Cond} {x y : Int64} {o : Int} {pc pn : Nat} {Ls : Array Slot} {rest : List Value} (hd : decode c.code pc = .ok (.ifCond cd o, 3)) (hq : pc + 3 = pn)
    (hc : own_no cd x y) (h1 : own_G p.tables e below F (T.setTop (mkF m pn Ls rest))) : own_G p.tables e below F (T.setTop (mkF m pc Ls (.int (lcmpW x y) :: rest))) := by
  subst hq
  exact own_go (fun _ k => XS.ifNo X.here hx rfl hd rfl (own_hnL hc) k) h1
theorem own_lif (X : Stand p l e R s m args below meth c T locs cells slots) (hx : p.tables.exec = Jvm.exec) {cd : ClassFile.Cond} {x y : Int64} {o : Int} {pc pc' pn : Nat} {Ls : Array Slot} {rest : List Value} (hd : decode c.code pc = .ok (.ifCond cd o, 3)) (ho : 0 ≤ (pc : Int) + o) (hp : ((pc : Int) + o).toNat = pc') (hq : pc + 3 = pn)
    (h1 : own_yes cd x y → own_G p.tables e below F (T.setTop (mkF m pc' Ls rest))) (h2 : own_no cd x y → own_G p.tables e below F (T.setTop (mkF m pn Ls rest))) : own_G p.tables e below F (T.setTop (mkF m pc Ls (.int (lcmpW x y) :: rest))) :=
  own_ynL.elim (fun q => own_lifY X hx hd ho hp q (h1 q)) (fun q => own_lifN X hx hd hq q (h2 q))
theorem own_ret (X : Stand p l e R s m args below meth c T locs cells slots) (hx : p.tables.exec = Jvm.exec) (hlk : meth.locks = false) {K N pc : Nat} {Ls : Array Slot} {w : Value} {t : FieldType} {i : Instr} {rest : List Value} {Q : Option Value → Heap → List Loc → Prop} (hret : meth.sig.returnType = some t) (hn : narrow t w = w)
    (hi : (i = .ireturn ∧ (t = .int ∨ t = .boolean ∨ t = .byte ∨ t = .char ∨ t = .short) ∧ ∃ z, w = .int z) ∨ (i = .lreturn ∧ t = .long ∧ ∃ z, w = .long z) ∨ (i = .dreturn ∧ t = .double ∧ ∃ z, w = .double z) ∨ (i = .freturn ∧ t = .float ∧ ∃ z, w = .float z) ∨ (i = .areturn ∧ t.isReference = true ∧ w.isRef = true))
    (hd : decode c.code pc = .ok (i, 1)) (hK : cells ≤ K) (hN : slots ≤ N) (hQ : Q (some w) T.heap locs) :
    own_G p.tables e below (fun o U' => ∃ v L, o = .returned v ∧ Q v U'.heap L ∧ FrameEnd s o U' L K N) (T.setTop (mkF m pc Ls (w :: rest))) := by
  obtain ⟨fs, hr, hrun, hended, hW, hsame⟩ := X.leave (v := some w) (fun h => by rw [hret] at h; cases h) hlk
  exact ⟨_, _, retOut X hx hret hn hi hd hr, hrun, hended, _, _, rfl, hQ, ⟨_, rfl⟩, hW, hsame.mono hK hN⟩
theorem own_retI (X : Stand p l e R s m args below meth c T locs cells slots) (hx : p.tables.exec = Jvm.exec) (hlk : meth.locks = false) {K N pc : Nat} {Ls : Array Slot} {z : Int32} {rest : List Value} {Q : Option Value → Heap → List Loc → Prop} (hret : meth.sig.returnType = some .int)
    (hd : decode c.code pc = .ok (.ireturn, 1)) (hK : cells ≤ K) (hN : slots ≤ N) (hQ : Q (some (.int z)) T.heap locs) :
    own_G p.tables e below (fun o U' => ∃ v L, o = .returned v ∧ Q v U'.heap L ∧ FrameEnd s o U' L K N) (T.setTop (mkF m pc Ls (.int z :: rest))) :=
  own_ret X hx hlk hret rfl (Or.inl ⟨rfl, Or.inl rfl, z, rfl⟩) hd hK hN hQ
theorem own_retZ (X : Stand p l e R s m args below meth c T locs cells slots) (hx : p.tables.exec = Jvm.exec) (hlk : meth.locks = false) {K N pc : Nat} {Ls : Array Slot} {z : Int32} {rest : List Value} {Q : Option Value → Heap → List Loc → Prop} (hret : meth.sig.returnType = some .boolean)
    (hd : decode c.code pc = .ok (.ireturn, 1)) (hz : z = 0 ∨ z = 1) (hK : cells ≤ K) (hN : slots ≤ N) (hQ : Q (some (.int z)) T.heap locs) :
    own_G p.tables e below (fun o U' => ∃ v L, o = .returned v ∧ Q v U'.heap L ∧ FrameEnd s o U' L K N) (T.setTop (mkF m pc Ls (.int z :: rest))) :=
  own_ret X hx hlk hret (by rcases hz with rfl | rfl <;> rfl) (Or.inl ⟨rfl, Or.inr (Or.inl rfl), z, rfl⟩) hd hK hN hQ
theorem own_retL (X : Stand p l e R s m args below meth c T locs cells slots) (hx : p.tables.exec = Jvm.exec) (hlk : meth.locks = false) {K N pc : Nat} {Ls : Array Slot} {z : Int64} {rest : List Value} {Q : Option Value → Heap → List Loc → Prop} (hret : meth.sig.returnType = some .long)
    (hd : decode c.code pc = .ok (.lreturn, 1)) (hK : cells ≤ K) (hN : slots ≤ N) (hQ : Q (some (.long z)) T.heap locs) :
    own_G p.tables e below (fun o U' => ∃ v L, o = .returned v ∧ Q v U'.heap L ∧ FrameEnd s o U' L K N) (T.setTop (mkF m pc Ls (.long z :: rest))) :=
  own_ret X hx hlk hret rfl (Or.inr (Or.inl ⟨rfl, rfl, z, rfl⟩)) hd hK hN hQ
theorem own_retA (X : Stand p l e R s m args below meth c T locs cells slots) (hx : p.tables.exec = Jvm.exec) (hlk : meth.locks = false) {K N pc : Nat} {Ls : Array Slot} {w : Value} {t : FieldType} {rest : List Value} {Q : Option Value → Heap → List Loc → Prop} (hret : meth.sig.returnType = some t) (ht : t.isReference = true) (hw : w.isRef = true)
    (hd : decode c.code pc = .ok (.areturn, 1)) (hK : cells ≤ K) (hN : slots ≤ N) (hQ : Q (some w) T.heap locs) :
    own_G p.tables e below (fun o U' => ∃ v L, o = .returned v ∧ Q v U'.heap L ∧ FrameEnd s o U' L K N) (T.setTop (mkF m pc Ls (w :: rest))) :=
  own_ret X hx hlk hret (by cases t <;> first | (cases ht; done) | (rcases ref_cases hw with rfl | ⟨z, rfl⟩ <;> rfl)) (Or.inr (Or.inr (Or.inr (Or.inr ⟨rfl, ht, hw⟩)))) hd hK hN hQ
theorem own_retV (X : Stand p l e R s m args below meth c T locs cells slots) (hx : p.tables.exec = Jvm.exec) (hlk : meth.locks = false) {K N pc : Nat} {Ls : Array Slot} {Q : Option Value → Heap → List Loc → Prop} (hret : meth.sig.returnType = none)
    (hd : decode c.code pc = .ok (.return_, 1)) (hK : cells ≤ K) (hN : slots ≤ N) (hQ : Q none T.heap locs) :
    own_G p.tables e below (fun o U' => ∃ v L, o = .returned v ∧ Q v U'.heap L ∧ FrameEnd s o U' L K N) (T.setTop (mkF m pc Ls [])) := by
  obtain ⟨fs, hr, hrun, hended, hW, hsame⟩ := X.leave (v := none) (fun _ => rfl) hlk
  exact ⟨_, _, X.returnOut hx hret hd hr, hrun, hended, _, _, rfl, hQ, ⟨_, rfl⟩, hW, hsame.mono hK hN⟩
theorem own_acmpVE (X : Stand p l e R s m args below meth c T locs cells slots) (hx : p.tables.exec = Jvm.exec) {cd : ACond} {x y : Value} (h1 : x.isRef = true) (h2 : y.isRef = true) {o : Int} {pc pc' : Nat} {Ls : Array Slot} {rest : List Value} (hd : decode c.code pc = .ok (.if_acmp cd o, 3)) (ho : 0 ≤ (pc : Int) + o) (hp : pc' = if acV cd true = true then ((pc : Int) + o).toNat else pc + 3)
    (hc : x = y) (k : own_G p.tables e below F (T.setTop (mkF m pc' Ls rest))) : own_G p.tables e below F (T.setTop (mkF m pc Ls (y :: x :: rest))) :=
  own_go (fun _ q => RoadKit.acmp X hx rfl h1 h2 (pc0 := pc) (pc' := pc') (same := true) rfl hd rfl (by simp [hc]) ho hp q) k
theorem own_acmpVD (X : Stand p l e R s m args below meth c T locs cells slots) (hx : p.tables.exec = Jvm.exec) {cd : ACond} {x y : Value} (h1 : x.isRef = true) (h2 : y.isRef = true) {o : Int} {pc pc' : Nat} {Ls : Array Slot} {rest : List Value} (hd : decode c.code pc = .ok (.if_acmp cd o, 3)) (ho : 0 ≤ (pc : Int) + o) (hp : pc' = if acV cd false = true then ((pc : Int) + o).toNat else pc + 3)
    (hc : ¬ x = y) (k : own_G p.tables e below F (T.setTop (mkF m pc' Ls rest))) : own_G p.tables e below F (T.setTop (mkF m pc Ls (y :: x :: rest))) :=
  own_go (fun _ q => RoadKit.acmp X hx rfl h1 h2 (pc0 := pc) (pc' := pc') (same := false) rfl hd rfl (by simp [hc]) ho hp q) k
theorem own_acmpAE (X : Stand p l e R s m args below meth c T locs cells slots) (hx : p.tables.exec = Jvm.exec) {cd : ACond} {x y : Addr} {o : Int} {pc pc' : Nat} {Ls : Array Slot} {rest : List Value} (hd : decode c.code pc = .ok (.if_acmp cd o, 3)) (ho : 0 ≤ (pc : Int) + o) (hp : pc' = if acV cd true = true then ((pc : Int) + o).toNat else pc + 3)
    (hc : x = y) (k : own_G p.tables e below F (T.setTop (mkF m pc' Ls rest))) : own_G p.tables e below F (T.setTop (mkF m pc Ls (.ref y :: .ref x :: rest))) :=
  own_acmpVE X hx rfl rfl hd ho hp (by rw [hc]) k
theorem own_acmpAD (X : Stand p l e R s m args below meth c T locs cells slots) (hx : p.tables.exec = Jvm.exec) {cd : ACond} {x y : Addr} {o : Int} {pc pc' : Nat} {Ls : Array Slot} {rest : List Value} (hd : decode c.code pc = .ok (.if_acmp cd o, 3)) (ho : 0 ≤ (pc : Int) + o) (hp : pc' = if acV cd false = true then ((pc : Int) + o).toNat else pc + 3)
    (hc : ¬ x = y) (k : own_G p.tables e below F (T.setTop (mkF m pc' Ls rest))) : own_G p.tables e below F (T.setTop (mkF m pc Ls (.ref y :: .ref x :: rest))) :=
  own_acmpVD X hx rfl rfl hd ho hp (fun q => hc (by cases q; rfl)) k
end Own
theorem own_cat1 {v : Value} (h : v.isRef = true) : v.category = 1 := by cases v <;> first | (cases h; done) | rfl
theorem own_sta_keep {Z : State} {h h' : Heap} {C n d : String} {v : Value} {ws : List Addr} (F : Sta Z h C n d v) (K : Keep h h' ws) (q : ∀ x ∈ ws, ∀ c : Cell, h[x]? = some c → c.vm.isStatics = false) : Sta Z h' C n d v := by
  obtain ⟨cf, i, k, f, st, cell, h1, h2, h3, h4, h5, h6, h7⟩ := F
  exact ⟨cf, i, k, f, st, cell, h1, h2, h3, h4, K.2.1 _ _ h5 (fun z => by rw [q _ z _ h5] at h6; cases h6), h6, h7⟩
theorem own_eqint {t : Term} {n : Int32} {args : Array Value} {s : State} (h : (Jvm.Cond.eq t (Term.int n)).value args s none s [] = some true) : t.eval args s none [] s = some (.int n) := by
  have hb : (Term.int n).eval args s none [] s = some (.int n) := Term.int_eval n
  simp only [Jvm.Cond.value, hb] at h
  cases ht : t.eval args s none [] s with
  | none => simp [ht] at h
  | some v => cases v <;> simp [ht] at h ⊢; exact h
abbrev own_y1 : MethodName := ⟨"java/lang/Math", "min", "(II)I"⟩
abbrev own_y2 : MethodName := ⟨"java/lang/Math", "max", "(II)I"⟩
abbrev own_y3 : MethodName := ⟨"com/example/parts_to_policy/partstopolicy/model/PortRange", "<init>", "(II)V"⟩
abbrev own_y4 : MethodName := ⟨"com/example/parts_to_policy/partstopolicy/model/PortRange", "contains", "(I)Z"⟩
theorem own_pd1 : parseMethodDescriptor "(II)I" = some ⟨[.int, .int], (some .int)⟩ := by decide +kernel
theorem own_pd2 : parseMethodDescriptor "(II)V" = some ⟨[.int, .int], none⟩ := by decide +kernel
theorem own_pd3 : parseMethodDescriptor "(I)Z" = some ⟨[.int], (some .boolean)⟩ := by decide +kernel

def own_min (x y : Int32) : Int32 := if y < x then y else x
def own_max (x y : Int32) : Int32 := if x < y then y else x
theorem own_min_spec (x y : Int32) : (own_min x y).toInt = min x.toInt y.toInt := by
  unfold own_min
  split
  · rename_i h; rw [Int32.lt_iff_toInt_lt] at h; omega
  · rename_i h; rw [Int32.lt_iff_toInt_lt] at h; omega
theorem own_max_spec (x y : Int32) : (own_max x y).toInt = max x.toInt y.toInt := by
  unfold own_max
  split
  · rename_i h; rw [Int32.lt_iff_toInt_lt] at h; omega
  · rename_i h; rw [Int32.lt_iff_toInt_lt] at h; omega

def own_in (f l p : Int32) : Int32 := if p < f then 0 else if l < p then 0 else 1
theorem own_lohi {p0 p1 x y lo hi : Int32} (h4 : x = (p0 &&& (65535 : Int32))) (h10 : y = (p1 &&& (65535 : Int32))) (h19 : lo = (own_min x y)) (h28 : hi = (own_max x y)) : ¬ lo < 0 ∧ ¬ (65535 : Int32) < hi ∧ ¬ hi < lo := by
  have m1 := c_mask p0 (65535 : Int32) 16 (by decide) (by decide)
  have m2 := c_mask p1 (65535 : Int32) 16 (by decide) (by decide)
  have a := own_min_spec x y
  have b := own_max_spec x y
  rw [← h4] at m1
  rw [← h10] at m2
  rw [← h19] at a
  rw [← h28] at b
  have e0 : (0 : Int32).toInt = 0 := by decide
  have e1 : (65535 : Int32).toInt = 65535 := by decide
  rw [Int32.lt_iff_toInt_lt, Int32.lt_iff_toInt_lt, Int32.lt_iff_toInt_lt]
  omega
theorem own_c1 {lo hi po : Int32} (h : ¬ hi < lo) (q : own_max lo (own_min po hi) = po) : own_in lo hi po = (1 : Int32) := by
  have a := own_max_spec lo (own_min po hi)
  have b := own_min_spec po hi
  rw [q] at a
  rw [Int32.lt_iff_toInt_lt] at h
  rw [own_in, if_neg, if_neg] <;> rw [Int32.lt_iff_toInt_lt] <;> omega
theorem own_c0 {lo hi po : Int32} (h : ¬ hi < lo) (q : ¬ own_max lo (own_min po hi) = po) : own_in lo hi po = (0 : Int32) := by
  have a := own_max_spec lo (own_min po hi)
  have b := own_min_spec po hi
  rw [Int32.lt_iff_toInt_lt] at h
  have q' : ¬ (own_max lo (own_min po hi)).toInt = po.toInt := fun z => q (Int32.toInt_inj.mp z)
  unfold own_in
  split
  · rfl
  · rename_i h1
    rw [Int32.lt_iff_toInt_lt] at h1
    rw [if_pos]
    rw [Int32.lt_iff_toInt_lt]
    omega

theorem own_mmin_d0 : decode jdk_29_method_69_code 0 = .ok (.iload_n 0, 1) := by decide +kernel
theorem own_mmin_d1 : decode jdk_29_method_69_code 1 = .ok (.iload_n 1, 1) := by decide +kernel
theorem own_mmin_d2 : decode jdk_29_method_69_code 2 = .ok (.if_icmp .gt 7, 3) := by decide +kernel
theorem own_mmin_d5 : decode jdk_29_method_69_code 5 = .ok (.iload_n 0, 1) := by decide +kernel
theorem own_mmin_d6 : decode jdk_29_method_69_code 6 = .ok (.goto 4, 3) := by decide +kernel
theorem own_mmin_d9 : decode jdk_29_method_69_code 9 = .ok (.iload_n 1, 1) := by decide +kernel
theorem own_mmin_d10 : decode jdk_29_method_69_code 10 = .ok (.ireturn, 1) := by decide +kernel
theorem own_mmin_ef (m : MethodId) (pa : Int32) (pb : Int32) : entryFrame m #[(.int pa), (.int pb)] 2 = mkF m 0 #[iv pa, iv pb] [] := by first | (simp [entryFrame, mkF, argsToLocals, Value.category]; done) | rfl
def own_mmin_Q (Z : State) (pa : Int32) (pb : Int32) (h0 : Heap) (n0 : Nat) (v : Option Value) (h : Heap) (L : List Loc) : Prop := v = some (.int (own_min pa pb)) ∧ Fr n0 L ∧ h = h0
set_option maxRecDepth 65536 in
set_option maxHeartbeats 40000000 in
theorem own_mmin (l : Launch) (Z : State) (a0 : Array Value) (hw : ∀ d ∈ tables_1, d.before a0 Z = true) (ws : List Jvm.Cond) (pa : Int32) (pb : Int32) (h0 : Heap) (n0 : Nat) :
    MetFree l own_y1 (head1 (Jvm.Cond.code own_y1 jdk_29_method_69_code 2 (some .int) :: ws) ({ frames := 0, cells := 0, slots := 0, locals := 0 } : Room)) (fun a U => a = #[(.int pa), (.int pb)] ∧ Z.Warmed39 U.vm ∧ U.heap = h0) (fun _ _ _ _ _ => True) (fun _ U o U' => ∃ v L, o = .returned v ∧ (own_mmin_Q Z pa pb h0 n0) v U'.heap L ∧ FrameEnd U o U' L ({ frames := 0, cells := 0, slots := 0, locals := 0 } : Room).cells ({ frames := 0, cells := 0, slots := 0, locals := 0 } : Room).slots) := by
  refine MetFree.of_bodySF (Jvm.Free.JP.mathPlain rfl (by decide +kernel)) hisR ?_
  intro p e s m args below meth c s₁ Bd hml0 hP hK
  obtain ⟨rfl, hZ, hh⟩ := hP
  have hx := Bd.exec
  have hby := Bd.bytes
  have hml : c.maxLocals = 2 := hml0
  have hown : s.vm.findClass "java/lang/Math" = some m.cls := findClass_of_methodNamed Bd.named
  have hnm := (name_of_methodNamed Bd.named Bd.method).1
  have hlk : meth.locks = false := Bd.notSynchronized
  have X0 : Stand p l e ({ frames := 0, cells := 0, slots := 0, locals := 0 } : Room) s m #[(.int pa), (.int pb)] below meth c s₁ [] 0 0 := Stand.of_body Bd
  have e0 : s₁.heap = h0 := by rw [← hh, Bd.state]; rfl
  have N0 := Fr.nil n0
  show own_G p.tables e below (fun o U' => ∃ v L, o = .returned v ∧ (own_mmin_Q Z pa pb h0 n0) v U'.heap L ∧ FrameEnd s o U' L ({ frames := 0, cells := 0, slots := 0, locals := 0 } : Room).cells ({ frames := 0, cells := 0, slots := 0, locals := 0 } : Room).slots) (s₁.setTop (entryFrame m #[(.int pa), (.int pb)] 2))
  refine own_go (B := s₁.setTop (mkF m 0 #[iv pa, iv pb] [])) (fun t k => castTop (own_mmin_ef m pa pb) k) ?_
  refine own_go (B := (s₁.setTop (mkF m 1 #[iv pa, iv pb] [(.int pa)]))) (fun t k => XS.iloadN X0.here hx rfl (hb hby own_mmin_d0) rfl k) ?_
  refine own_go (B := (s₁.setTop (mkF m 2 #[iv pa, iv pb] [(.int pb), (.int pa)]))) (fun t k => XS.iloadN X0.here hx rfl (hb hby own_mmin_d1) rfl k) ?_
  refine own_icmp X0 hx (hb hby own_mmin_d2) (pc' := 9) (pn := 5) (by decide) (by decide) rfl (fun (hc2 : pb < pa) => ?_) (fun (hc2 : ¬ pb < pa) => ?_)
  · refine own_go (B := (s₁.setTop (mkF m 10 #[iv pa, iv pb] [(.int pb)]))) (fun t k => XS.iloadN X0.here hx rfl (hb hby own_mmin_d9) rfl k) ?_
    exact own_retI X0 hx hlk Bd.returns (hb hby own_mmin_d10) (own_b rfl) (own_b rfl) (Q := (own_mmin_Q Z pa pb h0 n0)) ⟨by rw [own_min, if_pos hc2], N0, e0⟩
  · refine own_go (B := (s₁.setTop (mkF m 6 #[iv pa, iv pb] [(.int pa)]))) (fun t k => XS.iloadN X0.here hx rfl (hb hby own_mmin_d5) rfl k) ?_
    refine own_go (B := (s₁.setTop (mkF m 10 #[iv pa, iv pb] [(.int pa)]))) (fun t k => XS.goto X0.here hx rfl (pc0 := 6) (pc' := 10) rfl (hb hby own_mmin_d6) (by decide) (by decide) k) ?_
    exact own_retI X0 hx hlk Bd.returns (hb hby own_mmin_d10) (own_b rfl) (own_b rfl) (Q := (own_mmin_Q Z pa pb h0 n0)) ⟨by rw [own_min, if_neg hc2], N0, e0⟩

theorem own_mmax_d0 : decode jdk_29_method_65_code 0 = .ok (.iload_n 0, 1) := by decide +kernel
theorem own_mmax_d1 : decode jdk_29_method_65_code 1 = .ok (.iload_n 1, 1) := by decide +kernel
theorem own_mmax_d2 : decode jdk_29_method_65_code 2 = .ok (.if_icmp .lt 7, 3) := by decide +kernel
theorem own_mmax_d5 : decode jdk_29_method_65_code 5 = .ok (.iload_n 0, 1) := by decide +kernel
theorem own_mmax_d6 : decode jdk_29_method_65_code 6 = .ok (.goto 4, 3) := by decide +kernel
theorem own_mmax_d9 : decode jdk_29_method_65_code 9 = .ok (.iload_n 1, 1) := by decide +kernel
theorem own_mmax_d10 : decode jdk_29_method_65_code 10 = .ok (.ireturn, 1) := by decide +kernel
theorem own_mmax_ef (m : MethodId) (pa : Int32) (pb : Int32) : entryFrame m #[(.int pa), (.int pb)] 2 = mkF m 0 #[iv pa, iv pb] [] := by first | (simp [entryFrame, mkF, argsToLocals, Value.category]; done) | rfl
def own_mmax_Q (Z : State) (pa : Int32) (pb : Int32) (h0 : Heap) (n0 : Nat) (v : Option Value) (h : Heap) (L : List Loc) : Prop := v = some (.int (own_max pa pb)) ∧ Fr n0 L ∧ h = h0
set_option maxRecDepth 65536 in
set_option maxHeartbeats 40000000 in
theorem own_mmax (l : Launch) (Z : State) (a0 : Array Value) (hw : ∀ d ∈ tables_1, d.before a0 Z = true) (ws : List Jvm.Cond) (pa : Int32) (pb : Int32) (h0 : Heap) (n0 : Nat) :
    MetFree l own_y2 (head1 (Jvm.Cond.code own_y2 jdk_29_method_65_code 2 (some .int) :: ws) ({ frames := 0, cells := 0, slots := 0, locals := 0 } : Room)) (fun a U => a = #[(.int pa), (.int pb)] ∧ Z.Warmed39 U.vm ∧ U.heap = h0) (fun _ _ _ _ _ => True) (fun _ U o U' => ∃ v L, o = .returned v ∧ (own_mmax_Q Z pa pb h0 n0) v U'.heap L ∧ FrameEnd U o U' L ({ frames := 0, cells := 0, slots := 0, locals := 0 } : Room).cells ({ frames := 0, cells := 0, slots := 0, locals := 0 } : Room).slots) := by
  refine MetFree.of_bodySF (Jvm.Free.JP.mathPlain rfl (by decide +kernel)) hisR ?_
  intro p e s m args below meth c s₁ Bd hml0 hP hK
  obtain ⟨rfl, hZ, hh⟩ := hP
  have hx := Bd.exec
  have hby := Bd.bytes
  have hml : c.maxLocals = 2 := hml0
  have hown : s.vm.findClass "java/lang/Math" = some m.cls := findClass_of_methodNamed Bd.named
  have hnm := (name_of_methodNamed Bd.named Bd.method).1
  have hlk : meth.locks = false := Bd.notSynchronized
  have X0 : Stand p l e ({ frames := 0, cells := 0, slots := 0, locals := 0 } : Room) s m #[(.int pa), (.int pb)] below meth c s₁ [] 0 0 := Stand.of_body Bd
  have e0 : s₁.heap = h0 := by rw [← hh, Bd.state]; rfl
  have N0 := Fr.nil n0
  show own_G p.tables e below (fun o U' => ∃ v L, o = .returned v ∧ (own_mmax_Q Z pa pb h0 n0) v U'.heap L ∧ FrameEnd s o U' L ({ frames := 0, cells := 0, slots := 0, locals := 0 } : Room).cells ({ frames := 0, cells := 0, slots := 0, locals := 0 } : Room).slots) (s₁.setTop (entryFrame m #[(.int pa), (.int pb)] 2))
  refine own_go (B := s₁.setTop (mkF m 0 #[iv pa, iv pb] [])) (fun t k => castTop (own_mmax_ef m pa pb) k) ?_
  refine own_go (B := (s₁.setTop (mkF m 1 #[iv pa, iv pb] [(.int pa)]))) (fun t k => XS.iloadN X0.here hx rfl (hb hby own_mmax_d0) rfl k) ?_
  refine own_go (B := (s₁.setTop (mkF m 2 #[iv pa, iv pb] [(.int pb), (.int pa)]))) (fun t k => XS.iloadN X0.here hx rfl (hb hby own_mmax_d1) rfl k) ?_
  refine own_icmp X0 hx (hb hby own_mmax_d2) (pc' := 9) (pn := 5) (by decide) (by decide) rfl (fun (hc2 : pa < pb) => ?_) (fun (hc2 : ¬ pa < pb) => ?_)
  · refine own_go (B := (s₁.setTop (mkF m 10 #[iv pa, iv pb] [(.int pb)]))) (fun t k => XS.iloadN X0.here hx rfl (hb hby own_mmax_d9) rfl k) ?_
    exact own_retI X0 hx hlk Bd.returns (hb hby own_mmax_d10) (own_b rfl) (own_b rfl) (Q := (own_mmax_Q Z pa pb h0 n0)) ⟨by rw [own_max, if_pos hc2], N0, e0⟩
  · refine own_go (B := (s₁.setTop (mkF m 6 #[iv pa, iv pb] [(.int pa)]))) (fun t k => XS.iloadN X0.here hx rfl (hb hby own_mmax_d5) rfl k) ?_
    refine own_go (B := (s₁.setTop (mkF m 10 #[iv pa, iv pb] [(.int pa)]))) (fun t k => XS.goto X0.here hx rfl (pc0 := 6) (pc' := 10) rfl (hb hby own_mmax_d6) (by decide) (by decide) k) ?_
    exact own_retI X0 hx hlk Bd.returns (hb hby own_mmax_d10) (own_b rfl) (own_b rfl) (Q := (own_mmax_Q Z pa pb h0 n0)) ⟨by rw [own_max, if_neg hc2], N0, e0⟩

theorem own_ct_d0 : decode prog_79_method_1_code 0 = .ok (.aload_n 0, 1) := by decide +kernel
theorem own_ct_d1 : decode prog_79_method_1_code 1 = .ok (.invokespecial 1, 3) := by decide +kernel
theorem own_ct_d4 : decode prog_79_method_1_code 4 = .ok (.iload_n 1, 1) := by decide +kernel
theorem own_ct_d5 : decode prog_79_method_1_code 5 = .ok (.ifCond .lt 14, 3) := by decide +kernel
theorem own_ct_d8 : decode prog_79_method_1_code 8 = .ok (.iload_n 2, 1) := by decide +kernel
theorem own_ct_d9 : decode prog_79_method_1_code 9 = .ok (.ldc 9, 2) := by decide +kernel
theorem own_ct_d11 : decode prog_79_method_1_code 11 = .ok (.if_icmp .gt 8, 3) := by decide +kernel
theorem own_ct_d14 : decode prog_79_method_1_code 14 = .ok (.iload_n 1, 1) := by decide +kernel
theorem own_ct_d15 : decode prog_79_method_1_code 15 = .ok (.iload_n 2, 1) := by decide +kernel
theorem own_ct_d16 : decode prog_79_method_1_code 16 = .ok (.if_icmp .le 18, 3) := by decide +kernel
theorem own_ct_d34 : decode prog_79_method_1_code 34 = .ok (.aload_n 0, 1) := by decide +kernel
theorem own_ct_d35 : decode prog_79_method_1_code 35 = .ok (.iload_n 1, 1) := by decide +kernel
theorem own_ct_d36 : decode prog_79_method_1_code 36 = .ok (.putfield 19, 3) := by decide +kernel
theorem own_ct_d39 : decode prog_79_method_1_code 39 = .ok (.aload_n 0, 1) := by decide +kernel
theorem own_ct_d40 : decode prog_79_method_1_code 40 = .ok (.iload_n 2, 1) := by decide +kernel
theorem own_ct_d41 : decode prog_79_method_1_code 41 = .ok (.putfield 23, 3) := by decide +kernel
theorem own_ct_d44 : decode prog_79_method_1_code 44 = .ok (.return_, 1) := by decide +kernel
theorem own_ct_pn : plainName "com/example/parts_to_policy/partstopolicy/model/PortRange" = true := by first | (simp [plainName, overriddenIn]; done) | decide +kernel
theorem own_ct_ef (m : MethodId) (th : Addr) (pf : Int32) (pl : Int32) : entryFrame m #[(.ref th), (.int pf), (.int pl)] 3 = mkF m 0 #[rv th, iv pf, iv pl] [] := by first | (simp [entryFrame, mkF, argsToLocals, Value.category]; done) | rfl
def own_ct_Q (Z : State) (th : Addr) (pf : Int32) (pl : Int32) (h0 : Heap) (n0 : Nat) (v : Option Value) (h : Heap) (L : List Loc) : Prop := v = none ∧ Fr n0 L ∧ Keep h0 h [th] ∧ Exa Z h th "com/example/parts_to_policy/partstopolicy/model/PortRange" ∧ Fld Z h th "com/example/parts_to_policy/partstopolicy/model/PortRange" "first" "I" (.int pf) ∧ Fld Z h th "com/example/parts_to_policy/partstopolicy/model/PortRange" "last" "I" (.int pl)
set_option maxRecDepth 65536 in
set_option maxHeartbeats 40000000 in
theorem own_ct (l : Launch) (Z : State) (a0 : Array Value) (hw : ∀ d ∈ tables_1, d.before a0 Z = true) (ws : List Jvm.Cond) (th : Addr) (pf : Int32) (pl : Int32) (h0 : Heap) (n0 : Nat) (Z0 : n0 ≤ h0.size) (E0 : Exa Z h0 th "com/example/parts_to_policy/partstopolicy/model/PortRange") (g0 : n0 ≤ th) (F9000 : Fld Z h0 th "com/example/parts_to_policy/partstopolicy/model/PortRange" "first" "I" (.int (0 : Int32))) (F9001 : Fld Z h0 th "com/example/parts_to_policy/partstopolicy/model/PortRange" "last" "I" (.int (0 : Int32))) (q1 : ¬ pf < 0) (q2 : ¬ (65535 : Int32) < pl) (q3 : ¬ pl < pf) :
    MetFree l own_y3 (head1 (Jvm.Cond.code own_y3 prog_79_method_1_code 3 none :: ws) ({ frames := 1, cells := 0, slots := 0, locals := 12 } : Room)) (fun a U => a = #[(.ref th), (.int pf), (.int pl)] ∧ Z.Warmed39 U.vm ∧ U.heap = h0) (fun _ _ _ _ _ => True) (fun _ U o U' => ∃ v L, o = .returned v ∧ (own_ct_Q Z th pf pl h0 n0) v U'.heap L ∧ FrameEnd U o U' L ({ frames := 1, cells := 0, slots := 0, locals := 12 } : Room).cells ({ frames := 1, cells := 0, slots := 0, locals := 12 } : Room).slots) := by
  refine MetFree.of_bodySF (plainFor_of_name own_ct_pn) hisR ?_
  intro p e s m args below meth c s₁ Bd hml0 hP hK
  obtain ⟨rfl, hZ, hh⟩ := hP
  have hx := Bd.exec
  have hby := Bd.bytes
  have hml : c.maxLocals = 3 := hml0
  have hown : s.vm.findClass "com/example/parts_to_policy/partstopolicy/model/PortRange" = some m.cls := findClass_of_methodNamed Bd.named
  have hnm := (name_of_methodNamed Bd.named Bd.method).1
  have hlk : meth.locks = false := Bd.notSynchronized
  have X0 : Stand p l e ({ frames := 1, cells := 0, slots := 0, locals := 12 } : Room) s m #[(.ref th), (.int pf), (.int pl)] below meth c s₁ [] 0 0 := Stand.of_body Bd
  have e0 : s₁.heap = h0 := by rw [← hh, Bd.state]; rfl
  have N0 := Fr.nil n0
  have w_9 := hw _ (List.mem_of_getElem? (l := tables_1) (i := 9) rfl)
  have w_14 := hw _ (List.mem_of_getElem? (l := tables_1) (i := 14) rfl)
  have w_15 := hw _ (List.mem_of_getElem? (l := tables_1) (i := 15) rfl)
  have w_16 := hw _ (List.mem_of_getElem? (l := tables_1) (i := 16) rfl)
  have w_17 := hw _ (List.mem_of_getElem? (l := tables_1) (i := 17) rfl)
  have w_18 := hw _ (List.mem_of_getElem? (l := tables_1) (i := 18) rfl)
  have w_19 := hw _ (List.mem_of_getElem? (l := tables_1) (i := 19) rfl)
  have w_20 := hw _ (List.mem_of_getElem? (l := tables_1) (i := 20) rfl)
  have w_21 := hw _ (List.mem_of_getElem? (l := tables_1) (i := 21) rfl)
  show own_G p.tables e below (fun o U' => ∃ v L, o = .returned v ∧ (own_ct_Q Z th pf pl h0 n0) v U'.heap L ∧ FrameEnd s o U' L ({ frames := 1, cells := 0, slots := 0, locals := 12 } : Room).cells ({ frames := 1, cells := 0, slots := 0, locals := 12 } : Room).slots) (s₁.setTop (entryFrame m #[(.ref th), (.int pf), (.int pl)] 3))
  refine own_go (B := s₁.setTop (mkF m 0 #[rv th, iv pf, iv pl] [])) (fun t k => castTop (own_ct_ef m th pf pl) k) ?_
  have K0 := Keep.refl h0 [th]
  refine own_go (B := (s₁.setTop (mkF m 1 #[rv th, iv pf, iv pl] [(.ref th)]))) (fun t k => XS.aloadN X0.here hx rfl (hb hby own_ct_d0) rfl rfl k) ?_
  obtain ⟨T1, X1, e1, st1⟩ := initO X0 hx hZ hown w_14 w_15 w_16 e0 (g := (mkF m 1 #[rv th, iv pf, iv pl] [(.ref th)])) rfl (by rw [hml]; rfl) rfl (hb hby own_ct_d1) (by decide) (W := 0) (by show 2 * 0 + _ ≤ _; exact own_b rfl) (by decide)
  refine own_go (B := (T1.setTop (mkF m 4 #[rv th, iv pf, iv pl] []))) st1 ?_
  refine own_go (B := (T1.setTop (mkF m 5 #[rv th, iv pf, iv pl] [(.int pf)]))) (fun t k => XS.iloadN X1.here hx rfl (hb hby own_ct_d4) rfl k) ?_
  have hc5 : ¬ pf < (0 : Int32) := q1
  refine own_ifN X1 hx (hb hby own_ct_d5) (pn := 8) rfl hc5 ?_
  refine own_go (B := (T1.setTop (mkF m 9 #[rv th, iv pf, iv pl] [(.int pl)]))) (fun t k => XS.iloadN X1.here hx rfl (hb hby own_ct_d8) rfl k) ?_
  have lc2 := X1.ldcInt hx hown (v := (65535 : Int32)) (mvT hZ w_17) (g := (mkF m 9 #[rv th, iv pf, iv pl] [(.int pl)])) rfl (hb hby own_ct_d9)
  refine own_go (B := (T1.setTop (mkF m 11 #[rv th, iv pf, iv pl] [(.int (65535 : Int32)), (.int pl)]))) lc2 ?_
  have hc11 : ¬ (65535 : Int32) < pl := q2
  refine own_icmpN X1 hx (hb hby own_ct_d11) (pn := 14) rfl hc11 ?_
  refine own_go (B := (T1.setTop (mkF m 15 #[rv th, iv pf, iv pl] [(.int pf)]))) (fun t k => XS.iloadN X1.here hx rfl (hb hby own_ct_d14) rfl k) ?_
  refine own_go (B := (T1.setTop (mkF m 16 #[rv th, iv pf, iv pl] [(.int pl), (.int pf)]))) (fun t k => XS.iloadN X1.here hx rfl (hb hby own_ct_d15) rfl k) ?_
  have hc16 : ¬ pl < pf := q3
  refine own_icmpY X1 hx (hb hby own_ct_d16) (pc' := 34) (by decide) (by decide) hc16 ?_
  refine own_go (B := (T1.setTop (mkF m 35 #[rv th, iv pf, iv pl] [(.ref th)]))) (fun t k => XS.aloadN X1.here hx rfl (hb hby own_ct_d34) rfl rfl k) ?_
  refine own_go (B := (T1.setTop (mkF m 36 #[rv th, iv pf, iv pl] [(.int pf), (.ref th)]))) (fun t k => XS.iloadN X1.here hx rfl (hb hby own_ct_d35) rfl k) ?_
  obtain ⟨T3, h3, X3, e3, W3, st3⟩ := putF X1 hx hZ hown (host := "") (Or.inl w_18) Via.refl e1 F9000 E0 (Or.inr ⟨w_19, rfl, hnm⟩) w_9 (ty := .int) (by decide) rfl rfl (g := (mkF m 36 #[rv th, iv pf, iv pl] [(.int pf), (.ref th)])) rfl rfl (hb hby own_ct_d36)
  refine own_go (B := (T3.setTop (mkF m 39 #[rv th, iv pf, iv pl] []))) st3 ?_
  have N3 := Fr.snoc X3 N0 g0
  have F4 : n0 ≤ h3.size := by rw [W3.size]; exact Z0
  have F5 := Exa.wr W3 E0
  have F6 := Keep.wr K0 W3 (Or.inl (List.mem_of_getElem? (i := 0) rfl))
  have F7 := Fld.same W3 F9000
  have F8 := Fld.other W3 F9001 (Or.inr (slot_ne (t := .int) (t' := .int) (Or.inr w_21) (Or.inr w_19) (by decide) (by decide) (by decide)))
  refine own_go (B := (T3.setTop (mkF m 40 #[rv th, iv pf, iv pl] [(.ref th)]))) (fun t k => XS.aloadN X3.here hx rfl (hb hby own_ct_d39) rfl rfl k) ?_
  refine own_go (B := (T3.setTop (mkF m 41 #[rv th, iv pf, iv pl] [(.int pl), (.ref th)]))) (fun t k => XS.iloadN X3.here hx rfl (hb hby own_ct_d40) rfl k) ?_
  obtain ⟨T9, h9, X9, e9, W9, st9⟩ := putF X3 hx hZ hown (host := "") (Or.inl w_20) Via.refl e3 F8 F5 (Or.inr ⟨w_21, rfl, hnm⟩) w_9 (ty := .int) (by decide) rfl rfl (g := (mkF m 41 #[rv th, iv pf, iv pl] [(.int pl), (.ref th)])) rfl rfl (hb hby own_ct_d41)
  refine own_go (B := (T9.setTop (mkF m 44 #[rv th, iv pf, iv pl] []))) st9 ?_
  have N9 := Fr.snoc X9 N3 g0
  have F10 : n0 ≤ h9.size := by rw [W9.size]; exact F4
  have F11 := Exa.wr W9 F5
  have F12 := Keep.wr F6 W9 (Or.inl (List.mem_of_getElem? (i := 0) rfl))
  have F13 := Fld.other W9 F7 (Or.inr (slot_ne (t := .int) (t' := .int) (Or.inr w_19) (Or.inr w_21) (by decide) (by decide) (by decide)))
  have F14 := Fld.same W9 F8
  exact own_retV X9 hx hlk Bd.returns (hb hby own_ct_d44) (own_b rfl) (own_b rfl) (Q := (own_ct_Q Z th pf pl h0 n0)) (by rw [e9]; exact ⟨rfl, N9, F12, F11, F13, F14⟩)

theorem own_co_d0 : decode prog_79_method_4_code 0 = .ok (.iload_n 1, 1) := by decide +kernel
theorem own_co_d1 : decode prog_79_method_4_code 1 = .ok (.aload_n 0, 1) := by decide +kernel
theorem own_co_d2 : decode prog_79_method_4_code 2 = .ok (.getfield 19, 3) := by decide +kernel
theorem own_co_d5 : decode prog_79_method_4_code 5 = .ok (.if_icmp .lt 15, 3) := by decide +kernel
theorem own_co_d8 : decode prog_79_method_4_code 8 = .ok (.iload_n 1, 1) := by decide +kernel
theorem own_co_d9 : decode prog_79_method_4_code 9 = .ok (.aload_n 0, 1) := by decide +kernel
theorem own_co_d10 : decode prog_79_method_4_code 10 = .ok (.getfield 23, 3) := by decide +kernel
theorem own_co_d13 : decode prog_79_method_4_code 13 = .ok (.if_icmp .gt 7, 3) := by decide +kernel
theorem own_co_d16 : decode prog_79_method_4_code 16 = .ok (.iconst 1, 1) := by decide +kernel
theorem own_co_d17 : decode prog_79_method_4_code 17 = .ok (.goto 4, 3) := by decide +kernel
theorem own_co_d20 : decode prog_79_method_4_code 20 = .ok (.iconst 0, 1) := by decide +kernel
theorem own_co_d21 : decode prog_79_method_4_code 21 = .ok (.ireturn, 1) := by decide +kernel
theorem own_co_pn : plainName "com/example/parts_to_policy/partstopolicy/model/PortRange" = true := by first | (simp [plainName, overriddenIn]; done) | decide +kernel
theorem own_co_ef (m : MethodId) (th : Addr) (po : Int32) : entryFrame m #[(.ref th), (.int po)] 2 = mkF m 0 #[rv th, iv po] [] := by first | (simp [entryFrame, mkF, argsToLocals, Value.category]; done) | rfl
def own_co_Q (Z : State) (th : Addr) (po : Int32) (qf ql : Int32) (h0 : Heap) (n0 : Nat) (v : Option Value) (h : Heap) (L : List Loc) : Prop := v = some (.int (own_in qf ql po)) ∧ Fr n0 L ∧ h = h0
set_option maxRecDepth 65536 in
set_option maxHeartbeats 40000000 in
theorem own_co (l : Launch) (Z : State) (a0 : Array Value) (hw : ∀ d ∈ tables_1, d.before a0 Z = true) (ws : List Jvm.Cond) (th : Addr) (po : Int32) (qf ql : Int32) (h0 : Heap) (n0 : Nat) (F1 : Fld Z h0 th "com/example/parts_to_policy/partstopolicy/model/PortRange" "first" "I" (.int qf)) (F2 : Fld Z h0 th "com/example/parts_to_policy/partstopolicy/model/PortRange" "last" "I" (.int ql)) :
    MetFree l own_y4 (head1 (Jvm.Cond.code own_y4 prog_79_method_4_code 2 (some .boolean) :: ws) ({ frames := 0, cells := 0, slots := 0, locals := 0 } : Room)) (fun a U => a = #[(.ref th), (.int po)] ∧ Z.Warmed39 U.vm ∧ U.heap = h0) (fun _ _ _ _ _ => True) (fun _ U o U' => ∃ v L, o = .returned v ∧ (own_co_Q Z th po qf ql h0 n0) v U'.heap L ∧ FrameEnd U o U' L ({ frames := 0, cells := 0, slots := 0, locals := 0 } : Room).cells ({ frames := 0, cells := 0, slots := 0, locals := 0 } : Room).slots) := by
  refine MetFree.of_bodySF (plainFor_of_name own_co_pn) hisR ?_
  intro p e s m args below meth c s₁ Bd hml0 hP hK
  obtain ⟨rfl, hZ, hh⟩ := hP
  have hx := Bd.exec
  have hby := Bd.bytes
  have hml : c.maxLocals = 2 := hml0
  have hown : s.vm.findClass "com/example/parts_to_policy/partstopolicy/model/PortRange" = some m.cls := findClass_of_methodNamed Bd.named
  have hnm := (name_of_methodNamed Bd.named Bd.method).1
  have hlk : meth.locks = false := Bd.notSynchronized
  have X0 : Stand p l e ({ frames := 0, cells := 0, slots := 0, locals := 0 } : Room) s m #[(.ref th), (.int po)] below meth c s₁ [] 0 0 := Stand.of_body Bd
  have e0 : s₁.heap = h0 := by rw [← hh, Bd.state]; rfl
  have N0 := Fr.nil n0
  have w_18 := hw _ (List.mem_of_getElem? (l := tables_1) (i := 18) rfl)
  have w_20 := hw _ (List.mem_of_getElem? (l := tables_1) (i := 20) rfl)
  show own_G p.tables e below (fun o U' => ∃ v L, o = .returned v ∧ (own_co_Q Z th po qf ql h0 n0) v U'.heap L ∧ FrameEnd s o U' L ({ frames := 0, cells := 0, slots := 0, locals := 0 } : Room).cells ({ frames := 0, cells := 0, slots := 0, locals := 0 } : Room).slots) (s₁.setTop (entryFrame m #[(.ref th), (.int po)] 2))
  refine own_go (B := s₁.setTop (mkF m 0 #[rv th, iv po] [])) (fun t k => castTop (own_co_ef m th po) k) ?_
  refine own_go (B := (s₁.setTop (mkF m 1 #[rv th, iv po] [(.int po)]))) (fun t k => XS.iloadN X0.here hx rfl (hb hby own_co_d0) rfl k) ?_
  refine own_go (B := (s₁.setTop (mkF m 2 #[rv th, iv po] [(.ref th), (.int po)]))) (fun t k => XS.aloadN X0.here hx rfl (hb hby own_co_d1) rfl rfl k) ?_
  obtain ⟨T1, X1, e1, st1⟩ := getF X0 hx hZ hown (host := "") (Or.inl w_18) Via.refl e0 F1 (g := (mkF m 2 #[rv th, iv po] [(.ref th), (.int po)])) rfl rfl (hb hby own_co_d2)
  refine own_go (B := (T1.setTop (mkF m 5 #[rv th, iv po] [(.int qf), (.int po)]))) st1 ?_
  refine own_icmp X1 hx (hb hby own_co_d5) (pc' := 20) (pn := 8) (by decide) (by decide) rfl (fun (hc5 : po < qf) => ?_) (fun (hc5 : ¬ po < qf) => ?_)
  · refine own_go (B := (T1.setTop (mkF m 21 #[rv th, iv po] [(.int (0 : Int32))]))) (fun t k => XS.iconst X1.here hx rfl (hb hby own_co_d20) k) ?_
    exact own_retZ X1 hx hlk Bd.returns (hb hby own_co_d21) (by decide) (own_b rfl) (own_b rfl) (Q := (own_co_Q Z th po qf ql h0 n0)) ⟨by rw [own_in, if_pos hc5], N0, e1⟩
  · refine own_go (B := (T1.setTop (mkF m 9 #[rv th, iv po] [(.int po)]))) (fun t k => XS.iloadN X1.here hx rfl (hb hby own_co_d8) rfl k) ?_
    refine own_go (B := (T1.setTop (mkF m 10 #[rv th, iv po] [(.ref th), (.int po)]))) (fun t k => XS.aloadN X1.here hx rfl (hb hby own_co_d9) rfl rfl k) ?_
    obtain ⟨T2, X2, e2, st2⟩ := getF X1 hx hZ hown (host := "") (Or.inl w_20) Via.refl e1 F2 (g := (mkF m 10 #[rv th, iv po] [(.ref th), (.int po)])) rfl rfl (hb hby own_co_d10)
    refine own_go (B := (T2.setTop (mkF m 13 #[rv th, iv po] [(.int ql), (.int po)]))) st2 ?_
    refine own_icmp X2 hx (hb hby own_co_d13) (pc' := 20) (pn := 16) (by decide) (by decide) rfl (fun (hc13 : ql < po) => ?_) (fun (hc13 : ¬ ql < po) => ?_)
    · refine own_go (B := (T2.setTop (mkF m 21 #[rv th, iv po] [(.int (0 : Int32))]))) (fun t k => XS.iconst X2.here hx rfl (hb hby own_co_d20) k) ?_
      exact own_retZ X2 hx hlk Bd.returns (hb hby own_co_d21) (by decide) (own_b rfl) (own_b rfl) (Q := (own_co_Q Z th po qf ql h0 n0)) ⟨by rw [own_in, if_neg hc5, if_pos hc13], N0, e2⟩
    · refine own_go (B := (T2.setTop (mkF m 17 #[rv th, iv po] [(.int (1 : Int32))]))) (fun t k => XS.iconst X2.here hx rfl (hb hby own_co_d16) k) ?_
      refine own_go (B := (T2.setTop (mkF m 21 #[rv th, iv po] [(.int (1 : Int32))]))) (fun t k => XS.goto X2.here hx rfl (pc0 := 17) (pc' := 21) rfl (hb hby own_co_d17) (by decide) (by decide) k) ?_
      exact own_retZ X2 hx hlk Bd.returns (hb hby own_co_d21) (by decide) (own_b rfl) (own_b rfl) (Q := (own_co_Q Z th po qf ql h0 n0)) ⟨by rw [own_in, if_neg hc5, if_neg hc13], N0, e2⟩

theorem own_law_pn : plainName "com/example/parts_to_policy/partstopolicy/model/PortRangeContainsPinLaw" = true := by first | (simp [plainName, overriddenIn]; done) | decide +kernel
theorem own_law_ef (m : MethodId) (p0 : Int32) (p1 : Int32) (p2 : Int32) (p3 : Int32) : entryFrame m #[(.int p0), (.int p1), (.int p2), (.int p3)] maxLocals = mkF m 0 #[iv p0, iv p1, iv p2, iv p3, .unset, .unset, .unset, .unset, .unset, .unset, .unset, .unset] [] := by first | (simp [entryFrame, mkF, argsToLocals, Value.category, maxLocals]; done) | rfl
def own_law_Q (Z : State) (p0 : Int32) (p1 : Int32) (p2 : Int32) (p3 : Int32) (h0 : Heap) (n0 : Nat) (v : Option Value) (h : Heap) (L : List Loc) : Prop := v = some (.int 1) ∧ Fr n0 L
set_option maxRecDepth 65536 in
set_option maxHeartbeats 40000000 in
theorem own_law (l : Launch) (Z : State) (a0 : Array Value) (hw : ∀ d ∈ tables_1, d.before a0 Z = true) (ws : List Jvm.Cond) (p0 : Int32) (p1 : Int32) (p2 : Int32) (p3 : Int32) (h0 : Heap) (n0 : Nat) (Z0 : n0 ≤ h0.size) :
    MetFree l x (head1 (Jvm.Cond.code x code maxLocals ret :: ws) room_1) (fun a U => a = #[(.int p0), (.int p1), (.int p2), (.int p3)] ∧ Z.Warmed39 U.vm ∧ U.heap = h0) (fun _ _ _ _ _ => True) (fun _ U o U' => ∃ v L, o = .returned v ∧ (own_law_Q Z p0 p1 p2 p3 h0 n0) v U'.heap L ∧ FrameEnd U o U' L 16 128) := by
  refine MetFree.of_bodySF (plainFor_of_name own_law_pn) hisR ?_
  intro p e s m args below meth c s₁ Bd hml0 hP hK
  obtain ⟨rfl, hZ, hh⟩ := hP
  have hx := Bd.exec
  have hby := Bd.bytes
  have hml : c.maxLocals = 12 := hml0
  have hown : s.vm.findClass "com/example/parts_to_policy/partstopolicy/model/PortRangeContainsPinLaw" = some m.cls := findClass_of_methodNamed Bd.named
  have hnm := (name_of_methodNamed Bd.named Bd.method).1
  have hlk : meth.locks = false := Bd.notSynchronized
  have X0 : Stand p l e room_1 s m #[(.int p0), (.int p1), (.int p2), (.int p3)] below meth c s₁ [] 0 0 := Stand.of_body Bd
  have e0 : s₁.heap = h0 := by rw [← hh, Bd.state]; rfl
  have N0 := Fr.nil n0
  have w_0 := hw _ (List.mem_of_getElem? (l := tables_1) (i := 0) rfl)
  have w_1 := hw _ (List.mem_of_getElem? (l := tables_1) (i := 1) rfl)
  have w_2 := hw _ (List.mem_of_getElem? (l := tables_1) (i := 2) rfl)
  have w_3 := hw _ (List.mem_of_getElem? (l := tables_1) (i := 3) rfl)
  have w_4 := hw _ (List.mem_of_getElem? (l := tables_1) (i := 4) rfl)
  have w_5 := hw _ (List.mem_of_getElem? (l := tables_1) (i := 5) rfl)
  have w_6 := hw _ (List.mem_of_getElem? (l := tables_1) (i := 6) rfl)
  have w_7 := hw _ (List.mem_of_getElem? (l := tables_1) (i := 7) rfl)
  have w_8 := hw _ (List.mem_of_getElem? (l := tables_1) (i := 8) rfl)
  have w_9 := hw _ (List.mem_of_getElem? (l := tables_1) (i := 9) rfl)
  have w_10 := hw _ (List.mem_of_getElem? (l := tables_1) (i := 10) rfl)
  have w_11 := hw _ (List.mem_of_getElem? (l := tables_1) (i := 11) rfl)
  have w_12 := hw _ (List.mem_of_getElem? (l := tables_1) (i := 12) rfl)
  have w_13 := hw _ (List.mem_of_getElem? (l := tables_1) (i := 13) rfl)
  have w_19 := hw _ (List.mem_of_getElem? (l := tables_1) (i := 19) rfl)
  have w_21 := hw _ (List.mem_of_getElem? (l := tables_1) (i := 21) rfl)
  have w_22 := hw _ (List.mem_of_getElem? (l := tables_1) (i := 22) rfl)
  have w_23 := hw _ (List.mem_of_getElem? (l := tables_1) (i := 23) rfl)
  have w_24 := hw _ (List.mem_of_getElem? (l := tables_1) (i := 24) rfl)
  have w_25 := hw _ (List.mem_of_getElem? (l := tables_1) (i := 25) rfl)
  have w_26 := hw _ (List.mem_of_getElem? (l := tables_1) (i := 26) rfl)
  have w_27 := hw _ (List.mem_of_getElem? (l := tables_1) (i := 27) rfl)
  show own_G p.tables e below (fun o U' => ∃ v L, o = .returned v ∧ (own_law_Q Z p0 p1 p2 p3 h0 n0) v U'.heap L ∧ FrameEnd s o U' L 16 128) (s₁.setTop (entryFrame m #[(.int p0), (.int p1), (.int p2), (.int p3)] maxLocals))
  refine own_go (B := s₁.setTop (mkF m 0 #[iv p0, iv p1, iv p2, iv p3, .unset, .unset, .unset, .unset, .unset, .unset, .unset, .unset] [])) (fun t k => castTop (own_law_ef m p0 p1 p2 p3) k) ?_
  have K0 := Keep.refl h0 []
  refine own_go (B := (s₁.setTop (mkF m 1 #[iv p0, iv p1, iv p2, iv p3, .unset, .unset, .unset, .unset, .unset, .unset, .unset, .unset] [(.int p0)]))) (fun t k => XS.iloadN X0.here hx rfl (hb hby at_0) rfl k) ?_
  have lc1 := X0.ldcInt hx hown (v := (65535 : Int32)) (mvT hZ w_0) (g := (mkF m 1 #[iv p0, iv p1, iv p2, iv p3, .unset, .unset, .unset, .unset, .unset, .unset, .unset, .unset] [(.int p0)])) rfl (hb hby at_1)
  refine own_go (B := (s₁.setTop (mkF m 3 #[iv p0, iv p1, iv p2, iv p3, .unset, .unset, .unset, .unset, .unset, .unset, .unset, .unset] [(.int (65535 : Int32)), (.int p0)]))) lc1 ?_
  refine own_go (B := (s₁.setTop (mkF m 4 #[iv p0, iv p1, iv p2, iv p3, .unset, .unset, .unset, .unset, .unset, .unset, .unset, .unset] [(.int (p0 &&& (65535 : Int32)))]))) (fun t k => XS.iand X0.here hx rfl (hb hby at_3) rfl k) ?_
  obtain ⟨z4, hz4⟩ : ∃ z : Int32, z = (p0 &&& (65535 : Int32)) := ⟨_, rfl⟩
  rw [← hz4]
  refine own_go (B := (s₁.setTop (mkF m 6 #[iv p0, iv p1, iv p2, iv p3, iv z4, .unset, .unset, .unset, .unset, .unset, .unset, .unset] []))) (fun t k => XS.istore X0.here hx rfl (hb hby at_4) rfl (l' := #[iv p0, iv p1, iv p2, iv p3, iv z4, .unset, .unset, .unset, .unset, .unset, .unset, .unset]) rfl k) ?_
  refine own_go (B := (s₁.setTop (mkF m 7 #[iv p0, iv p1, iv p2, iv p3, iv z4, .unset, .unset, .unset, .unset, .unset, .unset, .unset] [(.int p1)]))) (fun t k => XS.iloadN X0.here hx rfl (hb hby at_6) rfl k) ?_
  have lc2 := X0.ldcInt hx hown (v := (65535 : Int32)) (mvT hZ w_0) (g := (mkF m 7 #[iv p0, iv p1, iv p2, iv p3, iv z4, .unset, .unset, .unset, .unset, .unset, .unset, .unset] [(.int p1)])) rfl (hb hby at_7)
  refine own_go (B := (s₁.setTop (mkF m 9 #[iv p0, iv p1, iv p2, iv p3, iv z4, .unset, .unset, .unset, .unset, .unset, .unset, .unset] [(.int (65535 : Int32)), (.int p1)]))) lc2 ?_
  refine own_go (B := (s₁.setTop (mkF m 10 #[iv p0, iv p1, iv p2, iv p3, iv z4, .unset, .unset, .unset, .unset, .unset, .unset, .unset] [(.int (p1 &&& (65535 : Int32)))]))) (fun t k => XS.iand X0.here hx rfl (hb hby at_9) rfl k) ?_
  obtain ⟨z10, hz10⟩ : ∃ z : Int32, z = (p1 &&& (65535 : Int32)) := ⟨_, rfl⟩
  rw [← hz10]
  refine own_go (B := (s₁.setTop (mkF m 12 #[iv p0, iv p1, iv p2, iv p3, iv z4, iv z10, .unset, .unset, .unset, .unset, .unset, .unset] []))) (fun t k => XS.istore X0.here hx rfl (hb hby at_10) rfl (l' := #[iv p0, iv p1, iv p2, iv p3, iv z4, iv z10, .unset, .unset, .unset, .unset, .unset, .unset]) rfl k) ?_
  refine own_go (B := (s₁.setTop (mkF m 14 #[iv p0, iv p1, iv p2, iv p3, iv z4, iv z10, .unset, .unset, .unset, .unset, .unset, .unset] [(.int z4)]))) (fun t k => XS.iload X0.here hx rfl (hb hby at_12) rfl k) ?_
  refine own_go (B := (s₁.setTop (mkF m 16 #[iv p0, iv p1, iv p2, iv p3, iv z4, iv z10, .unset, .unset, .unset, .unset, .unset, .unset] [(.int z10), (.int z4)]))) (fun t k => XS.iload X0.here hx rfl (hb hby at_14) rfl k) ?_
  obtain ⟨_, _, ⟨T3, L3, k3, n3⟩, -, X3, ⟨Lc3, hQ3, l3, y3, z3⟩, st3⟩ := Jvm.LawKit.callS X0 hx (y := own_y1) hown (mvT hZ w_1) (mvT hZ w_2) (mvT hZ w_3) (mvT hZ w_4) (by decide) (backOf (W := 0) (own_mmin l Z a0 hw [] z4 z10 h0 n0) hZ w_4 w_3 (by decide) (by decide)) (g := (mkF m 16 #[iv p0, iv p1, iv p2, iv p3, iv z4, iv z10, .unset, .unset, .unset, .unset, .unset, .unset] [(.int z10), (.int z4)])) rfl (by rw [hml]; rfl) (argsL := [(.int z4), (.int z10)]) (rest := []) (lenOf own_pd1 rfl) rfl (by show 2 * 0 + _ ≤ _; exact own_b rfl) (hb hby at_16) (fun _ _ => ⟨rfl, e0, (own_b rfl : 0 + 0 ≤ _), (own_b rfl : 0 + 0 ≤ _)⟩)
  dsimp only [Pt.U, Pt.locs, Pt.cells, Pt.slots] at X3 l3 y3 z3 st3 hQ3
  subst l3 y3 z3
  obtain ⟨rfl, Nq3, eq3⟩ := hQ3
  have N3 := Fr.app N0 Nq3
  have e3 : T3.heap = h0 := eq3
  refine own_go (B := (T3.setTop (mkF m 19 #[iv p0, iv p1, iv p2, iv p3, iv z4, iv z10, .unset, .unset, .unset, .unset, .unset, .unset] [(.int (own_min z4 z10))]))) st3 ?_
  obtain ⟨z19, hz19⟩ : ∃ z : Int32, z = (own_min z4 z10) := ⟨_, rfl⟩
  rw [← hz19]
  refine own_go (B := (T3.setTop (mkF m 21 #[iv p0, iv p1, iv p2, iv p3, iv z4, iv z10, iv z19, .unset, .unset, .unset, .unset, .unset] []))) (fun t k => XS.istore X3.here hx rfl (hb hby at_19) rfl (l' := #[iv p0, iv p1, iv p2, iv p3, iv z4, iv z10, iv z19, .unset, .unset, .unset, .unset, .unset]) rfl k) ?_
  refine own_go (B := (T3.setTop (mkF m 23 #[iv p0, iv p1, iv p2, iv p3, iv z4, iv z10, iv z19, .unset, .unset, .unset, .unset, .unset] [(.int z4)]))) (fun t k => XS.iload X3.here hx rfl (hb hby at_21) rfl k) ?_
  refine own_go (B := (T3.setTop (mkF m 25 #[iv p0, iv p1, iv p2, iv p3, iv z4, iv z10, iv z19, .unset, .unset, .unset, .unset, .unset] [(.int z10), (.int z4)]))) (fun t k => XS.iload X3.here hx rfl (hb hby at_23) rfl k) ?_
  obtain ⟨_, _, ⟨T4, L4, k4, n4⟩, -, X4, ⟨Lc4, hQ4, l4, y4, z4⟩, st4⟩ := Jvm.LawKit.callS X3 hx (y := own_y2) hown (mvT hZ w_5) (mvT hZ w_6) (mvT hZ w_3) (mvT hZ w_7) (by decide) (backOf (W := 0) (own_mmax l Z a0 hw [] z4 z10 h0 n0) hZ w_7 w_3 (by decide) (by decide)) (g := (mkF m 25 #[iv p0, iv p1, iv p2, iv p3, iv z4, iv z10, iv z19, .unset, .unset, .unset, .unset, .unset] [(.int z10), (.int z4)])) rfl (by rw [hml]; rfl) (argsL := [(.int z4), (.int z10)]) (rest := []) (lenOf own_pd1 rfl) rfl (by show 2 * 0 + _ ≤ _; exact own_b rfl) (hb hby at_25) (fun _ _ => ⟨rfl, e3, (own_b rfl : 0 + 0 ≤ _), (own_b rfl : 0 + 0 ≤ _)⟩)
  dsimp only [Pt.U, Pt.locs, Pt.cells, Pt.slots] at X4 l4 y4 z4 st4 hQ4
  subst l4 y4 z4
  obtain ⟨rfl, Nq4, eq4⟩ := hQ4
  have N4 := Fr.app N3 Nq4
  have e4 : T4.heap = h0 := eq4
  refine own_go (B := (T4.setTop (mkF m 28 #[iv p0, iv p1, iv p2, iv p3, iv z4, iv z10, iv z19, .unset, .unset, .unset, .unset, .unset] [(.int (own_max z4 z10))]))) st4 ?_
  obtain ⟨z28, hz28⟩ : ∃ z : Int32, z = (own_max z4 z10) := ⟨_, rfl⟩
  rw [← hz28]
  refine own_go (B := (T4.setTop (mkF m 30 #[iv p0, iv p1, iv p2, iv p3, iv z4, iv z10, iv z19, iv z28, .unset, .unset, .unset, .unset] []))) (fun t k => XS.istore X4.here hx rfl (hb hby at_28) rfl (l' := #[iv p0, iv p1, iv p2, iv p3, iv z4, iv z10, iv z19, iv z28, .unset, .unset, .unset, .unset]) rfl k) ?_
  obtain ⟨T5, h5, X5, e5, E5, A5, D5, U5, st5⟩ := newO X4 hx hZ hown w_8 w_9 w_10 e4 (g := (mkF m 30 #[iv p0, iv p1, iv p2, iv p3, iv z4, iv z10, iv z19, iv z28, .unset, .unset, .unset, .unset] [])) rfl (hb hby at_30) (own_b rfl) (own_b rfl)
  obtain ⟨a5, ga5⟩ : ∃ z, z = h0.size := ⟨_, rfl⟩
  rw [← ga5] at A5 D5 U5 st5
  refine own_go (B := (T5.setTop (mkF m 33 #[iv p0, iv p1, iv p2, iv p3, iv z4, iv z10, iv z19, iv z28, .unset, .unset, .unset, .unset] [(.ref a5)]))) st5 ?_
  have Z6 : n0 ≤ h5.size := Nat.le_trans Z0 E5.1
  have K7 := Keep.ext K0 E5
  have gn5 : n0 ≤ a5 := Nat.le_trans Z0 (Nat.le_of_eq ga5.symm)
  have F8 : Fld Z h5 a5 "com/example/parts_to_policy/partstopolicy/model/PortRange" "first" "I" (.int (0 : Int32)) := D5 (Or.inr w_19) (ty := .int) (by decide)
  have F9 : Fld Z h5 a5 "com/example/parts_to_policy/partstopolicy/model/PortRange" "last" "I" (.int (0 : Int32)) := D5 (Or.inr w_21) (ty := .int) (by decide)
  refine own_go (B := (T5.setTop (mkF m 34 #[iv p0, iv p1, iv p2, iv p3, iv z4, iv z10, iv z19, iv z28, .unset, .unset, .unset, .unset] [(.ref a5), (.ref a5)]))) (fun t k => XS.dup X5.here hx rfl (hb hby at_33) rfl rfl k) ?_
  refine own_go (B := (T5.setTop (mkF m 36 #[iv p0, iv p1, iv p2, iv p3, iv z4, iv z10, iv z19, iv z28, .unset, .unset, .unset, .unset] [(.int z19), (.ref a5), (.ref a5)]))) (fun t k => XS.iload X5.here hx rfl (hb hby at_34) rfl k) ?_
  refine own_go (B := (T5.setTop (mkF m 38 #[iv p0, iv p1, iv p2, iv p3, iv z4, iv z10, iv z19, iv z28, .unset, .unset, .unset, .unset] [(.int z28), (.int z19), (.ref a5), (.ref a5)]))) (fun t k => XS.iload X5.here hx rfl (hb hby at_36) rfl k) ?_
  obtain ⟨hq1, hq2, hq3⟩ := own_lohi hz4 hz10 hz19 hz28
  obtain ⟨_, _, ⟨T10, L10, k10, n10⟩, -, X10, ⟨Lc10, hQ10, l10, y10, z10⟩, st10⟩ := X5.specialBack hx (y := own_y3) rfl hown (mvT hZ w_11) (mvT hZ w_12) (mvT hZ w_13) (by decide) (backOf (W := 1) (own_ct l Z a0 hw [] a5 z19 z28 h5 n0 Z6 A5 gn5 F8 F9 hq1 hq2 hq3) hZ w_13 w_10 (by decide) (by decide)) (g := (mkF m 38 #[iv p0, iv p1, iv p2, iv p3, iv z4, iv z10, iv z19, iv z28, .unset, .unset, .unset, .unset] [(.int z28), (.int z19), (.ref a5), (.ref a5)])) rfl (by rw [hml]; rfl) (Steps.refl _) (a := a5) (argsL := [(.int z19), (.int z28)]) (rest := [(.ref a5)]) (lenOf own_pd2 rfl) rfl (by show 2 * 0 + _ ≤ _; exact own_b rfl) (hb hby at_38) (fun _ _ => ⟨rfl, e5, (own_b rfl : 1 + 0 ≤ _), (own_b rfl : 2 + 0 ≤ _)⟩)
  dsimp only [Pt.U, Pt.locs, Pt.cells, Pt.slots] at X10 l10 y10 z10 st10 hQ10
  subst l10 y10 z10
  obtain ⟨rfl, Nq10, K10, Ex10, g0_10, g1_10⟩ := hQ10
  have N10 := Fr.app N4 Nq10
  have F11 : n0 ≤ T10.heap.size := Nat.le_trans Z6 K10.1
  have F12 := Keep.trans K7 K10 (allS (Or.inr (Nat.le_trans K0.1 (Nat.le_of_eq ga5.symm))) all0)
  have F13 := Exa.keep A5 K10
  refine own_tr (B := (T10.setTop (mkF m 41 #[iv p0, iv p1, iv p2, iv p3, iv z4, iv z10, iv z19, iv z28, .unset, .unset, .unset, .unset] [(.ref a5)]))) st10 ?_
  refine own_go (B := (T10.setTop (mkF m 43 #[iv p0, iv p1, iv p2, iv p3, iv z4, iv z10, iv z19, iv z28, rv a5, .unset, .unset, .unset] []))) (fun t k => XS.astore X10.here hx rfl (hb hby at_41) rfl rfl (l' := #[iv p0, iv p1, iv p2, iv p3, iv z4, iv z10, iv z19, iv z28, rv a5, .unset, .unset, .unset]) rfl k) ?_
  refine own_go (B := (T10.setTop (mkF m 44 #[iv p0, iv p1, iv p2, iv p3, iv z4, iv z10, iv z19, iv z28, rv a5, .unset, .unset, .unset] [(.int p3)]))) (fun t k => XS.iloadN X10.here hx rfl (hb hby at_43) rfl k) ?_
  have lc16 := X10.ldcInt hx hown (v := (2147483647 : Int32)) (mvT hZ w_22) (g := (mkF m 44 #[iv p0, iv p1, iv p2, iv p3, iv z4, iv z10, iv z19, iv z28, rv a5, .unset, .unset, .unset] [(.int p3)])) rfl (hb hby at_44)
  refine own_go (B := (T10.setTop (mkF m 46 #[iv p0, iv p1, iv p2, iv p3, iv z4, iv z10, iv z19, iv z28, rv a5, .unset, .unset, .unset] [(.int (2147483647 : Int32)), (.int p3)]))) lc16 ?_
  refine own_go (B := (T10.setTop (mkF m 47 #[iv p0, iv p1, iv p2, iv p3, iv z4, iv z10, iv z19, iv z28, rv a5, .unset, .unset, .unset] [(.int (p3 &&& (2147483647 : Int32)))]))) (fun t k => XS.iand X10.here hx rfl (hb hby at_46) rfl k) ?_
  refine own_go (B := (T10.setTop (mkF m 48 #[iv p0, iv p1, iv p2, iv p3, iv z4, iv z10, iv z19, iv z28, rv a5, .unset, .unset, .unset] [(.int (5 : Int32)), (.int (p3 &&& (2147483647 : Int32)))]))) (fun t k => XS.iconst X10.here hx rfl (hb hby at_47) k) ?_
  refine own_go (B := (T10.setTop (mkF m 49 #[iv p0, iv p1, iv p2, iv p3, iv z4, iv z10, iv z19, iv z28, rv a5, .unset, .unset, .unset] [(.int ((p3 &&& (2147483647 : Int32)) % (5 : Int32)))]))) (fun t k => iremM X10 hx rfl (hb hby at_48) rfl (by decide) k) ?_
  obtain ⟨z49, hz49⟩ : ∃ z : Int32, z = ((p3 &&& (2147483647 : Int32)) % (5 : Int32)) := ⟨_, rfl⟩
  rw [← hz49]
  refine own_go (B := (T10.setTop (mkF m 51 #[iv p0, iv p1, iv p2, iv p3, iv z4, iv z10, iv z19, iv z28, rv a5, iv z49, .unset, .unset] []))) (fun t k => XS.istore X10.here hx rfl (hb hby at_49) rfl (l' := #[iv p0, iv p1, iv p2, iv p3, iv z4, iv z10, iv z19, iv z28, rv a5, iv z49, .unset, .unset]) rfl k) ?_
  refine own_go (B := (T10.setTop (mkF m 52 #[iv p0, iv p1, iv p2, iv p3, iv z4, iv z10, iv z19, iv z28, rv a5, iv z49, .unset, .unset] [(.int p2)]))) (fun t k => XS.iloadN X10.here hx rfl (hb hby at_51) rfl k) ?_
  refine own_go (B := (T10.setTop (mkF m 54 #[iv p0, iv p1, iv p2, iv p3, iv z4, iv z10, iv z19, iv z28, rv a5, iv z49, iv p2, .unset] []))) (fun t k => XS.istore X10.here hx rfl (hb hby at_52) rfl (l' := #[iv p0, iv p1, iv p2, iv p3, iv z4, iv z10, iv z19, iv z28, rv a5, iv z49, iv p2, .unset]) rfl k) ?_
  have J107 : ∀ (po : Int32), own_G p.tables e below (fun o U' => ∃ v L, o = .returned v ∧ (own_law_Q Z p0 p1 p2 p3 h0 n0) v U'.heap L ∧ FrameEnd s o U' L 16 128) (T10.setTop (mkF m 107 #[iv p0, iv p1, iv p2, iv p3, iv z4, iv z10, iv z19, iv z28, rv a5, iv z49, iv po, .unset] [])) := by
    intro po
    refine own_go (B := (T10.setTop (mkF m 109 #[iv p0, iv p1, iv p2, iv p3, iv z4, iv z10, iv z19, iv z28, rv a5, iv z49, iv po, .unset] [(.int z19)]))) (fun t k => XS.iload X10.here hx rfl (hb hby at_107) rfl k) ?_
    refine own_go (B := (T10.setTop (mkF m 111 #[iv p0, iv p1, iv p2, iv p3, iv z4, iv z10, iv z19, iv z28, rv a5, iv z49, iv po, .unset] [(.int po), (.int z19)]))) (fun t k => XS.iload X10.here hx rfl (hb hby at_109) rfl k) ?_
    refine own_go (B := (T10.setTop (mkF m 113 #[iv p0, iv p1, iv p2, iv p3, iv z4, iv z10, iv z19, iv z28, rv a5, iv z49, iv po, .unset] [(.int z28), (.int po), (.int z19)]))) (fun t k => XS.iload X10.here hx rfl (hb hby at_111) rfl k) ?_
    obtain ⟨_, _, ⟨T17, L17, k17, n17⟩, -, X17, ⟨Lc17, hQ17, l17, y17, z17⟩, st17⟩ := Jvm.LawKit.callS X10 hx (y := own_y1) hown (mvT hZ w_1) (mvT hZ w_2) (mvT hZ w_3) (mvT hZ w_4) (by decide) (backOf (W := 1) (own_mmin l Z a0 hw [] po z28 T10.heap n0) hZ w_4 w_3 (by decide) (by decide)) (g := (mkF m 113 #[iv p0, iv p1, iv p2, iv p3, iv z4, iv z10, iv z19, iv z28, rv a5, iv z49, iv po, .unset] [(.int z28), (.int po), (.int z19)])) rfl (by rw [hml]; rfl) (argsL := [(.int po), (.int z28)]) (rest := [(.int z19)]) (lenOf own_pd1 rfl) rfl (by show 2 * 0 + _ ≤ _; exact own_b rfl) (hb hby at_113) (fun _ _ => ⟨rfl, rfl, (own_b rfl : 1 + 0 ≤ _), (own_b rfl : 2 + 0 ≤ _)⟩)
    dsimp only [Pt.U, Pt.locs, Pt.cells, Pt.slots] at X17 l17 y17 z17 st17 hQ17
    subst l17 y17 z17
    obtain ⟨rfl, Nq17, eq17⟩ := hQ17
    have N17 := Fr.app N10 Nq17
    have e17 : T17.heap = T10.heap := eq17
    refine own_go (B := (T17.setTop (mkF m 116 #[iv p0, iv p1, iv p2, iv p3, iv z4, iv z10, iv z19, iv z28, rv a5, iv z49, iv po, .unset] [(.int (own_min po z28)), (.int z19)]))) st17 ?_
    obtain ⟨_, _, ⟨T18, L18, k18, n18⟩, -, X18, ⟨Lc18, hQ18, l18, y18, z18⟩, st18⟩ := Jvm.LawKit.callS X17 hx (y := own_y2) hown (mvT hZ w_5) (mvT hZ w_6) (mvT hZ w_3) (mvT hZ w_7) (by decide) (backOf (W := 0) (own_mmax l Z a0 hw [] z19 (own_min po z28) T10.heap n0) hZ w_7 w_3 (by decide) (by decide)) (g := (mkF m 116 #[iv p0, iv p1, iv p2, iv p3, iv z4, iv z10, iv z19, iv z28, rv a5, iv z49, iv po, .unset] [(.int (own_min po z28)), (.int z19)])) rfl (by rw [hml]; rfl) (argsL := [(.int z19), (.int (own_min po z28))]) (rest := []) (lenOf own_pd1 rfl) rfl (by show 2 * 0 + _ ≤ _; exact own_b rfl) (hb hby at_116) (fun _ _ => ⟨rfl, e17, (own_b rfl : 1 + 0 ≤ _), (own_b rfl : 2 + 0 ≤ _)⟩)
    dsimp only [Pt.U, Pt.locs, Pt.cells, Pt.slots] at X18 l18 y18 z18 st18 hQ18
    subst l18 y18 z18
    obtain ⟨rfl, Nq18, eq18⟩ := hQ18
    have N18 := Fr.app N17 Nq18
    have e18 : T18.heap = T10.heap := eq18
    refine own_go (B := (T18.setTop (mkF m 119 #[iv p0, iv p1, iv p2, iv p3, iv z4, iv z10, iv z19, iv z28, rv a5, iv z49, iv po, .unset] [(.int (own_max z19 (own_min po z28)))]))) st18 ?_
    refine own_go (B := (T18.setTop (mkF m 121 #[iv p0, iv p1, iv p2, iv p3, iv z4, iv z10, iv z19, iv z28, rv a5, iv z49, iv po, .unset] [(.int po), (.int (own_max z19 (own_min po z28)))]))) (fun t k => XS.iload X18.here hx rfl (hb hby at_119) rfl k) ?_
    refine own_icmp X18 hx (hb hby at_121) (pc' := 128) (pn := 124) (by decide) (by decide) rfl (fun (hc121 : ¬ (own_max z19 (own_min po z28)) = po) => ?_) (fun (hc121 : (own_max z19 (own_min po z28)) = po) => ?_)
    · refine own_go (B := (T18.setTop (mkF m 129 #[iv p0, iv p1, iv p2, iv p3, iv z4, iv z10, iv z19, iv z28, rv a5, iv z49, iv po, .unset] [(.int (0 : Int32))]))) (fun t k => XS.iconst X18.here hx rfl (hb hby at_128) k) ?_
      refine own_go (B := (T18.setTop (mkF m 131 #[iv p0, iv p1, iv p2, iv p3, iv z4, iv z10, iv z19, iv z28, rv a5, iv z49, iv po, iv (0 : Int32)] []))) (fun t k => XS.istore X18.here hx rfl (hb hby at_129) rfl (l' := #[iv p0, iv p1, iv p2, iv p3, iv z4, iv z10, iv z19, iv z28, rv a5, iv z49, iv po, iv (0 : Int32)]) rfl k) ?_
      refine own_go (B := (T18.setTop (mkF m 133 #[iv p0, iv p1, iv p2, iv p3, iv z4, iv z10, iv z19, iv z28, rv a5, iv z49, iv po, iv (0 : Int32)] [(.ref a5)]))) (fun t k => XS.aload X18.here hx rfl (hb hby at_131) rfl rfl k) ?_
      refine own_go (B := (T18.setTop (mkF m 135 #[iv p0, iv p1, iv p2, iv p3, iv z4, iv z10, iv z19, iv z28, rv a5, iv z49, iv po, iv (0 : Int32)] [(.int po), (.ref a5)]))) (fun t k => XS.iload X18.here hx rfl (hb hby at_133) rfl k) ?_
      obtain ⟨cq19, kq19, qa19, qb19, qc19⟩ := isOf hZ e18 Ex10
      obtain ⟨_, _, ⟨T19, L19, k19, n19⟩, -, X19, ⟨Lc19, hQ19, l19, y19, z19⟩, st19⟩ := X18.virtualBack hx (y := own_y4) (z := own_y4) hown (mvT hZ w_23) (mvT hZ w_24) (notFace_of_selects (args := #[]) (mvT hZ w_26)) (mvT hZ w_26) (mvT hZ w_25) (by decide) (backOf (W := 0) (own_co l Z a0 hw [] a5 po z19 z28 T10.heap n0 g0_10 g1_10) hZ w_27 w_10 (by decide) (by decide)) qa19 qc19 (g := (mkF m 135 #[iv p0, iv p1, iv p2, iv p3, iv z4, iv z10, iv z19, iv z28, rv a5, iv z49, iv po, iv (0 : Int32)] [(.int po), (.ref a5)])) rfl (by rw [hml]; rfl) (Steps.refl _) (argsL := [(.int po)]) (rest := []) (lenOf own_pd3 rfl) rfl (by show 2 * 0 + _ ≤ _; exact own_b rfl) (hb hby at_135) (fun _ _ => ⟨rfl, e18, (own_b rfl : 1 + 0 ≤ _), (own_b rfl : 2 + 0 ≤ _)⟩)
      dsimp only [Pt.U, Pt.locs, Pt.cells, Pt.slots] at X19 l19 y19 z19 st19 hQ19
      subst l19 y19 z19
      obtain ⟨rfl, Nq19, eq19⟩ := hQ19
      have N19 := Fr.app N18 Nq19
      have e19 : T19.heap = T10.heap := eq19
      refine own_tr (B := (T19.setTop (mkF m 138 #[iv p0, iv p1, iv p2, iv p3, iv z4, iv z10, iv z19, iv z28, rv a5, iv z49, iv po, iv (0 : Int32)] [(.int (own_in z19 z28 po))]))) st19 ?_
      refine own_go (B := (T19.setTop (mkF m 140 #[iv p0, iv p1, iv p2, iv p3, iv z4, iv z10, iv z19, iv z28, rv a5, iv z49, iv po, iv (0 : Int32)] [(.int (0 : Int32)), (.int (own_in z19 z28 po))]))) (fun t k => XS.iload X19.here hx rfl (hb hby at_138) rfl k) ?_
      have hc140 : (own_in z19 z28 po) = (0 : Int32) := (own_c0 hq3 hc121)
      refine own_icmpN X19 hx (hb hby at_140) (pn := 143) rfl hc140 ?_
      refine own_go (B := (T19.setTop (mkF m 144 #[iv p0, iv p1, iv p2, iv p3, iv z4, iv z10, iv z19, iv z28, rv a5, iv z49, iv po, iv (0 : Int32)] [(.int (1 : Int32))]))) (fun t k => XS.iconst X19.here hx rfl (hb hby at_143) k) ?_
      refine own_go (B := (T19.setTop (mkF m 148 #[iv p0, iv p1, iv p2, iv p3, iv z4, iv z10, iv z19, iv z28, rv a5, iv z49, iv po, iv (0 : Int32)] [(.int (1 : Int32))]))) (fun t k => XS.goto X19.here hx rfl (pc0 := 144) (pc' := 148) rfl (hb hby at_144) (by decide) (by decide) k) ?_
      exact own_retZ X19 hx hlk Bd.returns (hb hby at_148) (by decide) (own_b rfl) (own_b rfl) (Q := (own_law_Q Z p0 p1 p2 p3 h0 n0)) ⟨rfl, N19⟩
    · refine own_go (B := (T18.setTop (mkF m 125 #[iv p0, iv p1, iv p2, iv p3, iv z4, iv z10, iv z19, iv z28, rv a5, iv z49, iv po, .unset] [(.int (1 : Int32))]))) (fun t k => XS.iconst X18.here hx rfl (hb hby at_124) k) ?_
      refine own_go (B := (T18.setTop (mkF m 129 #[iv p0, iv p1, iv p2, iv p3, iv z4, iv z10, iv z19, iv z28, rv a5, iv z49, iv po, .unset] [(.int (1 : Int32))]))) (fun t k => XS.goto X18.here hx rfl (pc0 := 125) (pc' := 129) rfl (hb hby at_125) (by decide) (by decide) k) ?_
      refine own_go (B := (T18.setTop (mkF m 131 #[iv p0, iv p1, iv p2, iv p3, iv z4, iv z10, iv z19, iv z28, rv a5, iv z49, iv po, iv (1 : Int32)] []))) (fun t k => XS.istore X18.here hx rfl (hb hby at_129) rfl (l' := #[iv p0, iv p1, iv p2, iv p3, iv z4, iv z10, iv z19, iv z28, rv a5, iv z49, iv po, iv (1 : Int32)]) rfl k) ?_
      refine own_go (B := (T18.setTop (mkF m 133 #[iv p0, iv p1, iv p2, iv p3, iv z4, iv z10, iv z19, iv z28, rv a5, iv z49, iv po, iv (1 : Int32)] [(.ref a5)]))) (fun t k => XS.aload X18.here hx rfl (hb hby at_131) rfl rfl k) ?_
      refine own_go (B := (T18.setTop (mkF m 135 #[iv p0, iv p1, iv p2, iv p3, iv z4, iv z10, iv z19, iv z28, rv a5, iv z49, iv po, iv (1 : Int32)] [(.int po), (.ref a5)]))) (fun t k => XS.iload X18.here hx rfl (hb hby at_133) rfl k) ?_
      obtain ⟨cq20, kq20, qa20, qb20, qc20⟩ := isOf hZ e18 Ex10
      obtain ⟨_, _, ⟨T20, L20, k20, n20⟩, -, X20, ⟨Lc20, hQ20, l20, y20, z20⟩, st20⟩ := X18.virtualBack hx (y := own_y4) (z := own_y4) hown (mvT hZ w_23) (mvT hZ w_24) (notFace_of_selects (args := #[]) (mvT hZ w_26)) (mvT hZ w_26) (mvT hZ w_25) (by decide) (backOf (W := 0) (own_co l Z a0 hw [] a5 po z19 z28 T10.heap n0 g0_10 g1_10) hZ w_27 w_10 (by decide) (by decide)) qa20 qc20 (g := (mkF m 135 #[iv p0, iv p1, iv p2, iv p3, iv z4, iv z10, iv z19, iv z28, rv a5, iv z49, iv po, iv (1 : Int32)] [(.int po), (.ref a5)])) rfl (by rw [hml]; rfl) (Steps.refl _) (argsL := [(.int po)]) (rest := []) (lenOf own_pd3 rfl) rfl (by show 2 * 0 + _ ≤ _; exact own_b rfl) (hb hby at_135) (fun _ _ => ⟨rfl, e18, (own_b rfl : 1 + 0 ≤ _), (own_b rfl : 2 + 0 ≤ _)⟩)
      dsimp only [Pt.U, Pt.locs, Pt.cells, Pt.slots] at X20 l20 y20 z20 st20 hQ20
      subst l20 y20 z20
      obtain ⟨rfl, Nq20, eq20⟩ := hQ20
      have N20 := Fr.app N18 Nq20
      have e20 : T20.heap = T10.heap := eq20
      refine own_tr (B := (T20.setTop (mkF m 138 #[iv p0, iv p1, iv p2, iv p3, iv z4, iv z10, iv z19, iv z28, rv a5, iv z49, iv po, iv (1 : Int32)] [(.int (own_in z19 z28 po))]))) st20 ?_
      refine own_go (B := (T20.setTop (mkF m 140 #[iv p0, iv p1, iv p2, iv p3, iv z4, iv z10, iv z19, iv z28, rv a5, iv z49, iv po, iv (1 : Int32)] [(.int (1 : Int32)), (.int (own_in z19 z28 po))]))) (fun t k => XS.iload X20.here hx rfl (hb hby at_138) rfl k) ?_
      have hc140 : (own_in z19 z28 po) = (1 : Int32) := (own_c1 hq3 hc121)
      refine own_icmpN X20 hx (hb hby at_140) (pn := 143) rfl hc140 ?_
      refine own_go (B := (T20.setTop (mkF m 144 #[iv p0, iv p1, iv p2, iv p3, iv z4, iv z10, iv z19, iv z28, rv a5, iv z49, iv po, iv (1 : Int32)] [(.int (1 : Int32))]))) (fun t k => XS.iconst X20.here hx rfl (hb hby at_143) k) ?_
      refine own_go (B := (T20.setTop (mkF m 148 #[iv p0, iv p1, iv p2, iv p3, iv z4, iv z10, iv z19, iv z28, rv a5, iv z49, iv po, iv (1 : Int32)] [(.int (1 : Int32))]))) (fun t k => XS.goto X20.here hx rfl (pc0 := 144) (pc' := 148) rfl (hb hby at_144) (by decide) (by decide) k) ?_
      exact own_retZ X20 hx hlk Bd.returns (hb hby at_148) (by decide) (own_b rfl) (own_b rfl) (Q := (own_law_Q Z p0 p1 p2 p3 h0 n0)) ⟨rfl, N20⟩
  refine own_go (B := (T10.setTop (mkF m 56 #[iv p0, iv p1, iv p2, iv p3, iv z4, iv z10, iv z19, iv z28, rv a5, iv z49, iv p2, .unset] [(.int z49)]))) (fun t k => XS.iload X10.here hx rfl (hb hby at_54) rfl k) ?_
  refine own_go (B := (T10.setTop (mkF m 57 #[iv p0, iv p1, iv p2, iv p3, iv z4, iv z10, iv z19, iv z28, rv a5, iv z49, iv p2, .unset] [(.int (1 : Int32)), (.int z49)]))) (fun t k => XS.iconst X10.here hx rfl (hb hby at_56) k) ?_
  refine own_icmp X10 hx (hb hby at_57) (pc' := 67) (pn := 60) (by decide) (by decide) rfl (fun (hc57 : ¬ z49 = (1 : Int32)) => ?_) (fun (hc57 : z49 = (1 : Int32)) => ?_)
  · refine own_go (B := (T10.setTop (mkF m 69 #[iv p0, iv p1, iv p2, iv p3, iv z4, iv z10, iv z19, iv z28, rv a5, iv z49, iv p2, .unset] [(.int z49)]))) (fun t k => XS.iload X10.here hx rfl (hb hby at_67) rfl k) ?_
    refine own_go (B := (T10.setTop (mkF m 70 #[iv p0, iv p1, iv p2, iv p3, iv z4, iv z10, iv z19, iv z28, rv a5, iv z49, iv p2, .unset] [(.int (2 : Int32)), (.int z49)]))) (fun t k => XS.iconst X10.here hx rfl (hb hby at_69) k) ?_
    refine own_icmp X10 hx (hb hby at_70) (pc' := 80) (pn := 73) (by decide) (by decide) rfl (fun (hc70 : ¬ z49 = (2 : Int32)) => ?_) (fun (hc70 : z49 = (2 : Int32)) => ?_)
    · refine own_go (B := (T10.setTop (mkF m 82 #[iv p0, iv p1, iv p2, iv p3, iv z4, iv z10, iv z19, iv z28, rv a5, iv z49, iv p2, .unset] [(.int z49)]))) (fun t k => XS.iload X10.here hx rfl (hb hby at_80) rfl k) ?_
      refine own_go (B := (T10.setTop (mkF m 83 #[iv p0, iv p1, iv p2, iv p3, iv z4, iv z10, iv z19, iv z28, rv a5, iv z49, iv p2, .unset] [(.int (3 : Int32)), (.int z49)]))) (fun t k => XS.iconst X10.here hx rfl (hb hby at_82) k) ?_
      refine own_icmp X10 hx (hb hby at_83) (pc' := 95) (pn := 86) (by decide) (by decide) rfl (fun (hc83 : ¬ z49 = (3 : Int32)) => ?_) (fun (hc83 : z49 = (3 : Int32)) => ?_)
      · refine own_go (B := (T10.setTop (mkF m 97 #[iv p0, iv p1, iv p2, iv p3, iv z4, iv z10, iv z19, iv z28, rv a5, iv z49, iv p2, .unset] [(.int z49)]))) (fun t k => XS.iload X10.here hx rfl (hb hby at_95) rfl k) ?_
        refine own_go (B := (T10.setTop (mkF m 98 #[iv p0, iv p1, iv p2, iv p3, iv z4, iv z10, iv z19, iv z28, rv a5, iv z49, iv p2, .unset] [(.int (4 : Int32)), (.int z49)]))) (fun t k => XS.iconst X10.here hx rfl (hb hby at_97) k) ?_
        refine own_icmp X10 hx (hb hby at_98) (pc' := 107) (pn := 101) (by decide) (by decide) rfl (fun (hc98 : ¬ z49 = (4 : Int32)) => ?_) (fun (hc98 : z49 = (4 : Int32)) => ?_)
        · exact J107 _
        · refine own_go (B := (T10.setTop (mkF m 103 #[iv p0, iv p1, iv p2, iv p3, iv z4, iv z10, iv z19, iv z28, rv a5, iv z49, iv p2, .unset] [(.int z28)]))) (fun t k => XS.iload X10.here hx rfl (hb hby at_101) rfl k) ?_
          refine own_go (B := (T10.setTop (mkF m 104 #[iv p0, iv p1, iv p2, iv p3, iv z4, iv z10, iv z19, iv z28, rv a5, iv z49, iv p2, .unset] [(.int (1 : Int32)), (.int z28)]))) (fun t k => XS.iconst X10.here hx rfl (hb hby at_103) k) ?_
          refine own_go (B := (T10.setTop (mkF m 105 #[iv p0, iv p1, iv p2, iv p3, iv z4, iv z10, iv z19, iv z28, rv a5, iv z49, iv p2, .unset] [(.int (z28 + (1 : Int32)))]))) (fun t k => XS.iadd X10.here hx rfl (hb hby at_104) rfl k) ?_
          obtain ⟨z105, hz105⟩ : ∃ z : Int32, z = (z28 + (1 : Int32)) := ⟨_, rfl⟩
          rw [← hz105]
          refine own_go (B := (T10.setTop (mkF m 107 #[iv p0, iv p1, iv p2, iv p3, iv z4, iv z10, iv z19, iv z28, rv a5, iv z49, iv z105, .unset] []))) (fun t k => XS.istore X10.here hx rfl (hb hby at_105) rfl (l' := #[iv p0, iv p1, iv p2, iv p3, iv z4, iv z10, iv z19, iv z28, rv a5, iv z49, iv z105, .unset]) rfl k) ?_
          exact J107 _
      · refine own_go (B := (T10.setTop (mkF m 88 #[iv p0, iv p1, iv p2, iv p3, iv z4, iv z10, iv z19, iv z28, rv a5, iv z49, iv p2, .unset] [(.int z19)]))) (fun t k => XS.iload X10.here hx rfl (hb hby at_86) rfl k) ?_
        refine own_go (B := (T10.setTop (mkF m 89 #[iv p0, iv p1, iv p2, iv p3, iv z4, iv z10, iv z19, iv z28, rv a5, iv z49, iv p2, .unset] [(.int (1 : Int32)), (.int z19)]))) (fun t k => XS.iconst X10.here hx rfl (hb hby at_88) k) ?_
        refine own_go (B := (T10.setTop (mkF m 90 #[iv p0, iv p1, iv p2, iv p3, iv z4, iv z10, iv z19, iv z28, rv a5, iv z49, iv p2, .unset] [(.int (z19 - (1 : Int32)))]))) (fun t k => XS.isub X10.here hx rfl (hb hby at_89) rfl k) ?_
        obtain ⟨z90, hz90⟩ : ∃ z : Int32, z = (z19 - (1 : Int32)) := ⟨_, rfl⟩
        rw [← hz90]
        refine own_go (B := (T10.setTop (mkF m 92 #[iv p0, iv p1, iv p2, iv p3, iv z4, iv z10, iv z19, iv z28, rv a5, iv z49, iv z90, .unset] []))) (fun t k => XS.istore X10.here hx rfl (hb hby at_90) rfl (l' := #[iv p0, iv p1, iv p2, iv p3, iv z4, iv z10, iv z19, iv z28, rv a5, iv z49, iv z90, .unset]) rfl k) ?_
        refine own_go (B := (T10.setTop (mkF m 107 #[iv p0, iv p1, iv p2, iv p3, iv z4, iv z10, iv z19, iv z28, rv a5, iv z49, iv z90, .unset] []))) (fun t k => XS.goto X10.here hx rfl (pc0 := 92) (pc' := 107) rfl (hb hby at_92) (by decide) (by decide) k) ?_
        exact J107 _
    · refine own_go (B := (T10.setTop (mkF m 75 #[iv p0, iv p1, iv p2, iv p3, iv z4, iv z10, iv z19, iv z28, rv a5, iv z49, iv p2, .unset] [(.int z28)]))) (fun t k => XS.iload X10.here hx rfl (hb hby at_73) rfl k) ?_
      refine own_go (B := (T10.setTop (mkF m 77 #[iv p0, iv p1, iv p2, iv p3, iv z4, iv z10, iv z19, iv z28, rv a5, iv z49, iv z28, .unset] []))) (fun t k => XS.istore X10.here hx rfl (hb hby at_75) rfl (l' := #[iv p0, iv p1, iv p2, iv p3, iv z4, iv z10, iv z19, iv z28, rv a5, iv z49, iv z28, .unset]) rfl k) ?_
      refine own_go (B := (T10.setTop (mkF m 107 #[iv p0, iv p1, iv p2, iv p3, iv z4, iv z10, iv z19, iv z28, rv a5, iv z49, iv z28, .unset] []))) (fun t k => XS.goto X10.here hx rfl (pc0 := 77) (pc' := 107) rfl (hb hby at_77) (by decide) (by decide) k) ?_
      exact J107 _
  · refine own_go (B := (T10.setTop (mkF m 62 #[iv p0, iv p1, iv p2, iv p3, iv z4, iv z10, iv z19, iv z28, rv a5, iv z49, iv p2, .unset] [(.int z19)]))) (fun t k => XS.iload X10.here hx rfl (hb hby at_60) rfl k) ?_
    refine own_go (B := (T10.setTop (mkF m 64 #[iv p0, iv p1, iv p2, iv p3, iv z4, iv z10, iv z19, iv z28, rv a5, iv z49, iv z19, .unset] []))) (fun t k => XS.istore X10.here hx rfl (hb hby at_62) rfl (l' := #[iv p0, iv p1, iv p2, iv p3, iv z4, iv z10, iv z19, iv z28, rv a5, iv z49, iv z19, .unset]) rfl k) ?_
    refine own_go (B := (T10.setTop (mkF m 107 #[iv p0, iv p1, iv p2, iv p3, iv z4, iv z10, iv z19, iv z28, rv a5, iv z49, iv z19, .unset] []))) (fun t k => XS.goto X10.here hx rfl (pc0 := 64) (pc' := 107) rfl (hb hby at_64) (by decide) (by decide) k) ?_
    exact J107 _

set_option maxRecDepth 65536 in
set_option maxHeartbeats 40000000 in
theorem own_comes {Post : Tables → Env → Array Value → State → Outcome → State → Prop} (hpost : ∀ tb e args s v u, (limb_1_1.after args s (.returned v) u = true ∧ limb_1_2.after args s (.returned v) u = true ∧ True) → FrameEnd s (.returned v) u (Jvm.fieldLocs frame_1_writes args s ++ Jvm.arrayLocs frame_1_arrays args s ++ Jvm.staticLocs frame_1_statics s) 16 128 → Post tb e args s (.returned v) u) :
    ArmFor flags0 classFile x code maxLocals ret World_1 tables_1 room_1 Calls_1 rest_1 Pre_1 Post := by
  intro l hfl _ _ p e ha hc hk s m args below hf hA hF happ hP
  obtain ⟨hcalls, hrest, hpre⟩ := hP
  obtain ⟨-, -, -, hnamed, -, -, -, hat⟩ := (Spec.applies_iff hf).mp happ
  obtain ⟨hg, hn⟩ := and_e (Cond.before_iff.mp (show (Jvm.Cond.and given_1 narrow_1).before args s = true from hpre))
  obtain ⟨g0, r0⟩ := and_e hg
  obtain ⟨g1, r1⟩ := and_e r0
  obtain ⟨g2, r2⟩ := and_e r1
  obtain ⟨g3, r3⟩ := and_e r2
  obtain ⟨w0, w1, w2, w3, rfl⟩ : ∃ w0 w1 w2 w3 : Value, args = #[w0, w1, w2, w3] := by
    have hs : args.size = 4 := by simpa [Cond.value, given_1] using g0
    obtain ⟨L⟩ := args
    match L, hs with
    | [w0, w1, w2, w3], _ => exact ⟨w0, w1, w2, w3, rfl⟩
  have hw := fun d (hd : d ∈ tables_1) => atoms_spec (ws := Jvm.Cond.code x code maxLocals ret :: tables_1) hat d (List.mem_cons_of_mem _ hd)
  have hfit : Fit s := fun {y c} hc i hi => by
    obtain ⟨ha, rfl⟩ := Array.getElem?_eq_some_iff.mp hc
    have q := List.all_eq_true.mp ((Array.all_eq_true_iff_forall_mem.mp hF) _ (Array.getElem_mem ha)) i (List.mem_range.mpr hi)
    simpa [Array.getElem?_eq_getElem hi] using q
  obtain ⟨i0, e0⟩ := is_v g1
  obtain rfl : w0 = (.int i0) := Option.some.inj e0
  obtain ⟨i1, e1⟩ := is_v g2
  obtain rfl : w1 = (.int i1) := Option.some.inj e1
  obtain ⟨i2, e2⟩ := is_v g3
  obtain rfl : w2 = (.int i2) := Option.some.inj e2
  obtain ⟨i3, e3⟩ := is_v r3
  obtain rfl : w3 = (.int i3) := Option.some.inj e3
  obtain ⟨n, o, h1, h2, h3, _, L, rfl, ⟨rfl, N⟩, hq⟩ := own_law l s _ hw tables_1 i0 i1 i2 i3 s.heap s.heap.size (Nat.le_refl _) p e ha hc hk s m _ below hf ((Spec.applies_iff_loose hf).mp happ).1 ⟨rfl, State.Warmed39.refl s, rfl⟩ trivial
  refine ⟨n, _, h1, h2, h3, hpost _ _ _ _ _ _ ⟨Cond.after_iff.mpr rfl, Cond.after_iff.mpr (eq_i res_at (Term.int_eval (1)) rfl), trivial⟩ ⟨hq.1, hq.2.1, (hq.2.2.sift fun y hy => Or.inr (N y hy)).mono (by decide) (by decide)⟩⟩
theorem main_1_1 : Claimed_1_1 := own_comes fun _ _ _ _ _ _ h hF => ⟨h.1, hF⟩
theorem main_1_2 : Claimed_1_2 := own_comes fun _ _ _ _ _ _ h hF => ⟨h.2.1, hF⟩
end Jvm.Pilot.@@N@@
namespace Jvm.Pilot.@@N@@
open Jvm Jvm.ClassFile Sem Op Lib Jvm.Free Jvm.Stand Jvm.Pilot.@@N@@.Jvm.D
/-! MADE BY PROGRAM (witnessworld.py) out of the Statement's table words and the real class files: 10 classes; the members and pool entries that the words name. The judged class is class 1, her method 1. -/
namespace start1
open Jvm.ClassFile
def u (s : String) : CpInfo := .utf8 (stringToUtf16 s)
/-- a pool by its gaps: so many unusable entries, then the entry; so many at the end -/
def gap : Nat → List CpInfo → List CpInfo
  | 0, r => r
  | n + 1, r => .unusable :: gap n r
def poolList (es : List (Nat × CpInfo)) (last : Nat) : List CpInfo := es.foldr (fun e r => gap e.1 (e.2 :: r)) (gap last [])
def pool (es : List (Nat × CpInfo)) (last : Nat) : Array CpInfo := ⟨poolList es last⟩
def fileOf (pool : Array CpInfo) (this : Nat) (attrs : Array Attribute := #[]) (ms : Array MethodInfo := #[]) (fl : Nat := 33) (sup : Nat := 0) (ifs : Array Nat := #[]) (fds : Array FieldInfo := #[]) : ClassFile where
  minorVersion := 0
  majorVersion := 65
  constantPool := pool
  accessFlags := fl
  thisClass := this
  superClass := sup
  interfaces := ifs
  fields := fds
  methods := ms
  attributes := attrs
def plain (name : String) (sup : Option ClassId) : Class where
  name := name
  kind := .ordinary
  loader := none
  accessFlags := 33
  super := sup
  interfaces := #[]
  cf := none
  fields := #[]
  methods := #[]
  instanceTypes := #[]
  staticTypes := #[]
  resolved := #[]
  callSites := []
  init := .initialized
  statics := none
  mirror := none

def pool0 : Array CpInfo := pool [(5, u "<init>"), (0, u "()V"), (1, .class_ 10), (1, u "java/lang/Object")] 113

def k0c0 : Code := { maxStack := 0, maxLocals := 1, code := object_method_1_code, exceptionTable := #[], attributes := #[] }
def k0m0 : Method := { name := "<init>", desc := "()V", sig := { parameters := [], returnType := none }, accessFlags := 1, code := some k0c0 }
/-- java/lang/Object -/
def k0 : Class := { plain "java/lang/Object" none with
  accessFlags := 33
  interfaces := #[]
  cf := some (fileOf pool0 8 #[] #[{ accessFlags := 1, nameIndex := 5, descriptorIndex := 6, attributes := #[] }] 33 0 #[] #[])
  fields := #[]
  methods := #[k0m0]
  instanceTypes := #[]
  staticTypes := #[]
  resolved := Array.replicate 124 none
  statics := none }

def pool1 : Array CpInfo := pool [(2, .class_ 4), (1, u "java/lang/Object"), (0, u "<init>"), (0, u "()V"), (0, .integer 65535), (0, .methodref 9 10), (0, .class_ 11), (0, .nameAndType 12 13), (0, u "java/lang/Math"), (0, u "min"), (0, u "(II)I"), (0, .methodref 9 15), (0, .nameAndType 16 13), (0, u "max"), (0, .class_ 18), (0, u "com/example/parts_to_policy/partstopolicy/model/PortRange"), (0, .methodref 17 20), (0, .nameAndType 5 21), (0, u "(II)V"), (0, .integer 2147483647), (0, .methodref 17 24), (0, .nameAndType 25 26), (0, u "contains"), (0, u "(I)Z"), (0, .class_ 28), (0, u "com/example/parts_to_policy/partstopolicy/model/PortRangeContainsPinLaw"), (2, u "law"), (0, u "(IIII)Z")] 3

def k1m0 : Method := { name := "<init>", desc := "()V", sig := { parameters := [], returnType := none }, accessFlags := 2, code := none }
def k1c1 : Code := { maxStack := 4, maxLocals := 12, code := code, exceptionTable := #[], attributes := #[] }
def k1m1 : Method := { name := "law", desc := "(IIII)Z", sig := { parameters := [.int, .int, .int, .int], returnType := some .boolean }, accessFlags := 9, code := some k1c1 }
/-- com/example/parts_to_policy/partstopolicy/model/PortRangeContainsPinLaw -/
def k1 : Class := { plain "com/example/parts_to_policy/partstopolicy/model/PortRangeContainsPinLaw" (some 0) with
  accessFlags := 49
  interfaces := #[]
  cf := some (fileOf pool1 27 #[] #[{ accessFlags := 2, nameIndex := 5, descriptorIndex := 6, attributes := #[] }, { accessFlags := 9, nameIndex := 31, descriptorIndex := 32, attributes := #[] }] 49 2 #[] #[])
  fields := #[]
  methods := #[k1m0, k1m1]
  instanceTypes := #[]
  staticTypes := #[]
  resolved := Array.replicate 36 none
  statics := none }

def pool2 : Array CpInfo := pool [(1, .class_ 2), (0, u "java/lang/Math"), (1, .class_ 6), (1, u "java/lang/Object"), (0, u "<init>"), (0, u "()V"), (89, .class_ 100), (1, u "java/lang/Math$RandomNumberGeneratorHolder"), (71, u "negativeZeroFloatBits"), (0, u "J"), (2, u "negativeZeroDoubleBits"), (21, u "max"), (2, u "min"), (43, u "$assertionsDisabled"), (0, u "Z"), (88, u "(II)I"), (2, u "twoToTheDoubleScaleDown"), (0, u "D"), (4, u "twoToTheDoubleScaleUp"), (9, u "E"), (3, u "PI"), (2, u "TAU"), (2, u "DEGREES_TO_RADIANS"), (0, u "RADIANS_TO_DEGREES")] 94

def k2m0 : Method := { name := "<init>", desc := "()V", sig := { parameters := [], returnType := none }, accessFlags := 2, code := none }
def k2c1 : Code := { maxStack := 2, maxLocals := 2, code := jdk_29_method_65_code, exceptionTable := #[], attributes := #[] }
def k2m1 : Method := { name := "max", desc := "(II)I", sig := { parameters := [.int, .int], returnType := some .int }, accessFlags := 9, code := some k2c1 }
def k2c2 : Code := { maxStack := 2, maxLocals := 2, code := jdk_29_method_69_code, exceptionTable := #[], attributes := #[] }
def k2m2 : Method := { name := "min", desc := "(II)I", sig := { parameters := [.int, .int], returnType := some .int }, accessFlags := 9, code := some k2c2 }
/-- java/lang/Math -/
def k2 : Class := { plain "java/lang/Math" (some 0) with
  accessFlags := 49
  interfaces := #[]
  cf := some (fileOf pool2 1 #[.nestMembers #[98]] #[{ accessFlags := 2, nameIndex := 7, descriptorIndex := 8, attributes := #[] }, { accessFlags := 9, nameIndex := 198, descriptorIndex := 335, attributes := #[] }, { accessFlags := 9, nameIndex := 201, descriptorIndex := 335, attributes := #[] }] 49 4 #[] #[{ accessFlags := 25, nameIndex := 354, descriptorIndex := 339, attributes := #[] }, { accessFlags := 25, nameIndex := 358, descriptorIndex := 339, attributes := #[] }, { accessFlags := 25, nameIndex := 361, descriptorIndex := 339, attributes := #[] }, { accessFlags := 26, nameIndex := 364, descriptorIndex := 339, attributes := #[] }, { accessFlags := 26, nameIndex := 365, descriptorIndex := 339, attributes := #[] }, { accessFlags := 26, nameIndex := 172, descriptorIndex := 173, attributes := #[] }, { accessFlags := 26, nameIndex := 176, descriptorIndex := 173, attributes := #[] }, { accessFlags := 8, nameIndex := 344, descriptorIndex := 339, attributes := #[] }, { accessFlags := 8, nameIndex := 338, descriptorIndex := 339, attributes := #[] }, { accessFlags := 4120, nameIndex := 245, descriptorIndex := 246, attributes := #[] }])
  fields := #[{ name := "E", type := .double, accessFlags := 25, slot := 0, constantValue := 0 }, { name := "PI", type := .double, accessFlags := 25, slot := 1, constantValue := 0 }, { name := "TAU", type := .double, accessFlags := 25, slot := 2, constantValue := 0 }, { name := "DEGREES_TO_RADIANS", type := .double, accessFlags := 26, slot := 3, constantValue := 0 }, { name := "RADIANS_TO_DEGREES", type := .double, accessFlags := 26, slot := 4, constantValue := 0 }, { name := "negativeZeroFloatBits", type := .long, accessFlags := 26, slot := 5, constantValue := 0 }, { name := "negativeZeroDoubleBits", type := .long, accessFlags := 26, slot := 6, constantValue := 0 }, { name := "twoToTheDoubleScaleUp", type := .double, accessFlags := 8, slot := 7, constantValue := 0 }, { name := "twoToTheDoubleScaleDown", type := .double, accessFlags := 8, slot := 8, constantValue := 0 }, { name := "$assertionsDisabled", type := .boolean, accessFlags := 4120, slot := 9, constantValue := 0 }]
  methods := #[k2m0, k2m1, k2m2]
  instanceTypes := #[]
  staticTypes := #[.double, .double, .double, .double, .double, .long, .long, .double, .double, .boolean]
  resolved := Array.replicate 460 none
  statics := none }

def pool3 : Array CpInfo := pool [(1, .methodref 2 3), (0, .class_ 4), (0, .nameAndType 5 6), (0, u "java/lang/Object"), (0, u "<init>"), (0, u "()V"), (0, .class_ 8), (0, u "com/example/parts_to_policy/partstopolicy/model/PortRange"), (0, .integer 65535), (9, .fieldref 7 20), (0, .nameAndType 21 22), (0, u "first"), (0, u "I"), (0, .fieldref 7 24), (0, .nameAndType 25 22), (0, u "last"), (0, u "PORT_MAX"), (1, u "(II)V"), (4, u "contains"), (0, u "(I)Z")] 17

def k3c0 : Code := { maxStack := 4, maxLocals := 3, code := prog_79_method_1_code, exceptionTable := #[], attributes := #[] }
def k3m0 : Method := { name := "<init>", desc := "(II)V", sig := { parameters := [.int, .int], returnType := none }, accessFlags := 1, code := some k3c0 }
def k3c1 : Code := { maxStack := 2, maxLocals := 2, code := prog_79_method_4_code, exceptionTable := #[], attributes := #[] }
def k3m1 : Method := { name := "contains", desc := "(I)Z", sig := { parameters := [.int], returnType := some .boolean }, accessFlags := 1, code := some k3c1 }
/-- com/example/parts_to_policy/partstopolicy/model/PortRange -/
def k3 : Class := { plain "com/example/parts_to_policy/partstopolicy/model/PortRange" (some 0) with
  accessFlags := 49
  interfaces := #[]
  cf := some (fileOf pool3 7 #[] #[{ accessFlags := 1, nameIndex := 5, descriptorIndex := 28, attributes := #[] }, { accessFlags := 1, nameIndex := 33, descriptorIndex := 34, attributes := #[] }] 49 2 #[] #[{ accessFlags := 25, nameIndex := 26, descriptorIndex := 22, attributes := #[] }, { accessFlags := 18, nameIndex := 21, descriptorIndex := 22, attributes := #[] }, { accessFlags := 18, nameIndex := 25, descriptorIndex := 22, attributes := #[] }])
  fields := #[{ name := "PORT_MAX", type := .int, accessFlags := 25, slot := 0, constantValue := 0 }, { name := "first", type := .int, accessFlags := 18, slot := 0, constantValue := 0 }, { name := "last", type := .int, accessFlags := 18, slot := 1, constantValue := 0 }]
  methods := #[k3m0, k3m1]
  instanceTypes := #[.int, .int]
  staticTypes := #[.int]
  resolved := Array.replicate 52 none
  statics := none }

def pool4 : Array CpInfo := pool [(1, u "java/lang/Cloneable"), (0, .class_ 1), (0, u "java/lang/Object"), (0, .class_ 3)] 3

/-- java/lang/Cloneable -/
def k4 : Class := { plain "java/lang/Cloneable" (some 0) with
  accessFlags := 1537
  interfaces := #[]
  cf := some (fileOf pool4 2 #[] #[] 1537 4 #[] #[])
  fields := #[]
  methods := #[]
  instanceTypes := #[]
  staticTypes := #[]
  resolved := Array.replicate 8 none
  statics := none }

def pool5 : Array CpInfo := pool [(1, u "java/io/Serializable"), (0, .class_ 1), (0, u "java/lang/Object"), (0, .class_ 3)] 3

/-- java/io/Serializable -/
def k5 : Class := { plain "java/io/Serializable" (some 0) with
  accessFlags := 1537
  interfaces := #[]
  cf := some (fileOf pool5 2 #[] #[] 1537 4 #[] #[])
  fields := #[]
  methods := #[]
  instanceTypes := #[]
  staticTypes := #[]
  resolved := Array.replicate 8 none
  statics := none }

/-- the primitive byte -/
def k6 : Class := { plain "byte" none with kind := .primitive 'B', accessFlags := 0x411 }
/-- [B -/
def k7 : Class := { plain "[B" (some 0) with kind := .array 6 .byte, interfaces := #[4, 5], accessFlags := 1041 }

/-- the primitive int -/
def k8 : Class := { plain "int" none with kind := .primitive 'I', accessFlags := 0x411 }
/-- [I -/
def k9 : Class := { plain "[I" (some 0) with kind := .array 8 .int, interfaces := #[4, 5], accessFlags := 1041 }

def heap : Heap := #[]
def classes : Array Class := #[k0, k1, k2, k3, k4, k5, k6, k7, k8, k9]
def interned : List (Array UInt16 × Addr) := []
def slotsUsed : Nat := 0
def theMethod : MethodId := ⟨1, 1⟩
def args0 : Array Value := #[.int 5, .int 300, .int 7, .int 0]
def aboutOver (below : List Frame) : State where
  vm := { classes := classes, interned := interned.toArray }
  heap := heap
  slotsUsed := slotsUsed
  threads := #[{ frames := .invoking theMethod args0 :: below }]
def below0 : List Frame := [.native { method := ⟨0, 0⟩, args := #[] }]
def about1 : State := aboutOver below0
def p0 : Program := .bare "" "" ""
def e0 : Env := launch0.env 0 0 0
theorem w_frames : about1.frames = Frame.invoking theMethod args0 :: below0 := rfl
set_option maxRecDepth 65536 in
theorem w_args : argsFit about1.vm theMethod args0 = true := by decide +kernel
set_option maxRecDepth 65536 in
theorem w_heap : heapFits about1 = true := by decide +kernel
set_option maxRecDepth 65536 in
theorem w_runnable : about1.curStatus? = some .runnable := by decide +kernel
set_option maxRecDepth 65536 in
theorem w_alone : about1.alone = true := by decide +kernel
set_option maxRecDepth 65536 in
theorem w_named : about1.methodNamed? x = some theMethod := by decide +kernel
set_option maxRecDepth 65536 in
theorem w_hears : about1.hears theMethod below0 = true := by decide +kernel
set_option maxRecDepth 65536 in
theorem w_ripe : about1.ripe theMethod args0 below0 = true := by decide +kernel
theorem w_running : about1.status = .running := rfl
set_option maxRecDepth 65536 in
theorem w_room : about1.hasRoom e0.platform room_1 = true :=
  launch0.hasRoom_least _ room_1 (by decide +kernel) (by decide +kernel) (by decide +kernel) (by decide +kernel) (by decide +kernel) (by decide +kernel)
theorem allAtoms_all (ts : List Jvm.Cond) (a : Array Jvm.Value) (st : Jvm.State) : (allAtoms ts).before a st = ts.all (fun c => c.before a st) := by
  induction ts with
  | nil => rfl
  | cons c t ih =>
    show (Jvm.Cond.and c (allAtoms t)).before a st = _
    rw [Jvm.Cond.before_and, ih, List.all_cons]
def words1 : List Jvm.Cond := Jvm.Cond.code x code maxLocals ret :: tables_1
/-- a 'code' word, met by the world's own term for the bytes: nothing is compared byte by byte -/
theorem code_word {y : MethodName} {bytes : ByteArray} {mx : Nat} {rt : Option FieldType} {a : Array Value} {s : State} {m : MethodId} {meth : Method} {c : Code} (h1 : s.methodNamed? y = some m) (h2 : s.vm.method? m = some meth) (h3 : meth.code = some c) (h4 : c.code = bytes)
    (h5 : (c.maxLocals == mx && c.exceptionTable.isEmpty && decide (c.maxStack ≤ mostOperands) && decide (meth.sig.returnType = rt) && !meth.locks && decide (parseMethodDescriptor y.desc = some meth.sig)) = true) : (Jvm.Cond.code y bytes mx rt).before a s = true := by
  simp only [Bool.and_eq_true, beq_iff_eq, Bool.not_eq_true', decide_eq_true_eq] at h5
  obtain ⟨⟨⟨⟨⟨g1, g2⟩, g3⟩, g4⟩, g5⟩, g6⟩ := h5
  simp [Cond.before, Cond.holds, Cond.value, h1, h2, h3, h4, g1, g2, g3, g4, g5, g6]
def isCode : Jvm.Cond → Bool
  | .code _ _ _ _ => true
  | _ => false
theorem all_split {L : List Jvm.Cond} {P : Jvm.Cond → Bool} (h1 : L.all (fun c => isCode c || P c) = true) (h2 : ∀ c ∈ L.filter isCode, P c = true) : L.all P = true := by
  refine List.all_eq_true.mpr fun c hc => ?_
  have h := List.all_eq_true.mp h1 c hc
  rcases Bool.eq_false_or_eq_true (isCode c) with hi | hi
  · exact h2 c (List.mem_filter.mpr ⟨hc, hi⟩)
  · simpa [hi] using h
set_option maxRecDepth 65536 in
theorem w_c0 : (Jvm.Cond.code x code maxLocals ret).before args0 about1 = true := code_word (m := ⟨1, 1⟩) (meth := k1m1) (c := k1c1) (by decide +kernel) rfl rfl rfl (by decide +kernel)
set_option maxRecDepth 65536 in
theorem w_c1 : (Jvm.Cond.code ({ cls := "java/lang/Math", name := "min", desc := "(II)I" } : Jvm.MethodName) jdk_29_method_69_code (2 : Nat) (Option.some Jvm.ClassFile.FieldType.int)).before args0 about1 = true := code_word (m := ⟨2, 2⟩) (meth := k2m2) (c := k2c2) (by decide +kernel) rfl rfl rfl (by decide +kernel)
set_option maxRecDepth 65536 in
theorem w_c2 : (Jvm.Cond.code ({ cls := "java/lang/Math", name := "max", desc := "(II)I" } : Jvm.MethodName) jdk_29_method_65_code (2 : Nat) (Option.some Jvm.ClassFile.FieldType.int)).before args0 about1 = true := code_word (m := ⟨2, 1⟩) (meth := k2m1) (c := k2c1) (by decide +kernel) rfl rfl rfl (by decide +kernel)
set_option maxRecDepth 65536 in
theorem w_c3 : (Jvm.Cond.code ({ cls := "com/example/parts_to_policy/partstopolicy/model/PortRange", name := "<init>", desc := "(II)V" } : Jvm.MethodName) prog_79_method_1_code (3 : Nat) (Option.none : Option Jvm.ClassFile.FieldType)).before args0 about1 = true := code_word (m := ⟨3, 0⟩) (meth := k3m0) (c := k3c0) (by decide +kernel) rfl rfl rfl (by decide +kernel)
set_option maxRecDepth 65536 in
theorem w_c4 : (Jvm.Cond.code ({ cls := "java/lang/Object", name := "<init>", desc := "()V" } : Jvm.MethodName) object_method_1_code (1 : Nat) (Option.none : Option Jvm.ClassFile.FieldType)).before args0 about1 = true := code_word (m := ⟨0, 0⟩) (meth := k0m0) (c := k0c0) (by decide +kernel) rfl rfl rfl (by decide +kernel)
set_option maxRecDepth 65536 in
theorem w_c5 : (Jvm.Cond.code ({ cls := "com/example/parts_to_policy/partstopolicy/model/PortRange", name := "contains", desc := "(I)Z" } : Jvm.MethodName) prog_79_method_4_code (2 : Nat) (Option.some Jvm.ClassFile.FieldType.boolean)).before args0 about1 = true := code_word (m := ⟨3, 1⟩) (meth := k3m1) (c := k3c1) (by decide +kernel) rfl rfl rfl (by decide +kernel)
def codes1 : List Jvm.Cond := [Jvm.Cond.code x code maxLocals ret, Jvm.Cond.code ({ cls := "java/lang/Math", name := "min", desc := "(II)I" } : Jvm.MethodName) jdk_29_method_69_code (2 : Nat) (Option.some Jvm.ClassFile.FieldType.int), Jvm.Cond.code ({ cls := "java/lang/Math", name := "max", desc := "(II)I" } : Jvm.MethodName) jdk_29_method_65_code (2 : Nat) (Option.some Jvm.ClassFile.FieldType.int), Jvm.Cond.code ({ cls := "com/example/parts_to_policy/partstopolicy/model/PortRange", name := "<init>", desc := "(II)V" } : Jvm.MethodName) prog_79_method_1_code (3 : Nat) (Option.none : Option Jvm.ClassFile.FieldType), Jvm.Cond.code ({ cls := "java/lang/Object", name := "<init>", desc := "()V" } : Jvm.MethodName) object_method_1_code (1 : Nat) (Option.none : Option Jvm.ClassFile.FieldType), Jvm.Cond.code ({ cls := "com/example/parts_to_policy/partstopolicy/model/PortRange", name := "contains", desc := "(I)Z" } : Jvm.MethodName) prog_79_method_4_code (2 : Nat) (Option.some Jvm.ClassFile.FieldType.boolean)]
set_option maxRecDepth 65536 in
theorem codes_eq : words1.filter isCode = codes1 := rfl
theorem w_codes : ∀ c ∈ words1.filter isCode, c.before args0 about1 = true := by
  rw [codes_eq]
  intro c hc
  simp only [codes1, List.mem_cons, List.not_mem_nil, or_false] at hc
  rcases hc with rfl | rfl | rfl | rfl | rfl | rfl
  · exact w_c0
  · exact w_c1
  · exact w_c2
  · exact w_c3
  · exact w_c4
  · exact w_c5
set_option maxRecDepth 65536 in
theorem w_t1 : (words1.take 24).all (fun c => isCode c || c.before args0 about1) = true := by decide +kernel
set_option maxRecDepth 65536 in
theorem w_t2 : (words1.drop 24).all (fun c => isCode c || c.before args0 about1) = true := by decide +kernel
theorem w_tables : (allAtoms (Jvm.Cond.code x code maxLocals ret :: tables_1)).before args0 about1 = true := by
  rw [allAtoms_all]
  show words1.all (fun c => c.before args0 about1) = true
  refine all_split ?_ w_codes
  rw [← List.take_append_drop 24 words1, List.all_append, w_t1, w_t2]
  rfl
set_option maxRecDepth 65536 in
theorem w_case : (Jvm.Cond.and given_1 narrow_1).before args0 about1 = true := by decide +kernel
theorem w_applies : (headSpec (Jvm.Cond.code x code maxLocals ret :: tables_1) room_1).applies x e0.platform about1 = true :=
  (Spec.applies_iff w_frames).mpr ⟨w_running, w_runnable, w_alone, w_named, w_hears, w_ripe, w_room, w_tables⟩
theorem atStart : AtStart classFile x code maxLocals ret World_1 tables_1 room_1 Calls_1 rest_1 Pre_1 launch0 p0 e0 about1 theMethod args0 below0 :=
  ⟨lists_1, trivial, launch0.admits_env _ _ _, launch0.least_env, fairChoices_fair.cas, fairChoices_fair.clock, w_frames, w_args, w_heap, w_applies, trivial, trivial, w_case⟩
end start1
theorem witness_1 : WitnessClaimed_1 := ⟨start1.p0, start1.e0, start1.about1, start1.theMethod, start1.args0, start1.below0, start1.atStart⟩
end Jvm.Pilot.@@N@@
