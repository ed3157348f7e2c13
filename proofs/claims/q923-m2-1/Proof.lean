import JvmDerived
import JvmDerived.Pilot.@@N@@Statement
import JvmDerived.Pilot.@@N@@Code
set_option linter.unusedVariables false
set_option linter.unusedSimpArgs false
namespace Jvm.Pilot.@@N@@
open Jvm Jvm.ClassFile Sem Op Lib Jvm.Free Jvm.Stand Jvm.LawKit Jvm.RoadKit Bundle Jvm.Pilot.@@N@@.Jvm.D
/-! own layer: the walk goes forward; own_G S: from S the body ends as F says -/
def own_G (tb : Tables) (e : Env) (below : List Frame) (F : Outcome → State → Prop) (S : State) : Prop :=
  ∃ s₂ o, Steps tb e below S s₂ ∧ s₂.status = .running ∧ Ended s₂ below o ∧ F o s₂
theorem own_go {tb : Tables} {e : Env} {below : List Frame} {F : Outcome → State → Prop} {A B : State} (st : ∀ t, Steps tb e below B t → Steps tb e below A t) (h : own_G tb e below F B) : own_G tb e below F A := by
  obtain ⟨t, o, h1, h2⟩ := h
  exact ⟨t, o, st t h1, h2⟩
theorem own_tr {tb : Tables} {e : Env} {below : List Frame} {F : Outcome → State → Prop} {A B : State} (st : Steps tb e below A B) (h : own_G tb e below F B) : own_G tb e below F A := own_go (fun _ k => st.trans k) h
theorem own_b {n k : Nat} (h : Nat.ble n k = true) : n ≤ k := Nat.le_of_ble_eq_true h
def own_yes {α : Type} [LT α] : ClassFile.Cond → α → α → Prop
  | .eq, x, y => x = y
  | .ne, x, y => ¬ x = y
  | .lt, x, y => x < y
  | .ge, x, y => ¬ x < y
  | .gt, x, y => y < x
  | .le, x, y => ¬ y < x
def own_no {α : Type} [LT α] : ClassFile.Cond → α → α → Prop
  | .eq, x, y => ¬ x = y
  | .ne, x, y => x = y
  | .lt, x, y => ¬ x < y
  | .ge, x, y => x < y
  | .gt, x, y => ¬ y < x
  | .le, x, y => y < x
theorem own_hy {cd : ClassFile.Cond} {x y : Int32} (h : own_yes cd x y) : if_icmp.holds cd x y = true := by
  cases cd
  · exact (teq h).1
  · exact (feq h).2
  · exact (tlt h).1
  · exact (flt h).2.1
  · exact (tlt h).2.2.1
  · exact (flt h).2.2.2
theorem own_hn {cd : ClassFile.Cond} {x y : Int32} (h : own_no cd x y) : if_icmp.holds cd x y = false := by
  cases cd
  · exact (feq h).1
  · exact (teq h).2
  · exact (flt h).1
  · exact (tlt h).2.1
  · exact (flt h).2.2.1
  · exact (tlt h).2.2.2
theorem own_yn {cd : ClassFile.Cond} {x y : Int32} : own_yes cd x y ∨ own_no cd x y := by
  cases cd
  · exact Classical.em _
  · exact (Classical.em _).symm
  · exact Classical.em _
  · exact (Classical.em _).symm
  · exact Classical.em _
  · exact (Classical.em _).symm
theorem own_ynL {cd : ClassFile.Cond} {x y : Int64} : own_yes cd x y ∨ own_no cd x y := by
  cases cd
  · exact Classical.em _
  · exact (Classical.em _).symm
  · exact Classical.em _
  · exact (Classical.em _).symm
  · exact Classical.em _
  · exact (Classical.em _).symm
theorem own_hyL {cd : ClassFile.Cond} {x y : Int64} (h : own_yes cd x y) : ifCond.holds cd (lcmpW x y) = true := by
  rw [if0]
  refine own_hy ?_
  cases cd
  · exact (lw_eq x y).mpr h
  · exact fun q => h ((lw_eq x y).mp q)
  · exact (lw_lt x y).mpr h
  · exact fun q => h ((lw_lt x y).mp q)
  · exact (lw_gt x y).mpr h
  · exact fun q => h ((lw_gt x y).mp q)
theorem own_hnL {cd : ClassFile.Cond} {x y : Int64} (h : own_no cd x y) : ifCond.holds cd (lcmpW x y) = false := by
  rw [if0]
  refine own_hn ?_
  cases cd
  · exact fun q => h ((lw_eq x y).mp q)
  · exact (lw_eq x y).mpr h
  · exact fun q => h ((lw_lt x y).mp q)
  · exact (lw_lt x y).mpr h
  · exact fun q => h ((lw_gt x y).mp q)
  · exact (lw_gt x y).mpr h
section Own
variable {p : Program} {l : Launch} {e : Env} {R : Room} {s : State} {m : MethodId} {args : Array Value} {below : List Frame} {meth : Method} {c : Code} {T : State} {locs : List Loc} {cells slots : Nat} {F : Outcome → State → Prop}
theorem own_icmpY (X : Stand p l e R s m args below meth c T locs cells slots) (hx : p.tables.exec = Jvm.exec) {cd : ClassFile.Cond} {x y : Int32} {o : Int} {pc pc' : Nat} {Ls : Array Slot} {rest : List Value} (hd : decode c.code pc = .ok (.if_icmp cd o, 3)) (ho : 0 ≤ (pc : Int) + o) (hp : ((pc : Int) + o).toNat = pc')
    (hc : own_yes cd x y) (h1 : own_G p.tables e below F (T.setTop (mkF m pc' Ls rest))) : own_G p.tables e below F (T.setTop (mkF m pc Ls (.int y :: .int x :: rest))) :=
  own_go (fun _ k => XS.icmpYes X.here hx rfl (pc0 := pc) (pc' := pc') rfl hd rfl (own_hy hc) ho hp k) h1
theorem own_icmpN (X : Stand p l e R s m args below meth c T locs cells slots) (hx : p.tables.exec = Jvm.exec) {cd : ClassFile.Cond} {x y : Int32} {o : Int} {pc pn : Nat} {Ls : Array Slot} {rest : List Value} (hd : decode c.code pc = .ok (.if_icmp cd o, 3)) (hq : pc + 3 = pn)
    (hc : own_no cd x y) (h1 : own_G p.tables e below F (T.setTop (mkF m pn Ls rest))) : own_G p.tables e below F (T.setTop (mkF m pc Ls (.int y :: .int x :: rest))) := by
  subst hq
  exact own_go (fun _ k => XS.icmpNo X.here hx rfl hd rfl (own_hn hc) k) h1
theorem own_icmp (X : Stand p l e R s m args below meth c T locs cells slots) (hx : p.tables.exec = Jvm.exec) {cd : ClassFile.Cond} {x y : Int32} {o : Int} {pc pc' pn : Nat} {Ls : Array Slot} {rest : List Value} (hd : decode c.code pc = .ok (.if_icmp cd o, 3)) (ho : 0 ≤ (pc : Int) + o) (hp : ((pc : Int) + o).toNat = pc') (hq : pc + 3 = pn)
    (h1 : own_yes cd x y → own_G p.tables e below F (T.setTop (mkF m pc' Ls rest))) (h2 : own_no cd x y → own_G p.tables e below F (T.setTop (mkF m pn Ls rest))) : own_G p.tables e below F (T.setTop (mkF m pc Ls (.int y :: .int x :: rest))) :=
  own_yn.elim (fun q => own_icmpY X hx hd ho hp q (h1 q)) (fun q => own_icmpN X hx hd hq q (h2 q))
theorem own_ifY (X : Stand p l e R s m args below meth c T locs cells slots) (hx : p.tables.exec = Jvm.exec) {cd : ClassFile.Cond} {x : Int32} {o : Int} {pc pc' : Nat} {Ls : Array Slot} {rest : List Value} (hd : decode c.code pc = .ok (.ifCond cd o, 3)) (ho : 0 ≤ (pc : Int) + o) (hp : ((pc : Int) + o).toNat = pc')
    (hc : own_yes cd x 0) (h1 : own_G p.tables e below F (T.setTop (mkF m pc' Ls rest))) : own_G p.tables e below F (T.setTop (mkF m pc Ls (.int x :: rest))) :=
  own_go (fun _ k => XS.ifYes X.here hx rfl (pc0 := pc) (pc' := pc') rfl hd rfl ((if0 cd x).trans (own_hy hc)) ho hp k) h1
theorem own_ifN (X : Stand p l e R s m args below meth c T locs cells slots) (hx : p.tables.exec = Jvm.exec) {cd : ClassFile.Cond} {x : Int32} {o : Int} {pc pn : Nat} {Ls : Array Slot} {rest : List Value} (hd : decode c.code pc = .ok (.ifCond cd o, 3)) (hq : pc + 3 = pn)
    (hc : own_no cd x 0) (h1 : own_G p.tables e below F (T.setTop (mkF m pn Ls rest))) : own_G p.tables e below F (T.setTop (mkF m pc Ls (.int x :: rest))) := by
  subst hq
  exact own_go (fun _ k => XS.ifNo X.here hx rfl hd rfl ((if0 cd x).trans (own_hn hc)) k) h1
theorem own_if (X : Stand p l e R s m args below meth c T locs cells slots) (hx : p.tables.exec = Jvm.exec) {cd : ClassFile.Cond} {x : Int32} {o : Int} {pc pc' pn : Nat} {Ls : Array Slot} {rest : List Value} (hd : decode c.code pc = .ok (.ifCond cd o, 3)) (ho : 0 ≤ (pc : Int) + o) (hp : ((pc : Int) + o).toNat = pc') (hq : pc + 3 = pn)
    (h1 : own_yes cd x 0 → own_G p.tables e below F (T.setTop (mkF m pc' Ls rest))) (h2 : own_no cd x 0 → own_G p.tables e below F (T.setTop (mkF m pn Ls rest))) : own_G p.tables e below F (T.setTop (mkF m pc Ls (.int x :: rest))) :=
  own_yn.elim (fun q => own_ifY X hx hd ho hp q (h1 q)) (fun q => own_ifN X hx hd hq q (h2 q))
theorem own_lifY (X : Stand p l e R s m args below meth c T locs cells slots) (hx : p.tables.exec = Jvm.exec) {cd : ClassFile.Cond} {x y : Int64} {o : Int} {pc pc' : Nat} {Ls : Array Slot} {rest : List Value} (hd : decode c.code pc = .ok (.ifCond cd o, 3)) (ho : 0 ≤ (pc : Int) + o) (hp : ((pc : Int) + o).toNat = pc')
    (hc : own_yes cd x y) (h1 : own_G p.tables e below F (T.setTop (mkF m pc' Ls rest))) : own_G p.tables e below F (T.setTop (mkF m pc Ls (.int (lcmpW x y) :: rest))) :=
  own_go (fun _ k => XS.ifYes X.here hx rfl (pc0 := pc) (pc' := pc') rfl hd rfl (own_hyL hc) ho hp k) h1
theorem own_lifN (X : Stand p l e R s m args below meth c T locs cells slots) (hx : p.tables.exec = Jvm.exec) {cd : ClassFile.Cond} {x y : Int64} {o : Int} {pc pn : Nat} {Ls : Array Slot} {rest : List Value} (hd : decode c.code pc = .ok (.ifCond cd o, 3)) (hq : pc + 3 = pn)
    (hc : own_no cd x y) (h1 : own_G p.tables e below F (T.setTop (mkF m pn Ls rest))) : own_G p.tables e below F (T.setTop (mkF m pc Ls (.int (lcmpW x y) :: rest))) := by
  subst hq
  exact own_go (fun _ k => XS.ifNo X.here hx rfl hd rfl (own_hnL hc) k) h1
theorem own_lif (X : Stand p l e R s m args below meth c T locs cells slots) (hx : p.tables.exec = Jvm.exec) {cd : ClassFile.Cond} {x y : Int64} {o : Int} {pc pc' pn : Nat} {Ls : Array Slot} {rest : List Value} (hd : decode c.code pc = .ok (.ifCond cd o, 3)) (ho : 0 ≤ (pc : Int) + o) (hp : ((pc : Int) + o).toNat = pc') (hq : pc + 3 = pn)
    (h1 : own_yes cd x y → own_G p.tables e below F (T.setTop (mkF m pc' Ls rest))) (h2 : own_no cd x y → own_G p.tables e below F (T.setTop (mkF m pn Ls rest))) : own_G p.tables e below F (T.setTop (mkF m pc Ls (.int (lcmpW x y) :: rest))) :=
  own_ynL.elim (fun q => own_lifY X hx hd ho hp q (h1 q)) (fun q => own_lifN X hx hd hq q (h2 q))
theorem own_ret (X : Stand p l e R s m args below meth c T locs cells slots) (hx : p.tables.exec = Jvm.exec) (hlk : meth.locks = false) {K N pc : Nat} {Ls : Array Slot} {w : Value} {t : FieldType} {i : Instr} {rest : List Value} {Q : Option Value → Heap → List Loc → Prop} (hret : meth.sig.returnType = some t) (hn : narrow t w = w)
    (hi : (i = .ireturn ∧ (t = .int ∨ t = .boolean ∨ t = .byte ∨ t = .char ∨ t = .short) ∧ ∃ z, w = .int z) ∨ (i = .lreturn ∧ t = .long ∧ ∃ z, w = .long z) ∨ (i = .dreturn ∧ t = .double ∧ ∃ z, w = .double z) ∨ (i = .freturn ∧ t = .float ∧ ∃ z, w = .float z) ∨ (i = .areturn ∧ t.isReference = true ∧ w.isRef = true))
    (hd : decode c.code pc = .ok (i, 1)) (hK : cells ≤ K) (hN : slots ≤ N) (hQ : Q (some w) T.heap locs) :
    own_G p.tables e below (fun o U' => ∃ v L, o = .returned v ∧ Q v U'.heap L ∧ FrameEnd s o U' L K N) (T.setTop (mkF m pc Ls (w :: rest))) := by
  obtain ⟨fs, hr, hrun, hended, hW, hsame⟩ := X.leave (v := some w) (fun h => by rw [hret] at h; cases h) hlk
  exact ⟨_, _, retOut X hx hret hn hi hd hr, hrun, hended, _, _, rfl, hQ, ⟨_, rfl⟩, hW, hsame.mono hK hN⟩
theorem own_retI (X : Stand p l e R s m args below meth c T locs cells slots) (hx : p.tables.exec = Jvm.exec) (hlk : meth.locks = false) {K N pc : Nat} {Ls : Array Slot} {z : Int32} {rest : List Value} {Q : Option Value → Heap → List Loc → Prop} (hret : meth.sig.returnType = some .int)
    (hd : decode c.code pc = .ok (.ireturn, 1)) (hK : cells ≤ K) (hN : slots ≤ N) (hQ : Q (some (.int z)) T.heap locs) :
    own_G p.tables e below (fun o U' => ∃ v L, o = .returned v ∧ Q v U'.heap L ∧ FrameEnd s o U' L K N) (T.setTop (mkF m pc Ls (.int z :: rest))) :=
  own_ret X hx hlk hret rfl (Or.inl ⟨rfl, Or.inl rfl, z, rfl⟩) hd hK hN hQ
theorem own_retZ (X : Stand p l e R s m args below meth c T locs cells slots) (hx : p.tables.exec = Jvm.exec) (hlk : meth.locks = false) {K N pc : Nat} {Ls : Array Slot} {z : Int32} {rest : List Value} {Q : Option Value → Heap → List Loc → Prop} (hret : meth.sig.returnType = some .boolean)
    (hd : decode c.code pc = .ok (.ireturn, 1)) (hz : z = 0 ∨ z = 1) (hK : cells ≤ K) (hN : slots ≤ N) (hQ : Q (some (.int z)) T.heap locs) :
    own_G p.tables e below (fun o U' => ∃ v L, o = .returned v ∧ Q v U'.heap L ∧ FrameEnd s o U' L K N) (T.setTop (mkF m pc Ls (.int z :: rest))) :=
  own_ret X hx hlk hret (by rcases hz with rfl | rfl <;> rfl) (Or.inl ⟨rfl, Or.inr (Or.inl rfl), z, rfl⟩) hd hK hN hQ
theorem own_retL (X : Stand p l e R s m args below meth c T locs cells slots) (hx : p.tables.exec = Jvm.exec) (hlk : meth.locks = false) {K N pc : Nat} {Ls : Array Slot} {z : Int64} {rest : List Value} {Q : Option Value → Heap → List Loc → Prop} (hret : meth.sig.returnType = some .long)
    (hd : decode c.code pc = .ok (.lreturn, 1)) (hK : cells ≤ K) (hN : slots ≤ N) (hQ : Q (some (.long z)) T.heap locs) :
    own_G p.tables e below (fun o U' => ∃ v L, o = .returned v ∧ Q v U'.heap L ∧ FrameEnd s o U' L K N) (T.setTop (mkF m pc Ls (.long z :: rest))) :=
  own_ret X hx hlk hret rfl (Or.inr (Or.inl ⟨rfl, rfl, z, rfl⟩)) hd hK hN hQ
theorem own_retA (X : Stand p l e R s m args below meth c T locs cells slots) (hx : p.tables.exec = Jvm.exec) (hlk : meth.locks = false) {K N pc : Nat} {Ls : Array Slot} {w : Value} {t : FieldType} {rest : List Value} {Q : Option Value → Heap → List Loc → Prop} (hret : meth.sig.returnType = some t) (ht : t.isReference = true) (hw : w.isRef = true)
    (hd : decode c.code pc = .ok (.areturn, 1)) (hK : cells ≤ K) (hN : slots ≤ N) (hQ : Q (some w) T.heap locs) :
    own_G p.tables e below (fun o U' => ∃ v L, o = .returned v ∧ Q v U'.heap L ∧ FrameEnd s o U' L K N) (T.setTop (mkF m pc Ls (w :: rest))) :=
  own_ret X hx hlk hret (by cases t <;> first | (cases ht; done) | (rcases ref_cases hw with rfl | ⟨z, rfl⟩ <;> rfl)) (Or.inr (Or.inr (Or.inr (Or.inr ⟨rfl, ht, hw⟩)))) hd hK hN hQ
theorem own_retV (X : Stand p l e R s m args below meth c T locs cells slots) (hx : p.tables.exec = Jvm.exec) (hlk : meth.locks = false) {K N pc : Nat} {Ls : Array Slot} {Q : Option Value → Heap → List Loc → Prop} (hret : meth.sig.returnType = none)
    (hd : decode c.code pc = .ok (.return_, 1)) (hK : cells ≤ K) (hN : slots ≤ N) (hQ : Q none T.heap locs) :
    own_G p.tables e below (fun o U' => ∃ v L, o = .returned v ∧ Q v U'.heap L ∧ FrameEnd s o U' L K N) (T.setTop (mkF m pc Ls [])) := by
  obtain ⟨fs, hr, hrun, hended, hW, hsame⟩ := X.leave (v := none) (fun _ => rfl) hlk
  exact ⟨_, _, X.returnOut hx hret hd hr, hrun, hended, _, _, rfl, hQ, ⟨_, rfl⟩, hW, hsame.mono hK hN⟩
theorem own_acmpVE (X : Stand p l e R s m args below meth c T locs cells slots) (hx : p.tables.exec = Jvm.exec) {cd : ACond} {x y : Value} (h1 : x.isRef = true) (h2 : y.isRef = true) {o : Int} {pc pc' : Nat} {Ls : Array Slot} {rest : List Value} (hd : decode c.code pc = .ok (.if_acmp cd o, 3)) (ho : 0 ≤ (pc : Int) + o) (hp : pc' = if acV cd true = true then ((pc : Int) + o).toNat else pc + 3)
    (hc : x = y) (k : own_G p.tables e below F (T.setTop (mkF m pc' Ls rest))) : own_G p.tables e below F (T.setTop (mkF m pc Ls (y :: x :: rest))) :=
  own_go (fun _ q => RoadKit.acmp X hx rfl h1 h2 (pc0 := pc) (pc' := pc') (same := true) rfl hd rfl (by simp [hc]) ho hp q) k
theorem own_acmpVD (X : Stand p l e R s m args below meth c T locs cells slots) (hx : p.tables.exec = Jvm.exec) {cd : ACond} {x y : Value} (h1 : x.isRef = true) (h2 : y.isRef = true) {o : Int} {pc pc' : Nat} {Ls : Array Slot} {rest : List Value} (hd : decode c.code pc = .ok (.if_acmp cd o, 3)) (ho : 0 ≤ (pc : Int) + o) (hp : pc' = if acV cd false = true then ((pc : Int) + o).toNat else pc + 3)
    (hc : ¬ x = y) (k : own_G p.tables e below F (T.setTop (mkF m pc' Ls rest))) : own_G p.tables e below F (T.setTop (mkF m pc Ls (y :: x :: rest))) :=
  own_go (fun _ q => RoadKit.acmp X hx rfl h1 h2 (pc0 := pc) (pc' := pc') (same := false) rfl hd rfl (by simp [hc]) ho hp q) k
theorem own_acmpAE (X : Stand p l e R s m args below meth c T locs cells slots) (hx : p.tables.exec = Jvm.exec) {cd : ACond} {x y : Addr} {o : Int} {pc pc' : Nat} {Ls : Array Slot} {rest : List Value} (hd : decode c.code pc = .ok (.if_acmp cd o, 3)) (ho : 0 ≤ (pc : Int) + o) (hp : pc' = if acV cd true = true then ((pc : Int) + o).toNat else pc + 3)
    (hc : x = y) (k : own_G p.tables e below F (T.setTop (mkF m pc' Ls rest))) : own_G p.tables e below F (T.setTop (mkF m pc Ls (.ref y :: .ref x :: rest))) :=
  own_acmpVE X hx rfl rfl hd ho hp (by rw [hc]) k
theorem own_acmpAD (X : Stand p l e R s m args below meth c T locs cells slots) (hx : p.tables.exec = Jvm.exec) {cd : ACond} {x y : Addr} {o : Int} {pc pc' : Nat} {Ls : Array Slot} {rest : List Value} (hd : decode c.code pc = .ok (.if_acmp cd o, 3)) (ho : 0 ≤ (pc : Int) + o) (hp : pc' = if acV cd false = true then ((pc : Int) + o).toNat else pc + 3)
    (hc : ¬ x = y) (k : own_G p.tables e below F (T.setTop (mkF m pc' Ls rest))) : own_G p.tables e below F (T.setTop (mkF m pc Ls (.ref y :: .ref x :: rest))) :=
  own_acmpVD X hx rfl rfl hd ho hp (fun q => hc (by cases q; rfl)) k
end Own
theorem own_cat1 {v : Value} (h : v.isRef = true) : v.category = 1 := by cases v <;> first | (cases h; done) | rfl
theorem own_sta_keep {Z : State} {h h' : Heap} {C n d : String} {v : Value} {ws : List Addr} (F : Sta Z h C n d v) (K : Keep h h' ws) (q : ∀ x ∈ ws, ∀ c : Cell, h[x]? = some c → c.vm.isStatics = false) : Sta Z h' C n d v := by
  obtain ⟨cf, i, k, f, st, cell, h1, h2, h3, h4, h5, h6, h7⟩ := F
  exact ⟨cf, i, k, f, st, cell, h1, h2, h3, h4, K.2.1 _ _ h5 (fun z => by rw [q _ z _ h5] at h6; cases h6), h6, h7⟩
theorem own_eqint {t : Term} {n : Int32} {args : Array Value} {s : State} (h : (Jvm.Cond.eq t (Term.int n)).value args s none s [] = some true) : t.eval args s none [] s = some (.int n) := by
  have hb : (Term.int n).eval args s none [] s = some (.int n) := Term.int_eval n
  simp only [Jvm.Cond.value, hb] at h
  cases ht : t.eval args s none [] s with
  | none => simp [ht] at h
  | some v => cases v <;> simp [ht] at h ⊢; exact h
abbrev own_y1 : MethodName := ⟨"com/example/sluicegate/sluicegate/rule/Pacing", "waitAfter", "(JJJ)J"⟩
theorem own_pd1 : parseMethodDescriptor "(JJJ)J" = some ⟨[.long, .long, .long], (some .long)⟩ := by decide +kernel

def own_wait (a b c : Int64) : Int64 := if c - a < b then (if c - a < b - (9223372036854775807 : Int64) then (9223372036854775807 : Int64) else b - (c - a)) else 0


theorem own_mask {z x : Int64} (h : z = (x &&& (9223372036854775807 : Int64))) : ¬ z < 0 := by
  have m := c_maskL x (9223372036854775807 : Int64) 63 (by decide) (by decide)
  rw [← h] at m
  have e3 : (0 : Int64).toInt = 0 := by decide
  rw [Int64.lt_iff_toInt_lt]
  omega
theorem own_c3 {z : Int64} {d : Int32} (h : z = ((9223372036854775807 : Int64) - ((d &&& (255 : Int32)).toInt64))) : ¬ z < 0 := by
  have m := c_mask d (255 : Int32) 8 (by decide) (by decide)
  have k := c_i2l (d &&& (255 : Int32))
  have j := c_lsub (9223372036854775807 : Int64) ((d &&& (255 : Int32)).toInt64)
  rw [← h] at j
  have r := rng64 z
  have e1 : (9223372036854775807 : Int64).toInt = 9223372036854775807 := by decide
  have e3 : (0 : Int64).toInt = 0 := by decide
  rw [Int64.lt_iff_toInt_lt]
  omega
theorem own_slot {p0 co no si z : Int64} (hs : si = no - p0) (hz : z = own_wait p0 co no) : ¬ 0 < z ∨ z = (9223372036854775807 : Int64) ∨ no + z = p0 + co := by
  unfold own_wait at hz
  rw [← hs] at hz
  by_cases h1 : si < co
  · rw [if_pos h1] at hz
    by_cases h2 : si < co - (9223372036854775807 : Int64)
    · rw [if_pos h2] at hz; exact Or.inr (Or.inl hz)
    · rw [if_neg h2] at hz
      refine Or.inr (Or.inr ?_)
      have a1 := c_lsub no p0
      rw [← hs] at a1
      have a2 := c_lsub co si
      rw [← hz] at a2
      have a3 := c_ladd no z
      have a4 := c_ladd p0 co
      have a5 := rng64 (no + z)
      have a6 := rng64 (p0 + co)
      apply Int64.toInt_inj.mp
      omega
  · rw [if_neg h1] at hz
    exact Or.inl (by rw [hz]; decide)
theorem own_or3 {a b c : Prop} (h : a ∨ b ∨ c) (x : ¬ a) (y : ¬ b) : c := (h.resolve_left x).resolve_left y
theorem own_e1 {p0 co no si z : Int64} (hs : si = no - p0) (hz : z = own_wait p0 co no) (h : ¬ si < co) : z = 0 := by
  unfold own_wait at hz
  rw [← hs, if_neg h] at hz
  exact hz
theorem own_far {co si : Int64} (hco : ¬ co < 0) (h2 : ¬ si < 0) : ¬ si < co - (9223372036854775807 : Int64) := by
  have a := c_lsub co (9223372036854775807 : Int64)
  have b := rng64 co
  have d := rng64 (co - (9223372036854775807 : Int64))
  have e1 : (9223372036854775807 : Int64).toInt = 9223372036854775807 := by decide
  have e3 : (0 : Int64).toInt = 0 := by decide
  rw [Int64.lt_iff_toInt_lt] at *
  omega
theorem own_e2 {p0 co no si z ex : Int64} (hs : si = no - p0) (hco : ¬ co < 0) (hz : z = own_wait p0 co no) (h : si < co) (h2 : ¬ si < 0) (hx : ex = co - si) : z = ex := by
  unfold own_wait at hz
  rw [← hs, if_pos h, if_neg (own_far hco h2)] at hz
  rw [hz, hx]
theorem own_near {co si : Int64} (hco : ¬ co < 0) (h1 : si < co) : si < co - (9223372036854775807 : Int64) ↔ (si < 0 ∧ (9223372036854775807 : Int64) + si < co) := by
  have a := c_lsub co (9223372036854775807 : Int64)
  have b := rng64 co
  have d := rng64 (co - (9223372036854775807 : Int64))
  have f := c_ladd (9223372036854775807 : Int64) si
  have g := rng64 ((9223372036854775807 : Int64) + si)
  have k := rng64 si
  have e1 : (9223372036854775807 : Int64).toInt = 9223372036854775807 := by decide
  have e3 : (0 : Int64).toInt = 0 := by decide
  rw [Int64.lt_iff_toInt_lt] at *
  constructor
  · intro q
    rw [Int64.lt_iff_toInt_lt, Int64.lt_iff_toInt_lt]
    omega
  · intro q
    rw [Int64.lt_iff_toInt_lt, Int64.lt_iff_toInt_lt] at q
    omega
theorem own_e3 {p0 co no si z ex : Int64} (hs : si = no - p0) (hco : ¬ co < 0) (hz : z = own_wait p0 co no) (h : si < co) (h2 : ¬ (9223372036854775807 : Int64) + si < co) (hx : ex = co - si) : z = ex := by
  unfold own_wait at hz
  rw [← hs, if_pos h, if_neg (fun q => h2 ((own_near hco h).mp q).2)] at hz
  rw [hz, hx]
theorem own_e4 {p0 co no si z : Int64} (hs : si = no - p0) (hco : ¬ co < 0) (hz : z = own_wait p0 co no) (h : si < co) (h1 : si < 0) (h2 : (9223372036854775807 : Int64) + si < co) : z = (9223372036854775807 : Int64) := by
  unfold own_wait at hz
  rw [← hs, if_pos h, if_pos ((own_near hco h).mpr ⟨h1, h2⟩)] at hz
  exact hz

theorem own_wa_d0 : decode prog_59_method_3_code 0 = .ok (.lload 4, 2) := by decide +kernel
theorem own_wa_d2 : decode prog_59_method_3_code 2 = .ok (.lload_n 0, 1) := by decide +kernel
theorem own_wa_d3 : decode prog_59_method_3_code 3 = .ok (.lsub, 1) := by decide +kernel
theorem own_wa_d4 : decode prog_59_method_3_code 4 = .ok (.lstore 6, 2) := by decide +kernel
theorem own_wa_d6 : decode prog_59_method_3_code 6 = .ok (.lload 6, 2) := by decide +kernel
theorem own_wa_d8 : decode prog_59_method_3_code 8 = .ok (.lload_n 2, 1) := by decide +kernel
theorem own_wa_d9 : decode prog_59_method_3_code 9 = .ok (.lcmp, 1) := by decide +kernel
theorem own_wa_d10 : decode prog_59_method_3_code 10 = .ok (.ifCond .lt 5, 3) := by decide +kernel
theorem own_wa_d13 : decode prog_59_method_3_code 13 = .ok (.lconst 0, 1) := by decide +kernel
theorem own_wa_d14 : decode prog_59_method_3_code 14 = .ok (.lreturn, 1) := by decide +kernel
theorem own_wa_d15 : decode prog_59_method_3_code 15 = .ok (.lload 6, 2) := by decide +kernel
theorem own_wa_d17 : decode prog_59_method_3_code 17 = .ok (.lload_n 2, 1) := by decide +kernel
theorem own_wa_d18 : decode prog_59_method_3_code 18 = .ok (.ldc2_w 23, 3) := by decide +kernel
theorem own_wa_d21 : decode prog_59_method_3_code 21 = .ok (.lsub, 1) := by decide +kernel
theorem own_wa_d22 : decode prog_59_method_3_code 22 = .ok (.lcmp, 1) := by decide +kernel
theorem own_wa_d23 : decode prog_59_method_3_code 23 = .ok (.ifCond .ge 9, 3) := by decide +kernel
theorem own_wa_d26 : decode prog_59_method_3_code 26 = .ok (.ldc2_w 23, 3) := by decide +kernel
theorem own_wa_d29 : decode prog_59_method_3_code 29 = .ok (.goto 7, 3) := by decide +kernel
theorem own_wa_d32 : decode prog_59_method_3_code 32 = .ok (.lload_n 2, 1) := by decide +kernel
theorem own_wa_d33 : decode prog_59_method_3_code 33 = .ok (.lload 6, 2) := by decide +kernel
theorem own_wa_d35 : decode prog_59_method_3_code 35 = .ok (.lsub, 1) := by decide +kernel
theorem own_wa_d36 : decode prog_59_method_3_code 36 = .ok (.lreturn, 1) := by decide +kernel
theorem own_wa_pn : plainName "com/example/sluicegate/sluicegate/rule/Pacing" = true := by first | (simp [plainName, overriddenIn]; done) | decide +kernel
theorem own_wa_ef (m : MethodId) (pa : Int64) (pb : Int64) (pc : Int64) : entryFrame m #[(.long pa), (.long pb), (.long pc)] 8 = mkF m 0 #[.val (.long pa), .second, .val (.long pb), .second, .val (.long pc), .second, .unset, .unset] [] := by first | (simp [entryFrame, mkF, argsToLocals, Value.category]; done) | rfl
def own_wa_Q (Z : State) (pa : Int64) (pb : Int64) (pc : Int64) (h0 : Heap) (n0 : Nat) (v : Option Value) (h : Heap) (L : List Loc) : Prop := v = some (.long (own_wait pa pb pc)) ∧ Fr n0 L ∧ h = h0
set_option maxRecDepth 65536 in
set_option maxHeartbeats 40000000 in
theorem own_wa (l : Launch) (Z : State) (a0 : Array Value) (hw : ∀ d ∈ tables_1, d.before a0 Z = true) (ws : List Jvm.Cond) (pa : Int64) (pb : Int64) (pc : Int64) (h0 : Heap) (n0 : Nat) :
    MetFree l own_y1 (head1 (Jvm.Cond.code own_y1 prog_59_method_3_code 8 (some .long) :: ws) ({ frames := 0, cells := 0, slots := 0, locals := 0 } : Room)) (fun a U => a = #[(.long pa), (.long pb), (.long pc)] ∧ Z.Warmed39 U.vm ∧ U.heap = h0) (fun _ _ _ _ _ => True) (fun _ U o U' => ∃ v L, o = .returned v ∧ (own_wa_Q Z pa pb pc h0 n0) v U'.heap L ∧ FrameEnd U o U' L ({ frames := 0, cells := 0, slots := 0, locals := 0 } : Room).cells ({ frames := 0, cells := 0, slots := 0, locals := 0 } : Room).slots) := by
  refine MetFree.of_bodySF (plainFor_of_name own_wa_pn) hisR ?_
  intro p e s m args below meth c s₁ Bd hml0 hP hK
  obtain ⟨rfl, hZ, hh⟩ := hP
  have hx := Bd.exec
  have hby := Bd.bytes
  have hml : c.maxLocals = 8 := hml0
  have hown : s.vm.findClass "com/example/sluicegate/sluicegate/rule/Pacing" = some m.cls := findClass_of_methodNamed Bd.named
  have hnm := (name_of_methodNamed Bd.named Bd.method).1
  have hlk : meth.locks = false := Bd.notSynchronized
  have X0 : Stand p l e ({ frames := 0, cells := 0, slots := 0, locals := 0 } : Room) s m #[(.long pa), (.long pb), (.long pc)] below meth c s₁ [] 0 0 := Stand.of_body Bd
  have e0 : s₁.heap = h0 := by rw [← hh, Bd.state]; rfl
  have N0 := Fr.nil n0
  have w_5 := hw _ (List.mem_of_getElem? (l := tables_1) (i := 5) rfl)
  show own_G p.tables e below (fun o U' => ∃ v L, o = .returned v ∧ (own_wa_Q Z pa pb pc h0 n0) v U'.heap L ∧ FrameEnd s o U' L ({ frames := 0, cells := 0, slots := 0, locals := 0 } : Room).cells ({ frames := 0, cells := 0, slots := 0, locals := 0 } : Room).slots) (s₁.setTop (entryFrame m #[(.long pa), (.long pb), (.long pc)] 8))
  refine own_go (B := s₁.setTop (mkF m 0 #[.val (.long pa), .second, .val (.long pb), .second, .val (.long pc), .second, .unset, .unset] [])) (fun t k => castTop (own_wa_ef m pa pb pc) k) ?_
  refine own_go (B := (s₁.setTop (mkF m 2 #[.val (.long pa), .second, .val (.long pb), .second, .val (.long pc), .second, .unset, .unset] [(.long pc)]))) (fun t k => XS.lload X0.here hx rfl (hb hby own_wa_d0) rfl k) ?_
  refine own_go (B := (s₁.setTop (mkF m 3 #[.val (.long pa), .second, .val (.long pb), .second, .val (.long pc), .second, .unset, .unset] [(.long pa), (.long pc)]))) (fun t k => XS.lloadN X0.here hx rfl (hb hby own_wa_d2) rfl k) ?_
  refine own_go (B := (s₁.setTop (mkF m 4 #[.val (.long pa), .second, .val (.long pb), .second, .val (.long pc), .second, .unset, .unset] [(.long (pc - pa))]))) (fun t k => XS.lsub X0.here hx rfl (hb hby own_wa_d3) rfl k) ?_
  obtain ⟨z4, hz4⟩ : ∃ z : Int64, z = (pc - pa) := ⟨_, rfl⟩
  rw [← hz4]
  refine own_go (B := (s₁.setTop (mkF m 6 #[.val (.long pa), .second, .val (.long pb), .second, .val (.long pc), .second, .val (.long z4), .second] []))) (fun t k => XS.lstore X0.here hx rfl (hb hby own_wa_d4) rfl (l' := #[.val (.long pa), .second, .val (.long pb), .second, .val (.long pc), .second, .val (.long z4), .second]) rfl k) ?_
  refine own_go (B := (s₁.setTop (mkF m 8 #[.val (.long pa), .second, .val (.long pb), .second, .val (.long pc), .second, .val (.long z4), .second] [(.long z4)]))) (fun t k => XS.lload X0.here hx rfl (hb hby own_wa_d6) rfl k) ?_
  refine own_go (B := (s₁.setTop (mkF m 9 #[.val (.long pa), .second, .val (.long pb), .second, .val (.long pc), .second, .val (.long z4), .second] [(.long pb), (.long z4)]))) (fun t k => XS.lloadN X0.here hx rfl (hb hby own_wa_d8) rfl k) ?_
  refine own_go (B := (s₁.setTop (mkF m 10 #[.val (.long pa), .second, .val (.long pb), .second, .val (.long pc), .second, .val (.long z4), .second] [(.int (lcmpW z4 pb))]))) (fun t k => XS.lcmp X0.here hx rfl (hb hby own_wa_d9) rfl k) ?_
  refine own_lif X0 hx (hb hby own_wa_d10) (pc' := 15) (pn := 13) (by decide) (by decide) rfl (fun (hc10 : z4 < pb) => ?_) (fun (hc10 : ¬ z4 < pb) => ?_)
  · refine own_go (B := (s₁.setTop (mkF m 17 #[.val (.long pa), .second, .val (.long pb), .second, .val (.long pc), .second, .val (.long z4), .second] [(.long z4)]))) (fun t k => XS.lload X0.here hx rfl (hb hby own_wa_d15) rfl k) ?_
    refine own_go (B := (s₁.setTop (mkF m 18 #[.val (.long pa), .second, .val (.long pb), .second, .val (.long pc), .second, .val (.long z4), .second] [(.long pb), (.long z4)]))) (fun t k => XS.lloadN X0.here hx rfl (hb hby own_wa_d17) rfl k) ?_
    have lc1 := X0.ldc2Long hx hown (v := (9223372036854775807 : Int64)) (mvT hZ w_5) (g := (mkF m 18 #[.val (.long pa), .second, .val (.long pb), .second, .val (.long pc), .second, .val (.long z4), .second] [(.long pb), (.long z4)])) rfl (hb hby own_wa_d18)
    refine own_go (B := (s₁.setTop (mkF m 21 #[.val (.long pa), .second, .val (.long pb), .second, .val (.long pc), .second, .val (.long z4), .second] [(.long (9223372036854775807 : Int64)), (.long pb), (.long z4)]))) lc1 ?_
    refine own_go (B := (s₁.setTop (mkF m 22 #[.val (.long pa), .second, .val (.long pb), .second, .val (.long pc), .second, .val (.long z4), .second] [(.long (pb - (9223372036854775807 : Int64))), (.long z4)]))) (fun t k => XS.lsub X0.here hx rfl (hb hby own_wa_d21) rfl k) ?_
    refine own_go (B := (s₁.setTop (mkF m 23 #[.val (.long pa), .second, .val (.long pb), .second, .val (.long pc), .second, .val (.long z4), .second] [(.int (lcmpW z4 (pb - (9223372036854775807 : Int64))))]))) (fun t k => XS.lcmp X0.here hx rfl (hb hby own_wa_d22) rfl k) ?_
    refine own_lif X0 hx (hb hby own_wa_d23) (pc' := 32) (pn := 26) (by decide) (by decide) rfl (fun (hc23 : ¬ z4 < (pb - (9223372036854775807 : Int64))) => ?_) (fun (hc23 : z4 < (pb - (9223372036854775807 : Int64))) => ?_)
    · refine own_go (B := (s₁.setTop (mkF m 33 #[.val (.long pa), .second, .val (.long pb), .second, .val (.long pc), .second, .val (.long z4), .second] [(.long pb)]))) (fun t k => XS.lloadN X0.here hx rfl (hb hby own_wa_d32) rfl k) ?_
      refine own_go (B := (s₁.setTop (mkF m 35 #[.val (.long pa), .second, .val (.long pb), .second, .val (.long pc), .second, .val (.long z4), .second] [(.long z4), (.long pb)]))) (fun t k => XS.lload X0.here hx rfl (hb hby own_wa_d33) rfl k) ?_
      refine own_go (B := (s₁.setTop (mkF m 36 #[.val (.long pa), .second, .val (.long pb), .second, .val (.long pc), .second, .val (.long z4), .second] [(.long (pb - z4))]))) (fun t k => XS.lsub X0.here hx rfl (hb hby own_wa_d35) rfl k) ?_
      exact own_retL X0 hx hlk Bd.returns (hb hby own_wa_d36) (own_b rfl) (own_b rfl) (Q := (own_wa_Q Z pa pb pc h0 n0)) ⟨by rw [own_wait, ← hz4, if_pos hc10, if_neg hc23], N0, e0⟩
    · have lc2 := X0.ldc2Long hx hown (v := (9223372036854775807 : Int64)) (mvT hZ w_5) (g := (mkF m 26 #[.val (.long pa), .second, .val (.long pb), .second, .val (.long pc), .second, .val (.long z4), .second] [])) rfl (hb hby own_wa_d26)
      refine own_go (B := (s₁.setTop (mkF m 29 #[.val (.long pa), .second, .val (.long pb), .second, .val (.long pc), .second, .val (.long z4), .second] [(.long (9223372036854775807 : Int64))]))) lc2 ?_
      refine own_go (B := (s₁.setTop (mkF m 36 #[.val (.long pa), .second, .val (.long pb), .second, .val (.long pc), .second, .val (.long z4), .second] [(.long (9223372036854775807 : Int64))]))) (fun t k => XS.goto X0.here hx rfl (pc0 := 29) (pc' := 36) rfl (hb hby own_wa_d29) (by decide) (by decide) k) ?_
      exact own_retL X0 hx hlk Bd.returns (hb hby own_wa_d36) (own_b rfl) (own_b rfl) (Q := (own_wa_Q Z pa pb pc h0 n0)) ⟨by rw [own_wait, ← hz4, if_pos hc10, if_pos hc23], N0, e0⟩
  · refine own_go (B := (s₁.setTop (mkF m 14 #[.val (.long pa), .second, .val (.long pb), .second, .val (.long pc), .second, .val (.long z4), .second] [(.long (0 : Int64))]))) (fun t k => XS.lconst X0.here hx rfl (hb hby own_wa_d13) k) ?_
    exact own_retL X0 hx hlk Bd.returns (hb hby own_wa_d14) (own_b rfl) (own_b rfl) (Q := (own_wa_Q Z pa pb pc h0 n0)) ⟨by rw [own_wait, ← hz4, if_neg hc10], N0, e0⟩

theorem own_law_pn : plainName "com/example/sluicegate/sluicegate/rule/PacingWaitAfterPinLaw" = true := by first | (simp [plainName, overriddenIn]; done) | decide +kernel
theorem own_law_ef (m : MethodId) (p0 : Int64) (p1 : Int64) (p2 : Int64) (p3 : Int32) (p4 : Int32) : entryFrame m #[(.long p0), (.long p1), (.long p2), (.int p3), (.int p4)] maxLocals = mkF m 0 #[.val (.long p0), .second, .val (.long p1), .second, .val (.long p2), .second, iv p3, iv p4, .unset, .unset, .unset, .unset, .unset, .unset, .unset, .unset, .unset, .unset, .unset, .unset] [] := by first | (simp [entryFrame, mkF, argsToLocals, Value.category, maxLocals]; done) | rfl
def own_law_Q (Z : State) (p0 : Int64) (p1 : Int64) (p2 : Int64) (p3 : Int32) (p4 : Int32) (h0 : Heap) (n0 : Nat) (v : Option Value) (h : Heap) (L : List Loc) : Prop := v = some (.int 1) ∧ Fr n0 L
set_option maxRecDepth 65536 in
set_option maxHeartbeats 40000000 in
theorem own_law (l : Launch) (Z : State) (a0 : Array Value) (hw : ∀ d ∈ tables_1, d.before a0 Z = true) (ws : List Jvm.Cond) (p0 : Int64) (p1 : Int64) (p2 : Int64) (p3 : Int32) (p4 : Int32) (h0 : Heap) (n0 : Nat) :
    MetFree l x (head1 (Jvm.Cond.code x code maxLocals ret :: ws) room_1) (fun a U => a = #[(.long p0), (.long p1), (.long p2), (.int p3), (.int p4)] ∧ Z.Warmed39 U.vm ∧ U.heap = h0) (fun _ _ _ _ _ => True) (fun _ U o U' => ∃ v L, o = .returned v ∧ (own_law_Q Z p0 p1 p2 p3 p4 h0 n0) v U'.heap L ∧ FrameEnd U o U' L 0 0) := by
  refine MetFree.of_bodySF (plainFor_of_name own_law_pn) hisR ?_
  intro p e s m args below meth c s₁ Bd hml0 hP hK
  obtain ⟨rfl, hZ, hh⟩ := hP
  have hx := Bd.exec
  have hby := Bd.bytes
  have hml : c.maxLocals = 20 := hml0
  have hown : s.vm.findClass "com/example/sluicegate/sluicegate/rule/PacingWaitAfterPinLaw" = some m.cls := findClass_of_methodNamed Bd.named
  have hnm := (name_of_methodNamed Bd.named Bd.method).1
  have hlk : meth.locks = false := Bd.notSynchronized
  have X0 : Stand p l e room_1 s m #[(.long p0), (.long p1), (.long p2), (.int p3), (.int p4)] below meth c s₁ [] 0 0 := Stand.of_body Bd
  have e0 : s₁.heap = h0 := by rw [← hh, Bd.state]; rfl
  have N0 := Fr.nil n0
  have w_0 := hw _ (List.mem_of_getElem? (l := tables_1) (i := 0) rfl)
  have w_1 := hw _ (List.mem_of_getElem? (l := tables_1) (i := 1) rfl)
  have w_2 := hw _ (List.mem_of_getElem? (l := tables_1) (i := 2) rfl)
  have w_3 := hw _ (List.mem_of_getElem? (l := tables_1) (i := 3) rfl)
  have w_4 := hw _ (List.mem_of_getElem? (l := tables_1) (i := 4) rfl)
  show own_G p.tables e below (fun o U' => ∃ v L, o = .returned v ∧ (own_law_Q Z p0 p1 p2 p3 p4 h0 n0) v U'.heap L ∧ FrameEnd s o U' L 0 0) (s₁.setTop (entryFrame m #[(.long p0), (.long p1), (.long p2), (.int p3), (.int p4)] maxLocals))
  refine own_go (B := s₁.setTop (mkF m 0 #[.val (.long p0), .second, .val (.long p1), .second, .val (.long p2), .second, iv p3, iv p4, .unset, .unset, .unset, .unset, .unset, .unset, .unset, .unset, .unset, .unset, .unset, .unset] [])) (fun t k => castTop (own_law_ef m p0 p1 p2 p3 p4) k) ?_
  refine own_go (B := (s₁.setTop (mkF m 2 #[.val (.long p0), .second, .val (.long p1), .second, .val (.long p2), .second, iv p3, iv p4, .unset, .unset, .unset, .unset, .unset, .unset, .unset, .unset, .unset, .unset, .unset, .unset] [(.int p3)]))) (fun t k => XS.iload X0.here hx rfl (hb hby at_0) rfl k) ?_
  refine own_go (B := (s₁.setTop (mkF m 3 #[.val (.long p0), .second, .val (.long p1), .second, .val (.long p2), .second, iv p3, iv p4, .unset, .unset, .unset, .unset, .unset, .unset, .unset, .unset, .unset, .unset, .unset, .unset] [(.int (3 : Int32)), (.int p3)]))) (fun t k => XS.iconst X0.here hx rfl (hb hby at_2) k) ?_
  refine own_go (B := (s₁.setTop (mkF m 4 #[.val (.long p0), .second, .val (.long p1), .second, .val (.long p2), .second, iv p3, iv p4, .unset, .unset, .unset, .unset, .unset, .unset, .unset, .unset, .unset, .unset, .unset, .unset] [(.int (p3 &&& (3 : Int32)))]))) (fun t k => XS.iand X0.here hx rfl (hb hby at_3) rfl k) ?_
  obtain ⟨z4, hz4⟩ : ∃ z : Int32, z = (p3 &&& (3 : Int32)) := ⟨_, rfl⟩
  rw [← hz4]
  refine own_go (B := (s₁.setTop (mkF m 6 #[.val (.long p0), .second, .val (.long p1), .second, .val (.long p2), .second, iv p3, iv p4, iv z4, .unset, .unset, .unset, .unset, .unset, .unset, .unset, .unset, .unset, .unset, .unset] []))) (fun t k => XS.istore X0.here hx rfl (hb hby at_4) rfl (l' := #[.val (.long p0), .second, .val (.long p1), .second, .val (.long p2), .second, iv p3, iv p4, iv z4, .unset, .unset, .unset, .unset, .unset, .unset, .unset, .unset, .unset, .unset, .unset]) rfl k) ?_
  refine own_go (B := (s₁.setTop (mkF m 7 #[.val (.long p0), .second, .val (.long p1), .second, .val (.long p2), .second, iv p3, iv p4, iv z4, .unset, .unset, .unset, .unset, .unset, .unset, .unset, .unset, .unset, .unset, .unset] [(.long p1)]))) (fun t k => XS.lloadN X0.here hx rfl (hb hby at_6) rfl k) ?_
  have lc1 := X0.ldc2Long hx hown (v := (9223372036854775807 : Int64)) (mvT hZ w_0) (g := (mkF m 7 #[.val (.long p0), .second, .val (.long p1), .second, .val (.long p2), .second, iv p3, iv p4, iv z4, .unset, .unset, .unset, .unset, .unset, .unset, .unset, .unset, .unset, .unset, .unset] [(.long p1)])) rfl (hb hby at_7)
  refine own_go (B := (s₁.setTop (mkF m 10 #[.val (.long p0), .second, .val (.long p1), .second, .val (.long p2), .second, iv p3, iv p4, iv z4, .unset, .unset, .unset, .unset, .unset, .unset, .unset, .unset, .unset, .unset, .unset] [(.long (9223372036854775807 : Int64)), (.long p1)]))) lc1 ?_
  refine own_go (B := (s₁.setTop (mkF m 11 #[.val (.long p0), .second, .val (.long p1), .second, .val (.long p2), .second, iv p3, iv p4, iv z4, .unset, .unset, .unset, .unset, .unset, .unset, .unset, .unset, .unset, .unset, .unset] [(.long (p1 &&& (9223372036854775807 : Int64)))]))) (fun t k => XS.land X0.here hx rfl (hb hby at_10) rfl k) ?_
  obtain ⟨z11, hz11⟩ : ∃ z : Int64, z = (p1 &&& (9223372036854775807 : Int64)) := ⟨_, rfl⟩
  rw [← hz11]
  refine own_go (B := (s₁.setTop (mkF m 13 #[.val (.long p0), .second, .val (.long p1), .second, .val (.long p2), .second, iv p3, iv p4, iv z4, .val (.long z11), .second, .unset, .unset, .unset, .unset, .unset, .unset, .unset, .unset, .unset] []))) (fun t k => XS.lstore X0.here hx rfl (hb hby at_11) rfl (l' := #[.val (.long p0), .second, .val (.long p1), .second, .val (.long p2), .second, iv p3, iv p4, iv z4, .val (.long z11), .second, .unset, .unset, .unset, .unset, .unset, .unset, .unset, .unset, .unset]) rfl k) ?_
  refine own_go (B := (s₁.setTop (mkF m 15 #[.val (.long p0), .second, .val (.long p1), .second, .val (.long p2), .second, iv p3, iv p4, iv z4, .val (.long z11), .second, .unset, .unset, .unset, .unset, .unset, .unset, .unset, .unset, .unset] [(.long p2)]))) (fun t k => XS.lload X0.here hx rfl (hb hby at_13) rfl k) ?_
  refine own_go (B := (s₁.setTop (mkF m 17 #[.val (.long p0), .second, .val (.long p1), .second, .val (.long p2), .second, iv p3, iv p4, iv z4, .val (.long z11), .second, .val (.long p2), .second, .unset, .unset, .unset, .unset, .unset, .unset, .unset] []))) (fun t k => XS.lstore X0.here hx rfl (hb hby at_15) rfl (l' := #[.val (.long p0), .second, .val (.long p1), .second, .val (.long p2), .second, iv p3, iv p4, iv z4, .val (.long z11), .second, .val (.long p2), .second, .unset, .unset, .unset, .unset, .unset, .unset, .unset]) rfl k) ?_
  have J80 : ∀ (co no si : Int64) (hs : si = no - p0) (hco : ¬ co < 0), own_G p.tables e below (fun o U' => ∃ v L, o = .returned v ∧ (own_law_Q Z p0 p1 p2 p3 p4 h0 n0) v U'.heap L ∧ FrameEnd s o U' L 0 0) (s₁.setTop (mkF m 80 #[.val (.long p0), .second, .val (.long p1), .second, .val (.long p2), .second, iv p3, iv p4, iv z4, .val (.long co), .second, .val (.long no), .second, .val (.long si), .second, .unset, .unset, .unset, .unset, .unset] [])) := by
    intro co no si hs hco
    refine own_go (B := (s₁.setTop (mkF m 81 #[.val (.long p0), .second, .val (.long p1), .second, .val (.long p2), .second, iv p3, iv p4, iv z4, .val (.long co), .second, .val (.long no), .second, .val (.long si), .second, .unset, .unset, .unset, .unset, .unset] [(.long p0)]))) (fun t k => XS.lloadN X0.here hx rfl (hb hby at_80) rfl k) ?_
    refine own_go (B := (s₁.setTop (mkF m 83 #[.val (.long p0), .second, .val (.long p1), .second, .val (.long p2), .second, iv p3, iv p4, iv z4, .val (.long co), .second, .val (.long no), .second, .val (.long si), .second, .unset, .unset, .unset, .unset, .unset] [(.long co), (.long p0)]))) (fun t k => XS.lload X0.here hx rfl (hb hby at_81) rfl k) ?_
    refine own_go (B := (s₁.setTop (mkF m 85 #[.val (.long p0), .second, .val (.long p1), .second, .val (.long p2), .second, iv p3, iv p4, iv z4, .val (.long co), .second, .val (.long no), .second, .val (.long si), .second, .unset, .unset, .unset, .unset, .unset] [(.long no), (.long co), (.long p0)]))) (fun t k => XS.lload X0.here hx rfl (hb hby at_83) rfl k) ?_
    obtain ⟨_, _, ⟨T2, L2, k2, n2⟩, -, X2, ⟨Lc2, hQ2, l2, y2, z2⟩, st2⟩ := Jvm.LawKit.callS X0 hx (y := own_y1) hown (mvT hZ w_1) (mvT hZ w_2) (mvT hZ w_3) (mvT hZ w_4) (by decide) (backOf (W := 0) (own_wa l Z a0 hw [] p0 co no h0 n0) hZ w_4 w_3 (by decide) (by decide)) (g := (mkF m 85 #[.val (.long p0), .second, .val (.long p1), .second, .val (.long p2), .second, iv p3, iv p4, iv z4, .val (.long co), .second, .val (.long no), .second, .val (.long si), .second, .unset, .unset, .unset, .unset, .unset] [(.long no), (.long co), (.long p0)])) rfl (by rw [hml]; rfl) (argsL := [(.long p0), (.long co), (.long no)]) (rest := []) (lenOf own_pd1 rfl) rfl (by show 2 * 0 + _ ≤ _; exact own_b rfl) (hb hby at_85) (fun _ _ => ⟨rfl, e0, (own_b rfl : 0 + 0 ≤ _), (own_b rfl : 0 + 0 ≤ _)⟩)
    dsimp only [Pt.U, Pt.locs, Pt.cells, Pt.slots] at X2 l2 y2 z2 st2 hQ2
    subst l2 y2 z2
    obtain ⟨rfl, Nq2, eq2⟩ := hQ2
    have N2 := Fr.app N0 Nq2
    have e2 : T2.heap = h0 := eq2
    refine own_go (B := (T2.setTop (mkF m 88 #[.val (.long p0), .second, .val (.long p1), .second, .val (.long p2), .second, iv p3, iv p4, iv z4, .val (.long co), .second, .val (.long no), .second, .val (.long si), .second, .unset, .unset, .unset, .unset, .unset] [(.long (own_wait p0 co no))]))) st2 ?_
    obtain ⟨z88, hz88⟩ : ∃ z : Int64, z = (own_wait p0 co no) := ⟨_, rfl⟩
    rw [← hz88]
    refine own_go (B := (T2.setTop (mkF m 90 #[.val (.long p0), .second, .val (.long p1), .second, .val (.long p2), .second, iv p3, iv p4, iv z4, .val (.long co), .second, .val (.long no), .second, .val (.long si), .second, .val (.long z88), .second, .unset, .unset, .unset] []))) (fun t k => XS.lstore X2.here hx rfl (hb hby at_88) rfl (l' := #[.val (.long p0), .second, .val (.long p1), .second, .val (.long p2), .second, iv p3, iv p4, iv z4, .val (.long co), .second, .val (.long no), .second, .val (.long si), .second, .val (.long z88), .second, .unset, .unset, .unset]) rfl k) ?_
    have J138 : ∀ (ex : Int64) (hre : z88 = ex) (hsl : ¬ 0 < z88 ∨ z88 = (9223372036854775807 : Int64) ∨ no + z88 = p0 + co), own_G p.tables e below (fun o U' => ∃ v L, o = .returned v ∧ (own_law_Q Z p0 p1 p2 p3 p4 h0 n0) v U'.heap L ∧ FrameEnd s o U' L 0 0) (T2.setTop (mkF m 138 #[.val (.long p0), .second, .val (.long p1), .second, .val (.long p2), .second, iv p3, iv p4, iv z4, .val (.long co), .second, .val (.long no), .second, .val (.long si), .second, .val (.long z88), .second, .val (.long ex), .second, .unset] [])) := by
      intro ex hre hsl
      refine own_go (B := (T2.setTop (mkF m 140 #[.val (.long p0), .second, .val (.long p1), .second, .val (.long p2), .second, iv p3, iv p4, iv z4, .val (.long co), .second, .val (.long no), .second, .val (.long si), .second, .val (.long z88), .second, .val (.long ex), .second, .unset] [(.long z88)]))) (fun t k => XS.lload X2.here hx rfl (hb hby at_138) rfl k) ?_
      refine own_go (B := (T2.setTop (mkF m 141 #[.val (.long p0), .second, .val (.long p1), .second, .val (.long p2), .second, iv p3, iv p4, iv z4, .val (.long co), .second, .val (.long no), .second, .val (.long si), .second, .val (.long z88), .second, .val (.long ex), .second, .unset] [(.long (0 : Int64)), (.long z88)]))) (fun t k => XS.lconst X2.here hx rfl (hb hby at_140) k) ?_
      refine own_go (B := (T2.setTop (mkF m 142 #[.val (.long p0), .second, .val (.long p1), .second, .val (.long p2), .second, iv p3, iv p4, iv z4, .val (.long co), .second, .val (.long no), .second, .val (.long si), .second, .val (.long z88), .second, .val (.long ex), .second, .unset] [(.int (lcmpW z88 (0 : Int64)))]))) (fun t k => XS.lcmp X2.here hx rfl (hb hby at_141) rfl k) ?_
      refine own_lif X2 hx (hb hby at_142) (pc' := 167) (pn := 145) (by decide) (by decide) rfl (fun (hc142 : ¬ (0 : Int64) < z88) => ?_) (fun (hc142 : (0 : Int64) < z88) => ?_)
      · refine own_go (B := (T2.setTop (mkF m 168 #[.val (.long p0), .second, .val (.long p1), .second, .val (.long p2), .second, iv p3, iv p4, iv z4, .val (.long co), .second, .val (.long no), .second, .val (.long si), .second, .val (.long z88), .second, .val (.long ex), .second, .unset] [(.int (1 : Int32))]))) (fun t k => XS.iconst X2.here hx rfl (hb hby at_167) k) ?_
        refine own_go (B := (T2.setTop (mkF m 172 #[.val (.long p0), .second, .val (.long p1), .second, .val (.long p2), .second, iv p3, iv p4, iv z4, .val (.long co), .second, .val (.long no), .second, .val (.long si), .second, .val (.long z88), .second, .val (.long ex), .second, .unset] [(.int (1 : Int32))]))) (fun t k => XS.goto X2.here hx rfl (pc0 := 168) (pc' := 172) rfl (hb hby at_168) (by decide) (by decide) k) ?_
        refine own_go (B := (T2.setTop (mkF m 174 #[.val (.long p0), .second, .val (.long p1), .second, .val (.long p2), .second, iv p3, iv p4, iv z4, .val (.long co), .second, .val (.long no), .second, .val (.long si), .second, .val (.long z88), .second, .val (.long ex), .second, iv (1 : Int32)] []))) (fun t k => XS.istore X2.here hx rfl (hb hby at_172) rfl (l' := #[.val (.long p0), .second, .val (.long p1), .second, .val (.long p2), .second, iv p3, iv p4, iv z4, .val (.long co), .second, .val (.long no), .second, .val (.long si), .second, .val (.long z88), .second, .val (.long ex), .second, iv (1 : Int32)]) rfl k) ?_
        refine own_go (B := (T2.setTop (mkF m 176 #[.val (.long p0), .second, .val (.long p1), .second, .val (.long p2), .second, iv p3, iv p4, iv z4, .val (.long co), .second, .val (.long no), .second, .val (.long si), .second, .val (.long z88), .second, .val (.long ex), .second, iv (1 : Int32)] [(.long z88)]))) (fun t k => XS.lload X2.here hx rfl (hb hby at_174) rfl k) ?_
        refine own_go (B := (T2.setTop (mkF m 178 #[.val (.long p0), .second, .val (.long p1), .second, .val (.long p2), .second, iv p3, iv p4, iv z4, .val (.long co), .second, .val (.long no), .second, .val (.long si), .second, .val (.long z88), .second, .val (.long ex), .second, iv (1 : Int32)] [(.long ex), (.long z88)]))) (fun t k => XS.lload X2.here hx rfl (hb hby at_176) rfl k) ?_
        refine own_go (B := (T2.setTop (mkF m 179 #[.val (.long p0), .second, .val (.long p1), .second, .val (.long p2), .second, iv p3, iv p4, iv z4, .val (.long co), .second, .val (.long no), .second, .val (.long si), .second, .val (.long z88), .second, .val (.long ex), .second, iv (1 : Int32)] [(.int (lcmpW z88 ex))]))) (fun t k => XS.lcmp X2.here hx rfl (hb hby at_178) rfl k) ?_
        have hc179 : z88 = ex := hre
        refine own_lifN X2 hx (hb hby at_179) (pn := 182) rfl hc179 ?_
        refine own_go (B := (T2.setTop (mkF m 184 #[.val (.long p0), .second, .val (.long p1), .second, .val (.long p2), .second, iv p3, iv p4, iv z4, .val (.long co), .second, .val (.long no), .second, .val (.long si), .second, .val (.long z88), .second, .val (.long ex), .second, iv (1 : Int32)] [(.int (1 : Int32))]))) (fun t k => XS.iload X2.here hx rfl (hb hby at_182) rfl k) ?_
        have hc184 : ¬ (1 : Int32) = (0 : Int32) := (by decide)
        refine own_ifN X2 hx (hb hby at_184) (pn := 187) rfl hc184 ?_
        refine own_go (B := (T2.setTop (mkF m 188 #[.val (.long p0), .second, .val (.long p1), .second, .val (.long p2), .second, iv p3, iv p4, iv z4, .val (.long co), .second, .val (.long no), .second, .val (.long si), .second, .val (.long z88), .second, .val (.long ex), .second, iv (1 : Int32)] [(.int (1 : Int32))]))) (fun t k => XS.iconst X2.here hx rfl (hb hby at_187) k) ?_
        refine own_go (B := (T2.setTop (mkF m 192 #[.val (.long p0), .second, .val (.long p1), .second, .val (.long p2), .second, iv p3, iv p4, iv z4, .val (.long co), .second, .val (.long no), .second, .val (.long si), .second, .val (.long z88), .second, .val (.long ex), .second, iv (1 : Int32)] [(.int (1 : Int32))]))) (fun t k => XS.goto X2.here hx rfl (pc0 := 188) (pc' := 192) rfl (hb hby at_188) (by decide) (by decide) k) ?_
        exact own_retZ X2 hx hlk Bd.returns (hb hby at_192) (by decide) (own_b rfl) (own_b rfl) (Q := (own_law_Q Z p0 p1 p2 p3 p4 h0 n0)) ⟨rfl, N2⟩
      · refine own_go (B := (T2.setTop (mkF m 147 #[.val (.long p0), .second, .val (.long p1), .second, .val (.long p2), .second, iv p3, iv p4, iv z4, .val (.long co), .second, .val (.long no), .second, .val (.long si), .second, .val (.long z88), .second, .val (.long ex), .second, .unset] [(.long z88)]))) (fun t k => XS.lload X2.here hx rfl (hb hby at_145) rfl k) ?_
        have lc3 := X2.ldc2Long hx hown (v := (9223372036854775807 : Int64)) (mvT hZ w_0) (g := (mkF m 147 #[.val (.long p0), .second, .val (.long p1), .second, .val (.long p2), .second, iv p3, iv p4, iv z4, .val (.long co), .second, .val (.long no), .second, .val (.long si), .second, .val (.long z88), .second, .val (.long ex), .second, .unset] [(.long z88)])) rfl (hb hby at_147)
        refine own_go (B := (T2.setTop (mkF m 150 #[.val (.long p0), .second, .val (.long p1), .second, .val (.long p2), .second, iv p3, iv p4, iv z4, .val (.long co), .second, .val (.long no), .second, .val (.long si), .second, .val (.long z88), .second, .val (.long ex), .second, .unset] [(.long (9223372036854775807 : Int64)), (.long z88)]))) lc3 ?_
        refine own_go (B := (T2.setTop (mkF m 151 #[.val (.long p0), .second, .val (.long p1), .second, .val (.long p2), .second, iv p3, iv p4, iv z4, .val (.long co), .second, .val (.long no), .second, .val (.long si), .second, .val (.long z88), .second, .val (.long ex), .second, .unset] [(.int (lcmpW z88 (9223372036854775807 : Int64)))]))) (fun t k => XS.lcmp X2.here hx rfl (hb hby at_150) rfl k) ?_
        refine own_lif X2 hx (hb hby at_151) (pc' := 167) (pn := 154) (by decide) (by decide) rfl (fun (hc151 : z88 = (9223372036854775807 : Int64)) => ?_) (fun (hc151 : ¬ z88 = (9223372036854775807 : Int64)) => ?_)
        · refine own_go (B := (T2.setTop (mkF m 168 #[.val (.long p0), .second, .val (.long p1), .second, .val (.long p2), .second, iv p3, iv p4, iv z4, .val (.long co), .second, .val (.long no), .second, .val (.long si), .second, .val (.long z88), .second, .val (.long ex), .second, .unset] [(.int (1 : Int32))]))) (fun t k => XS.iconst X2.here hx rfl (hb hby at_167) k) ?_
          refine own_go (B := (T2.setTop (mkF m 172 #[.val (.long p0), .second, .val (.long p1), .second, .val (.long p2), .second, iv p3, iv p4, iv z4, .val (.long co), .second, .val (.long no), .second, .val (.long si), .second, .val (.long z88), .second, .val (.long ex), .second, .unset] [(.int (1 : Int32))]))) (fun t k => XS.goto X2.here hx rfl (pc0 := 168) (pc' := 172) rfl (hb hby at_168) (by decide) (by decide) k) ?_
          refine own_go (B := (T2.setTop (mkF m 174 #[.val (.long p0), .second, .val (.long p1), .second, .val (.long p2), .second, iv p3, iv p4, iv z4, .val (.long co), .second, .val (.long no), .second, .val (.long si), .second, .val (.long z88), .second, .val (.long ex), .second, iv (1 : Int32)] []))) (fun t k => XS.istore X2.here hx rfl (hb hby at_172) rfl (l' := #[.val (.long p0), .second, .val (.long p1), .second, .val (.long p2), .second, iv p3, iv p4, iv z4, .val (.long co), .second, .val (.long no), .second, .val (.long si), .second, .val (.long z88), .second, .val (.long ex), .second, iv (1 : Int32)]) rfl k) ?_
          refine own_go (B := (T2.setTop (mkF m 176 #[.val (.long p0), .second, .val (.long p1), .second, .val (.long p2), .second, iv p3, iv p4, iv z4, .val (.long co), .second, .val (.long no), .second, .val (.long si), .second, .val (.long z88), .second, .val (.long ex), .second, iv (1 : Int32)] [(.long z88)]))) (fun t k => XS.lload X2.here hx rfl (hb hby at_174) rfl k) ?_
          refine own_go (B := (T2.setTop (mkF m 178 #[.val (.long p0), .second, .val (.long p1), .second, .val (.long p2), .second, iv p3, iv p4, iv z4, .val (.long co), .second, .val (.long no), .second, .val (.long si), .second, .val (.long z88), .second, .val (.long ex), .second, iv (1 : Int32)] [(.long ex), (.long z88)]))) (fun t k => XS.lload X2.here hx rfl (hb hby at_176) rfl k) ?_
          refine own_go (B := (T2.setTop (mkF m 179 #[.val (.long p0), .second, .val (.long p1), .second, .val (.long p2), .second, iv p3, iv p4, iv z4, .val (.long co), .second, .val (.long no), .second, .val (.long si), .second, .val (.long z88), .second, .val (.long ex), .second, iv (1 : Int32)] [(.int (lcmpW z88 ex))]))) (fun t k => XS.lcmp X2.here hx rfl (hb hby at_178) rfl k) ?_
          have hc179 : z88 = ex := hre
          refine own_lifN X2 hx (hb hby at_179) (pn := 182) rfl hc179 ?_
          refine own_go (B := (T2.setTop (mkF m 184 #[.val (.long p0), .second, .val (.long p1), .second, .val (.long p2), .second, iv p3, iv p4, iv z4, .val (.long co), .second, .val (.long no), .second, .val (.long si), .second, .val (.long z88), .second, .val (.long ex), .second, iv (1 : Int32)] [(.int (1 : Int32))]))) (fun t k => XS.iload X2.here hx rfl (hb hby at_182) rfl k) ?_
          have hc184 : ¬ (1 : Int32) = (0 : Int32) := (by decide)
          refine own_ifN X2 hx (hb hby at_184) (pn := 187) rfl hc184 ?_
          refine own_go (B := (T2.setTop (mkF m 188 #[.val (.long p0), .second, .val (.long p1), .second, .val (.long p2), .second, iv p3, iv p4, iv z4, .val (.long co), .second, .val (.long no), .second, .val (.long si), .second, .val (.long z88), .second, .val (.long ex), .second, iv (1 : Int32)] [(.int (1 : Int32))]))) (fun t k => XS.iconst X2.here hx rfl (hb hby at_187) k) ?_
          refine own_go (B := (T2.setTop (mkF m 192 #[.val (.long p0), .second, .val (.long p1), .second, .val (.long p2), .second, iv p3, iv p4, iv z4, .val (.long co), .second, .val (.long no), .second, .val (.long si), .second, .val (.long z88), .second, .val (.long ex), .second, iv (1 : Int32)] [(.int (1 : Int32))]))) (fun t k => XS.goto X2.here hx rfl (pc0 := 188) (pc' := 192) rfl (hb hby at_188) (by decide) (by decide) k) ?_
          exact own_retZ X2 hx hlk Bd.returns (hb hby at_192) (by decide) (own_b rfl) (own_b rfl) (Q := (own_law_Q Z p0 p1 p2 p3 p4 h0 n0)) ⟨rfl, N2⟩
        · refine own_go (B := (T2.setTop (mkF m 156 #[.val (.long p0), .second, .val (.long p1), .second, .val (.long p2), .second, iv p3, iv p4, iv z4, .val (.long co), .second, .val (.long no), .second, .val (.long si), .second, .val (.long z88), .second, .val (.long ex), .second, .unset] [(.long no)]))) (fun t k => XS.lload X2.here hx rfl (hb hby at_154) rfl k) ?_
          refine own_go (B := (T2.setTop (mkF m 158 #[.val (.long p0), .second, .val (.long p1), .second, .val (.long p2), .second, iv p3, iv p4, iv z4, .val (.long co), .second, .val (.long no), .second, .val (.long si), .second, .val (.long z88), .second, .val (.long ex), .second, .unset] [(.long z88), (.long no)]))) (fun t k => XS.lload X2.here hx rfl (hb hby at_156) rfl k) ?_
          refine own_go (B := (T2.setTop (mkF m 159 #[.val (.long p0), .second, .val (.long p1), .second, .val (.long p2), .second, iv p3, iv p4, iv z4, .val (.long co), .second, .val (.long no), .second, .val (.long si), .second, .val (.long z88), .second, .val (.long ex), .second, .unset] [(.long (no + z88))]))) (fun t k => XS.ladd X2.here hx rfl (hb hby at_158) rfl k) ?_
          refine own_go (B := (T2.setTop (mkF m 160 #[.val (.long p0), .second, .val (.long p1), .second, .val (.long p2), .second, iv p3, iv p4, iv z4, .val (.long co), .second, .val (.long no), .second, .val (.long si), .second, .val (.long z88), .second, .val (.long ex), .second, .unset] [(.long p0), (.long (no + z88))]))) (fun t k => XS.lloadN X2.here hx rfl (hb hby at_159) rfl k) ?_
          refine own_go (B := (T2.setTop (mkF m 162 #[.val (.long p0), .second, .val (.long p1), .second, .val (.long p2), .second, iv p3, iv p4, iv z4, .val (.long co), .second, .val (.long no), .second, .val (.long si), .second, .val (.long z88), .second, .val (.long ex), .second, .unset] [(.long co), (.long p0), (.long (no + z88))]))) (fun t k => XS.lload X2.here hx rfl (hb hby at_160) rfl k) ?_
          refine own_go (B := (T2.setTop (mkF m 163 #[.val (.long p0), .second, .val (.long p1), .second, .val (.long p2), .second, iv p3, iv p4, iv z4, .val (.long co), .second, .val (.long no), .second, .val (.long si), .second, .val (.long z88), .second, .val (.long ex), .second, .unset] [(.long (p0 + co)), (.long (no + z88))]))) (fun t k => XS.ladd X2.here hx rfl (hb hby at_162) rfl k) ?_
          refine own_go (B := (T2.setTop (mkF m 164 #[.val (.long p0), .second, .val (.long p1), .second, .val (.long p2), .second, iv p3, iv p4, iv z4, .val (.long co), .second, .val (.long no), .second, .val (.long si), .second, .val (.long z88), .second, .val (.long ex), .second, .unset] [(.int (lcmpW (no + z88) (p0 + co)))]))) (fun t k => XS.lcmp X2.here hx rfl (hb hby at_163) rfl k) ?_
          have hc164 : (no + z88) = (p0 + co) := (own_or3 hsl (fun q => q hc142) hc151)
          refine own_lifN X2 hx (hb hby at_164) (pn := 167) rfl hc164 ?_
          refine own_go (B := (T2.setTop (mkF m 168 #[.val (.long p0), .second, .val (.long p1), .second, .val (.long p2), .second, iv p3, iv p4, iv z4, .val (.long co), .second, .val (.long no), .second, .val (.long si), .second, .val (.long z88), .second, .val (.long ex), .second, .unset] [(.int (1 : Int32))]))) (fun t k => XS.iconst X2.here hx rfl (hb hby at_167) k) ?_
          refine own_go (B := (T2.setTop (mkF m 172 #[.val (.long p0), .second, .val (.long p1), .second, .val (.long p2), .second, iv p3, iv p4, iv z4, .val (.long co), .second, .val (.long no), .second, .val (.long si), .second, .val (.long z88), .second, .val (.long ex), .second, .unset] [(.int (1 : Int32))]))) (fun t k => XS.goto X2.here hx rfl (pc0 := 168) (pc' := 172) rfl (hb hby at_168) (by decide) (by decide) k) ?_
          refine own_go (B := (T2.setTop (mkF m 174 #[.val (.long p0), .second, .val (.long p1), .second, .val (.long p2), .second, iv p3, iv p4, iv z4, .val (.long co), .second, .val (.long no), .second, .val (.long si), .second, .val (.long z88), .second, .val (.long ex), .second, iv (1 : Int32)] []))) (fun t k => XS.istore X2.here hx rfl (hb hby at_172) rfl (l' := #[.val (.long p0), .second, .val (.long p1), .second, .val (.long p2), .second, iv p3, iv p4, iv z4, .val (.long co), .second, .val (.long no), .second, .val (.long si), .second, .val (.long z88), .second, .val (.long ex), .second, iv (1 : Int32)]) rfl k) ?_
          refine own_go (B := (T2.setTop (mkF m 176 #[.val (.long p0), .second, .val (.long p1), .second, .val (.long p2), .second, iv p3, iv p4, iv z4, .val (.long co), .second, .val (.long no), .second, .val (.long si), .second, .val (.long z88), .second, .val (.long ex), .second, iv (1 : Int32)] [(.long z88)]))) (fun t k => XS.lload X2.here hx rfl (hb hby at_174) rfl k) ?_
          refine own_go (B := (T2.setTop (mkF m 178 #[.val (.long p0), .second, .val (.long p1), .second, .val (.long p2), .second, iv p3, iv p4, iv z4, .val (.long co), .second, .val (.long no), .second, .val (.long si), .second, .val (.long z88), .second, .val (.long ex), .second, iv (1 : Int32)] [(.long ex), (.long z88)]))) (fun t k => XS.lload X2.here hx rfl (hb hby at_176) rfl k) ?_
          refine own_go (B := (T2.setTop (mkF m 179 #[.val (.long p0), .second, .val (.long p1), .second, .val (.long p2), .second, iv p3, iv p4, iv z4, .val (.long co), .second, .val (.long no), .second, .val (.long si), .second, .val (.long z88), .second, .val (.long ex), .second, iv (1 : Int32)] [(.int (lcmpW z88 ex))]))) (fun t k => XS.lcmp X2.here hx rfl (hb hby at_178) rfl k) ?_
          have hc179 : z88 = ex := hre
          refine own_lifN X2 hx (hb hby at_179) (pn := 182) rfl hc179 ?_
          refine own_go (B := (T2.setTop (mkF m 184 #[.val (.long p0), .second, .val (.long p1), .second, .val (.long p2), .second, iv p3, iv p4, iv z4, .val (.long co), .second, .val (.long no), .second, .val (.long si), .second, .val (.long z88), .second, .val (.long ex), .second, iv (1 : Int32)] [(.int (1 : Int32))]))) (fun t k => XS.iload X2.here hx rfl (hb hby at_182) rfl k) ?_
          have hc184 : ¬ (1 : Int32) = (0 : Int32) := (by decide)
          refine own_ifN X2 hx (hb hby at_184) (pn := 187) rfl hc184 ?_
          refine own_go (B := (T2.setTop (mkF m 188 #[.val (.long p0), .second, .val (.long p1), .second, .val (.long p2), .second, iv p3, iv p4, iv z4, .val (.long co), .second, .val (.long no), .second, .val (.long si), .second, .val (.long z88), .second, .val (.long ex), .second, iv (1 : Int32)] [(.int (1 : Int32))]))) (fun t k => XS.iconst X2.here hx rfl (hb hby at_187) k) ?_
          refine own_go (B := (T2.setTop (mkF m 192 #[.val (.long p0), .second, .val (.long p1), .second, .val (.long p2), .second, iv p3, iv p4, iv z4, .val (.long co), .second, .val (.long no), .second, .val (.long si), .second, .val (.long z88), .second, .val (.long ex), .second, iv (1 : Int32)] [(.int (1 : Int32))]))) (fun t k => XS.goto X2.here hx rfl (pc0 := 188) (pc' := 192) rfl (hb hby at_188) (by decide) (by decide) k) ?_
          exact own_retZ X2 hx hlk Bd.returns (hb hby at_192) (by decide) (own_b rfl) (own_b rfl) (Q := (own_law_Q Z p0 p1 p2 p3 p4 h0 n0)) ⟨rfl, N2⟩
    refine own_go (B := (T2.setTop (mkF m 92 #[.val (.long p0), .second, .val (.long p1), .second, .val (.long p2), .second, iv p3, iv p4, iv z4, .val (.long co), .second, .val (.long no), .second, .val (.long si), .second, .val (.long z88), .second, .unset, .unset, .unset] [(.long si)]))) (fun t k => XS.lload X2.here hx rfl (hb hby at_90) rfl k) ?_
    refine own_go (B := (T2.setTop (mkF m 94 #[.val (.long p0), .second, .val (.long p1), .second, .val (.long p2), .second, iv p3, iv p4, iv z4, .val (.long co), .second, .val (.long no), .second, .val (.long si), .second, .val (.long z88), .second, .unset, .unset, .unset] [(.long co), (.long si)]))) (fun t k => XS.lload X2.here hx rfl (hb hby at_92) rfl k) ?_
    refine own_go (B := (T2.setTop (mkF m 95 #[.val (.long p0), .second, .val (.long p1), .second, .val (.long p2), .second, iv p3, iv p4, iv z4, .val (.long co), .second, .val (.long no), .second, .val (.long si), .second, .val (.long z88), .second, .unset, .unset, .unset] [(.int (lcmpW si co))]))) (fun t k => XS.lcmp X2.here hx rfl (hb hby at_94) rfl k) ?_
    refine own_lif X2 hx (hb hby at_95) (pc' := 104) (pn := 98) (by decide) (by decide) rfl (fun (hc95 : si < co) => ?_) (fun (hc95 : ¬ si < co) => ?_)
    · refine own_go (B := (T2.setTop (mkF m 106 #[.val (.long p0), .second, .val (.long p1), .second, .val (.long p2), .second, iv p3, iv p4, iv z4, .val (.long co), .second, .val (.long no), .second, .val (.long si), .second, .val (.long z88), .second, .unset, .unset, .unset] [(.long si)]))) (fun t k => XS.lload X2.here hx rfl (hb hby at_104) rfl k) ?_
      refine own_go (B := (T2.setTop (mkF m 107 #[.val (.long p0), .second, .val (.long p1), .second, .val (.long p2), .second, iv p3, iv p4, iv z4, .val (.long co), .second, .val (.long no), .second, .val (.long si), .second, .val (.long z88), .second, .unset, .unset, .unset] [(.long (0 : Int64)), (.long si)]))) (fun t k => XS.lconst X2.here hx rfl (hb hby at_106) k) ?_
      refine own_go (B := (T2.setTop (mkF m 108 #[.val (.long p0), .second, .val (.long p1), .second, .val (.long p2), .second, iv p3, iv p4, iv z4, .val (.long co), .second, .val (.long no), .second, .val (.long si), .second, .val (.long z88), .second, .unset, .unset, .unset] [(.int (lcmpW si (0 : Int64)))]))) (fun t k => XS.lcmp X2.here hx rfl (hb hby at_107) rfl k) ?_
      refine own_lif X2 hx (hb hby at_108) (pc' := 131) (pn := 111) (by decide) (by decide) rfl (fun (hc108 : ¬ si < (0 : Int64)) => ?_) (fun (hc108 : si < (0 : Int64)) => ?_)
      · refine own_go (B := (T2.setTop (mkF m 133 #[.val (.long p0), .second, .val (.long p1), .second, .val (.long p2), .second, iv p3, iv p4, iv z4, .val (.long co), .second, .val (.long no), .second, .val (.long si), .second, .val (.long z88), .second, .unset, .unset, .unset] [(.long co)]))) (fun t k => XS.lload X2.here hx rfl (hb hby at_131) rfl k) ?_
        refine own_go (B := (T2.setTop (mkF m 135 #[.val (.long p0), .second, .val (.long p1), .second, .val (.long p2), .second, iv p3, iv p4, iv z4, .val (.long co), .second, .val (.long no), .second, .val (.long si), .second, .val (.long z88), .second, .unset, .unset, .unset] [(.long si), (.long co)]))) (fun t k => XS.lload X2.here hx rfl (hb hby at_133) rfl k) ?_
        refine own_go (B := (T2.setTop (mkF m 136 #[.val (.long p0), .second, .val (.long p1), .second, .val (.long p2), .second, iv p3, iv p4, iv z4, .val (.long co), .second, .val (.long no), .second, .val (.long si), .second, .val (.long z88), .second, .unset, .unset, .unset] [(.long (co - si))]))) (fun t k => XS.lsub X2.here hx rfl (hb hby at_135) rfl k) ?_
        obtain ⟨z136, hz136⟩ : ∃ z : Int64, z = (co - si) := ⟨_, rfl⟩
        rw [← hz136]
        refine own_go (B := (T2.setTop (mkF m 138 #[.val (.long p0), .second, .val (.long p1), .second, .val (.long p2), .second, iv p3, iv p4, iv z4, .val (.long co), .second, .val (.long no), .second, .val (.long si), .second, .val (.long z88), .second, .val (.long z136), .second, .unset] []))) (fun t k => XS.lstore X2.here hx rfl (hb hby at_136) rfl (l' := #[.val (.long p0), .second, .val (.long p1), .second, .val (.long p2), .second, iv p3, iv p4, iv z4, .val (.long co), .second, .val (.long no), .second, .val (.long si), .second, .val (.long z88), .second, .val (.long z136), .second, .unset]) rfl k) ?_
        exact J138 _ (own_e2 hs hco hz88 hc95 hc108 hz136) (own_slot hs hz88)
      · refine own_go (B := (T2.setTop (mkF m 113 #[.val (.long p0), .second, .val (.long p1), .second, .val (.long p2), .second, iv p3, iv p4, iv z4, .val (.long co), .second, .val (.long no), .second, .val (.long si), .second, .val (.long z88), .second, .unset, .unset, .unset] [(.long co)]))) (fun t k => XS.lload X2.here hx rfl (hb hby at_111) rfl k) ?_
        have lc4 := X2.ldc2Long hx hown (v := (9223372036854775807 : Int64)) (mvT hZ w_0) (g := (mkF m 113 #[.val (.long p0), .second, .val (.long p1), .second, .val (.long p2), .second, iv p3, iv p4, iv z4, .val (.long co), .second, .val (.long no), .second, .val (.long si), .second, .val (.long z88), .second, .unset, .unset, .unset] [(.long co)])) rfl (hb hby at_113)
        refine own_go (B := (T2.setTop (mkF m 116 #[.val (.long p0), .second, .val (.long p1), .second, .val (.long p2), .second, iv p3, iv p4, iv z4, .val (.long co), .second, .val (.long no), .second, .val (.long si), .second, .val (.long z88), .second, .unset, .unset, .unset] [(.long (9223372036854775807 : Int64)), (.long co)]))) lc4 ?_
        refine own_go (B := (T2.setTop (mkF m 118 #[.val (.long p0), .second, .val (.long p1), .second, .val (.long p2), .second, iv p3, iv p4, iv z4, .val (.long co), .second, .val (.long no), .second, .val (.long si), .second, .val (.long z88), .second, .unset, .unset, .unset] [(.long si), (.long (9223372036854775807 : Int64)), (.long co)]))) (fun t k => XS.lload X2.here hx rfl (hb hby at_116) rfl k) ?_
        refine own_go (B := (T2.setTop (mkF m 119 #[.val (.long p0), .second, .val (.long p1), .second, .val (.long p2), .second, iv p3, iv p4, iv z4, .val (.long co), .second, .val (.long no), .second, .val (.long si), .second, .val (.long z88), .second, .unset, .unset, .unset] [(.long ((9223372036854775807 : Int64) + si)), (.long co)]))) (fun t k => XS.ladd X2.here hx rfl (hb hby at_118) rfl k) ?_
        refine own_go (B := (T2.setTop (mkF m 120 #[.val (.long p0), .second, .val (.long p1), .second, .val (.long p2), .second, iv p3, iv p4, iv z4, .val (.long co), .second, .val (.long no), .second, .val (.long si), .second, .val (.long z88), .second, .unset, .unset, .unset] [(.int (lcmpW co ((9223372036854775807 : Int64) + si)))]))) (fun t k => XS.lcmp X2.here hx rfl (hb hby at_119) rfl k) ?_
        refine own_lif X2 hx (hb hby at_120) (pc' := 131) (pn := 123) (by decide) (by decide) rfl (fun (hc120 : ¬ ((9223372036854775807 : Int64) + si) < co) => ?_) (fun (hc120 : ((9223372036854775807 : Int64) + si) < co) => ?_)
        · refine own_go (B := (T2.setTop (mkF m 133 #[.val (.long p0), .second, .val (.long p1), .second, .val (.long p2), .second, iv p3, iv p4, iv z4, .val (.long co), .second, .val (.long no), .second, .val (.long si), .second, .val (.long z88), .second, .unset, .unset, .unset] [(.long co)]))) (fun t k => XS.lload X2.here hx rfl (hb hby at_131) rfl k) ?_
          refine own_go (B := (T2.setTop (mkF m 135 #[.val (.long p0), .second, .val (.long p1), .second, .val (.long p2), .second, iv p3, iv p4, iv z4, .val (.long co), .second, .val (.long no), .second, .val (.long si), .second, .val (.long z88), .second, .unset, .unset, .unset] [(.long si), (.long co)]))) (fun t k => XS.lload X2.here hx rfl (hb hby at_133) rfl k) ?_
          refine own_go (B := (T2.setTop (mkF m 136 #[.val (.long p0), .second, .val (.long p1), .second, .val (.long p2), .second, iv p3, iv p4, iv z4, .val (.long co), .second, .val (.long no), .second, .val (.long si), .second, .val (.long z88), .second, .unset, .unset, .unset] [(.long (co - si))]))) (fun t k => XS.lsub X2.here hx rfl (hb hby at_135) rfl k) ?_
          obtain ⟨z136, hz136⟩ : ∃ z : Int64, z = (co - si) := ⟨_, rfl⟩
          rw [← hz136]
          refine own_go (B := (T2.setTop (mkF m 138 #[.val (.long p0), .second, .val (.long p1), .second, .val (.long p2), .second, iv p3, iv p4, iv z4, .val (.long co), .second, .val (.long no), .second, .val (.long si), .second, .val (.long z88), .second, .val (.long z136), .second, .unset] []))) (fun t k => XS.lstore X2.here hx rfl (hb hby at_136) rfl (l' := #[.val (.long p0), .second, .val (.long p1), .second, .val (.long p2), .second, iv p3, iv p4, iv z4, .val (.long co), .second, .val (.long no), .second, .val (.long si), .second, .val (.long z88), .second, .val (.long z136), .second, .unset]) rfl k) ?_
          exact J138 _ (own_e3 hs hco hz88 hc95 hc120 hz136) (own_slot hs hz88)
        · have lc5 := X2.ldc2Long hx hown (v := (9223372036854775807 : Int64)) (mvT hZ w_0) (g := (mkF m 123 #[.val (.long p0), .second, .val (.long p1), .second, .val (.long p2), .second, iv p3, iv p4, iv z4, .val (.long co), .second, .val (.long no), .second, .val (.long si), .second, .val (.long z88), .second, .unset, .unset, .unset] [])) rfl (hb hby at_123)
          refine own_go (B := (T2.setTop (mkF m 126 #[.val (.long p0), .second, .val (.long p1), .second, .val (.long p2), .second, iv p3, iv p4, iv z4, .val (.long co), .second, .val (.long no), .second, .val (.long si), .second, .val (.long z88), .second, .unset, .unset, .unset] [(.long (9223372036854775807 : Int64))]))) lc5 ?_
          refine own_go (B := (T2.setTop (mkF m 128 #[.val (.long p0), .second, .val (.long p1), .second, .val (.long p2), .second, iv p3, iv p4, iv z4, .val (.long co), .second, .val (.long no), .second, .val (.long si), .second, .val (.long z88), .second, .val (.long (9223372036854775807 : Int64)), .second, .unset] []))) (fun t k => XS.lstore X2.here hx rfl (hb hby at_126) rfl (l' := #[.val (.long p0), .second, .val (.long p1), .second, .val (.long p2), .second, iv p3, iv p4, iv z4, .val (.long co), .second, .val (.long no), .second, .val (.long si), .second, .val (.long z88), .second, .val (.long (9223372036854775807 : Int64)), .second, .unset]) rfl k) ?_
          refine own_go (B := (T2.setTop (mkF m 138 #[.val (.long p0), .second, .val (.long p1), .second, .val (.long p2), .second, iv p3, iv p4, iv z4, .val (.long co), .second, .val (.long no), .second, .val (.long si), .second, .val (.long z88), .second, .val (.long (9223372036854775807 : Int64)), .second, .unset] []))) (fun t k => XS.goto X2.here hx rfl (pc0 := 128) (pc' := 138) rfl (hb hby at_128) (by decide) (by decide) k) ?_
          exact J138 _ (own_e4 hs hco hz88 hc95 hc108 hc120) (own_slot hs hz88)
    · refine own_go (B := (T2.setTop (mkF m 99 #[.val (.long p0), .second, .val (.long p1), .second, .val (.long p2), .second, iv p3, iv p4, iv z4, .val (.long co), .second, .val (.long no), .second, .val (.long si), .second, .val (.long z88), .second, .unset, .unset, .unset] [(.long (0 : Int64))]))) (fun t k => XS.lconst X2.here hx rfl (hb hby at_98) k) ?_
      refine own_go (B := (T2.setTop (mkF m 101 #[.val (.long p0), .second, .val (.long p1), .second, .val (.long p2), .second, iv p3, iv p4, iv z4, .val (.long co), .second, .val (.long no), .second, .val (.long si), .second, .val (.long z88), .second, .val (.long (0 : Int64)), .second, .unset] []))) (fun t k => XS.lstore X2.here hx rfl (hb hby at_99) rfl (l' := #[.val (.long p0), .second, .val (.long p1), .second, .val (.long p2), .second, iv p3, iv p4, iv z4, .val (.long co), .second, .val (.long no), .second, .val (.long si), .second, .val (.long z88), .second, .val (.long (0 : Int64)), .second, .unset]) rfl k) ?_
      refine own_go (B := (T2.setTop (mkF m 138 #[.val (.long p0), .second, .val (.long p1), .second, .val (.long p2), .second, iv p3, iv p4, iv z4, .val (.long co), .second, .val (.long no), .second, .val (.long si), .second, .val (.long z88), .second, .val (.long (0 : Int64)), .second, .unset] []))) (fun t k => XS.goto X2.here hx rfl (pc0 := 101) (pc' := 138) rfl (hb hby at_101) (by decide) (by decide) k) ?_
      exact J138 _ (own_e1 hs hz88 hc95) (own_slot hs hz88)
  refine own_go (B := (s₁.setTop (mkF m 19 #[.val (.long p0), .second, .val (.long p1), .second, .val (.long p2), .second, iv p3, iv p4, iv z4, .val (.long z11), .second, .val (.long p2), .second, .unset, .unset, .unset, .unset, .unset, .unset, .unset] [(.int z4)]))) (fun t k => XS.iload X0.here hx rfl (hb hby at_17) rfl k) ?_
  refine own_go (B := (s₁.setTop (mkF m 20 #[.val (.long p0), .second, .val (.long p1), .second, .val (.long p2), .second, iv p3, iv p4, iv z4, .val (.long z11), .second, .val (.long p2), .second, .unset, .unset, .unset, .unset, .unset, .unset, .unset] [(.int (1 : Int32)), (.int z4)]))) (fun t k => XS.iconst X0.here hx rfl (hb hby at_19) k) ?_
  refine own_icmp X0 hx (hb hby at_20) (pc' := 33) (pn := 23) (by decide) (by decide) rfl (fun (hc20 : ¬ z4 = (1 : Int32)) => ?_) (fun (hc20 : z4 = (1 : Int32)) => ?_)
  · refine own_go (B := (s₁.setTop (mkF m 35 #[.val (.long p0), .second, .val (.long p1), .second, .val (.long p2), .second, iv p3, iv p4, iv z4, .val (.long z11), .second, .val (.long p2), .second, .unset, .unset, .unset, .unset, .unset, .unset, .unset] [(.long p2)]))) (fun t k => XS.lload X0.here hx rfl (hb hby at_33) rfl k) ?_
    refine own_go (B := (s₁.setTop (mkF m 36 #[.val (.long p0), .second, .val (.long p1), .second, .val (.long p2), .second, iv p3, iv p4, iv z4, .val (.long z11), .second, .val (.long p2), .second, .unset, .unset, .unset, .unset, .unset, .unset, .unset] [(.long p0), (.long p2)]))) (fun t k => XS.lloadN X0.here hx rfl (hb hby at_35) rfl k) ?_
    refine own_go (B := (s₁.setTop (mkF m 37 #[.val (.long p0), .second, .val (.long p1), .second, .val (.long p2), .second, iv p3, iv p4, iv z4, .val (.long z11), .second, .val (.long p2), .second, .unset, .unset, .unset, .unset, .unset, .unset, .unset] [(.long (p2 - p0))]))) (fun t k => XS.lsub X0.here hx rfl (hb hby at_36) rfl k) ?_
    obtain ⟨z37, hz37⟩ : ∃ z : Int64, z = (p2 - p0) := ⟨_, rfl⟩
    rw [← hz37]
    refine own_go (B := (s₁.setTop (mkF m 39 #[.val (.long p0), .second, .val (.long p1), .second, .val (.long p2), .second, iv p3, iv p4, iv z4, .val (.long z11), .second, .val (.long p2), .second, .val (.long z37), .second, .unset, .unset, .unset, .unset, .unset] []))) (fun t k => XS.lstore X0.here hx rfl (hb hby at_37) rfl (l' := #[.val (.long p0), .second, .val (.long p1), .second, .val (.long p2), .second, iv p3, iv p4, iv z4, .val (.long z11), .second, .val (.long p2), .second, .val (.long z37), .second, .unset, .unset, .unset, .unset, .unset]) rfl k) ?_
    refine own_go (B := (s₁.setTop (mkF m 41 #[.val (.long p0), .second, .val (.long p1), .second, .val (.long p2), .second, iv p3, iv p4, iv z4, .val (.long z11), .second, .val (.long p2), .second, .val (.long z37), .second, .unset, .unset, .unset, .unset, .unset] [(.int z4)]))) (fun t k => XS.iload X0.here hx rfl (hb hby at_39) rfl k) ?_
    refine own_go (B := (s₁.setTop (mkF m 42 #[.val (.long p0), .second, .val (.long p1), .second, .val (.long p2), .second, iv p3, iv p4, iv z4, .val (.long z11), .second, .val (.long p2), .second, .val (.long z37), .second, .unset, .unset, .unset, .unset, .unset] [(.int (2 : Int32)), (.int z4)]))) (fun t k => XS.iconst X0.here hx rfl (hb hby at_41) k) ?_
    refine own_icmp X0 hx (hb hby at_42) (pc' := 61) (pn := 45) (by decide) (by decide) rfl (fun (hc42 : ¬ z4 = (2 : Int32)) => ?_) (fun (hc42 : z4 = (2 : Int32)) => ?_)
    · refine own_go (B := (s₁.setTop (mkF m 63 #[.val (.long p0), .second, .val (.long p1), .second, .val (.long p2), .second, iv p3, iv p4, iv z4, .val (.long z11), .second, .val (.long p2), .second, .val (.long z37), .second, .unset, .unset, .unset, .unset, .unset] [(.int z4)]))) (fun t k => XS.iload X0.here hx rfl (hb hby at_61) rfl k) ?_
      refine own_go (B := (s₁.setTop (mkF m 64 #[.val (.long p0), .second, .val (.long p1), .second, .val (.long p2), .second, iv p3, iv p4, iv z4, .val (.long z11), .second, .val (.long p2), .second, .val (.long z37), .second, .unset, .unset, .unset, .unset, .unset] [(.int (3 : Int32)), (.int z4)]))) (fun t k => XS.iconst X0.here hx rfl (hb hby at_63) k) ?_
      refine own_icmp X0 hx (hb hby at_64) (pc' := 80) (pn := 67) (by decide) (by decide) rfl (fun (hc64 : ¬ z4 = (3 : Int32)) => ?_) (fun (hc64 : z4 = (3 : Int32)) => ?_)
      · exact J80 _ _ _ hz37 (own_mask hz11)
      · have lc6 := X0.ldc2Long hx hown (v := (9223372036854775807 : Int64)) (mvT hZ w_0) (g := (mkF m 67 #[.val (.long p0), .second, .val (.long p1), .second, .val (.long p2), .second, iv p3, iv p4, iv z4, .val (.long z11), .second, .val (.long p2), .second, .val (.long z37), .second, .unset, .unset, .unset, .unset, .unset] [])) rfl (hb hby at_67)
        refine own_go (B := (s₁.setTop (mkF m 70 #[.val (.long p0), .second, .val (.long p1), .second, .val (.long p2), .second, iv p3, iv p4, iv z4, .val (.long z11), .second, .val (.long p2), .second, .val (.long z37), .second, .unset, .unset, .unset, .unset, .unset] [(.long (9223372036854775807 : Int64))]))) lc6 ?_
        refine own_go (B := (s₁.setTop (mkF m 72 #[.val (.long p0), .second, .val (.long p1), .second, .val (.long p2), .second, iv p3, iv p4, iv z4, .val (.long z11), .second, .val (.long p2), .second, .val (.long z37), .second, .unset, .unset, .unset, .unset, .unset] [(.int p4), (.long (9223372036854775807 : Int64))]))) (fun t k => XS.iload X0.here hx rfl (hb hby at_70) rfl k) ?_
        refine own_go (B := (s₁.setTop (mkF m 75 #[.val (.long p0), .second, .val (.long p1), .second, .val (.long p2), .second, iv p3, iv p4, iv z4, .val (.long z11), .second, .val (.long p2), .second, .val (.long z37), .second, .unset, .unset, .unset, .unset, .unset] [(.int (255 : Int32)), (.int p4), (.long (9223372036854775807 : Int64))]))) (fun t k => XS.sipush X0.here hx rfl (hb hby at_72) k) ?_
        refine own_go (B := (s₁.setTop (mkF m 76 #[.val (.long p0), .second, .val (.long p1), .second, .val (.long p2), .second, iv p3, iv p4, iv z4, .val (.long z11), .second, .val (.long p2), .second, .val (.long z37), .second, .unset, .unset, .unset, .unset, .unset] [(.int (p4 &&& (255 : Int32))), (.long (9223372036854775807 : Int64))]))) (fun t k => XS.iand X0.here hx rfl (hb hby at_75) rfl k) ?_
        refine own_go (B := (s₁.setTop (mkF m 77 #[.val (.long p0), .second, .val (.long p1), .second, .val (.long p2), .second, iv p3, iv p4, iv z4, .val (.long z11), .second, .val (.long p2), .second, .val (.long z37), .second, .unset, .unset, .unset, .unset, .unset] [(.long ((p4 &&& (255 : Int32)).toInt64)), (.long (9223372036854775807 : Int64))]))) (fun t k => XS.i2l X0.here hx rfl (hb hby at_76) rfl k) ?_
        refine own_go (B := (s₁.setTop (mkF m 78 #[.val (.long p0), .second, .val (.long p1), .second, .val (.long p2), .second, iv p3, iv p4, iv z4, .val (.long z11), .second, .val (.long p2), .second, .val (.long z37), .second, .unset, .unset, .unset, .unset, .unset] [(.long ((9223372036854775807 : Int64) - ((p4 &&& (255 : Int32)).toInt64)))]))) (fun t k => XS.lsub X0.here hx rfl (hb hby at_77) rfl k) ?_
        obtain ⟨z78, hz78⟩ : ∃ z : Int64, z = ((9223372036854775807 : Int64) - ((p4 &&& (255 : Int32)).toInt64)) := ⟨_, rfl⟩
        rw [← hz78]
        refine own_go (B := (s₁.setTop (mkF m 80 #[.val (.long p0), .second, .val (.long p1), .second, .val (.long p2), .second, iv p3, iv p4, iv z4, .val (.long z78), .second, .val (.long p2), .second, .val (.long z37), .second, .unset, .unset, .unset, .unset, .unset] []))) (fun t k => XS.lstore X0.here hx rfl (hb hby at_78) rfl (l' := #[.val (.long p0), .second, .val (.long p1), .second, .val (.long p2), .second, iv p3, iv p4, iv z4, .val (.long z78), .second, .val (.long p2), .second, .val (.long z37), .second, .unset, .unset, .unset, .unset, .unset]) rfl k) ?_
        exact J80 _ _ _ hz37 (own_c3 hz78)
    · have lc7 := X0.ldc2Long hx hown (v := (9223372036854775807 : Int64)) (mvT hZ w_0) (g := (mkF m 45 #[.val (.long p0), .second, .val (.long p1), .second, .val (.long p2), .second, iv p3, iv p4, iv z4, .val (.long z11), .second, .val (.long p2), .second, .val (.long z37), .second, .unset, .unset, .unset, .unset, .unset] [])) rfl (hb hby at_45)
      refine own_go (B := (s₁.setTop (mkF m 48 #[.val (.long p0), .second, .val (.long p1), .second, .val (.long p2), .second, iv p3, iv p4, iv z4, .val (.long z11), .second, .val (.long p2), .second, .val (.long z37), .second, .unset, .unset, .unset, .unset, .unset] [(.long (9223372036854775807 : Int64))]))) lc7 ?_
      refine own_go (B := (s₁.setTop (mkF m 50 #[.val (.long p0), .second, .val (.long p1), .second, .val (.long p2), .second, iv p3, iv p4, iv z4, .val (.long z11), .second, .val (.long p2), .second, .val (.long z37), .second, .unset, .unset, .unset, .unset, .unset] [(.long z37), (.long (9223372036854775807 : Int64))]))) (fun t k => XS.lload X0.here hx rfl (hb hby at_48) rfl k) ?_
      refine own_go (B := (s₁.setTop (mkF m 51 #[.val (.long p0), .second, .val (.long p1), .second, .val (.long p2), .second, iv p3, iv p4, iv z4, .val (.long z11), .second, .val (.long p2), .second, .val (.long z37), .second, .unset, .unset, .unset, .unset, .unset] [(.long ((9223372036854775807 : Int64) + z37))]))) (fun t k => XS.ladd X0.here hx rfl (hb hby at_50) rfl k) ?_
      refine own_go (B := (s₁.setTop (mkF m 53 #[.val (.long p0), .second, .val (.long p1), .second, .val (.long p2), .second, iv p3, iv p4, iv z4, .val (.long z11), .second, .val (.long p2), .second, .val (.long z37), .second, .unset, .unset, .unset, .unset, .unset] [(.int p4), (.long ((9223372036854775807 : Int64) + z37))]))) (fun t k => XS.iload X0.here hx rfl (hb hby at_51) rfl k) ?_
      refine own_go (B := (s₁.setTop (mkF m 54 #[.val (.long p0), .second, .val (.long p1), .second, .val (.long p2), .second, iv p3, iv p4, iv z4, .val (.long z11), .second, .val (.long p2), .second, .val (.long z37), .second, .unset, .unset, .unset, .unset, .unset] [(.long (p4.toInt64)), (.long ((9223372036854775807 : Int64) + z37))]))) (fun t k => XS.i2l X0.here hx rfl (hb hby at_53) rfl k) ?_
      refine own_go (B := (s₁.setTop (mkF m 55 #[.val (.long p0), .second, .val (.long p1), .second, .val (.long p2), .second, iv p3, iv p4, iv z4, .val (.long z11), .second, .val (.long p2), .second, .val (.long z37), .second, .unset, .unset, .unset, .unset, .unset] [(.long (((9223372036854775807 : Int64) + z37) + (p4.toInt64)))]))) (fun t k => XS.ladd X0.here hx rfl (hb hby at_54) rfl k) ?_
      have lc8 := X0.ldc2Long hx hown (v := (9223372036854775807 : Int64)) (mvT hZ w_0) (g := (mkF m 55 #[.val (.long p0), .second, .val (.long p1), .second, .val (.long p2), .second, iv p3, iv p4, iv z4, .val (.long z11), .second, .val (.long p2), .second, .val (.long z37), .second, .unset, .unset, .unset, .unset, .unset] [(.long (((9223372036854775807 : Int64) + z37) + (p4.toInt64)))])) rfl (hb hby at_55)
      refine own_go (B := (s₁.setTop (mkF m 58 #[.val (.long p0), .second, .val (.long p1), .second, .val (.long p2), .second, iv p3, iv p4, iv z4, .val (.long z11), .second, .val (.long p2), .second, .val (.long z37), .second, .unset, .unset, .unset, .unset, .unset] [(.long (9223372036854775807 : Int64)), (.long (((9223372036854775807 : Int64) + z37) + (p4.toInt64)))]))) lc8 ?_
      refine own_go (B := (s₁.setTop (mkF m 59 #[.val (.long p0), .second, .val (.long p1), .second, .val (.long p2), .second, iv p3, iv p4, iv z4, .val (.long z11), .second, .val (.long p2), .second, .val (.long z37), .second, .unset, .unset, .unset, .unset, .unset] [(.long ((((9223372036854775807 : Int64) + z37) + (p4.toInt64)) &&& (9223372036854775807 : Int64)))]))) (fun t k => XS.land X0.here hx rfl (hb hby at_58) rfl k) ?_
      obtain ⟨z59, hz59⟩ : ∃ z : Int64, z = ((((9223372036854775807 : Int64) + z37) + (p4.toInt64)) &&& (9223372036854775807 : Int64)) := ⟨_, rfl⟩
      rw [← hz59]
      refine own_go (B := (s₁.setTop (mkF m 61 #[.val (.long p0), .second, .val (.long p1), .second, .val (.long p2), .second, iv p3, iv p4, iv z4, .val (.long z59), .second, .val (.long p2), .second, .val (.long z37), .second, .unset, .unset, .unset, .unset, .unset] []))) (fun t k => XS.lstore X0.here hx rfl (hb hby at_59) rfl (l' := #[.val (.long p0), .second, .val (.long p1), .second, .val (.long p2), .second, iv p3, iv p4, iv z4, .val (.long z59), .second, .val (.long p2), .second, .val (.long z37), .second, .unset, .unset, .unset, .unset, .unset]) rfl k) ?_
      refine own_go (B := (s₁.setTop (mkF m 63 #[.val (.long p0), .second, .val (.long p1), .second, .val (.long p2), .second, iv p3, iv p4, iv z4, .val (.long z59), .second, .val (.long p2), .second, .val (.long z37), .second, .unset, .unset, .unset, .unset, .unset] [(.int z4)]))) (fun t k => XS.iload X0.here hx rfl (hb hby at_61) rfl k) ?_
      refine own_go (B := (s₁.setTop (mkF m 64 #[.val (.long p0), .second, .val (.long p1), .second, .val (.long p2), .second, iv p3, iv p4, iv z4, .val (.long z59), .second, .val (.long p2), .second, .val (.long z37), .second, .unset, .unset, .unset, .unset, .unset] [(.int (3 : Int32)), (.int z4)]))) (fun t k => XS.iconst X0.here hx rfl (hb hby at_63) k) ?_
      refine own_icmp X0 hx (hb hby at_64) (pc' := 80) (pn := 67) (by decide) (by decide) rfl (fun (hc64 : ¬ z4 = (3 : Int32)) => ?_) (fun (hc64 : z4 = (3 : Int32)) => ?_)
      · exact J80 _ _ _ hz37 (own_mask hz59)
      · have lc9 := X0.ldc2Long hx hown (v := (9223372036854775807 : Int64)) (mvT hZ w_0) (g := (mkF m 67 #[.val (.long p0), .second, .val (.long p1), .second, .val (.long p2), .second, iv p3, iv p4, iv z4, .val (.long z59), .second, .val (.long p2), .second, .val (.long z37), .second, .unset, .unset, .unset, .unset, .unset] [])) rfl (hb hby at_67)
        refine own_go (B := (s₁.setTop (mkF m 70 #[.val (.long p0), .second, .val (.long p1), .second, .val (.long p2), .second, iv p3, iv p4, iv z4, .val (.long z59), .second, .val (.long p2), .second, .val (.long z37), .second, .unset, .unset, .unset, .unset, .unset] [(.long (9223372036854775807 : Int64))]))) lc9 ?_
        refine own_go (B := (s₁.setTop (mkF m 72 #[.val (.long p0), .second, .val (.long p1), .second, .val (.long p2), .second, iv p3, iv p4, iv z4, .val (.long z59), .second, .val (.long p2), .second, .val (.long z37), .second, .unset, .unset, .unset, .unset, .unset] [(.int p4), (.long (9223372036854775807 : Int64))]))) (fun t k => XS.iload X0.here hx rfl (hb hby at_70) rfl k) ?_
        refine own_go (B := (s₁.setTop (mkF m 75 #[.val (.long p0), .second, .val (.long p1), .second, .val (.long p2), .second, iv p3, iv p4, iv z4, .val (.long z59), .second, .val (.long p2), .second, .val (.long z37), .second, .unset, .unset, .unset, .unset, .unset] [(.int (255 : Int32)), (.int p4), (.long (9223372036854775807 : Int64))]))) (fun t k => XS.sipush X0.here hx rfl (hb hby at_72) k) ?_
        refine own_go (B := (s₁.setTop (mkF m 76 #[.val (.long p0), .second, .val (.long p1), .second, .val (.long p2), .second, iv p3, iv p4, iv z4, .val (.long z59), .second, .val (.long p2), .second, .val (.long z37), .second, .unset, .unset, .unset, .unset, .unset] [(.int (p4 &&& (255 : Int32))), (.long (9223372036854775807 : Int64))]))) (fun t k => XS.iand X0.here hx rfl (hb hby at_75) rfl k) ?_
        refine own_go (B := (s₁.setTop (mkF m 77 #[.val (.long p0), .second, .val (.long p1), .second, .val (.long p2), .second, iv p3, iv p4, iv z4, .val (.long z59), .second, .val (.long p2), .second, .val (.long z37), .second, .unset, .unset, .unset, .unset, .unset] [(.long ((p4 &&& (255 : Int32)).toInt64)), (.long (9223372036854775807 : Int64))]))) (fun t k => XS.i2l X0.here hx rfl (hb hby at_76) rfl k) ?_
        refine own_go (B := (s₁.setTop (mkF m 78 #[.val (.long p0), .second, .val (.long p1), .second, .val (.long p2), .second, iv p3, iv p4, iv z4, .val (.long z59), .second, .val (.long p2), .second, .val (.long z37), .second, .unset, .unset, .unset, .unset, .unset] [(.long ((9223372036854775807 : Int64) - ((p4 &&& (255 : Int32)).toInt64)))]))) (fun t k => XS.lsub X0.here hx rfl (hb hby at_77) rfl k) ?_
        obtain ⟨z78, hz78⟩ : ∃ z : Int64, z = ((9223372036854775807 : Int64) - ((p4 &&& (255 : Int32)).toInt64)) := ⟨_, rfl⟩
        rw [← hz78]
        refine own_go (B := (s₁.setTop (mkF m 80 #[.val (.long p0), .second, .val (.long p1), .second, .val (.long p2), .second, iv p3, iv p4, iv z4, .val (.long z78), .second, .val (.long p2), .second, .val (.long z37), .second, .unset, .unset, .unset, .unset, .unset] []))) (fun t k => XS.lstore X0.here hx rfl (hb hby at_78) rfl (l' := #[.val (.long p0), .second, .val (.long p1), .second, .val (.long p2), .second, iv p3, iv p4, iv z4, .val (.long z78), .second, .val (.long p2), .second, .val (.long z37), .second, .unset, .unset, .unset, .unset, .unset]) rfl k) ?_
        exact J80 _ _ _ hz37 (own_c3 hz78)
  · refine own_go (B := (s₁.setTop (mkF m 24 #[.val (.long p0), .second, .val (.long p1), .second, .val (.long p2), .second, iv p3, iv p4, iv z4, .val (.long z11), .second, .val (.long p2), .second, .unset, .unset, .unset, .unset, .unset, .unset, .unset] [(.long p0)]))) (fun t k => XS.lloadN X0.here hx rfl (hb hby at_23) rfl k) ?_
    refine own_go (B := (s₁.setTop (mkF m 26 #[.val (.long p0), .second, .val (.long p1), .second, .val (.long p2), .second, iv p3, iv p4, iv z4, .val (.long z11), .second, .val (.long p2), .second, .unset, .unset, .unset, .unset, .unset, .unset, .unset] [(.long z11), (.long p0)]))) (fun t k => XS.lload X0.here hx rfl (hb hby at_24) rfl k) ?_
    refine own_go (B := (s₁.setTop (mkF m 27 #[.val (.long p0), .second, .val (.long p1), .second, .val (.long p2), .second, iv p3, iv p4, iv z4, .val (.long z11), .second, .val (.long p2), .second, .unset, .unset, .unset, .unset, .unset, .unset, .unset] [(.long (p0 + z11))]))) (fun t k => XS.ladd X0.here hx rfl (hb hby at_26) rfl k) ?_
    refine own_go (B := (s₁.setTop (mkF m 29 #[.val (.long p0), .second, .val (.long p1), .second, .val (.long p2), .second, iv p3, iv p4, iv z4, .val (.long z11), .second, .val (.long p2), .second, .unset, .unset, .unset, .unset, .unset, .unset, .unset] [(.int p4), (.long (p0 + z11))]))) (fun t k => XS.iload X0.here hx rfl (hb hby at_27) rfl k) ?_
    refine own_go (B := (s₁.setTop (mkF m 30 #[.val (.long p0), .second, .val (.long p1), .second, .val (.long p2), .second, iv p3, iv p4, iv z4, .val (.long z11), .second, .val (.long p2), .second, .unset, .unset, .unset, .unset, .unset, .unset, .unset] [(.long (p4.toInt64)), (.long (p0 + z11))]))) (fun t k => XS.i2l X0.here hx rfl (hb hby at_29) rfl k) ?_
    refine own_go (B := (s₁.setTop (mkF m 31 #[.val (.long p0), .second, .val (.long p1), .second, .val (.long p2), .second, iv p3, iv p4, iv z4, .val (.long z11), .second, .val (.long p2), .second, .unset, .unset, .unset, .unset, .unset, .unset, .unset] [(.long ((p0 + z11) + (p4.toInt64)))]))) (fun t k => XS.ladd X0.here hx rfl (hb hby at_30) rfl k) ?_
    obtain ⟨z31, hz31⟩ : ∃ z : Int64, z = ((p0 + z11) + (p4.toInt64)) := ⟨_, rfl⟩
    rw [← hz31]
    refine own_go (B := (s₁.setTop (mkF m 33 #[.val (.long p0), .second, .val (.long p1), .second, .val (.long p2), .second, iv p3, iv p4, iv z4, .val (.long z11), .second, .val (.long z31), .second, .unset, .unset, .unset, .unset, .unset, .unset, .unset] []))) (fun t k => XS.lstore X0.here hx rfl (hb hby at_31) rfl (l' := #[.val (.long p0), .second, .val (.long p1), .second, .val (.long p2), .second, iv p3, iv p4, iv z4, .val (.long z11), .second, .val (.long z31), .second, .unset, .unset, .unset, .unset, .unset, .unset, .unset]) rfl k) ?_
    refine own_go (B := (s₁.setTop (mkF m 35 #[.val (.long p0), .second, .val (.long p1), .second, .val (.long p2), .second, iv p3, iv p4, iv z4, .val (.long z11), .second, .val (.long z31), .second, .unset, .unset, .unset, .unset, .unset, .unset, .unset] [(.long z31)]))) (fun t k => XS.lload X0.here hx rfl (hb hby at_33) rfl k) ?_
    refine own_go (B := (s₁.setTop (mkF m 36 #[.val (.long p0), .second, .val (.long p1), .second, .val (.long p2), .second, iv p3, iv p4, iv z4, .val (.long z11), .second, .val (.long z31), .second, .unset, .unset, .unset, .unset, .unset, .unset, .unset] [(.long p0), (.long z31)]))) (fun t k => XS.lloadN X0.here hx rfl (hb hby at_35) rfl k) ?_
    refine own_go (B := (s₁.setTop (mkF m 37 #[.val (.long p0), .second, .val (.long p1), .second, .val (.long p2), .second, iv p3, iv p4, iv z4, .val (.long z11), .second, .val (.long z31), .second, .unset, .unset, .unset, .unset, .unset, .unset, .unset] [(.long (z31 - p0))]))) (fun t k => XS.lsub X0.here hx rfl (hb hby at_36) rfl k) ?_
    obtain ⟨z37, hz37⟩ : ∃ z : Int64, z = (z31 - p0) := ⟨_, rfl⟩
    rw [← hz37]
    refine own_go (B := (s₁.setTop (mkF m 39 #[.val (.long p0), .second, .val (.long p1), .second, .val (.long p2), .second, iv p3, iv p4, iv z4, .val (.long z11), .second, .val (.long z31), .second, .val (.long z37), .second, .unset, .unset, .unset, .unset, .unset] []))) (fun t k => XS.lstore X0.here hx rfl (hb hby at_37) rfl (l' := #[.val (.long p0), .second, .val (.long p1), .second, .val (.long p2), .second, iv p3, iv p4, iv z4, .val (.long z11), .second, .val (.long z31), .second, .val (.long z37), .second, .unset, .unset, .unset, .unset, .unset]) rfl k) ?_
    refine own_go (B := (s₁.setTop (mkF m 41 #[.val (.long p0), .second, .val (.long p1), .second, .val (.long p2), .second, iv p3, iv p4, iv z4, .val (.long z11), .second, .val (.long z31), .second, .val (.long z37), .second, .unset, .unset, .unset, .unset, .unset] [(.int z4)]))) (fun t k => XS.iload X0.here hx rfl (hb hby at_39) rfl k) ?_
    refine own_go (B := (s₁.setTop (mkF m 42 #[.val (.long p0), .second, .val (.long p1), .second, .val (.long p2), .second, iv p3, iv p4, iv z4, .val (.long z11), .second, .val (.long z31), .second, .val (.long z37), .second, .unset, .unset, .unset, .unset, .unset] [(.int (2 : Int32)), (.int z4)]))) (fun t k => XS.iconst X0.here hx rfl (hb hby at_41) k) ?_
    refine own_icmp X0 hx (hb hby at_42) (pc' := 61) (pn := 45) (by decide) (by decide) rfl (fun (hc42 : ¬ z4 = (2 : Int32)) => ?_) (fun (hc42 : z4 = (2 : Int32)) => ?_)
    · refine own_go (B := (s₁.setTop (mkF m 63 #[.val (.long p0), .second, .val (.long p1), .second, .val (.long p2), .second, iv p3, iv p4, iv z4, .val (.long z11), .second, .val (.long z31), .second, .val (.long z37), .second, .unset, .unset, .unset, .unset, .unset] [(.int z4)]))) (fun t k => XS.iload X0.here hx rfl (hb hby at_61) rfl k) ?_
      refine own_go (B := (s₁.setTop (mkF m 64 #[.val (.long p0), .second, .val (.long p1), .second, .val (.long p2), .second, iv p3, iv p4, iv z4, .val (.long z11), .second, .val (.long z31), .second, .val (.long z37), .second, .unset, .unset, .unset, .unset, .unset] [(.int (3 : Int32)), (.int z4)]))) (fun t k => XS.iconst X0.here hx rfl (hb hby at_63) k) ?_
      refine own_icmp X0 hx (hb hby at_64) (pc' := 80) (pn := 67) (by decide) (by decide) rfl (fun (hc64 : ¬ z4 = (3 : Int32)) => ?_) (fun (hc64 : z4 = (3 : Int32)) => ?_)
      · exact J80 _ _ _ hz37 (own_mask hz11)
      · have lc10 := X0.ldc2Long hx hown (v := (9223372036854775807 : Int64)) (mvT hZ w_0) (g := (mkF m 67 #[.val (.long p0), .second, .val (.long p1), .second, .val (.long p2), .second, iv p3, iv p4, iv z4, .val (.long z11), .second, .val (.long z31), .second, .val (.long z37), .second, .unset, .unset, .unset, .unset, .unset] [])) rfl (hb hby at_67)
        refine own_go (B := (s₁.setTop (mkF m 70 #[.val (.long p0), .second, .val (.long p1), .second, .val (.long p2), .second, iv p3, iv p4, iv z4, .val (.long z11), .second, .val (.long z31), .second, .val (.long z37), .second, .unset, .unset, .unset, .unset, .unset] [(.long (9223372036854775807 : Int64))]))) lc10 ?_
        refine own_go (B := (s₁.setTop (mkF m 72 #[.val (.long p0), .second, .val (.long p1), .second, .val (.long p2), .second, iv p3, iv p4, iv z4, .val (.long z11), .second, .val (.long z31), .second, .val (.long z37), .second, .unset, .unset, .unset, .unset, .unset] [(.int p4), (.long (9223372036854775807 : Int64))]))) (fun t k => XS.iload X0.here hx rfl (hb hby at_70) rfl k) ?_
        refine own_go (B := (s₁.setTop (mkF m 75 #[.val (.long p0), .second, .val (.long p1), .second, .val (.long p2), .second, iv p3, iv p4, iv z4, .val (.long z11), .second, .val (.long z31), .second, .val (.long z37), .second, .unset, .unset, .unset, .unset, .unset] [(.int (255 : Int32)), (.int p4), (.long (9223372036854775807 : Int64))]))) (fun t k => XS.sipush X0.here hx rfl (hb hby at_72) k) ?_
        refine own_go (B := (s₁.setTop (mkF m 76 #[.val (.long p0), .second, .val (.long p1), .second, .val (.long p2), .second, iv p3, iv p4, iv z4, .val (.long z11), .second, .val (.long z31), .second, .val (.long z37), .second, .unset, .unset, .unset, .unset, .unset] [(.int (p4 &&& (255 : Int32))), (.long (9223372036854775807 : Int64))]))) (fun t k => XS.iand X0.here hx rfl (hb hby at_75) rfl k) ?_
        refine own_go (B := (s₁.setTop (mkF m 77 #[.val (.long p0), .second, .val (.long p1), .second, .val (.long p2), .second, iv p3, iv p4, iv z4, .val (.long z11), .second, .val (.long z31), .second, .val (.long z37), .second, .unset, .unset, .unset, .unset, .unset] [(.long ((p4 &&& (255 : Int32)).toInt64)), (.long (9223372036854775807 : Int64))]))) (fun t k => XS.i2l X0.here hx rfl (hb hby at_76) rfl k) ?_
        refine own_go (B := (s₁.setTop (mkF m 78 #[.val (.long p0), .second, .val (.long p1), .second, .val (.long p2), .second, iv p3, iv p4, iv z4, .val (.long z11), .second, .val (.long z31), .second, .val (.long z37), .second, .unset, .unset, .unset, .unset, .unset] [(.long ((9223372036854775807 : Int64) - ((p4 &&& (255 : Int32)).toInt64)))]))) (fun t k => XS.lsub X0.here hx rfl (hb hby at_77) rfl k) ?_
        obtain ⟨z78, hz78⟩ : ∃ z : Int64, z = ((9223372036854775807 : Int64) - ((p4 &&& (255 : Int32)).toInt64)) := ⟨_, rfl⟩
        rw [← hz78]
        refine own_go (B := (s₁.setTop (mkF m 80 #[.val (.long p0), .second, .val (.long p1), .second, .val (.long p2), .second, iv p3, iv p4, iv z4, .val (.long z78), .second, .val (.long z31), .second, .val (.long z37), .second, .unset, .unset, .unset, .unset, .unset] []))) (fun t k => XS.lstore X0.here hx rfl (hb hby at_78) rfl (l' := #[.val (.long p0), .second, .val (.long p1), .second, .val (.long p2), .second, iv p3, iv p4, iv z4, .val (.long z78), .second, .val (.long z31), .second, .val (.long z37), .second, .unset, .unset, .unset, .unset, .unset]) rfl k) ?_
        exact J80 _ _ _ hz37 (own_c3 hz78)
    · have lc11 := X0.ldc2Long hx hown (v := (9223372036854775807 : Int64)) (mvT hZ w_0) (g := (mkF m 45 #[.val (.long p0), .second, .val (.long p1), .second, .val (.long p2), .second, iv p3, iv p4, iv z4, .val (.long z11), .second, .val (.long z31), .second, .val (.long z37), .second, .unset, .unset, .unset, .unset, .unset] [])) rfl (hb hby at_45)
      refine own_go (B := (s₁.setTop (mkF m 48 #[.val (.long p0), .second, .val (.long p1), .second, .val (.long p2), .second, iv p3, iv p4, iv z4, .val (.long z11), .second, .val (.long z31), .second, .val (.long z37), .second, .unset, .unset, .unset, .unset, .unset] [(.long (9223372036854775807 : Int64))]))) lc11 ?_
      refine own_go (B := (s₁.setTop (mkF m 50 #[.val (.long p0), .second, .val (.long p1), .second, .val (.long p2), .second, iv p3, iv p4, iv z4, .val (.long z11), .second, .val (.long z31), .second, .val (.long z37), .second, .unset, .unset, .unset, .unset, .unset] [(.long z37), (.long (9223372036854775807 : Int64))]))) (fun t k => XS.lload X0.here hx rfl (hb hby at_48) rfl k) ?_
      refine own_go (B := (s₁.setTop (mkF m 51 #[.val (.long p0), .second, .val (.long p1), .second, .val (.long p2), .second, iv p3, iv p4, iv z4, .val (.long z11), .second, .val (.long z31), .second, .val (.long z37), .second, .unset, .unset, .unset, .unset, .unset] [(.long ((9223372036854775807 : Int64) + z37))]))) (fun t k => XS.ladd X0.here hx rfl (hb hby at_50) rfl k) ?_
      refine own_go (B := (s₁.setTop (mkF m 53 #[.val (.long p0), .second, .val (.long p1), .second, .val (.long p2), .second, iv p3, iv p4, iv z4, .val (.long z11), .second, .val (.long z31), .second, .val (.long z37), .second, .unset, .unset, .unset, .unset, .unset] [(.int p4), (.long ((9223372036854775807 : Int64) + z37))]))) (fun t k => XS.iload X0.here hx rfl (hb hby at_51) rfl k) ?_
      refine own_go (B := (s₁.setTop (mkF m 54 #[.val (.long p0), .second, .val (.long p1), .second, .val (.long p2), .second, iv p3, iv p4, iv z4, .val (.long z11), .second, .val (.long z31), .second, .val (.long z37), .second, .unset, .unset, .unset, .unset, .unset] [(.long (p4.toInt64)), (.long ((9223372036854775807 : Int64) + z37))]))) (fun t k => XS.i2l X0.here hx rfl (hb hby at_53) rfl k) ?_
      refine own_go (B := (s₁.setTop (mkF m 55 #[.val (.long p0), .second, .val (.long p1), .second, .val (.long p2), .second, iv p3, iv p4, iv z4, .val (.long z11), .second, .val (.long z31), .second, .val (.long z37), .second, .unset, .unset, .unset, .unset, .unset] [(.long (((9223372036854775807 : Int64) + z37) + (p4.toInt64)))]))) (fun t k => XS.ladd X0.here hx rfl (hb hby at_54) rfl k) ?_
      have lc12 := X0.ldc2Long hx hown (v := (9223372036854775807 : Int64)) (mvT hZ w_0) (g := (mkF m 55 #[.val (.long p0), .second, .val (.long p1), .second, .val (.long p2), .second, iv p3, iv p4, iv z4, .val (.long z11), .second, .val (.long z31), .second, .val (.long z37), .second, .unset, .unset, .unset, .unset, .unset] [(.long (((9223372036854775807 : Int64) + z37) + (p4.toInt64)))])) rfl (hb hby at_55)
      refine own_go (B := (s₁.setTop (mkF m 58 #[.val (.long p0), .second, .val (.long p1), .second, .val (.long p2), .second, iv p3, iv p4, iv z4, .val (.long z11), .second, .val (.long z31), .second, .val (.long z37), .second, .unset, .unset, .unset, .unset, .unset] [(.long (9223372036854775807 : Int64)), (.long (((9223372036854775807 : Int64) + z37) + (p4.toInt64)))]))) lc12 ?_
      refine own_go (B := (s₁.setTop (mkF m 59 #[.val (.long p0), .second, .val (.long p1), .second, .val (.long p2), .second, iv p3, iv p4, iv z4, .val (.long z11), .second, .val (.long z31), .second, .val (.long z37), .second, .unset, .unset, .unset, .unset, .unset] [(.long ((((9223372036854775807 : Int64) + z37) + (p4.toInt64)) &&& (9223372036854775807 : Int64)))]))) (fun t k => XS.land X0.here hx rfl (hb hby at_58) rfl k) ?_
      obtain ⟨z59, hz59⟩ : ∃ z : Int64, z = ((((9223372036854775807 : Int64) + z37) + (p4.toInt64)) &&& (9223372036854775807 : Int64)) := ⟨_, rfl⟩
      rw [← hz59]
      refine own_go (B := (s₁.setTop (mkF m 61 #[.val (.long p0), .second, .val (.long p1), .second, .val (.long p2), .second, iv p3, iv p4, iv z4, .val (.long z59), .second, .val (.long z31), .second, .val (.long z37), .second, .unset, .unset, .unset, .unset, .unset] []))) (fun t k => XS.lstore X0.here hx rfl (hb hby at_59) rfl (l' := #[.val (.long p0), .second, .val (.long p1), .second, .val (.long p2), .second, iv p3, iv p4, iv z4, .val (.long z59), .second, .val (.long z31), .second, .val (.long z37), .second, .unset, .unset, .unset, .unset, .unset]) rfl k) ?_
      refine own_go (B := (s₁.setTop (mkF m 63 #[.val (.long p0), .second, .val (.long p1), .second, .val (.long p2), .second, iv p3, iv p4, iv z4, .val (.long z59), .second, .val (.long z31), .second, .val (.long z37), .second, .unset, .unset, .unset, .unset, .unset] [(.int z4)]))) (fun t k => XS.iload X0.here hx rfl (hb hby at_61) rfl k) ?_
      refine own_go (B := (s₁.setTop (mkF m 64 #[.val (.long p0), .second, .val (.long p1), .second, .val (.long p2), .second, iv p3, iv p4, iv z4, .val (.long z59), .second, .val (.long z31), .second, .val (.long z37), .second, .unset, .unset, .unset, .unset, .unset] [(.int (3 : Int32)), (.int z4)]))) (fun t k => XS.iconst X0.here hx rfl (hb hby at_63) k) ?_
      refine own_icmp X0 hx (hb hby at_64) (pc' := 80) (pn := 67) (by decide) (by decide) rfl (fun (hc64 : ¬ z4 = (3 : Int32)) => ?_) (fun (hc64 : z4 = (3 : Int32)) => ?_)
      · exact J80 _ _ _ hz37 (own_mask hz59)
      · have lc13 := X0.ldc2Long hx hown (v := (9223372036854775807 : Int64)) (mvT hZ w_0) (g := (mkF m 67 #[.val (.long p0), .second, .val (.long p1), .second, .val (.long p2), .second, iv p3, iv p4, iv z4, .val (.long z59), .second, .val (.long z31), .second, .val (.long z37), .second, .unset, .unset, .unset, .unset, .unset] [])) rfl (hb hby at_67)
        refine own_go (B := (s₁.setTop (mkF m 70 #[.val (.long p0), .second, .val (.long p1), .second, .val (.long p2), .second, iv p3, iv p4, iv z4, .val (.long z59), .second, .val (.long z31), .second, .val (.long z37), .second, .unset, .unset, .unset, .unset, .unset] [(.long (9223372036854775807 : Int64))]))) lc13 ?_
        refine own_go (B := (s₁.setTop (mkF m 72 #[.val (.long p0), .second, .val (.long p1), .second, .val (.long p2), .second, iv p3, iv p4, iv z4, .val (.long z59), .second, .val (.long z31), .second, .val (.long z37), .second, .unset, .unset, .unset, .unset, .unset] [(.int p4), (.long (9223372036854775807 : Int64))]))) (fun t k => XS.iload X0.here hx rfl (hb hby at_70) rfl k) ?_
        refine own_go (B := (s₁.setTop (mkF m 75 #[.val (.long p0), .second, .val (.long p1), .second, .val (.long p2), .second, iv p3, iv p4, iv z4, .val (.long z59), .second, .val (.long z31), .second, .val (.long z37), .second, .unset, .unset, .unset, .unset, .unset] [(.int (255 : Int32)), (.int p4), (.long (9223372036854775807 : Int64))]))) (fun t k => XS.sipush X0.here hx rfl (hb hby at_72) k) ?_
        refine own_go (B := (s₁.setTop (mkF m 76 #[.val (.long p0), .second, .val (.long p1), .second, .val (.long p2), .second, iv p3, iv p4, iv z4, .val (.long z59), .second, .val (.long z31), .second, .val (.long z37), .second, .unset, .unset, .unset, .unset, .unset] [(.int (p4 &&& (255 : Int32))), (.long (9223372036854775807 : Int64))]))) (fun t k => XS.iand X0.here hx rfl (hb hby at_75) rfl k) ?_
        refine own_go (B := (s₁.setTop (mkF m 77 #[.val (.long p0), .second, .val (.long p1), .second, .val (.long p2), .second, iv p3, iv p4, iv z4, .val (.long z59), .second, .val (.long z31), .second, .val (.long z37), .second, .unset, .unset, .unset, .unset, .unset] [(.long ((p4 &&& (255 : Int32)).toInt64)), (.long (9223372036854775807 : Int64))]))) (fun t k => XS.i2l X0.here hx rfl (hb hby at_76) rfl k) ?_
        refine own_go (B := (s₁.setTop (mkF m 78 #[.val (.long p0), .second, .val (.long p1), .second, .val (.long p2), .second, iv p3, iv p4, iv z4, .val (.long z59), .second, .val (.long z31), .second, .val (.long z37), .second, .unset, .unset, .unset, .unset, .unset] [(.long ((9223372036854775807 : Int64) - ((p4 &&& (255 : Int32)).toInt64)))]))) (fun t k => XS.lsub X0.here hx rfl (hb hby at_77) rfl k) ?_
        obtain ⟨z78, hz78⟩ : ∃ z : Int64, z = ((9223372036854775807 : Int64) - ((p4 &&& (255 : Int32)).toInt64)) := ⟨_, rfl⟩
        rw [← hz78]
        refine own_go (B := (s₁.setTop (mkF m 80 #[.val (.long p0), .second, .val (.long p1), .second, .val (.long p2), .second, iv p3, iv p4, iv z4, .val (.long z78), .second, .val (.long z31), .second, .val (.long z37), .second, .unset, .unset, .unset, .unset, .unset] []))) (fun t k => XS.lstore X0.here hx rfl (hb hby at_78) rfl (l' := #[.val (.long p0), .second, .val (.long p1), .second, .val (.long p2), .second, iv p3, iv p4, iv z4, .val (.long z78), .second, .val (.long z31), .second, .val (.long z37), .second, .unset, .unset, .unset, .unset, .unset]) rfl k) ?_
        exact J80 _ _ _ hz37 (own_c3 hz78)

set_option maxRecDepth 65536 in
set_option maxHeartbeats 40000000 in
theorem own_comes {Post : Tables → Env → Array Value → State → Outcome → State → Prop} (hpost : ∀ tb e args s v u, (limb_1_1.after args s (.returned v) u = true ∧ limb_1_2.after args s (.returned v) u = true ∧ True) → FrameEnd s (.returned v) u (Jvm.fieldLocs frame_1_writes args s ++ Jvm.arrayLocs frame_1_arrays args s ++ Jvm.staticLocs frame_1_statics s) 0 0 → Post tb e args s (.returned v) u) :
    ArmFor flags0 classFile x code maxLocals ret World_1 tables_1 room_1 Calls_1 rest_1 Pre_1 Post := by
  intro l hfl _ _ p e ha hc hk s m args below hf hA hF happ hP
  obtain ⟨hcalls, hrest, hpre⟩ := hP
  obtain ⟨-, -, -, hnamed, -, -, -, hat⟩ := (Spec.applies_iff hf).mp happ
  obtain ⟨hg, hn⟩ := and_e (Cond.before_iff.mp (show (Jvm.Cond.and given_1 narrow_1).before args s = true from hpre))
  obtain ⟨g0, r0⟩ := and_e hg
  obtain ⟨g1, r1⟩ := and_e r0
  obtain ⟨g2, r2⟩ := and_e r1
  obtain ⟨g3, r3⟩ := and_e r2
  obtain ⟨g4, r4⟩ := and_e r3
  obtain ⟨w0, w1, w2, w3, w4, rfl⟩ : ∃ w0 w1 w2 w3 w4 : Value, args = #[w0, w1, w2, w3, w4] := by
    have hs : args.size = 5 := by simpa [Cond.value, given_1] using g0
    obtain ⟨L⟩ := args
    match L, hs with
    | [w0, w1, w2, w3, w4], _ => exact ⟨w0, w1, w2, w3, w4, rfl⟩
  have hw := fun d (hd : d ∈ tables_1) => atoms_spec (ws := Jvm.Cond.code x code maxLocals ret :: tables_1) hat d (List.mem_cons_of_mem _ hd)
  have hfit : Fit s := fun {y c} hc i hi => by
    obtain ⟨ha, rfl⟩ := Array.getElem?_eq_some_iff.mp hc
    have q := List.all_eq_true.mp ((Array.all_eq_true_iff_forall_mem.mp hF) _ (Array.getElem_mem ha)) i (List.mem_range.mpr hi)
    simpa [Array.getElem?_eq_getElem hi] using q
  obtain ⟨i0, e0⟩ := isL_v g1
  obtain rfl : w0 = (.long i0) := Option.some.inj e0
  obtain ⟨i1, e1⟩ := isL_v g2
  obtain rfl : w1 = (.long i1) := Option.some.inj e1
  obtain ⟨i2, e2⟩ := isL_v g3
  obtain rfl : w2 = (.long i2) := Option.some.inj e2
  obtain ⟨i3, e3⟩ := is_v g4
  obtain rfl : w3 = (.int i3) := Option.some.inj e3
  obtain ⟨i4, e4⟩ := is_v r4
  obtain rfl : w4 = (.int i4) := Option.some.inj e4
  obtain ⟨n, o, h1, h2, h3, _, L, rfl, ⟨rfl, N⟩, hq⟩ := own_law l s _ hw tables_1 i0 i1 i2 i3 i4 s.heap s.heap.size p e ha hc hk s m _ below hf ((Spec.applies_iff_loose hf).mp happ).1 ⟨rfl, State.Warmed39.refl s, rfl⟩ trivial
  refine ⟨n, _, h1, h2, h3, hpost _ _ _ _ _ _ ⟨Cond.after_iff.mpr rfl, Cond.after_iff.mpr (eq_i res_at (Term.int_eval (1)) rfl), trivial⟩ ⟨hq.1, hq.2.1, (hq.2.2.sift fun y hy => Or.inr (N y hy)).mono (by decide) (by decide)⟩⟩
theorem main_1_1 : Claimed_1_1 := own_comes fun _ _ _ _ _ _ h hF => ⟨h.1, hF⟩
theorem main_1_2 : Claimed_1_2 := own_comes fun _ _ _ _ _ _ h hF => ⟨h.2.1, hF⟩
end Jvm.Pilot.@@N@@
namespace Jvm.Pilot.@@N@@
open Jvm Jvm.ClassFile Sem Op Lib Jvm.Free Jvm.Stand Jvm.Pilot.@@N@@.Jvm.D
/-! MADE BY PROGRAM (witnessworld.py) out of the Statement's table words and the real class files: 9 classes; the members and pool entries that the words name. The judged class is class 1, her method 1. -/
namespace start1
open Jvm.ClassFile
def u (s : String) : CpInfo := .utf8 (stringToUtf16 s)
/-- a pool by its gaps: so many unusable entries, then the entry; so many at the end -/
def gap : Nat → List CpInfo → List CpInfo
  | 0, r => r
  | n + 1, r => .unusable :: gap n r
def poolList (es : List (Nat × CpInfo)) (last : Nat) : List CpInfo := es.foldr (fun e r => gap e.1 (e.2 :: r)) (gap last [])
def pool (es : List (Nat × CpInfo)) (last : Nat) : Array CpInfo := ⟨poolList es last⟩
def fileOf (pool : Array CpInfo) (this : Nat) (attrs : Array Attribute := #[]) (ms : Array MethodInfo := #[]) (fl : Nat := 33) (sup : Nat := 0) (ifs : Array Nat := #[]) (fds : Array FieldInfo := #[]) : ClassFile where
  minorVersion := 0
  majorVersion := 65
  constantPool := pool
  accessFlags := fl
  thisClass := this
  superClass := sup
  interfaces := ifs
  fields := fds
  methods := ms
  attributes := attrs
def plain (name : String) (sup : Option ClassId) : Class where
  name := name
  kind := .ordinary
  loader := none
  accessFlags := 33
  super := sup
  interfaces := #[]
  cf := none
  fields := #[]
  methods := #[]
  instanceTypes := #[]
  staticTypes := #[]
  resolved := #[]
  callSites := []
  init := .initialized
  statics := none
  mirror := none

def pool0 : Array CpInfo := pool [(5, u "<init>"), (0, u "()V"), (1, .class_ 10), (1, u "java/lang/Object")] 113

def k0m0 : Method := { name := "<init>", desc := "()V", sig := { parameters := [], returnType := none }, accessFlags := 1, code := none }
/-- java/lang/Object -/
def k0 : Class := { plain "java/lang/Object" none with
  accessFlags := 33
  interfaces := #[]
  cf := some (fileOf pool0 8 #[] #[{ accessFlags := 1, nameIndex := 5, descriptorIndex := 6, attributes := #[] }] 33 0 #[] #[])
  fields := #[]
  methods := #[k0m0]
  instanceTypes := #[]
  staticTypes := #[]
  resolved := Array.replicate 124 none
  statics := none }

def pool1 : Array CpInfo := pool [(2, .class_ 4), (1, u "java/lang/Object"), (0, u "<init>"), (0, u "()V"), (2, .long 9223372036854775807), (1, .methodref 12 13), (0, .class_ 14), (0, .nameAndType 15 16), (0, u "com/example/sluicegate/sluicegate/rule/Pacing"), (0, u "waitAfter"), (0, u "(JJJ)J"), (0, .class_ 18), (0, u "com/example/sluicegate/sluicegate/rule/PacingWaitAfterPinLaw"), (2, u "law"), (0, u "(JJJII)Z")] 3

def k1m0 : Method := { name := "<init>", desc := "()V", sig := { parameters := [], returnType := none }, accessFlags := 1, code := none }
def k1c1 : Code := { maxStack := 6, maxLocals := 20, code := code, exceptionTable := #[], attributes := #[] }
def k1m1 : Method := { name := "law", desc := "(JJJII)Z", sig := { parameters := [.long, .long, .long, .int, .int], returnType := some .boolean }, accessFlags := 9, code := some k1c1 }
/-- com/example/sluicegate/sluicegate/rule/PacingWaitAfterPinLaw -/
def k1 : Class := { plain "com/example/sluicegate/sluicegate/rule/PacingWaitAfterPinLaw" (some 0) with
  accessFlags := 49
  interfaces := #[]
  cf := some (fileOf pool1 17 #[] #[{ accessFlags := 1, nameIndex := 5, descriptorIndex := 6, attributes := #[] }, { accessFlags := 9, nameIndex := 21, descriptorIndex := 22, attributes := #[] }] 49 2 #[] #[])
  fields := #[]
  methods := #[k1m0, k1m1]
  instanceTypes := #[]
  staticTypes := #[]
  resolved := Array.replicate 26 none
  statics := none }

def pool2 : Array CpInfo := pool [(2, .class_ 4), (1, u "java/lang/Object"), (0, u "<init>"), (0, u "()V"), (1, .class_ 10), (1, u "com/example/sluicegate/sluicegate/rule/Pacing"), (0, u "admittedBefore"), (0, u "Z"), (2, u "latestNanos"), (0, u "J"), (2, u "waitAfter"), (0, u "(JJJ)J"), (2, .long 9223372036854775807)] 10

def k2m0 : Method := { name := "<init>", desc := "()V", sig := { parameters := [], returnType := none }, accessFlags := 0, code := none }
def k2c1 : Code := { maxStack := 6, maxLocals := 8, code := prog_59_method_3_code, exceptionTable := #[], attributes := #[] }
def k2m1 : Method := { name := "waitAfter", desc := "(JJJ)J", sig := { parameters := [.long, .long, .long], returnType := some .long }, accessFlags := 8, code := some k2c1 }
/-- com/example/sluicegate/sluicegate/rule/Pacing -/
def k2 : Class := { plain "com/example/sluicegate/sluicegate/rule/Pacing" (some 0) with
  accessFlags := 32
  interfaces := #[]
  cf := some (fileOf pool2 8 #[] #[{ accessFlags := 0, nameIndex := 5, descriptorIndex := 6, attributes := #[] }, { accessFlags := 8, nameIndex := 19, descriptorIndex := 20, attributes := #[] }] 32 2 #[] #[{ accessFlags := 2, nameIndex := 11, descriptorIndex := 12, attributes := #[] }, { accessFlags := 2, nameIndex := 15, descriptorIndex := 16, attributes := #[] }])
  fields := #[{ name := "admittedBefore", type := .boolean, accessFlags := 2, slot := 0, constantValue := 0 }, { name := "latestNanos", type := .long, accessFlags := 2, slot := 1, constantValue := 0 }]
  methods := #[k2m0, k2m1]
  instanceTypes := #[.boolean, .long]
  staticTypes := #[]
  resolved := Array.replicate 34 none
  statics := none }

def pool3 : Array CpInfo := pool [(1, u "java/lang/Cloneable"), (0, .class_ 1), (0, u "java/lang/Object"), (0, .class_ 3)] 3

/-- java/lang/Cloneable -/
def k3 : Class := { plain "java/lang/Cloneable" (some 0) with
  accessFlags := 1537
  interfaces := #[]
  cf := some (fileOf pool3 2 #[] #[] 1537 4 #[] #[])
  fields := #[]
  methods := #[]
  instanceTypes := #[]
  staticTypes := #[]
  resolved := Array.replicate 8 none
  statics := none }

def pool4 : Array CpInfo := pool [(1, u "java/io/Serializable"), (0, .class_ 1), (0, u "java/lang/Object"), (0, .class_ 3)] 3

/-- java/io/Serializable -/
def k4 : Class := { plain "java/io/Serializable" (some 0) with
  accessFlags := 1537
  interfaces := #[]
  cf := some (fileOf pool4 2 #[] #[] 1537 4 #[] #[])
  fields := #[]
  methods := #[]
  instanceTypes := #[]
  staticTypes := #[]
  resolved := Array.replicate 8 none
  statics := none }

/-- the primitive byte -/
def k5 : Class := { plain "byte" none with kind := .primitive 'B', accessFlags := 0x411 }
/-- [B -/
def k6 : Class := { plain "[B" (some 0) with kind := .array 5 .byte, interfaces := #[3, 4], accessFlags := 1041 }

/-- the primitive int -/
def k7 : Class := { plain "int" none with kind := .primitive 'I', accessFlags := 0x411 }
/-- [I -/
def k8 : Class := { plain "[I" (some 0) with kind := .array 7 .int, interfaces := #[3, 4], accessFlags := 1041 }

def heap : Heap := #[]
def classes : Array Class := #[k0, k1, k2, k3, k4, k5, k6, k7, k8]
def interned : List (Array UInt16 × Addr) := []
def slotsUsed : Nat := 0
def theMethod : MethodId := ⟨1, 1⟩
def args0 : Array Value := #[.long 5, .long 300, .long 7, .int 0, .int 3]
def aboutOver (below : List Frame) : State where
  vm := { classes := classes, interned := interned.toArray }
  heap := heap
  slotsUsed := slotsUsed
  threads := #[{ frames := .invoking theMethod args0 :: below }]
def below0 : List Frame := [.native { method := ⟨0, 0⟩, args := #[] }]
def about1 : State := aboutOver below0
def p0 : Program := .bare "" "" ""
def e0 : Env := launch0.env 0 0 0
theorem w_frames : about1.frames = Frame.invoking theMethod args0 :: below0 := rfl
set_option maxRecDepth 65536 in
theorem w_args : argsFit about1.vm theMethod args0 = true := by decide +kernel
set_option maxRecDepth 65536 in
theorem w_heap : heapFits about1 = true := by decide +kernel
set_option maxRecDepth 65536 in
theorem w_runnable : about1.curStatus? = some .runnable := by decide +kernel
set_option maxRecDepth 65536 in
theorem w_alone : about1.alone = true := by decide +kernel
set_option maxRecDepth 65536 in
theorem w_named : about1.methodNamed? x = some theMethod := by decide +kernel
set_option maxRecDepth 65536 in
theorem w_hears : about1.hears theMethod below0 = true := by decide +kernel
set_option maxRecDepth 65536 in
theorem w_ripe : about1.ripe theMethod args0 below0 = true := by decide +kernel
theorem w_running : about1.status = .running := rfl
set_option maxRecDepth 65536 in
theorem w_room : about1.hasRoom e0.platform room_1 = true :=
  launch0.hasRoom_least _ room_1 (by decide +kernel) (by decide +kernel) (by decide +kernel) (by decide +kernel) (by decide +kernel) (by decide +kernel)
theorem allAtoms_all (ts : List Jvm.Cond) (a : Array Jvm.Value) (st : Jvm.State) : (allAtoms ts).before a st = ts.all (fun c => c.before a st) := by
  induction ts with
  | nil => rfl
  | cons c t ih =>
    show (Jvm.Cond.and c (allAtoms t)).before a st = _
    rw [Jvm.Cond.before_and, ih, List.all_cons]
def words1 : List Jvm.Cond := Jvm.Cond.code x code maxLocals ret :: tables_1
/-- a 'code' word, met by the world's own term for the bytes: nothing is compared byte by byte -/
theorem code_word {y : MethodName} {bytes : ByteArray} {mx : Nat} {rt : Option FieldType} {a : Array Value} {s : State} {m : MethodId} {meth : Method} {c : Code} (h1 : s.methodNamed? y = some m) (h2 : s.vm.method? m = some meth) (h3 : meth.code = some c) (h4 : c.code = bytes)
    (h5 : (c.maxLocals == mx && c.exceptionTable.isEmpty && decide (c.maxStack ≤ mostOperands) && decide (meth.sig.returnType = rt) && !meth.locks && decide (parseMethodDescriptor y.desc = some meth.sig)) = true) : (Jvm.Cond.code y bytes mx rt).before a s = true := by
  simp only [Bool.and_eq_true, beq_iff_eq, Bool.not_eq_true', decide_eq_true_eq] at h5
  obtain ⟨⟨⟨⟨⟨g1, g2⟩, g3⟩, g4⟩, g5⟩, g6⟩ := h5
  simp [Cond.before, Cond.holds, Cond.value, h1, h2, h3, h4, g1, g2, g3, g4, g5, g6]
def isCode : Jvm.Cond → Bool
  | .code _ _ _ _ => true
  | _ => false
theorem all_split {L : List Jvm.Cond} {P : Jvm.Cond → Bool} (h1 : L.all (fun c => isCode c || P c) = true) (h2 : ∀ c ∈ L.filter isCode, P c = true) : L.all P = true := by
  refine List.all_eq_true.mpr fun c hc => ?_
  have h := List.all_eq_true.mp h1 c hc
  rcases Bool.eq_false_or_eq_true (isCode c) with hi | hi
  · exact h2 c (List.mem_filter.mpr ⟨hc, hi⟩)
  · simpa [hi] using h
set_option maxRecDepth 65536 in
theorem w_c0 : (Jvm.Cond.code x code maxLocals ret).before args0 about1 = true := code_word (m := ⟨1, 1⟩) (meth := k1m1) (c := k1c1) (by decide +kernel) rfl rfl rfl (by decide +kernel)
set_option maxRecDepth 65536 in
theorem w_c1 : (Jvm.Cond.code ({ cls := "com/example/sluicegate/sluicegate/rule/Pacing", name := "waitAfter", desc := "(JJJ)J" } : Jvm.MethodName) prog_59_method_3_code (8 : Nat) (Option.some Jvm.ClassFile.FieldType.long)).before args0 about1 = true := code_word (m := ⟨2, 1⟩) (meth := k2m1) (c := k2c1) (by decide +kernel) rfl rfl rfl (by decide +kernel)
def codes1 : List Jvm.Cond := [Jvm.Cond.code x code maxLocals ret, Jvm.Cond.code ({ cls := "com/example/sluicegate/sluicegate/rule/Pacing", name := "waitAfter", desc := "(JJJ)J" } : Jvm.MethodName) prog_59_method_3_code (8 : Nat) (Option.some Jvm.ClassFile.FieldType.long)]
set_option maxRecDepth 65536 in
theorem codes_eq : words1.filter isCode = codes1 := rfl
theorem w_codes : ∀ c ∈ words1.filter isCode, c.before args0 about1 = true := by
  rw [codes_eq]
  intro c hc
  simp only [codes1, List.mem_cons, List.not_mem_nil, or_false] at hc
  rcases hc with rfl | rfl
  · exact w_c0
  · exact w_c1
set_option maxRecDepth 65536 in
theorem w_t1 : words1.all (fun c => isCode c || c.before args0 about1) = true := by decide +kernel
theorem w_tables : (allAtoms (Jvm.Cond.code x code maxLocals ret :: tables_1)).before args0 about1 = true := by
  rw [allAtoms_all]
  show words1.all (fun c => c.before args0 about1) = true
  refine all_split ?_ w_codes
  rw [w_t1]
set_option maxRecDepth 65536 in
theorem w_case : (Jvm.Cond.and given_1 narrow_1).before args0 about1 = true := by decide +kernel
theorem w_applies : (headSpec (Jvm.Cond.code x code maxLocals ret :: tables_1) room_1).applies x e0.platform about1 = true :=
  (Spec.applies_iff w_frames).mpr ⟨w_running, w_runnable, w_alone, w_named, w_hears, w_ripe, w_room, w_tables⟩
theorem atStart : AtStart classFile x code maxLocals ret World_1 tables_1 room_1 Calls_1 rest_1 Pre_1 launch0 p0 e0 about1 theMethod args0 below0 :=
  ⟨lists_1, trivial, launch0.admits_env _ _ _, launch0.least_env, fairChoices_fair.cas, fairChoices_fair.clock, w_frames, w_args, w_heap, w_applies, trivial, trivial, w_case⟩
end start1
theorem witness_1 : WitnessClaimed_1 := ⟨start1.p0, start1.e0, start1.about1, start1.theMethod, start1.args0, start1.below0, start1.atStart⟩
end Jvm.Pilot.@@N@@
