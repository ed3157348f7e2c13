import JvmDerived
import JvmDerived.Pilot.@@N@@Statement
import JvmDerived.Pilot.@@N@@Code
set_option linter.unusedVariables false
set_option linter.unusedSimpArgs false
namespace Jvm.Pilot.@@N@@
open Jvm Jvm.ClassFile Sem Op Lib Jvm.Free Jvm.Stand Jvm.LawKit Jvm.RoadKit Bundle Jvm.Pilot.@@N@@.Jvm.D
/-! own layer: the walk goes forward; own_G S: from S the body ends as F says -/
def own_G (tb : Tables) (e : Env) (below : List Frame) (F : Outcome → State → Prop) (S : State) : Prop :=
  ∃ s₂ o, Steps tb e below S s₂ ∧ s₂.status = .running ∧ Ended s₂ below o ∧ F o s₂
theorem own_go {tb : Tables} {e : Env} {below : List Frame} {F : Outcome → State → Prop} {A B : State} (st : ∀ t, Steps tb e below B t → Steps tb e below A t) (h : own_G tb e below F B) : own_G tb e below F A := by
  obtain ⟨t, o, h1, h2⟩ := h
  exact ⟨t, o, st t h1, h2⟩
theorem own_tr {tb : Tables} {e : Env} {below : List Frame} {F : Outcome → State → Prop} {A B : State} (st : Steps tb e below A B) (h : own_G tb e below F B) : own_G tb e below F A := own_go (fun _ k => st.trans k) h
theorem own_b {n k : Nat} (h : Nat.ble n k = true) : n ≤ k := Nat.le_of_ble_eq_true h
def own_yes {α : Type} [LT α] : ClassFile.Cond → α → α → Prop
  | .eq, x, y => x = y
  | .ne, x, y => ¬ x = y
  | .lt, x, y => x < y
  | .ge, x, y => ¬ x < y
  | .gt, x, y => y < x
  | .le, x, y => ¬ y < x
def own_no {α : Type} [LT α] : ClassFile.Cond → α → α → Prop
  | .eq, x, y => ¬ x = y
  | .ne, x, y => x = y
  | .lt, x, y => ¬ x < y
  | .ge, x, y => x < y
  | .gt, x, y => ¬ y < x
  | .le, x, y => y < x
theorem own_hy {cd : ClassFile.Cond} {x y : Int32} (h : own_yes cd x y) : if_icmp.holds cd x y = true := by
  cases cd
  · exact (teq h).1
  · exact (feq h).2
  · exact (tlt h).1
  · exact (flt h).2.1
  · exact (tlt h).2.2.1
  · exact (flt h).2.2.2
theorem own_hn {cd : ClassFile.Cond} {x y : Int32} (h : own_no cd x y) : if_icmp.holds cd x y = false := by
  cases cd
  · exact (feq h).1
  · exact (teq h).2
  · exact (flt h).1
  · exact (tlt h).2.1
  · exact (flt h).2.2.1
  · exact (tlt h).2.2.2
theorem own_yn {cd : ClassFile.Cond} {x y : Int32} : own_yes cd x y ∨ own_no cd x y := by
  cases cd
  · exact Classical.em _
  · exact (Classical.em _).symm
  · exact Classical.em _
  · exact (Classical.em _).symm
  · exact Classical.em _
  · exact (Classical.em _).symm
theorem own_ynL {cd : ClassFile.Cond} {x y : Int64} : own_yes cd x y ∨ own_no cd x y := by
  cases cd
  · exact Classical.em _
  · exact (Classical.em _).symm
  · exact Classical.em _
  · exact (Classical.em _).symm
  · exact Classical.em _
  · exact (Classical.em _).symm
theorem own_hyL {cd : ClassFile.Cond} {x y : Int64} (h : own_yes cd x y) : ifCond.holds cd (lcmpW x y) = true := by
  rw [if0]
  refine own_hy ?_
  cases cd
  · exact (lw_eq x y).mpr h
  · exact fun q => h ((lw_eq x y).mp q)
  · exact (lw_lt x y).mpr h
  · exact fun q => h ((lw_lt x y).mp q)
  · exact (lw_gt x y).mpr h
  · exact fun q => h ((lw_gt x y).mp q)
theorem own_hnL {cd : ClassFile.Cond} {x y : Int64} (h : own_no cd x y) : ifCond.holds cd (lcmpW x y) = false := by
  rw [if0]
  refine own_hn ?_
  cases cd
  · exact fun q => h ((lw_eq x y).mp q)
  · exact (lw_eq x y).mpr h
  · exact fun q => h ((lw_lt x y).mp q)
  · exact (lw_lt x y).mpr h
  · exact fun q => h ((lw_gt x y).mp q)
  · exact (lw_gt x y).mpr h
section Own
variable {p : Program} {l : Launch} {e : Env} {R : Room} {s : State} {m : MethodId} {args : Array Value} {below : List Frame} {meth : Method} {c : Code} {T : State} {locs : List Loc} {cells slots : Nat} {F : Outcome → State → Prop}
theorem own_abs {n0 : Nat} (X : Stand p l e R s m args below meth c T locs cells slots) (N : Fr n0 locs) : ∃ L, Stand p l e R s m args below meth c T L cells slots ∧ Fr n0 L := ⟨locs, X, N⟩
theorem own_absC {n0 K K' : Nat} {L Lc : List Loc} {k n : Nat} (X : Stand p l e R s m args below meth c T L k n) (hl : L = locs ++ Lc) (hk : k = K) (hn : n = K') (N : Fr n0 locs) (N' : Fr n0 Lc) : ∃ L, Stand p l e R s m args below meth c T L K K' ∧ Fr n0 L := by
  subst hk hn
  exact ⟨L, X, by rw [hl]; exact Fr.app N N'⟩
theorem own_icmpY (X : Stand p l e R s m args below meth c T locs cells slots) (hx : p.tables.exec = Jvm.exec) {cd : ClassFile.Cond} {x y : Int32} {o : Int} {pc pc' : Nat} {Ls : Array Slot} {rest : List Value} (hd : decode c.code pc = .ok (.if_icmp cd o, 3)) (ho : 0 ≤ (pc : Int) + o) (hp : ((pc : Int) + o).toNat = pc')
    (hc : own_yes cd x y) (h1 : own_G p.tables e below F (T.setTop (mkF m pc' Ls rest))) : own_G p.tables e below F (T.setTop (mkF m pc Ls (.int y :: .int x :: rest))) :=
  own_go (fun _ k => XS.icmpYes X.here hx rfl (pc0 := pc) (pc' := pc') rfl hd rfl (own_hy hc) ho hp k) h1
theorem own_icmpN (X : Stand p l e R s m args below meth c T locs cells slots) (hx : p.tables.exec = Jvm.exec) {cd : ClassFile.Cond} {x y : Int32} {o : Int} {pc pn : Nat} {Ls : Array Slot} {rest : List Value} (hd : decode c.code pc = .ok (.if_icmp cd o, 3)) (hq : pc + 3 = pn)
    (hc : own_no cd x y) (h1 : own_G p.tables e below F (T.setTop (mkF m pn Ls rest))) : own_G p.tables e below F (T.setTop (mkF m pc Ls (.int y :: .int x :: rest))) := by
  subst hq
  exact own_go (fun _ k => XS.icmpNo X.here hx rfl hd rfl (own_hn hc) k) h1
theorem own_icmp (X : Stand p l e R s m args below meth c T locs cells slots) (hx : p.tables.exec = Jvm.exec) {cd : ClassFile.Cond} {x y : Int32} {o : Int} {pc pc' pn : Nat} {Ls : Array Slot} {rest : List Value} (hd : decode c.code pc = .ok (.if_icmp cd o, 3)) (ho : 0 ≤ (pc : Int) + o) (hp : ((pc : Int) + o).toNat = pc') (hq : pc + 3 = pn)
    (h1 : own_yes cd x y → own_G p.tables e below F (T.setTop (mkF m pc' Ls rest))) (h2 : own_no cd x y → own_G p.tables e below F (T.setTop (mkF m pn Ls rest))) : own_G p.tables e below F (T.setTop (mkF m pc Ls (.int y :: .int x :: rest))) :=
  own_yn.elim (fun q => own_icmpY X hx hd ho hp q (h1 q)) (fun q => own_icmpN X hx hd hq q (h2 q))
theorem own_ifY (X : Stand p l e R s m args below meth c T locs cells slots) (hx : p.tables.exec = Jvm.exec) {cd : ClassFile.Cond} {x : Int32} {o : Int} {pc pc' : Nat} {Ls : Array Slot} {rest : List Value} (hd : decode c.code pc = .ok (.ifCond cd o, 3)) (ho : 0 ≤ (pc : Int) + o) (hp : ((pc : Int) + o).toNat = pc')
    (hc : own_yes cd x 0) (h1 : own_G p.tables e below F (T.setTop (mkF m pc' Ls rest))) : own_G p.tables e below F (T.setTop (mkF m pc Ls (.int x :: rest))) :=
  own_go (fun _ k => XS.ifYes X.here hx rfl (pc0 := pc) (pc' := pc') rfl hd rfl ((if0 cd x).trans (own_hy hc)) ho hp k) h1
theorem own_ifN (X : Stand p l e R s m args below meth c T locs cells slots) (hx : p.tables.exec = Jvm.exec) {cd : ClassFile.Cond} {x : Int32} {o : Int} {pc pn : Nat} {Ls : Array Slot} {rest : List Value} (hd : decode c.code pc = .ok (.ifCond cd o, 3)) (hq : pc + 3 = pn)
    (hc : own_no cd x 0) (h1 : own_G p.tables e below F (T.setTop (mkF m pn Ls rest))) : own_G p.tables e below F (T.setTop (mkF m pc Ls (.int x :: rest))) := by
  subst hq
  exact own_go (fun _ k => XS.ifNo X.here hx rfl hd rfl ((if0 cd x).trans (own_hn hc)) k) h1
theorem own_if (X : Stand p l e R s m args below meth c T locs cells slots) (hx : p.tables.exec = Jvm.exec) {cd : ClassFile.Cond} {x : Int32} {o : Int} {pc pc' pn : Nat} {Ls : Array Slot} {rest : List Value} (hd : decode c.code pc = .ok (.ifCond cd o, 3)) (ho : 0 ≤ (pc : Int) + o) (hp : ((pc : Int) + o).toNat = pc') (hq : pc + 3 = pn)
    (h1 : own_yes cd x 0 → own_G p.tables e below F (T.setTop (mkF m pc' Ls rest))) (h2 : own_no cd x 0 → own_G p.tables e below F (T.setTop (mkF m pn Ls rest))) : own_G p.tables e below F (T.setTop (mkF m pc Ls (.int x :: rest))) :=
  own_yn.elim (fun q => own_ifY X hx hd ho hp q (h1 q)) (fun q => own_ifN X hx hd hq q (h2 q))
theorem own_lifY (X : Stand p l e R s m args below meth c T locs cells slots) (hx : p.tables.exec = Jvm.exec) {cd : ClassFile.Cond} {x y : Int64} {o : Int} {pc pc' : Nat} {Ls : Array Slot} {rest : List Value} (hd : decode c.code pc = .ok (.ifCond cd o, 3)) (ho : 0 ≤ (pc : Int) + o) (hp : ((pc : Int) + o).toNat = pc')
    (hc : own_yes cd x y) (h1 : own_G p.tables e below F (T.setTop (mkF m pc' Ls rest))) : own_G p.tables e below F (T.setTop (mkF m pc Ls (.int (lcmpW x y) :: rest))) :=
  own_go (fun _ k => XS.ifYes X.here hx rfl (pc0 := pc) (pc' := pc') rfl hd rfl (own_hyL hc) ho hp k) h1
theorem own_lifN (X : Stand p l e R s m args below meth c T locs cells slots) (hx : p.tables.exec = Jvm.exec) {cd : ClassFile.Cond} {x y : Int64} {o : Int} {pc pn : Nat} {Ls : Array Slot} {rest : List Value} (hd : decode c.code pc = .ok (.ifCond cd o, 3)) (hq : pc + 3 = pn)
    (hc : own_no cd x y) (h1 : own_G p.tables e below F (T.setTop (mkF m pn Ls rest))) : own_G p.tables e below F (T.setTop (mkF m pc Ls (.int (lcmpW x y) :: rest))) := by
  subst hq
  exact own_go (fun _ k => XS.ifNo X.here hx rfl hd rfl (own_hnL hc) k) h1
theorem own_lif (X : Stand p l e R s m args below meth c T locs cells slots) (hx : p.tables.exec = Jvm.exec) {cd : ClassFile.Cond} {x y : Int64} {o : Int} {pc pc' pn : Nat} {Ls : Array Slot} {rest : List Value} (hd : decode c.code pc = .ok (.ifCond cd o, 3)) (ho : 0 ≤ (pc : Int) + o) (hp : ((pc : Int) + o).toNat = pc') (hq : pc + 3 = pn)
    (h1 : own_yes cd x y → own_G p.tables e below F (T.setTop (mkF m pc' Ls rest))) (h2 : own_no cd x y → own_G p.tables e below F (T.setTop (mkF m pn Ls rest))) : own_G p.tables e below F (T.setTop (mkF m pc Ls (.int (lcmpW x y) :: rest))) :=
  own_ynL.elim (fun q => own_lifY X hx hd ho hp q (h1 q)) (fun q => own_lifN X hx hd hq q (h2 q))
theorem own_ret (X : Stand p l e R s m args below meth c T locs cells slots) (hx : p.tables.exec = Jvm.exec) (hlk : meth.locks = false) {K N pc : Nat} {Ls : Array Slot} {w : Value} {t : FieldType} {i : Instr} {rest : List Value} {Q : Option Value → Heap → List Loc → Prop} (hret : meth.sig.returnType = some t) (hn : narrow t w = w)
    (hi : (i = .ireturn ∧ (t = .int ∨ t = .boolean ∨ t = .byte ∨ t = .char ∨ t = .short) ∧ ∃ z, w = .int z) ∨ (i = .lreturn ∧ t = .long ∧ ∃ z, w = .long z) ∨ (i = .dreturn ∧ t = .double ∧ ∃ z, w = .double z) ∨ (i = .freturn ∧ t = .float ∧ ∃ z, w = .float z) ∨ (i = .areturn ∧ t.isReference = true ∧ w.isRef = true))
    (hd : decode c.code pc = .ok (i, 1)) (hK : cells ≤ K) (hN : slots ≤ N) (hQ : Q (some w) T.heap locs) :
    own_G p.tables e below (fun o U' => ∃ v L, o = .returned v ∧ Q v U'.heap L ∧ FrameEnd s o U' L K N) (T.setTop (mkF m pc Ls (w :: rest))) := by
  obtain ⟨fs, hr, hrun, hended, hW, hsame⟩ := X.leave (v := some w) (fun h => by rw [hret] at h; cases h) hlk
  exact ⟨_, _, retOut X hx hret hn hi hd hr, hrun, hended, _, _, rfl, hQ, ⟨_, rfl⟩, hW, hsame.mono hK hN⟩
theorem own_retI (X : Stand p l e R s m args below meth c T locs cells slots) (hx : p.tables.exec = Jvm.exec) (hlk : meth.locks = false) {K N pc : Nat} {Ls : Array Slot} {z : Int32} {rest : List Value} {Q : Option Value → Heap → List Loc → Prop} (hret : meth.sig.returnType = some .int)
    (hd : decode c.code pc = .ok (.ireturn, 1)) (hK : cells ≤ K) (hN : slots ≤ N) (hQ : Q (some (.int z)) T.heap locs) :
    own_G p.tables e below (fun o U' => ∃ v L, o = .returned v ∧ Q v U'.heap L ∧ FrameEnd s o U' L K N) (T.setTop (mkF m pc Ls (.int z :: rest))) :=
  own_ret X hx hlk hret rfl (Or.inl ⟨rfl, Or.inl rfl, z, rfl⟩) hd hK hN hQ
theorem own_retZ (X : Stand p l e R s m args below meth c T locs cells slots) (hx : p.tables.exec = Jvm.exec) (hlk : meth.locks = false) {K N pc : Nat} {Ls : Array Slot} {z : Int32} {rest : List Value} {Q : Option Value → Heap → List Loc → Prop} (hret : meth.sig.returnType = some .boolean)
    (hd : decode c.code pc = .ok (.ireturn, 1)) (hz : z = 0 ∨ z = 1) (hK : cells ≤ K) (hN : slots ≤ N) (hQ : Q (some (.int z)) T.heap locs) :
    own_G p.tables e below (fun o U' => ∃ v L, o = .returned v ∧ Q v U'.heap L ∧ FrameEnd s o U' L K N) (T.setTop (mkF m pc Ls (.int z :: rest))) :=
  own_ret X hx hlk hret (by rcases hz with rfl | rfl <;> rfl) (Or.inl ⟨rfl, Or.inr (Or.inl rfl), z, rfl⟩) hd hK hN hQ
theorem own_retL (X : Stand p l e R s m args below meth c T locs cells slots) (hx : p.tables.exec = Jvm.exec) (hlk : meth.locks = false) {K N pc : Nat} {Ls : Array Slot} {z : Int64} {rest : List Value} {Q : Option Value → Heap → List Loc → Prop} (hret : meth.sig.returnType = some .long)
    (hd : decode c.code pc = .ok (.lreturn, 1)) (hK : cells ≤ K) (hN : slots ≤ N) (hQ : Q (some (.long z)) T.heap locs) :
    own_G p.tables e below (fun o U' => ∃ v L, o = .returned v ∧ Q v U'.heap L ∧ FrameEnd s o U' L K N) (T.setTop (mkF m pc Ls (.long z :: rest))) :=
  own_ret X hx hlk hret rfl (Or.inr (Or.inl ⟨rfl, rfl, z, rfl⟩)) hd hK hN hQ
theorem own_retA (X : Stand p l e R s m args below meth c T locs cells slots) (hx : p.tables.exec = Jvm.exec) (hlk : meth.locks = false) {K N pc : Nat} {Ls : Array Slot} {w : Value} {t : FieldType} {rest : List Value} {Q : Option Value → Heap → List Loc → Prop} (hret : meth.sig.returnType = some t) (ht : t.isReference = true) (hw : w.isRef = true)
    (hd : decode c.code pc = .ok (.areturn, 1)) (hK : cells ≤ K) (hN : slots ≤ N) (hQ : Q (some w) T.heap locs) :
    own_G p.tables e below (fun o U' => ∃ v L, o = .returned v ∧ Q v U'.heap L ∧ FrameEnd s o U' L K N) (T.setTop (mkF m pc Ls (w :: rest))) :=
  own_ret X hx hlk hret (by cases t <;> first | (cases ht; done) | (rcases ref_cases hw with rfl | ⟨z, rfl⟩ <;> rfl)) (Or.inr (Or.inr (Or.inr (Or.inr ⟨rfl, ht, hw⟩)))) hd hK hN hQ
theorem own_retV (X : Stand p l e R s m args below meth c T locs cells slots) (hx : p.tables.exec = Jvm.exec) (hlk : meth.locks = false) {K N pc : Nat} {Ls : Array Slot} {Q : Option Value → Heap → List Loc → Prop} (hret : meth.sig.returnType = none)
    (hd : decode c.code pc = .ok (.return_, 1)) (hK : cells ≤ K) (hN : slots ≤ N) (hQ : Q none T.heap locs) :
    own_G p.tables e below (fun o U' => ∃ v L, o = .returned v ∧ Q v U'.heap L ∧ FrameEnd s o U' L K N) (T.setTop (mkF m pc Ls [])) := by
  obtain ⟨fs, hr, hrun, hended, hW, hsame⟩ := X.leave (v := none) (fun _ => rfl) hlk
  exact ⟨_, _, X.returnOut hx hret hd hr, hrun, hended, _, _, rfl, hQ, ⟨_, rfl⟩, hW, hsame.mono hK hN⟩
theorem own_acmpVE (X : Stand p l e R s m args below meth c T locs cells slots) (hx : p.tables.exec = Jvm.exec) {cd : ACond} {x y : Value} (h1 : x.isRef = true) (h2 : y.isRef = true) {o : Int} {pc pc' : Nat} {Ls : Array Slot} {rest : List Value} (hd : decode c.code pc = .ok (.if_acmp cd o, 3)) (ho : 0 ≤ (pc : Int) + o) (hp : pc' = if acV cd true = true then ((pc : Int) + o).toNat else pc + 3)
    (hc : x = y) (k : own_G p.tables e below F (T.setTop (mkF m pc' Ls rest))) : own_G p.tables e below F (T.setTop (mkF m pc Ls (y :: x :: rest))) :=
  own_go (fun _ q => RoadKit.acmp X hx rfl h1 h2 (pc0 := pc) (pc' := pc') (same := true) rfl hd rfl (by simp [hc]) ho hp q) k
theorem own_acmpVD (X : Stand p l e R s m args below meth c T locs cells slots) (hx : p.tables.exec = Jvm.exec) {cd : ACond} {x y : Value} (h1 : x.isRef = true) (h2 : y.isRef = true) {o : Int} {pc pc' : Nat} {Ls : Array Slot} {rest : List Value} (hd : decode c.code pc = .ok (.if_acmp cd o, 3)) (ho : 0 ≤ (pc : Int) + o) (hp : pc' = if acV cd false = true then ((pc : Int) + o).toNat else pc + 3)
    (hc : ¬ x = y) (k : own_G p.tables e below F (T.setTop (mkF m pc' Ls rest))) : own_G p.tables e below F (T.setTop (mkF m pc Ls (y :: x :: rest))) :=
  own_go (fun _ q => RoadKit.acmp X hx rfl h1 h2 (pc0 := pc) (pc' := pc') (same := false) rfl hd rfl (by simp [hc]) ho hp q) k
theorem own_acmpAE (X : Stand p l e R s m args below meth c T locs cells slots) (hx : p.tables.exec = Jvm.exec) {cd : ACond} {x y : Addr} {o : Int} {pc pc' : Nat} {Ls : Array Slot} {rest : List Value} (hd : decode c.code pc = .ok (.if_acmp cd o, 3)) (ho : 0 ≤ (pc : Int) + o) (hp : pc' = if acV cd true = true then ((pc : Int) + o).toNat else pc + 3)
    (hc : x = y) (k : own_G p.tables e below F (T.setTop (mkF m pc' Ls rest))) : own_G p.tables e below F (T.setTop (mkF m pc Ls (.ref y :: .ref x :: rest))) :=
  own_acmpVE X hx rfl rfl hd ho hp (by rw [hc]) k
theorem own_acmpAD (X : Stand p l e R s m args below meth c T locs cells slots) (hx : p.tables.exec = Jvm.exec) {cd : ACond} {x y : Addr} {o : Int} {pc pc' : Nat} {Ls : Array Slot} {rest : List Value} (hd : decode c.code pc = .ok (.if_acmp cd o, 3)) (ho : 0 ≤ (pc : Int) + o) (hp : pc' = if acV cd false = true then ((pc : Int) + o).toNat else pc + 3)
    (hc : ¬ x = y) (k : own_G p.tables e below F (T.setTop (mkF m pc' Ls rest))) : own_G p.tables e below F (T.setTop (mkF m pc Ls (.ref y :: .ref x :: rest))) :=
  own_acmpVD X hx rfl rfl hd ho hp (fun q => hc (by cases q; rfl)) k
end Own
theorem own_cat1 {v : Value} (h : v.isRef = true) : v.category = 1 := by cases v <;> first | (cases h; done) | rfl
theorem own_sta_keep {Z : State} {h h' : Heap} {C n d : String} {v : Value} {ws : List Addr} (F : Sta Z h C n d v) (K : Keep h h' ws) (q : ∀ x ∈ ws, ∀ c : Cell, h[x]? = some c → c.vm.isStatics = false) : Sta Z h' C n d v := by
  obtain ⟨cf, i, k, f, st, cell, h1, h2, h3, h4, h5, h6, h7⟩ := F
  exact ⟨cf, i, k, f, st, cell, h1, h2, h3, h4, K.2.1 _ _ h5 (fun z => by rw [q _ z _ h5] at h6; cases h6), h6, h7⟩
theorem own_eqint {t : Term} {n : Int32} {args : Array Value} {s : State} (h : (Jvm.Cond.eq t (Term.int n)).value args s none s [] = some true) : t.eval args s none [] s = some (.int n) := by
  have hb : (Term.int n).eval args s none [] s = some (.int n) := Term.int_eval n
  simp only [Jvm.Cond.value, hb] at h
  cases ht : t.eval args s none [] s with
  | none => simp [ht] at h
  | some v => cases v <;> simp [ht] at h ⊢; exact h
theorem own_iconst {tb : Tables} [Ours tb] {e : Env} {below : List Frame} {T target : State} {m : MethodId} {c : Code} {g : JFrame} {v : Int32} (h : At T m c below) (hx : tb.exec = Jvm.exec) (hg : g.method = m) {i : Int} (hd : decode c.code g.pc = .ok (.iconst i, 1)) (hv : Int32.ofInt i = v)
    (hr : Steps tb e below (T.setTop { g with pc := g.pc + 1, stack := .int v :: g.stack }) target) : Steps tb e below (T.setTop g) target := by
  subst hv
  exact XS.iconst h hx hg hd hr
theorem own_bipush {tb : Tables} [Ours tb] {e : Env} {below : List Frame} {T target : State} {m : MethodId} {c : Code} {g : JFrame} {v : Int32} (h : At T m c below) (hx : tb.exec = Jvm.exec) (hg : g.method = m) {i : Int} (hd : decode c.code g.pc = .ok (.bipush i, 2)) (hv : (Int8.ofInt i).toInt32 = v)
    (hr : Steps tb e below (T.setTop { g with pc := g.pc + 2, stack := .int v :: g.stack }) target) : Steps tb e below (T.setTop g) target := by
  subst hv
  exact XS.bipush h hx hg hd hr
theorem own_sipush {tb : Tables} [Ours tb] {e : Env} {below : List Frame} {T target : State} {m : MethodId} {c : Code} {g : JFrame} {v : Int32} (h : At T m c below) (hx : tb.exec = Jvm.exec) (hg : g.method = m) {i : Int} (hd : decode c.code g.pc = .ok (.sipush i, 3)) (hv : (Int16.ofInt i).toInt32 = v)
    (hr : Steps tb e below (T.setTop { g with pc := g.pc + 3, stack := .int v :: g.stack }) target) : Steps tb e below (T.setTop g) target := by
  subst hv
  exact XS.sipush h hx hg hd hr
/-! own layer: arrays by their whole list of values -/
def own_Ar (Z : State) (h : Heap) (a : Addr) (ty : FieldType) (L : List Value) : Prop := ∃ c : Cell, Arr Z h a c ty ∧ c.slots.toList = L
section OwnArr
variable {Z : State} {h h' : Heap} {a b : Addr} {ty : FieldType} {L : List Value}
theorem own_Ar_new {cA : ClassId} {n : Int32} {N : Nat} (A : Arr Z h a (newA cA ty n) ty) (hN : n.toNatClampNeg = N) (hL : List.replicate N (defaultValue ty) = L) : own_Ar Z h a ty L := ⟨_, A, by rw [← hL, ← hN]; simp [newA]⟩
theorem own_Ar_ext (F : own_Ar Z h a ty L) (E : Ext h h') : own_Ar Z h' a ty L := by obtain ⟨c, A, r⟩ := F; exact ⟨c, A.ext E, r⟩
theorem own_Ar_other {sl : Nat} {v : Value} (F : own_Ar Z h b ty L) (W : Wr h h' a sl v) (q : b ≠ a) : own_Ar Z h' b ty L := by obtain ⟨c, A, r⟩ := F; exact ⟨c, A.other W q, r⟩
theorem own_Ar_keep {ws : List Addr} (F : own_Ar Z h a ty L) (K : Keep h h' ws) (q : a ∉ ws) : own_Ar Z h' a ty L := by obtain ⟨c, A, r⟩ := F; exact ⟨c, ⟨K.2.1 a c A.1 q, A.2⟩, r⟩
theorem own_Ar_lt (F : own_Ar Z h a ty L) : a < h.size := by obtain ⟨c, A, -⟩ := F; exact A.lt
theorem own_Ar_same {i : Nat} {v : Value} {L' : List Value} (F : own_Ar Z h a ty L) (W : Wr h h' a i v) (hL : L.set i v = L') : own_Ar Z h' a ty L' := by
  obtain ⟨c, A, r⟩ := F
  refine ⟨_, A.same W, ?_⟩
  rw [← hL, ← r]
  simp [Cell.setSlot]
theorem own_Ar_ne {C : String} {k : Nat} {a0 : Array Value} (E : Exa Z h b C) (wi : (Jvm.Cond.instantiable C k).before a0 Z = true) (F : own_Ar Z h a ty L) : b ≠ a := by obtain ⟨c, A, -⟩ := F; exact ne_arr E wi A
theorem own_in_of {c : Cell} {j : Int32} (r : c.slots.toList = L) (hj : ¬ j < 0) (hl : j.toNatClampNeg < L.length) : ¬ (j < 0 ∨ c.slots.size ≤ j.toNatClampNeg) := by
  have e : c.slots.size = L.length := by rw [← r]; simp
  rw [e]
  exact fun q => q.elim hj (fun z => absurd hl (Nat.not_lt.mpr z))
theorem own_at_of {c : Cell} {i : Nat} {v : Value} (r : c.slots.toList = L) (hv : L[i]? = some v) : c.slots[i]? = some v := by
  rw [← hv, ← r]; simp
theorem own_lt_of {i : Nat} {v : Value} (hv : L[i]? = some v) : i < L.length := (List.getElem?_eq_some_iff.mp hv).1
variable {p : Program} {l : Launch} {e : Env} {R : Room} {s : State} {m : MethodId} {args : Array Value} {below : List Frame} {meth : Method} {c : Code} {T : State} {locs : List Loc} {cells slots : Nat}
theorem own_stI (X : Stand p l e R s m args below meth c T locs cells slots) (hx : p.tables.exec = Jvm.exec) (hZ : Z.Warmed39 s.vm) (eT : T.heap = h) (F : own_Ar Z h a .int L) {j x : Int32} {i : Nat} (hi : j.toNatClampNeg = i) (hj : ¬ j < 0) (hl : i < L.length) {L' : List Value} (hL : L.set i (.int x) = L')
    {g : JFrame} (hg : g.method = m) {rest : List Value} (hs : g.stack = .int x :: .int j :: .ref a :: rest) (hd : decode c.code g.pc = .ok (.iastore, 1)) :
    ∃ T' h', Stand p l e R s m args below meth c T' (locs ++ [⟨a, i⟩]) cells slots ∧ T'.heap = h' ∧ Wr h h' a i (.int x) ∧ own_Ar Z h' a .int L' ∧ ∀ target, Steps p.tables e below (T'.setTop { g with pc := g.pc + 1, stack := rest }) target → Steps p.tables e below (T.setTop g) target := by
  subst hi
  obtain ⟨cl, A, r⟩ := F
  obtain ⟨T', h', X', e', W, st⟩ := stI X hx hZ eT A (own_in_of r hj hl) hg hs hd
  exact ⟨T', h', X', e', W, own_Ar_same ⟨cl, A, r⟩ W hL, st⟩
theorem own_ldI (X : Stand p l e R s m args below meth c T locs cells slots) (hx : p.tables.exec = Jvm.exec) (hZ : Z.Warmed39 s.vm) (eT : T.heap = h) (F : own_Ar Z h a .int L) {j : Int32} {v : Value} (hj : ¬ j < 0) (hv : L[j.toNatClampNeg]? = some v)
    {g : JFrame} (hg : g.method = m) {rest : List Value} (hs : g.stack = .int j :: .ref a :: rest) (hd : decode c.code g.pc = .ok (.iaload, 1)) :
    ∀ target, Steps p.tables e below (T.setTop { g with pc := g.pc + 1, stack := v :: rest }) target → Steps p.tables e below (T.setTop g) target := by
  obtain ⟨cl, A, r⟩ := F
  exact X.iaload hx (by rw [eT]; exact A.1) (State.isArrayOf_alike hZ.alike A.2.1) A.2.2 (own_in_of r hj (own_lt_of hv)) (own_at_of r hv) hg hs hd
theorem own_ldB (X : Stand p l e R s m args below meth c T locs cells slots) (hx : p.tables.exec = Jvm.exec) (hZ : Z.Warmed39 s.vm) (eT : T.heap = h) (F : own_Ar Z h a .byte L) {j : Int32} {v : Value} (hj : ¬ j < 0) (hv : L[j.toNatClampNeg]? = some v)
    {g : JFrame} (hg : g.method = m) {rest : List Value} (hs : g.stack = .int j :: .ref a :: rest) (hd : decode c.code g.pc = .ok (.baload, 1)) :
    ∀ target, Steps p.tables e below (T.setTop { g with pc := g.pc + 1, stack := v :: rest }) target → Steps p.tables e below (T.setTop g) target := by
  obtain ⟨cl, A, r⟩ := F
  exact X.baloadBytes hx (by rw [eT]; exact A.1) (State.isArrayOf_alike hZ.alike A.2.1) A.2.2 (own_in_of r hj (own_lt_of hv)) (own_at_of r hv) hg hs hd
theorem own_ldR (X : Stand p l e R s m args below meth c T locs cells slots) (hx : p.tables.exec = Jvm.exec) (hZ : Z.Warmed39 s.vm) (eT : T.heap = h) (F : own_Ar Z h a ty L) (hty : ty.isReference = true) {j : Int32} {v : Value} (hj : ¬ j < 0) (hv : L[j.toNatClampNeg]? = some v)
    {g : JFrame} (hg : g.method = m) {rest : List Value} (hs : g.stack = .int j :: .ref a :: rest) (hd : decode c.code g.pc = .ok (.aaload, 1)) :
    ∀ target, Steps p.tables e below (T.setTop { g with pc := g.pc + 1, stack := v :: rest }) target → Steps p.tables e below (T.setTop g) target := by
  obtain ⟨cl, A, r⟩ := F
  exact X.aaload hx (by rw [eT]; exact A.1) (State.isArrayOf_alike hZ.alike A.2.1) hty A.2.2 (own_in_of r hj (own_lt_of hv)) (own_at_of r hv) hg hs hd
theorem own_alen (X : Stand p l e R s m args below meth c T locs cells slots) (hx : p.tables.exec = Jvm.exec) (hZ : Z.Warmed39 s.vm) (eT : T.heap = h) (F : own_Ar Z h a ty L) {n : Int32} (hn : L.length.toInt32 = n)
    {g : JFrame} (hg : g.method = m) {rest : List Value} (hs : g.stack = .ref a :: rest) (hd : decode c.code g.pc = .ok (.arraylength, 1)) :
    ∀ target, Steps p.tables e below (T.setTop { g with pc := g.pc + 1, stack := .int n :: rest }) target → Steps p.tables e below (T.setTop g) target := by
  obtain ⟨cl, A, r⟩ := F
  have q : cl.slots.size.toInt32 = n := by rw [← hn, ← r]; simp
  rw [← q]
  exact fun t k => X.arraylength hx (by rw [eT]; exact A.1) (State.isArrayOf_alike hZ.alike A.2.1) hg hs hd t k
end OwnArr
/-! own layer: arrays of references -/
def own_Ao (Z : State) (h : Heap) (a : Addr) (C : String) (L : List Value) : Prop := ∃ c : Cell, Arr Z h a c (.object C) ∧ Ovr Z c.cls C ∧ c.slots.toList = L
section OwnArrO
variable {Z : State} {h h' : Heap} {a b : Addr} {C : String} {L : List Value}
theorem own_Ao_new {cA : ClassId} {n : Int32} (A : Arr Z h a (newA cA (.object C) n) (.object C)) (O : Ovr Z cA C) : own_Ao Z h a C (List.replicate n.toNatClampNeg .null) := ⟨_, A, O, by simp [newA, defaultValue]⟩
theorem own_Ao_ar (F : own_Ao Z h a C L) : own_Ar Z h a (.object C) L := by obtain ⟨c, A, -, r⟩ := F; exact ⟨c, A, r⟩
theorem own_Ao_ext (F : own_Ao Z h a C L) (E : Ext h h') : own_Ao Z h' a C L := by obtain ⟨c, A, r⟩ := F; exact ⟨c, A.ext E, r⟩
theorem own_Ao_other {sl : Nat} {v : Value} (F : own_Ao Z h b C L) (W : Wr h h' a sl v) (q : b ≠ a) : own_Ao Z h' b C L := by obtain ⟨c, A, r⟩ := F; exact ⟨c, A.other W q, r⟩
theorem own_Ao_keep {ws : List Addr} (F : own_Ao Z h a C L) (K : Keep h h' ws) (q : a ∉ ws) : own_Ao Z h' a C L := by obtain ⟨c, A, r⟩ := F; exact ⟨c, ⟨K.2.1 a c A.1 q, A.2⟩, r⟩
theorem own_Ao_lt (F : own_Ao Z h a C L) : a < h.size := by obtain ⟨c, A, -⟩ := F; exact A.lt
theorem own_Ao_same {i : Nat} {v : Value} (F : own_Ao Z h a C L) (W : Wr h h' a i v) : own_Ao Z h' a C (L.set i v) := by
  obtain ⟨c, A, O, r⟩ := F
  refine ⟨_, A.same W, O, ?_⟩
  rw [← r]
  simp [Cell.setSlot]
variable {p : Program} {l : Launch} {e : Env} {R : Room} {s : State} {m : MethodId} {args : Array Value} {below : List Frame} {meth : Method} {c : Code} {T : State} {locs : List Loc} {cells slots : Nat}
theorem own_stR (X : Stand p l e R s m args below meth c T locs cells slots) (hx : p.tables.exec = Jvm.exec) (hZ : Z.Warmed39 s.vm) (eT : T.heap = h) (F : own_Ao Z h a C L) {j : Int32} {v : Value} (hv : v = .null ∨ ∃ y, v = .ref y ∧ Ins Z h y C true) (hj : ¬ j < 0) (hl : j.toNatClampNeg < L.length)
    {g : JFrame} (hg : g.method = m) {rest : List Value} (hs : g.stack = v :: .int j :: .ref a :: rest) (hd : decode c.code g.pc = .ok (.aastore, 1)) :
    ∃ T' h', Stand p l e R s m args below meth c T' (locs ++ [⟨a, j.toNatClampNeg⟩]) cells slots ∧ T'.heap = h' ∧ Wr h h' a j.toNatClampNeg v ∧ own_Ao Z h' a C (L.set j.toNatClampNeg v) ∧ ∀ target, Steps p.tables e below (T'.setTop { g with pc := g.pc + 1, stack := rest }) target → Steps p.tables e below (T.setTop g) target := by
  obtain ⟨cl, A, O, r⟩ := F
  have S : Sto Z h a v := by
    rcases hv with rfl | ⟨y, rfl, I⟩
    · exact Or.inl rfl
    · exact Sto.of A O I
  obtain ⟨T', h', X', e', W, st⟩ := stR X hx hZ eT A (own_in_of r hj hl) rfl S hg hs hd
  exact ⟨T', h', X', e', W, own_Ao_same ⟨cl, A, O, r⟩ W, st⟩
end OwnArrO
/-! own layer: a bundle of boxed ints -/
def own_Bn (Z : State) (h : Heap) (l : List (Addr × Int32)) : Prop := ∀ x ∈ l, Exa Z h x.1 "java/lang/Integer" ∧ Fld Z h x.1 "java/lang/Integer" "value" "I" (.int x.2)
theorem own_Bn_keep {Z : State} {h h' : Heap} {l : List (Addr × Int32)} {ws : List Addr} (B : own_Bn Z h l) (K : Keep h h' ws) (q : ∀ x ∈ l, x.1 ∉ ws) : own_Bn Z h' l := fun x hx => ⟨(B x hx).1.keep K, (B x hx).2.keep K (q x hx)⟩
theorem own_Bn_exa {Z : State} {h : Heap} {l : List (Addr × Int32)} {a : Addr} {v : Int32} (B : own_Bn Z h l) (q : (a, v) ∈ l) : Exa Z h a "java/lang/Integer" := (B _ q).1
theorem own_Bn_fld {Z : State} {h : Heap} {l : List (Addr × Int32)} {a : Addr} {v : Int32} (B : own_Bn Z h l) (q : (a, v) ∈ l) : Fld Z h a "java/lang/Integer" "value" "I" (.int v) := (B _ q).2
theorem own_Bn_nil (Z : State) (h : Heap) : own_Bn Z h [] := fun _ q => nomatch q
theorem own_Bn_cons {Z : State} {h : Heap} {l : List (Addr × Int32)} {a : Addr} {v : Int32} (E : Exa Z h a "java/lang/Integer") (F : Fld Z h a "java/lang/Integer" "value" "I" (.int v)) (B : own_Bn Z h l) : own_Bn Z h ((a, v) :: l) := fun x hx => by
  rcases List.mem_cons.mp hx with rfl | q
  · exact ⟨E, F⟩
  · exact B x q
abbrev own_y1 : MethodName := ⟨"com/example/uni_lock/unilock/CommandTakesPinLaw", "pick", "(I)Lcom/example/uni_lock/unilock/Command;"⟩
abbrev own_y2 : MethodName := ⟨"com/example/uni_lock/unilock/Command", "takes", "(I)Z"⟩
theorem own_pd1 : parseMethodDescriptor "(I)Lcom/example/uni_lock/unilock/Command;" = some ⟨[.int], (some (.object "com/example/uni_lock/unilock/Command"))⟩ := by decide +kernel
theorem own_pd2 : parseMethodDescriptor "(I)Z" = some ⟨[.int], (some .boolean)⟩ := by decide +kernel
def own_S (Z : State) (h : Heap) (ad : Nat → Addr) : Prop := Sta Z h "com/example/uni_lock/unilock/Command" "PING" "Lcom/example/uni_lock/unilock/Command;" (.ref (ad 0)) ∧ Sta Z h "com/example/uni_lock/unilock/Command" "SESSION_ID" "Lcom/example/uni_lock/unilock/Command;" (.ref (ad 1)) ∧ Sta Z h "com/example/uni_lock/unilock/Command" "ADVISORY_LOCK" "Lcom/example/uni_lock/unilock/Command;" (.ref (ad 2)) ∧ Sta Z h "com/example/uni_lock/unilock/Command" "ADVISORY_LOCK_SHARED" "Lcom/example/uni_lock/unilock/Command;" (.ref (ad 3)) ∧ Sta Z h "com/example/uni_lock/unilock/Command" "TRY_ADVISORY_LOCK" "Lcom/example/uni_lock/unilock/Command;" (.ref (ad 4)) ∧ Sta Z h "com/example/uni_lock/unilock/Command" "TRY_ADVISORY_LOCK_SHARED" "Lcom/example/uni_lock/unilock/Command;" (.ref (ad 5)) ∧ Sta Z h "com/example/uni_lock/unilock/Command" "ADVISORY_XACT_LOCK" "Lcom/example/uni_lock/unilock/Command;" (.ref (ad 6)) ∧ Sta Z h "com/example/uni_lock/unilock/Command" "ADVISORY_XACT_LOCK_SHARED" "Lcom/example/uni_lock/unilock/Command;" (.ref (ad 7)) ∧ Sta Z h "com/example/uni_lock/unilock/Command" "TRY_ADVISORY_XACT_LOCK" "Lcom/example/uni_lock/unilock/Command;" (.ref (ad 8)) ∧ Sta Z h "com/example/uni_lock/unilock/Command" "TRY_ADVISORY_XACT_LOCK_SHARED" "Lcom/example/uni_lock/unilock/Command;" (.ref (ad 9)) ∧ Sta Z h "com/example/uni_lock/unilock/Command" "ADVISORY_UNLOCK" "Lcom/example/uni_lock/unilock/Command;" (.ref (ad 10)) ∧ Sta Z h "com/example/uni_lock/unilock/Command" "ADVISORY_UNLOCK_SHARED" "Lcom/example/uni_lock/unilock/Command;" (.ref (ad 11)) ∧ Sta Z h "com/example/uni_lock/unilock/Command" "ADVISORY_UNLOCK_ALL" "Lcom/example/uni_lock/unilock/Command;" (.ref (ad 12)) ∧ Sta Z h "com/example/uni_lock/unilock/Command" "BEGIN" "Lcom/example/uni_lock/unilock/Command;" (.ref (ad 13)) ∧ Sta Z h "com/example/uni_lock/unilock/Command" "COMMIT" "Lcom/example/uni_lock/unilock/Command;" (.ref (ad 14)) ∧ Sta Z h "com/example/uni_lock/unilock/Command" "ROLLBACK" "Lcom/example/uni_lock/unilock/Command;" (.ref (ad 15)) ∧ Sta Z h "com/example/uni_lock/unilock/Command" "SAVEPOINT" "Lcom/example/uni_lock/unilock/Command;" (.ref (ad 16)) ∧ Sta Z h "com/example/uni_lock/unilock/Command" "RELEASE" "Lcom/example/uni_lock/unilock/Command;" (.ref (ad 17)) ∧ Sta Z h "com/example/uni_lock/unilock/Command" "LOCK" "Lcom/example/uni_lock/unilock/Command;" (.ref (ad 18)) ∧ Sta Z h "com/example/uni_lock/unilock/Command" "LOCKROW" "Lcom/example/uni_lock/unilock/Command;" (.ref (ad 19)) ∧ Sta Z h "com/example/uni_lock/unilock/Command" "SET" "Lcom/example/uni_lock/unilock/Command;" (.ref (ad 20)) ∧ Sta Z h "com/example/uni_lock/unilock/Command" "SHOW" "Lcom/example/uni_lock/unilock/Command;" (.ref (ad 21)) ∧ Sta Z h "com/example/uni_lock/unilock/Command" "LOCKS" "Lcom/example/uni_lock/unilock/Command;" (.ref (ad 22))
theorem own_S_keep {Z : State} {h h' : Heap} {ad : Nat → Addr} (H : own_S Z h ad) (K : Keep h h' []) : own_S Z h' ad := by
  obtain ⟨s0, s1, s2, s3, s4, s5, s6, s7, s8, s9, s10, s11, s12, s13, s14, s15, s16, s17, s18, s19, s20, s21, s22⟩ := H
  exact ⟨own_sta_keep s0 K (fun _ q => nomatch q), own_sta_keep s1 K (fun _ q => nomatch q), own_sta_keep s2 K (fun _ q => nomatch q), own_sta_keep s3 K (fun _ q => nomatch q), own_sta_keep s4 K (fun _ q => nomatch q), own_sta_keep s5 K (fun _ q => nomatch q), own_sta_keep s6 K (fun _ q => nomatch q), own_sta_keep s7 K (fun _ q => nomatch q), own_sta_keep s8 K (fun _ q => nomatch q), own_sta_keep s9 K (fun _ q => nomatch q), own_sta_keep s10 K (fun _ q => nomatch q), own_sta_keep s11 K (fun _ q => nomatch q), own_sta_keep s12 K (fun _ q => nomatch q), own_sta_keep s13 K (fun _ q => nomatch q), own_sta_keep s14 K (fun _ q => nomatch q), own_sta_keep s15 K (fun _ q => nomatch q), own_sta_keep s16 K (fun _ q => nomatch q), own_sta_keep s17 K (fun _ q => nomatch q), own_sta_keep s18 K (fun _ q => nomatch q), own_sta_keep s19 K (fun _ q => nomatch q), own_sta_keep s20 K (fun _ q => nomatch q), own_sta_keep s21 K (fun _ q => nomatch q), own_sta_keep s22 K (fun _ q => nomatch q)⟩
def own_los : List Int32 := [0, 0, 1, 1, 1, 1, 1, 1, 1, 1, 1, 1, 0, 0, 0, 0, 1, 1, 1, 4, 2, 1, 0]
def own_his : List Int32 := [0, 0, 2, 2, 2, 2, 2, 2, 2, 2, 2, 2, 0, 0, 0, 2, 1, 1, 7, 7, 3, 1, 1]
def own_in (f l p : Int32) : Int32 := if p < f then 0 else if l < p then 0 else 1
theorem own_k {p z : Int32} (h : z = ((p &&& (2147483647 : Int32)) % (23 : Int32))) : ¬ z < 0 ∧ z.toNatClampNeg < 23 := by
  have m := c_mask p (2147483647 : Int32) 31 (by decide) (by decide)
  have r := (c_irem (p &&& (2147483647 : Int32)) (23 : Int32) 23 (by decide)).1 (by omega)
  rw [← h] at r
  have e0 : (0 : Int32).toInt = 0 := by decide
  have q : ¬ z < 0 := by rw [Int32.lt_iff_toInt_lt]; omega
  have w := nat_of q
  exact ⟨q, by omega⟩
theorem own_kc {z : Int32} (q : ¬ z < 0) (h : z.toNatClampNeg < 23) : z = (0 : Int32) ∨ z = (1 : Int32) ∨ z = (2 : Int32) ∨ z = (3 : Int32) ∨ z = (4 : Int32) ∨ z = (5 : Int32) ∨ z = (6 : Int32) ∨ z = (7 : Int32) ∨ z = (8 : Int32) ∨ z = (9 : Int32) ∨ z = (10 : Int32) ∨ z = (11 : Int32) ∨ z = (12 : Int32) ∨ z = (13 : Int32) ∨ z = (14 : Int32) ∨ z = (15 : Int32) ∨ z = (16 : Int32) ∨ z = (17 : Int32) ∨ z = (18 : Int32) ∨ z = (19 : Int32) ∨ z = (20 : Int32) ∨ z = (21 : Int32) ∨ z = (22 : Int32) := by
  have w := nat_of q
  have e : ∀ n : Nat, n < 23 → z.toNatClampNeg = n → z = Int32.ofNat n := fun n hn hz => by
    apply Int32.toInt_inj.mp
    rw [w, hz, Int32.toInt_ofNat_of_lt (by omega)]
  generalize hg : z.toNatClampNeg = g at *
  have e' := e g h rfl
  clear e
  by_cases c0 : g = 0
  · subst c0; exact Or.inl e'
  by_cases c1 : g = 1
  · subst c1; exact Or.inr (Or.inl e')
  by_cases c2 : g = 2
  · subst c2; exact Or.inr (Or.inr (Or.inl e'))
  by_cases c3 : g = 3
  · subst c3; exact Or.inr (Or.inr (Or.inr (Or.inl e')))
  by_cases c4 : g = 4
  · subst c4; exact Or.inr (Or.inr (Or.inr (Or.inr (Or.inl e'))))
  by_cases c5 : g = 5
  · subst c5; exact Or.inr (Or.inr (Or.inr (Or.inr (Or.inr (Or.inl e')))))
  by_cases c6 : g = 6
  · subst c6; exact Or.inr (Or.inr (Or.inr (Or.inr (Or.inr (Or.inr (Or.inl e'))))))
  by_cases c7 : g = 7
  · subst c7; exact Or.inr (Or.inr (Or.inr (Or.inr (Or.inr (Or.inr (Or.inr (Or.inl e')))))))
  by_cases c8 : g = 8
  · subst c8; exact Or.inr (Or.inr (Or.inr (Or.inr (Or.inr (Or.inr (Or.inr (Or.inr (Or.inl e'))))))))
  by_cases c9 : g = 9
  · subst c9; exact Or.inr (Or.inr (Or.inr (Or.inr (Or.inr (Or.inr (Or.inr (Or.inr (Or.inr (Or.inl e')))))))))
  by_cases c10 : g = 10
  · subst c10; exact Or.inr (Or.inr (Or.inr (Or.inr (Or.inr (Or.inr (Or.inr (Or.inr (Or.inr (Or.inr (Or.inl e'))))))))))
  by_cases c11 : g = 11
  · subst c11; exact Or.inr (Or.inr (Or.inr (Or.inr (Or.inr (Or.inr (Or.inr (Or.inr (Or.inr (Or.inr (Or.inr (Or.inl e')))))))))))
  by_cases c12 : g = 12
  · subst c12; exact Or.inr (Or.inr (Or.inr (Or.inr (Or.inr (Or.inr (Or.inr (Or.inr (Or.inr (Or.inr (Or.inr (Or.inr (Or.inl e'))))))))))))
  by_cases c13 : g = 13
  · subst c13; exact Or.inr (Or.inr (Or.inr (Or.inr (Or.inr (Or.inr (Or.inr (Or.inr (Or.inr (Or.inr (Or.inr (Or.inr (Or.inr (Or.inl e')))))))))))))
  by_cases c14 : g = 14
  · subst c14; exact Or.inr (Or.inr (Or.inr (Or.inr (Or.inr (Or.inr (Or.inr (Or.inr (Or.inr (Or.inr (Or.inr (Or.inr (Or.inr (Or.inr (Or.inl e'))))))))))))))
  by_cases c15 : g = 15
  · subst c15; exact Or.inr (Or.inr (Or.inr (Or.inr (Or.inr (Or.inr (Or.inr (Or.inr (Or.inr (Or.inr (Or.inr (Or.inr (Or.inr (Or.inr (Or.inr (Or.inl e')))))))))))))))
  by_cases c16 : g = 16
  · subst c16; exact Or.inr (Or.inr (Or.inr (Or.inr (Or.inr (Or.inr (Or.inr (Or.inr (Or.inr (Or.inr (Or.inr (Or.inr (Or.inr (Or.inr (Or.inr (Or.inr (Or.inl e'))))))))))))))))
  by_cases c17 : g = 17
  · subst c17; exact Or.inr (Or.inr (Or.inr (Or.inr (Or.inr (Or.inr (Or.inr (Or.inr (Or.inr (Or.inr (Or.inr (Or.inr (Or.inr (Or.inr (Or.inr (Or.inr (Or.inr (Or.inl e')))))))))))))))))
  by_cases c18 : g = 18
  · subst c18; exact Or.inr (Or.inr (Or.inr (Or.inr (Or.inr (Or.inr (Or.inr (Or.inr (Or.inr (Or.inr (Or.inr (Or.inr (Or.inr (Or.inr (Or.inr (Or.inr (Or.inr (Or.inr (Or.inl e'))))))))))))))))))
  by_cases c19 : g = 19
  · subst c19; exact Or.inr (Or.inr (Or.inr (Or.inr (Or.inr (Or.inr (Or.inr (Or.inr (Or.inr (Or.inr (Or.inr (Or.inr (Or.inr (Or.inr (Or.inr (Or.inr (Or.inr (Or.inr (Or.inr (Or.inl e')))))))))))))))))))
  by_cases c20 : g = 20
  · subst c20; exact Or.inr (Or.inr (Or.inr (Or.inr (Or.inr (Or.inr (Or.inr (Or.inr (Or.inr (Or.inr (Or.inr (Or.inr (Or.inr (Or.inr (Or.inr (Or.inr (Or.inr (Or.inr (Or.inr (Or.inr (Or.inl e'))))))))))))))))))))
  by_cases c21 : g = 21
  · subst c21; exact Or.inr (Or.inr (Or.inr (Or.inr (Or.inr (Or.inr (Or.inr (Or.inr (Or.inr (Or.inr (Or.inr (Or.inr (Or.inr (Or.inr (Or.inr (Or.inr (Or.inr (Or.inr (Or.inr (Or.inr (Or.inr (Or.inl e')))))))))))))))))))))
  by_cases c22 : g = 22
  · subst c22; exact Or.inr (Or.inr (Or.inr (Or.inr (Or.inr (Or.inr (Or.inr (Or.inr (Or.inr (Or.inr (Or.inr (Or.inr (Or.inr (Or.inr (Or.inr (Or.inr (Or.inr (Or.inr (Or.inr (Or.inr (Or.inr (Or.inr (e'))))))))))))))))))))))
  exact absurd h (by omega)
theorem own_get {L : List Int32} {k : Nat} (h : k < L.length) : (L.map Value.int)[k]? = some (.int (L.getD k 0)) := by
  simp [List.getElem?_map, List.getD, List.getElem?_eq_getElem h]

theorem own_pk_d0 : decode method_2_code 0 = .ok (.iload_n 0, 1) := by decide +kernel
theorem own_pk_d1 : decode method_2_code 1 = .ok (.tableswitch 191 0 21 #[103, 107, 111, 115, 119, 123, 127, 131, 135, 139, 143, 147, 151, 155, 159, 163, 167, 171, 175, 179, 183, 187], 103) := by decide +kernel
theorem own_pk_d104 : decode method_2_code 104 = .ok (.getstatic 7, 3) := by decide +kernel
theorem own_pk_d107 : decode method_2_code 107 = .ok (.areturn, 1) := by decide +kernel
theorem own_pk_d108 : decode method_2_code 108 = .ok (.getstatic 13, 3) := by decide +kernel
theorem own_pk_d111 : decode method_2_code 111 = .ok (.areturn, 1) := by decide +kernel
theorem own_pk_d112 : decode method_2_code 112 = .ok (.getstatic 16, 3) := by decide +kernel
theorem own_pk_d115 : decode method_2_code 115 = .ok (.areturn, 1) := by decide +kernel
theorem own_pk_d116 : decode method_2_code 116 = .ok (.getstatic 19, 3) := by decide +kernel
theorem own_pk_d119 : decode method_2_code 119 = .ok (.areturn, 1) := by decide +kernel
theorem own_pk_d120 : decode method_2_code 120 = .ok (.getstatic 22, 3) := by decide +kernel
theorem own_pk_d123 : decode method_2_code 123 = .ok (.areturn, 1) := by decide +kernel
theorem own_pk_d124 : decode method_2_code 124 = .ok (.getstatic 25, 3) := by decide +kernel
theorem own_pk_d127 : decode method_2_code 127 = .ok (.areturn, 1) := by decide +kernel
theorem own_pk_d128 : decode method_2_code 128 = .ok (.getstatic 28, 3) := by decide +kernel
theorem own_pk_d131 : decode method_2_code 131 = .ok (.areturn, 1) := by decide +kernel
theorem own_pk_d132 : decode method_2_code 132 = .ok (.getstatic 31, 3) := by decide +kernel
theorem own_pk_d135 : decode method_2_code 135 = .ok (.areturn, 1) := by decide +kernel
theorem own_pk_d136 : decode method_2_code 136 = .ok (.getstatic 34, 3) := by decide +kernel
theorem own_pk_d139 : decode method_2_code 139 = .ok (.areturn, 1) := by decide +kernel
theorem own_pk_d140 : decode method_2_code 140 = .ok (.getstatic 37, 3) := by decide +kernel
theorem own_pk_d143 : decode method_2_code 143 = .ok (.areturn, 1) := by decide +kernel
theorem own_pk_d144 : decode method_2_code 144 = .ok (.getstatic 40, 3) := by decide +kernel
theorem own_pk_d147 : decode method_2_code 147 = .ok (.areturn, 1) := by decide +kernel
theorem own_pk_d148 : decode method_2_code 148 = .ok (.getstatic 43, 3) := by decide +kernel
theorem own_pk_d151 : decode method_2_code 151 = .ok (.areturn, 1) := by decide +kernel
theorem own_pk_d152 : decode method_2_code 152 = .ok (.getstatic 46, 3) := by decide +kernel
theorem own_pk_d155 : decode method_2_code 155 = .ok (.areturn, 1) := by decide +kernel
theorem own_pk_d156 : decode method_2_code 156 = .ok (.getstatic 49, 3) := by decide +kernel
theorem own_pk_d159 : decode method_2_code 159 = .ok (.areturn, 1) := by decide +kernel
theorem own_pk_d160 : decode method_2_code 160 = .ok (.getstatic 52, 3) := by decide +kernel
theorem own_pk_d163 : decode method_2_code 163 = .ok (.areturn, 1) := by decide +kernel
theorem own_pk_d164 : decode method_2_code 164 = .ok (.getstatic 55, 3) := by decide +kernel
theorem own_pk_d167 : decode method_2_code 167 = .ok (.areturn, 1) := by decide +kernel
theorem own_pk_d168 : decode method_2_code 168 = .ok (.getstatic 58, 3) := by decide +kernel
theorem own_pk_d171 : decode method_2_code 171 = .ok (.areturn, 1) := by decide +kernel
theorem own_pk_d172 : decode method_2_code 172 = .ok (.getstatic 61, 3) := by decide +kernel
theorem own_pk_d175 : decode method_2_code 175 = .ok (.areturn, 1) := by decide +kernel
theorem own_pk_d176 : decode method_2_code 176 = .ok (.getstatic 64, 3) := by decide +kernel
theorem own_pk_d179 : decode method_2_code 179 = .ok (.areturn, 1) := by decide +kernel
theorem own_pk_d180 : decode method_2_code 180 = .ok (.getstatic 67, 3) := by decide +kernel
theorem own_pk_d183 : decode method_2_code 183 = .ok (.areturn, 1) := by decide +kernel
theorem own_pk_d184 : decode method_2_code 184 = .ok (.getstatic 70, 3) := by decide +kernel
theorem own_pk_d187 : decode method_2_code 187 = .ok (.areturn, 1) := by decide +kernel
theorem own_pk_d188 : decode method_2_code 188 = .ok (.getstatic 73, 3) := by decide +kernel
theorem own_pk_d191 : decode method_2_code 191 = .ok (.areturn, 1) := by decide +kernel
theorem own_pk_d192 : decode method_2_code 192 = .ok (.getstatic 76, 3) := by decide +kernel
theorem own_pk_d195 : decode method_2_code 195 = .ok (.areturn, 1) := by decide +kernel
theorem own_pk_pn : plainName "com/example/uni_lock/unilock/CommandTakesPinLaw" = true := by first | (simp [plainName, overriddenIn]; done) | decide +kernel
theorem own_pk_ef (m : MethodId) (pk : Int32) : entryFrame m #[(.int pk)] 1 = mkF m 0 #[iv pk] [] := by first | (simp [entryFrame, mkF, argsToLocals, Value.category]; done) | rfl
def own_pk_Q (Z : State) (pk : Int32) (ad : Nat → Addr) (h0 : Heap) (n0 : Nat) (v : Option Value) (h : Heap) (L : List Loc) : Prop := v = some (.ref (ad pk.toNatClampNeg)) ∧ Fr n0 L ∧ h = h0
set_option maxRecDepth 65536 in
set_option maxHeartbeats 40000000 in
theorem own_pk (l : Launch) (Z : State) (a0 : Array Value) (hw : ∀ d ∈ tables_1, d.before a0 Z = true) (ws : List Jvm.Cond) (pk : Int32) (ad : Nat → Addr) (h0 : Heap) (n0 : Nat) (hS : own_S Z h0 ad) (q1 : ¬ pk < 0) (q2 : pk.toNatClampNeg < 23) :
    MetFree l own_y1 (head1 (Jvm.Cond.code own_y1 method_2_code 1 (some (.object "com/example/uni_lock/unilock/Command")) :: ws) ({ frames := 0, cells := 0, slots := 0, locals := 0 } : Room)) (fun a U => a = #[(.int pk)] ∧ Z.Warmed39 U.vm ∧ U.heap = h0) (fun _ _ _ _ _ => True) (fun _ U o U' => ∃ v L, o = .returned v ∧ (own_pk_Q Z pk ad h0 n0) v U'.heap L ∧ FrameEnd U o U' L ({ frames := 0, cells := 0, slots := 0, locals := 0 } : Room).cells ({ frames := 0, cells := 0, slots := 0, locals := 0 } : Room).slots) := by
  refine MetFree.of_bodySF (plainFor_of_name own_pk_pn) hisR ?_
  intro p e s m args below meth c s₁ Bd hml0 hP hK
  obtain ⟨rfl, hZ, hh⟩ := hP
  have hx := Bd.exec
  have hby := Bd.bytes
  have hml : c.maxLocals = 1 := hml0
  have hown : s.vm.findClass "com/example/uni_lock/unilock/CommandTakesPinLaw" = some m.cls := findClass_of_methodNamed Bd.named
  have hnm := (name_of_methodNamed Bd.named Bd.method).1
  have hlk : meth.locks = false := Bd.notSynchronized
  have X0 : Stand p l e ({ frames := 0, cells := 0, slots := 0, locals := 0 } : Room) s m #[(.int pk)] below meth c s₁ [] 0 0 := Stand.of_body Bd
  have e0 : s₁.heap = h0 := by rw [← hh, Bd.state]; rfl
  have N0 := Fr.nil n0
  have w_6 := hw _ (List.mem_of_getElem? (l := tables_1) (i := 6) rfl)
  have w_16 := hw _ (List.mem_of_getElem? (l := tables_1) (i := 16) rfl)
  have w_20 := hw _ (List.mem_of_getElem? (l := tables_1) (i := 20) rfl)
  have w_22 := hw _ (List.mem_of_getElem? (l := tables_1) (i := 22) rfl)
  have w_24 := hw _ (List.mem_of_getElem? (l := tables_1) (i := 24) rfl)
  have w_26 := hw _ (List.mem_of_getElem? (l := tables_1) (i := 26) rfl)
  have w_28 := hw _ (List.mem_of_getElem? (l := tables_1) (i := 28) rfl)
  have w_30 := hw _ (List.mem_of_getElem? (l := tables_1) (i := 30) rfl)
  have w_32 := hw _ (List.mem_of_getElem? (l := tables_1) (i := 32) rfl)
  have w_34 := hw _ (List.mem_of_getElem? (l := tables_1) (i := 34) rfl)
  have w_36 := hw _ (List.mem_of_getElem? (l := tables_1) (i := 36) rfl)
  have w_38 := hw _ (List.mem_of_getElem? (l := tables_1) (i := 38) rfl)
  have w_40 := hw _ (List.mem_of_getElem? (l := tables_1) (i := 40) rfl)
  have w_42 := hw _ (List.mem_of_getElem? (l := tables_1) (i := 42) rfl)
  have w_44 := hw _ (List.mem_of_getElem? (l := tables_1) (i := 44) rfl)
  have w_46 := hw _ (List.mem_of_getElem? (l := tables_1) (i := 46) rfl)
  have w_48 := hw _ (List.mem_of_getElem? (l := tables_1) (i := 48) rfl)
  have w_50 := hw _ (List.mem_of_getElem? (l := tables_1) (i := 50) rfl)
  have w_52 := hw _ (List.mem_of_getElem? (l := tables_1) (i := 52) rfl)
  have w_54 := hw _ (List.mem_of_getElem? (l := tables_1) (i := 54) rfl)
  have w_56 := hw _ (List.mem_of_getElem? (l := tables_1) (i := 56) rfl)
  have w_58 := hw _ (List.mem_of_getElem? (l := tables_1) (i := 58) rfl)
  have w_60 := hw _ (List.mem_of_getElem? (l := tables_1) (i := 60) rfl)
  show own_G p.tables e below (fun o U' => ∃ v L, o = .returned v ∧ (own_pk_Q Z pk ad h0 n0) v U'.heap L ∧ FrameEnd s o U' L ({ frames := 0, cells := 0, slots := 0, locals := 0 } : Room).cells ({ frames := 0, cells := 0, slots := 0, locals := 0 } : Room).slots) (s₁.setTop (entryFrame m #[(.int pk)] 1))
  refine own_go (B := s₁.setTop (mkF m 0 #[iv pk] [])) (fun t k => castTop (own_pk_ef m pk) k) ?_
  refine own_go (B := (s₁.setTop (mkF m 1 #[iv pk] [(.int pk)]))) (fun t k => XS.iloadN X0.here hx rfl (hb hby own_pk_d0) rfl k) ?_
  rcases own_kc q1 q2 with hk | hk | hk | hk | hk | hk | hk | hk | hk | hk | hk | hk | hk | hk | hk | hk | hk | hk | hk | hk | hk | hk | hk
  · have S0 := hS.1
    refine own_go (B := (s₁.setTop (mkF m 104 #[iv pk] []))) (fun t k => XS.tswIn X0.here hx rfl (pc0 := 1) (pc' := 104) rfl (hb hby own_pk_d1) rfl (by rw [hk]; decide) (o := 103) (by rw [hk]; decide) (by decide) (by decide) k) ?_
    obtain ⟨T1, X1, e1, st1⟩ := getS X0 hx hZ hown (host := "") w_6 Via.refl e0 S0 (g := (mkF m 104 #[iv pk] [])) rfl (hb hby own_pk_d104)
    refine own_go (B := (T1.setTop (mkF m 107 #[iv pk] [(.ref (ad 0))]))) st1 ?_
    exact own_retA X1 hx hlk Bd.returns rfl rfl (hb hby own_pk_d107) (own_b rfl) (own_b rfl) (Q := (own_pk_Q Z pk ad h0 n0)) ⟨by rw [hk]; rfl, N0, e1⟩
  · have S1 := hS.2.1
    refine own_go (B := (s₁.setTop (mkF m 108 #[iv pk] []))) (fun t k => XS.tswIn X0.here hx rfl (pc0 := 1) (pc' := 108) rfl (hb hby own_pk_d1) rfl (by rw [hk]; decide) (o := 107) (by rw [hk]; decide) (by decide) (by decide) k) ?_
    obtain ⟨T2, X2, e2, st2⟩ := getS X0 hx hZ hown (host := "") w_16 Via.refl e0 S1 (g := (mkF m 108 #[iv pk] [])) rfl (hb hby own_pk_d108)
    refine own_go (B := (T2.setTop (mkF m 111 #[iv pk] [(.ref (ad 1))]))) st2 ?_
    exact own_retA X2 hx hlk Bd.returns rfl rfl (hb hby own_pk_d111) (own_b rfl) (own_b rfl) (Q := (own_pk_Q Z pk ad h0 n0)) ⟨by rw [hk]; rfl, N0, e2⟩
  · have S2 := hS.2.2.1
    refine own_go (B := (s₁.setTop (mkF m 112 #[iv pk] []))) (fun t k => XS.tswIn X0.here hx rfl (pc0 := 1) (pc' := 112) rfl (hb hby own_pk_d1) rfl (by rw [hk]; decide) (o := 111) (by rw [hk]; decide) (by decide) (by decide) k) ?_
    obtain ⟨T3, X3, e3, st3⟩ := getS X0 hx hZ hown (host := "") w_34 Via.refl e0 S2 (g := (mkF m 112 #[iv pk] [])) rfl (hb hby own_pk_d112)
    refine own_go (B := (T3.setTop (mkF m 115 #[iv pk] [(.ref (ad 2))]))) st3 ?_
    exact own_retA X3 hx hlk Bd.returns rfl rfl (hb hby own_pk_d115) (own_b rfl) (own_b rfl) (Q := (own_pk_Q Z pk ad h0 n0)) ⟨by rw [hk]; rfl, N0, e3⟩
  · have S3 := hS.2.2.2.1
    refine own_go (B := (s₁.setTop (mkF m 116 #[iv pk] []))) (fun t k => XS.tswIn X0.here hx rfl (pc0 := 1) (pc' := 116) rfl (hb hby own_pk_d1) rfl (by rw [hk]; decide) (o := 115) (by rw [hk]; decide) (by decide) (by decide) k) ?_
    obtain ⟨T4, X4, e4, st4⟩ := getS X0 hx hZ hown (host := "") w_20 Via.refl e0 S3 (g := (mkF m 116 #[iv pk] [])) rfl (hb hby own_pk_d116)
    refine own_go (B := (T4.setTop (mkF m 119 #[iv pk] [(.ref (ad 3))]))) st4 ?_
    exact own_retA X4 hx hlk Bd.returns rfl rfl (hb hby own_pk_d119) (own_b rfl) (own_b rfl) (Q := (own_pk_Q Z pk ad h0 n0)) ⟨by rw [hk]; rfl, N0, e4⟩
  · have S4 := hS.2.2.2.2.1
    refine own_go (B := (s₁.setTop (mkF m 120 #[iv pk] []))) (fun t k => XS.tswIn X0.here hx rfl (pc0 := 1) (pc' := 120) rfl (hb hby own_pk_d1) rfl (by rw [hk]; decide) (o := 119) (by rw [hk]; decide) (by decide) (by decide) k) ?_
    obtain ⟨T5, X5, e5, st5⟩ := getS X0 hx hZ hown (host := "") w_52 Via.refl e0 S4 (g := (mkF m 120 #[iv pk] [])) rfl (hb hby own_pk_d120)
    refine own_go (B := (T5.setTop (mkF m 123 #[iv pk] [(.ref (ad 4))]))) st5 ?_
    exact own_retA X5 hx hlk Bd.returns rfl rfl (hb hby own_pk_d123) (own_b rfl) (own_b rfl) (Q := (own_pk_Q Z pk ad h0 n0)) ⟨by rw [hk]; rfl, N0, e5⟩
  · have S5 := hS.2.2.2.2.2.1
    refine own_go (B := (s₁.setTop (mkF m 124 #[iv pk] []))) (fun t k => XS.tswIn X0.here hx rfl (pc0 := 1) (pc' := 124) rfl (hb hby own_pk_d1) rfl (by rw [hk]; decide) (o := 123) (by rw [hk]; decide) (by decide) (by decide) k) ?_
    obtain ⟨T6, X6, e6, st6⟩ := getS X0 hx hZ hown (host := "") w_44 Via.refl e0 S5 (g := (mkF m 124 #[iv pk] [])) rfl (hb hby own_pk_d124)
    refine own_go (B := (T6.setTop (mkF m 127 #[iv pk] [(.ref (ad 5))]))) st6 ?_
    exact own_retA X6 hx hlk Bd.returns rfl rfl (hb hby own_pk_d127) (own_b rfl) (own_b rfl) (Q := (own_pk_Q Z pk ad h0 n0)) ⟨by rw [hk]; rfl, N0, e6⟩
  · have S6 := hS.2.2.2.2.2.2.1
    refine own_go (B := (s₁.setTop (mkF m 128 #[iv pk] []))) (fun t k => XS.tswIn X0.here hx rfl (pc0 := 1) (pc' := 128) rfl (hb hby own_pk_d1) rfl (by rw [hk]; decide) (o := 127) (by rw [hk]; decide) (by decide) (by decide) k) ?_
    obtain ⟨T7, X7, e7, st7⟩ := getS X0 hx hZ hown (host := "") w_50 Via.refl e0 S6 (g := (mkF m 128 #[iv pk] [])) rfl (hb hby own_pk_d128)
    refine own_go (B := (T7.setTop (mkF m 131 #[iv pk] [(.ref (ad 6))]))) st7 ?_
    exact own_retA X7 hx hlk Bd.returns rfl rfl (hb hby own_pk_d131) (own_b rfl) (own_b rfl) (Q := (own_pk_Q Z pk ad h0 n0)) ⟨by rw [hk]; rfl, N0, e7⟩
  · have S7 := hS.2.2.2.2.2.2.2.1
    refine own_go (B := (s₁.setTop (mkF m 132 #[iv pk] []))) (fun t k => XS.tswIn X0.here hx rfl (pc0 := 1) (pc' := 132) rfl (hb hby own_pk_d1) rfl (by rw [hk]; decide) (o := 131) (by rw [hk]; decide) (by decide) (by decide) k) ?_
    obtain ⟨T8, X8, e8, st8⟩ := getS X0 hx hZ hown (host := "") w_54 Via.refl e0 S7 (g := (mkF m 132 #[iv pk] [])) rfl (hb hby own_pk_d132)
    refine own_go (B := (T8.setTop (mkF m 135 #[iv pk] [(.ref (ad 7))]))) st8 ?_
    exact own_retA X8 hx hlk Bd.returns rfl rfl (hb hby own_pk_d135) (own_b rfl) (own_b rfl) (Q := (own_pk_Q Z pk ad h0 n0)) ⟨by rw [hk]; rfl, N0, e8⟩
  · have S8 := hS.2.2.2.2.2.2.2.2.1
    refine own_go (B := (s₁.setTop (mkF m 136 #[iv pk] []))) (fun t k => XS.tswIn X0.here hx rfl (pc0 := 1) (pc' := 136) rfl (hb hby own_pk_d1) rfl (by rw [hk]; decide) (o := 135) (by rw [hk]; decide) (by decide) (by decide) k) ?_
    obtain ⟨T9, X9, e9, st9⟩ := getS X0 hx hZ hown (host := "") w_24 Via.refl e0 S8 (g := (mkF m 136 #[iv pk] [])) rfl (hb hby own_pk_d136)
    refine own_go (B := (T9.setTop (mkF m 139 #[iv pk] [(.ref (ad 8))]))) st9 ?_
    exact own_retA X9 hx hlk Bd.returns rfl rfl (hb hby own_pk_d139) (own_b rfl) (own_b rfl) (Q := (own_pk_Q Z pk ad h0 n0)) ⟨by rw [hk]; rfl, N0, e9⟩
  · have S9 := hS.2.2.2.2.2.2.2.2.2.1
    refine own_go (B := (s₁.setTop (mkF m 140 #[iv pk] []))) (fun t k => XS.tswIn X0.here hx rfl (pc0 := 1) (pc' := 140) rfl (hb hby own_pk_d1) rfl (by rw [hk]; decide) (o := 139) (by rw [hk]; decide) (by decide) (by decide) k) ?_
    obtain ⟨T10, X10, e10, st10⟩ := getS X0 hx hZ hown (host := "") w_48 Via.refl e0 S9 (g := (mkF m 140 #[iv pk] [])) rfl (hb hby own_pk_d140)
    refine own_go (B := (T10.setTop (mkF m 143 #[iv pk] [(.ref (ad 9))]))) st10 ?_
    exact own_retA X10 hx hlk Bd.returns rfl rfl (hb hby own_pk_d143) (own_b rfl) (own_b rfl) (Q := (own_pk_Q Z pk ad h0 n0)) ⟨by rw [hk]; rfl, N0, e10⟩
  · have S10 := hS.2.2.2.2.2.2.2.2.2.2.1
    refine own_go (B := (s₁.setTop (mkF m 144 #[iv pk] []))) (fun t k => XS.tswIn X0.here hx rfl (pc0 := 1) (pc' := 144) rfl (hb hby own_pk_d1) rfl (by rw [hk]; decide) (o := 143) (by rw [hk]; decide) (by decide) (by decide) k) ?_
    obtain ⟨T11, X11, e11, st11⟩ := getS X0 hx hZ hown (host := "") w_22 Via.refl e0 S10 (g := (mkF m 144 #[iv pk] [])) rfl (hb hby own_pk_d144)
    refine own_go (B := (T11.setTop (mkF m 147 #[iv pk] [(.ref (ad 10))]))) st11 ?_
    exact own_retA X11 hx hlk Bd.returns rfl rfl (hb hby own_pk_d147) (own_b rfl) (own_b rfl) (Q := (own_pk_Q Z pk ad h0 n0)) ⟨by rw [hk]; rfl, N0, e11⟩
  · have S11 := hS.2.2.2.2.2.2.2.2.2.2.2.1
    refine own_go (B := (s₁.setTop (mkF m 148 #[iv pk] []))) (fun t k => XS.tswIn X0.here hx rfl (pc0 := 1) (pc' := 148) rfl (hb hby own_pk_d1) rfl (by rw [hk]; decide) (o := 147) (by rw [hk]; decide) (by decide) (by decide) k) ?_
    obtain ⟨T12, X12, e12, st12⟩ := getS X0 hx hZ hown (host := "") w_38 Via.refl e0 S11 (g := (mkF m 148 #[iv pk] [])) rfl (hb hby own_pk_d148)
    refine own_go (B := (T12.setTop (mkF m 151 #[iv pk] [(.ref (ad 11))]))) st12 ?_
    exact own_retA X12 hx hlk Bd.returns rfl rfl (hb hby own_pk_d151) (own_b rfl) (own_b rfl) (Q := (own_pk_Q Z pk ad h0 n0)) ⟨by rw [hk]; rfl, N0, e12⟩
  · have S12 := hS.2.2.2.2.2.2.2.2.2.2.2.2.1
    refine own_go (B := (s₁.setTop (mkF m 152 #[iv pk] []))) (fun t k => XS.tswIn X0.here hx rfl (pc0 := 1) (pc' := 152) rfl (hb hby own_pk_d1) rfl (by rw [hk]; decide) (o := 151) (by rw [hk]; decide) (by decide) (by decide) k) ?_
    obtain ⟨T13, X13, e13, st13⟩ := getS X0 hx hZ hown (host := "") w_30 Via.refl e0 S12 (g := (mkF m 152 #[iv pk] [])) rfl (hb hby own_pk_d152)
    refine own_go (B := (T13.setTop (mkF m 155 #[iv pk] [(.ref (ad 12))]))) st13 ?_
    exact own_retA X13 hx hlk Bd.returns rfl rfl (hb hby own_pk_d155) (own_b rfl) (own_b rfl) (Q := (own_pk_Q Z pk ad h0 n0)) ⟨by rw [hk]; rfl, N0, e13⟩
  · have S13 := hS.2.2.2.2.2.2.2.2.2.2.2.2.2.1
    refine own_go (B := (s₁.setTop (mkF m 156 #[iv pk] []))) (fun t k => XS.tswIn X0.here hx rfl (pc0 := 1) (pc' := 156) rfl (hb hby own_pk_d1) rfl (by rw [hk]; decide) (o := 155) (by rw [hk]; decide) (by decide) (by decide) k) ?_
    obtain ⟨T14, X14, e14, st14⟩ := getS X0 hx hZ hown (host := "") w_42 Via.refl e0 S13 (g := (mkF m 156 #[iv pk] [])) rfl (hb hby own_pk_d156)
    refine own_go (B := (T14.setTop (mkF m 159 #[iv pk] [(.ref (ad 13))]))) st14 ?_
    exact own_retA X14 hx hlk Bd.returns rfl rfl (hb hby own_pk_d159) (own_b rfl) (own_b rfl) (Q := (own_pk_Q Z pk ad h0 n0)) ⟨by rw [hk]; rfl, N0, e14⟩
  · have S14 := hS.2.2.2.2.2.2.2.2.2.2.2.2.2.2.1
    refine own_go (B := (s₁.setTop (mkF m 160 #[iv pk] []))) (fun t k => XS.tswIn X0.here hx rfl (pc0 := 1) (pc' := 160) rfl (hb hby own_pk_d1) rfl (by rw [hk]; decide) (o := 159) (by rw [hk]; decide) (by decide) (by decide) k) ?_
    obtain ⟨T15, X15, e15, st15⟩ := getS X0 hx hZ hown (host := "") w_40 Via.refl e0 S14 (g := (mkF m 160 #[iv pk] [])) rfl (hb hby own_pk_d160)
    refine own_go (B := (T15.setTop (mkF m 163 #[iv pk] [(.ref (ad 14))]))) st15 ?_
    exact own_retA X15 hx hlk Bd.returns rfl rfl (hb hby own_pk_d163) (own_b rfl) (own_b rfl) (Q := (own_pk_Q Z pk ad h0 n0)) ⟨by rw [hk]; rfl, N0, e15⟩
  · have S15 := hS.2.2.2.2.2.2.2.2.2.2.2.2.2.2.2.1
    refine own_go (B := (s₁.setTop (mkF m 164 #[iv pk] []))) (fun t k => XS.tswIn X0.here hx rfl (pc0 := 1) (pc' := 164) rfl (hb hby own_pk_d1) rfl (by rw [hk]; decide) (o := 163) (by rw [hk]; decide) (by decide) (by decide) k) ?_
    obtain ⟨T16, X16, e16, st16⟩ := getS X0 hx hZ hown (host := "") w_26 Via.refl e0 S15 (g := (mkF m 164 #[iv pk] [])) rfl (hb hby own_pk_d164)
    refine own_go (B := (T16.setTop (mkF m 167 #[iv pk] [(.ref (ad 15))]))) st16 ?_
    exact own_retA X16 hx hlk Bd.returns rfl rfl (hb hby own_pk_d167) (own_b rfl) (own_b rfl) (Q := (own_pk_Q Z pk ad h0 n0)) ⟨by rw [hk]; rfl, N0, e16⟩
  · have S16 := hS.2.2.2.2.2.2.2.2.2.2.2.2.2.2.2.2.1
    refine own_go (B := (s₁.setTop (mkF m 168 #[iv pk] []))) (fun t k => XS.tswIn X0.here hx rfl (pc0 := 1) (pc' := 168) rfl (hb hby own_pk_d1) rfl (by rw [hk]; decide) (o := 167) (by rw [hk]; decide) (by decide) (by decide) k) ?_
    obtain ⟨T17, X17, e17, st17⟩ := getS X0 hx hZ hown (host := "") w_28 Via.refl e0 S16 (g := (mkF m 168 #[iv pk] [])) rfl (hb hby own_pk_d168)
    refine own_go (B := (T17.setTop (mkF m 171 #[iv pk] [(.ref (ad 16))]))) st17 ?_
    exact own_retA X17 hx hlk Bd.returns rfl rfl (hb hby own_pk_d171) (own_b rfl) (own_b rfl) (Q := (own_pk_Q Z pk ad h0 n0)) ⟨by rw [hk]; rfl, N0, e17⟩
  · have S17 := hS.2.2.2.2.2.2.2.2.2.2.2.2.2.2.2.2.2.1
    refine own_go (B := (s₁.setTop (mkF m 172 #[iv pk] []))) (fun t k => XS.tswIn X0.here hx rfl (pc0 := 1) (pc' := 172) rfl (hb hby own_pk_d1) rfl (by rw [hk]; decide) (o := 171) (by rw [hk]; decide) (by decide) (by decide) k) ?_
    obtain ⟨T18, X18, e18, st18⟩ := getS X0 hx hZ hown (host := "") w_32 Via.refl e0 S17 (g := (mkF m 172 #[iv pk] [])) rfl (hb hby own_pk_d172)
    refine own_go (B := (T18.setTop (mkF m 175 #[iv pk] [(.ref (ad 17))]))) st18 ?_
    exact own_retA X18 hx hlk Bd.returns rfl rfl (hb hby own_pk_d175) (own_b rfl) (own_b rfl) (Q := (own_pk_Q Z pk ad h0 n0)) ⟨by rw [hk]; rfl, N0, e18⟩
  · have S18 := hS.2.2.2.2.2.2.2.2.2.2.2.2.2.2.2.2.2.2.1
    refine own_go (B := (s₁.setTop (mkF m 176 #[iv pk] []))) (fun t k => XS.tswIn X0.here hx rfl (pc0 := 1) (pc' := 176) rfl (hb hby own_pk_d1) rfl (by rw [hk]; decide) (o := 175) (by rw [hk]; decide) (by decide) (by decide) k) ?_
    obtain ⟨T19, X19, e19, st19⟩ := getS X0 hx hZ hown (host := "") w_58 Via.refl e0 S18 (g := (mkF m 176 #[iv pk] [])) rfl (hb hby own_pk_d176)
    refine own_go (B := (T19.setTop (mkF m 179 #[iv pk] [(.ref (ad 18))]))) st19 ?_
    exact own_retA X19 hx hlk Bd.returns rfl rfl (hb hby own_pk_d179) (own_b rfl) (own_b rfl) (Q := (own_pk_Q Z pk ad h0 n0)) ⟨by rw [hk]; rfl, N0, e19⟩
  · have S19 := hS.2.2.2.2.2.2.2.2.2.2.2.2.2.2.2.2.2.2.2.1
    refine own_go (B := (s₁.setTop (mkF m 180 #[iv pk] []))) (fun t k => XS.tswIn X0.here hx rfl (pc0 := 1) (pc' := 180) rfl (hb hby own_pk_d1) rfl (by rw [hk]; decide) (o := 179) (by rw [hk]; decide) (by decide) (by decide) k) ?_
    obtain ⟨T20, X20, e20, st20⟩ := getS X0 hx hZ hown (host := "") w_60 Via.refl e0 S19 (g := (mkF m 180 #[iv pk] [])) rfl (hb hby own_pk_d180)
    refine own_go (B := (T20.setTop (mkF m 183 #[iv pk] [(.ref (ad 19))]))) st20 ?_
    exact own_retA X20 hx hlk Bd.returns rfl rfl (hb hby own_pk_d183) (own_b rfl) (own_b rfl) (Q := (own_pk_Q Z pk ad h0 n0)) ⟨by rw [hk]; rfl, N0, e20⟩
  · have S20 := hS.2.2.2.2.2.2.2.2.2.2.2.2.2.2.2.2.2.2.2.2.1
    refine own_go (B := (s₁.setTop (mkF m 184 #[iv pk] []))) (fun t k => XS.tswIn X0.here hx rfl (pc0 := 1) (pc' := 184) rfl (hb hby own_pk_d1) rfl (by rw [hk]; decide) (o := 183) (by rw [hk]; decide) (by decide) (by decide) k) ?_
    obtain ⟨T21, X21, e21, st21⟩ := getS X0 hx hZ hown (host := "") w_56 Via.refl e0 S20 (g := (mkF m 184 #[iv pk] [])) rfl (hb hby own_pk_d184)
    refine own_go (B := (T21.setTop (mkF m 187 #[iv pk] [(.ref (ad 20))]))) st21 ?_
    exact own_retA X21 hx hlk Bd.returns rfl rfl (hb hby own_pk_d187) (own_b rfl) (own_b rfl) (Q := (own_pk_Q Z pk ad h0 n0)) ⟨by rw [hk]; rfl, N0, e21⟩
  · have S21 := hS.2.2.2.2.2.2.2.2.2.2.2.2.2.2.2.2.2.2.2.2.2.1
    refine own_go (B := (s₁.setTop (mkF m 188 #[iv pk] []))) (fun t k => XS.tswIn X0.here hx rfl (pc0 := 1) (pc' := 188) rfl (hb hby own_pk_d1) rfl (by rw [hk]; decide) (o := 187) (by rw [hk]; decide) (by decide) (by decide) k) ?_
    obtain ⟨T22, X22, e22, st22⟩ := getS X0 hx hZ hown (host := "") w_36 Via.refl e0 S21 (g := (mkF m 188 #[iv pk] [])) rfl (hb hby own_pk_d188)
    refine own_go (B := (T22.setTop (mkF m 191 #[iv pk] [(.ref (ad 21))]))) st22 ?_
    exact own_retA X22 hx hlk Bd.returns rfl rfl (hb hby own_pk_d191) (own_b rfl) (own_b rfl) (Q := (own_pk_Q Z pk ad h0 n0)) ⟨by rw [hk]; rfl, N0, e22⟩
  · have S22 := hS.2.2.2.2.2.2.2.2.2.2.2.2.2.2.2.2.2.2.2.2.2.2
    refine own_go (B := (s₁.setTop (mkF m 192 #[iv pk] []))) (fun t k => XS.tswOut X0.here hx rfl (pc0 := 1) (pc' := 192) rfl (hb hby own_pk_d1) rfl (by rw [hk]; decide) (by decide) (by decide) k) ?_
    obtain ⟨T23, X23, e23, st23⟩ := getS X0 hx hZ hown (host := "") w_46 Via.refl e0 S22 (g := (mkF m 192 #[iv pk] [])) rfl (hb hby own_pk_d192)
    refine own_go (B := (T23.setTop (mkF m 195 #[iv pk] [(.ref (ad 22))]))) st23 ?_
    exact own_retA X23 hx hlk Bd.returns rfl rfl (hb hby own_pk_d195) (own_b rfl) (own_b rfl) (Q := (own_pk_Q Z pk ad h0 n0)) ⟨by rw [hk]; rfl, N0, e23⟩

theorem own_tk_d0 : decode prog_3_method_6_code 0 = .ok (.iload_n 1, 1) := by decide +kernel
theorem own_tk_d1 : decode prog_3_method_6_code 1 = .ok (.aload_n 0, 1) := by decide +kernel
theorem own_tk_d2 : decode prog_3_method_6_code 2 = .ok (.getfield 95, 3) := by decide +kernel
theorem own_tk_d5 : decode prog_3_method_6_code 5 = .ok (.if_icmp .lt 15, 3) := by decide +kernel
theorem own_tk_d8 : decode prog_3_method_6_code 8 = .ok (.iload_n 1, 1) := by decide +kernel
theorem own_tk_d9 : decode prog_3_method_6_code 9 = .ok (.aload_n 0, 1) := by decide +kernel
theorem own_tk_d10 : decode prog_3_method_6_code 10 = .ok (.getfield 99, 3) := by decide +kernel
theorem own_tk_d13 : decode prog_3_method_6_code 13 = .ok (.if_icmp .gt 7, 3) := by decide +kernel
theorem own_tk_d16 : decode prog_3_method_6_code 16 = .ok (.iconst 1, 1) := by decide +kernel
theorem own_tk_d17 : decode prog_3_method_6_code 17 = .ok (.goto 4, 3) := by decide +kernel
theorem own_tk_d20 : decode prog_3_method_6_code 20 = .ok (.iconst 0, 1) := by decide +kernel
theorem own_tk_d21 : decode prog_3_method_6_code 21 = .ok (.ireturn, 1) := by decide +kernel
theorem own_tk_pn : plainName "com/example/uni_lock/unilock/Command" = true := by first | (simp [plainName, overriddenIn]; done) | decide +kernel
theorem own_tk_ef (m : MethodId) (th : Addr) (pa : Int32) : entryFrame m #[(.ref th), (.int pa)] 2 = mkF m 0 #[rv th, iv pa] [] := by first | (simp [entryFrame, mkF, argsToLocals, Value.category]; done) | rfl
def own_tk_Q (Z : State) (th : Addr) (pa : Int32) (qf ql : Int32) (h0 : Heap) (n0 : Nat) (v : Option Value) (h : Heap) (L : List Loc) : Prop := v = some (.int (own_in qf ql pa)) ∧ Fr n0 L ∧ h = h0
set_option maxRecDepth 65536 in
set_option maxHeartbeats 40000000 in
theorem own_tk (l : Launch) (Z : State) (a0 : Array Value) (hw : ∀ d ∈ tables_1, d.before a0 Z = true) (ws : List Jvm.Cond) (th : Addr) (pa : Int32) (qf ql : Int32) (h0 : Heap) (n0 : Nat) (F1 : Fld Z h0 th "com/example/uni_lock/unilock/Command" "minArguments" "I" (.int qf)) (F2 : Fld Z h0 th "com/example/uni_lock/unilock/Command" "maxArguments" "I" (.int ql)) :
    MetFree l own_y2 (head1 (Jvm.Cond.code own_y2 prog_3_method_6_code 2 (some .boolean) :: ws) ({ frames := 0, cells := 0, slots := 0, locals := 0 } : Room)) (fun a U => a = #[(.ref th), (.int pa)] ∧ Z.Warmed39 U.vm ∧ U.heap = h0) (fun _ _ _ _ _ => True) (fun _ U o U' => ∃ v L, o = .returned v ∧ (own_tk_Q Z th pa qf ql h0 n0) v U'.heap L ∧ FrameEnd U o U' L ({ frames := 0, cells := 0, slots := 0, locals := 0 } : Room).cells ({ frames := 0, cells := 0, slots := 0, locals := 0 } : Room).slots) := by
  refine MetFree.of_bodySF (plainFor_of_name own_tk_pn) hisR ?_
  intro p e s m args below meth c s₁ Bd hml0 hP hK
  obtain ⟨rfl, hZ, hh⟩ := hP
  have hx := Bd.exec
  have hby := Bd.bytes
  have hml : c.maxLocals = 2 := hml0
  have hown : s.vm.findClass "com/example/uni_lock/unilock/Command" = some m.cls := findClass_of_methodNamed Bd.named
  have hnm := (name_of_methodNamed Bd.named Bd.method).1
  have hlk : meth.locks = false := Bd.notSynchronized
  have X0 : Stand p l e ({ frames := 0, cells := 0, slots := 0, locals := 0 } : Room) s m #[(.ref th), (.int pa)] below meth c s₁ [] 0 0 := Stand.of_body Bd
  have e0 : s₁.heap = h0 := by rw [← hh, Bd.state]; rfl
  have N0 := Fr.nil n0
  have w_14 := hw _ (List.mem_of_getElem? (l := tables_1) (i := 14) rfl)
  have w_18 := hw _ (List.mem_of_getElem? (l := tables_1) (i := 18) rfl)
  show own_G p.tables e below (fun o U' => ∃ v L, o = .returned v ∧ (own_tk_Q Z th pa qf ql h0 n0) v U'.heap L ∧ FrameEnd s o U' L ({ frames := 0, cells := 0, slots := 0, locals := 0 } : Room).cells ({ frames := 0, cells := 0, slots := 0, locals := 0 } : Room).slots) (s₁.setTop (entryFrame m #[(.ref th), (.int pa)] 2))
  refine own_go (B := s₁.setTop (mkF m 0 #[rv th, iv pa] [])) (fun t k => castTop (own_tk_ef m th pa) k) ?_
  refine own_go (B := (s₁.setTop (mkF m 1 #[rv th, iv pa] [(.int pa)]))) (fun t k => XS.iloadN X0.here hx rfl (hb hby own_tk_d0) rfl k) ?_
  refine own_go (B := (s₁.setTop (mkF m 2 #[rv th, iv pa] [(.ref th), (.int pa)]))) (fun t k => XS.aloadN X0.here hx rfl (hb hby own_tk_d1) rfl rfl k) ?_
  obtain ⟨T1, X1, e1, st1⟩ := getF X0 hx hZ hown (host := "") (Or.inl w_14) Via.refl e0 F1 (g := (mkF m 2 #[rv th, iv pa] [(.ref th), (.int pa)])) rfl rfl (hb hby own_tk_d2)
  refine own_go (B := (T1.setTop (mkF m 5 #[rv th, iv pa] [(.int qf), (.int pa)]))) st1 ?_
  refine own_icmp X1 hx (hb hby own_tk_d5) (pc' := 20) (pn := 8) (by decide) (by decide) rfl (fun (hc5 : pa < qf) => ?_) (fun (hc5 : ¬ pa < qf) => ?_)
  · refine own_go (B := (T1.setTop (mkF m 21 #[rv th, iv pa] [(.int (0 : Int32))]))) (fun t k => own_iconst (v := (0 : Int32)) X1.here hx rfl (hb hby own_tk_d20) (by decide) k) ?_
    exact own_retZ X1 hx hlk Bd.returns (hb hby own_tk_d21) (by decide) (own_b rfl) (own_b rfl) (Q := (own_tk_Q Z th pa qf ql h0 n0)) ⟨by rw [own_in, if_pos hc5], N0, e1⟩
  · refine own_go (B := (T1.setTop (mkF m 9 #[rv th, iv pa] [(.int pa)]))) (fun t k => XS.iloadN X1.here hx rfl (hb hby own_tk_d8) rfl k) ?_
    refine own_go (B := (T1.setTop (mkF m 10 #[rv th, iv pa] [(.ref th), (.int pa)]))) (fun t k => XS.aloadN X1.here hx rfl (hb hby own_tk_d9) rfl rfl k) ?_
    obtain ⟨T2, X2, e2, st2⟩ := getF X1 hx hZ hown (host := "") (Or.inl w_18) Via.refl e1 F2 (g := (mkF m 10 #[rv th, iv pa] [(.ref th), (.int pa)])) rfl rfl (hb hby own_tk_d10)
    refine own_go (B := (T2.setTop (mkF m 13 #[rv th, iv pa] [(.int ql), (.int pa)]))) st2 ?_
    refine own_icmp X2 hx (hb hby own_tk_d13) (pc' := 20) (pn := 16) (by decide) (by decide) rfl (fun (hc13 : ql < pa) => ?_) (fun (hc13 : ¬ ql < pa) => ?_)
    · refine own_go (B := (T2.setTop (mkF m 21 #[rv th, iv pa] [(.int (0 : Int32))]))) (fun t k => own_iconst (v := (0 : Int32)) X2.here hx rfl (hb hby own_tk_d20) (by decide) k) ?_
      exact own_retZ X2 hx hlk Bd.returns (hb hby own_tk_d21) (by decide) (own_b rfl) (own_b rfl) (Q := (own_tk_Q Z th pa qf ql h0 n0)) ⟨by rw [own_in, if_neg hc5, if_pos hc13], N0, e2⟩
    · refine own_go (B := (T2.setTop (mkF m 17 #[rv th, iv pa] [(.int (1 : Int32))]))) (fun t k => own_iconst (v := (1 : Int32)) X2.here hx rfl (hb hby own_tk_d16) (by decide) k) ?_
      refine own_go (B := (T2.setTop (mkF m 21 #[rv th, iv pa] [(.int (1 : Int32))]))) (fun t k => XS.goto X2.here hx rfl (pc0 := 17) (pc' := 21) rfl (hb hby own_tk_d17) (by decide) (by decide) k) ?_
      exact own_retZ X2 hx hlk Bd.returns (hb hby own_tk_d21) (by decide) (own_b rfl) (own_b rfl) (Q := (own_tk_Q Z th pa qf ql h0 n0)) ⟨by rw [own_in, if_neg hc5, if_neg hc13], N0, e2⟩

theorem own_law_pn : plainName "com/example/uni_lock/unilock/CommandTakesPinLaw" = true := by first | (simp [plainName, overriddenIn]; done) | decide +kernel
theorem own_law_ef (m : MethodId) (p0 : Int32) (p1 : Int32) (p2 : Int32) : entryFrame m #[(.int p0), (.int p1), (.int p2)] maxLocals = mkF m 0 #[iv p0, iv p1, iv p2, .unset, .unset, .unset, .unset, .unset, .unset, .unset] [] := by first | (simp [entryFrame, mkF, argsToLocals, Value.category, maxLocals]; done) | rfl
def own_law_Q (Z : State) (p0 : Int32) (p1 : Int32) (p2 : Int32) (ad : Nat → Addr) (h0 : Heap) (n0 : Nat) (v : Option Value) (h : Heap) (L : List Loc) : Prop := v = some (.int 1) ∧ Fr n0 L
set_option maxRecDepth 65536 in
set_option maxHeartbeats 40000000 in
theorem own_law (l : Launch) (Z : State) (a0 : Array Value) (hw : ∀ d ∈ tables_1, d.before a0 Z = true) (ws : List Jvm.Cond) (p0 : Int32) (p1 : Int32) (p2 : Int32) (ad : Nat → Addr) (h0 : Heap) (n0 : Nat) (Z0 : n0 ≤ h0.size) (hS : own_S Z h0 ad) (hKK : ∀ i, i < 23 → Exa Z h0 (ad i) "com/example/uni_lock/unilock/Command" ∧ Fld Z h0 (ad i) "com/example/uni_lock/unilock/Command" "minArguments" "I" (.int (own_los.getD i 0)) ∧ Fld Z h0 (ad i) "com/example/uni_lock/unilock/Command" "maxArguments" "I" (.int (own_his.getD i 0))) :
    MetFree l x (head1 (Jvm.Cond.code x code maxLocals ret :: ws) room_1) (fun a U => a = #[(.int p0), (.int p1), (.int p2)] ∧ Z.Warmed39 U.vm ∧ U.heap = h0) (fun _ _ _ _ _ => True) (fun _ U o U' => ∃ v L, o = .returned v ∧ (own_law_Q Z p0 p1 p2 ad h0 n0) v U'.heap L ∧ FrameEnd U o U' L 16 192) := by
  refine MetFree.of_bodySF (plainFor_of_name own_law_pn) hisR ?_
  intro p e s m args below meth c s₁ Bd hml0 hP hK
  obtain ⟨rfl, hZ, hh⟩ := hP
  have hx := Bd.exec
  have hby := Bd.bytes
  have hml : c.maxLocals = 10 := hml0
  have hown : s.vm.findClass "com/example/uni_lock/unilock/CommandTakesPinLaw" = some m.cls := findClass_of_methodNamed Bd.named
  have hnm := (name_of_methodNamed Bd.named Bd.method).1
  have hlk : meth.locks = false := Bd.notSynchronized
  have X0 : Stand p l e room_1 s m #[(.int p0), (.int p1), (.int p2)] below meth c s₁ [] 0 0 := Stand.of_body Bd
  have e0 : s₁.heap = h0 := by rw [← hh, Bd.state]; rfl
  have N0 := Fr.nil n0
  have w_0 := hw _ (List.mem_of_getElem? (l := tables_1) (i := 0) rfl)
  have w_1 := hw _ (List.mem_of_getElem? (l := tables_1) (i := 1) rfl)
  have w_2 := hw _ (List.mem_of_getElem? (l := tables_1) (i := 2) rfl)
  have w_3 := hw _ (List.mem_of_getElem? (l := tables_1) (i := 3) rfl)
  have w_4 := hw _ (List.mem_of_getElem? (l := tables_1) (i := 4) rfl)
  have w_5 := hw _ (List.mem_of_getElem? (l := tables_1) (i := 5) rfl)
  have w_7 := hw _ (List.mem_of_getElem? (l := tables_1) (i := 7) rfl)
  have w_9 := hw _ (List.mem_of_getElem? (l := tables_1) (i := 9) rfl)
  have w_10 := hw _ (List.mem_of_getElem? (l := tables_1) (i := 10) rfl)
  have w_11 := hw _ (List.mem_of_getElem? (l := tables_1) (i := 11) rfl)
  have w_12 := hw _ (List.mem_of_getElem? (l := tables_1) (i := 12) rfl)
  have w_13 := hw _ (List.mem_of_getElem? (l := tables_1) (i := 13) rfl)
  show own_G p.tables e below (fun o U' => ∃ v L, o = .returned v ∧ (own_law_Q Z p0 p1 p2 ad h0 n0) v U'.heap L ∧ FrameEnd s o U' L 16 192) (s₁.setTop (entryFrame m #[(.int p0), (.int p1), (.int p2)] maxLocals))
  refine own_go (B := s₁.setTop (mkF m 0 #[iv p0, iv p1, iv p2, .unset, .unset, .unset, .unset, .unset, .unset, .unset] [])) (fun t k => castTop (own_law_ef m p0 p1 p2) k) ?_
  have K0 := Keep.refl h0 []
  refine own_go (B := (s₁.setTop (mkF m 1 #[iv p0, iv p1, iv p2, .unset, .unset, .unset, .unset, .unset, .unset, .unset] [(.int p0)]))) (fun t k => XS.iloadN X0.here hx rfl (hb hby at_0) rfl k) ?_
  have lc1 := X0.ldcInt hx hown (v := (2147483647 : Int32)) (mvT hZ w_0) (g := (mkF m 1 #[iv p0, iv p1, iv p2, .unset, .unset, .unset, .unset, .unset, .unset, .unset] [(.int p0)])) rfl (hb hby at_1)
  refine own_go (B := (s₁.setTop (mkF m 3 #[iv p0, iv p1, iv p2, .unset, .unset, .unset, .unset, .unset, .unset, .unset] [(.int (2147483647 : Int32)), (.int p0)]))) lc1 ?_
  refine own_go (B := (s₁.setTop (mkF m 4 #[iv p0, iv p1, iv p2, .unset, .unset, .unset, .unset, .unset, .unset, .unset] [(.int (p0 &&& (2147483647 : Int32)))]))) (fun t k => XS.iand (x := p0) (y := (2147483647 : Int32)) X0.here hx rfl (hb hby at_3) rfl k) ?_
  refine own_go (B := (s₁.setTop (mkF m 6 #[iv p0, iv p1, iv p2, .unset, .unset, .unset, .unset, .unset, .unset, .unset] [(.int (23 : Int32)), (.int (p0 &&& (2147483647 : Int32)))]))) (fun t k => own_bipush (v := (23 : Int32)) X0.here hx rfl (hb hby at_4) (by decide) k) ?_
  refine own_go (B := (s₁.setTop (mkF m 7 #[iv p0, iv p1, iv p2, .unset, .unset, .unset, .unset, .unset, .unset, .unset] [(.int ((p0 &&& (2147483647 : Int32)) % (23 : Int32)))]))) (fun t k => iremM (x := (p0 &&& (2147483647 : Int32))) (y := (23 : Int32)) X0 hx rfl (hb hby at_6) rfl (by decide) k) ?_
  obtain ⟨z7, hz7⟩ : ∃ z : Int32, z = ((p0 &&& (2147483647 : Int32)) % (23 : Int32)) := ⟨_, rfl⟩
  rw [← hz7]
  refine own_go (B := (s₁.setTop (mkF m 8 #[iv p0, iv p1, iv p2, iv z7, .unset, .unset, .unset, .unset, .unset, .unset] []))) (fun t k => XS.istoreN X0.here hx rfl (hb hby at_7) rfl (l' := #[iv p0, iv p1, iv p2, iv z7, .unset, .unset, .unset, .unset, .unset, .unset]) rfl k) ?_
  obtain ⟨hk1, hk2⟩ := own_k hz7
  refine own_go (B := (s₁.setTop (mkF m 10 #[iv p0, iv p1, iv p2, iv z7, .unset, .unset, .unset, .unset, .unset, .unset] [(.int (23 : Int32))]))) (fun t k => own_bipush (v := (23 : Int32)) X0.here hx rfl (hb hby at_8) (by decide) k) ?_
  obtain ⟨T2, h2, c2, X2, e2, E2, A2, st2⟩ := newP X0 hx hZ (aty := .int) w_1 e0 (g := (mkF m 10 #[iv p0, iv p1, iv p2, iv z7, .unset, .unset, .unset, .unset, .unset, .unset] [(.int (23 : Int32))])) rfl (hb hby at_10) rfl (by decide) (cap := 23) (by decide) (by decide) (own_b rfl) (own_b rfl)
  obtain ⟨a2, ga2⟩ : ∃ z, z = h0.size := ⟨_, rfl⟩
  rw [← ga2] at A2 st2
  refine own_go (B := (T2.setTop (mkF m 12 #[iv p0, iv p1, iv p2, iv z7, .unset, .unset, .unset, .unset, .unset, .unset] [(.ref a2)]))) st2 ?_
  have Z3 : n0 ≤ h2.size := Nat.le_trans Z0 E2.1
  have K4 := Keep.ext K0 E2
  have gn2 : n0 ≤ a2 := Nat.le_trans Z0 (Nat.le_of_eq ga2.symm)
  have V2 : own_Ar Z h2 a2 .int [(.int (0 : Int32)), (.int (0 : Int32)), (.int (0 : Int32)), (.int (0 : Int32)), (.int (0 : Int32)), (.int (0 : Int32)), (.int (0 : Int32)), (.int (0 : Int32)), (.int (0 : Int32)), (.int (0 : Int32)), (.int (0 : Int32)), (.int (0 : Int32)), (.int (0 : Int32)), (.int (0 : Int32)), (.int (0 : Int32)), (.int (0 : Int32)), (.int (0 : Int32)), (.int (0 : Int32)), (.int (0 : Int32)), (.int (0 : Int32)), (.int (0 : Int32)), (.int (0 : Int32)), (.int (0 : Int32))] := own_Ar_new A2 (N := 23) (by decide) rfl
  refine own_go (B := (T2.setTop (mkF m 13 #[iv p0, iv p1, iv p2, iv z7, .unset, .unset, .unset, .unset, .unset, .unset] [(.ref a2), (.ref a2)]))) (fun t k => XS.dup X2.here hx rfl (hb hby at_12) rfl rfl k) ?_
  refine own_go (B := (T2.setTop (mkF m 14 #[iv p0, iv p1, iv p2, iv z7, .unset, .unset, .unset, .unset, .unset, .unset] [(.int (0 : Int32)), (.ref a2), (.ref a2)]))) (fun t k => own_iconst (v := (0 : Int32)) X2.here hx rfl (hb hby at_13) (by decide) k) ?_
  refine own_go (B := (T2.setTop (mkF m 15 #[iv p0, iv p1, iv p2, iv z7, .unset, .unset, .unset, .unset, .unset, .unset] [(.int (0 : Int32)), (.int (0 : Int32)), (.ref a2), (.ref a2)]))) (fun t k => own_iconst (v := (0 : Int32)) X2.here hx rfl (hb hby at_14) (by decide) k) ?_
  obtain ⟨T5, h5, X5, e5, W5, V5, st5⟩ := own_stI X2 hx hZ e2 V2 (i := 0) (by decide) (by decide) (Nat.lt_of_lt_of_eq (by decide : 0 < 23) rfl) (L' := [(.int (0 : Int32)), (.int (0 : Int32)), (.int (0 : Int32)), (.int (0 : Int32)), (.int (0 : Int32)), (.int (0 : Int32)), (.int (0 : Int32)), (.int (0 : Int32)), (.int (0 : Int32)), (.int (0 : Int32)), (.int (0 : Int32)), (.int (0 : Int32)), (.int (0 : Int32)), (.int (0 : Int32)), (.int (0 : Int32)), (.int (0 : Int32)), (.int (0 : Int32)), (.int (0 : Int32)), (.int (0 : Int32)), (.int (0 : Int32)), (.int (0 : Int32)), (.int (0 : Int32)), (.int (0 : Int32))]) rfl (g := (mkF m 15 #[iv p0, iv p1, iv p2, iv z7, .unset, .unset, .unset, .unset, .unset, .unset] [(.int (0 : Int32)), (.int (0 : Int32)), (.ref a2), (.ref a2)])) rfl rfl (hb hby at_15)
  refine own_go (B := (T5.setTop (mkF m 16 #[iv p0, iv p1, iv p2, iv z7, .unset, .unset, .unset, .unset, .unset, .unset] [(.ref a2)]))) st5 ?_
  obtain ⟨L5, X5, N5⟩ := own_abs X5 (Fr.snoc X5 N0 gn2)
  have F6 : n0 ≤ h5.size := by rw [W5.size]; exact Z3
  have F7 := Keep.wr K4 W5 (Or.inr (Nat.le_trans K0.1 (Nat.le_of_eq ga2.symm)))
  refine own_go (B := (T5.setTop (mkF m 17 #[iv p0, iv p1, iv p2, iv z7, .unset, .unset, .unset, .unset, .unset, .unset] [(.ref a2), (.ref a2)]))) (fun t k => XS.dup X5.here hx rfl (hb hby at_16) rfl rfl k) ?_
  refine own_go (B := (T5.setTop (mkF m 18 #[iv p0, iv p1, iv p2, iv z7, .unset, .unset, .unset, .unset, .unset, .unset] [(.int (1 : Int32)), (.ref a2), (.ref a2)]))) (fun t k => own_iconst (v := (1 : Int32)) X5.here hx rfl (hb hby at_17) (by decide) k) ?_
  refine own_go (B := (T5.setTop (mkF m 19 #[iv p0, iv p1, iv p2, iv z7, .unset, .unset, .unset, .unset, .unset, .unset] [(.int (0 : Int32)), (.int (1 : Int32)), (.ref a2), (.ref a2)]))) (fun t k => own_iconst (v := (0 : Int32)) X5.here hx rfl (hb hby at_18) (by decide) k) ?_
  obtain ⟨T9, h9, X9, e9, W9, V9, st9⟩ := own_stI X5 hx hZ e5 V5 (i := 1) (by decide) (by decide) (Nat.lt_of_lt_of_eq (by decide : 1 < 23) rfl) (L' := [(.int (0 : Int32)), (.int (0 : Int32)), (.int (0 : Int32)), (.int (0 : Int32)), (.int (0 : Int32)), (.int (0 : Int32)), (.int (0 : Int32)), (.int (0 : Int32)), (.int (0 : Int32)), (.int (0 : Int32)), (.int (0 : Int32)), (.int (0 : Int32)), (.int (0 : Int32)), (.int (0 : Int32)), (.int (0 : Int32)), (.int (0 : Int32)), (.int (0 : Int32)), (.int (0 : Int32)), (.int (0 : Int32)), (.int (0 : Int32)), (.int (0 : Int32)), (.int (0 : Int32)), (.int (0 : Int32))]) rfl (g := (mkF m 19 #[iv p0, iv p1, iv p2, iv z7, .unset, .unset, .unset, .unset, .unset, .unset] [(.int (0 : Int32)), (.int (1 : Int32)), (.ref a2), (.ref a2)])) rfl rfl (hb hby at_19)
  refine own_go (B := (T9.setTop (mkF m 20 #[iv p0, iv p1, iv p2, iv z7, .unset, .unset, .unset, .unset, .unset, .unset] [(.ref a2)]))) st9 ?_
  obtain ⟨L9, X9, N9⟩ := own_abs X9 (Fr.snoc X9 N5 gn2)
  have F10 : n0 ≤ h9.size := by rw [W9.size]; exact F6
  have F11 := Keep.wr F7 W9 (Or.inr (Nat.le_trans K0.1 (Nat.le_of_eq ga2.symm)))
  refine own_go (B := (T9.setTop (mkF m 21 #[iv p0, iv p1, iv p2, iv z7, .unset, .unset, .unset, .unset, .unset, .unset] [(.ref a2), (.ref a2)]))) (fun t k => XS.dup X9.here hx rfl (hb hby at_20) rfl rfl k) ?_
  refine own_go (B := (T9.setTop (mkF m 22 #[iv p0, iv p1, iv p2, iv z7, .unset, .unset, .unset, .unset, .unset, .unset] [(.int (2 : Int32)), (.ref a2), (.ref a2)]))) (fun t k => own_iconst (v := (2 : Int32)) X9.here hx rfl (hb hby at_21) (by decide) k) ?_
  refine own_go (B := (T9.setTop (mkF m 23 #[iv p0, iv p1, iv p2, iv z7, .unset, .unset, .unset, .unset, .unset, .unset] [(.int (1 : Int32)), (.int (2 : Int32)), (.ref a2), (.ref a2)]))) (fun t k => own_iconst (v := (1 : Int32)) X9.here hx rfl (hb hby at_22) (by decide) k) ?_
  obtain ⟨T13, h13, X13, e13, W13, V13, st13⟩ := own_stI X9 hx hZ e9 V9 (i := 2) (by decide) (by decide) (Nat.lt_of_lt_of_eq (by decide : 2 < 23) rfl) (L' := [(.int (0 : Int32)), (.int (0 : Int32)), (.int (1 : Int32)), (.int (0 : Int32)), (.int (0 : Int32)), (.int (0 : Int32)), (.int (0 : Int32)), (.int (0 : Int32)), (.int (0 : Int32)), (.int (0 : Int32)), (.int (0 : Int32)), (.int (0 : Int32)), (.int (0 : Int32)), (.int (0 : Int32)), (.int (0 : Int32)), (.int (0 : Int32)), (.int (0 : Int32)), (.int (0 : Int32)), (.int (0 : Int32)), (.int (0 : Int32)), (.int (0 : Int32)), (.int (0 : Int32)), (.int (0 : Int32))]) rfl (g := (mkF m 23 #[iv p0, iv p1, iv p2, iv z7, .unset, .unset, .unset, .unset, .unset, .unset] [(.int (1 : Int32)), (.int (2 : Int32)), (.ref a2), (.ref a2)])) rfl rfl (hb hby at_23)
  refine own_go (B := (T13.setTop (mkF m 24 #[iv p0, iv p1, iv p2, iv z7, .unset, .unset, .unset, .unset, .unset, .unset] [(.ref a2)]))) st13 ?_
  obtain ⟨L13, X13, N13⟩ := own_abs X13 (Fr.snoc X13 N9 gn2)
  have F14 : n0 ≤ h13.size := by rw [W13.size]; exact F10
  have F15 := Keep.wr F11 W13 (Or.inr (Nat.le_trans K0.1 (Nat.le_of_eq ga2.symm)))
  refine own_go (B := (T13.setTop (mkF m 25 #[iv p0, iv p1, iv p2, iv z7, .unset, .unset, .unset, .unset, .unset, .unset] [(.ref a2), (.ref a2)]))) (fun t k => XS.dup X13.here hx rfl (hb hby at_24) rfl rfl k) ?_
  refine own_go (B := (T13.setTop (mkF m 26 #[iv p0, iv p1, iv p2, iv z7, .unset, .unset, .unset, .unset, .unset, .unset] [(.int (3 : Int32)), (.ref a2), (.ref a2)]))) (fun t k => own_iconst (v := (3 : Int32)) X13.here hx rfl (hb hby at_25) (by decide) k) ?_
  refine own_go (B := (T13.setTop (mkF m 27 #[iv p0, iv p1, iv p2, iv z7, .unset, .unset, .unset, .unset, .unset, .unset] [(.int (1 : Int32)), (.int (3 : Int32)), (.ref a2), (.ref a2)]))) (fun t k => own_iconst (v := (1 : Int32)) X13.here hx rfl (hb hby at_26) (by decide) k) ?_
  obtain ⟨T17, h17, X17, e17, W17, V17, st17⟩ := own_stI X13 hx hZ e13 V13 (i := 3) (by decide) (by decide) (Nat.lt_of_lt_of_eq (by decide : 3 < 23) rfl) (L' := [(.int (0 : Int32)), (.int (0 : Int32)), (.int (1 : Int32)), (.int (1 : Int32)), (.int (0 : Int32)), (.int (0 : Int32)), (.int (0 : Int32)), (.int (0 : Int32)), (.int (0 : Int32)), (.int (0 : Int32)), (.int (0 : Int32)), (.int (0 : Int32)), (.int (0 : Int32)), (.int (0 : Int32)), (.int (0 : Int32)), (.int (0 : Int32)), (.int (0 : Int32)), (.int (0 : Int32)), (.int (0 : Int32)), (.int (0 : Int32)), (.int (0 : Int32)), (.int (0 : Int32)), (.int (0 : Int32))]) rfl (g := (mkF m 27 #[iv p0, iv p1, iv p2, iv z7, .unset, .unset, .unset, .unset, .unset, .unset] [(.int (1 : Int32)), (.int (3 : Int32)), (.ref a2), (.ref a2)])) rfl rfl (hb hby at_27)
  refine own_go (B := (T17.setTop (mkF m 28 #[iv p0, iv p1, iv p2, iv z7, .unset, .unset, .unset, .unset, .unset, .unset] [(.ref a2)]))) st17 ?_
  obtain ⟨L17, X17, N17⟩ := own_abs X17 (Fr.snoc X17 N13 gn2)
  have F18 : n0 ≤ h17.size := by rw [W17.size]; exact F14
  have F19 := Keep.wr F15 W17 (Or.inr (Nat.le_trans K0.1 (Nat.le_of_eq ga2.symm)))
  refine own_go (B := (T17.setTop (mkF m 29 #[iv p0, iv p1, iv p2, iv z7, .unset, .unset, .unset, .unset, .unset, .unset] [(.ref a2), (.ref a2)]))) (fun t k => XS.dup X17.here hx rfl (hb hby at_28) rfl rfl k) ?_
  refine own_go (B := (T17.setTop (mkF m 30 #[iv p0, iv p1, iv p2, iv z7, .unset, .unset, .unset, .unset, .unset, .unset] [(.int (4 : Int32)), (.ref a2), (.ref a2)]))) (fun t k => own_iconst (v := (4 : Int32)) X17.here hx rfl (hb hby at_29) (by decide) k) ?_
  refine own_go (B := (T17.setTop (mkF m 31 #[iv p0, iv p1, iv p2, iv z7, .unset, .unset, .unset, .unset, .unset, .unset] [(.int (1 : Int32)), (.int (4 : Int32)), (.ref a2), (.ref a2)]))) (fun t k => own_iconst (v := (1 : Int32)) X17.here hx rfl (hb hby at_30) (by decide) k) ?_
  obtain ⟨T21, h21, X21, e21, W21, V21, st21⟩ := own_stI X17 hx hZ e17 V17 (i := 4) (by decide) (by decide) (Nat.lt_of_lt_of_eq (by decide : 4 < 23) rfl) (L' := [(.int (0 : Int32)), (.int (0 : Int32)), (.int (1 : Int32)), (.int (1 : Int32)), (.int (1 : Int32)), (.int (0 : Int32)), (.int (0 : Int32)), (.int (0 : Int32)), (.int (0 : Int32)), (.int (0 : Int32)), (.int (0 : Int32)), (.int (0 : Int32)), (.int (0 : Int32)), (.int (0 : Int32)), (.int (0 : Int32)), (.int (0 : Int32)), (.int (0 : Int32)), (.int (0 : Int32)), (.int (0 : Int32)), (.int (0 : Int32)), (.int (0 : Int32)), (.int (0 : Int32)), (.int (0 : Int32))]) rfl (g := (mkF m 31 #[iv p0, iv p1, iv p2, iv z7, .unset, .unset, .unset, .unset, .unset, .unset] [(.int (1 : Int32)), (.int (4 : Int32)), (.ref a2), (.ref a2)])) rfl rfl (hb hby at_31)
  refine own_go (B := (T21.setTop (mkF m 32 #[iv p0, iv p1, iv p2, iv z7, .unset, .unset, .unset, .unset, .unset, .unset] [(.ref a2)]))) st21 ?_
  obtain ⟨L21, X21, N21⟩ := own_abs X21 (Fr.snoc X21 N17 gn2)
  have F22 : n0 ≤ h21.size := by rw [W21.size]; exact F18
  have F23 := Keep.wr F19 W21 (Or.inr (Nat.le_trans K0.1 (Nat.le_of_eq ga2.symm)))
  refine own_go (B := (T21.setTop (mkF m 33 #[iv p0, iv p1, iv p2, iv z7, .unset, .unset, .unset, .unset, .unset, .unset] [(.ref a2), (.ref a2)]))) (fun t k => XS.dup X21.here hx rfl (hb hby at_32) rfl rfl k) ?_
  refine own_go (B := (T21.setTop (mkF m 34 #[iv p0, iv p1, iv p2, iv z7, .unset, .unset, .unset, .unset, .unset, .unset] [(.int (5 : Int32)), (.ref a2), (.ref a2)]))) (fun t k => own_iconst (v := (5 : Int32)) X21.here hx rfl (hb hby at_33) (by decide) k) ?_
  refine own_go (B := (T21.setTop (mkF m 35 #[iv p0, iv p1, iv p2, iv z7, .unset, .unset, .unset, .unset, .unset, .unset] [(.int (1 : Int32)), (.int (5 : Int32)), (.ref a2), (.ref a2)]))) (fun t k => own_iconst (v := (1 : Int32)) X21.here hx rfl (hb hby at_34) (by decide) k) ?_
  obtain ⟨T25, h25, X25, e25, W25, V25, st25⟩ := own_stI X21 hx hZ e21 V21 (i := 5) (by decide) (by decide) (Nat.lt_of_lt_of_eq (by decide : 5 < 23) rfl) (L' := [(.int (0 : Int32)), (.int (0 : Int32)), (.int (1 : Int32)), (.int (1 : Int32)), (.int (1 : Int32)), (.int (1 : Int32)), (.int (0 : Int32)), (.int (0 : Int32)), (.int (0 : Int32)), (.int (0 : Int32)), (.int (0 : Int32)), (.int (0 : Int32)), (.int (0 : Int32)), (.int (0 : Int32)), (.int (0 : Int32)), (.int (0 : Int32)), (.int (0 : Int32)), (.int (0 : Int32)), (.int (0 : Int32)), (.int (0 : Int32)), (.int (0 : Int32)), (.int (0 : Int32)), (.int (0 : Int32))]) rfl (g := (mkF m 35 #[iv p0, iv p1, iv p2, iv z7, .unset, .unset, .unset, .unset, .unset, .unset] [(.int (1 : Int32)), (.int (5 : Int32)), (.ref a2), (.ref a2)])) rfl rfl (hb hby at_35)
  refine own_go (B := (T25.setTop (mkF m 36 #[iv p0, iv p1, iv p2, iv z7, .unset, .unset, .unset, .unset, .unset, .unset] [(.ref a2)]))) st25 ?_
  obtain ⟨L25, X25, N25⟩ := own_abs X25 (Fr.snoc X25 N21 gn2)
  have F26 : n0 ≤ h25.size := by rw [W25.size]; exact F22
  have F27 := Keep.wr F23 W25 (Or.inr (Nat.le_trans K0.1 (Nat.le_of_eq ga2.symm)))
  refine own_go (B := (T25.setTop (mkF m 37 #[iv p0, iv p1, iv p2, iv z7, .unset, .unset, .unset, .unset, .unset, .unset] [(.ref a2), (.ref a2)]))) (fun t k => XS.dup X25.here hx rfl (hb hby at_36) rfl rfl k) ?_
  refine own_go (B := (T25.setTop (mkF m 39 #[iv p0, iv p1, iv p2, iv z7, .unset, .unset, .unset, .unset, .unset, .unset] [(.int (6 : Int32)), (.ref a2), (.ref a2)]))) (fun t k => own_bipush (v := (6 : Int32)) X25.here hx rfl (hb hby at_37) (by decide) k) ?_
  refine own_go (B := (T25.setTop (mkF m 40 #[iv p0, iv p1, iv p2, iv z7, .unset, .unset, .unset, .unset, .unset, .unset] [(.int (1 : Int32)), (.int (6 : Int32)), (.ref a2), (.ref a2)]))) (fun t k => own_iconst (v := (1 : Int32)) X25.here hx rfl (hb hby at_39) (by decide) k) ?_
  obtain ⟨T29, h29, X29, e29, W29, V29, st29⟩ := own_stI X25 hx hZ e25 V25 (i := 6) (by decide) (by decide) (Nat.lt_of_lt_of_eq (by decide : 6 < 23) rfl) (L' := [(.int (0 : Int32)), (.int (0 : Int32)), (.int (1 : Int32)), (.int (1 : Int32)), (.int (1 : Int32)), (.int (1 : Int32)), (.int (1 : Int32)), (.int (0 : Int32)), (.int (0 : Int32)), (.int (0 : Int32)), (.int (0 : Int32)), (.int (0 : Int32)), (.int (0 : Int32)), (.int (0 : Int32)), (.int (0 : Int32)), (.int (0 : Int32)), (.int (0 : Int32)), (.int (0 : Int32)), (.int (0 : Int32)), (.int (0 : Int32)), (.int (0 : Int32)), (.int (0 : Int32)), (.int (0 : Int32))]) rfl (g := (mkF m 40 #[iv p0, iv p1, iv p2, iv z7, .unset, .unset, .unset, .unset, .unset, .unset] [(.int (1 : Int32)), (.int (6 : Int32)), (.ref a2), (.ref a2)])) rfl rfl (hb hby at_40)
  refine own_go (B := (T29.setTop (mkF m 41 #[iv p0, iv p1, iv p2, iv z7, .unset, .unset, .unset, .unset, .unset, .unset] [(.ref a2)]))) st29 ?_
  obtain ⟨L29, X29, N29⟩ := own_abs X29 (Fr.snoc X29 N25 gn2)
  have F30 : n0 ≤ h29.size := by rw [W29.size]; exact F26
  have F31 := Keep.wr F27 W29 (Or.inr (Nat.le_trans K0.1 (Nat.le_of_eq ga2.symm)))
  refine own_go (B := (T29.setTop (mkF m 42 #[iv p0, iv p1, iv p2, iv z7, .unset, .unset, .unset, .unset, .unset, .unset] [(.ref a2), (.ref a2)]))) (fun t k => XS.dup X29.here hx rfl (hb hby at_41) rfl rfl k) ?_
  refine own_go (B := (T29.setTop (mkF m 44 #[iv p0, iv p1, iv p2, iv z7, .unset, .unset, .unset, .unset, .unset, .unset] [(.int (7 : Int32)), (.ref a2), (.ref a2)]))) (fun t k => own_bipush (v := (7 : Int32)) X29.here hx rfl (hb hby at_42) (by decide) k) ?_
  refine own_go (B := (T29.setTop (mkF m 45 #[iv p0, iv p1, iv p2, iv z7, .unset, .unset, .unset, .unset, .unset, .unset] [(.int (1 : Int32)), (.int (7 : Int32)), (.ref a2), (.ref a2)]))) (fun t k => own_iconst (v := (1 : Int32)) X29.here hx rfl (hb hby at_44) (by decide) k) ?_
  obtain ⟨T33, h33, X33, e33, W33, V33, st33⟩ := own_stI X29 hx hZ e29 V29 (i := 7) (by decide) (by decide) (Nat.lt_of_lt_of_eq (by decide : 7 < 23) rfl) (L' := [(.int (0 : Int32)), (.int (0 : Int32)), (.int (1 : Int32)), (.int (1 : Int32)), (.int (1 : Int32)), (.int (1 : Int32)), (.int (1 : Int32)), (.int (1 : Int32)), (.int (0 : Int32)), (.int (0 : Int32)), (.int (0 : Int32)), (.int (0 : Int32)), (.int (0 : Int32)), (.int (0 : Int32)), (.int (0 : Int32)), (.int (0 : Int32)), (.int (0 : Int32)), (.int (0 : Int32)), (.int (0 : Int32)), (.int (0 : Int32)), (.int (0 : Int32)), (.int (0 : Int32)), (.int (0 : Int32))]) rfl (g := (mkF m 45 #[iv p0, iv p1, iv p2, iv z7, .unset, .unset, .unset, .unset, .unset, .unset] [(.int (1 : Int32)), (.int (7 : Int32)), (.ref a2), (.ref a2)])) rfl rfl (hb hby at_45)
  refine own_go (B := (T33.setTop (mkF m 46 #[iv p0, iv p1, iv p2, iv z7, .unset, .unset, .unset, .unset, .unset, .unset] [(.ref a2)]))) st33 ?_
  obtain ⟨L33, X33, N33⟩ := own_abs X33 (Fr.snoc X33 N29 gn2)
  have F34 : n0 ≤ h33.size := by rw [W33.size]; exact F30
  have F35 := Keep.wr F31 W33 (Or.inr (Nat.le_trans K0.1 (Nat.le_of_eq ga2.symm)))
  refine own_go (B := (T33.setTop (mkF m 47 #[iv p0, iv p1, iv p2, iv z7, .unset, .unset, .unset, .unset, .unset, .unset] [(.ref a2), (.ref a2)]))) (fun t k => XS.dup X33.here hx rfl (hb hby at_46) rfl rfl k) ?_
  refine own_go (B := (T33.setTop (mkF m 49 #[iv p0, iv p1, iv p2, iv z7, .unset, .unset, .unset, .unset, .unset, .unset] [(.int (8 : Int32)), (.ref a2), (.ref a2)]))) (fun t k => own_bipush (v := (8 : Int32)) X33.here hx rfl (hb hby at_47) (by decide) k) ?_
  refine own_go (B := (T33.setTop (mkF m 50 #[iv p0, iv p1, iv p2, iv z7, .unset, .unset, .unset, .unset, .unset, .unset] [(.int (1 : Int32)), (.int (8 : Int32)), (.ref a2), (.ref a2)]))) (fun t k => own_iconst (v := (1 : Int32)) X33.here hx rfl (hb hby at_49) (by decide) k) ?_
  obtain ⟨T37, h37, X37, e37, W37, V37, st37⟩ := own_stI X33 hx hZ e33 V33 (i := 8) (by decide) (by decide) (Nat.lt_of_lt_of_eq (by decide : 8 < 23) rfl) (L' := [(.int (0 : Int32)), (.int (0 : Int32)), (.int (1 : Int32)), (.int (1 : Int32)), (.int (1 : Int32)), (.int (1 : Int32)), (.int (1 : Int32)), (.int (1 : Int32)), (.int (1 : Int32)), (.int (0 : Int32)), (.int (0 : Int32)), (.int (0 : Int32)), (.int (0 : Int32)), (.int (0 : Int32)), (.int (0 : Int32)), (.int (0 : Int32)), (.int (0 : Int32)), (.int (0 : Int32)), (.int (0 : Int32)), (.int (0 : Int32)), (.int (0 : Int32)), (.int (0 : Int32)), (.int (0 : Int32))]) rfl (g := (mkF m 50 #[iv p0, iv p1, iv p2, iv z7, .unset, .unset, .unset, .unset, .unset, .unset] [(.int (1 : Int32)), (.int (8 : Int32)), (.ref a2), (.ref a2)])) rfl rfl (hb hby at_50)
  refine own_go (B := (T37.setTop (mkF m 51 #[iv p0, iv p1, iv p2, iv z7, .unset, .unset, .unset, .unset, .unset, .unset] [(.ref a2)]))) st37 ?_
  obtain ⟨L37, X37, N37⟩ := own_abs X37 (Fr.snoc X37 N33 gn2)
  have F38 : n0 ≤ h37.size := by rw [W37.size]; exact F34
  have F39 := Keep.wr F35 W37 (Or.inr (Nat.le_trans K0.1 (Nat.le_of_eq ga2.symm)))
  refine own_go (B := (T37.setTop (mkF m 52 #[iv p0, iv p1, iv p2, iv z7, .unset, .unset, .unset, .unset, .unset, .unset] [(.ref a2), (.ref a2)]))) (fun t k => XS.dup X37.here hx rfl (hb hby at_51) rfl rfl k) ?_
  refine own_go (B := (T37.setTop (mkF m 54 #[iv p0, iv p1, iv p2, iv z7, .unset, .unset, .unset, .unset, .unset, .unset] [(.int (9 : Int32)), (.ref a2), (.ref a2)]))) (fun t k => own_bipush (v := (9 : Int32)) X37.here hx rfl (hb hby at_52) (by decide) k) ?_
  refine own_go (B := (T37.setTop (mkF m 55 #[iv p0, iv p1, iv p2, iv z7, .unset, .unset, .unset, .unset, .unset, .unset] [(.int (1 : Int32)), (.int (9 : Int32)), (.ref a2), (.ref a2)]))) (fun t k => own_iconst (v := (1 : Int32)) X37.here hx rfl (hb hby at_54) (by decide) k) ?_
  obtain ⟨T41, h41, X41, e41, W41, V41, st41⟩ := own_stI X37 hx hZ e37 V37 (i := 9) (by decide) (by decide) (Nat.lt_of_lt_of_eq (by decide : 9 < 23) rfl) (L' := [(.int (0 : Int32)), (.int (0 : Int32)), (.int (1 : Int32)), (.int (1 : Int32)), (.int (1 : Int32)), (.int (1 : Int32)), (.int (1 : Int32)), (.int (1 : Int32)), (.int (1 : Int32)), (.int (1 : Int32)), (.int (0 : Int32)), (.int (0 : Int32)), (.int (0 : Int32)), (.int (0 : Int32)), (.int (0 : Int32)), (.int (0 : Int32)), (.int (0 : Int32)), (.int (0 : Int32)), (.int (0 : Int32)), (.int (0 : Int32)), (.int (0 : Int32)), (.int (0 : Int32)), (.int (0 : Int32))]) rfl (g := (mkF m 55 #[iv p0, iv p1, iv p2, iv z7, .unset, .unset, .unset, .unset, .unset, .unset] [(.int (1 : Int32)), (.int (9 : Int32)), (.ref a2), (.ref a2)])) rfl rfl (hb hby at_55)
  refine own_go (B := (T41.setTop (mkF m 56 #[iv p0, iv p1, iv p2, iv z7, .unset, .unset, .unset, .unset, .unset, .unset] [(.ref a2)]))) st41 ?_
  obtain ⟨L41, X41, N41⟩ := own_abs X41 (Fr.snoc X41 N37 gn2)
  have F42 : n0 ≤ h41.size := by rw [W41.size]; exact F38
  have F43 := Keep.wr F39 W41 (Or.inr (Nat.le_trans K0.1 (Nat.le_of_eq ga2.symm)))
  refine own_go (B := (T41.setTop (mkF m 57 #[iv p0, iv p1, iv p2, iv z7, .unset, .unset, .unset, .unset, .unset, .unset] [(.ref a2), (.ref a2)]))) (fun t k => XS.dup X41.here hx rfl (hb hby at_56) rfl rfl k) ?_
  refine own_go (B := (T41.setTop (mkF m 59 #[iv p0, iv p1, iv p2, iv z7, .unset, .unset, .unset, .unset, .unset, .unset] [(.int (10 : Int32)), (.ref a2), (.ref a2)]))) (fun t k => own_bipush (v := (10 : Int32)) X41.here hx rfl (hb hby at_57) (by decide) k) ?_
  refine own_go (B := (T41.setTop (mkF m 60 #[iv p0, iv p1, iv p2, iv z7, .unset, .unset, .unset, .unset, .unset, .unset] [(.int (1 : Int32)), (.int (10 : Int32)), (.ref a2), (.ref a2)]))) (fun t k => own_iconst (v := (1 : Int32)) X41.here hx rfl (hb hby at_59) (by decide) k) ?_
  obtain ⟨T45, h45, X45, e45, W45, V45, st45⟩ := own_stI X41 hx hZ e41 V41 (i := 10) (by decide) (by decide) (Nat.lt_of_lt_of_eq (by decide : 10 < 23) rfl) (L' := [(.int (0 : Int32)), (.int (0 : Int32)), (.int (1 : Int32)), (.int (1 : Int32)), (.int (1 : Int32)), (.int (1 : Int32)), (.int (1 : Int32)), (.int (1 : Int32)), (.int (1 : Int32)), (.int (1 : Int32)), (.int (1 : Int32)), (.int (0 : Int32)), (.int (0 : Int32)), (.int (0 : Int32)), (.int (0 : Int32)), (.int (0 : Int32)), (.int (0 : Int32)), (.int (0 : Int32)), (.int (0 : Int32)), (.int (0 : Int32)), (.int (0 : Int32)), (.int (0 : Int32)), (.int (0 : Int32))]) rfl (g := (mkF m 60 #[iv p0, iv p1, iv p2, iv z7, .unset, .unset, .unset, .unset, .unset, .unset] [(.int (1 : Int32)), (.int (10 : Int32)), (.ref a2), (.ref a2)])) rfl rfl (hb hby at_60)
  refine own_go (B := (T45.setTop (mkF m 61 #[iv p0, iv p1, iv p2, iv z7, .unset, .unset, .unset, .unset, .unset, .unset] [(.ref a2)]))) st45 ?_
  obtain ⟨L45, X45, N45⟩ := own_abs X45 (Fr.snoc X45 N41 gn2)
  have F46 : n0 ≤ h45.size := by rw [W45.size]; exact F42
  have F47 := Keep.wr F43 W45 (Or.inr (Nat.le_trans K0.1 (Nat.le_of_eq ga2.symm)))
  refine own_go (B := (T45.setTop (mkF m 62 #[iv p0, iv p1, iv p2, iv z7, .unset, .unset, .unset, .unset, .unset, .unset] [(.ref a2), (.ref a2)]))) (fun t k => XS.dup X45.here hx rfl (hb hby at_61) rfl rfl k) ?_
  refine own_go (B := (T45.setTop (mkF m 64 #[iv p0, iv p1, iv p2, iv z7, .unset, .unset, .unset, .unset, .unset, .unset] [(.int (11 : Int32)), (.ref a2), (.ref a2)]))) (fun t k => own_bipush (v := (11 : Int32)) X45.here hx rfl (hb hby at_62) (by decide) k) ?_
  refine own_go (B := (T45.setTop (mkF m 65 #[iv p0, iv p1, iv p2, iv z7, .unset, .unset, .unset, .unset, .unset, .unset] [(.int (1 : Int32)), (.int (11 : Int32)), (.ref a2), (.ref a2)]))) (fun t k => own_iconst (v := (1 : Int32)) X45.here hx rfl (hb hby at_64) (by decide) k) ?_
  obtain ⟨T49, h49, X49, e49, W49, V49, st49⟩ := own_stI X45 hx hZ e45 V45 (i := 11) (by decide) (by decide) (Nat.lt_of_lt_of_eq (by decide : 11 < 23) rfl) (L' := [(.int (0 : Int32)), (.int (0 : Int32)), (.int (1 : Int32)), (.int (1 : Int32)), (.int (1 : Int32)), (.int (1 : Int32)), (.int (1 : Int32)), (.int (1 : Int32)), (.int (1 : Int32)), (.int (1 : Int32)), (.int (1 : Int32)), (.int (1 : Int32)), (.int (0 : Int32)), (.int (0 : Int32)), (.int (0 : Int32)), (.int (0 : Int32)), (.int (0 : Int32)), (.int (0 : Int32)), (.int (0 : Int32)), (.int (0 : Int32)), (.int (0 : Int32)), (.int (0 : Int32)), (.int (0 : Int32))]) rfl (g := (mkF m 65 #[iv p0, iv p1, iv p2, iv z7, .unset, .unset, .unset, .unset, .unset, .unset] [(.int (1 : Int32)), (.int (11 : Int32)), (.ref a2), (.ref a2)])) rfl rfl (hb hby at_65)
  refine own_go (B := (T49.setTop (mkF m 66 #[iv p0, iv p1, iv p2, iv z7, .unset, .unset, .unset, .unset, .unset, .unset] [(.ref a2)]))) st49 ?_
  obtain ⟨L49, X49, N49⟩ := own_abs X49 (Fr.snoc X49 N45 gn2)
  have F50 : n0 ≤ h49.size := by rw [W49.size]; exact F46
  have F51 := Keep.wr F47 W49 (Or.inr (Nat.le_trans K0.1 (Nat.le_of_eq ga2.symm)))
  refine own_go (B := (T49.setTop (mkF m 67 #[iv p0, iv p1, iv p2, iv z7, .unset, .unset, .unset, .unset, .unset, .unset] [(.ref a2), (.ref a2)]))) (fun t k => XS.dup X49.here hx rfl (hb hby at_66) rfl rfl k) ?_
  refine own_go (B := (T49.setTop (mkF m 69 #[iv p0, iv p1, iv p2, iv z7, .unset, .unset, .unset, .unset, .unset, .unset] [(.int (12 : Int32)), (.ref a2), (.ref a2)]))) (fun t k => own_bipush (v := (12 : Int32)) X49.here hx rfl (hb hby at_67) (by decide) k) ?_
  refine own_go (B := (T49.setTop (mkF m 70 #[iv p0, iv p1, iv p2, iv z7, .unset, .unset, .unset, .unset, .unset, .unset] [(.int (0 : Int32)), (.int (12 : Int32)), (.ref a2), (.ref a2)]))) (fun t k => own_iconst (v := (0 : Int32)) X49.here hx rfl (hb hby at_69) (by decide) k) ?_
  obtain ⟨T53, h53, X53, e53, W53, V53, st53⟩ := own_stI X49 hx hZ e49 V49 (i := 12) (by decide) (by decide) (Nat.lt_of_lt_of_eq (by decide : 12 < 23) rfl) (L' := [(.int (0 : Int32)), (.int (0 : Int32)), (.int (1 : Int32)), (.int (1 : Int32)), (.int (1 : Int32)), (.int (1 : Int32)), (.int (1 : Int32)), (.int (1 : Int32)), (.int (1 : Int32)), (.int (1 : Int32)), (.int (1 : Int32)), (.int (1 : Int32)), (.int (0 : Int32)), (.int (0 : Int32)), (.int (0 : Int32)), (.int (0 : Int32)), (.int (0 : Int32)), (.int (0 : Int32)), (.int (0 : Int32)), (.int (0 : Int32)), (.int (0 : Int32)), (.int (0 : Int32)), (.int (0 : Int32))]) rfl (g := (mkF m 70 #[iv p0, iv p1, iv p2, iv z7, .unset, .unset, .unset, .unset, .unset, .unset] [(.int (0 : Int32)), (.int (12 : Int32)), (.ref a2), (.ref a2)])) rfl rfl (hb hby at_70)
  refine own_go (B := (T53.setTop (mkF m 71 #[iv p0, iv p1, iv p2, iv z7, .unset, .unset, .unset, .unset, .unset, .unset] [(.ref a2)]))) st53 ?_
  obtain ⟨L53, X53, N53⟩ := own_abs X53 (Fr.snoc X53 N49 gn2)
  have F54 : n0 ≤ h53.size := by rw [W53.size]; exact F50
  have F55 := Keep.wr F51 W53 (Or.inr (Nat.le_trans K0.1 (Nat.le_of_eq ga2.symm)))
  refine own_go (B := (T53.setTop (mkF m 72 #[iv p0, iv p1, iv p2, iv z7, .unset, .unset, .unset, .unset, .unset, .unset] [(.ref a2), (.ref a2)]))) (fun t k => XS.dup X53.here hx rfl (hb hby at_71) rfl rfl k) ?_
  refine own_go (B := (T53.setTop (mkF m 74 #[iv p0, iv p1, iv p2, iv z7, .unset, .unset, .unset, .unset, .unset, .unset] [(.int (13 : Int32)), (.ref a2), (.ref a2)]))) (fun t k => own_bipush (v := (13 : Int32)) X53.here hx rfl (hb hby at_72) (by decide) k) ?_
  refine own_go (B := (T53.setTop (mkF m 75 #[iv p0, iv p1, iv p2, iv z7, .unset, .unset, .unset, .unset, .unset, .unset] [(.int (0 : Int32)), (.int (13 : Int32)), (.ref a2), (.ref a2)]))) (fun t k => own_iconst (v := (0 : Int32)) X53.here hx rfl (hb hby at_74) (by decide) k) ?_
  obtain ⟨T57, h57, X57, e57, W57, V57, st57⟩ := own_stI X53 hx hZ e53 V53 (i := 13) (by decide) (by decide) (Nat.lt_of_lt_of_eq (by decide : 13 < 23) rfl) (L' := [(.int (0 : Int32)), (.int (0 : Int32)), (.int (1 : Int32)), (.int (1 : Int32)), (.int (1 : Int32)), (.int (1 : Int32)), (.int (1 : Int32)), (.int (1 : Int32)), (.int (1 : Int32)), (.int (1 : Int32)), (.int (1 : Int32)), (.int (1 : Int32)), (.int (0 : Int32)), (.int (0 : Int32)), (.int (0 : Int32)), (.int (0 : Int32)), (.int (0 : Int32)), (.int (0 : Int32)), (.int (0 : Int32)), (.int (0 : Int32)), (.int (0 : Int32)), (.int (0 : Int32)), (.int (0 : Int32))]) rfl (g := (mkF m 75 #[iv p0, iv p1, iv p2, iv z7, .unset, .unset, .unset, .unset, .unset, .unset] [(.int (0 : Int32)), (.int (13 : Int32)), (.ref a2), (.ref a2)])) rfl rfl (hb hby at_75)
  refine own_go (B := (T57.setTop (mkF m 76 #[iv p0, iv p1, iv p2, iv z7, .unset, .unset, .unset, .unset, .unset, .unset] [(.ref a2)]))) st57 ?_
  obtain ⟨L57, X57, N57⟩ := own_abs X57 (Fr.snoc X57 N53 gn2)
  have F58 : n0 ≤ h57.size := by rw [W57.size]; exact F54
  have F59 := Keep.wr F55 W57 (Or.inr (Nat.le_trans K0.1 (Nat.le_of_eq ga2.symm)))
  refine own_go (B := (T57.setTop (mkF m 77 #[iv p0, iv p1, iv p2, iv z7, .unset, .unset, .unset, .unset, .unset, .unset] [(.ref a2), (.ref a2)]))) (fun t k => XS.dup X57.here hx rfl (hb hby at_76) rfl rfl k) ?_
  refine own_go (B := (T57.setTop (mkF m 79 #[iv p0, iv p1, iv p2, iv z7, .unset, .unset, .unset, .unset, .unset, .unset] [(.int (14 : Int32)), (.ref a2), (.ref a2)]))) (fun t k => own_bipush (v := (14 : Int32)) X57.here hx rfl (hb hby at_77) (by decide) k) ?_
  refine own_go (B := (T57.setTop (mkF m 80 #[iv p0, iv p1, iv p2, iv z7, .unset, .unset, .unset, .unset, .unset, .unset] [(.int (0 : Int32)), (.int (14 : Int32)), (.ref a2), (.ref a2)]))) (fun t k => own_iconst (v := (0 : Int32)) X57.here hx rfl (hb hby at_79) (by decide) k) ?_
  obtain ⟨T61, h61, X61, e61, W61, V61, st61⟩ := own_stI X57 hx hZ e57 V57 (i := 14) (by decide) (by decide) (Nat.lt_of_lt_of_eq (by decide : 14 < 23) rfl) (L' := [(.int (0 : Int32)), (.int (0 : Int32)), (.int (1 : Int32)), (.int (1 : Int32)), (.int (1 : Int32)), (.int (1 : Int32)), (.int (1 : Int32)), (.int (1 : Int32)), (.int (1 : Int32)), (.int (1 : Int32)), (.int (1 : Int32)), (.int (1 : Int32)), (.int (0 : Int32)), (.int (0 : Int32)), (.int (0 : Int32)), (.int (0 : Int32)), (.int (0 : Int32)), (.int (0 : Int32)), (.int (0 : Int32)), (.int (0 : Int32)), (.int (0 : Int32)), (.int (0 : Int32)), (.int (0 : Int32))]) rfl (g := (mkF m 80 #[iv p0, iv p1, iv p2, iv z7, .unset, .unset, .unset, .unset, .unset, .unset] [(.int (0 : Int32)), (.int (14 : Int32)), (.ref a2), (.ref a2)])) rfl rfl (hb hby at_80)
  refine own_go (B := (T61.setTop (mkF m 81 #[iv p0, iv p1, iv p2, iv z7, .unset, .unset, .unset, .unset, .unset, .unset] [(.ref a2)]))) st61 ?_
  obtain ⟨L61, X61, N61⟩ := own_abs X61 (Fr.snoc X61 N57 gn2)
  have F62 : n0 ≤ h61.size := by rw [W61.size]; exact F58
  have F63 := Keep.wr F59 W61 (Or.inr (Nat.le_trans K0.1 (Nat.le_of_eq ga2.symm)))
  refine own_go (B := (T61.setTop (mkF m 82 #[iv p0, iv p1, iv p2, iv z7, .unset, .unset, .unset, .unset, .unset, .unset] [(.ref a2), (.ref a2)]))) (fun t k => XS.dup X61.here hx rfl (hb hby at_81) rfl rfl k) ?_
  refine own_go (B := (T61.setTop (mkF m 84 #[iv p0, iv p1, iv p2, iv z7, .unset, .unset, .unset, .unset, .unset, .unset] [(.int (15 : Int32)), (.ref a2), (.ref a2)]))) (fun t k => own_bipush (v := (15 : Int32)) X61.here hx rfl (hb hby at_82) (by decide) k) ?_
  refine own_go (B := (T61.setTop (mkF m 85 #[iv p0, iv p1, iv p2, iv z7, .unset, .unset, .unset, .unset, .unset, .unset] [(.int (0 : Int32)), (.int (15 : Int32)), (.ref a2), (.ref a2)]))) (fun t k => own_iconst (v := (0 : Int32)) X61.here hx rfl (hb hby at_84) (by decide) k) ?_
  obtain ⟨T65, h65, X65, e65, W65, V65, st65⟩ := own_stI X61 hx hZ e61 V61 (i := 15) (by decide) (by decide) (Nat.lt_of_lt_of_eq (by decide : 15 < 23) rfl) (L' := [(.int (0 : Int32)), (.int (0 : Int32)), (.int (1 : Int32)), (.int (1 : Int32)), (.int (1 : Int32)), (.int (1 : Int32)), (.int (1 : Int32)), (.int (1 : Int32)), (.int (1 : Int32)), (.int (1 : Int32)), (.int (1 : Int32)), (.int (1 : Int32)), (.int (0 : Int32)), (.int (0 : Int32)), (.int (0 : Int32)), (.int (0 : Int32)), (.int (0 : Int32)), (.int (0 : Int32)), (.int (0 : Int32)), (.int (0 : Int32)), (.int (0 : Int32)), (.int (0 : Int32)), (.int (0 : Int32))]) rfl (g := (mkF m 85 #[iv p0, iv p1, iv p2, iv z7, .unset, .unset, .unset, .unset, .unset, .unset] [(.int (0 : Int32)), (.int (15 : Int32)), (.ref a2), (.ref a2)])) rfl rfl (hb hby at_85)
  refine own_go (B := (T65.setTop (mkF m 86 #[iv p0, iv p1, iv p2, iv z7, .unset, .unset, .unset, .unset, .unset, .unset] [(.ref a2)]))) st65 ?_
  obtain ⟨L65, X65, N65⟩ := own_abs X65 (Fr.snoc X65 N61 gn2)
  have F66 : n0 ≤ h65.size := by rw [W65.size]; exact F62
  have F67 := Keep.wr F63 W65 (Or.inr (Nat.le_trans K0.1 (Nat.le_of_eq ga2.symm)))
  refine own_go (B := (T65.setTop (mkF m 87 #[iv p0, iv p1, iv p2, iv z7, .unset, .unset, .unset, .unset, .unset, .unset] [(.ref a2), (.ref a2)]))) (fun t k => XS.dup X65.here hx rfl (hb hby at_86) rfl rfl k) ?_
  refine own_go (B := (T65.setTop (mkF m 89 #[iv p0, iv p1, iv p2, iv z7, .unset, .unset, .unset, .unset, .unset, .unset] [(.int (16 : Int32)), (.ref a2), (.ref a2)]))) (fun t k => own_bipush (v := (16 : Int32)) X65.here hx rfl (hb hby at_87) (by decide) k) ?_
  refine own_go (B := (T65.setTop (mkF m 90 #[iv p0, iv p1, iv p2, iv z7, .unset, .unset, .unset, .unset, .unset, .unset] [(.int (1 : Int32)), (.int (16 : Int32)), (.ref a2), (.ref a2)]))) (fun t k => own_iconst (v := (1 : Int32)) X65.here hx rfl (hb hby at_89) (by decide) k) ?_
  obtain ⟨T69, h69, X69, e69, W69, V69, st69⟩ := own_stI X65 hx hZ e65 V65 (i := 16) (by decide) (by decide) (Nat.lt_of_lt_of_eq (by decide : 16 < 23) rfl) (L' := [(.int (0 : Int32)), (.int (0 : Int32)), (.int (1 : Int32)), (.int (1 : Int32)), (.int (1 : Int32)), (.int (1 : Int32)), (.int (1 : Int32)), (.int (1 : Int32)), (.int (1 : Int32)), (.int (1 : Int32)), (.int (1 : Int32)), (.int (1 : Int32)), (.int (0 : Int32)), (.int (0 : Int32)), (.int (0 : Int32)), (.int (0 : Int32)), (.int (1 : Int32)), (.int (0 : Int32)), (.int (0 : Int32)), (.int (0 : Int32)), (.int (0 : Int32)), (.int (0 : Int32)), (.int (0 : Int32))]) rfl (g := (mkF m 90 #[iv p0, iv p1, iv p2, iv z7, .unset, .unset, .unset, .unset, .unset, .unset] [(.int (1 : Int32)), (.int (16 : Int32)), (.ref a2), (.ref a2)])) rfl rfl (hb hby at_90)
  refine own_go (B := (T69.setTop (mkF m 91 #[iv p0, iv p1, iv p2, iv z7, .unset, .unset, .unset, .unset, .unset, .unset] [(.ref a2)]))) st69 ?_
  obtain ⟨L69, X69, N69⟩ := own_abs X69 (Fr.snoc X69 N65 gn2)
  have F70 : n0 ≤ h69.size := by rw [W69.size]; exact F66
  have F71 := Keep.wr F67 W69 (Or.inr (Nat.le_trans K0.1 (Nat.le_of_eq ga2.symm)))
  refine own_go (B := (T69.setTop (mkF m 92 #[iv p0, iv p1, iv p2, iv z7, .unset, .unset, .unset, .unset, .unset, .unset] [(.ref a2), (.ref a2)]))) (fun t k => XS.dup X69.here hx rfl (hb hby at_91) rfl rfl k) ?_
  refine own_go (B := (T69.setTop (mkF m 94 #[iv p0, iv p1, iv p2, iv z7, .unset, .unset, .unset, .unset, .unset, .unset] [(.int (17 : Int32)), (.ref a2), (.ref a2)]))) (fun t k => own_bipush (v := (17 : Int32)) X69.here hx rfl (hb hby at_92) (by decide) k) ?_
  refine own_go (B := (T69.setTop (mkF m 95 #[iv p0, iv p1, iv p2, iv z7, .unset, .unset, .unset, .unset, .unset, .unset] [(.int (1 : Int32)), (.int (17 : Int32)), (.ref a2), (.ref a2)]))) (fun t k => own_iconst (v := (1 : Int32)) X69.here hx rfl (hb hby at_94) (by decide) k) ?_
  obtain ⟨T73, h73, X73, e73, W73, V73, st73⟩ := own_stI X69 hx hZ e69 V69 (i := 17) (by decide) (by decide) (Nat.lt_of_lt_of_eq (by decide : 17 < 23) rfl) (L' := [(.int (0 : Int32)), (.int (0 : Int32)), (.int (1 : Int32)), (.int (1 : Int32)), (.int (1 : Int32)), (.int (1 : Int32)), (.int (1 : Int32)), (.int (1 : Int32)), (.int (1 : Int32)), (.int (1 : Int32)), (.int (1 : Int32)), (.int (1 : Int32)), (.int (0 : Int32)), (.int (0 : Int32)), (.int (0 : Int32)), (.int (0 : Int32)), (.int (1 : Int32)), (.int (1 : Int32)), (.int (0 : Int32)), (.int (0 : Int32)), (.int (0 : Int32)), (.int (0 : Int32)), (.int (0 : Int32))]) rfl (g := (mkF m 95 #[iv p0, iv p1, iv p2, iv z7, .unset, .unset, .unset, .unset, .unset, .unset] [(.int (1 : Int32)), (.int (17 : Int32)), (.ref a2), (.ref a2)])) rfl rfl (hb hby at_95)
  refine own_go (B := (T73.setTop (mkF m 96 #[iv p0, iv p1, iv p2, iv z7, .unset, .unset, .unset, .unset, .unset, .unset] [(.ref a2)]))) st73 ?_
  obtain ⟨L73, X73, N73⟩ := own_abs X73 (Fr.snoc X73 N69 gn2)
  have F74 : n0 ≤ h73.size := by rw [W73.size]; exact F70
  have F75 := Keep.wr F71 W73 (Or.inr (Nat.le_trans K0.1 (Nat.le_of_eq ga2.symm)))
  refine own_go (B := (T73.setTop (mkF m 97 #[iv p0, iv p1, iv p2, iv z7, .unset, .unset, .unset, .unset, .unset, .unset] [(.ref a2), (.ref a2)]))) (fun t k => XS.dup X73.here hx rfl (hb hby at_96) rfl rfl k) ?_
  refine own_go (B := (T73.setTop (mkF m 99 #[iv p0, iv p1, iv p2, iv z7, .unset, .unset, .unset, .unset, .unset, .unset] [(.int (18 : Int32)), (.ref a2), (.ref a2)]))) (fun t k => own_bipush (v := (18 : Int32)) X73.here hx rfl (hb hby at_97) (by decide) k) ?_
  refine own_go (B := (T73.setTop (mkF m 100 #[iv p0, iv p1, iv p2, iv z7, .unset, .unset, .unset, .unset, .unset, .unset] [(.int (1 : Int32)), (.int (18 : Int32)), (.ref a2), (.ref a2)]))) (fun t k => own_iconst (v := (1 : Int32)) X73.here hx rfl (hb hby at_99) (by decide) k) ?_
  obtain ⟨T77, h77, X77, e77, W77, V77, st77⟩ := own_stI X73 hx hZ e73 V73 (i := 18) (by decide) (by decide) (Nat.lt_of_lt_of_eq (by decide : 18 < 23) rfl) (L' := [(.int (0 : Int32)), (.int (0 : Int32)), (.int (1 : Int32)), (.int (1 : Int32)), (.int (1 : Int32)), (.int (1 : Int32)), (.int (1 : Int32)), (.int (1 : Int32)), (.int (1 : Int32)), (.int (1 : Int32)), (.int (1 : Int32)), (.int (1 : Int32)), (.int (0 : Int32)), (.int (0 : Int32)), (.int (0 : Int32)), (.int (0 : Int32)), (.int (1 : Int32)), (.int (1 : Int32)), (.int (1 : Int32)), (.int (0 : Int32)), (.int (0 : Int32)), (.int (0 : Int32)), (.int (0 : Int32))]) rfl (g := (mkF m 100 #[iv p0, iv p1, iv p2, iv z7, .unset, .unset, .unset, .unset, .unset, .unset] [(.int (1 : Int32)), (.int (18 : Int32)), (.ref a2), (.ref a2)])) rfl rfl (hb hby at_100)
  refine own_go (B := (T77.setTop (mkF m 101 #[iv p0, iv p1, iv p2, iv z7, .unset, .unset, .unset, .unset, .unset, .unset] [(.ref a2)]))) st77 ?_
  obtain ⟨L77, X77, N77⟩ := own_abs X77 (Fr.snoc X77 N73 gn2)
  have F78 : n0 ≤ h77.size := by rw [W77.size]; exact F74
  have F79 := Keep.wr F75 W77 (Or.inr (Nat.le_trans K0.1 (Nat.le_of_eq ga2.symm)))
  refine own_go (B := (T77.setTop (mkF m 102 #[iv p0, iv p1, iv p2, iv z7, .unset, .unset, .unset, .unset, .unset, .unset] [(.ref a2), (.ref a2)]))) (fun t k => XS.dup X77.here hx rfl (hb hby at_101) rfl rfl k) ?_
  refine own_go (B := (T77.setTop (mkF m 104 #[iv p0, iv p1, iv p2, iv z7, .unset, .unset, .unset, .unset, .unset, .unset] [(.int (19 : Int32)), (.ref a2), (.ref a2)]))) (fun t k => own_bipush (v := (19 : Int32)) X77.here hx rfl (hb hby at_102) (by decide) k) ?_
  refine own_go (B := (T77.setTop (mkF m 105 #[iv p0, iv p1, iv p2, iv z7, .unset, .unset, .unset, .unset, .unset, .unset] [(.int (4 : Int32)), (.int (19 : Int32)), (.ref a2), (.ref a2)]))) (fun t k => own_iconst (v := (4 : Int32)) X77.here hx rfl (hb hby at_104) (by decide) k) ?_
  obtain ⟨T81, h81, X81, e81, W81, V81, st81⟩ := own_stI X77 hx hZ e77 V77 (i := 19) (by decide) (by decide) (Nat.lt_of_lt_of_eq (by decide : 19 < 23) rfl) (L' := [(.int (0 : Int32)), (.int (0 : Int32)), (.int (1 : Int32)), (.int (1 : Int32)), (.int (1 : Int32)), (.int (1 : Int32)), (.int (1 : Int32)), (.int (1 : Int32)), (.int (1 : Int32)), (.int (1 : Int32)), (.int (1 : Int32)), (.int (1 : Int32)), (.int (0 : Int32)), (.int (0 : Int32)), (.int (0 : Int32)), (.int (0 : Int32)), (.int (1 : Int32)), (.int (1 : Int32)), (.int (1 : Int32)), (.int (4 : Int32)), (.int (0 : Int32)), (.int (0 : Int32)), (.int (0 : Int32))]) rfl (g := (mkF m 105 #[iv p0, iv p1, iv p2, iv z7, .unset, .unset, .unset, .unset, .unset, .unset] [(.int (4 : Int32)), (.int (19 : Int32)), (.ref a2), (.ref a2)])) rfl rfl (hb hby at_105)
  refine own_go (B := (T81.setTop (mkF m 106 #[iv p0, iv p1, iv p2, iv z7, .unset, .unset, .unset, .unset, .unset, .unset] [(.ref a2)]))) st81 ?_
  obtain ⟨L81, X81, N81⟩ := own_abs X81 (Fr.snoc X81 N77 gn2)
  have F82 : n0 ≤ h81.size := by rw [W81.size]; exact F78
  have F83 := Keep.wr F79 W81 (Or.inr (Nat.le_trans K0.1 (Nat.le_of_eq ga2.symm)))
  refine own_go (B := (T81.setTop (mkF m 107 #[iv p0, iv p1, iv p2, iv z7, .unset, .unset, .unset, .unset, .unset, .unset] [(.ref a2), (.ref a2)]))) (fun t k => XS.dup X81.here hx rfl (hb hby at_106) rfl rfl k) ?_
  refine own_go (B := (T81.setTop (mkF m 109 #[iv p0, iv p1, iv p2, iv z7, .unset, .unset, .unset, .unset, .unset, .unset] [(.int (20 : Int32)), (.ref a2), (.ref a2)]))) (fun t k => own_bipush (v := (20 : Int32)) X81.here hx rfl (hb hby at_107) (by decide) k) ?_
  refine own_go (B := (T81.setTop (mkF m 110 #[iv p0, iv p1, iv p2, iv z7, .unset, .unset, .unset, .unset, .unset, .unset] [(.int (2 : Int32)), (.int (20 : Int32)), (.ref a2), (.ref a2)]))) (fun t k => own_iconst (v := (2 : Int32)) X81.here hx rfl (hb hby at_109) (by decide) k) ?_
  obtain ⟨T85, h85, X85, e85, W85, V85, st85⟩ := own_stI X81 hx hZ e81 V81 (i := 20) (by decide) (by decide) (Nat.lt_of_lt_of_eq (by decide : 20 < 23) rfl) (L' := [(.int (0 : Int32)), (.int (0 : Int32)), (.int (1 : Int32)), (.int (1 : Int32)), (.int (1 : Int32)), (.int (1 : Int32)), (.int (1 : Int32)), (.int (1 : Int32)), (.int (1 : Int32)), (.int (1 : Int32)), (.int (1 : Int32)), (.int (1 : Int32)), (.int (0 : Int32)), (.int (0 : Int32)), (.int (0 : Int32)), (.int (0 : Int32)), (.int (1 : Int32)), (.int (1 : Int32)), (.int (1 : Int32)), (.int (4 : Int32)), (.int (2 : Int32)), (.int (0 : Int32)), (.int (0 : Int32))]) rfl (g := (mkF m 110 #[iv p0, iv p1, iv p2, iv z7, .unset, .unset, .unset, .unset, .unset, .unset] [(.int (2 : Int32)), (.int (20 : Int32)), (.ref a2), (.ref a2)])) rfl rfl (hb hby at_110)
  refine own_go (B := (T85.setTop (mkF m 111 #[iv p0, iv p1, iv p2, iv z7, .unset, .unset, .unset, .unset, .unset, .unset] [(.ref a2)]))) st85 ?_
  obtain ⟨L85, X85, N85⟩ := own_abs X85 (Fr.snoc X85 N81 gn2)
  have F86 : n0 ≤ h85.size := by rw [W85.size]; exact F82
  have F87 := Keep.wr F83 W85 (Or.inr (Nat.le_trans K0.1 (Nat.le_of_eq ga2.symm)))
  refine own_go (B := (T85.setTop (mkF m 112 #[iv p0, iv p1, iv p2, iv z7, .unset, .unset, .unset, .unset, .unset, .unset] [(.ref a2), (.ref a2)]))) (fun t k => XS.dup X85.here hx rfl (hb hby at_111) rfl rfl k) ?_
  refine own_go (B := (T85.setTop (mkF m 114 #[iv p0, iv p1, iv p2, iv z7, .unset, .unset, .unset, .unset, .unset, .unset] [(.int (21 : Int32)), (.ref a2), (.ref a2)]))) (fun t k => own_bipush (v := (21 : Int32)) X85.here hx rfl (hb hby at_112) (by decide) k) ?_
  refine own_go (B := (T85.setTop (mkF m 115 #[iv p0, iv p1, iv p2, iv z7, .unset, .unset, .unset, .unset, .unset, .unset] [(.int (1 : Int32)), (.int (21 : Int32)), (.ref a2), (.ref a2)]))) (fun t k => own_iconst (v := (1 : Int32)) X85.here hx rfl (hb hby at_114) (by decide) k) ?_
  obtain ⟨T89, h89, X89, e89, W89, V89, st89⟩ := own_stI X85 hx hZ e85 V85 (i := 21) (by decide) (by decide) (Nat.lt_of_lt_of_eq (by decide : 21 < 23) rfl) (L' := [(.int (0 : Int32)), (.int (0 : Int32)), (.int (1 : Int32)), (.int (1 : Int32)), (.int (1 : Int32)), (.int (1 : Int32)), (.int (1 : Int32)), (.int (1 : Int32)), (.int (1 : Int32)), (.int (1 : Int32)), (.int (1 : Int32)), (.int (1 : Int32)), (.int (0 : Int32)), (.int (0 : Int32)), (.int (0 : Int32)), (.int (0 : Int32)), (.int (1 : Int32)), (.int (1 : Int32)), (.int (1 : Int32)), (.int (4 : Int32)), (.int (2 : Int32)), (.int (1 : Int32)), (.int (0 : Int32))]) rfl (g := (mkF m 115 #[iv p0, iv p1, iv p2, iv z7, .unset, .unset, .unset, .unset, .unset, .unset] [(.int (1 : Int32)), (.int (21 : Int32)), (.ref a2), (.ref a2)])) rfl rfl (hb hby at_115)
  refine own_go (B := (T89.setTop (mkF m 116 #[iv p0, iv p1, iv p2, iv z7, .unset, .unset, .unset, .unset, .unset, .unset] [(.ref a2)]))) st89 ?_
  obtain ⟨L89, X89, N89⟩ := own_abs X89 (Fr.snoc X89 N85 gn2)
  have F90 : n0 ≤ h89.size := by rw [W89.size]; exact F86
  have F91 := Keep.wr F87 W89 (Or.inr (Nat.le_trans K0.1 (Nat.le_of_eq ga2.symm)))
  refine own_go (B := (T89.setTop (mkF m 117 #[iv p0, iv p1, iv p2, iv z7, .unset, .unset, .unset, .unset, .unset, .unset] [(.ref a2), (.ref a2)]))) (fun t k => XS.dup X89.here hx rfl (hb hby at_116) rfl rfl k) ?_
  refine own_go (B := (T89.setTop (mkF m 119 #[iv p0, iv p1, iv p2, iv z7, .unset, .unset, .unset, .unset, .unset, .unset] [(.int (22 : Int32)), (.ref a2), (.ref a2)]))) (fun t k => own_bipush (v := (22 : Int32)) X89.here hx rfl (hb hby at_117) (by decide) k) ?_
  refine own_go (B := (T89.setTop (mkF m 120 #[iv p0, iv p1, iv p2, iv z7, .unset, .unset, .unset, .unset, .unset, .unset] [(.int (0 : Int32)), (.int (22 : Int32)), (.ref a2), (.ref a2)]))) (fun t k => own_iconst (v := (0 : Int32)) X89.here hx rfl (hb hby at_119) (by decide) k) ?_
  obtain ⟨T93, h93, X93, e93, W93, V93, st93⟩ := own_stI X89 hx hZ e89 V89 (i := 22) (by decide) (by decide) (Nat.lt_of_lt_of_eq (by decide : 22 < 23) rfl) (L' := [(.int (0 : Int32)), (.int (0 : Int32)), (.int (1 : Int32)), (.int (1 : Int32)), (.int (1 : Int32)), (.int (1 : Int32)), (.int (1 : Int32)), (.int (1 : Int32)), (.int (1 : Int32)), (.int (1 : Int32)), (.int (1 : Int32)), (.int (1 : Int32)), (.int (0 : Int32)), (.int (0 : Int32)), (.int (0 : Int32)), (.int (0 : Int32)), (.int (1 : Int32)), (.int (1 : Int32)), (.int (1 : Int32)), (.int (4 : Int32)), (.int (2 : Int32)), (.int (1 : Int32)), (.int (0 : Int32))]) rfl (g := (mkF m 120 #[iv p0, iv p1, iv p2, iv z7, .unset, .unset, .unset, .unset, .unset, .unset] [(.int (0 : Int32)), (.int (22 : Int32)), (.ref a2), (.ref a2)])) rfl rfl (hb hby at_120)
  refine own_go (B := (T93.setTop (mkF m 121 #[iv p0, iv p1, iv p2, iv z7, .unset, .unset, .unset, .unset, .unset, .unset] [(.ref a2)]))) st93 ?_
  obtain ⟨L93, X93, N93⟩ := own_abs X93 (Fr.snoc X93 N89 gn2)
  have F94 : n0 ≤ h93.size := by rw [W93.size]; exact F90
  have F95 := Keep.wr F91 W93 (Or.inr (Nat.le_trans K0.1 (Nat.le_of_eq ga2.symm)))
  refine own_go (B := (T93.setTop (mkF m 123 #[iv p0, iv p1, iv p2, iv z7, rv a2, .unset, .unset, .unset, .unset, .unset] []))) (fun t k => XS.astore X93.here hx rfl (hb hby at_121) rfl rfl (l' := #[iv p0, iv p1, iv p2, iv z7, rv a2, .unset, .unset, .unset, .unset, .unset]) rfl k) ?_
  refine own_go (B := (T93.setTop (mkF m 125 #[iv p0, iv p1, iv p2, iv z7, rv a2, .unset, .unset, .unset, .unset, .unset] [(.int (23 : Int32))]))) (fun t k => own_bipush (v := (23 : Int32)) X93.here hx rfl (hb hby at_123) (by decide) k) ?_
  obtain ⟨T97, h97, c97, X97, e97, E97, A97, st97⟩ := newP X93 hx hZ (aty := .int) w_1 e93 (g := (mkF m 125 #[iv p0, iv p1, iv p2, iv z7, rv a2, .unset, .unset, .unset, .unset, .unset] [(.int (23 : Int32))])) rfl (hb hby at_125) rfl (by decide) (cap := 23) (by decide) (by decide) (own_b rfl) (own_b rfl)
  obtain ⟨a97, ga97⟩ : ∃ z, z = h93.size := ⟨_, rfl⟩
  rw [← ga97] at A97 st97
  refine own_go (B := (T97.setTop (mkF m 127 #[iv p0, iv p1, iv p2, iv z7, rv a2, .unset, .unset, .unset, .unset, .unset] [(.ref a97)]))) st97 ?_
  have Z98 : n0 ≤ h97.size := Nat.le_trans F94 E97.1
  have K99 := Keep.ext F95 E97
  have V100 := own_Ar_ext V93 E97
  have gn97 : n0 ≤ a97 := Nat.le_trans F94 (Nat.le_of_eq ga97.symm)
  have ne97_a2 : a97 ≠ a2 := fun q => absurd (own_Ar_lt V93) (by rw [← q, ga97]; exact Nat.lt_irrefl _)
  have V97 : own_Ar Z h97 a97 .int [(.int (0 : Int32)), (.int (0 : Int32)), (.int (0 : Int32)), (.int (0 : Int32)), (.int (0 : Int32)), (.int (0 : Int32)), (.int (0 : Int32)), (.int (0 : Int32)), (.int (0 : Int32)), (.int (0 : Int32)), (.int (0 : Int32)), (.int (0 : Int32)), (.int (0 : Int32)), (.int (0 : Int32)), (.int (0 : Int32)), (.int (0 : Int32)), (.int (0 : Int32)), (.int (0 : Int32)), (.int (0 : Int32)), (.int (0 : Int32)), (.int (0 : Int32)), (.int (0 : Int32)), (.int (0 : Int32))] := own_Ar_new A97 (N := 23) (by decide) rfl
  refine own_go (B := (T97.setTop (mkF m 128 #[iv p0, iv p1, iv p2, iv z7, rv a2, .unset, .unset, .unset, .unset, .unset] [(.ref a97), (.ref a97)]))) (fun t k => XS.dup X97.here hx rfl (hb hby at_127) rfl rfl k) ?_
  refine own_go (B := (T97.setTop (mkF m 129 #[iv p0, iv p1, iv p2, iv z7, rv a2, .unset, .unset, .unset, .unset, .unset] [(.int (0 : Int32)), (.ref a97), (.ref a97)]))) (fun t k => own_iconst (v := (0 : Int32)) X97.here hx rfl (hb hby at_128) (by decide) k) ?_
  refine own_go (B := (T97.setTop (mkF m 130 #[iv p0, iv p1, iv p2, iv z7, rv a2, .unset, .unset, .unset, .unset, .unset] [(.int (0 : Int32)), (.int (0 : Int32)), (.ref a97), (.ref a97)]))) (fun t k => own_iconst (v := (0 : Int32)) X97.here hx rfl (hb hby at_129) (by decide) k) ?_
  obtain ⟨T101, h101, X101, e101, W101, V101, st101⟩ := own_stI X97 hx hZ e97 V97 (i := 0) (by decide) (by decide) (Nat.lt_of_lt_of_eq (by decide : 0 < 23) rfl) (L' := [(.int (0 : Int32)), (.int (0 : Int32)), (.int (0 : Int32)), (.int (0 : Int32)), (.int (0 : Int32)), (.int (0 : Int32)), (.int (0 : Int32)), (.int (0 : Int32)), (.int (0 : Int32)), (.int (0 : Int32)), (.int (0 : Int32)), (.int (0 : Int32)), (.int (0 : Int32)), (.int (0 : Int32)), (.int (0 : Int32)), (.int (0 : Int32)), (.int (0 : Int32)), (.int (0 : Int32)), (.int (0 : Int32)), (.int (0 : Int32)), (.int (0 : Int32)), (.int (0 : Int32)), (.int (0 : Int32))]) rfl (g := (mkF m 130 #[iv p0, iv p1, iv p2, iv z7, rv a2, .unset, .unset, .unset, .unset, .unset] [(.int (0 : Int32)), (.int (0 : Int32)), (.ref a97), (.ref a97)])) rfl rfl (hb hby at_130)
  refine own_go (B := (T101.setTop (mkF m 131 #[iv p0, iv p1, iv p2, iv z7, rv a2, .unset, .unset, .unset, .unset, .unset] [(.ref a97)]))) st101 ?_
  obtain ⟨L101, X101, N101⟩ := own_abs X101 (Fr.snoc X101 N93 gn97)
  have F102 : n0 ≤ h101.size := by rw [W101.size]; exact Z98
  have F103 := Keep.wr K99 W101 (Or.inr (Nat.le_trans F95.1 (Nat.le_of_eq ga97.symm)))
  have F104 := own_Ar_other V100 W101 (Ne.symm ne97_a2)
  refine own_go (B := (T101.setTop (mkF m 132 #[iv p0, iv p1, iv p2, iv z7, rv a2, .unset, .unset, .unset, .unset, .unset] [(.ref a97), (.ref a97)]))) (fun t k => XS.dup X101.here hx rfl (hb hby at_131) rfl rfl k) ?_
  refine own_go (B := (T101.setTop (mkF m 133 #[iv p0, iv p1, iv p2, iv z7, rv a2, .unset, .unset, .unset, .unset, .unset] [(.int (1 : Int32)), (.ref a97), (.ref a97)]))) (fun t k => own_iconst (v := (1 : Int32)) X101.here hx rfl (hb hby at_132) (by decide) k) ?_
  refine own_go (B := (T101.setTop (mkF m 134 #[iv p0, iv p1, iv p2, iv z7, rv a2, .unset, .unset, .unset, .unset, .unset] [(.int (0 : Int32)), (.int (1 : Int32)), (.ref a97), (.ref a97)]))) (fun t k => own_iconst (v := (0 : Int32)) X101.here hx rfl (hb hby at_133) (by decide) k) ?_
  obtain ⟨T106, h106, X106, e106, W106, V106, st106⟩ := own_stI X101 hx hZ e101 V101 (i := 1) (by decide) (by decide) (Nat.lt_of_lt_of_eq (by decide : 1 < 23) rfl) (L' := [(.int (0 : Int32)), (.int (0 : Int32)), (.int (0 : Int32)), (.int (0 : Int32)), (.int (0 : Int32)), (.int (0 : Int32)), (.int (0 : Int32)), (.int (0 : Int32)), (.int (0 : Int32)), (.int (0 : Int32)), (.int (0 : Int32)), (.int (0 : Int32)), (.int (0 : Int32)), (.int (0 : Int32)), (.int (0 : Int32)), (.int (0 : Int32)), (.int (0 : Int32)), (.int (0 : Int32)), (.int (0 : Int32)), (.int (0 : Int32)), (.int (0 : Int32)), (.int (0 : Int32)), (.int (0 : Int32))]) rfl (g := (mkF m 134 #[iv p0, iv p1, iv p2, iv z7, rv a2, .unset, .unset, .unset, .unset, .unset] [(.int (0 : Int32)), (.int (1 : Int32)), (.ref a97), (.ref a97)])) rfl rfl (hb hby at_134)
  refine own_go (B := (T106.setTop (mkF m 135 #[iv p0, iv p1, iv p2, iv z7, rv a2, .unset, .unset, .unset, .unset, .unset] [(.ref a97)]))) st106 ?_
  obtain ⟨L106, X106, N106⟩ := own_abs X106 (Fr.snoc X106 N101 gn97)
  have F107 : n0 ≤ h106.size := by rw [W106.size]; exact F102
  have F108 := Keep.wr F103 W106 (Or.inr (Nat.le_trans F95.1 (Nat.le_of_eq ga97.symm)))
  have F109 := own_Ar_other F104 W106 (Ne.symm ne97_a2)
  refine own_go (B := (T106.setTop (mkF m 136 #[iv p0, iv p1, iv p2, iv z7, rv a2, .unset, .unset, .unset, .unset, .unset] [(.ref a97), (.ref a97)]))) (fun t k => XS.dup X106.here hx rfl (hb hby at_135) rfl rfl k) ?_
  refine own_go (B := (T106.setTop (mkF m 137 #[iv p0, iv p1, iv p2, iv z7, rv a2, .unset, .unset, .unset, .unset, .unset] [(.int (2 : Int32)), (.ref a97), (.ref a97)]))) (fun t k => own_iconst (v := (2 : Int32)) X106.here hx rfl (hb hby at_136) (by decide) k) ?_
  refine own_go (B := (T106.setTop (mkF m 138 #[iv p0, iv p1, iv p2, iv z7, rv a2, .unset, .unset, .unset, .unset, .unset] [(.int (2 : Int32)), (.int (2 : Int32)), (.ref a97), (.ref a97)]))) (fun t k => own_iconst (v := (2 : Int32)) X106.here hx rfl (hb hby at_137) (by decide) k) ?_
  obtain ⟨T111, h111, X111, e111, W111, V111, st111⟩ := own_stI X106 hx hZ e106 V106 (i := 2) (by decide) (by decide) (Nat.lt_of_lt_of_eq (by decide : 2 < 23) rfl) (L' := [(.int (0 : Int32)), (.int (0 : Int32)), (.int (2 : Int32)), (.int (0 : Int32)), (.int (0 : Int32)), (.int (0 : Int32)), (.int (0 : Int32)), (.int (0 : Int32)), (.int (0 : Int32)), (.int (0 : Int32)), (.int (0 : Int32)), (.int (0 : Int32)), (.int (0 : Int32)), (.int (0 : Int32)), (.int (0 : Int32)), (.int (0 : Int32)), (.int (0 : Int32)), (.int (0 : Int32)), (.int (0 : Int32)), (.int (0 : Int32)), (.int (0 : Int32)), (.int (0 : Int32)), (.int (0 : Int32))]) rfl (g := (mkF m 138 #[iv p0, iv p1, iv p2, iv z7, rv a2, .unset, .unset, .unset, .unset, .unset] [(.int (2 : Int32)), (.int (2 : Int32)), (.ref a97), (.ref a97)])) rfl rfl (hb hby at_138)
  refine own_go (B := (T111.setTop (mkF m 139 #[iv p0, iv p1, iv p2, iv z7, rv a2, .unset, .unset, .unset, .unset, .unset] [(.ref a97)]))) st111 ?_
  obtain ⟨L111, X111, N111⟩ := own_abs X111 (Fr.snoc X111 N106 gn97)
  have F112 : n0 ≤ h111.size := by rw [W111.size]; exact F107
  have F113 := Keep.wr F108 W111 (Or.inr (Nat.le_trans F95.1 (Nat.le_of_eq ga97.symm)))
  have F114 := own_Ar_other F109 W111 (Ne.symm ne97_a2)
  refine own_go (B := (T111.setTop (mkF m 140 #[iv p0, iv p1, iv p2, iv z7, rv a2, .unset, .unset, .unset, .unset, .unset] [(.ref a97), (.ref a97)]))) (fun t k => XS.dup X111.here hx rfl (hb hby at_139) rfl rfl k) ?_
  refine own_go (B := (T111.setTop (mkF m 141 #[iv p0, iv p1, iv p2, iv z7, rv a2, .unset, .unset, .unset, .unset, .unset] [(.int (3 : Int32)), (.ref a97), (.ref a97)]))) (fun t k => own_iconst (v := (3 : Int32)) X111.here hx rfl (hb hby at_140) (by decide) k) ?_
  refine own_go (B := (T111.setTop (mkF m 142 #[iv p0, iv p1, iv p2, iv z7, rv a2, .unset, .unset, .unset, .unset, .unset] [(.int (2 : Int32)), (.int (3 : Int32)), (.ref a97), (.ref a97)]))) (fun t k => own_iconst (v := (2 : Int32)) X111.here hx rfl (hb hby at_141) (by decide) k) ?_
  obtain ⟨T116, h116, X116, e116, W116, V116, st116⟩ := own_stI X111 hx hZ e111 V111 (i := 3) (by decide) (by decide) (Nat.lt_of_lt_of_eq (by decide : 3 < 23) rfl) (L' := [(.int (0 : Int32)), (.int (0 : Int32)), (.int (2 : Int32)), (.int (2 : Int32)), (.int (0 : Int32)), (.int (0 : Int32)), (.int (0 : Int32)), (.int (0 : Int32)), (.int (0 : Int32)), (.int (0 : Int32)), (.int (0 : Int32)), (.int (0 : Int32)), (.int (0 : Int32)), (.int (0 : Int32)), (.int (0 : Int32)), (.int (0 : Int32)), (.int (0 : Int32)), (.int (0 : Int32)), (.int (0 : Int32)), (.int (0 : Int32)), (.int (0 : Int32)), (.int (0 : Int32)), (.int (0 : Int32))]) rfl (g := (mkF m 142 #[iv p0, iv p1, iv p2, iv z7, rv a2, .unset, .unset, .unset, .unset, .unset] [(.int (2 : Int32)), (.int (3 : Int32)), (.ref a97), (.ref a97)])) rfl rfl (hb hby at_142)
  refine own_go (B := (T116.setTop (mkF m 143 #[iv p0, iv p1, iv p2, iv z7, rv a2, .unset, .unset, .unset, .unset, .unset] [(.ref a97)]))) st116 ?_
  obtain ⟨L116, X116, N116⟩ := own_abs X116 (Fr.snoc X116 N111 gn97)
  have F117 : n0 ≤ h116.size := by rw [W116.size]; exact F112
  have F118 := Keep.wr F113 W116 (Or.inr (Nat.le_trans F95.1 (Nat.le_of_eq ga97.symm)))
  have F119 := own_Ar_other F114 W116 (Ne.symm ne97_a2)
  refine own_go (B := (T116.setTop (mkF m 144 #[iv p0, iv p1, iv p2, iv z7, rv a2, .unset, .unset, .unset, .unset, .unset] [(.ref a97), (.ref a97)]))) (fun t k => XS.dup X116.here hx rfl (hb hby at_143) rfl rfl k) ?_
  refine own_go (B := (T116.setTop (mkF m 145 #[iv p0, iv p1, iv p2, iv z7, rv a2, .unset, .unset, .unset, .unset, .unset] [(.int (4 : Int32)), (.ref a97), (.ref a97)]))) (fun t k => own_iconst (v := (4 : Int32)) X116.here hx rfl (hb hby at_144) (by decide) k) ?_
  refine own_go (B := (T116.setTop (mkF m 146 #[iv p0, iv p1, iv p2, iv z7, rv a2, .unset, .unset, .unset, .unset, .unset] [(.int (2 : Int32)), (.int (4 : Int32)), (.ref a97), (.ref a97)]))) (fun t k => own_iconst (v := (2 : Int32)) X116.here hx rfl (hb hby at_145) (by decide) k) ?_
  obtain ⟨T121, h121, X121, e121, W121, V121, st121⟩ := own_stI X116 hx hZ e116 V116 (i := 4) (by decide) (by decide) (Nat.lt_of_lt_of_eq (by decide : 4 < 23) rfl) (L' := [(.int (0 : Int32)), (.int (0 : Int32)), (.int (2 : Int32)), (.int (2 : Int32)), (.int (2 : Int32)), (.int (0 : Int32)), (.int (0 : Int32)), (.int (0 : Int32)), (.int (0 : Int32)), (.int (0 : Int32)), (.int (0 : Int32)), (.int (0 : Int32)), (.int (0 : Int32)), (.int (0 : Int32)), (.int (0 : Int32)), (.int (0 : Int32)), (.int (0 : Int32)), (.int (0 : Int32)), (.int (0 : Int32)), (.int (0 : Int32)), (.int (0 : Int32)), (.int (0 : Int32)), (.int (0 : Int32))]) rfl (g := (mkF m 146 #[iv p0, iv p1, iv p2, iv z7, rv a2, .unset, .unset, .unset, .unset, .unset] [(.int (2 : Int32)), (.int (4 : Int32)), (.ref a97), (.ref a97)])) rfl rfl (hb hby at_146)
  refine own_go (B := (T121.setTop (mkF m 147 #[iv p0, iv p1, iv p2, iv z7, rv a2, .unset, .unset, .unset, .unset, .unset] [(.ref a97)]))) st121 ?_
  obtain ⟨L121, X121, N121⟩ := own_abs X121 (Fr.snoc X121 N116 gn97)
  have F122 : n0 ≤ h121.size := by rw [W121.size]; exact F117
  have F123 := Keep.wr F118 W121 (Or.inr (Nat.le_trans F95.1 (Nat.le_of_eq ga97.symm)))
  have F124 := own_Ar_other F119 W121 (Ne.symm ne97_a2)
  refine own_go (B := (T121.setTop (mkF m 148 #[iv p0, iv p1, iv p2, iv z7, rv a2, .unset, .unset, .unset, .unset, .unset] [(.ref a97), (.ref a97)]))) (fun t k => XS.dup X121.here hx rfl (hb hby at_147) rfl rfl k) ?_
  refine own_go (B := (T121.setTop (mkF m 149 #[iv p0, iv p1, iv p2, iv z7, rv a2, .unset, .unset, .unset, .unset, .unset] [(.int (5 : Int32)), (.ref a97), (.ref a97)]))) (fun t k => own_iconst (v := (5 : Int32)) X121.here hx rfl (hb hby at_148) (by decide) k) ?_
  refine own_go (B := (T121.setTop (mkF m 150 #[iv p0, iv p1, iv p2, iv z7, rv a2, .unset, .unset, .unset, .unset, .unset] [(.int (2 : Int32)), (.int (5 : Int32)), (.ref a97), (.ref a97)]))) (fun t k => own_iconst (v := (2 : Int32)) X121.here hx rfl (hb hby at_149) (by decide) k) ?_
  obtain ⟨T126, h126, X126, e126, W126, V126, st126⟩ := own_stI X121 hx hZ e121 V121 (i := 5) (by decide) (by decide) (Nat.lt_of_lt_of_eq (by decide : 5 < 23) rfl) (L' := [(.int (0 : Int32)), (.int (0 : Int32)), (.int (2 : Int32)), (.int (2 : Int32)), (.int (2 : Int32)), (.int (2 : Int32)), (.int (0 : Int32)), (.int (0 : Int32)), (.int (0 : Int32)), (.int (0 : Int32)), (.int (0 : Int32)), (.int (0 : Int32)), (.int (0 : Int32)), (.int (0 : Int32)), (.int (0 : Int32)), (.int (0 : Int32)), (.int (0 : Int32)), (.int (0 : Int32)), (.int (0 : Int32)), (.int (0 : Int32)), (.int (0 : Int32)), (.int (0 : Int32)), (.int (0 : Int32))]) rfl (g := (mkF m 150 #[iv p0, iv p1, iv p2, iv z7, rv a2, .unset, .unset, .unset, .unset, .unset] [(.int (2 : Int32)), (.int (5 : Int32)), (.ref a97), (.ref a97)])) rfl rfl (hb hby at_150)
  refine own_go (B := (T126.setTop (mkF m 151 #[iv p0, iv p1, iv p2, iv z7, rv a2, .unset, .unset, .unset, .unset, .unset] [(.ref a97)]))) st126 ?_
  obtain ⟨L126, X126, N126⟩ := own_abs X126 (Fr.snoc X126 N121 gn97)
  have F127 : n0 ≤ h126.size := by rw [W126.size]; exact F122
  have F128 := Keep.wr F123 W126 (Or.inr (Nat.le_trans F95.1 (Nat.le_of_eq ga97.symm)))
  have F129 := own_Ar_other F124 W126 (Ne.symm ne97_a2)
  refine own_go (B := (T126.setTop (mkF m 152 #[iv p0, iv p1, iv p2, iv z7, rv a2, .unset, .unset, .unset, .unset, .unset] [(.ref a97), (.ref a97)]))) (fun t k => XS.dup X126.here hx rfl (hb hby at_151) rfl rfl k) ?_
  refine own_go (B := (T126.setTop (mkF m 154 #[iv p0, iv p1, iv p2, iv z7, rv a2, .unset, .unset, .unset, .unset, .unset] [(.int (6 : Int32)), (.ref a97), (.ref a97)]))) (fun t k => own_bipush (v := (6 : Int32)) X126.here hx rfl (hb hby at_152) (by decide) k) ?_
  refine own_go (B := (T126.setTop (mkF m 155 #[iv p0, iv p1, iv p2, iv z7, rv a2, .unset, .unset, .unset, .unset, .unset] [(.int (2 : Int32)), (.int (6 : Int32)), (.ref a97), (.ref a97)]))) (fun t k => own_iconst (v := (2 : Int32)) X126.here hx rfl (hb hby at_154) (by decide) k) ?_
  obtain ⟨T131, h131, X131, e131, W131, V131, st131⟩ := own_stI X126 hx hZ e126 V126 (i := 6) (by decide) (by decide) (Nat.lt_of_lt_of_eq (by decide : 6 < 23) rfl) (L' := [(.int (0 : Int32)), (.int (0 : Int32)), (.int (2 : Int32)), (.int (2 : Int32)), (.int (2 : Int32)), (.int (2 : Int32)), (.int (2 : Int32)), (.int (0 : Int32)), (.int (0 : Int32)), (.int (0 : Int32)), (.int (0 : Int32)), (.int (0 : Int32)), (.int (0 : Int32)), (.int (0 : Int32)), (.int (0 : Int32)), (.int (0 : Int32)), (.int (0 : Int32)), (.int (0 : Int32)), (.int (0 : Int32)), (.int (0 : Int32)), (.int (0 : Int32)), (.int (0 : Int32)), (.int (0 : Int32))]) rfl (g := (mkF m 155 #[iv p0, iv p1, iv p2, iv z7, rv a2, .unset, .unset, .unset, .unset, .unset] [(.int (2 : Int32)), (.int (6 : Int32)), (.ref a97), (.ref a97)])) rfl rfl (hb hby at_155)
  refine own_go (B := (T131.setTop (mkF m 156 #[iv p0, iv p1, iv p2, iv z7, rv a2, .unset, .unset, .unset, .unset, .unset] [(.ref a97)]))) st131 ?_
  obtain ⟨L131, X131, N131⟩ := own_abs X131 (Fr.snoc X131 N126 gn97)
  have F132 : n0 ≤ h131.size := by rw [W131.size]; exact F127
  have F133 := Keep.wr F128 W131 (Or.inr (Nat.le_trans F95.1 (Nat.le_of_eq ga97.symm)))
  have F134 := own_Ar_other F129 W131 (Ne.symm ne97_a2)
  refine own_go (B := (T131.setTop (mkF m 157 #[iv p0, iv p1, iv p2, iv z7, rv a2, .unset, .unset, .unset, .unset, .unset] [(.ref a97), (.ref a97)]))) (fun t k => XS.dup X131.here hx rfl (hb hby at_156) rfl rfl k) ?_
  refine own_go (B := (T131.setTop (mkF m 159 #[iv p0, iv p1, iv p2, iv z7, rv a2, .unset, .unset, .unset, .unset, .unset] [(.int (7 : Int32)), (.ref a97), (.ref a97)]))) (fun t k => own_bipush (v := (7 : Int32)) X131.here hx rfl (hb hby at_157) (by decide) k) ?_
  refine own_go (B := (T131.setTop (mkF m 160 #[iv p0, iv p1, iv p2, iv z7, rv a2, .unset, .unset, .unset, .unset, .unset] [(.int (2 : Int32)), (.int (7 : Int32)), (.ref a97), (.ref a97)]))) (fun t k => own_iconst (v := (2 : Int32)) X131.here hx rfl (hb hby at_159) (by decide) k) ?_
  obtain ⟨T136, h136, X136, e136, W136, V136, st136⟩ := own_stI X131 hx hZ e131 V131 (i := 7) (by decide) (by decide) (Nat.lt_of_lt_of_eq (by decide : 7 < 23) rfl) (L' := [(.int (0 : Int32)), (.int (0 : Int32)), (.int (2 : Int32)), (.int (2 : Int32)), (.int (2 : Int32)), (.int (2 : Int32)), (.int (2 : Int32)), (.int (2 : Int32)), (.int (0 : Int32)), (.int (0 : Int32)), (.int (0 : Int32)), (.int (0 : Int32)), (.int (0 : Int32)), (.int (0 : Int32)), (.int (0 : Int32)), (.int (0 : Int32)), (.int (0 : Int32)), (.int (0 : Int32)), (.int (0 : Int32)), (.int (0 : Int32)), (.int (0 : Int32)), (.int (0 : Int32)), (.int (0 : Int32))]) rfl (g := (mkF m 160 #[iv p0, iv p1, iv p2, iv z7, rv a2, .unset, .unset, .unset, .unset, .unset] [(.int (2 : Int32)), (.int (7 : Int32)), (.ref a97), (.ref a97)])) rfl rfl (hb hby at_160)
  refine own_go (B := (T136.setTop (mkF m 161 #[iv p0, iv p1, iv p2, iv z7, rv a2, .unset, .unset, .unset, .unset, .unset] [(.ref a97)]))) st136 ?_
  obtain ⟨L136, X136, N136⟩ := own_abs X136 (Fr.snoc X136 N131 gn97)
  have F137 : n0 ≤ h136.size := by rw [W136.size]; exact F132
  have F138 := Keep.wr F133 W136 (Or.inr (Nat.le_trans F95.1 (Nat.le_of_eq ga97.symm)))
  have F139 := own_Ar_other F134 W136 (Ne.symm ne97_a2)
  refine own_go (B := (T136.setTop (mkF m 162 #[iv p0, iv p1, iv p2, iv z7, rv a2, .unset, .unset, .unset, .unset, .unset] [(.ref a97), (.ref a97)]))) (fun t k => XS.dup X136.here hx rfl (hb hby at_161) rfl rfl k) ?_
  refine own_go (B := (T136.setTop (mkF m 164 #[iv p0, iv p1, iv p2, iv z7, rv a2, .unset, .unset, .unset, .unset, .unset] [(.int (8 : Int32)), (.ref a97), (.ref a97)]))) (fun t k => own_bipush (v := (8 : Int32)) X136.here hx rfl (hb hby at_162) (by decide) k) ?_
  refine own_go (B := (T136.setTop (mkF m 165 #[iv p0, iv p1, iv p2, iv z7, rv a2, .unset, .unset, .unset, .unset, .unset] [(.int (2 : Int32)), (.int (8 : Int32)), (.ref a97), (.ref a97)]))) (fun t k => own_iconst (v := (2 : Int32)) X136.here hx rfl (hb hby at_164) (by decide) k) ?_
  obtain ⟨T141, h141, X141, e141, W141, V141, st141⟩ := own_stI X136 hx hZ e136 V136 (i := 8) (by decide) (by decide) (Nat.lt_of_lt_of_eq (by decide : 8 < 23) rfl) (L' := [(.int (0 : Int32)), (.int (0 : Int32)), (.int (2 : Int32)), (.int (2 : Int32)), (.int (2 : Int32)), (.int (2 : Int32)), (.int (2 : Int32)), (.int (2 : Int32)), (.int (2 : Int32)), (.int (0 : Int32)), (.int (0 : Int32)), (.int (0 : Int32)), (.int (0 : Int32)), (.int (0 : Int32)), (.int (0 : Int32)), (.int (0 : Int32)), (.int (0 : Int32)), (.int (0 : Int32)), (.int (0 : Int32)), (.int (0 : Int32)), (.int (0 : Int32)), (.int (0 : Int32)), (.int (0 : Int32))]) rfl (g := (mkF m 165 #[iv p0, iv p1, iv p2, iv z7, rv a2, .unset, .unset, .unset, .unset, .unset] [(.int (2 : Int32)), (.int (8 : Int32)), (.ref a97), (.ref a97)])) rfl rfl (hb hby at_165)
  refine own_go (B := (T141.setTop (mkF m 166 #[iv p0, iv p1, iv p2, iv z7, rv a2, .unset, .unset, .unset, .unset, .unset] [(.ref a97)]))) st141 ?_
  obtain ⟨L141, X141, N141⟩ := own_abs X141 (Fr.snoc X141 N136 gn97)
  have F142 : n0 ≤ h141.size := by rw [W141.size]; exact F137
  have F143 := Keep.wr F138 W141 (Or.inr (Nat.le_trans F95.1 (Nat.le_of_eq ga97.symm)))
  have F144 := own_Ar_other F139 W141 (Ne.symm ne97_a2)
  refine own_go (B := (T141.setTop (mkF m 167 #[iv p0, iv p1, iv p2, iv z7, rv a2, .unset, .unset, .unset, .unset, .unset] [(.ref a97), (.ref a97)]))) (fun t k => XS.dup X141.here hx rfl (hb hby at_166) rfl rfl k) ?_
  refine own_go (B := (T141.setTop (mkF m 169 #[iv p0, iv p1, iv p2, iv z7, rv a2, .unset, .unset, .unset, .unset, .unset] [(.int (9 : Int32)), (.ref a97), (.ref a97)]))) (fun t k => own_bipush (v := (9 : Int32)) X141.here hx rfl (hb hby at_167) (by decide) k) ?_
  refine own_go (B := (T141.setTop (mkF m 170 #[iv p0, iv p1, iv p2, iv z7, rv a2, .unset, .unset, .unset, .unset, .unset] [(.int (2 : Int32)), (.int (9 : Int32)), (.ref a97), (.ref a97)]))) (fun t k => own_iconst (v := (2 : Int32)) X141.here hx rfl (hb hby at_169) (by decide) k) ?_
  obtain ⟨T146, h146, X146, e146, W146, V146, st146⟩ := own_stI X141 hx hZ e141 V141 (i := 9) (by decide) (by decide) (Nat.lt_of_lt_of_eq (by decide : 9 < 23) rfl) (L' := [(.int (0 : Int32)), (.int (0 : Int32)), (.int (2 : Int32)), (.int (2 : Int32)), (.int (2 : Int32)), (.int (2 : Int32)), (.int (2 : Int32)), (.int (2 : Int32)), (.int (2 : Int32)), (.int (2 : Int32)), (.int (0 : Int32)), (.int (0 : Int32)), (.int (0 : Int32)), (.int (0 : Int32)), (.int (0 : Int32)), (.int (0 : Int32)), (.int (0 : Int32)), (.int (0 : Int32)), (.int (0 : Int32)), (.int (0 : Int32)), (.int (0 : Int32)), (.int (0 : Int32)), (.int (0 : Int32))]) rfl (g := (mkF m 170 #[iv p0, iv p1, iv p2, iv z7, rv a2, .unset, .unset, .unset, .unset, .unset] [(.int (2 : Int32)), (.int (9 : Int32)), (.ref a97), (.ref a97)])) rfl rfl (hb hby at_170)
  refine own_go (B := (T146.setTop (mkF m 171 #[iv p0, iv p1, iv p2, iv z7, rv a2, .unset, .unset, .unset, .unset, .unset] [(.ref a97)]))) st146 ?_
  obtain ⟨L146, X146, N146⟩ := own_abs X146 (Fr.snoc X146 N141 gn97)
  have F147 : n0 ≤ h146.size := by rw [W146.size]; exact F142
  have F148 := Keep.wr F143 W146 (Or.inr (Nat.le_trans F95.1 (Nat.le_of_eq ga97.symm)))
  have F149 := own_Ar_other F144 W146 (Ne.symm ne97_a2)
  refine own_go (B := (T146.setTop (mkF m 172 #[iv p0, iv p1, iv p2, iv z7, rv a2, .unset, .unset, .unset, .unset, .unset] [(.ref a97), (.ref a97)]))) (fun t k => XS.dup X146.here hx rfl (hb hby at_171) rfl rfl k) ?_
  refine own_go (B := (T146.setTop (mkF m 174 #[iv p0, iv p1, iv p2, iv z7, rv a2, .unset, .unset, .unset, .unset, .unset] [(.int (10 : Int32)), (.ref a97), (.ref a97)]))) (fun t k => own_bipush (v := (10 : Int32)) X146.here hx rfl (hb hby at_172) (by decide) k) ?_
  refine own_go (B := (T146.setTop (mkF m 175 #[iv p0, iv p1, iv p2, iv z7, rv a2, .unset, .unset, .unset, .unset, .unset] [(.int (2 : Int32)), (.int (10 : Int32)), (.ref a97), (.ref a97)]))) (fun t k => own_iconst (v := (2 : Int32)) X146.here hx rfl (hb hby at_174) (by decide) k) ?_
  obtain ⟨T151, h151, X151, e151, W151, V151, st151⟩ := own_stI X146 hx hZ e146 V146 (i := 10) (by decide) (by decide) (Nat.lt_of_lt_of_eq (by decide : 10 < 23) rfl) (L' := [(.int (0 : Int32)), (.int (0 : Int32)), (.int (2 : Int32)), (.int (2 : Int32)), (.int (2 : Int32)), (.int (2 : Int32)), (.int (2 : Int32)), (.int (2 : Int32)), (.int (2 : Int32)), (.int (2 : Int32)), (.int (2 : Int32)), (.int (0 : Int32)), (.int (0 : Int32)), (.int (0 : Int32)), (.int (0 : Int32)), (.int (0 : Int32)), (.int (0 : Int32)), (.int (0 : Int32)), (.int (0 : Int32)), (.int (0 : Int32)), (.int (0 : Int32)), (.int (0 : Int32)), (.int (0 : Int32))]) rfl (g := (mkF m 175 #[iv p0, iv p1, iv p2, iv z7, rv a2, .unset, .unset, .unset, .unset, .unset] [(.int (2 : Int32)), (.int (10 : Int32)), (.ref a97), (.ref a97)])) rfl rfl (hb hby at_175)
  refine own_go (B := (T151.setTop (mkF m 176 #[iv p0, iv p1, iv p2, iv z7, rv a2, .unset, .unset, .unset, .unset, .unset] [(.ref a97)]))) st151 ?_
  obtain ⟨L151, X151, N151⟩ := own_abs X151 (Fr.snoc X151 N146 gn97)
  have F152 : n0 ≤ h151.size := by rw [W151.size]; exact F147
  have F153 := Keep.wr F148 W151 (Or.inr (Nat.le_trans F95.1 (Nat.le_of_eq ga97.symm)))
  have F154 := own_Ar_other F149 W151 (Ne.symm ne97_a2)
  refine own_go (B := (T151.setTop (mkF m 177 #[iv p0, iv p1, iv p2, iv z7, rv a2, .unset, .unset, .unset, .unset, .unset] [(.ref a97), (.ref a97)]))) (fun t k => XS.dup X151.here hx rfl (hb hby at_176) rfl rfl k) ?_
  refine own_go (B := (T151.setTop (mkF m 179 #[iv p0, iv p1, iv p2, iv z7, rv a2, .unset, .unset, .unset, .unset, .unset] [(.int (11 : Int32)), (.ref a97), (.ref a97)]))) (fun t k => own_bipush (v := (11 : Int32)) X151.here hx rfl (hb hby at_177) (by decide) k) ?_
  refine own_go (B := (T151.setTop (mkF m 180 #[iv p0, iv p1, iv p2, iv z7, rv a2, .unset, .unset, .unset, .unset, .unset] [(.int (2 : Int32)), (.int (11 : Int32)), (.ref a97), (.ref a97)]))) (fun t k => own_iconst (v := (2 : Int32)) X151.here hx rfl (hb hby at_179) (by decide) k) ?_
  obtain ⟨T156, h156, X156, e156, W156, V156, st156⟩ := own_stI X151 hx hZ e151 V151 (i := 11) (by decide) (by decide) (Nat.lt_of_lt_of_eq (by decide : 11 < 23) rfl) (L' := [(.int (0 : Int32)), (.int (0 : Int32)), (.int (2 : Int32)), (.int (2 : Int32)), (.int (2 : Int32)), (.int (2 : Int32)), (.int (2 : Int32)), (.int (2 : Int32)), (.int (2 : Int32)), (.int (2 : Int32)), (.int (2 : Int32)), (.int (2 : Int32)), (.int (0 : Int32)), (.int (0 : Int32)), (.int (0 : Int32)), (.int (0 : Int32)), (.int (0 : Int32)), (.int (0 : Int32)), (.int (0 : Int32)), (.int (0 : Int32)), (.int (0 : Int32)), (.int (0 : Int32)), (.int (0 : Int32))]) rfl (g := (mkF m 180 #[iv p0, iv p1, iv p2, iv z7, rv a2, .unset, .unset, .unset, .unset, .unset] [(.int (2 : Int32)), (.int (11 : Int32)), (.ref a97), (.ref a97)])) rfl rfl (hb hby at_180)
  refine own_go (B := (T156.setTop (mkF m 181 #[iv p0, iv p1, iv p2, iv z7, rv a2, .unset, .unset, .unset, .unset, .unset] [(.ref a97)]))) st156 ?_
  obtain ⟨L156, X156, N156⟩ := own_abs X156 (Fr.snoc X156 N151 gn97)
  have F157 : n0 ≤ h156.size := by rw [W156.size]; exact F152
  have F158 := Keep.wr F153 W156 (Or.inr (Nat.le_trans F95.1 (Nat.le_of_eq ga97.symm)))
  have F159 := own_Ar_other F154 W156 (Ne.symm ne97_a2)
  refine own_go (B := (T156.setTop (mkF m 182 #[iv p0, iv p1, iv p2, iv z7, rv a2, .unset, .unset, .unset, .unset, .unset] [(.ref a97), (.ref a97)]))) (fun t k => XS.dup X156.here hx rfl (hb hby at_181) rfl rfl k) ?_
  refine own_go (B := (T156.setTop (mkF m 184 #[iv p0, iv p1, iv p2, iv z7, rv a2, .unset, .unset, .unset, .unset, .unset] [(.int (12 : Int32)), (.ref a97), (.ref a97)]))) (fun t k => own_bipush (v := (12 : Int32)) X156.here hx rfl (hb hby at_182) (by decide) k) ?_
  refine own_go (B := (T156.setTop (mkF m 185 #[iv p0, iv p1, iv p2, iv z7, rv a2, .unset, .unset, .unset, .unset, .unset] [(.int (0 : Int32)), (.int (12 : Int32)), (.ref a97), (.ref a97)]))) (fun t k => own_iconst (v := (0 : Int32)) X156.here hx rfl (hb hby at_184) (by decide) k) ?_
  obtain ⟨T161, h161, X161, e161, W161, V161, st161⟩ := own_stI X156 hx hZ e156 V156 (i := 12) (by decide) (by decide) (Nat.lt_of_lt_of_eq (by decide : 12 < 23) rfl) (L' := [(.int (0 : Int32)), (.int (0 : Int32)), (.int (2 : Int32)), (.int (2 : Int32)), (.int (2 : Int32)), (.int (2 : Int32)), (.int (2 : Int32)), (.int (2 : Int32)), (.int (2 : Int32)), (.int (2 : Int32)), (.int (2 : Int32)), (.int (2 : Int32)), (.int (0 : Int32)), (.int (0 : Int32)), (.int (0 : Int32)), (.int (0 : Int32)), (.int (0 : Int32)), (.int (0 : Int32)), (.int (0 : Int32)), (.int (0 : Int32)), (.int (0 : Int32)), (.int (0 : Int32)), (.int (0 : Int32))]) rfl (g := (mkF m 185 #[iv p0, iv p1, iv p2, iv z7, rv a2, .unset, .unset, .unset, .unset, .unset] [(.int (0 : Int32)), (.int (12 : Int32)), (.ref a97), (.ref a97)])) rfl rfl (hb hby at_185)
  refine own_go (B := (T161.setTop (mkF m 186 #[iv p0, iv p1, iv p2, iv z7, rv a2, .unset, .unset, .unset, .unset, .unset] [(.ref a97)]))) st161 ?_
  obtain ⟨L161, X161, N161⟩ := own_abs X161 (Fr.snoc X161 N156 gn97)
  have F162 : n0 ≤ h161.size := by rw [W161.size]; exact F157
  have F163 := Keep.wr F158 W161 (Or.inr (Nat.le_trans F95.1 (Nat.le_of_eq ga97.symm)))
  have F164 := own_Ar_other F159 W161 (Ne.symm ne97_a2)
  refine own_go (B := (T161.setTop (mkF m 187 #[iv p0, iv p1, iv p2, iv z7, rv a2, .unset, .unset, .unset, .unset, .unset] [(.ref a97), (.ref a97)]))) (fun t k => XS.dup X161.here hx rfl (hb hby at_186) rfl rfl k) ?_
  refine own_go (B := (T161.setTop (mkF m 189 #[iv p0, iv p1, iv p2, iv z7, rv a2, .unset, .unset, .unset, .unset, .unset] [(.int (13 : Int32)), (.ref a97), (.ref a97)]))) (fun t k => own_bipush (v := (13 : Int32)) X161.here hx rfl (hb hby at_187) (by decide) k) ?_
  refine own_go (B := (T161.setTop (mkF m 190 #[iv p0, iv p1, iv p2, iv z7, rv a2, .unset, .unset, .unset, .unset, .unset] [(.int (0 : Int32)), (.int (13 : Int32)), (.ref a97), (.ref a97)]))) (fun t k => own_iconst (v := (0 : Int32)) X161.here hx rfl (hb hby at_189) (by decide) k) ?_
  obtain ⟨T166, h166, X166, e166, W166, V166, st166⟩ := own_stI X161 hx hZ e161 V161 (i := 13) (by decide) (by decide) (Nat.lt_of_lt_of_eq (by decide : 13 < 23) rfl) (L' := [(.int (0 : Int32)), (.int (0 : Int32)), (.int (2 : Int32)), (.int (2 : Int32)), (.int (2 : Int32)), (.int (2 : Int32)), (.int (2 : Int32)), (.int (2 : Int32)), (.int (2 : Int32)), (.int (2 : Int32)), (.int (2 : Int32)), (.int (2 : Int32)), (.int (0 : Int32)), (.int (0 : Int32)), (.int (0 : Int32)), (.int (0 : Int32)), (.int (0 : Int32)), (.int (0 : Int32)), (.int (0 : Int32)), (.int (0 : Int32)), (.int (0 : Int32)), (.int (0 : Int32)), (.int (0 : Int32))]) rfl (g := (mkF m 190 #[iv p0, iv p1, iv p2, iv z7, rv a2, .unset, .unset, .unset, .unset, .unset] [(.int (0 : Int32)), (.int (13 : Int32)), (.ref a97), (.ref a97)])) rfl rfl (hb hby at_190)
  refine own_go (B := (T166.setTop (mkF m 191 #[iv p0, iv p1, iv p2, iv z7, rv a2, .unset, .unset, .unset, .unset, .unset] [(.ref a97)]))) st166 ?_
  obtain ⟨L166, X166, N166⟩ := own_abs X166 (Fr.snoc X166 N161 gn97)
  have F167 : n0 ≤ h166.size := by rw [W166.size]; exact F162
  have F168 := Keep.wr F163 W166 (Or.inr (Nat.le_trans F95.1 (Nat.le_of_eq ga97.symm)))
  have F169 := own_Ar_other F164 W166 (Ne.symm ne97_a2)
  refine own_go (B := (T166.setTop (mkF m 192 #[iv p0, iv p1, iv p2, iv z7, rv a2, .unset, .unset, .unset, .unset, .unset] [(.ref a97), (.ref a97)]))) (fun t k => XS.dup X166.here hx rfl (hb hby at_191) rfl rfl k) ?_
  refine own_go (B := (T166.setTop (mkF m 194 #[iv p0, iv p1, iv p2, iv z7, rv a2, .unset, .unset, .unset, .unset, .unset] [(.int (14 : Int32)), (.ref a97), (.ref a97)]))) (fun t k => own_bipush (v := (14 : Int32)) X166.here hx rfl (hb hby at_192) (by decide) k) ?_
  refine own_go (B := (T166.setTop (mkF m 195 #[iv p0, iv p1, iv p2, iv z7, rv a2, .unset, .unset, .unset, .unset, .unset] [(.int (0 : Int32)), (.int (14 : Int32)), (.ref a97), (.ref a97)]))) (fun t k => own_iconst (v := (0 : Int32)) X166.here hx rfl (hb hby at_194) (by decide) k) ?_
  obtain ⟨T171, h171, X171, e171, W171, V171, st171⟩ := own_stI X166 hx hZ e166 V166 (i := 14) (by decide) (by decide) (Nat.lt_of_lt_of_eq (by decide : 14 < 23) rfl) (L' := [(.int (0 : Int32)), (.int (0 : Int32)), (.int (2 : Int32)), (.int (2 : Int32)), (.int (2 : Int32)), (.int (2 : Int32)), (.int (2 : Int32)), (.int (2 : Int32)), (.int (2 : Int32)), (.int (2 : Int32)), (.int (2 : Int32)), (.int (2 : Int32)), (.int (0 : Int32)), (.int (0 : Int32)), (.int (0 : Int32)), (.int (0 : Int32)), (.int (0 : Int32)), (.int (0 : Int32)), (.int (0 : Int32)), (.int (0 : Int32)), (.int (0 : Int32)), (.int (0 : Int32)), (.int (0 : Int32))]) rfl (g := (mkF m 195 #[iv p0, iv p1, iv p2, iv z7, rv a2, .unset, .unset, .unset, .unset, .unset] [(.int (0 : Int32)), (.int (14 : Int32)), (.ref a97), (.ref a97)])) rfl rfl (hb hby at_195)
  refine own_go (B := (T171.setTop (mkF m 196 #[iv p0, iv p1, iv p2, iv z7, rv a2, .unset, .unset, .unset, .unset, .unset] [(.ref a97)]))) st171 ?_
  obtain ⟨L171, X171, N171⟩ := own_abs X171 (Fr.snoc X171 N166 gn97)
  have F172 : n0 ≤ h171.size := by rw [W171.size]; exact F167
  have F173 := Keep.wr F168 W171 (Or.inr (Nat.le_trans F95.1 (Nat.le_of_eq ga97.symm)))
  have F174 := own_Ar_other F169 W171 (Ne.symm ne97_a2)
  refine own_go (B := (T171.setTop (mkF m 197 #[iv p0, iv p1, iv p2, iv z7, rv a2, .unset, .unset, .unset, .unset, .unset] [(.ref a97), (.ref a97)]))) (fun t k => XS.dup X171.here hx rfl (hb hby at_196) rfl rfl k) ?_
  refine own_go (B := (T171.setTop (mkF m 199 #[iv p0, iv p1, iv p2, iv z7, rv a2, .unset, .unset, .unset, .unset, .unset] [(.int (15 : Int32)), (.ref a97), (.ref a97)]))) (fun t k => own_bipush (v := (15 : Int32)) X171.here hx rfl (hb hby at_197) (by decide) k) ?_
  refine own_go (B := (T171.setTop (mkF m 200 #[iv p0, iv p1, iv p2, iv z7, rv a2, .unset, .unset, .unset, .unset, .unset] [(.int (2 : Int32)), (.int (15 : Int32)), (.ref a97), (.ref a97)]))) (fun t k => own_iconst (v := (2 : Int32)) X171.here hx rfl (hb hby at_199) (by decide) k) ?_
  obtain ⟨T176, h176, X176, e176, W176, V176, st176⟩ := own_stI X171 hx hZ e171 V171 (i := 15) (by decide) (by decide) (Nat.lt_of_lt_of_eq (by decide : 15 < 23) rfl) (L' := [(.int (0 : Int32)), (.int (0 : Int32)), (.int (2 : Int32)), (.int (2 : Int32)), (.int (2 : Int32)), (.int (2 : Int32)), (.int (2 : Int32)), (.int (2 : Int32)), (.int (2 : Int32)), (.int (2 : Int32)), (.int (2 : Int32)), (.int (2 : Int32)), (.int (0 : Int32)), (.int (0 : Int32)), (.int (0 : Int32)), (.int (2 : Int32)), (.int (0 : Int32)), (.int (0 : Int32)), (.int (0 : Int32)), (.int (0 : Int32)), (.int (0 : Int32)), (.int (0 : Int32)), (.int (0 : Int32))]) rfl (g := (mkF m 200 #[iv p0, iv p1, iv p2, iv z7, rv a2, .unset, .unset, .unset, .unset, .unset] [(.int (2 : Int32)), (.int (15 : Int32)), (.ref a97), (.ref a97)])) rfl rfl (hb hby at_200)
  refine own_go (B := (T176.setTop (mkF m 201 #[iv p0, iv p1, iv p2, iv z7, rv a2, .unset, .unset, .unset, .unset, .unset] [(.ref a97)]))) st176 ?_
  obtain ⟨L176, X176, N176⟩ := own_abs X176 (Fr.snoc X176 N171 gn97)
  have F177 : n0 ≤ h176.size := by rw [W176.size]; exact F172
  have F178 := Keep.wr F173 W176 (Or.inr (Nat.le_trans F95.1 (Nat.le_of_eq ga97.symm)))
  have F179 := own_Ar_other F174 W176 (Ne.symm ne97_a2)
  refine own_go (B := (T176.setTop (mkF m 202 #[iv p0, iv p1, iv p2, iv z7, rv a2, .unset, .unset, .unset, .unset, .unset] [(.ref a97), (.ref a97)]))) (fun t k => XS.dup X176.here hx rfl (hb hby at_201) rfl rfl k) ?_
  refine own_go (B := (T176.setTop (mkF m 204 #[iv p0, iv p1, iv p2, iv z7, rv a2, .unset, .unset, .unset, .unset, .unset] [(.int (16 : Int32)), (.ref a97), (.ref a97)]))) (fun t k => own_bipush (v := (16 : Int32)) X176.here hx rfl (hb hby at_202) (by decide) k) ?_
  refine own_go (B := (T176.setTop (mkF m 205 #[iv p0, iv p1, iv p2, iv z7, rv a2, .unset, .unset, .unset, .unset, .unset] [(.int (1 : Int32)), (.int (16 : Int32)), (.ref a97), (.ref a97)]))) (fun t k => own_iconst (v := (1 : Int32)) X176.here hx rfl (hb hby at_204) (by decide) k) ?_
  obtain ⟨T181, h181, X181, e181, W181, V181, st181⟩ := own_stI X176 hx hZ e176 V176 (i := 16) (by decide) (by decide) (Nat.lt_of_lt_of_eq (by decide : 16 < 23) rfl) (L' := [(.int (0 : Int32)), (.int (0 : Int32)), (.int (2 : Int32)), (.int (2 : Int32)), (.int (2 : Int32)), (.int (2 : Int32)), (.int (2 : Int32)), (.int (2 : Int32)), (.int (2 : Int32)), (.int (2 : Int32)), (.int (2 : Int32)), (.int (2 : Int32)), (.int (0 : Int32)), (.int (0 : Int32)), (.int (0 : Int32)), (.int (2 : Int32)), (.int (1 : Int32)), (.int (0 : Int32)), (.int (0 : Int32)), (.int (0 : Int32)), (.int (0 : Int32)), (.int (0 : Int32)), (.int (0 : Int32))]) rfl (g := (mkF m 205 #[iv p0, iv p1, iv p2, iv z7, rv a2, .unset, .unset, .unset, .unset, .unset] [(.int (1 : Int32)), (.int (16 : Int32)), (.ref a97), (.ref a97)])) rfl rfl (hb hby at_205)
  refine own_go (B := (T181.setTop (mkF m 206 #[iv p0, iv p1, iv p2, iv z7, rv a2, .unset, .unset, .unset, .unset, .unset] [(.ref a97)]))) st181 ?_
  obtain ⟨L181, X181, N181⟩ := own_abs X181 (Fr.snoc X181 N176 gn97)
  have F182 : n0 ≤ h181.size := by rw [W181.size]; exact F177
  have F183 := Keep.wr F178 W181 (Or.inr (Nat.le_trans F95.1 (Nat.le_of_eq ga97.symm)))
  have F184 := own_Ar_other F179 W181 (Ne.symm ne97_a2)
  refine own_go (B := (T181.setTop (mkF m 207 #[iv p0, iv p1, iv p2, iv z7, rv a2, .unset, .unset, .unset, .unset, .unset] [(.ref a97), (.ref a97)]))) (fun t k => XS.dup X181.here hx rfl (hb hby at_206) rfl rfl k) ?_
  refine own_go (B := (T181.setTop (mkF m 209 #[iv p0, iv p1, iv p2, iv z7, rv a2, .unset, .unset, .unset, .unset, .unset] [(.int (17 : Int32)), (.ref a97), (.ref a97)]))) (fun t k => own_bipush (v := (17 : Int32)) X181.here hx rfl (hb hby at_207) (by decide) k) ?_
  refine own_go (B := (T181.setTop (mkF m 210 #[iv p0, iv p1, iv p2, iv z7, rv a2, .unset, .unset, .unset, .unset, .unset] [(.int (1 : Int32)), (.int (17 : Int32)), (.ref a97), (.ref a97)]))) (fun t k => own_iconst (v := (1 : Int32)) X181.here hx rfl (hb hby at_209) (by decide) k) ?_
  obtain ⟨T186, h186, X186, e186, W186, V186, st186⟩ := own_stI X181 hx hZ e181 V181 (i := 17) (by decide) (by decide) (Nat.lt_of_lt_of_eq (by decide : 17 < 23) rfl) (L' := [(.int (0 : Int32)), (.int (0 : Int32)), (.int (2 : Int32)), (.int (2 : Int32)), (.int (2 : Int32)), (.int (2 : Int32)), (.int (2 : Int32)), (.int (2 : Int32)), (.int (2 : Int32)), (.int (2 : Int32)), (.int (2 : Int32)), (.int (2 : Int32)), (.int (0 : Int32)), (.int (0 : Int32)), (.int (0 : Int32)), (.int (2 : Int32)), (.int (1 : Int32)), (.int (1 : Int32)), (.int (0 : Int32)), (.int (0 : Int32)), (.int (0 : Int32)), (.int (0 : Int32)), (.int (0 : Int32))]) rfl (g := (mkF m 210 #[iv p0, iv p1, iv p2, iv z7, rv a2, .unset, .unset, .unset, .unset, .unset] [(.int (1 : Int32)), (.int (17 : Int32)), (.ref a97), (.ref a97)])) rfl rfl (hb hby at_210)
  refine own_go (B := (T186.setTop (mkF m 211 #[iv p0, iv p1, iv p2, iv z7, rv a2, .unset, .unset, .unset, .unset, .unset] [(.ref a97)]))) st186 ?_
  obtain ⟨L186, X186, N186⟩ := own_abs X186 (Fr.snoc X186 N181 gn97)
  have F187 : n0 ≤ h186.size := by rw [W186.size]; exact F182
  have F188 := Keep.wr F183 W186 (Or.inr (Nat.le_trans F95.1 (Nat.le_of_eq ga97.symm)))
  have F189 := own_Ar_other F184 W186 (Ne.symm ne97_a2)
  refine own_go (B := (T186.setTop (mkF m 212 #[iv p0, iv p1, iv p2, iv z7, rv a2, .unset, .unset, .unset, .unset, .unset] [(.ref a97), (.ref a97)]))) (fun t k => XS.dup X186.here hx rfl (hb hby at_211) rfl rfl k) ?_
  refine own_go (B := (T186.setTop (mkF m 214 #[iv p0, iv p1, iv p2, iv z7, rv a2, .unset, .unset, .unset, .unset, .unset] [(.int (18 : Int32)), (.ref a97), (.ref a97)]))) (fun t k => own_bipush (v := (18 : Int32)) X186.here hx rfl (hb hby at_212) (by decide) k) ?_
  refine own_go (B := (T186.setTop (mkF m 216 #[iv p0, iv p1, iv p2, iv z7, rv a2, .unset, .unset, .unset, .unset, .unset] [(.int (7 : Int32)), (.int (18 : Int32)), (.ref a97), (.ref a97)]))) (fun t k => own_bipush (v := (7 : Int32)) X186.here hx rfl (hb hby at_214) (by decide) k) ?_
  obtain ⟨T191, h191, X191, e191, W191, V191, st191⟩ := own_stI X186 hx hZ e186 V186 (i := 18) (by decide) (by decide) (Nat.lt_of_lt_of_eq (by decide : 18 < 23) rfl) (L' := [(.int (0 : Int32)), (.int (0 : Int32)), (.int (2 : Int32)), (.int (2 : Int32)), (.int (2 : Int32)), (.int (2 : Int32)), (.int (2 : Int32)), (.int (2 : Int32)), (.int (2 : Int32)), (.int (2 : Int32)), (.int (2 : Int32)), (.int (2 : Int32)), (.int (0 : Int32)), (.int (0 : Int32)), (.int (0 : Int32)), (.int (2 : Int32)), (.int (1 : Int32)), (.int (1 : Int32)), (.int (7 : Int32)), (.int (0 : Int32)), (.int (0 : Int32)), (.int (0 : Int32)), (.int (0 : Int32))]) rfl (g := (mkF m 216 #[iv p0, iv p1, iv p2, iv z7, rv a2, .unset, .unset, .unset, .unset, .unset] [(.int (7 : Int32)), (.int (18 : Int32)), (.ref a97), (.ref a97)])) rfl rfl (hb hby at_216)
  refine own_go (B := (T191.setTop (mkF m 217 #[iv p0, iv p1, iv p2, iv z7, rv a2, .unset, .unset, .unset, .unset, .unset] [(.ref a97)]))) st191 ?_
  obtain ⟨L191, X191, N191⟩ := own_abs X191 (Fr.snoc X191 N186 gn97)
  have F192 : n0 ≤ h191.size := by rw [W191.size]; exact F187
  have F193 := Keep.wr F188 W191 (Or.inr (Nat.le_trans F95.1 (Nat.le_of_eq ga97.symm)))
  have F194 := own_Ar_other F189 W191 (Ne.symm ne97_a2)
  refine own_go (B := (T191.setTop (mkF m 218 #[iv p0, iv p1, iv p2, iv z7, rv a2, .unset, .unset, .unset, .unset, .unset] [(.ref a97), (.ref a97)]))) (fun t k => XS.dup X191.here hx rfl (hb hby at_217) rfl rfl k) ?_
  refine own_go (B := (T191.setTop (mkF m 220 #[iv p0, iv p1, iv p2, iv z7, rv a2, .unset, .unset, .unset, .unset, .unset] [(.int (19 : Int32)), (.ref a97), (.ref a97)]))) (fun t k => own_bipush (v := (19 : Int32)) X191.here hx rfl (hb hby at_218) (by decide) k) ?_
  refine own_go (B := (T191.setTop (mkF m 222 #[iv p0, iv p1, iv p2, iv z7, rv a2, .unset, .unset, .unset, .unset, .unset] [(.int (7 : Int32)), (.int (19 : Int32)), (.ref a97), (.ref a97)]))) (fun t k => own_bipush (v := (7 : Int32)) X191.here hx rfl (hb hby at_220) (by decide) k) ?_
  obtain ⟨T196, h196, X196, e196, W196, V196, st196⟩ := own_stI X191 hx hZ e191 V191 (i := 19) (by decide) (by decide) (Nat.lt_of_lt_of_eq (by decide : 19 < 23) rfl) (L' := [(.int (0 : Int32)), (.int (0 : Int32)), (.int (2 : Int32)), (.int (2 : Int32)), (.int (2 : Int32)), (.int (2 : Int32)), (.int (2 : Int32)), (.int (2 : Int32)), (.int (2 : Int32)), (.int (2 : Int32)), (.int (2 : Int32)), (.int (2 : Int32)), (.int (0 : Int32)), (.int (0 : Int32)), (.int (0 : Int32)), (.int (2 : Int32)), (.int (1 : Int32)), (.int (1 : Int32)), (.int (7 : Int32)), (.int (7 : Int32)), (.int (0 : Int32)), (.int (0 : Int32)), (.int (0 : Int32))]) rfl (g := (mkF m 222 #[iv p0, iv p1, iv p2, iv z7, rv a2, .unset, .unset, .unset, .unset, .unset] [(.int (7 : Int32)), (.int (19 : Int32)), (.ref a97), (.ref a97)])) rfl rfl (hb hby at_222)
  refine own_go (B := (T196.setTop (mkF m 223 #[iv p0, iv p1, iv p2, iv z7, rv a2, .unset, .unset, .unset, .unset, .unset] [(.ref a97)]))) st196 ?_
  obtain ⟨L196, X196, N196⟩ := own_abs X196 (Fr.snoc X196 N191 gn97)
  have F197 : n0 ≤ h196.size := by rw [W196.size]; exact F192
  have F198 := Keep.wr F193 W196 (Or.inr (Nat.le_trans F95.1 (Nat.le_of_eq ga97.symm)))
  have F199 := own_Ar_other F194 W196 (Ne.symm ne97_a2)
  refine own_go (B := (T196.setTop (mkF m 224 #[iv p0, iv p1, iv p2, iv z7, rv a2, .unset, .unset, .unset, .unset, .unset] [(.ref a97), (.ref a97)]))) (fun t k => XS.dup X196.here hx rfl (hb hby at_223) rfl rfl k) ?_
  refine own_go (B := (T196.setTop (mkF m 226 #[iv p0, iv p1, iv p2, iv z7, rv a2, .unset, .unset, .unset, .unset, .unset] [(.int (20 : Int32)), (.ref a97), (.ref a97)]))) (fun t k => own_bipush (v := (20 : Int32)) X196.here hx rfl (hb hby at_224) (by decide) k) ?_
  refine own_go (B := (T196.setTop (mkF m 227 #[iv p0, iv p1, iv p2, iv z7, rv a2, .unset, .unset, .unset, .unset, .unset] [(.int (3 : Int32)), (.int (20 : Int32)), (.ref a97), (.ref a97)]))) (fun t k => own_iconst (v := (3 : Int32)) X196.here hx rfl (hb hby at_226) (by decide) k) ?_
  obtain ⟨T201, h201, X201, e201, W201, V201, st201⟩ := own_stI X196 hx hZ e196 V196 (i := 20) (by decide) (by decide) (Nat.lt_of_lt_of_eq (by decide : 20 < 23) rfl) (L' := [(.int (0 : Int32)), (.int (0 : Int32)), (.int (2 : Int32)), (.int (2 : Int32)), (.int (2 : Int32)), (.int (2 : Int32)), (.int (2 : Int32)), (.int (2 : Int32)), (.int (2 : Int32)), (.int (2 : Int32)), (.int (2 : Int32)), (.int (2 : Int32)), (.int (0 : Int32)), (.int (0 : Int32)), (.int (0 : Int32)), (.int (2 : Int32)), (.int (1 : Int32)), (.int (1 : Int32)), (.int (7 : Int32)), (.int (7 : Int32)), (.int (3 : Int32)), (.int (0 : Int32)), (.int (0 : Int32))]) rfl (g := (mkF m 227 #[iv p0, iv p1, iv p2, iv z7, rv a2, .unset, .unset, .unset, .unset, .unset] [(.int (3 : Int32)), (.int (20 : Int32)), (.ref a97), (.ref a97)])) rfl rfl (hb hby at_227)
  refine own_go (B := (T201.setTop (mkF m 228 #[iv p0, iv p1, iv p2, iv z7, rv a2, .unset, .unset, .unset, .unset, .unset] [(.ref a97)]))) st201 ?_
  obtain ⟨L201, X201, N201⟩ := own_abs X201 (Fr.snoc X201 N196 gn97)
  have F202 : n0 ≤ h201.size := by rw [W201.size]; exact F197
  have F203 := Keep.wr F198 W201 (Or.inr (Nat.le_trans F95.1 (Nat.le_of_eq ga97.symm)))
  have F204 := own_Ar_other F199 W201 (Ne.symm ne97_a2)
  refine own_go (B := (T201.setTop (mkF m 229 #[iv p0, iv p1, iv p2, iv z7, rv a2, .unset, .unset, .unset, .unset, .unset] [(.ref a97), (.ref a97)]))) (fun t k => XS.dup X201.here hx rfl (hb hby at_228) rfl rfl k) ?_
  refine own_go (B := (T201.setTop (mkF m 231 #[iv p0, iv p1, iv p2, iv z7, rv a2, .unset, .unset, .unset, .unset, .unset] [(.int (21 : Int32)), (.ref a97), (.ref a97)]))) (fun t k => own_bipush (v := (21 : Int32)) X201.here hx rfl (hb hby at_229) (by decide) k) ?_
  refine own_go (B := (T201.setTop (mkF m 232 #[iv p0, iv p1, iv p2, iv z7, rv a2, .unset, .unset, .unset, .unset, .unset] [(.int (1 : Int32)), (.int (21 : Int32)), (.ref a97), (.ref a97)]))) (fun t k => own_iconst (v := (1 : Int32)) X201.here hx rfl (hb hby at_231) (by decide) k) ?_
  obtain ⟨T206, h206, X206, e206, W206, V206, st206⟩ := own_stI X201 hx hZ e201 V201 (i := 21) (by decide) (by decide) (Nat.lt_of_lt_of_eq (by decide : 21 < 23) rfl) (L' := [(.int (0 : Int32)), (.int (0 : Int32)), (.int (2 : Int32)), (.int (2 : Int32)), (.int (2 : Int32)), (.int (2 : Int32)), (.int (2 : Int32)), (.int (2 : Int32)), (.int (2 : Int32)), (.int (2 : Int32)), (.int (2 : Int32)), (.int (2 : Int32)), (.int (0 : Int32)), (.int (0 : Int32)), (.int (0 : Int32)), (.int (2 : Int32)), (.int (1 : Int32)), (.int (1 : Int32)), (.int (7 : Int32)), (.int (7 : Int32)), (.int (3 : Int32)), (.int (1 : Int32)), (.int (0 : Int32))]) rfl (g := (mkF m 232 #[iv p0, iv p1, iv p2, iv z7, rv a2, .unset, .unset, .unset, .unset, .unset] [(.int (1 : Int32)), (.int (21 : Int32)), (.ref a97), (.ref a97)])) rfl rfl (hb hby at_232)
  refine own_go (B := (T206.setTop (mkF m 233 #[iv p0, iv p1, iv p2, iv z7, rv a2, .unset, .unset, .unset, .unset, .unset] [(.ref a97)]))) st206 ?_
  obtain ⟨L206, X206, N206⟩ := own_abs X206 (Fr.snoc X206 N201 gn97)
  have F207 : n0 ≤ h206.size := by rw [W206.size]; exact F202
  have F208 := Keep.wr F203 W206 (Or.inr (Nat.le_trans F95.1 (Nat.le_of_eq ga97.symm)))
  have F209 := own_Ar_other F204 W206 (Ne.symm ne97_a2)
  refine own_go (B := (T206.setTop (mkF m 234 #[iv p0, iv p1, iv p2, iv z7, rv a2, .unset, .unset, .unset, .unset, .unset] [(.ref a97), (.ref a97)]))) (fun t k => XS.dup X206.here hx rfl (hb hby at_233) rfl rfl k) ?_
  refine own_go (B := (T206.setTop (mkF m 236 #[iv p0, iv p1, iv p2, iv z7, rv a2, .unset, .unset, .unset, .unset, .unset] [(.int (22 : Int32)), (.ref a97), (.ref a97)]))) (fun t k => own_bipush (v := (22 : Int32)) X206.here hx rfl (hb hby at_234) (by decide) k) ?_
  refine own_go (B := (T206.setTop (mkF m 237 #[iv p0, iv p1, iv p2, iv z7, rv a2, .unset, .unset, .unset, .unset, .unset] [(.int (1 : Int32)), (.int (22 : Int32)), (.ref a97), (.ref a97)]))) (fun t k => own_iconst (v := (1 : Int32)) X206.here hx rfl (hb hby at_236) (by decide) k) ?_
  obtain ⟨T211, h211, X211, e211, W211, V211, st211⟩ := own_stI X206 hx hZ e206 V206 (i := 22) (by decide) (by decide) (Nat.lt_of_lt_of_eq (by decide : 22 < 23) rfl) (L' := [(.int (0 : Int32)), (.int (0 : Int32)), (.int (2 : Int32)), (.int (2 : Int32)), (.int (2 : Int32)), (.int (2 : Int32)), (.int (2 : Int32)), (.int (2 : Int32)), (.int (2 : Int32)), (.int (2 : Int32)), (.int (2 : Int32)), (.int (2 : Int32)), (.int (0 : Int32)), (.int (0 : Int32)), (.int (0 : Int32)), (.int (2 : Int32)), (.int (1 : Int32)), (.int (1 : Int32)), (.int (7 : Int32)), (.int (7 : Int32)), (.int (3 : Int32)), (.int (1 : Int32)), (.int (1 : Int32))]) rfl (g := (mkF m 237 #[iv p0, iv p1, iv p2, iv z7, rv a2, .unset, .unset, .unset, .unset, .unset] [(.int (1 : Int32)), (.int (22 : Int32)), (.ref a97), (.ref a97)])) rfl rfl (hb hby at_237)
  refine own_go (B := (T211.setTop (mkF m 238 #[iv p0, iv p1, iv p2, iv z7, rv a2, .unset, .unset, .unset, .unset, .unset] [(.ref a97)]))) st211 ?_
  obtain ⟨L211, X211, N211⟩ := own_abs X211 (Fr.snoc X211 N206 gn97)
  have F212 : n0 ≤ h211.size := by rw [W211.size]; exact F207
  have F213 := Keep.wr F208 W211 (Or.inr (Nat.le_trans F95.1 (Nat.le_of_eq ga97.symm)))
  have F214 := own_Ar_other F209 W211 (Ne.symm ne97_a2)
  refine own_go (B := (T211.setTop (mkF m 240 #[iv p0, iv p1, iv p2, iv z7, rv a2, rv a97, .unset, .unset, .unset, .unset] []))) (fun t k => XS.astore X211.here hx rfl (hb hby at_238) rfl rfl (l' := #[iv p0, iv p1, iv p2, iv z7, rv a2, rv a97, .unset, .unset, .unset, .unset]) rfl k) ?_
  have VA4 : own_Ar Z h211 a2 .int (List.map Value.int own_los) := F214
  have VA5 : own_Ar Z h211 a97 .int (List.map Value.int own_his) := V211
  refine own_go (B := (T211.setTop (mkF m 242 #[iv p0, iv p1, iv p2, iv z7, rv a2, rv a97, .unset, .unset, .unset, .unset] [(.ref a2)]))) (fun t k => XS.aload X211.here hx rfl (hb hby at_240) rfl rfl k) ?_
  refine own_go (B := (T211.setTop (mkF m 243 #[iv p0, iv p1, iv p2, iv z7, rv a2, rv a97, .unset, .unset, .unset, .unset] [(.int z7), (.ref a2)]))) (fun t k => XS.iloadN X211.here hx rfl (hb hby at_242) rfl k) ?_
  refine own_go (B := (T211.setTop (mkF m 244 #[iv p0, iv p1, iv p2, iv z7, rv a2, rv a97, .unset, .unset, .unset, .unset] [(.int (own_los.getD z7.toNatClampNeg 0))]))) (own_ldI X211 hx hZ e211 VA4 (v := (.int (own_los.getD z7.toNatClampNeg 0))) hk1 (own_get (L := own_los) hk2) (g := (mkF m 243 #[iv p0, iv p1, iv p2, iv z7, rv a2, rv a97, .unset, .unset, .unset, .unset] [(.int z7), (.ref a2)])) rfl rfl (hb hby at_243)) ?_
  obtain ⟨z244, hz244⟩ : ∃ z : Int32, z = (own_los.getD z7.toNatClampNeg 0) := ⟨_, rfl⟩
  rw [← hz244]
  refine own_go (B := (T211.setTop (mkF m 246 #[iv p0, iv p1, iv p2, iv z7, rv a2, rv a97, iv z244, .unset, .unset, .unset] []))) (fun t k => XS.istore X211.here hx rfl (hb hby at_244) rfl (l' := #[iv p0, iv p1, iv p2, iv z7, rv a2, rv a97, iv z244, .unset, .unset, .unset]) rfl k) ?_
  refine own_go (B := (T211.setTop (mkF m 248 #[iv p0, iv p1, iv p2, iv z7, rv a2, rv a97, iv z244, .unset, .unset, .unset] [(.ref a97)]))) (fun t k => XS.aload X211.here hx rfl (hb hby at_246) rfl rfl k) ?_
  refine own_go (B := (T211.setTop (mkF m 249 #[iv p0, iv p1, iv p2, iv z7, rv a2, rv a97, iv z244, .unset, .unset, .unset] [(.int z7), (.ref a97)]))) (fun t k => XS.iloadN X211.here hx rfl (hb hby at_248) rfl k) ?_
  refine own_go (B := (T211.setTop (mkF m 250 #[iv p0, iv p1, iv p2, iv z7, rv a2, rv a97, iv z244, .unset, .unset, .unset] [(.int (own_his.getD z7.toNatClampNeg 0))]))) (own_ldI X211 hx hZ e211 VA5 (v := (.int (own_his.getD z7.toNatClampNeg 0))) hk1 (own_get (L := own_his) hk2) (g := (mkF m 249 #[iv p0, iv p1, iv p2, iv z7, rv a2, rv a97, iv z244, .unset, .unset, .unset] [(.int z7), (.ref a97)])) rfl rfl (hb hby at_249)) ?_
  obtain ⟨z250, hz250⟩ : ∃ z : Int32, z = (own_his.getD z7.toNatClampNeg 0) := ⟨_, rfl⟩
  rw [← hz250]
  refine own_go (B := (T211.setTop (mkF m 252 #[iv p0, iv p1, iv p2, iv z7, rv a2, rv a97, iv z244, iv z250, .unset, .unset] []))) (fun t k => XS.istore X211.here hx rfl (hb hby at_250) rfl (l' := #[iv p0, iv p1, iv p2, iv z7, rv a2, rv a97, iv z244, iv z250, .unset, .unset]) rfl k) ?_
  have J275 : ∀ (ar : Int32), own_G p.tables e below (fun o U' => ∃ v L, o = .returned v ∧ (own_law_Q Z p0 p1 p2 ad h0 n0) v U'.heap L ∧ FrameEnd s o U' L 16 192) (T211.setTop (mkF m 275 #[iv p0, iv p1, iv p2, iv z7, rv a2, rv a97, iv z244, iv z250, iv ar, .unset] [])) := by
    intro ar
    refine own_go (B := (T211.setTop (mkF m 277 #[iv p0, iv p1, iv p2, iv z7, rv a2, rv a97, iv z244, iv z250, iv ar, .unset] [(.int z244)]))) (fun t k => XS.iload X211.here hx rfl (hb hby at_275) rfl k) ?_
    refine own_go (B := (T211.setTop (mkF m 279 #[iv p0, iv p1, iv p2, iv z7, rv a2, rv a97, iv z244, iv z250, iv ar, .unset] [(.int ar), (.int z244)]))) (fun t k => XS.iload X211.here hx rfl (hb hby at_277) rfl k) ?_
    refine own_icmp X211 hx (hb hby at_279) (pc' := 293) (pn := 282) (by decide) (by decide) rfl (fun (hc279 : ar < z244) => ?_) (fun (hc279 : ¬ ar < z244) => ?_)
    · refine own_go (B := (T211.setTop (mkF m 294 #[iv p0, iv p1, iv p2, iv z7, rv a2, rv a97, iv z244, iv z250, iv ar, .unset] [(.int (0 : Int32))]))) (fun t k => own_iconst (v := (0 : Int32)) X211.here hx rfl (hb hby at_293) (by decide) k) ?_
      refine own_go (B := (T211.setTop (mkF m 296 #[iv p0, iv p1, iv p2, iv z7, rv a2, rv a97, iv z244, iv z250, iv ar, iv (0 : Int32)] []))) (fun t k => XS.istore X211.here hx rfl (hb hby at_294) rfl (l' := #[iv p0, iv p1, iv p2, iv z7, rv a2, rv a97, iv z244, iv z250, iv ar, iv (0 : Int32)]) rfl k) ?_
      refine own_go (B := (T211.setTop (mkF m 297 #[iv p0, iv p1, iv p2, iv z7, rv a2, rv a97, iv z244, iv z250, iv ar, iv (0 : Int32)] [(.int z7)]))) (fun t k => XS.iloadN X211.here hx rfl (hb hby at_296) rfl k) ?_
      obtain ⟨_, _, ⟨T216, L216, k216, n216⟩, -, X216, ⟨Lc216, hQ216, l216, y216, z216⟩, st216⟩ := Jvm.LawKit.callS X211 hx (y := own_y1) hown (mvT hZ w_2) (mvT hZ w_3) (mvT hZ w_4) (mvT hZ w_5) (by decide) (backOf (W := 0) (own_pk l Z a0 hw [] z7 ad h211 n0 (own_S_keep hS F213) hk1 hk2) hZ w_5 w_4 (by decide) (by decide)) (g := (mkF m 297 #[iv p0, iv p1, iv p2, iv z7, rv a2, rv a97, iv z244, iv z250, iv ar, iv (0 : Int32)] [(.int z7)])) rfl (by rw [hml]; rfl) (argsL := [(.int z7)]) (rest := []) (lenOf own_pd1 rfl) rfl (by show 2 * 0 + _ ≤ _; exact own_b rfl) (hb hby at_297) (fun _ _ => ⟨rfl, e211, (own_b rfl : 2 + 0 ≤ _), (own_b rfl : 46 + 0 ≤ _)⟩)
      dsimp only [Pt.U, Pt.locs, Pt.cells, Pt.slots] at X216 l216 y216 z216 st216 hQ216
      obtain ⟨rfl, Nq216, eq216⟩ := hQ216
      obtain ⟨L216, X216, N216⟩ := own_absC (K := 2) (K' := 46) X216 l216 y216 z216 N211 Nq216
      have e216 : T216.heap = h211 := eq216
      refine own_go (B := (T216.setTop (mkF m 300 #[iv p0, iv p1, iv p2, iv z7, rv a2, rv a97, iv z244, iv z250, iv ar, iv (0 : Int32)] [(.ref (ad z7.toNatClampNeg))]))) st216 ?_
      obtain ⟨hE, hF1, hF2⟩ := hKK _ hk2
      obtain ⟨z300, hz300⟩ : ∃ z : Addr, z = (ad z7.toNatClampNeg) := ⟨_, rfl⟩
      rw [← hz300]
      rw [← hz300] at hE hF1 hF2
      rw [← hz244] at hF1
      rw [← hz250] at hF2
      have hE2 := hE.keep F213
      have hG1 := hF1.keep F213 nin0
      have hG2 := hF2.keep F213 nin0
      refine own_go (B := (T216.setTop (mkF m 302 #[iv p0, iv p1, iv p2, iv z7, rv a2, rv a97, iv z244, iv z250, iv ar, iv (0 : Int32)] [(.int ar), (.ref z300)]))) (fun t k => XS.iload X216.here hx rfl (hb hby at_300) rfl k) ?_
      obtain ⟨cq217, kq217, qa217, qb217, qc217⟩ := isOf hZ e216 hE2
      obtain ⟨_, _, ⟨T217, L217, k217, n217⟩, -, X217, ⟨Lc217, hQ217, l217, y217, z217⟩, st217⟩ := X216.virtualBack hx (y := own_y2) (z := own_y2) hown (mvT hZ w_9) (mvT hZ w_10) (notFace_of_selects (args := #[]) (mvT hZ w_12)) (mvT hZ w_12) (mvT hZ w_11) (by decide) (backOf (W := 0) (own_tk l Z a0 hw [] z300 ar z244 z250 h211 n0 hG1 hG2) hZ w_13 w_7 (by decide) (by decide)) qa217 qc217 (g := (mkF m 302 #[iv p0, iv p1, iv p2, iv z7, rv a2, rv a97, iv z244, iv z250, iv ar, iv (0 : Int32)] [(.int ar), (.ref z300)])) rfl (by rw [hml]; rfl) (Steps.refl _) (argsL := [(.int ar)]) (rest := []) (lenOf own_pd2 rfl) rfl (by show 2 * 0 + _ ≤ _; exact own_b rfl) (hb hby at_302) (fun _ _ => ⟨rfl, e216, (own_b rfl : 2 + 0 ≤ _), (own_b rfl : 46 + 0 ≤ _)⟩)
      dsimp only [Pt.U, Pt.locs, Pt.cells, Pt.slots] at X217 l217 y217 z217 st217 hQ217
      obtain ⟨rfl, Nq217, eq217⟩ := hQ217
      obtain ⟨L217, X217, N217⟩ := own_absC (K := 2) (K' := 46) X217 l217 y217 z217 N216 Nq217
      have e217 : T217.heap = h211 := eq217
      refine own_tr (B := (T217.setTop (mkF m 305 #[iv p0, iv p1, iv p2, iv z7, rv a2, rv a97, iv z244, iv z250, iv ar, iv (0 : Int32)] [(.int (own_in z244 z250 ar))]))) st217 ?_
      refine own_go (B := (T217.setTop (mkF m 307 #[iv p0, iv p1, iv p2, iv z7, rv a2, rv a97, iv z244, iv z250, iv ar, iv (0 : Int32)] [(.int (0 : Int32)), (.int (own_in z244 z250 ar))]))) (fun t k => XS.iload X217.here hx rfl (hb hby at_305) rfl k) ?_
      have hc307 : (own_in z244 z250 ar) = (0 : Int32) := (by rw [own_in, if_pos hc279])
      refine own_icmpN X217 hx (hb hby at_307) (pn := 310) rfl hc307 ?_
      refine own_go (B := (T217.setTop (mkF m 311 #[iv p0, iv p1, iv p2, iv z7, rv a2, rv a97, iv z244, iv z250, iv ar, iv (0 : Int32)] [(.int (1 : Int32))]))) (fun t k => own_iconst (v := (1 : Int32)) X217.here hx rfl (hb hby at_310) (by decide) k) ?_
      refine own_go (B := (T217.setTop (mkF m 315 #[iv p0, iv p1, iv p2, iv z7, rv a2, rv a97, iv z244, iv z250, iv ar, iv (0 : Int32)] [(.int (1 : Int32))]))) (fun t k => XS.goto X217.here hx rfl (pc0 := 311) (pc' := 315) rfl (hb hby at_311) (by decide) (by decide) k) ?_
      exact own_retZ X217 hx hlk Bd.returns (hb hby at_315) (by decide) (own_b rfl) (own_b rfl) (Q := (own_law_Q Z p0 p1 p2 ad h0 n0)) ⟨rfl, N217⟩
    · refine own_go (B := (T211.setTop (mkF m 284 #[iv p0, iv p1, iv p2, iv z7, rv a2, rv a97, iv z244, iv z250, iv ar, .unset] [(.int ar)]))) (fun t k => XS.iload X211.here hx rfl (hb hby at_282) rfl k) ?_
      refine own_go (B := (T211.setTop (mkF m 286 #[iv p0, iv p1, iv p2, iv z7, rv a2, rv a97, iv z244, iv z250, iv ar, .unset] [(.int z250), (.int ar)]))) (fun t k => XS.iload X211.here hx rfl (hb hby at_284) rfl k) ?_
      refine own_icmp X211 hx (hb hby at_286) (pc' := 293) (pn := 289) (by decide) (by decide) rfl (fun (hc286 : z250 < ar) => ?_) (fun (hc286 : ¬ z250 < ar) => ?_)
      · refine own_go (B := (T211.setTop (mkF m 294 #[iv p0, iv p1, iv p2, iv z7, rv a2, rv a97, iv z244, iv z250, iv ar, .unset] [(.int (0 : Int32))]))) (fun t k => own_iconst (v := (0 : Int32)) X211.here hx rfl (hb hby at_293) (by decide) k) ?_
        refine own_go (B := (T211.setTop (mkF m 296 #[iv p0, iv p1, iv p2, iv z7, rv a2, rv a97, iv z244, iv z250, iv ar, iv (0 : Int32)] []))) (fun t k => XS.istore X211.here hx rfl (hb hby at_294) rfl (l' := #[iv p0, iv p1, iv p2, iv z7, rv a2, rv a97, iv z244, iv z250, iv ar, iv (0 : Int32)]) rfl k) ?_
        refine own_go (B := (T211.setTop (mkF m 297 #[iv p0, iv p1, iv p2, iv z7, rv a2, rv a97, iv z244, iv z250, iv ar, iv (0 : Int32)] [(.int z7)]))) (fun t k => XS.iloadN X211.here hx rfl (hb hby at_296) rfl k) ?_
        obtain ⟨_, _, ⟨T218, L218, k218, n218⟩, -, X218, ⟨Lc218, hQ218, l218, y218, z218⟩, st218⟩ := Jvm.LawKit.callS X211 hx (y := own_y1) hown (mvT hZ w_2) (mvT hZ w_3) (mvT hZ w_4) (mvT hZ w_5) (by decide) (backOf (W := 0) (own_pk l Z a0 hw [] z7 ad h211 n0 (own_S_keep hS F213) hk1 hk2) hZ w_5 w_4 (by decide) (by decide)) (g := (mkF m 297 #[iv p0, iv p1, iv p2, iv z7, rv a2, rv a97, iv z244, iv z250, iv ar, iv (0 : Int32)] [(.int z7)])) rfl (by rw [hml]; rfl) (argsL := [(.int z7)]) (rest := []) (lenOf own_pd1 rfl) rfl (by show 2 * 0 + _ ≤ _; exact own_b rfl) (hb hby at_297) (fun _ _ => ⟨rfl, e211, (own_b rfl : 2 + 0 ≤ _), (own_b rfl : 46 + 0 ≤ _)⟩)
        dsimp only [Pt.U, Pt.locs, Pt.cells, Pt.slots] at X218 l218 y218 z218 st218 hQ218
        obtain ⟨rfl, Nq218, eq218⟩ := hQ218
        obtain ⟨L218, X218, N218⟩ := own_absC (K := 2) (K' := 46) X218 l218 y218 z218 N211 Nq218
        have e218 : T218.heap = h211 := eq218
        refine own_go (B := (T218.setTop (mkF m 300 #[iv p0, iv p1, iv p2, iv z7, rv a2, rv a97, iv z244, iv z250, iv ar, iv (0 : Int32)] [(.ref (ad z7.toNatClampNeg))]))) st218 ?_
        obtain ⟨hE, hF1, hF2⟩ := hKK _ hk2
        obtain ⟨z300, hz300⟩ : ∃ z : Addr, z = (ad z7.toNatClampNeg) := ⟨_, rfl⟩
        rw [← hz300]
        rw [← hz300] at hE hF1 hF2
        rw [← hz244] at hF1
        rw [← hz250] at hF2
        have hE2 := hE.keep F213
        have hG1 := hF1.keep F213 nin0
        have hG2 := hF2.keep F213 nin0
        refine own_go (B := (T218.setTop (mkF m 302 #[iv p0, iv p1, iv p2, iv z7, rv a2, rv a97, iv z244, iv z250, iv ar, iv (0 : Int32)] [(.int ar), (.ref z300)]))) (fun t k => XS.iload X218.here hx rfl (hb hby at_300) rfl k) ?_
        obtain ⟨cq219, kq219, qa219, qb219, qc219⟩ := isOf hZ e218 hE2
        obtain ⟨_, _, ⟨T219, L219, k219, n219⟩, -, X219, ⟨Lc219, hQ219, l219, y219, z219⟩, st219⟩ := X218.virtualBack hx (y := own_y2) (z := own_y2) hown (mvT hZ w_9) (mvT hZ w_10) (notFace_of_selects (args := #[]) (mvT hZ w_12)) (mvT hZ w_12) (mvT hZ w_11) (by decide) (backOf (W := 0) (own_tk l Z a0 hw [] z300 ar z244 z250 h211 n0 hG1 hG2) hZ w_13 w_7 (by decide) (by decide)) qa219 qc219 (g := (mkF m 302 #[iv p0, iv p1, iv p2, iv z7, rv a2, rv a97, iv z244, iv z250, iv ar, iv (0 : Int32)] [(.int ar), (.ref z300)])) rfl (by rw [hml]; rfl) (Steps.refl _) (argsL := [(.int ar)]) (rest := []) (lenOf own_pd2 rfl) rfl (by show 2 * 0 + _ ≤ _; exact own_b rfl) (hb hby at_302) (fun _ _ => ⟨rfl, e218, (own_b rfl : 2 + 0 ≤ _), (own_b rfl : 46 + 0 ≤ _)⟩)
        dsimp only [Pt.U, Pt.locs, Pt.cells, Pt.slots] at X219 l219 y219 z219 st219 hQ219
        obtain ⟨rfl, Nq219, eq219⟩ := hQ219
        obtain ⟨L219, X219, N219⟩ := own_absC (K := 2) (K' := 46) X219 l219 y219 z219 N218 Nq219
        have e219 : T219.heap = h211 := eq219
        refine own_tr (B := (T219.setTop (mkF m 305 #[iv p0, iv p1, iv p2, iv z7, rv a2, rv a97, iv z244, iv z250, iv ar, iv (0 : Int32)] [(.int (own_in z244 z250 ar))]))) st219 ?_
        refine own_go (B := (T219.setTop (mkF m 307 #[iv p0, iv p1, iv p2, iv z7, rv a2, rv a97, iv z244, iv z250, iv ar, iv (0 : Int32)] [(.int (0 : Int32)), (.int (own_in z244 z250 ar))]))) (fun t k => XS.iload X219.here hx rfl (hb hby at_305) rfl k) ?_
        have hc307 : (own_in z244 z250 ar) = (0 : Int32) := (by rw [own_in, if_neg hc279, if_pos hc286])
        refine own_icmpN X219 hx (hb hby at_307) (pn := 310) rfl hc307 ?_
        refine own_go (B := (T219.setTop (mkF m 311 #[iv p0, iv p1, iv p2, iv z7, rv a2, rv a97, iv z244, iv z250, iv ar, iv (0 : Int32)] [(.int (1 : Int32))]))) (fun t k => own_iconst (v := (1 : Int32)) X219.here hx rfl (hb hby at_310) (by decide) k) ?_
        refine own_go (B := (T219.setTop (mkF m 315 #[iv p0, iv p1, iv p2, iv z7, rv a2, rv a97, iv z244, iv z250, iv ar, iv (0 : Int32)] [(.int (1 : Int32))]))) (fun t k => XS.goto X219.here hx rfl (pc0 := 311) (pc' := 315) rfl (hb hby at_311) (by decide) (by decide) k) ?_
        exact own_retZ X219 hx hlk Bd.returns (hb hby at_315) (by decide) (own_b rfl) (own_b rfl) (Q := (own_law_Q Z p0 p1 p2 ad h0 n0)) ⟨rfl, N219⟩
      · refine own_go (B := (T211.setTop (mkF m 290 #[iv p0, iv p1, iv p2, iv z7, rv a2, rv a97, iv z244, iv z250, iv ar, .unset] [(.int (1 : Int32))]))) (fun t k => own_iconst (v := (1 : Int32)) X211.here hx rfl (hb hby at_289) (by decide) k) ?_
        refine own_go (B := (T211.setTop (mkF m 294 #[iv p0, iv p1, iv p2, iv z7, rv a2, rv a97, iv z244, iv z250, iv ar, .unset] [(.int (1 : Int32))]))) (fun t k => XS.goto X211.here hx rfl (pc0 := 290) (pc' := 294) rfl (hb hby at_290) (by decide) (by decide) k) ?_
        refine own_go (B := (T211.setTop (mkF m 296 #[iv p0, iv p1, iv p2, iv z7, rv a2, rv a97, iv z244, iv z250, iv ar, iv (1 : Int32)] []))) (fun t k => XS.istore X211.here hx rfl (hb hby at_294) rfl (l' := #[iv p0, iv p1, iv p2, iv z7, rv a2, rv a97, iv z244, iv z250, iv ar, iv (1 : Int32)]) rfl k) ?_
        refine own_go (B := (T211.setTop (mkF m 297 #[iv p0, iv p1, iv p2, iv z7, rv a2, rv a97, iv z244, iv z250, iv ar, iv (1 : Int32)] [(.int z7)]))) (fun t k => XS.iloadN X211.here hx rfl (hb hby at_296) rfl k) ?_
        obtain ⟨_, _, ⟨T220, L220, k220, n220⟩, -, X220, ⟨Lc220, hQ220, l220, y220, z220⟩, st220⟩ := Jvm.LawKit.callS X211 hx (y := own_y1) hown (mvT hZ w_2) (mvT hZ w_3) (mvT hZ w_4) (mvT hZ w_5) (by decide) (backOf (W := 0) (own_pk l Z a0 hw [] z7 ad h211 n0 (own_S_keep hS F213) hk1 hk2) hZ w_5 w_4 (by decide) (by decide)) (g := (mkF m 297 #[iv p0, iv p1, iv p2, iv z7, rv a2, rv a97, iv z244, iv z250, iv ar, iv (1 : Int32)] [(.int z7)])) rfl (by rw [hml]; rfl) (argsL := [(.int z7)]) (rest := []) (lenOf own_pd1 rfl) rfl (by show 2 * 0 + _ ≤ _; exact own_b rfl) (hb hby at_297) (fun _ _ => ⟨rfl, e211, (own_b rfl : 2 + 0 ≤ _), (own_b rfl : 46 + 0 ≤ _)⟩)
        dsimp only [Pt.U, Pt.locs, Pt.cells, Pt.slots] at X220 l220 y220 z220 st220 hQ220
        obtain ⟨rfl, Nq220, eq220⟩ := hQ220
        obtain ⟨L220, X220, N220⟩ := own_absC (K := 2) (K' := 46) X220 l220 y220 z220 N211 Nq220
        have e220 : T220.heap = h211 := eq220
        refine own_go (B := (T220.setTop (mkF m 300 #[iv p0, iv p1, iv p2, iv z7, rv a2, rv a97, iv z244, iv z250, iv ar, iv (1 : Int32)] [(.ref (ad z7.toNatClampNeg))]))) st220 ?_
        obtain ⟨hE, hF1, hF2⟩ := hKK _ hk2
        obtain ⟨z300, hz300⟩ : ∃ z : Addr, z = (ad z7.toNatClampNeg) := ⟨_, rfl⟩
        rw [← hz300]
        rw [← hz300] at hE hF1 hF2
        rw [← hz244] at hF1
        rw [← hz250] at hF2
        have hE2 := hE.keep F213
        have hG1 := hF1.keep F213 nin0
        have hG2 := hF2.keep F213 nin0
        refine own_go (B := (T220.setTop (mkF m 302 #[iv p0, iv p1, iv p2, iv z7, rv a2, rv a97, iv z244, iv z250, iv ar, iv (1 : Int32)] [(.int ar), (.ref z300)]))) (fun t k => XS.iload X220.here hx rfl (hb hby at_300) rfl k) ?_
        obtain ⟨cq221, kq221, qa221, qb221, qc221⟩ := isOf hZ e220 hE2
        obtain ⟨_, _, ⟨T221, L221, k221, n221⟩, -, X221, ⟨Lc221, hQ221, l221, y221, z221⟩, st221⟩ := X220.virtualBack hx (y := own_y2) (z := own_y2) hown (mvT hZ w_9) (mvT hZ w_10) (notFace_of_selects (args := #[]) (mvT hZ w_12)) (mvT hZ w_12) (mvT hZ w_11) (by decide) (backOf (W := 0) (own_tk l Z a0 hw [] z300 ar z244 z250 h211 n0 hG1 hG2) hZ w_13 w_7 (by decide) (by decide)) qa221 qc221 (g := (mkF m 302 #[iv p0, iv p1, iv p2, iv z7, rv a2, rv a97, iv z244, iv z250, iv ar, iv (1 : Int32)] [(.int ar), (.ref z300)])) rfl (by rw [hml]; rfl) (Steps.refl _) (argsL := [(.int ar)]) (rest := []) (lenOf own_pd2 rfl) rfl (by show 2 * 0 + _ ≤ _; exact own_b rfl) (hb hby at_302) (fun _ _ => ⟨rfl, e220, (own_b rfl : 2 + 0 ≤ _), (own_b rfl : 46 + 0 ≤ _)⟩)
        dsimp only [Pt.U, Pt.locs, Pt.cells, Pt.slots] at X221 l221 y221 z221 st221 hQ221
        obtain ⟨rfl, Nq221, eq221⟩ := hQ221
        obtain ⟨L221, X221, N221⟩ := own_absC (K := 2) (K' := 46) X221 l221 y221 z221 N220 Nq221
        have e221 : T221.heap = h211 := eq221
        refine own_tr (B := (T221.setTop (mkF m 305 #[iv p0, iv p1, iv p2, iv z7, rv a2, rv a97, iv z244, iv z250, iv ar, iv (1 : Int32)] [(.int (own_in z244 z250 ar))]))) st221 ?_
        refine own_go (B := (T221.setTop (mkF m 307 #[iv p0, iv p1, iv p2, iv z7, rv a2, rv a97, iv z244, iv z250, iv ar, iv (1 : Int32)] [(.int (1 : Int32)), (.int (own_in z244 z250 ar))]))) (fun t k => XS.iload X221.here hx rfl (hb hby at_305) rfl k) ?_
        have hc307 : (own_in z244 z250 ar) = (1 : Int32) := (by rw [own_in, if_neg hc279, if_neg hc286])
        refine own_icmpN X221 hx (hb hby at_307) (pn := 310) rfl hc307 ?_
        refine own_go (B := (T221.setTop (mkF m 311 #[iv p0, iv p1, iv p2, iv z7, rv a2, rv a97, iv z244, iv z250, iv ar, iv (1 : Int32)] [(.int (1 : Int32))]))) (fun t k => own_iconst (v := (1 : Int32)) X221.here hx rfl (hb hby at_310) (by decide) k) ?_
        refine own_go (B := (T221.setTop (mkF m 315 #[iv p0, iv p1, iv p2, iv z7, rv a2, rv a97, iv z244, iv z250, iv ar, iv (1 : Int32)] [(.int (1 : Int32))]))) (fun t k => XS.goto X221.here hx rfl (pc0 := 311) (pc' := 315) rfl (hb hby at_311) (by decide) (by decide) k) ?_
        exact own_retZ X221 hx hlk Bd.returns (hb hby at_315) (by decide) (own_b rfl) (own_b rfl) (Q := (own_law_Q Z p0 p1 p2 ad h0 n0)) ⟨rfl, N221⟩
  refine own_go (B := (T211.setTop (mkF m 253 #[iv p0, iv p1, iv p2, iv z7, rv a2, rv a97, iv z244, iv z250, .unset, .unset] [(.int p2)]))) (fun t k => XS.iloadN X211.here hx rfl (hb hby at_252) rfl k) ?_
  refine own_go (B := (T211.setTop (mkF m 254 #[iv p0, iv p1, iv p2, iv z7, rv a2, rv a97, iv z244, iv z250, .unset, .unset] [(.int (1 : Int32)), (.int p2)]))) (fun t k => own_iconst (v := (1 : Int32)) X211.here hx rfl (hb hby at_253) (by decide) k) ?_
  refine own_go (B := (T211.setTop (mkF m 255 #[iv p0, iv p1, iv p2, iv z7, rv a2, rv a97, iv z244, iv z250, .unset, .unset] [(.int (p2 &&& (1 : Int32)))]))) (fun t k => XS.iand (x := p2) (y := (1 : Int32)) X211.here hx rfl (hb hby at_254) rfl k) ?_
  refine own_if X211 hx (hb hby at_255) (pc' := 264) (pn := 258) (by decide) (by decide) rfl (fun (hc255 : (p2 &&& (1 : Int32)) = (0 : Int32)) => ?_) (fun (hc255 : ¬ (p2 &&& (1 : Int32)) = (0 : Int32)) => ?_)
  · refine own_go (B := (T211.setTop (mkF m 266 #[iv p0, iv p1, iv p2, iv z7, rv a2, rv a97, iv z244, iv z250, .unset, .unset] [(.int z244)]))) (fun t k => XS.iload X211.here hx rfl (hb hby at_264) rfl k) ?_
    refine own_go (B := (T211.setTop (mkF m 267 #[iv p0, iv p1, iv p2, iv z7, rv a2, rv a97, iv z244, iv z250, .unset, .unset] [(.int p1), (.int z244)]))) (fun t k => XS.iloadN X211.here hx rfl (hb hby at_266) rfl k) ?_
    refine own_go (B := (T211.setTop (mkF m 269 #[iv p0, iv p1, iv p2, iv z7, rv a2, rv a97, iv z244, iv z250, .unset, .unset] [(.int (15 : Int32)), (.int p1), (.int z244)]))) (fun t k => own_bipush (v := (15 : Int32)) X211.here hx rfl (hb hby at_267) (by decide) k) ?_
    refine own_go (B := (T211.setTop (mkF m 270 #[iv p0, iv p1, iv p2, iv z7, rv a2, rv a97, iv z244, iv z250, .unset, .unset] [(.int (p1 &&& (15 : Int32))), (.int z244)]))) (fun t k => XS.iand (x := p1) (y := (15 : Int32)) X211.here hx rfl (hb hby at_269) rfl k) ?_
    refine own_go (B := (T211.setTop (mkF m 271 #[iv p0, iv p1, iv p2, iv z7, rv a2, rv a97, iv z244, iv z250, .unset, .unset] [(.int (4 : Int32)), (.int (p1 &&& (15 : Int32))), (.int z244)]))) (fun t k => own_iconst (v := (4 : Int32)) X211.here hx rfl (hb hby at_270) (by decide) k) ?_
    refine own_go (B := (T211.setTop (mkF m 272 #[iv p0, iv p1, iv p2, iv z7, rv a2, rv a97, iv z244, iv z250, .unset, .unset] [(.int ((p1 &&& (15 : Int32)) - (4 : Int32))), (.int z244)]))) (fun t k => XS.isub (x := (p1 &&& (15 : Int32))) (y := (4 : Int32)) X211.here hx rfl (hb hby at_271) rfl k) ?_
    refine own_go (B := (T211.setTop (mkF m 273 #[iv p0, iv p1, iv p2, iv z7, rv a2, rv a97, iv z244, iv z250, .unset, .unset] [(.int (z244 + ((p1 &&& (15 : Int32)) - (4 : Int32))))]))) (fun t k => XS.iadd (x := z244) (y := ((p1 &&& (15 : Int32)) - (4 : Int32))) X211.here hx rfl (hb hby at_272) rfl k) ?_
    obtain ⟨z273, hz273⟩ : ∃ z : Int32, z = (z244 + ((p1 &&& (15 : Int32)) - (4 : Int32))) := ⟨_, rfl⟩
    rw [← hz273]
    refine own_go (B := (T211.setTop (mkF m 275 #[iv p0, iv p1, iv p2, iv z7, rv a2, rv a97, iv z244, iv z250, iv z273, .unset] []))) (fun t k => XS.istore X211.here hx rfl (hb hby at_273) rfl (l' := #[iv p0, iv p1, iv p2, iv z7, rv a2, rv a97, iv z244, iv z250, iv z273, .unset]) rfl k) ?_
    exact J275 _
  · refine own_go (B := (T211.setTop (mkF m 259 #[iv p0, iv p1, iv p2, iv z7, rv a2, rv a97, iv z244, iv z250, .unset, .unset] [(.int p1)]))) (fun t k => XS.iloadN X211.here hx rfl (hb hby at_258) rfl k) ?_
    refine own_go (B := (T211.setTop (mkF m 261 #[iv p0, iv p1, iv p2, iv z7, rv a2, rv a97, iv z244, iv z250, iv p1, .unset] []))) (fun t k => XS.istore X211.here hx rfl (hb hby at_259) rfl (l' := #[iv p0, iv p1, iv p2, iv z7, rv a2, rv a97, iv z244, iv z250, iv p1, .unset]) rfl k) ?_
    refine own_go (B := (T211.setTop (mkF m 275 #[iv p0, iv p1, iv p2, iv z7, rv a2, rv a97, iv z244, iv z250, iv p1, .unset] []))) (fun t k => XS.goto X211.here hx rfl (pc0 := 261) (pc' := 275) rfl (hb hby at_261) (by decide) (by decide) k) ?_
    exact J275 _

set_option maxRecDepth 65536 in
set_option maxHeartbeats 40000000 in
theorem own_comes {Post : Tables → Env → Array Value → State → Outcome → State → Prop} (hpost : ∀ tb e args s v u, (limb_1_1.after args s (.returned v) u = true ∧ limb_1_2.after args s (.returned v) u = true ∧ True) → FrameEnd s (.returned v) u (Jvm.fieldLocs frame_1_writes args s ++ Jvm.arrayLocs frame_1_arrays args s ++ Jvm.staticLocs frame_1_statics s) 16 192 → Post tb e args s (.returned v) u) :
    ArmFor flags0 classFile x code maxLocals ret World_1 tables_1 room_1 Calls_1 rest_1 Pre_1 Post := by
  intro l hfl _ _ p e ha hc hk s m args below hf hA hF happ hP
  obtain ⟨hcalls, hrest, hpre⟩ := hP
  obtain ⟨-, -, -, hnamed, -, -, -, hat⟩ := (Spec.applies_iff hf).mp happ
  obtain ⟨hg, hn⟩ := and_e (Cond.before_iff.mp (show (Jvm.Cond.and given_1 narrow_1).before args s = true from hpre))
  obtain ⟨g0, r0⟩ := and_e hg
  obtain ⟨g1, r1⟩ := and_e r0
  obtain ⟨g2, r2⟩ := and_e r1
  obtain ⟨w0, w1, w2, rfl⟩ : ∃ w0 w1 w2 : Value, args = #[w0, w1, w2] := by
    have hs : args.size = 3 := by simpa [Cond.value, given_1] using g0
    obtain ⟨L⟩ := args
    match L, hs with
    | [w0, w1, w2], _ => exact ⟨w0, w1, w2, rfl⟩
  have hw := fun d (hd : d ∈ tables_1) => atoms_spec (ws := Jvm.Cond.code x code maxLocals ret :: tables_1) hat d (List.mem_cons_of_mem _ hd)
  have hfit : Fit s := fun {y c} hc i hi => by
    obtain ⟨ha, rfl⟩ := Array.getElem?_eq_some_iff.mp hc
    have q := List.all_eq_true.mp ((Array.all_eq_true_iff_forall_mem.mp hF) _ (Array.getElem_mem ha)) i (List.mem_range.mpr hi)
    simpa [Array.getElem?_eq_getElem hi] using q
  obtain ⟨i0, e0⟩ := is_v g1
  obtain rfl : w0 = (.int i0) := Option.some.inj e0
  obtain ⟨i1, e1⟩ := is_v g2
  obtain rfl : w1 = (.int i1) := Option.some.inj e1
  obtain ⟨i2, e2⟩ := is_v r2
  obtain rfl : w2 = (.int i2) := Option.some.inj e2
  have w_7 := hw _ (List.mem_of_getElem? (l := tables_1) (i := 7) rfl)
  have w_8 := hw _ (List.mem_of_getElem? (l := tables_1) (i := 8) rfl)
  have w_17 := hw _ (List.mem_of_getElem? (l := tables_1) (i := 17) rfl)
  have w_21 := hw _ (List.mem_of_getElem? (l := tables_1) (i := 21) rfl)
  have w_23 := hw _ (List.mem_of_getElem? (l := tables_1) (i := 23) rfl)
  have w_25 := hw _ (List.mem_of_getElem? (l := tables_1) (i := 25) rfl)
  have w_27 := hw _ (List.mem_of_getElem? (l := tables_1) (i := 27) rfl)
  have w_29 := hw _ (List.mem_of_getElem? (l := tables_1) (i := 29) rfl)
  have w_31 := hw _ (List.mem_of_getElem? (l := tables_1) (i := 31) rfl)
  have w_33 := hw _ (List.mem_of_getElem? (l := tables_1) (i := 33) rfl)
  have w_35 := hw _ (List.mem_of_getElem? (l := tables_1) (i := 35) rfl)
  have w_37 := hw _ (List.mem_of_getElem? (l := tables_1) (i := 37) rfl)
  have w_39 := hw _ (List.mem_of_getElem? (l := tables_1) (i := 39) rfl)
  have w_41 := hw _ (List.mem_of_getElem? (l := tables_1) (i := 41) rfl)
  have w_43 := hw _ (List.mem_of_getElem? (l := tables_1) (i := 43) rfl)
  have w_45 := hw _ (List.mem_of_getElem? (l := tables_1) (i := 45) rfl)
  have w_47 := hw _ (List.mem_of_getElem? (l := tables_1) (i := 47) rfl)
  have w_49 := hw _ (List.mem_of_getElem? (l := tables_1) (i := 49) rfl)
  have w_51 := hw _ (List.mem_of_getElem? (l := tables_1) (i := 51) rfl)
  have w_53 := hw _ (List.mem_of_getElem? (l := tables_1) (i := 53) rfl)
  have w_55 := hw _ (List.mem_of_getElem? (l := tables_1) (i := 55) rfl)
  have w_57 := hw _ (List.mem_of_getElem? (l := tables_1) (i := 57) rfl)
  have w_59 := hw _ (List.mem_of_getElem? (l := tables_1) (i := 59) rfl)
  have w_61 := hw _ (List.mem_of_getElem? (l := tables_1) (i := 61) rfl)
  obtain ⟨nn0, nr0⟩ := and_e hn
  obtain ⟨nn1, nr1⟩ := and_e nr0
  obtain ⟨nn2, nr2⟩ := and_e nr1
  obtain ⟨nn3, nr3⟩ := and_e nr2
  obtain ⟨nn4, nr4⟩ := and_e nr3
  obtain ⟨nn5, nr5⟩ := and_e nr4
  obtain ⟨nn6, nr6⟩ := and_e nr5
  obtain ⟨nn7, nr7⟩ := and_e nr6
  obtain ⟨nn8, nr8⟩ := and_e nr7
  obtain ⟨nn9, nr9⟩ := and_e nr8
  obtain ⟨nn10, nr10⟩ := and_e nr9
  obtain ⟨nn11, nr11⟩ := and_e nr10
  obtain ⟨nn12, nr12⟩ := and_e nr11
  obtain ⟨nn13, nr13⟩ := and_e nr12
  obtain ⟨nn14, nr14⟩ := and_e nr13
  obtain ⟨nn15, nr15⟩ := and_e nr14
  obtain ⟨nn16, nr16⟩ := and_e nr15
  obtain ⟨nn17, nr17⟩ := and_e nr16
  obtain ⟨nn18, nr18⟩ := and_e nr17
  obtain ⟨nn19, nr19⟩ := and_e nr18
  obtain ⟨nn20, nr20⟩ := and_e nr19
  obtain ⟨nn21, nr21⟩ := and_e nr20
  obtain ⟨nn22, nr22⟩ := and_e nr21
  obtain ⟨nn23, nr23⟩ := and_e nr22
  obtain ⟨nn24, nr24⟩ := and_e nr23
  obtain ⟨nn25, nr25⟩ := and_e nr24
  obtain ⟨nn26, nr26⟩ := and_e nr25
  obtain ⟨nn27, nr27⟩ := and_e nr26
  obtain ⟨nn28, nr28⟩ := and_e nr27
  obtain ⟨nn29, nr29⟩ := and_e nr28
  obtain ⟨nn30, nr30⟩ := and_e nr29
  obtain ⟨nn31, nr31⟩ := and_e nr30
  obtain ⟨nn32, nr32⟩ := and_e nr31
  obtain ⟨nn33, nr33⟩ := and_e nr32
  obtain ⟨nn34, nr34⟩ := and_e nr33
  obtain ⟨nn35, nr35⟩ := and_e nr34
  obtain ⟨nn36, nr36⟩ := and_e nr35
  obtain ⟨nn37, nr37⟩ := and_e nr36
  obtain ⟨nn38, nr38⟩ := and_e nr37
  obtain ⟨nn39, nr39⟩ := and_e nr38
  obtain ⟨nn40, nr40⟩ := and_e nr39
  obtain ⟨nn41, nr41⟩ := and_e nr40
  obtain ⟨nn42, nr42⟩ := and_e nr41
  obtain ⟨nn43, nr43⟩ := and_e nr42
  obtain ⟨nn44, nr44⟩ := and_e nr43
  obtain ⟨nn45, nr45⟩ := and_e nr44
  obtain ⟨nn46, nr46⟩ := and_e nr45
  obtain ⟨nn47, nr47⟩ := and_e nr46
  obtain ⟨nn48, nr48⟩ := and_e nr47
  obtain ⟨nn49, nr49⟩ := and_e nr48
  obtain ⟨nn50, nr50⟩ := and_e nr49
  obtain ⟨nn51, nr51⟩ := and_e nr50
  obtain ⟨nn52, nr52⟩ := and_e nr51
  obtain ⟨nn53, nr53⟩ := and_e nr52
  obtain ⟨nn54, nr54⟩ := and_e nr53
  obtain ⟨nn55, nr55⟩ := and_e nr54
  obtain ⟨nn56, nr56⟩ := and_e nr55
  obtain ⟨nn57, nr57⟩ := and_e nr56
  obtain ⟨nn58, nr58⟩ := and_e nr57
  obtain ⟨nn59, nr59⟩ := and_e nr58
  obtain ⟨nn60, nr60⟩ := and_e nr59
  obtain ⟨nn61, nr61⟩ := and_e nr60
  obtain ⟨nn62, nr62⟩ := and_e nr61
  obtain ⟨nn63, nr63⟩ := and_e nr62
  obtain ⟨nn64, nr64⟩ := and_e nr63
  obtain ⟨nn65, nr65⟩ := and_e nr64
  obtain ⟨nn66, nr66⟩ := and_e nr65
  obtain ⟨nn67, nr67⟩ := and_e nr66
  obtain ⟨a_PING, ev_PING⟩ := exa_v nn0
  have E_PING : Exa s s.heap a_PING "com/example/uni_lock/unilock/Command" := Exa.start ev_PING nn0
  have S_PING : Sta s s.heap "com/example/uni_lock/unilock/Command" "PING" "Lcom/example/uni_lock/unilock/Command;" (.ref a_PING) := Sta.start ev_PING (Or.inr ⟨w_7, w_8⟩)
  obtain ⟨a_SESSION_ID, ev_SESSION_ID⟩ := exa_v nn2
  have E_SESSION_ID : Exa s s.heap a_SESSION_ID "com/example/uni_lock/unilock/Command" := Exa.start ev_SESSION_ID nn2
  have S_SESSION_ID : Sta s s.heap "com/example/uni_lock/unilock/Command" "SESSION_ID" "Lcom/example/uni_lock/unilock/Command;" (.ref a_SESSION_ID) := Sta.start ev_SESSION_ID (Or.inr ⟨w_7, w_17⟩)
  obtain ⟨a_ADVISORY_LOCK_SHARED, ev_ADVISORY_LOCK_SHARED⟩ := exa_v nn5
  have E_ADVISORY_LOCK_SHARED : Exa s s.heap a_ADVISORY_LOCK_SHARED "com/example/uni_lock/unilock/Command" := Exa.start ev_ADVISORY_LOCK_SHARED nn5
  have S_ADVISORY_LOCK_SHARED : Sta s s.heap "com/example/uni_lock/unilock/Command" "ADVISORY_LOCK_SHARED" "Lcom/example/uni_lock/unilock/Command;" (.ref a_ADVISORY_LOCK_SHARED) := Sta.start ev_ADVISORY_LOCK_SHARED (Or.inr ⟨w_7, w_21⟩)
  obtain ⟨a_ADVISORY_UNLOCK, ev_ADVISORY_UNLOCK⟩ := exa_v nn8
  have E_ADVISORY_UNLOCK : Exa s s.heap a_ADVISORY_UNLOCK "com/example/uni_lock/unilock/Command" := Exa.start ev_ADVISORY_UNLOCK nn8
  have S_ADVISORY_UNLOCK : Sta s s.heap "com/example/uni_lock/unilock/Command" "ADVISORY_UNLOCK" "Lcom/example/uni_lock/unilock/Command;" (.ref a_ADVISORY_UNLOCK) := Sta.start ev_ADVISORY_UNLOCK (Or.inr ⟨w_7, w_23⟩)
  obtain ⟨a_TRY_ADVISORY_XACT_LOCK, ev_TRY_ADVISORY_XACT_LOCK⟩ := exa_v nn10
  have E_TRY_ADVISORY_XACT_LOCK : Exa s s.heap a_TRY_ADVISORY_XACT_LOCK "com/example/uni_lock/unilock/Command" := Exa.start ev_TRY_ADVISORY_XACT_LOCK nn10
  have S_TRY_ADVISORY_XACT_LOCK : Sta s s.heap "com/example/uni_lock/unilock/Command" "TRY_ADVISORY_XACT_LOCK" "Lcom/example/uni_lock/unilock/Command;" (.ref a_TRY_ADVISORY_XACT_LOCK) := Sta.start ev_TRY_ADVISORY_XACT_LOCK (Or.inr ⟨w_7, w_25⟩)
  obtain ⟨a_ROLLBACK, ev_ROLLBACK⟩ := exa_v nn12
  have E_ROLLBACK : Exa s s.heap a_ROLLBACK "com/example/uni_lock/unilock/Command" := Exa.start ev_ROLLBACK nn12
  have S_ROLLBACK : Sta s s.heap "com/example/uni_lock/unilock/Command" "ROLLBACK" "Lcom/example/uni_lock/unilock/Command;" (.ref a_ROLLBACK) := Sta.start ev_ROLLBACK (Or.inr ⟨w_7, w_27⟩)
  obtain ⟨a_SAVEPOINT, ev_SAVEPOINT⟩ := exa_v nn15
  have E_SAVEPOINT : Exa s s.heap a_SAVEPOINT "com/example/uni_lock/unilock/Command" := Exa.start ev_SAVEPOINT nn15
  have S_SAVEPOINT : Sta s s.heap "com/example/uni_lock/unilock/Command" "SAVEPOINT" "Lcom/example/uni_lock/unilock/Command;" (.ref a_SAVEPOINT) := Sta.start ev_SAVEPOINT (Or.inr ⟨w_7, w_29⟩)
  obtain ⟨a_ADVISORY_UNLOCK_ALL, ev_ADVISORY_UNLOCK_ALL⟩ := exa_v nn18
  have E_ADVISORY_UNLOCK_ALL : Exa s s.heap a_ADVISORY_UNLOCK_ALL "com/example/uni_lock/unilock/Command" := Exa.start ev_ADVISORY_UNLOCK_ALL nn18
  have S_ADVISORY_UNLOCK_ALL : Sta s s.heap "com/example/uni_lock/unilock/Command" "ADVISORY_UNLOCK_ALL" "Lcom/example/uni_lock/unilock/Command;" (.ref a_ADVISORY_UNLOCK_ALL) := Sta.start ev_ADVISORY_UNLOCK_ALL (Or.inr ⟨w_7, w_31⟩)
  obtain ⟨a_RELEASE, ev_RELEASE⟩ := exa_v nn20
  have E_RELEASE : Exa s s.heap a_RELEASE "com/example/uni_lock/unilock/Command" := Exa.start ev_RELEASE nn20
  have S_RELEASE : Sta s s.heap "com/example/uni_lock/unilock/Command" "RELEASE" "Lcom/example/uni_lock/unilock/Command;" (.ref a_RELEASE) := Sta.start ev_RELEASE (Or.inr ⟨w_7, w_33⟩)
  obtain ⟨a_ADVISORY_LOCK, ev_ADVISORY_LOCK⟩ := exa_v nn23
  have E_ADVISORY_LOCK : Exa s s.heap a_ADVISORY_LOCK "com/example/uni_lock/unilock/Command" := Exa.start ev_ADVISORY_LOCK nn23
  have S_ADVISORY_LOCK : Sta s s.heap "com/example/uni_lock/unilock/Command" "ADVISORY_LOCK" "Lcom/example/uni_lock/unilock/Command;" (.ref a_ADVISORY_LOCK) := Sta.start ev_ADVISORY_LOCK (Or.inr ⟨w_7, w_35⟩)
  obtain ⟨a_SHOW, ev_SHOW⟩ := exa_v nn26
  have E_SHOW : Exa s s.heap a_SHOW "com/example/uni_lock/unilock/Command" := Exa.start ev_SHOW nn26
  have S_SHOW : Sta s s.heap "com/example/uni_lock/unilock/Command" "SHOW" "Lcom/example/uni_lock/unilock/Command;" (.ref a_SHOW) := Sta.start ev_SHOW (Or.inr ⟨w_7, w_37⟩)
  obtain ⟨a_ADVISORY_UNLOCK_SHARED, ev_ADVISORY_UNLOCK_SHARED⟩ := exa_v nn29
  have E_ADVISORY_UNLOCK_SHARED : Exa s s.heap a_ADVISORY_UNLOCK_SHARED "com/example/uni_lock/unilock/Command" := Exa.start ev_ADVISORY_UNLOCK_SHARED nn29
  have S_ADVISORY_UNLOCK_SHARED : Sta s s.heap "com/example/uni_lock/unilock/Command" "ADVISORY_UNLOCK_SHARED" "Lcom/example/uni_lock/unilock/Command;" (.ref a_ADVISORY_UNLOCK_SHARED) := Sta.start ev_ADVISORY_UNLOCK_SHARED (Or.inr ⟨w_7, w_39⟩)
  obtain ⟨a_COMMIT, ev_COMMIT⟩ := exa_v nn32
  have E_COMMIT : Exa s s.heap a_COMMIT "com/example/uni_lock/unilock/Command" := Exa.start ev_COMMIT nn32
  have S_COMMIT : Sta s s.heap "com/example/uni_lock/unilock/Command" "COMMIT" "Lcom/example/uni_lock/unilock/Command;" (.ref a_COMMIT) := Sta.start ev_COMMIT (Or.inr ⟨w_7, w_41⟩)
  obtain ⟨a_BEGIN, ev_BEGIN⟩ := exa_v nn35
  have E_BEGIN : Exa s s.heap a_BEGIN "com/example/uni_lock/unilock/Command" := Exa.start ev_BEGIN nn35
  have S_BEGIN : Sta s s.heap "com/example/uni_lock/unilock/Command" "BEGIN" "Lcom/example/uni_lock/unilock/Command;" (.ref a_BEGIN) := Sta.start ev_BEGIN (Or.inr ⟨w_7, w_43⟩)
  obtain ⟨a_TRY_ADVISORY_LOCK_SHARED, ev_TRY_ADVISORY_LOCK_SHARED⟩ := exa_v nn38
  have E_TRY_ADVISORY_LOCK_SHARED : Exa s s.heap a_TRY_ADVISORY_LOCK_SHARED "com/example/uni_lock/unilock/Command" := Exa.start ev_TRY_ADVISORY_LOCK_SHARED nn38
  have S_TRY_ADVISORY_LOCK_SHARED : Sta s s.heap "com/example/uni_lock/unilock/Command" "TRY_ADVISORY_LOCK_SHARED" "Lcom/example/uni_lock/unilock/Command;" (.ref a_TRY_ADVISORY_LOCK_SHARED) := Sta.start ev_TRY_ADVISORY_LOCK_SHARED (Or.inr ⟨w_7, w_45⟩)
  obtain ⟨a_LOCKS, ev_LOCKS⟩ := exa_v nn41
  have E_LOCKS : Exa s s.heap a_LOCKS "com/example/uni_lock/unilock/Command" := Exa.start ev_LOCKS nn41
  have S_LOCKS : Sta s s.heap "com/example/uni_lock/unilock/Command" "LOCKS" "Lcom/example/uni_lock/unilock/Command;" (.ref a_LOCKS) := Sta.start ev_LOCKS (Or.inr ⟨w_7, w_47⟩)
  obtain ⟨a_TRY_ADVISORY_XACT_LOCK_SHARED, ev_TRY_ADVISORY_XACT_LOCK_SHARED⟩ := exa_v nn43
  have E_TRY_ADVISORY_XACT_LOCK_SHARED : Exa s s.heap a_TRY_ADVISORY_XACT_LOCK_SHARED "com/example/uni_lock/unilock/Command" := Exa.start ev_TRY_ADVISORY_XACT_LOCK_SHARED nn43
  have S_TRY_ADVISORY_XACT_LOCK_SHARED : Sta s s.heap "com/example/uni_lock/unilock/Command" "TRY_ADVISORY_XACT_LOCK_SHARED" "Lcom/example/uni_lock/unilock/Command;" (.ref a_TRY_ADVISORY_XACT_LOCK_SHARED) := Sta.start ev_TRY_ADVISORY_XACT_LOCK_SHARED (Or.inr ⟨w_7, w_49⟩)
  obtain ⟨a_ADVISORY_XACT_LOCK, ev_ADVISORY_XACT_LOCK⟩ := exa_v nn48
  have E_ADVISORY_XACT_LOCK : Exa s s.heap a_ADVISORY_XACT_LOCK "com/example/uni_lock/unilock/Command" := Exa.start ev_ADVISORY_XACT_LOCK nn48
  have S_ADVISORY_XACT_LOCK : Sta s s.heap "com/example/uni_lock/unilock/Command" "ADVISORY_XACT_LOCK" "Lcom/example/uni_lock/unilock/Command;" (.ref a_ADVISORY_XACT_LOCK) := Sta.start ev_ADVISORY_XACT_LOCK (Or.inr ⟨w_7, w_51⟩)
  obtain ⟨a_TRY_ADVISORY_LOCK, ev_TRY_ADVISORY_LOCK⟩ := exa_v nn50
  have E_TRY_ADVISORY_LOCK : Exa s s.heap a_TRY_ADVISORY_LOCK "com/example/uni_lock/unilock/Command" := Exa.start ev_TRY_ADVISORY_LOCK nn50
  have S_TRY_ADVISORY_LOCK : Sta s s.heap "com/example/uni_lock/unilock/Command" "TRY_ADVISORY_LOCK" "Lcom/example/uni_lock/unilock/Command;" (.ref a_TRY_ADVISORY_LOCK) := Sta.start ev_TRY_ADVISORY_LOCK (Or.inr ⟨w_7, w_53⟩)
  obtain ⟨a_ADVISORY_XACT_LOCK_SHARED, ev_ADVISORY_XACT_LOCK_SHARED⟩ := exa_v nn52
  have E_ADVISORY_XACT_LOCK_SHARED : Exa s s.heap a_ADVISORY_XACT_LOCK_SHARED "com/example/uni_lock/unilock/Command" := Exa.start ev_ADVISORY_XACT_LOCK_SHARED nn52
  have S_ADVISORY_XACT_LOCK_SHARED : Sta s s.heap "com/example/uni_lock/unilock/Command" "ADVISORY_XACT_LOCK_SHARED" "Lcom/example/uni_lock/unilock/Command;" (.ref a_ADVISORY_XACT_LOCK_SHARED) := Sta.start ev_ADVISORY_XACT_LOCK_SHARED (Or.inr ⟨w_7, w_55⟩)
  obtain ⟨a_SET, ev_SET⟩ := exa_v nn56
  have E_SET : Exa s s.heap a_SET "com/example/uni_lock/unilock/Command" := Exa.start ev_SET nn56
  have S_SET : Sta s s.heap "com/example/uni_lock/unilock/Command" "SET" "Lcom/example/uni_lock/unilock/Command;" (.ref a_SET) := Sta.start ev_SET (Or.inr ⟨w_7, w_57⟩)
  obtain ⟨a_LOCK, ev_LOCK⟩ := exa_v nn61
  have E_LOCK : Exa s s.heap a_LOCK "com/example/uni_lock/unilock/Command" := Exa.start ev_LOCK nn61
  have S_LOCK : Sta s s.heap "com/example/uni_lock/unilock/Command" "LOCK" "Lcom/example/uni_lock/unilock/Command;" (.ref a_LOCK) := Sta.start ev_LOCK (Or.inr ⟨w_7, w_59⟩)
  obtain ⟨a_LOCKROW, ev_LOCKROW⟩ := exa_v nn64
  have E_LOCKROW : Exa s s.heap a_LOCKROW "com/example/uni_lock/unilock/Command" := Exa.start ev_LOCKROW nn64
  have S_LOCKROW : Sta s s.heap "com/example/uni_lock/unilock/Command" "LOCKROW" "Lcom/example/uni_lock/unilock/Command;" (.ref a_LOCKROW) := Sta.start ev_LOCKROW (Or.inr ⟨w_7, w_61⟩)
  have F_PING_minArguments : Fld s s.heap a_PING "com/example/uni_lock/unilock/Command" "minArguments" "I" (.int (0 : Int32)) := Fld.start ((fld_at ev_PING).symm.trans (own_eqint nn1))
  have F_SESSION_ID_minArguments : Fld s s.heap a_SESSION_ID "com/example/uni_lock/unilock/Command" "minArguments" "I" (.int (0 : Int32)) := Fld.start ((fld_at ev_SESSION_ID).symm.trans (own_eqint nn3))
  have F_SESSION_ID_maxArguments : Fld s s.heap a_SESSION_ID "com/example/uni_lock/unilock/Command" "maxArguments" "I" (.int (0 : Int32)) := Fld.start ((fld_at ev_SESSION_ID).symm.trans (own_eqint nn4))
  have F_ADVISORY_LOCK_SHARED_minArguments : Fld s s.heap a_ADVISORY_LOCK_SHARED "com/example/uni_lock/unilock/Command" "minArguments" "I" (.int (1 : Int32)) := Fld.start ((fld_at ev_ADVISORY_LOCK_SHARED).symm.trans (own_eqint nn6))
  have F_ADVISORY_LOCK_SHARED_maxArguments : Fld s s.heap a_ADVISORY_LOCK_SHARED "com/example/uni_lock/unilock/Command" "maxArguments" "I" (.int (2 : Int32)) := Fld.start ((fld_at ev_ADVISORY_LOCK_SHARED).symm.trans (own_eqint nn7))
  have F_ADVISORY_UNLOCK_minArguments : Fld s s.heap a_ADVISORY_UNLOCK "com/example/uni_lock/unilock/Command" "minArguments" "I" (.int (1 : Int32)) := Fld.start ((fld_at ev_ADVISORY_UNLOCK).symm.trans (own_eqint nn9))
  have F_TRY_ADVISORY_XACT_LOCK_minArguments : Fld s s.heap a_TRY_ADVISORY_XACT_LOCK "com/example/uni_lock/unilock/Command" "minArguments" "I" (.int (1 : Int32)) := Fld.start ((fld_at ev_TRY_ADVISORY_XACT_LOCK).symm.trans (own_eqint nn11))
  have F_ROLLBACK_minArguments : Fld s s.heap a_ROLLBACK "com/example/uni_lock/unilock/Command" "minArguments" "I" (.int (0 : Int32)) := Fld.start ((fld_at ev_ROLLBACK).symm.trans (own_eqint nn13))
  have F_PING_maxArguments : Fld s s.heap a_PING "com/example/uni_lock/unilock/Command" "maxArguments" "I" (.int (0 : Int32)) := Fld.start ((fld_at ev_PING).symm.trans (own_eqint nn14))
  have F_SAVEPOINT_minArguments : Fld s s.heap a_SAVEPOINT "com/example/uni_lock/unilock/Command" "minArguments" "I" (.int (1 : Int32)) := Fld.start ((fld_at ev_SAVEPOINT).symm.trans (own_eqint nn16))
  have F_SAVEPOINT_maxArguments : Fld s s.heap a_SAVEPOINT "com/example/uni_lock/unilock/Command" "maxArguments" "I" (.int (1 : Int32)) := Fld.start ((fld_at ev_SAVEPOINT).symm.trans (own_eqint nn17))
  have F_ADVISORY_UNLOCK_ALL_minArguments : Fld s s.heap a_ADVISORY_UNLOCK_ALL "com/example/uni_lock/unilock/Command" "minArguments" "I" (.int (0 : Int32)) := Fld.start ((fld_at ev_ADVISORY_UNLOCK_ALL).symm.trans (own_eqint nn19))
  have F_RELEASE_minArguments : Fld s s.heap a_RELEASE "com/example/uni_lock/unilock/Command" "minArguments" "I" (.int (1 : Int32)) := Fld.start ((fld_at ev_RELEASE).symm.trans (own_eqint nn21))
  have F_RELEASE_maxArguments : Fld s s.heap a_RELEASE "com/example/uni_lock/unilock/Command" "maxArguments" "I" (.int (1 : Int32)) := Fld.start ((fld_at ev_RELEASE).symm.trans (own_eqint nn22))
  have F_ADVISORY_LOCK_minArguments : Fld s s.heap a_ADVISORY_LOCK "com/example/uni_lock/unilock/Command" "minArguments" "I" (.int (1 : Int32)) := Fld.start ((fld_at ev_ADVISORY_LOCK).symm.trans (own_eqint nn24))
  have F_ADVISORY_LOCK_maxArguments : Fld s s.heap a_ADVISORY_LOCK "com/example/uni_lock/unilock/Command" "maxArguments" "I" (.int (2 : Int32)) := Fld.start ((fld_at ev_ADVISORY_LOCK).symm.trans (own_eqint nn25))
  have F_SHOW_minArguments : Fld s s.heap a_SHOW "com/example/uni_lock/unilock/Command" "minArguments" "I" (.int (1 : Int32)) := Fld.start ((fld_at ev_SHOW).symm.trans (own_eqint nn27))
  have F_SHOW_maxArguments : Fld s s.heap a_SHOW "com/example/uni_lock/unilock/Command" "maxArguments" "I" (.int (1 : Int32)) := Fld.start ((fld_at ev_SHOW).symm.trans (own_eqint nn28))
  have F_ADVISORY_UNLOCK_SHARED_minArguments : Fld s s.heap a_ADVISORY_UNLOCK_SHARED "com/example/uni_lock/unilock/Command" "minArguments" "I" (.int (1 : Int32)) := Fld.start ((fld_at ev_ADVISORY_UNLOCK_SHARED).symm.trans (own_eqint nn30))
  have F_ADVISORY_UNLOCK_SHARED_maxArguments : Fld s s.heap a_ADVISORY_UNLOCK_SHARED "com/example/uni_lock/unilock/Command" "maxArguments" "I" (.int (2 : Int32)) := Fld.start ((fld_at ev_ADVISORY_UNLOCK_SHARED).symm.trans (own_eqint nn31))
  have F_COMMIT_minArguments : Fld s s.heap a_COMMIT "com/example/uni_lock/unilock/Command" "minArguments" "I" (.int (0 : Int32)) := Fld.start ((fld_at ev_COMMIT).symm.trans (own_eqint nn33))
  have F_COMMIT_maxArguments : Fld s s.heap a_COMMIT "com/example/uni_lock/unilock/Command" "maxArguments" "I" (.int (0 : Int32)) := Fld.start ((fld_at ev_COMMIT).symm.trans (own_eqint nn34))
  have F_BEGIN_minArguments : Fld s s.heap a_BEGIN "com/example/uni_lock/unilock/Command" "minArguments" "I" (.int (0 : Int32)) := Fld.start ((fld_at ev_BEGIN).symm.trans (own_eqint nn36))
  have F_BEGIN_maxArguments : Fld s s.heap a_BEGIN "com/example/uni_lock/unilock/Command" "maxArguments" "I" (.int (0 : Int32)) := Fld.start ((fld_at ev_BEGIN).symm.trans (own_eqint nn37))
  have F_TRY_ADVISORY_LOCK_SHARED_minArguments : Fld s s.heap a_TRY_ADVISORY_LOCK_SHARED "com/example/uni_lock/unilock/Command" "minArguments" "I" (.int (1 : Int32)) := Fld.start ((fld_at ev_TRY_ADVISORY_LOCK_SHARED).symm.trans (own_eqint nn39))
  have F_TRY_ADVISORY_LOCK_SHARED_maxArguments : Fld s s.heap a_TRY_ADVISORY_LOCK_SHARED "com/example/uni_lock/unilock/Command" "maxArguments" "I" (.int (2 : Int32)) := Fld.start ((fld_at ev_TRY_ADVISORY_LOCK_SHARED).symm.trans (own_eqint nn40))
  have F_LOCKS_minArguments : Fld s s.heap a_LOCKS "com/example/uni_lock/unilock/Command" "minArguments" "I" (.int (0 : Int32)) := Fld.start ((fld_at ev_LOCKS).symm.trans (own_eqint nn42))
  have F_TRY_ADVISORY_XACT_LOCK_SHARED_minArguments : Fld s s.heap a_TRY_ADVISORY_XACT_LOCK_SHARED "com/example/uni_lock/unilock/Command" "minArguments" "I" (.int (1 : Int32)) := Fld.start ((fld_at ev_TRY_ADVISORY_XACT_LOCK_SHARED).symm.trans (own_eqint nn44))
  have F_TRY_ADVISORY_XACT_LOCK_SHARED_maxArguments : Fld s s.heap a_TRY_ADVISORY_XACT_LOCK_SHARED "com/example/uni_lock/unilock/Command" "maxArguments" "I" (.int (2 : Int32)) := Fld.start ((fld_at ev_TRY_ADVISORY_XACT_LOCK_SHARED).symm.trans (own_eqint nn45))
  have F_ADVISORY_UNLOCK_ALL_maxArguments : Fld s s.heap a_ADVISORY_UNLOCK_ALL "com/example/uni_lock/unilock/Command" "maxArguments" "I" (.int (0 : Int32)) := Fld.start ((fld_at ev_ADVISORY_UNLOCK_ALL).symm.trans (own_eqint nn46))
  have F_ADVISORY_UNLOCK_maxArguments : Fld s s.heap a_ADVISORY_UNLOCK "com/example/uni_lock/unilock/Command" "maxArguments" "I" (.int (2 : Int32)) := Fld.start ((fld_at ev_ADVISORY_UNLOCK).symm.trans (own_eqint nn47))
  have F_ADVISORY_XACT_LOCK_minArguments : Fld s s.heap a_ADVISORY_XACT_LOCK "com/example/uni_lock/unilock/Command" "minArguments" "I" (.int (1 : Int32)) := Fld.start ((fld_at ev_ADVISORY_XACT_LOCK).symm.trans (own_eqint nn49))
  have F_TRY_ADVISORY_LOCK_minArguments : Fld s s.heap a_TRY_ADVISORY_LOCK "com/example/uni_lock/unilock/Command" "minArguments" "I" (.int (1 : Int32)) := Fld.start ((fld_at ev_TRY_ADVISORY_LOCK).symm.trans (own_eqint nn51))
  have F_ADVISORY_XACT_LOCK_SHARED_minArguments : Fld s s.heap a_ADVISORY_XACT_LOCK_SHARED "com/example/uni_lock/unilock/Command" "minArguments" "I" (.int (1 : Int32)) := Fld.start ((fld_at ev_ADVISORY_XACT_LOCK_SHARED).symm.trans (own_eqint nn53))
  have F_ADVISORY_XACT_LOCK_maxArguments : Fld s s.heap a_ADVISORY_XACT_LOCK "com/example/uni_lock/unilock/Command" "maxArguments" "I" (.int (2 : Int32)) := Fld.start ((fld_at ev_ADVISORY_XACT_LOCK).symm.trans (own_eqint nn54))
  have F_TRY_ADVISORY_LOCK_maxArguments : Fld s s.heap a_TRY_ADVISORY_LOCK "com/example/uni_lock/unilock/Command" "maxArguments" "I" (.int (2 : Int32)) := Fld.start ((fld_at ev_TRY_ADVISORY_LOCK).symm.trans (own_eqint nn55))
  have F_SET_minArguments : Fld s s.heap a_SET "com/example/uni_lock/unilock/Command" "minArguments" "I" (.int (2 : Int32)) := Fld.start ((fld_at ev_SET).symm.trans (own_eqint nn57))
  have F_SET_maxArguments : Fld s s.heap a_SET "com/example/uni_lock/unilock/Command" "maxArguments" "I" (.int (3 : Int32)) := Fld.start ((fld_at ev_SET).symm.trans (own_eqint nn58))
  have F_TRY_ADVISORY_XACT_LOCK_maxArguments : Fld s s.heap a_TRY_ADVISORY_XACT_LOCK "com/example/uni_lock/unilock/Command" "maxArguments" "I" (.int (2 : Int32)) := Fld.start ((fld_at ev_TRY_ADVISORY_XACT_LOCK).symm.trans (own_eqint nn59))
  have F_ADVISORY_XACT_LOCK_SHARED_maxArguments : Fld s s.heap a_ADVISORY_XACT_LOCK_SHARED "com/example/uni_lock/unilock/Command" "maxArguments" "I" (.int (2 : Int32)) := Fld.start ((fld_at ev_ADVISORY_XACT_LOCK_SHARED).symm.trans (own_eqint nn60))
  have F_LOCK_minArguments : Fld s s.heap a_LOCK "com/example/uni_lock/unilock/Command" "minArguments" "I" (.int (1 : Int32)) := Fld.start ((fld_at ev_LOCK).symm.trans (own_eqint nn62))
  have F_ROLLBACK_maxArguments : Fld s s.heap a_ROLLBACK "com/example/uni_lock/unilock/Command" "maxArguments" "I" (.int (2 : Int32)) := Fld.start ((fld_at ev_ROLLBACK).symm.trans (own_eqint nn63))
  have F_LOCKROW_minArguments : Fld s s.heap a_LOCKROW "com/example/uni_lock/unilock/Command" "minArguments" "I" (.int (4 : Int32)) := Fld.start ((fld_at ev_LOCKROW).symm.trans (own_eqint nn65))
  have F_LOCKROW_maxArguments : Fld s s.heap a_LOCKROW "com/example/uni_lock/unilock/Command" "maxArguments" "I" (.int (7 : Int32)) := Fld.start ((fld_at ev_LOCKROW).symm.trans (own_eqint nn66))
  have F_LOCKS_maxArguments : Fld s s.heap a_LOCKS "com/example/uni_lock/unilock/Command" "maxArguments" "I" (.int (1 : Int32)) := Fld.start ((fld_at ev_LOCKS).symm.trans (own_eqint nn67))
  have F_LOCK_maxArguments : Fld s s.heap a_LOCK "com/example/uni_lock/unilock/Command" "maxArguments" "I" (.int (7 : Int32)) := Fld.start ((fld_at ev_LOCK).symm.trans (own_eqint nr67))
  have hS : own_S s s.heap (fun i => ([a_PING, a_SESSION_ID, a_ADVISORY_LOCK, a_ADVISORY_LOCK_SHARED, a_TRY_ADVISORY_LOCK, a_TRY_ADVISORY_LOCK_SHARED, a_ADVISORY_XACT_LOCK, a_ADVISORY_XACT_LOCK_SHARED, a_TRY_ADVISORY_XACT_LOCK, a_TRY_ADVISORY_XACT_LOCK_SHARED, a_ADVISORY_UNLOCK, a_ADVISORY_UNLOCK_SHARED, a_ADVISORY_UNLOCK_ALL, a_BEGIN, a_COMMIT, a_ROLLBACK, a_SAVEPOINT, a_RELEASE, a_LOCK, a_LOCKROW, a_SET, a_SHOW, a_LOCKS] : List Addr).getD i 0) := ⟨S_PING, S_SESSION_ID, S_ADVISORY_LOCK, S_ADVISORY_LOCK_SHARED, S_TRY_ADVISORY_LOCK, S_TRY_ADVISORY_LOCK_SHARED, S_ADVISORY_XACT_LOCK, S_ADVISORY_XACT_LOCK_SHARED, S_TRY_ADVISORY_XACT_LOCK, S_TRY_ADVISORY_XACT_LOCK_SHARED, S_ADVISORY_UNLOCK, S_ADVISORY_UNLOCK_SHARED, S_ADVISORY_UNLOCK_ALL, S_BEGIN, S_COMMIT, S_ROLLBACK, S_SAVEPOINT, S_RELEASE, S_LOCK, S_LOCKROW, S_SET, S_SHOW, S_LOCKS⟩
  have hK : ∀ i, i < 23 → Exa s s.heap (([a_PING, a_SESSION_ID, a_ADVISORY_LOCK, a_ADVISORY_LOCK_SHARED, a_TRY_ADVISORY_LOCK, a_TRY_ADVISORY_LOCK_SHARED, a_ADVISORY_XACT_LOCK, a_ADVISORY_XACT_LOCK_SHARED, a_TRY_ADVISORY_XACT_LOCK, a_TRY_ADVISORY_XACT_LOCK_SHARED, a_ADVISORY_UNLOCK, a_ADVISORY_UNLOCK_SHARED, a_ADVISORY_UNLOCK_ALL, a_BEGIN, a_COMMIT, a_ROLLBACK, a_SAVEPOINT, a_RELEASE, a_LOCK, a_LOCKROW, a_SET, a_SHOW, a_LOCKS] : List Addr).getD i 0) "com/example/uni_lock/unilock/Command" ∧ Fld s s.heap (([a_PING, a_SESSION_ID, a_ADVISORY_LOCK, a_ADVISORY_LOCK_SHARED, a_TRY_ADVISORY_LOCK, a_TRY_ADVISORY_LOCK_SHARED, a_ADVISORY_XACT_LOCK, a_ADVISORY_XACT_LOCK_SHARED, a_TRY_ADVISORY_XACT_LOCK, a_TRY_ADVISORY_XACT_LOCK_SHARED, a_ADVISORY_UNLOCK, a_ADVISORY_UNLOCK_SHARED, a_ADVISORY_UNLOCK_ALL, a_BEGIN, a_COMMIT, a_ROLLBACK, a_SAVEPOINT, a_RELEASE, a_LOCK, a_LOCKROW, a_SET, a_SHOW, a_LOCKS] : List Addr).getD i 0) "com/example/uni_lock/unilock/Command" "minArguments" "I" (.int (own_los.getD i 0)) ∧ Fld s s.heap (([a_PING, a_SESSION_ID, a_ADVISORY_LOCK, a_ADVISORY_LOCK_SHARED, a_TRY_ADVISORY_LOCK, a_TRY_ADVISORY_LOCK_SHARED, a_ADVISORY_XACT_LOCK, a_ADVISORY_XACT_LOCK_SHARED, a_TRY_ADVISORY_XACT_LOCK, a_TRY_ADVISORY_XACT_LOCK_SHARED, a_ADVISORY_UNLOCK, a_ADVISORY_UNLOCK_SHARED, a_ADVISORY_UNLOCK_ALL, a_BEGIN, a_COMMIT, a_ROLLBACK, a_SAVEPOINT, a_RELEASE, a_LOCK, a_LOCKROW, a_SET, a_SHOW, a_LOCKS] : List Addr).getD i 0) "com/example/uni_lock/unilock/Command" "maxArguments" "I" (.int (own_his.getD i 0)) := fun i hi => by
    match i, hi with
    | 0, _ => exact ⟨E_PING, F_PING_minArguments, F_PING_maxArguments⟩
    | 1, _ => exact ⟨E_SESSION_ID, F_SESSION_ID_minArguments, F_SESSION_ID_maxArguments⟩
    | 2, _ => exact ⟨E_ADVISORY_LOCK, F_ADVISORY_LOCK_minArguments, F_ADVISORY_LOCK_maxArguments⟩
    | 3, _ => exact ⟨E_ADVISORY_LOCK_SHARED, F_ADVISORY_LOCK_SHARED_minArguments, F_ADVISORY_LOCK_SHARED_maxArguments⟩
    | 4, _ => exact ⟨E_TRY_ADVISORY_LOCK, F_TRY_ADVISORY_LOCK_minArguments, F_TRY_ADVISORY_LOCK_maxArguments⟩
    | 5, _ => exact ⟨E_TRY_ADVISORY_LOCK_SHARED, F_TRY_ADVISORY_LOCK_SHARED_minArguments, F_TRY_ADVISORY_LOCK_SHARED_maxArguments⟩
    | 6, _ => exact ⟨E_ADVISORY_XACT_LOCK, F_ADVISORY_XACT_LOCK_minArguments, F_ADVISORY_XACT_LOCK_maxArguments⟩
    | 7, _ => exact ⟨E_ADVISORY_XACT_LOCK_SHARED, F_ADVISORY_XACT_LOCK_SHARED_minArguments, F_ADVISORY_XACT_LOCK_SHARED_maxArguments⟩
    | 8, _ => exact ⟨E_TRY_ADVISORY_XACT_LOCK, F_TRY_ADVISORY_XACT_LOCK_minArguments, F_TRY_ADVISORY_XACT_LOCK_maxArguments⟩
    | 9, _ => exact ⟨E_TRY_ADVISORY_XACT_LOCK_SHARED, F_TRY_ADVISORY_XACT_LOCK_SHARED_minArguments, F_TRY_ADVISORY_XACT_LOCK_SHARED_maxArguments⟩
    | 10, _ => exact ⟨E_ADVISORY_UNLOCK, F_ADVISORY_UNLOCK_minArguments, F_ADVISORY_UNLOCK_maxArguments⟩
    | 11, _ => exact ⟨E_ADVISORY_UNLOCK_SHARED, F_ADVISORY_UNLOCK_SHARED_minArguments, F_ADVISORY_UNLOCK_SHARED_maxArguments⟩
    | 12, _ => exact ⟨E_ADVISORY_UNLOCK_ALL, F_ADVISORY_UNLOCK_ALL_minArguments, F_ADVISORY_UNLOCK_ALL_maxArguments⟩
    | 13, _ => exact ⟨E_BEGIN, F_BEGIN_minArguments, F_BEGIN_maxArguments⟩
    | 14, _ => exact ⟨E_COMMIT, F_COMMIT_minArguments, F_COMMIT_maxArguments⟩
    | 15, _ => exact ⟨E_ROLLBACK, F_ROLLBACK_minArguments, F_ROLLBACK_maxArguments⟩
    | 16, _ => exact ⟨E_SAVEPOINT, F_SAVEPOINT_minArguments, F_SAVEPOINT_maxArguments⟩
    | 17, _ => exact ⟨E_RELEASE, F_RELEASE_minArguments, F_RELEASE_maxArguments⟩
    | 18, _ => exact ⟨E_LOCK, F_LOCK_minArguments, F_LOCK_maxArguments⟩
    | 19, _ => exact ⟨E_LOCKROW, F_LOCKROW_minArguments, F_LOCKROW_maxArguments⟩
    | 20, _ => exact ⟨E_SET, F_SET_minArguments, F_SET_maxArguments⟩
    | 21, _ => exact ⟨E_SHOW, F_SHOW_minArguments, F_SHOW_maxArguments⟩
    | 22, _ => exact ⟨E_LOCKS, F_LOCKS_minArguments, F_LOCKS_maxArguments⟩
    | j + 23, hi => exact absurd hi (by omega)
  obtain ⟨n, o, h1, h2, h3, _, L, rfl, ⟨rfl, N⟩, hq⟩ := own_law l s _ hw tables_1 i0 i1 i2 (fun i => ([a_PING, a_SESSION_ID, a_ADVISORY_LOCK, a_ADVISORY_LOCK_SHARED, a_TRY_ADVISORY_LOCK, a_TRY_ADVISORY_LOCK_SHARED, a_ADVISORY_XACT_LOCK, a_ADVISORY_XACT_LOCK_SHARED, a_TRY_ADVISORY_XACT_LOCK, a_TRY_ADVISORY_XACT_LOCK_SHARED, a_ADVISORY_UNLOCK, a_ADVISORY_UNLOCK_SHARED, a_ADVISORY_UNLOCK_ALL, a_BEGIN, a_COMMIT, a_ROLLBACK, a_SAVEPOINT, a_RELEASE, a_LOCK, a_LOCKROW, a_SET, a_SHOW, a_LOCKS] : List Addr).getD i 0) s.heap s.heap.size (Nat.le_refl _) hS hK p e ha hc hk s m _ below hf ((Spec.applies_iff_loose hf).mp happ).1 ⟨rfl, State.Warmed39.refl s, rfl⟩ trivial
  refine ⟨n, _, h1, h2, h3, hpost _ _ _ _ _ _ ⟨Cond.after_iff.mpr rfl, Cond.after_iff.mpr (eq_i res_at (Term.int_eval (1)) rfl), trivial⟩ ⟨hq.1, hq.2.1, (hq.2.2.sift fun y hy => Or.inr (N y hy)).mono (by decide) (by decide)⟩⟩
theorem main_1_1 : Claimed_1_1 := own_comes fun _ _ _ _ _ _ h hF => ⟨h.1, hF⟩
theorem main_1_2 : Claimed_1_2 := own_comes fun _ _ _ _ _ _ h hF => ⟨h.2.1, hF⟩
end Jvm.Pilot.@@N@@
namespace Jvm.Pilot.@@N@@
open Jvm Jvm.ClassFile Sem Op Lib Jvm.Free Jvm.Stand Jvm.Pilot.@@N@@.Jvm.D
/-! MADE BY PROGRAM (witnessworld.py) out of the Statement's table words and the real class files: 12 classes; the members and pool entries that the words name. The judged class is class 1, her method 2. -/
namespace start1
open Jvm.ClassFile
def u (s : String) : CpInfo := .utf8 (stringToUtf16 s)
/-- a pool by its gaps: so many unusable entries, then the entry; so many at the end -/
def gap : Nat → List CpInfo → List CpInfo
  | 0, r => r
  | n + 1, r => .unusable :: gap n r
def poolList (es : List (Nat × CpInfo)) (last : Nat) : List CpInfo := es.foldr (fun e r => gap e.1 (e.2 :: r)) (gap last [])
def pool (es : List (Nat × CpInfo)) (last : Nat) : Array CpInfo := ⟨poolList es last⟩
def fileOf (pool : Array CpInfo) (this : Nat) (attrs : Array Attribute := #[]) (ms : Array MethodInfo := #[]) (fl : Nat := 33) (sup : Nat := 0) (ifs : Array Nat := #[]) (fds : Array FieldInfo := #[]) : ClassFile where
  minorVersion := 0
  majorVersion := 65
  constantPool := pool
  accessFlags := fl
  thisClass := this
  superClass := sup
  interfaces := ifs
  fields := fds
  methods := ms
  attributes := attrs
def plain (name : String) (sup : Option ClassId) : Class where
  name := name
  kind := .ordinary
  loader := none
  accessFlags := 33
  super := sup
  interfaces := #[]
  cf := none
  fields := #[]
  methods := #[]
  instanceTypes := #[]
  staticTypes := #[]
  resolved := #[]
  callSites := []
  init := .initialized
  statics := none
  mirror := none

def pool0 : Array CpInfo := pool [(5, u "<init>"), (0, u "()V"), (1, .class_ 10), (1, u "java/lang/Object")] 113

def k0m0 : Method := { name := "<init>", desc := "()V", sig := { parameters := [], returnType := none }, accessFlags := 1, code := none }
/-- java/lang/Object -/
def k0 : Class := { plain "java/lang/Object" none with
  accessFlags := 33
  interfaces := #[]
  cf := some (fileOf pool0 8 #[] #[{ accessFlags := 1, nameIndex := 5, descriptorIndex := 6, attributes := #[] }] 33 0 #[] #[])
  fields := #[]
  methods := #[k0m0]
  instanceTypes := #[]
  staticTypes := #[]
  resolved := Array.replicate 124 none
  statics := none }

def pool1 : Array CpInfo := pool [(2, .class_ 4), (1, u "java/lang/Object"), (0, u "<init>"), (0, u "()V"), (0, .fieldref 8 9), (0, .class_ 10), (0, .nameAndType 11 12), (0, u "com/example/uni_lock/unilock/Command"), (0, u "PING"), (0, u "Lcom/example/uni_lock/unilock/Command;"), (0, .fieldref 8 14), (0, .nameAndType 15 12), (0, u "SESSION_ID"), (0, .fieldref 8 17), (0, .nameAndType 18 12), (0, u "ADVISORY_LOCK"), (0, .fieldref 8 20), (0, .nameAndType 21 12), (0, u "ADVISORY_LOCK_SHARED"), (0, .fieldref 8 23), (0, .nameAndType 24 12), (0, u "TRY_ADVISORY_LOCK"), (0, .fieldref 8 26), (0, .nameAndType 27 12), (0, u "TRY_ADVISORY_LOCK_SHARED"), (0, .fieldref 8 29), (0, .nameAndType 30 12), (0, u "ADVISORY_XACT_LOCK"), (0, .fieldref 8 32), (0, .nameAndType 33 12), (0, u "ADVISORY_XACT_LOCK_SHARED"), (0, .fieldref 8 35), (0, .nameAndType 36 12), (0, u "TRY_ADVISORY_XACT_LOCK"), (0, .fieldref 8 38), (0, .nameAndType 39 12), (0, u "TRY_ADVISORY_XACT_LOCK_SHARED"), (0, .fieldref 8 41), (0, .nameAndType 42 12), (0, u "ADVISORY_UNLOCK"), (0, .fieldref 8 44), (0, .nameAndType 45 12), (0, u "ADVISORY_UNLOCK_SHARED"), (0, .fieldref 8 47), (0, .nameAndType 48 12), (0, u "ADVISORY_UNLOCK_ALL"), (0, .fieldref 8 50), (0, .nameAndType 51 12), (0, u "BEGIN"), (0, .fieldref 8 53), (0, .nameAndType 54 12), (0, u "COMMIT"), (0, .fieldref 8 56), (0, .nameAndType 57 12), (0, u "ROLLBACK"), (0, .fieldref 8 59), (0, .nameAndType 60 12), (0, u "SAVEPOINT"), (0, .fieldref 8 62), (0, .nameAndType 63 12), (0, u "RELEASE"), (0, .fieldref 8 65), (0, .nameAndType 66 12), (0, u "LOCK"), (0, .fieldref 8 68), (0, .nameAndType 69 12), (0, u "LOCKROW"), (0, .fieldref 8 71), (0, .nameAndType 72 12), (0, u "SET"), (0, .fieldref 8 74), (0, .nameAndType 75 12), (0, u "SHOW"), (0, .fieldref 8 77), (0, .nameAndType 78 12), (0, u "LOCKS"), (0, .integer 2147483647), (0, .methodref 81 82), (0, .class_ 83), (0, .nameAndType 84 85), (0, u "com/example/uni_lock/unilock/CommandTakesPinLaw"), (0, u "pick"), (0, u "(I)Lcom/example/uni_lock/unilock/Command;"), (0, .methodref 8 87), (0, .nameAndType 88 89), (0, u "takes"), (0, u "(I)Z"), (3, u "law"), (0, u "(III)Z")] 4

def k1m0 : Method := { name := "<init>", desc := "()V", sig := { parameters := [], returnType := none }, accessFlags := 1, code := none }
def k1c1 : Code := { maxStack := 1, maxLocals := 1, code := method_2_code, exceptionTable := #[], attributes := #[] }
def k1m1 : Method := { name := "pick", desc := "(I)Lcom/example/uni_lock/unilock/Command;", sig := { parameters := [.int], returnType := some (.object "com/example/uni_lock/unilock/Command") }, accessFlags := 10, code := some k1c1 }
def k1c2 : Code := { maxStack := 4, maxLocals := 10, code := code, exceptionTable := #[], attributes := #[] }
def k1m2 : Method := { name := "law", desc := "(III)Z", sig := { parameters := [.int, .int, .int], returnType := some .boolean }, accessFlags := 9, code := some k1c2 }
/-- com/example/uni_lock/unilock/CommandTakesPinLaw -/
def k1 : Class := { plain "com/example/uni_lock/unilock/CommandTakesPinLaw" (some 0) with
  accessFlags := 49
  interfaces := #[]
  cf := some (fileOf pool1 81 #[] #[{ accessFlags := 1, nameIndex := 5, descriptorIndex := 6, attributes := #[] }, { accessFlags := 10, nameIndex := 84, descriptorIndex := 85, attributes := #[] }, { accessFlags := 9, nameIndex := 93, descriptorIndex := 94, attributes := #[] }] 49 2 #[] #[])
  fields := #[]
  methods := #[k1m0, k1m1, k1m2]
  instanceTypes := #[]
  staticTypes := #[]
  resolved := Array.replicate 99 none
  statics := none }

def pool2 : Array CpInfo := pool [(1, .class_ 2), (0, u "java/lang/constant/Constable"), (0, .class_ 4), (0, u "java/lang/Object")] 6

/-- java/lang/constant/Constable -/
def k2 : Class := { plain "java/lang/constant/Constable" (some 0) with
  accessFlags := 1537
  interfaces := #[]
  cf := some (fileOf pool2 1 #[] #[] 1537 3 #[] #[])
  fields := #[]
  methods := #[]
  instanceTypes := #[]
  staticTypes := #[]
  resolved := Array.replicate 11 none
  statics := none }

def pool3 : Array CpInfo := pool [(1, .class_ 2), (0, u "java/lang/Comparable"), (0, .class_ 4), (0, u "java/lang/Object")] 7

/-- java/lang/Comparable -/
def k3 : Class := { plain "java/lang/Comparable" (some 0) with
  accessFlags := 1537
  interfaces := #[]
  cf := some (fileOf pool3 1 #[] #[] 1537 3 #[] #[])
  fields := #[]
  methods := #[]
  instanceTypes := #[]
  staticTypes := #[]
  resolved := Array.replicate 12 none
  statics := none }

def pool4 : Array CpInfo := pool [(1, .class_ 2), (0, u "java/io/Serializable"), (0, .class_ 4), (0, u "java/lang/Object")] 2

/-- java/io/Serializable -/
def k4 : Class := { plain "java/io/Serializable" (some 0) with
  accessFlags := 1537
  interfaces := #[]
  cf := some (fileOf pool4 1 #[] #[] 1537 3 #[] #[])
  fields := #[]
  methods := #[]
  instanceTypes := #[]
  staticTypes := #[]
  resolved := Array.replicate 7 none
  statics := none }

def pool5 : Array CpInfo := pool [(2, .class_ 4), (1, u "java/lang/Enum"), (0, u "name"), (0, u "Ljava/lang/String;"), (2, u "ordinal"), (0, u "I"), (1, .class_ 14), (1, u "java/lang/Object"), (4, u "hash"), (86, .class_ 108), (1, u "java/lang/Enum$EnumDesc"), (2, .class_ 112), (0, u "java/lang/constant/Constable"), (0, .class_ 114), (0, u "java/lang/Comparable"), (0, .class_ 116), (0, u "java/io/Serializable")] 87

/-- java/lang/Enum -/
def k5 : Class := { plain "java/lang/Enum" (some 0) with
  accessFlags := 1057
  interfaces := #[2, 3, 4]
  cf := some (fileOf pool5 2 #[.nestMembers #[106]] #[] 1057 12 #[111, 113, 115] #[{ accessFlags := 18, nameIndex := 5, descriptorIndex := 6, attributes := #[] }, { accessFlags := 18, nameIndex := 9, descriptorIndex := 10, attributes := #[] }, { accessFlags := 2, nameIndex := 19, descriptorIndex := 10, attributes := #[] }])
  fields := #[{ name := "name", type := (.object "java/lang/String"), accessFlags := 18, slot := 0, constantValue := 0 }, { name := "ordinal", type := .int, accessFlags := 18, slot := 1, constantValue := 0 }, { name := "hash", type := .int, accessFlags := 2, slot := 2, constantValue := 0 }]
  methods := #[]
  instanceTypes := #[(.object "java/lang/String"), .int, .int]
  staticTypes := #[]
  resolved := Array.replicate 204 none
  statics := none }

def pool6 : Array CpInfo := pool [(1, .class_ 2), (0, u "com/example/uni_lock/unilock/Command"), (2, u "PING"), (0, u "Lcom/example/uni_lock/unilock/Command;"), (2, u "SESSION_ID"), (2, u "ADVISORY_LOCK"), (2, u "ADVISORY_LOCK_SHARED"), (2, u "TRY_ADVISORY_LOCK"), (2, u "TRY_ADVISORY_LOCK_SHARED"), (2, u "ADVISORY_XACT_LOCK"), (2, u "ADVISORY_XACT_LOCK_SHARED"), (2, u "TRY_ADVISORY_XACT_LOCK"), (2, u "TRY_ADVISORY_XACT_LOCK_SHARED"), (2, u "ADVISORY_UNLOCK"), (2, u "ADVISORY_UNLOCK_SHARED"), (2, u "ADVISORY_UNLOCK_ALL"), (2, u "BEGIN"), (2, u "COMMIT"), (2, u "ROLLBACK"), (2, u "SAVEPOINT"), (2, u "RELEASE"), (2, u "LOCK"), (2, u "LOCKROW"), (2, u "SET"), (2, u "SHOW"), (2, u "LOCKS"), (2, u "$VALUES"), (0, u "[Lcom/example/uni_lock/unilock/Command;"), (6, .class_ 85), (1, u "java/lang/Enum"), (9, .fieldref 1 96), (0, .nameAndType 97 98), (0, u "minArguments"), (0, u "I"), (0, .fieldref 1 100), (0, .nameAndType 101 98), (0, u "maxArguments"), (2, u "BY_NAME"), (0, u "Ljava/util/Map;"), (30, u "RUN_IN_FAILED_TRANSACTION"), (0, u "Ljava/util/Set;"), (68, u "takes"), (0, u "(I)Z")] 23

def k6c0 : Code := { maxStack := 2, maxLocals := 2, code := prog_3_method_6_code, exceptionTable := #[], attributes := #[] }
def k6m0 : Method := { name := "takes", desc := "(I)Z", sig := { parameters := [.int], returnType := some .boolean }, accessFlags := 0, code := some k6c0 }
/-- com/example/uni_lock/unilock/Command -/
def k6 : Class := { plain "com/example/uni_lock/unilock/Command" (some 5) with
  accessFlags := 16432
  interfaces := #[]
  cf := some (fileOf pool6 1 #[] #[{ accessFlags := 0, nameIndex := 206, descriptorIndex := 207, attributes := #[] }] 16432 83 #[] #[{ accessFlags := 16409, nameIndex := 5, descriptorIndex := 6, attributes := #[] }, { accessFlags := 16409, nameIndex := 9, descriptorIndex := 6, attributes := #[] }, { accessFlags := 16409, nameIndex := 12, descriptorIndex := 6, attributes := #[] }, { accessFlags := 16409, nameIndex := 15, descriptorIndex := 6, attributes := #[] }, { accessFlags := 16409, nameIndex := 18, descriptorIndex := 6, attributes := #[] }, { accessFlags := 16409, nameIndex := 21, descriptorIndex := 6, attributes := #[] }, { accessFlags := 16409, nameIndex := 24, descriptorIndex := 6, attributes := #[] }, { accessFlags := 16409, nameIndex := 27, descriptorIndex := 6, attributes := #[] }, { accessFlags := 16409, nameIndex := 30, descriptorIndex := 6, attributes := #[] }, { accessFlags := 16409, nameIndex := 33, descriptorIndex := 6, attributes := #[] }, { accessFlags := 16409, nameIndex := 36, descriptorIndex := 6, attributes := #[] }, { accessFlags := 16409, nameIndex := 39, descriptorIndex := 6, attributes := #[] }, { accessFlags := 16409, nameIndex := 42, descriptorIndex := 6, attributes := #[] }, { accessFlags := 16409, nameIndex := 45, descriptorIndex := 6, attributes := #[] }, { accessFlags := 16409, nameIndex := 48, descriptorIndex := 6, attributes := #[] }, { accessFlags := 16409, nameIndex := 51, descriptorIndex := 6, attributes := #[] }, { accessFlags := 16409, nameIndex := 54, descriptorIndex := 6, attributes := #[] }, { accessFlags := 16409, nameIndex := 57, descriptorIndex := 6, attributes := #[] }, { accessFlags := 16409, nameIndex := 60, descriptorIndex := 6, attributes := #[] }, { accessFlags := 16409, nameIndex := 63, descriptorIndex := 6, attributes := #[] }, { accessFlags := 16409, nameIndex := 66, descriptorIndex := 6, attributes := #[] }, { accessFlags := 16409, nameIndex := 69, descriptorIndex := 6, attributes := #[] }, { accessFlags := 16409, nameIndex := 72, descriptorIndex := 6, attributes := #[] }, { accessFlags := 26, nameIndex := 104, descriptorIndex := 105, attributes := #[] }, { accessFlags := 26, nameIndex := 136, descriptorIndex := 137, attributes := #[] }, { accessFlags := 18, nameIndex := 97, descriptorIndex := 98, attributes := #[] }, { accessFlags := 18, nameIndex := 101, descriptorIndex := 98, attributes := #[] }, { accessFlags := 4122, nameIndex := 75, descriptorIndex := 76, attributes := #[] }])
  fields := #[{ name := "PING", type := (.object "com/example/uni_lock/unilock/Command"), accessFlags := 16409, slot := 0, constantValue := 0 }, { name := "SESSION_ID", type := (.object "com/example/uni_lock/unilock/Command"), accessFlags := 16409, slot := 1, constantValue := 0 }, { name := "ADVISORY_LOCK", type := (.object "com/example/uni_lock/unilock/Command"), accessFlags := 16409, slot := 2, constantValue := 0 }, { name := "ADVISORY_LOCK_SHARED", type := (.object "com/example/uni_lock/unilock/Command"), accessFlags := 16409, slot := 3, constantValue := 0 }, { name := "TRY_ADVISORY_LOCK", type := (.object "com/example/uni_lock/unilock/Command"), accessFlags := 16409, slot := 4, constantValue := 0 }, { name := "TRY_ADVISORY_LOCK_SHARED", type := (.object "com/example/uni_lock/unilock/Command"), accessFlags := 16409, slot := 5, constantValue := 0 }, { name := "ADVISORY_XACT_LOCK", type := (.object "com/example/uni_lock/unilock/Command"), accessFlags := 16409, slot := 6, constantValue := 0 }, { name := "ADVISORY_XACT_LOCK_SHARED", type := (.object "com/example/uni_lock/unilock/Command"), accessFlags := 16409, slot := 7, constantValue := 0 }, { name := "TRY_ADVISORY_XACT_LOCK", type := (.object "com/example/uni_lock/unilock/Command"), accessFlags := 16409, slot := 8, constantValue := 0 }, { name := "TRY_ADVISORY_XACT_LOCK_SHARED", type := (.object "com/example/uni_lock/unilock/Command"), accessFlags := 16409, slot := 9, constantValue := 0 }, { name := "ADVISORY_UNLOCK", type := (.object "com/example/uni_lock/unilock/Command"), accessFlags := 16409, slot := 10, constantValue := 0 }, { name := "ADVISORY_UNLOCK_SHARED", type := (.object "com/example/uni_lock/unilock/Command"), accessFlags := 16409, slot := 11, constantValue := 0 }, { name := "ADVISORY_UNLOCK_ALL", type := (.object "com/example/uni_lock/unilock/Command"), accessFlags := 16409, slot := 12, constantValue := 0 }, { name := "BEGIN", type := (.object "com/example/uni_lock/unilock/Command"), accessFlags := 16409, slot := 13, constantValue := 0 }, { name := "COMMIT", type := (.object "com/example/uni_lock/unilock/Command"), accessFlags := 16409, slot := 14, constantValue := 0 }, { name := "ROLLBACK", type := (.object "com/example/uni_lock/unilock/Command"), accessFlags := 16409, slot := 15, constantValue := 0 }, { name := "SAVEPOINT", type := (.object "com/example/uni_lock/unilock/Command"), accessFlags := 16409, slot := 16, constantValue := 0 }, { name := "RELEASE", type := (.object "com/example/uni_lock/unilock/Command"), accessFlags := 16409, slot := 17, constantValue := 0 }, { name := "LOCK", type := (.object "com/example/uni_lock/unilock/Command"), accessFlags := 16409, slot := 18, constantValue := 0 }, { name := "LOCKROW", type := (.object "com/example/uni_lock/unilock/Command"), accessFlags := 16409, slot := 19, constantValue := 0 }, { name := "SET", type := (.object "com/example/uni_lock/unilock/Command"), accessFlags := 16409, slot := 20, constantValue := 0 }, { name := "SHOW", type := (.object "com/example/uni_lock/unilock/Command"), accessFlags := 16409, slot := 21, constantValue := 0 }, { name := "LOCKS", type := (.object "com/example/uni_lock/unilock/Command"), accessFlags := 16409, slot := 22, constantValue := 0 }, { name := "BY_NAME", type := (.object "java/util/Map"), accessFlags := 26, slot := 23, constantValue := 0 }, { name := "RUN_IN_FAILED_TRANSACTION", type := (.object "java/util/Set"), accessFlags := 26, slot := 24, constantValue := 0 }, { name := "minArguments", type := .int, accessFlags := 18, slot := 3, constantValue := 0 }, { name := "maxArguments", type := .int, accessFlags := 18, slot := 4, constantValue := 0 }, { name := "$VALUES", type := (.array (.object "com/example/uni_lock/unilock/Command")), accessFlags := 4122, slot := 25, constantValue := 0 }]
  methods := #[k6m0]
  instanceTypes := #[(.object "java/lang/String"), .int, .int, .int, .int]
  staticTypes := #[(.object "com/example/uni_lock/unilock/Command"), (.object "com/example/uni_lock/unilock/Command"), (.object "com/example/uni_lock/unilock/Command"), (.object "com/example/uni_lock/unilock/Command"), (.object "com/example/uni_lock/unilock/Command"), (.object "com/example/uni_lock/unilock/Command"), (.object "com/example/uni_lock/unilock/Command"), (.object "com/example/uni_lock/unilock/Command"), (.object "com/example/uni_lock/unilock/Command"), (.object "com/example/uni_lock/unilock/Command"), (.object "com/example/uni_lock/unilock/Command"), (.object "com/example/uni_lock/unilock/Command"), (.object "com/example/uni_lock/unilock/Command"), (.object "com/example/uni_lock/unilock/Command"), (.object "com/example/uni_lock/unilock/Command"), (.object "com/example/uni_lock/unilock/Command"), (.object "com/example/uni_lock/unilock/Command"), (.object "com/example/uni_lock/unilock/Command"), (.object "com/example/uni_lock/unilock/Command"), (.object "com/example/uni_lock/unilock/Command"), (.object "com/example/uni_lock/unilock/Command"), (.object "com/example/uni_lock/unilock/Command"), (.object "com/example/uni_lock/unilock/Command"), (.object "java/util/Map"), (.object "java/util/Set"), (.array (.object "com/example/uni_lock/unilock/Command"))]
  resolved := Array.replicate 231 none
  statics := some 0 }

def pool7 : Array CpInfo := pool [(1, u "java/lang/Cloneable"), (0, .class_ 1), (0, u "java/lang/Object"), (0, .class_ 3)] 3

/-- java/lang/Cloneable -/
def k7 : Class := { plain "java/lang/Cloneable" (some 0) with
  accessFlags := 1537
  interfaces := #[]
  cf := some (fileOf pool7 2 #[] #[] 1537 4 #[] #[])
  fields := #[]
  methods := #[]
  instanceTypes := #[]
  staticTypes := #[]
  resolved := Array.replicate 8 none
  statics := none }

/-- the primitive byte -/
def k8 : Class := { plain "byte" none with kind := .primitive 'B', accessFlags := 0x411 }
/-- [B -/
def k9 : Class := { plain "[B" (some 0) with kind := .array 8 .byte, interfaces := #[7, 4], accessFlags := 1041 }

/-- the primitive int -/
def k10 : Class := { plain "int" none with kind := .primitive 'I', accessFlags := 0x411 }
/-- [I -/
def k11 : Class := { plain "[I" (some 0) with kind := .array 10 .int, interfaces := #[7, 4], accessFlags := 1041 }

def heap : Heap := #[{ cls := 6, slots := #[.ref 1, .ref 2, .ref 3, .ref 4, .ref 5, .ref 6, .ref 7, .ref 8, .ref 9, .ref 10, .ref 11, .ref 12, .ref 13, .ref 14, .ref 15, .ref 16, .ref 17, .ref 18, .ref 19, .ref 20, .ref 21, .ref 22, .ref 23, .null, .null, .null], vm := .statics 6 },
  { cls := 6, slots := #[.null, .int 0, .int 0, .int 0, .int 0], vm := .none },
  { cls := 6, slots := #[.null, .int 1, .int 0, .int 0, .int 0], vm := .none },
  { cls := 6, slots := #[.null, .int 2, .int 0, .int 1, .int 2], vm := .none },
  { cls := 6, slots := #[.null, .int 3, .int 0, .int 1, .int 2], vm := .none },
  { cls := 6, slots := #[.null, .int 4, .int 0, .int 1, .int 2], vm := .none },
  { cls := 6, slots := #[.null, .int 5, .int 0, .int 1, .int 2], vm := .none },
  { cls := 6, slots := #[.null, .int 6, .int 0, .int 1, .int 2], vm := .none },
  { cls := 6, slots := #[.null, .int 7, .int 0, .int 1, .int 2], vm := .none },
  { cls := 6, slots := #[.null, .int 8, .int 0, .int 1, .int 2], vm := .none },
  { cls := 6, slots := #[.null, .int 9, .int 0, .int 1, .int 2], vm := .none },
  { cls := 6, slots := #[.null, .int 10, .int 0, .int 1, .int 2], vm := .none },
  { cls := 6, slots := #[.null, .int 11, .int 0, .int 1, .int 2], vm := .none },
  { cls := 6, slots := #[.null, .int 12, .int 0, .int 0, .int 0], vm := .none },
  { cls := 6, slots := #[.null, .int 13, .int 0, .int 0, .int 0], vm := .none },
  { cls := 6, slots := #[.null, .int 14, .int 0, .int 0, .int 0], vm := .none },
  { cls := 6, slots := #[.null, .int 15, .int 0, .int 0, .int 2], vm := .none },
  { cls := 6, slots := #[.null, .int 16, .int 0, .int 1, .int 1], vm := .none },
  { cls := 6, slots := #[.null, .int 17, .int 0, .int 1, .int 1], vm := .none },
  { cls := 6, slots := #[.null, .int 18, .int 0, .int 1, .int 7], vm := .none },
  { cls := 6, slots := #[.null, .int 19, .int 0, .int 4, .int 7], vm := .none },
  { cls := 6, slots := #[.null, .int 20, .int 0, .int 2, .int 3], vm := .none },
  { cls := 6, slots := #[.null, .int 21, .int 0, .int 1, .int 1], vm := .none },
  { cls := 6, slots := #[.null, .int 22, .int 0, .int 0, .int 1], vm := .none }]
def classes : Array Class := #[k0, k1, k2, k3, k4, k5, k6, k7, k8, k9, k10, k11]
def interned : List (Array UInt16 × Addr) := []
def slotsUsed : Nat := 141
def theMethod : MethodId := ⟨1, 2⟩
def args0 : Array Value := #[.int 5, .int 300, .int 1]
def aboutOver (below : List Frame) : State where
  vm := { classes := classes, interned := interned.toArray }
  heap := heap
  slotsUsed := slotsUsed
  threads := #[{ frames := .invoking theMethod args0 :: below }]
def below0 : List Frame := [.native { method := ⟨0, 0⟩, args := #[] }]
def about1 : State := aboutOver below0
def p0 : Program := .bare "" "" ""
def e0 : Env := launch0.env 0 0 0
theorem w_frames : about1.frames = Frame.invoking theMethod args0 :: below0 := rfl
set_option maxRecDepth 65536 in
theorem w_args : argsFit about1.vm theMethod args0 = true := by decide +kernel
set_option maxRecDepth 65536 in
theorem w_heap : heapFits about1 = true := by decide +kernel
set_option maxRecDepth 65536 in
theorem w_runnable : about1.curStatus? = some .runnable := by decide +kernel
set_option maxRecDepth 65536 in
theorem w_alone : about1.alone = true := by decide +kernel
set_option maxRecDepth 65536 in
theorem w_named : about1.methodNamed? x = some theMethod := by decide +kernel
set_option maxRecDepth 65536 in
theorem w_hears : about1.hears theMethod below0 = true := by decide +kernel
set_option maxRecDepth 65536 in
theorem w_ripe : about1.ripe theMethod args0 below0 = true := by decide +kernel
theorem w_running : about1.status = .running := rfl
set_option maxRecDepth 65536 in
theorem w_room : about1.hasRoom e0.platform room_1 = true :=
  launch0.hasRoom_least _ room_1 (by decide +kernel) (by decide +kernel) (by decide +kernel) (by decide +kernel) (by decide +kernel) (by decide +kernel)
theorem allAtoms_all (ts : List Jvm.Cond) (a : Array Jvm.Value) (st : Jvm.State) : (allAtoms ts).before a st = ts.all (fun c => c.before a st) := by
  induction ts with
  | nil => rfl
  | cons c t ih =>
    show (Jvm.Cond.and c (allAtoms t)).before a st = _
    rw [Jvm.Cond.before_and, ih, List.all_cons]
def words1 : List Jvm.Cond := Jvm.Cond.code x code maxLocals ret :: tables_1
/-- a 'code' word, met by the world's own term for the bytes: nothing is compared byte by byte -/
theorem code_word {y : MethodName} {bytes : ByteArray} {mx : Nat} {rt : Option FieldType} {a : Array Value} {s : State} {m : MethodId} {meth : Method} {c : Code} (h1 : s.methodNamed? y = some m) (h2 : s.vm.method? m = some meth) (h3 : meth.code = some c) (h4 : c.code = bytes)
    (h5 : (c.maxLocals == mx && c.exceptionTable.isEmpty && decide (c.maxStack ≤ mostOperands) && decide (meth.sig.returnType = rt) && !meth.locks && decide (parseMethodDescriptor y.desc = some meth.sig)) = true) : (Jvm.Cond.code y bytes mx rt).before a s = true := by
  simp only [Bool.and_eq_true, beq_iff_eq, Bool.not_eq_true', decide_eq_true_eq] at h5
  obtain ⟨⟨⟨⟨⟨g1, g2⟩, g3⟩, g4⟩, g5⟩, g6⟩ := h5
  simp [Cond.before, Cond.holds, Cond.value, h1, h2, h3, h4, g1, g2, g3, g4, g5, g6]
def isCode : Jvm.Cond → Bool
  | .code _ _ _ _ => true
  | _ => false
theorem all_split {L : List Jvm.Cond} {P : Jvm.Cond → Bool} (h1 : L.all (fun c => isCode c || P c) = true) (h2 : ∀ c ∈ L.filter isCode, P c = true) : L.all P = true := by
  refine List.all_eq_true.mpr fun c hc => ?_
  have h := List.all_eq_true.mp h1 c hc
  rcases Bool.eq_false_or_eq_true (isCode c) with hi | hi
  · exact h2 c (List.mem_filter.mpr ⟨hc, hi⟩)
  · simpa [hi] using h
set_option maxRecDepth 65536 in
theorem w_c0 : (Jvm.Cond.code x code maxLocals ret).before args0 about1 = true := code_word (m := ⟨1, 2⟩) (meth := k1m2) (c := k1c2) (by decide +kernel) rfl rfl rfl (by decide +kernel)
set_option maxRecDepth 65536 in
theorem w_c1 : (Jvm.Cond.code ({ cls := "com/example/uni_lock/unilock/CommandTakesPinLaw", name := "pick", desc := "(I)Lcom/example/uni_lock/unilock/Command;" } : Jvm.MethodName) method_2_code (1 : Nat) (Option.some (Jvm.ClassFile.FieldType.object "com/example/uni_lock/unilock/Command"))).before args0 about1 = true := code_word (m := ⟨1, 1⟩) (meth := k1m1) (c := k1c1) (by decide +kernel) rfl rfl rfl (by decide +kernel)
set_option maxRecDepth 65536 in
theorem w_c2 : (Jvm.Cond.code ({ cls := "com/example/uni_lock/unilock/Command", name := "takes", desc := "(I)Z" } : Jvm.MethodName) prog_3_method_6_code (2 : Nat) (Option.some Jvm.ClassFile.FieldType.boolean)).before args0 about1 = true := code_word (m := ⟨6, 0⟩) (meth := k6m0) (c := k6c0) (by decide +kernel) rfl rfl rfl (by decide +kernel)
def codes1 : List Jvm.Cond := [Jvm.Cond.code x code maxLocals ret, Jvm.Cond.code ({ cls := "com/example/uni_lock/unilock/CommandTakesPinLaw", name := "pick", desc := "(I)Lcom/example/uni_lock/unilock/Command;" } : Jvm.MethodName) method_2_code (1 : Nat) (Option.some (Jvm.ClassFile.FieldType.object "com/example/uni_lock/unilock/Command")), Jvm.Cond.code ({ cls := "com/example/uni_lock/unilock/Command", name := "takes", desc := "(I)Z" } : Jvm.MethodName) prog_3_method_6_code (2 : Nat) (Option.some Jvm.ClassFile.FieldType.boolean)]
set_option maxRecDepth 65536 in
theorem codes_eq : words1.filter isCode = codes1 := rfl
theorem w_codes : ∀ c ∈ words1.filter isCode, c.before args0 about1 = true := by
  rw [codes_eq]
  intro c hc
  simp only [codes1, List.mem_cons, List.not_mem_nil, or_false] at hc
  rcases hc with rfl | rfl | rfl
  · exact w_c0
  · exact w_c1
  · exact w_c2
set_option maxRecDepth 65536 in
theorem w_t1 : (words1.take 24).all (fun c => isCode c || c.before args0 about1) = true := by decide +kernel
set_option maxRecDepth 65536 in
theorem w_t2 : ((words1.drop 24).take 24).all (fun c => isCode c || c.before args0 about1) = true := by decide +kernel
set_option maxRecDepth 65536 in
theorem w_t3 : ((words1.drop 24).drop 24).all (fun c => isCode c || c.before args0 about1) = true := by decide +kernel
theorem w_tables : (allAtoms (Jvm.Cond.code x code maxLocals ret :: tables_1)).before args0 about1 = true := by
  rw [allAtoms_all]
  show words1.all (fun c => c.before args0 about1) = true
  refine all_split ?_ w_codes
  rw [← List.take_append_drop 24 words1, List.all_append, w_t1, ← List.take_append_drop 24 (words1.drop 24), List.all_append, w_t2, w_t3]
  rfl
set_option maxRecDepth 65536 in
theorem w_case : (Jvm.Cond.and given_1 narrow_1).before args0 about1 = true := by decide +kernel
theorem w_applies : (headSpec (Jvm.Cond.code x code maxLocals ret :: tables_1) room_1).applies x e0.platform about1 = true :=
  (Spec.applies_iff w_frames).mpr ⟨w_running, w_runnable, w_alone, w_named, w_hears, w_ripe, w_room, w_tables⟩
theorem atStart : AtStart classFile x code maxLocals ret World_1 tables_1 room_1 Calls_1 rest_1 Pre_1 launch0 p0 e0 about1 theMethod args0 below0 :=
  ⟨lists_1, trivial, launch0.admits_env _ _ _, launch0.least_env, fairChoices_fair.cas, fairChoices_fair.clock, w_frames, w_args, w_heap, w_applies, trivial, trivial, w_case⟩
end start1
theorem witness_1 : WitnessClaimed_1 := ⟨start1.p0, start1.e0, start1.about1, start1.theMethod, start1.args0, start1.below0, start1.atStart⟩
end Jvm.Pilot.@@N@@
