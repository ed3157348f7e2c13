import JvmDerived
import JvmDerived.Pilot.@@N@@Statement
import JvmDerived.Pilot.@@N@@Code
set_option linter.unusedVariables false
set_option linter.unusedSimpArgs false
namespace Jvm.Pilot.@@N@@
open Jvm Jvm.ClassFile Sem Op Lib Jvm.Free Jvm.Stand Jvm.LawKit Jvm.RoadKit Bundle Jvm.Pilot.@@N@@.Jvm.D
/-! own layer: the walk goes forward; own_G S: from S the body ends as F says -/
def own_G (tb : Tables) (e : Env) (below : List Frame) (F : Outcome → State → Prop) (S : State) : Prop :=
  ∃ s₂ o, Steps tb e below S s₂ ∧ s₂.status = .running ∧ Ended s₂ below o ∧ F o s₂
theorem own_go {tb : Tables} {e : Env} {below : List Frame} {F : Outcome → State → Prop} {A B : State} (st : ∀ t, Steps tb e below B t → Steps tb e below A t) (h : own_G tb e below F B) : own_G tb e below F A := by
  obtain ⟨t, o, h1, h2⟩ := h
  exact ⟨t, o, st t h1, h2⟩
theorem own_tr {tb : Tables} {e : Env} {below : List Frame} {F : Outcome → State → Prop} {A B : State} (st : Steps tb e below A B) (h : own_G tb e below F B) : own_G tb e below F A := own_go (fun _ k => st.trans k) h
theorem own_b {n k : Nat} (h : Nat.ble n k = true) : n ≤ k := Nat.le_of_ble_eq_true h
def own_yes {α : Type} [LT α] : ClassFile.Cond → α → α → Prop
  | .eq, x, y => x = y
  | .ne, x, y => ¬ x = y
  | .lt, x, y => x < y
  | .ge, x, y => ¬ x < y
  | .gt, x, y => y < x
  | .le, x, y => ¬ y < x
def own_no {α : Type} [LT α] : ClassFile.Cond → α → α → Prop
  | .eq, x, y => ¬ x = y
  | .ne, x, y => x = y
  | .lt, x, y => ¬ x < y
  | .ge, x, y => x < y
  | .gt, x, y => ¬ y < x
  | .le, x, y => y < x
theorem own_hy {cd : ClassFile.Cond} {x y : Int32} (h : own_yes cd x y) : if_icmp.holds cd x y = true := by
  cases cd
  · exact (teq h).1
  · exact (feq h).2
  · exact (tlt h).1
  · exact (flt h).2.1
  · exact (tlt h).2.2.1
  · exact (flt h).2.2.2
theorem own_hn {cd : ClassFile.Cond} {x y : Int32} (h : own_no cd x y) : if_icmp.holds cd x y = false := by
  cases cd
  · exact (feq h).1
  · exact (teq h).2
  · exact (flt h).1
  · exact (tlt h).2.1
  · exact (flt h).2.2.1
  · exact (tlt h).2.2.2
theorem own_yn {cd : ClassFile.Cond} {x y : Int32} : own_yes cd x y ∨ own_no cd x y := by
  cases cd
  · exact Classical.em _
  · exact (Classical.em _).symm
  · exact Classical.em _
  · exact (Classical.em _).symm
  · exact Classical.em _
  · exact (Classical.em _).symm
theorem own_ynL {cd : ClassFile.Cond} {x y : Int64} : own_yes cd x y ∨ own_no cd x y := by
  cases cd
  · exact Classical.em _
  · exact (Classical.em _).symm
  · exact Classical.em _
  · exact (Classical.em _).symm
  · exact Classical.em _
  · exact (Classical.em _).symm
theorem own_hyL {cd : ClassFile.Cond} {x y : Int64} (h : own_yes cd x y) : ifCond.holds cd (lcmpW x y) = true := by
  rw [if0]
  refine own_hy ?_
  cases cd
  · exact (lw_eq x y).mpr h
  · exact fun q => h ((lw_eq x y).mp q)
  · exact (lw_lt x y).mpr h
  · exact fun q => h ((lw_lt x y).mp q)
  · exact (lw_gt x y).mpr h
  · exact fun q => h ((lw_gt x y).mp q)
theorem own_hnL {cd : ClassFile.Cond} {x y : Int64} (h : own_no cd x y) : ifCond.holds cd (lcmpW x y) = false := by
  rw [if0]
  refine own_hn ?_
  cases cd
  · exact fun q => h ((lw_eq x y).mp q)
  · exact (lw_eq x y).mpr h
  · exact fun q => h ((lw_lt x y).mp q)
  · exact (lw_lt x y).mpr h
  · exact fun q => h ((lw_gt x y).mp q)
  · exact (lw_gt x y).mpr h
section Own
variable {p : Program} {l : Launch} {e : Env} {R : Room} {s : State} {m : MethodId} {args : Array Value} {below : List Frame} {meth : Method} {c : Code} {T : State} {locs : List Loc} {cells slots : Nat} {F : Outcome → State → Prop}
theorem own_abs {n0 : Nat} (X : Stand p l e R s m args below meth c T locs cells slots) (N : Fr n0 locs) : ∃ L, Stand p l e R s m args below meth c T L cells slots ∧ Fr n0 L := ⟨locs, X, N⟩
theorem own_absC {n0 K K' : Nat} {L Lc : List Loc} {k n : Nat} (X : Stand p l e R s m args below meth c T L k n) (hl : L = locs ++ Lc) (hk : k = K) (hn : n = K') (N : Fr n0 locs) (N' : Fr n0 Lc) : ∃ L, Stand p l e R s m args below meth c T L K K' ∧ Fr n0 L := by
  subst hk hn
  exact ⟨L, X, by rw [hl]; exact Fr.app N N'⟩
theorem own_icmpY (X : Stand p l e R s m args below meth c T locs cells slots) (hx : p.tables.exec = Jvm.exec) {cd : ClassFile.Cond} {x y : Int32} {o : Int} {pc pc' : Nat} {Ls : Array Slot} {rest : List Value} (hd : decode c.code pc = .ok (.if_icmp cd o, 3)) (ho : 0 ≤ (pc : Int) + o) (hp : ((pc : Int) + o).toNat = pc')
    (hc : own_yes cd x y) (h1 : own_G p.tables e below F (T.setTop (mkF m pc' Ls rest))) : own_G p.tables e below F (T.setTop (mkF m pc Ls (.int y :: .int x :: rest))) :=
  own_go (fun _ k => XS.icmpYes X.here hx rfl (pc0 := pc) (pc' := pc') rfl hd rfl (own_hy hc) ho hp k) h1
theorem own_icmpN (X : Stand p l e R s m args below meth c T locs cells slots) (hx : p.tables.exec = Jvm.exec) {cd : ClassFile.Cond} {x y : Int32} {o : Int} {pc pn : Nat} {Ls : Array Slot} {rest : List Value} (hd : decode c.code pc = .ok (.if_icmp cd o, 3)) (hq : pc + 3 = pn)
    (hc : own_no cd x y) (h1 : own_G p.tables e below F (T.setTop (mkF m pn Ls rest))) : own_G p.tables e below F (T.setTop (mkF m pc Ls (.int y :: .int x :: rest))) := by
  subst hq
  exact own_go (fun _ k => XS.icmpNo X.here hx rfl hd rfl (own_hn hc) k) h1
theorem own_icmp (X : Stand p l e R s m args below meth c T locs cells slots) (hx : p.tables.exec = Jvm.exec) {cd : ClassFile.Cond} {x y : Int32} {o : Int} {pc pc' pn : Nat} {Ls : Array Slot} {rest : List Value} (hd : decode c.code pc = .ok (.if_icmp cd o, 3)) (ho : 0 ≤ (pc : Int) + o) (hp : ((pc : Int) + o).toNat = pc') (hq : pc + 3 = pn)
    (h1 : own_yes cd x y → own_G p.tables e below F (T.setTop (mkF m pc' Ls rest))) (h2 : own_no cd x y → own_G p.tables e below F (T.setTop (mkF m pn Ls rest))) : own_G p.tables e below F (T.setTop (mkF m pc Ls (.int y :: .int x :: rest))) :=
  own_yn.elim (fun q => own_icmpY X hx hd ho hp q (h1 q)) (fun q => own_icmpN X hx hd hq q (h2 q))
theorem own_ifY (X : Stand p l e R s m args below meth c T locs cells slots) (hx : p.tables.exec = Jvm.exec) {cd : ClassFile.Cond} {x : Int32} {o : Int} {pc pc' : Nat} {Ls : Array Slot} {rest : List Value} (hd : decode c.code pc = .ok (.ifCond cd o, 3)) (ho : 0 ≤ (pc : Int) + o) (hp : ((pc : Int) + o).toNat = pc')
    (hc : own_yes cd x 0) (h1 : own_G p.tables e below F (T.setTop (mkF m pc' Ls rest))) : own_G p.tables e below F (T.setTop (mkF m pc Ls (.int x :: rest))) :=
  own_go (fun _ k => XS.ifYes X.here hx rfl (pc0 := pc) (pc' := pc') rfl hd rfl ((if0 cd x).trans (own_hy hc)) ho hp k) h1
theorem own_ifN (X : Stand p l e R s m args below meth c T locs cells slots) (hx : p.tables.exec = Jvm.exec) {cd : ClassFile.Cond} {x : Int32} {o : Int} {pc pn : Nat} {Ls : Array Slot} {rest : List Value} (hd : decode c.code pc = .ok (.ifCond cd o, 3)) (hq : pc + 3 = pn)
    (hc : own_no cd x 0) (h1 : own_G p.tables e below F (T.setTop (mkF m pn Ls rest))) : own_G p.tables e below F (T.setTop (mkF m pc Ls (.int x :: rest))) := by
  subst hq
  exact own_go (fun _ k => XS.ifNo X.here hx rfl hd rfl ((if0 cd x).trans (own_hn hc)) k) h1
theorem own_if (X : Stand p l e R s m args below meth c T locs cells slots) (hx : p.tables.exec = Jvm.exec) {cd : ClassFile.Cond} {x : Int32} {o : Int} {pc pc' pn : Nat} {Ls : Array Slot} {rest : List Value} (hd : decode c.code pc = .ok (.ifCond cd o, 3)) (ho : 0 ≤ (pc : Int) + o) (hp : ((pc : Int) + o).toNat = pc') (hq : pc + 3 = pn)
    (h1 : own_yes cd x 0 → own_G p.tables e below F (T.setTop (mkF m pc' Ls rest))) (h2 : own_no cd x 0 → own_G p.tables e below F (T.setTop (mkF m pn Ls rest))) : own_G p.tables e below F (T.setTop (mkF m pc Ls (.int x :: rest))) :=
  own_yn.elim (fun q => own_ifY X hx hd ho hp q (h1 q)) (fun q => own_ifN X hx hd hq q (h2 q))
theorem own_lifY (X : Stand p l e R s m args below meth c T locs cells slots) (hx : p.tables.exec = Jvm.exec) {cd : ClassFile.Cond} {x y : Int64} {o : Int} {pc pc' : Nat} {Ls : Array Slot} {rest : List Value} (hd : decode c.code pc = .ok (.ifCond cd o, 3)) (ho : 0 ≤ (pc : Int) + o) (hp : ((pc : Int) + o).toNat = pc')
    (hc : own_yes cd x y) (h1 : own_G p.tables e below F (T.setTop (mkF m pc' Ls rest))) : own_G p.tables e below F (T.setTop (mkF m pc Ls (.int (lcmpW x y) :: rest))) :=
  own_go (fun _ k => XS.ifYes X.here hx rfl (pc0 := pc) (pc' := pc') rfl hd rfl (own_hyL hc) ho hp k) h1
theorem own_lifN (X : Stand p l e R s m args below meth c T locs cells slots) (hx : p.tables.exec = Jvm.exec) {cd : ClassFile.Cond} {x y : Int64} {o : Int} {pc pn : Nat} {Ls : Array Slot} {rest : List Value} (hd : decode c.code pc = .ok (.ifCond cd o, 3)) (hq : pc + 3 = pn)
    (hc : own_no cd x y) (h1 : own_G p.tables e below F (T.setTop (mkF m pn Ls rest))) : own_G p.tables e below F (T.setTop (mkF m pc Ls (.int (lcmpW x y) :: rest))) := by
  subst hq
  exact own_go (fun _ k => XS.ifNo X.here hx rfl hd rfl (own_hnL hc) k) h1
theorem own_lif (X : Stand p l e R s m args below meth c T locs cells slots) (hx : p.tables.exec = Jvm.exec) {cd : ClassFile.Cond} {x y : Int64} {o : Int} {pc pc' pn : Nat} {Ls : Array Slot} {rest : List Value} (hd : decode c.code pc = .ok (.ifCond cd o, 3)) (ho : 0 ≤ (pc : Int) + o) (hp : ((pc : Int) + o).toNat = pc') (hq : pc + 3 = pn)
    (h1 : own_yes cd x y → own_G p.tables e below F (T.setTop (mkF m pc' Ls rest))) (h2 : own_no cd x y → own_G p.tables e below F (T.setTop (mkF m pn Ls rest))) : own_G p.tables e below F (T.setTop (mkF m pc Ls (.int (lcmpW x y) :: rest))) :=
  own_ynL.elim (fun q => own_lifY X hx hd ho hp q (h1 q)) (fun q => own_lifN X hx hd hq q (h2 q))
theorem own_ret (X : Stand p l e R s m args below meth c T locs cells slots) (hx : p.tables.exec = Jvm.exec) (hlk : meth.locks = false) {K N pc : Nat} {Ls : Array Slot} {w : Value} {t : FieldType} {i : Instr} {rest : List Value} {Q : Option Value → Heap → List Loc → Prop} (hret : meth.sig.returnType = some t) (hn : narrow t w = w)
    (hi : (i = .ireturn ∧ (t = .int ∨ t = .boolean ∨ t = .byte ∨ t = .char ∨ t = .short) ∧ ∃ z, w = .int z) ∨ (i = .lreturn ∧ t = .long ∧ ∃ z, w = .long z) ∨ (i = .dreturn ∧ t = .double ∧ ∃ z, w = .double z) ∨ (i = .freturn ∧ t = .float ∧ ∃ z, w = .float z) ∨ (i = .areturn ∧ t.isReference = true ∧ w.isRef = true))
    (hd : decode c.code pc = .ok (i, 1)) (hK : cells ≤ K) (hN : slots ≤ N) (hQ : Q (some w) T.heap locs) :
    own_G p.tables e below (fun o U' => ∃ v L, o = .returned v ∧ Q v U'.heap L ∧ FrameEnd s o U' L K N) (T.setTop (mkF m pc Ls (w :: rest))) := by
  obtain ⟨fs, hr, hrun, hended, hW, hsame⟩ := X.leave (v := some w) (fun h => by rw [hret] at h; cases h) hlk
  exact ⟨_, _, retOut X hx hret hn hi hd hr, hrun, hended, _, _, rfl, hQ, ⟨_, rfl⟩, hW, hsame.mono hK hN⟩
theorem own_retI (X : Stand p l e R s m args below meth c T locs cells slots) (hx : p.tables.exec = Jvm.exec) (hlk : meth.locks = false) {K N pc : Nat} {Ls : Array Slot} {z : Int32} {rest : List Value} {Q : Option Value → Heap → List Loc → Prop} (hret : meth.sig.returnType = some .int)
    (hd : decode c.code pc = .ok (.ireturn, 1)) (hK : cells ≤ K) (hN : slots ≤ N) (hQ : Q (some (.int z)) T.heap locs) :
    own_G p.tables e below (fun o U' => ∃ v L, o = .returned v ∧ Q v U'.heap L ∧ FrameEnd s o U' L K N) (T.setTop (mkF m pc Ls (.int z :: rest))) :=
  own_ret X hx hlk hret rfl (Or.inl ⟨rfl, Or.inl rfl, z, rfl⟩) hd hK hN hQ
theorem own_retZ (X : Stand p l e R s m args below meth c T locs cells slots) (hx : p.tables.exec = Jvm.exec) (hlk : meth.locks = false) {K N pc : Nat} {Ls : Array Slot} {z : Int32} {rest : List Value} {Q : Option Value → Heap → List Loc → Prop} (hret : meth.sig.returnType = some .boolean)
    (hd : decode c.code pc = .ok (.ireturn, 1)) (hz : z = 0 ∨ z = 1) (hK : cells ≤ K) (hN : slots ≤ N) (hQ : Q (some (.int z)) T.heap locs) :
    own_G p.tables e below (fun o U' => ∃ v L, o = .returned v ∧ Q v U'.heap L ∧ FrameEnd s o U' L K N) (T.setTop (mkF m pc Ls (.int z :: rest))) :=
  own_ret X hx hlk hret (by rcases hz with rfl | rfl <;> rfl) (Or.inl ⟨rfl, Or.inr (Or.inl rfl), z, rfl⟩) hd hK hN hQ
theorem own_retL (X : Stand p l e R s m args below meth c T locs cells slots) (hx : p.tables.exec = Jvm.exec) (hlk : meth.locks = false) {K N pc : Nat} {Ls : Array Slot} {z : Int64} {rest : List Value} {Q : Option Value → Heap → List Loc → Prop} (hret : meth.sig.returnType = some .long)
    (hd : decode c.code pc = .ok (.lreturn, 1)) (hK : cells ≤ K) (hN : slots ≤ N) (hQ : Q (some (.long z)) T.heap locs) :
    own_G p.tables e below (fun o U' => ∃ v L, o = .returned v ∧ Q v U'.heap L ∧ FrameEnd s o U' L K N) (T.setTop (mkF m pc Ls (.long z :: rest))) :=
  own_ret X hx hlk hret rfl (Or.inr (Or.inl ⟨rfl, rfl, z, rfl⟩)) hd hK hN hQ
theorem own_retA (X : Stand p l e R s m args below meth c T locs cells slots) (hx : p.tables.exec = Jvm.exec) (hlk : meth.locks = false) {K N pc : Nat} {Ls : Array Slot} {w : Value} {t : FieldType} {rest : List Value} {Q : Option Value → Heap → List Loc → Prop} (hret : meth.sig.returnType = some t) (ht : t.isReference = true) (hw : w.isRef = true)
    (hd : decode c.code pc = .ok (.areturn, 1)) (hK : cells ≤ K) (hN : slots ≤ N) (hQ : Q (some w) T.heap locs) :
    own_G p.tables e below (fun o U' => ∃ v L, o = .returned v ∧ Q v U'.heap L ∧ FrameEnd s o U' L K N) (T.setTop (mkF m pc Ls (w :: rest))) :=
  own_ret X hx hlk hret (by cases t <;> first | (cases ht; done) | (rcases ref_cases hw with rfl | ⟨z, rfl⟩ <;> rfl)) (Or.inr (Or.inr (Or.inr (Or.inr ⟨rfl, ht, hw⟩)))) hd hK hN hQ
theorem own_retV (X : Stand p l e R s m args below meth c T locs cells slots) (hx : p.tables.exec = Jvm.exec) (hlk : meth.locks = false) {K N pc : Nat} {Ls : Array Slot} {Q : Option Value → Heap → List Loc → Prop} (hret : meth.sig.returnType = none)
    (hd : decode c.code pc = .ok (.return_, 1)) (hK : cells ≤ K) (hN : slots ≤ N) (hQ : Q none T.heap locs) :
    own_G p.tables e below (fun o U' => ∃ v L, o = .returned v ∧ Q v U'.heap L ∧ FrameEnd s o U' L K N) (T.setTop (mkF m pc Ls [])) := by
  obtain ⟨fs, hr, hrun, hended, hW, hsame⟩ := X.leave (v := none) (fun _ => rfl) hlk
  exact ⟨_, _, X.returnOut hx hret hd hr, hrun, hended, _, _, rfl, hQ, ⟨_, rfl⟩, hW, hsame.mono hK hN⟩
theorem own_acmpVE (X : Stand p l e R s m args below meth c T locs cells slots) (hx : p.tables.exec = Jvm.exec) {cd : ACond} {x y : Value} (h1 : x.isRef = true) (h2 : y.isRef = true) {o : Int} {pc pc' : Nat} {Ls : Array Slot} {rest : List Value} (hd : decode c.code pc = .ok (.if_acmp cd o, 3)) (ho : 0 ≤ (pc : Int) + o) (hp : pc' = if acV cd true = true then ((pc : Int) + o).toNat else pc + 3)
    (hc : x = y) (k : own_G p.tables e below F (T.setTop (mkF m pc' Ls rest))) : own_G p.tables e below F (T.setTop (mkF m pc Ls (y :: x :: rest))) :=
  own_go (fun _ q => RoadKit.acmp X hx rfl h1 h2 (pc0 := pc) (pc' := pc') (same := true) rfl hd rfl (by simp [hc]) ho hp q) k
theorem own_acmpVD (X : Stand p l e R s m args below meth c T locs cells slots) (hx : p.tables.exec = Jvm.exec) {cd : ACond} {x y : Value} (h1 : x.isRef = true) (h2 : y.isRef = true) {o : Int} {pc pc' : Nat} {Ls : Array Slot} {rest : List Value} (hd : decode c.code pc = .ok (.if_acmp cd o, 3)) (ho : 0 ≤ (pc : Int) + o) (hp : pc' = if acV cd false = true then ((pc : Int) + o).toNat else pc + 3)
    (hc : ¬ x = y) (k : own_G p.tables e below F (T.setTop (mkF m pc' Ls rest))) : own_G p.tables e below F (T.setTop (mkF m pc Ls (y :: x :: rest))) :=
  own_go (fun _ q => RoadKit.acmp X hx rfl h1 h2 (pc0 := pc) (pc' := pc') (same := false) rfl hd rfl (by simp [hc]) ho hp q) k
theorem own_acmpAE (X : Stand p l e R s m args below meth c T locs cells slots) (hx : p.tables.exec = Jvm.exec) {cd : ACond} {x y : Addr} {o : Int} {pc pc' : Nat} {Ls : Array Slot} {rest : List Value} (hd : decode c.code pc = .ok (.if_acmp cd o, 3)) (ho : 0 ≤ (pc : Int) + o) (hp : pc' = if acV cd true = true then ((pc : Int) + o).toNat else pc + 3)
    (hc : x = y) (k : own_G p.tables e below F (T.setTop (mkF m pc' Ls rest))) : own_G p.tables e below F (T.setTop (mkF m pc Ls (.ref y :: .ref x :: rest))) :=
  own_acmpVE X hx rfl rfl hd ho hp (by rw [hc]) k
theorem own_acmpAD (X : Stand p l e R s m args below meth c T locs cells slots) (hx : p.tables.exec = Jvm.exec) {cd : ACond} {x y : Addr} {o : Int} {pc pc' : Nat} {Ls : Array Slot} {rest : List Value} (hd : decode c.code pc = .ok (.if_acmp cd o, 3)) (ho : 0 ≤ (pc : Int) + o) (hp : pc' = if acV cd false = true then ((pc : Int) + o).toNat else pc + 3)
    (hc : ¬ x = y) (k : own_G p.tables e below F (T.setTop (mkF m pc' Ls rest))) : own_G p.tables e below F (T.setTop (mkF m pc Ls (.ref y :: .ref x :: rest))) :=
  own_acmpVD X hx rfl rfl hd ho hp (fun q => hc (by cases q; rfl)) k
end Own
theorem own_cat1 {v : Value} (h : v.isRef = true) : v.category = 1 := by cases v <;> first | (cases h; done) | rfl
theorem own_sta_keep {Z : State} {h h' : Heap} {C n d : String} {v : Value} {ws : List Addr} (F : Sta Z h C n d v) (K : Keep h h' ws) (q : ∀ x ∈ ws, ∀ c : Cell, h[x]? = some c → c.vm.isStatics = false) : Sta Z h' C n d v := by
  obtain ⟨cf, i, k, f, st, cell, h1, h2, h3, h4, h5, h6, h7⟩ := F
  exact ⟨cf, i, k, f, st, cell, h1, h2, h3, h4, K.2.1 _ _ h5 (fun z => by rw [q _ z _ h5] at h6; cases h6), h6, h7⟩
theorem own_eqint {t : Term} {n : Int32} {args : Array Value} {s : State} (h : (Jvm.Cond.eq t (Term.int n)).value args s none s [] = some true) : t.eval args s none [] s = some (.int n) := by
  have hb : (Term.int n).eval args s none [] s = some (.int n) := Term.int_eval n
  simp only [Jvm.Cond.value, hb] at h
  cases ht : t.eval args s none [] s with
  | none => simp [ht] at h
  | some v => cases v <;> simp [ht] at h ⊢; exact h
theorem own_iconst {tb : Tables} [Ours tb] {e : Env} {below : List Frame} {T target : State} {m : MethodId} {c : Code} {g : JFrame} {v : Int32} (h : At T m c below) (hx : tb.exec = Jvm.exec) (hg : g.method = m) {i : Int} (hd : decode c.code g.pc = .ok (.iconst i, 1)) (hv : Int32.ofInt i = v)
    (hr : Steps tb e below (T.setTop { g with pc := g.pc + 1, stack := .int v :: g.stack }) target) : Steps tb e below (T.setTop g) target := by
  subst hv
  exact XS.iconst h hx hg hd hr
theorem own_bipush {tb : Tables} [Ours tb] {e : Env} {below : List Frame} {T target : State} {m : MethodId} {c : Code} {g : JFrame} {v : Int32} (h : At T m c below) (hx : tb.exec = Jvm.exec) (hg : g.method = m) {i : Int} (hd : decode c.code g.pc = .ok (.bipush i, 2)) (hv : (Int8.ofInt i).toInt32 = v)
    (hr : Steps tb e below (T.setTop { g with pc := g.pc + 2, stack := .int v :: g.stack }) target) : Steps tb e below (T.setTop g) target := by
  subst hv
  exact XS.bipush h hx hg hd hr
theorem own_sipush {tb : Tables} [Ours tb] {e : Env} {below : List Frame} {T target : State} {m : MethodId} {c : Code} {g : JFrame} {v : Int32} (h : At T m c below) (hx : tb.exec = Jvm.exec) (hg : g.method = m) {i : Int} (hd : decode c.code g.pc = .ok (.sipush i, 3)) (hv : (Int16.ofInt i).toInt32 = v)
    (hr : Steps tb e below (T.setTop { g with pc := g.pc + 3, stack := .int v :: g.stack }) target) : Steps tb e below (T.setTop g) target := by
  subst hv
  exact XS.sipush h hx hg hd hr
/-! own layer: arrays by their whole list of values -/
def own_Ar (Z : State) (h : Heap) (a : Addr) (ty : FieldType) (L : List Value) : Prop := ∃ c : Cell, Arr Z h a c ty ∧ c.slots.toList = L
theorem own_lenL {L : List Value} {n : Nat} {z : Int32} (h : L.length = n) (h2 : n.toInt32 = z) : L.length.toInt32 = z := by rw [h]; exact h2
section OwnArr
variable {Z : State} {h h' : Heap} {a b : Addr} {ty : FieldType} {L : List Value}
theorem own_Ar_new {cA : ClassId} {n : Int32} {N : Nat} (A : Arr Z h a (newA cA ty n) ty) (hN : n.toNatClampNeg = N) (hL : List.replicate N (defaultValue ty) = L) : own_Ar Z h a ty L := ⟨_, A, by rw [← hL, ← hN]; simp [newA]⟩
theorem own_Ar_ext (F : own_Ar Z h a ty L) (E : Ext h h') : own_Ar Z h' a ty L := by obtain ⟨c, A, r⟩ := F; exact ⟨c, A.ext E, r⟩
theorem own_Ar_other {sl : Nat} {v : Value} (F : own_Ar Z h b ty L) (W : Wr h h' a sl v) (q : b ≠ a) : own_Ar Z h' b ty L := by obtain ⟨c, A, r⟩ := F; exact ⟨c, A.other W q, r⟩
theorem own_Ar_keep {ws : List Addr} (F : own_Ar Z h a ty L) (K : Keep h h' ws) (q : a ∉ ws) : own_Ar Z h' a ty L := by obtain ⟨c, A, r⟩ := F; exact ⟨c, ⟨K.2.1 a c A.1 q, A.2⟩, r⟩
theorem own_Ar_lt (F : own_Ar Z h a ty L) : a < h.size := by obtain ⟨c, A, -⟩ := F; exact A.lt
theorem own_Ar_ns (F : own_Ar Z h a ty L) : ∀ cell : Cell, h[a]? = some cell → cell.vm.isStatics = false := by obtain ⟨c, A, -⟩ := F; exact Arr.nostat A
theorem own_Ar_same {i : Nat} {v : Value} {L' : List Value} (F : own_Ar Z h a ty L) (W : Wr h h' a i v) (hL : L.set i v = L') : own_Ar Z h' a ty L' := by
  obtain ⟨c, A, r⟩ := F
  refine ⟨_, A.same W, ?_⟩
  rw [← hL, ← r]
  simp [Cell.setSlot]
theorem own_Ar_ne {C : String} {k : Nat} {a0 : Array Value} (E : Exa Z h b C) (wi : (Jvm.Cond.instantiable C k).before a0 Z = true) (F : own_Ar Z h a ty L) : b ≠ a := by obtain ⟨c, A, -⟩ := F; exact ne_arr E wi A
theorem own_in_of {c : Cell} {j : Int32} (r : c.slots.toList = L) (hj : ¬ j < 0) (hl : j.toNatClampNeg < L.length) : ¬ (j < 0 ∨ c.slots.size ≤ j.toNatClampNeg) := by
  have e : c.slots.size = L.length := by rw [← r]; simp
  rw [e]
  exact fun q => q.elim hj (fun z => absurd hl (Nat.not_lt.mpr z))
theorem own_at_of {c : Cell} {i : Nat} {v : Value} (r : c.slots.toList = L) (hv : L[i]? = some v) : c.slots[i]? = some v := by
  rw [← hv, ← r]; simp
theorem own_lt_of {i : Nat} {v : Value} (hv : L[i]? = some v) : i < L.length := (List.getElem?_eq_some_iff.mp hv).1
variable {p : Program} {l : Launch} {e : Env} {R : Room} {s : State} {m : MethodId} {args : Array Value} {below : List Frame} {meth : Method} {c : Code} {T : State} {locs : List Loc} {cells slots : Nat}
theorem own_stI (X : Stand p l e R s m args below meth c T locs cells slots) (hx : p.tables.exec = Jvm.exec) (hZ : Z.Warmed39 s.vm) (eT : T.heap = h) (F : own_Ar Z h a .int L) {j x : Int32} {i : Nat} (hi : j.toNatClampNeg = i) (hj : ¬ j < 0) (hl : i < L.length) {L' : List Value} (hL : L.set i (.int x) = L')
    {g : JFrame} (hg : g.method = m) {rest : List Value} (hs : g.stack = .int x :: .int j :: .ref a :: rest) (hd : decode c.code g.pc = .ok (.iastore, 1)) :
    ∃ T' h', Stand p l e R s m args below meth c T' (locs ++ [⟨a, i⟩]) cells slots ∧ T'.heap = h' ∧ Wr h h' a i (.int x) ∧ own_Ar Z h' a .int L' ∧ ∀ target, Steps p.tables e below (T'.setTop { g with pc := g.pc + 1, stack := rest }) target → Steps p.tables e below (T.setTop g) target := by
  subst hi
  obtain ⟨cl, A, r⟩ := F
  obtain ⟨T', h', X', e', W, st⟩ := stI X hx hZ eT A (own_in_of r hj hl) hg hs hd
  exact ⟨T', h', X', e', W, own_Ar_same ⟨cl, A, r⟩ W hL, st⟩
theorem own_ldI (X : Stand p l e R s m args below meth c T locs cells slots) (hx : p.tables.exec = Jvm.exec) (hZ : Z.Warmed39 s.vm) (eT : T.heap = h) (F : own_Ar Z h a .int L) {j : Int32} {v : Value} (hj : ¬ j < 0) (hv : L[j.toNatClampNeg]? = some v)
    {g : JFrame} (hg : g.method = m) {rest : List Value} (hs : g.stack = .int j :: .ref a :: rest) (hd : decode c.code g.pc = .ok (.iaload, 1)) :
    ∀ target, Steps p.tables e below (T.setTop { g with pc := g.pc + 1, stack := v :: rest }) target → Steps p.tables e below (T.setTop g) target := by
  obtain ⟨cl, A, r⟩ := F
  exact X.iaload hx (by rw [eT]; exact A.1) (State.isArrayOf_alike hZ.alike A.2.1) A.2.2 (own_in_of r hj (own_lt_of hv)) (own_at_of r hv) hg hs hd
theorem own_ldB (X : Stand p l e R s m args below meth c T locs cells slots) (hx : p.tables.exec = Jvm.exec) (hZ : Z.Warmed39 s.vm) (eT : T.heap = h) (F : own_Ar Z h a .byte L) {j : Int32} {v : Value} (hj : ¬ j < 0) (hv : L[j.toNatClampNeg]? = some v)
    {g : JFrame} (hg : g.method = m) {rest : List Value} (hs : g.stack = .int j :: .ref a :: rest) (hd : decode c.code g.pc = .ok (.baload, 1)) :
    ∀ target, Steps p.tables e below (T.setTop { g with pc := g.pc + 1, stack := v :: rest }) target → Steps p.tables e below (T.setTop g) target := by
  obtain ⟨cl, A, r⟩ := F
  exact X.baloadBytes hx (by rw [eT]; exact A.1) (State.isArrayOf_alike hZ.alike A.2.1) A.2.2 (own_in_of r hj (own_lt_of hv)) (own_at_of r hv) hg hs hd
theorem own_ldR (X : Stand p l e R s m args below meth c T locs cells slots) (hx : p.tables.exec = Jvm.exec) (hZ : Z.Warmed39 s.vm) (eT : T.heap = h) (F : own_Ar Z h a ty L) (hty : ty.isReference = true) {j : Int32} {v : Value} (hj : ¬ j < 0) (hv : L[j.toNatClampNeg]? = some v)
    {g : JFrame} (hg : g.method = m) {rest : List Value} (hs : g.stack = .int j :: .ref a :: rest) (hd : decode c.code g.pc = .ok (.aaload, 1)) :
    ∀ target, Steps p.tables e below (T.setTop { g with pc := g.pc + 1, stack := v :: rest }) target → Steps p.tables e below (T.setTop g) target := by
  obtain ⟨cl, A, r⟩ := F
  exact X.aaload hx (by rw [eT]; exact A.1) (State.isArrayOf_alike hZ.alike A.2.1) hty A.2.2 (own_in_of r hj (own_lt_of hv)) (own_at_of r hv) hg hs hd
theorem own_alen (X : Stand p l e R s m args below meth c T locs cells slots) (hx : p.tables.exec = Jvm.exec) (hZ : Z.Warmed39 s.vm) (eT : T.heap = h) (F : own_Ar Z h a ty L) {n : Int32} (hn : L.length.toInt32 = n)
    {g : JFrame} (hg : g.method = m) {rest : List Value} (hs : g.stack = .ref a :: rest) (hd : decode c.code g.pc = .ok (.arraylength, 1)) :
    ∀ target, Steps p.tables e below (T.setTop { g with pc := g.pc + 1, stack := .int n :: rest }) target → Steps p.tables e below (T.setTop g) target := by
  obtain ⟨cl, A, r⟩ := F
  have q : cl.slots.size.toInt32 = n := by rw [← hn, ← r]; simp
  rw [← q]
  exact fun t k => X.arraylength hx (by rw [eT]; exact A.1) (State.isArrayOf_alike hZ.alike A.2.1) hg hs hd t k
end OwnArr
/-! own layer: arrays of references -/
def own_Ao (Z : State) (h : Heap) (a : Addr) (C : String) (L : List Value) : Prop := ∃ c : Cell, Arr Z h a c (.object C) ∧ Ovr Z c.cls C ∧ c.slots.toList = L
section OwnArrO
variable {Z : State} {h h' : Heap} {a b : Addr} {C : String} {L : List Value}
theorem own_Ao_new {cA : ClassId} {n : Int32} (A : Arr Z h a (newA cA (.object C) n) (.object C)) (O : Ovr Z cA C) : own_Ao Z h a C (List.replicate n.toNatClampNeg .null) := ⟨_, A, O, by simp [newA, defaultValue]⟩
theorem own_Ao_ar (F : own_Ao Z h a C L) : own_Ar Z h a (.object C) L := by obtain ⟨c, A, -, r⟩ := F; exact ⟨c, A, r⟩
theorem own_Ao_ext (F : own_Ao Z h a C L) (E : Ext h h') : own_Ao Z h' a C L := by obtain ⟨c, A, r⟩ := F; exact ⟨c, A.ext E, r⟩
theorem own_Ao_other {sl : Nat} {v : Value} (F : own_Ao Z h b C L) (W : Wr h h' a sl v) (q : b ≠ a) : own_Ao Z h' b C L := by obtain ⟨c, A, r⟩ := F; exact ⟨c, A.other W q, r⟩
theorem own_Ao_keep {ws : List Addr} (F : own_Ao Z h a C L) (K : Keep h h' ws) (q : a ∉ ws) : own_Ao Z h' a C L := by obtain ⟨c, A, r⟩ := F; exact ⟨c, ⟨K.2.1 a c A.1 q, A.2⟩, r⟩
theorem own_Ao_lt (F : own_Ao Z h a C L) : a < h.size := by obtain ⟨c, A, -⟩ := F; exact A.lt
theorem own_Ao_same {i : Nat} {v : Value} (F : own_Ao Z h a C L) (W : Wr h h' a i v) : own_Ao Z h' a C (L.set i v) := by
  obtain ⟨c, A, O, r⟩ := F
  refine ⟨_, A.same W, O, ?_⟩
  rw [← r]
  simp [Cell.setSlot]
variable {p : Program} {l : Launch} {e : Env} {R : Room} {s : State} {m : MethodId} {args : Array Value} {below : List Frame} {meth : Method} {c : Code} {T : State} {locs : List Loc} {cells slots : Nat}
theorem own_stR (X : Stand p l e R s m args below meth c T locs cells slots) (hx : p.tables.exec = Jvm.exec) (hZ : Z.Warmed39 s.vm) (eT : T.heap = h) (F : own_Ao Z h a C L) {j : Int32} {v : Value} (hv : v = .null ∨ ∃ y, v = .ref y ∧ Ins Z h y C true) (hj : ¬ j < 0) (hl : j.toNatClampNeg < L.length)
    {g : JFrame} (hg : g.method = m) {rest : List Value} (hs : g.stack = v :: .int j :: .ref a :: rest) (hd : decode c.code g.pc = .ok (.aastore, 1)) :
    ∃ T' h', Stand p l e R s m args below meth c T' (locs ++ [⟨a, j.toNatClampNeg⟩]) cells slots ∧ T'.heap = h' ∧ Wr h h' a j.toNatClampNeg v ∧ own_Ao Z h' a C (L.set j.toNatClampNeg v) ∧ ∀ target, Steps p.tables e below (T'.setTop { g with pc := g.pc + 1, stack := rest }) target → Steps p.tables e below (T.setTop g) target := by
  obtain ⟨cl, A, O, r⟩ := F
  have S : Sto Z h a v := by
    rcases hv with rfl | ⟨y, rfl, I⟩
    · exact Or.inl rfl
    · exact Sto.of A O I
  obtain ⟨T', h', X', e', W, st⟩ := stR X hx hZ eT A (own_in_of r hj hl) rfl S hg hs hd
  exact ⟨T', h', X', e', W, own_Ao_same ⟨cl, A, O, r⟩ W, st⟩
end OwnArrO
/-! own layer: a bundle of boxed ints -/
def own_Bn (Z : State) (h : Heap) (l : List (Addr × Int32)) : Prop := ∀ x ∈ l, Exa Z h x.1 "java/lang/Integer" ∧ Fld Z h x.1 "java/lang/Integer" "value" "I" (.int x.2)
theorem own_Bn_keep {Z : State} {h h' : Heap} {l : List (Addr × Int32)} {ws : List Addr} (B : own_Bn Z h l) (K : Keep h h' ws) (q : ∀ x ∈ l, x.1 ∉ ws) : own_Bn Z h' l := fun x hx => ⟨(B x hx).1.keep K, (B x hx).2.keep K (q x hx)⟩
theorem own_Bn_exa {Z : State} {h : Heap} {l : List (Addr × Int32)} {a : Addr} {v : Int32} (B : own_Bn Z h l) (q : (a, v) ∈ l) : Exa Z h a "java/lang/Integer" := (B _ q).1
theorem own_Bn_fld {Z : State} {h : Heap} {l : List (Addr × Int32)} {a : Addr} {v : Int32} (B : own_Bn Z h l) (q : (a, v) ∈ l) : Fld Z h a "java/lang/Integer" "value" "I" (.int v) := (B _ q).2
theorem own_Bn_nil (Z : State) (h : Heap) : own_Bn Z h [] := fun _ q => nomatch q
theorem own_Bn_cons {Z : State} {h : Heap} {l : List (Addr × Int32)} {a : Addr} {v : Int32} (E : Exa Z h a "java/lang/Integer") (F : Fld Z h a "java/lang/Integer" "value" "I" (.int v)) (B : own_Bn Z h l) : own_Bn Z h ((a, v) :: l) := fun x hx => by
  rcases List.mem_cons.mp hx with rfl | q
  · exact ⟨E, F⟩
  · exact B x q
theorem own_stB {Z : State} {h : Heap} {a : Addr} {L : List Value} {p : Program} {l : Launch} {e : Env} {R : Room} {s : State} {m : MethodId} {args : Array Value} {below : List Frame} {meth : Method} {c : Code} {T : State} {locs : List Loc} {cells slots : Nat}
    (X : Stand p l e R s m args below meth c T locs cells slots) (hx : p.tables.exec = Jvm.exec) (hZ : Z.Warmed39 s.vm) (eT : T.heap = h) (F : own_Ar Z h a .byte L) {j x : Int32} {i : Nat} (hi : j.toNatClampNeg = i) (hj : ¬ j < 0) (hl : i < L.length) (hn : nar .byte x = x) {L' : List Value} (hL : L.set i (.int x) = L')
    {g : JFrame} (hg : g.method = m) {rest : List Value} (hs : g.stack = .int x :: .int j :: .ref a :: rest) (hd : decode c.code g.pc = .ok (.bastore, 1)) :
    ∃ T' h', Stand p l e R s m args below meth c T' (locs ++ [⟨a, i⟩]) cells slots ∧ T'.heap = h' ∧ Wr h h' a i (.int x) ∧ own_Ar Z h' a .byte L' ∧ ∀ target, Steps p.tables e below (T'.setTop { g with pc := g.pc + 1, stack := rest }) target → Steps p.tables e below (T.setTop g) target := by
  subst hi
  obtain ⟨cl, A, r⟩ := F
  obtain ⟨T', h', X', e', W, st⟩ := stB X hx hZ eT A (own_in_of r hj hl) hg hs hd
  rw [hn] at W
  exact ⟨T', h', X', e', W, own_Ar_same ⟨cl, A, r⟩ W hL, st⟩
theorem own_arv_of {Z : State} {h : Heap} {a : Addr} {ty : FieldType} {L : List Value} {z : Int32} {dv : Value} (F : own_Ar Z h a ty L) (hz : z.toNatClampNeg = L.length) (h0 : ¬ z < 0) (hf : ∀ v ∈ L, fits ty v = true) : ∃ k, Arv Z h a k ty z L dv := by
  obtain ⟨c, A, r⟩ := F
  have hs : c.slots.size = L.length := by rw [← r]; simp
  refine ⟨c.cls, c, A, rfl, by rw [hz, hs], h0, fun i hi => ?_, fun i hi => ?_⟩
  · have hi' : i < L.length := by rw [← hs]; exact hi
    refine own_at_of r ?_
    rw [List.getElem?_eq_getElem hi', List.getD_eq_getElem?_getD, List.getElem?_eq_getElem hi']; rfl
  · have hi' : i < L.length := by rw [← hs]; exact hi
    rw [List.getD_eq_getElem?_getD, List.getElem?_eq_getElem hi']
    exact hf _ (List.getElem_mem hi')
theorem own_ar_of {Z : State} {h : Heap} {a : Addr} {k : ClassId} {ty : FieldType} {L : List Value} {z : Int32} {dv : Value} (F : Arv Z h a k ty z L dv) (hz : z.toNatClampNeg = L.length) : own_Ar Z h a ty L := by
  obtain ⟨c, A, -, hs, -, H, -⟩ := F
  refine ⟨c, A, ?_⟩
  apply List.ext_getElem?
  intro i
  by_cases hi : i < c.slots.size
  · have q := H i hi
    have hi' : i < L.length := by rw [← hz, ← hs]; exact hi
    rw [List.getD_eq_getElem?_getD, List.getElem?_eq_getElem hi'] at q
    rw [List.getElem?_eq_getElem hi', Array.getElem?_toList]
    exact q
  · have h1 : c.slots.toList[i]? = none := by rw [List.getElem?_eq_none_iff]; simpa using hi
    have h2 : L[i]? = none := by rw [List.getElem?_eq_none_iff, ← hz, ← hs]; omega
    rw [h1, h2]
theorem own_ldD {Z : State} {h : Heap} {a : Addr} {L : List Value} {p : Program} {l : Launch} {e : Env} {R : Room} {s : State} {m : MethodId} {args : Array Value} {below : List Frame} {meth : Method} {c : Code} {T : State} {locs : List Loc} {cells slots : Nat}
    (X : Stand p l e R s m args below meth c T locs cells slots) (hx : p.tables.exec = Jvm.exec) (hZ : Z.Warmed39 s.vm) (eT : T.heap = h) (F : own_Ar Z h a .double L) {j : Int32} {v : Value} (hj : ¬ j < 0) (hv : L[j.toNatClampNeg]? = some v)
    {g : JFrame} (hg : g.method = m) {rest : List Value} (hs : g.stack = .int j :: .ref a :: rest) (hd : decode c.code g.pc = .ok (.daload, 1)) :
    ∀ target, Steps p.tables e below (T.setTop { g with pc := g.pc + 1, stack := v :: rest }) target → Steps p.tables e below (T.setTop g) target := by
  obtain ⟨cl, A, r⟩ := F
  exact X.daload hx (by rw [eT]; exact A.1) (State.isArrayOf_alike hZ.alike A.2.1) A.2.2 (own_in_of r hj (own_lt_of hv)) (own_at_of r hv) hg hs hd
theorem own_stD {Z : State} {h : Heap} {a : Addr} {L : List Value} {p : Program} {l : Launch} {e : Env} {R : Room} {s : State} {m : MethodId} {args : Array Value} {below : List Frame} {meth : Method} {c : Code} {T : State} {locs : List Loc} {cells slots : Nat}
    (X : Stand p l e R s m args below meth c T locs cells slots) (hx : p.tables.exec = Jvm.exec) (hZ : Z.Warmed39 s.vm) (eT : T.heap = h) (F : own_Ar Z h a .double L) {j : Int32} {x : UInt64} {i : Nat} (hi : j.toNatClampNeg = i) (hj : ¬ j < 0) (hl : i < L.length) {L' : List Value} (hL : L.set i (.double x) = L')
    {g : JFrame} (hg : g.method = m) {rest : List Value} (hs : g.stack = .double x :: .int j :: .ref a :: rest) (hd : decode c.code g.pc = .ok (.dastore, 1)) :
    ∃ T' h', Stand p l e R s m args below meth c T' (locs ++ [⟨a, i⟩]) cells slots ∧ T'.heap = h' ∧ Wr h h' a i (.double x) ∧ own_Ar Z h' a .double L' ∧ ∀ target, Steps p.tables e below (T'.setTop { g with pc := g.pc + 1, stack := rest }) target → Steps p.tables e below (T.setTop g) target := by
  subst hi
  obtain ⟨cl, A, r⟩ := F
  obtain ⟨T', h', X', e', W, st⟩ := stD X hx hZ eT A (own_in_of r hj hl) hg hs hd
  exact ⟨T', h', X', e', W, own_Ar_same ⟨cl, A, r⟩ W hL, st⟩
theorem own_retD {p : Program} {l : Launch} {e : Env} {R : Room} {s : State} {m : MethodId} {args : Array Value} {below : List Frame} {meth : Method} {c : Code} {T : State} {locs : List Loc} {cells slots : Nat} (X : Stand p l e R s m args below meth c T locs cells slots) (hx : p.tables.exec = Jvm.exec) (hlk : meth.locks = false) {K N pc : Nat} {Ls : Array Slot} {z : UInt64} {rest : List Value} {Q : Option Value → Heap → List Loc → Prop} (hret : meth.sig.returnType = some .double)
    (hd : decode c.code pc = .ok (.dreturn, 1)) (hK : cells ≤ K) (hN : slots ≤ N) (hQ : Q (some (.double z)) T.heap locs) :
    own_G p.tables e below (fun o U' => ∃ v L, o = .returned v ∧ Q v U'.heap L ∧ FrameEnd s o U' L K N) (T.setTop (mkF m pc Ls (.double z :: rest))) :=
  own_ret X hx hlk hret rfl (Or.inr (Or.inr (Or.inl ⟨rfl, rfl, z, rfl⟩))) hd hK hN hQ
theorem own_cast {tb : Tables} {e : Env} {below : List Frame} {F : Outcome → State → Prop} {A B : State} (h : A = B) (k : own_G tb e below F B) : own_G tb e below F A := h ▸ k
def own_c (x y : UInt64) : Int32 := cmpValue (FP.dcmp x y) .l
def own_cg (x y : UInt64) : Int32 := cmpValue (FP.dcmp x y) .g
/-! own layer: bodies that load String constants: the Stand is over (s.setVm vm), ReturnedEndW ends them -/
theorem own_since0 (s : State) (n : Nat) : s.Since s.vm n := (State.WarmedH.refl s).since n
section OwnW
variable {p : Program} {l : Launch} {e : Env} {R : Room} {s : State} {vm : Vm} {m : MethodId} {args : Array Value} {below : List Frame} {meth : Method} {c : Code} {T : State} {locs : List Loc} {cells slots : Nat} {kk : Nat}
theorem own_retW (X : Stand p l e R (s.setVm vm) m args below meth c T locs cells slots) (hx : p.tables.exec = Jvm.exec) (hlk : meth.locks = false) (hS : s.Since vm kk) (hk : kk ≤ T.heap.size) {K N pc : Nat} {Ls : Array Slot} {w : Value} {t : FieldType} {i : Instr} {rest : List Value} {Q : Option Value → Heap → List Loc → Prop} (hret : meth.sig.returnType = some t) (hn : narrow t w = w)
    (hi : (i = .ireturn ∧ (t = .int ∨ t = .boolean ∨ t = .byte ∨ t = .char ∨ t = .short) ∧ ∃ z, w = .int z) ∨ (i = .lreturn ∧ t = .long ∧ ∃ z, w = .long z) ∨ (i = .dreturn ∧ t = .double ∧ ∃ z, w = .double z) ∨ (i = .freturn ∧ t = .float ∧ ∃ z, w = .float z) ∨ (i = .areturn ∧ t.isReference = true ∧ w.isRef = true))
    (hd : decode c.code pc = .ok (i, 1)) (hK : cells ≤ K) (hN : slots ≤ N) (hQ : Q (some w) T.heap locs) :
    own_G p.tables e below (fun o U' => ∃ v L, o = .returned v ∧ Q v U'.heap L ∧ ReturnedEndW s o U' L K N) (T.setTop (mkF m pc Ls (w :: rest))) := by
  obtain ⟨fs, hr, hrun, hended, a, b, d, f⟩ := X.leaveW hS hk (v := some w) (fun h => by rw [hret] at h; cases h) hlk
  exact ⟨_, _, retOut X hx hret hn hi hd hr, hrun, hended, _, _, rfl, hQ, a, b, d, f.mono hK hN⟩
theorem own_retWI (X : Stand p l e R (s.setVm vm) m args below meth c T locs cells slots) (hx : p.tables.exec = Jvm.exec) (hlk : meth.locks = false) (hS : s.Since vm kk) (hk : kk ≤ T.heap.size) {K N pc : Nat} {Ls : Array Slot} {z : Int32} {rest : List Value} {Q : Option Value → Heap → List Loc → Prop} (hret : meth.sig.returnType = some .int)
    (hd : decode c.code pc = .ok (.ireturn, 1)) (hK : cells ≤ K) (hN : slots ≤ N) (hQ : Q (some (.int z)) T.heap locs) :
    own_G p.tables e below (fun o U' => ∃ v L, o = .returned v ∧ Q v U'.heap L ∧ ReturnedEndW s o U' L K N) (T.setTop (mkF m pc Ls (.int z :: rest))) :=
  own_retW X hx hlk hS hk hret rfl (Or.inl ⟨rfl, Or.inl rfl, z, rfl⟩) hd hK hN hQ
theorem own_retWZ (X : Stand p l e R (s.setVm vm) m args below meth c T locs cells slots) (hx : p.tables.exec = Jvm.exec) (hlk : meth.locks = false) (hS : s.Since vm kk) (hk : kk ≤ T.heap.size) {K N pc : Nat} {Ls : Array Slot} {z : Int32} {rest : List Value} {Q : Option Value → Heap → List Loc → Prop} (hret : meth.sig.returnType = some .boolean)
    (hd : decode c.code pc = .ok (.ireturn, 1)) (hz : z = 0 ∨ z = 1) (hK : cells ≤ K) (hN : slots ≤ N) (hQ : Q (some (.int z)) T.heap locs) :
    own_G p.tables e below (fun o U' => ∃ v L, o = .returned v ∧ Q v U'.heap L ∧ ReturnedEndW s o U' L K N) (T.setTop (mkF m pc Ls (.int z :: rest))) :=
  own_retW X hx hlk hS hk hret (by rcases hz with rfl | rfl <;> rfl) (Or.inl ⟨rfl, Or.inr (Or.inl rfl), z, rfl⟩) hd hK hN hQ
theorem own_retWA (X : Stand p l e R (s.setVm vm) m args below meth c T locs cells slots) (hx : p.tables.exec = Jvm.exec) (hlk : meth.locks = false) (hS : s.Since vm kk) (hk : kk ≤ T.heap.size) {K N pc : Nat} {Ls : Array Slot} {w : Value} {t : FieldType} {rest : List Value} {Q : Option Value → Heap → List Loc → Prop} (hret : meth.sig.returnType = some t) (ht : t.isReference = true) (hw : w.isRef = true)
    (hd : decode c.code pc = .ok (.areturn, 1)) (hK : cells ≤ K) (hN : slots ≤ N) (hQ : Q (some w) T.heap locs) :
    own_G p.tables e below (fun o U' => ∃ v L, o = .returned v ∧ Q v U'.heap L ∧ ReturnedEndW s o U' L K N) (T.setTop (mkF m pc Ls (w :: rest))) :=
  own_retW X hx hlk hS hk hret (by cases t <;> first | (cases ht; done) | (rcases ref_cases hw with rfl | ⟨z, rfl⟩ <;> rfl)) (Or.inr (Or.inr (Or.inr (Or.inr ⟨rfl, ht, hw⟩)))) hd hK hN hQ
theorem own_retWV (X : Stand p l e R (s.setVm vm) m args below meth c T locs cells slots) (hx : p.tables.exec = Jvm.exec) (hlk : meth.locks = false) (hS : s.Since vm kk) (hk : kk ≤ T.heap.size) {K N pc : Nat} {Ls : Array Slot} {Q : Option Value → Heap → List Loc → Prop} (hret : meth.sig.returnType = none)
    (hd : decode c.code pc = .ok (.return_, 1)) (hK : cells ≤ K) (hN : slots ≤ N) (hQ : Q none T.heap locs) :
    own_G p.tables e below (fun o U' => ∃ v L, o = .returned v ∧ Q v U'.heap L ∧ ReturnedEndW s o U' L K N) (T.setTop (mkF m pc Ls [])) := by
  obtain ⟨fs, hr, hrun, hended, a, b, d, f⟩ := X.leaveW hS hk (v := none) (fun _ => rfl) hlk
  exact ⟨_, _, X.returnOut hx hret hd hr, hrun, hended, _, _, rfl, hQ, a, b, d, f.mono hK hN⟩
end OwnW
/-! own layer: int arrays of which only the length is known -/
def own_An (Z : State) (h : Heap) (a : Addr) (N : Nat) : Prop := ∃ c : Cell, Arr Z h a c .int ∧ c.slots.size = N
section OwnAn
variable {Z : State} {h h' : Heap} {a b : Addr} {N : Nat}
theorem own_An_new {cA : ClassId} {n : Int32} (A : Arr Z h a (newA cA .int n) .int) (hN : n.toNatClampNeg = N) : own_An Z h a N := ⟨_, A, by rw [sz_new, hN]⟩
theorem own_An_ext (F : own_An Z h a N) (E : Ext h h') : own_An Z h' a N := by obtain ⟨c, A, r⟩ := F; exact ⟨c, A.ext E, r⟩
theorem own_An_other {sl : Nat} {v : Value} (F : own_An Z h b N) (W : Wr h h' a sl v) (q : b ≠ a) : own_An Z h' b N := by obtain ⟨c, A, r⟩ := F; exact ⟨c, A.other W q, r⟩
theorem own_An_keep {ws : List Addr} (F : own_An Z h a N) (K : Keep h h' ws) (q : a ∉ ws) : own_An Z h' a N := by obtain ⟨c, A, r⟩ := F; exact ⟨c, ⟨K.2.1 a c A.1 q, A.2⟩, r⟩
theorem own_An_lt (F : own_An Z h a N) : a < h.size := by obtain ⟨c, A, -⟩ := F; exact A.lt
theorem own_An_same {i : Nat} {v : Value} (F : own_An Z h a N) (W : Wr h h' a i v) : own_An Z h' a N := by
  obtain ⟨c, A, r⟩ := F
  exact ⟨_, A.same W, by rw [sz_set]; exact r⟩
variable {p : Program} {l : Launch} {e : Env} {R : Room} {s : State} {m : MethodId} {args : Array Value} {below : List Frame} {meth : Method} {c : Code} {T : State} {locs : List Loc} {cells slots : Nat}
theorem own_stN (X : Stand p l e R s m args below meth c T locs cells slots) (hx : p.tables.exec = Jvm.exec) (hZ : Z.Warmed39 s.vm) (eT : T.heap = h) (F : own_An Z h a N) {j x : Int32} (hj : ¬ j < 0) (hl : j.toNatClampNeg < N)
    {g : JFrame} (hg : g.method = m) {rest : List Value} (hs : g.stack = .int x :: .int j :: .ref a :: rest) (hd : decode c.code g.pc = .ok (.iastore, 1)) :
    ∃ T' h', Stand p l e R s m args below meth c T' (locs ++ [⟨a, j.toNatClampNeg⟩]) cells slots ∧ T'.heap = h' ∧ Wr h h' a j.toNatClampNeg (.int x) ∧ own_An Z h' a N ∧ ∀ target, Steps p.tables e below (T'.setTop { g with pc := g.pc + 1, stack := rest }) target → Steps p.tables e below (T.setTop g) target := by
  obtain ⟨cl, A, r⟩ := F
  obtain ⟨T', h', X', e', W, st⟩ := stI X hx hZ eT A (fun q => q.elim hj (fun z => by rw [r] at z; exact absurd hl (Nat.not_lt.mpr z))) hg hs hd
  exact ⟨T', h', X', e', W, own_An_same ⟨cl, A, r⟩ W, st⟩
theorem own_alenN (X : Stand p l e R s m args below meth c T locs cells slots) (hx : p.tables.exec = Jvm.exec) (hZ : Z.Warmed39 s.vm) (eT : T.heap = h) (F : own_An Z h a N) {g : JFrame} (hg : g.method = m) {rest : List Value} (hs : g.stack = .ref a :: rest) (hd : decode c.code g.pc = .ok (.arraylength, 1)) :
    ∀ target, Steps p.tables e below (T.setTop { g with pc := g.pc + 1, stack := .int N.toInt32 :: rest }) target → Steps p.tables e below (T.setTop g) target := by
  obtain ⟨cl, A, r⟩ := F
  rw [← r]
  exact fun t k => X.arraylength hx (by rw [eT]; exact A.1) (State.isArrayOf_alike hZ.alike A.2.1) hg hs hd t k
end OwnAn
theorem own_notinst {Z : State} {a0 : Array Value} {O K : String} {n : Nat} (w : (Jvm.Cond.noSuperclass O).before a0 Z = true) (wi : (Jvm.Cond.instantiable K n).before a0 Z = true) (hn : O ≠ K) : NS Z O K := by
  obtain ⟨t, kt, g1, g2, -⟩ := Cond.instantiable_spec wi
  obtain ⟨c, k, h1, h2, h3, -⟩ := Cond.noSuperclass_spec w
  have hne : c ≠ t := ids_ne h1 g1 hn
  refine ⟨c, t, h1, g1, ?_⟩
  intro fuel
  induction fuel with
  | zero => rfl
  | succ f _ => simp [Vm.isSubclassAux, hne, h2, h3]
theorem own_noasg {Z : State} {a0 : Array Value} {C S K : String} {n : Nat} (w : (Jvm.Cond.superclass C S).before a0 Z = true) (wi : (Jvm.Cond.instantiable K n).before a0 Z = true) (q : NS Z C K) (hn : C ≠ K) : ∃ c t, Z.vm.findClass C = some c ∧ Z.vm.findClass K = some t ∧ Z.vm.assignable c t = false := by
  obtain ⟨c, t, h0, g0, n3⟩ := q
  obtain ⟨t', kt, g1, g2, g3, g4, -⟩ := Cond.instantiable_spec wi
  cases g0.symm.trans g1
  obtain ⟨p, k, kp, h1, h2, h3, h4, h5, -, h7⟩ := Cond.superclass_spec h0 w
  have hne : c ≠ t := ids_ne h0 g0 hn
  have g5 : kt.isInterface = false := by simp only [Bool.or_eq_false_iff] at g4; exact g4.1
  refine ⟨c, t, h0, g0, ?_⟩
  show Z.vm.assignableAux (255 + 1) c t = false
  simp [Vm.assignableAux, hne, h2, g2, h5, g3, g5, Vm.isSubclass, n3]
theorem own_selp {Z s : State} {a0 args : Array Value} {y : MethodName} {n : Nat} (hZ : Z.Warmed39 s.vm) (wi : (Jvm.Cond.instantiable y.cls n).before a0 Z = true) (wp : (Jvm.Cond.privateMethod y).before a0 Z = true) (wm : (Jvm.Cond.instanceMethod y).before a0 Z = true) (hy : y.cls ≠ "java/lang/invoke/MethodHandle" ∧ y.cls ≠ "java/lang/invoke/VarHandle") : (Jvm.Cond.selects y.cls y y).before args s = true := by
  obtain ⟨c, k, h1, h2, -, h4, -⟩ := Cond.instantiable_spec (mv (args := args) hZ wi)
  simp only [Bool.or_eq_false_iff] at h4
  exact selects_self_of_private h1 h2 h4.1 (Cond.privateMethod_at (mvP hZ wp (args := args))) (mv hZ wm) hy
/-! own layer: chars, bytes returned, a body that may read a String constant's text -/
theorem own_i2b (x : Int32) : nar .byte x.toInt8.toInt32 = x.toInt8.toInt32 := by simp [nar]
theorem own_i2c (x : Int32) : nar .char x.toUInt32.toUInt16.toUInt32.toInt32 = x.toUInt32.toUInt16.toUInt32.toInt32 := by
  have a := c_i2c x
  have b := c_i2c x.toUInt32.toUInt16.toUInt32.toInt32
  refine Int32.toInt_inj.mp ?_
  show (x.toUInt32.toUInt16.toUInt32.toInt32).toUInt32.toUInt16.toUInt32.toInt32.toInt = x.toUInt32.toUInt16.toUInt32.toInt32.toInt
  omega
theorem own_nwC {x : Int32} (h : nar .char x = x) : narrow .char (.int x) = .int x := by
  have q : narrow .char (.int x) = .int (nar .char x) := rfl
  rw [q, h]
section OwnChr
variable {Z : State} {h : Heap} {a : Addr} {L : List Value} {p : Program} {l : Launch} {e : Env} {R : Room} {s : State} {m : MethodId} {args : Array Value} {below : List Frame} {meth : Method} {c : Code} {T : State} {locs : List Loc} {cells slots : Nat}
theorem own_ldC (X : Stand p l e R s m args below meth c T locs cells slots) (hx : p.tables.exec = Jvm.exec) (hZ : Z.Warmed39 s.vm) (eT : T.heap = h) (F : own_Ar Z h a .char L) {j : Int32} {v : Value} (hj : ¬ j < 0) (hv : L[j.toNatClampNeg]? = some v)
    {g : JFrame} (hg : g.method = m) {rest : List Value} (hs : g.stack = .int j :: .ref a :: rest) (hd : decode c.code g.pc = .ok (.caload, 1)) :
    ∀ target, Steps p.tables e below (T.setTop { g with pc := g.pc + 1, stack := v :: rest }) target → Steps p.tables e below (T.setTop g) target := by
  obtain ⟨cl, A, r⟩ := F
  exact X.caload hx (by rw [eT]; exact A.1) (State.isArrayOf_alike hZ.alike A.2.1) A.2.2 (own_in_of r hj (own_lt_of hv)) (own_at_of r hv) hg hs hd
theorem own_stC (X : Stand p l e R s m args below meth c T locs cells slots) (hx : p.tables.exec = Jvm.exec) (hZ : Z.Warmed39 s.vm) (eT : T.heap = h) (F : own_Ar Z h a .char L) {j x : Int32} {i : Nat} (hi : j.toNatClampNeg = i) (hj : ¬ j < 0) (hl : i < L.length) (hn : nar .char x = x) {L' : List Value} (hL : L.set i (.int x) = L')
    {g : JFrame} (hg : g.method = m) {rest : List Value} (hs : g.stack = .int x :: .int j :: .ref a :: rest) (hd : decode c.code g.pc = .ok (.castore, 1)) :
    ∃ T' h', Stand p l e R s m args below meth c T' (locs ++ [⟨a, i⟩]) cells slots ∧ T'.heap = h' ∧ Wr h h' a i (.int x) ∧ own_Ar Z h' a .char L' ∧ ∀ target, Steps p.tables e below (T'.setTop { g with pc := g.pc + 1, stack := rest }) target → Steps p.tables e below (T.setTop g) target := by
  subst hi
  obtain ⟨cl, A, r⟩ := F
  obtain ⟨T', h', X', e', W, st⟩ := stC X hx hZ eT A (own_in_of r hj hl) hg hs hd
  rw [hn] at W
  exact ⟨T', h', X', e', W, own_Ar_same ⟨cl, A, r⟩ W hL, st⟩
theorem own_retB (X : Stand p l e R s m args below meth c T locs cells slots) (hx : p.tables.exec = Jvm.exec) (hlk : meth.locks = false) {K N pc : Nat} {Ls : Array Slot} {z : Int32} {rest : List Value} {Q : Option Value → Heap → List Loc → Prop} (hret : meth.sig.returnType = some .byte)
    (hd : decode c.code pc = .ok (.ireturn, 1)) (hz : narrow .byte (.int z) = .int z) (hK : cells ≤ K) (hN : slots ≤ N) (hQ : Q (some (.int z)) T.heap locs) :
    own_G p.tables e below (fun o U' => ∃ v L, o = .returned v ∧ Q v U'.heap L ∧ FrameEnd s o U' L K N) (T.setTop (mkF m pc Ls (.int z :: rest))) :=
  own_ret X hx hlk hret hz (Or.inl ⟨rfl, Or.inr (Or.inr (Or.inl rfl)), z, rfl⟩) hd hK hN hQ
theorem own_retC (X : Stand p l e R s m args below meth c T locs cells slots) (hx : p.tables.exec = Jvm.exec) (hlk : meth.locks = false) {K N pc : Nat} {Ls : Array Slot} {z : Int32} {rest : List Value} {Q : Option Value → Heap → List Loc → Prop} (hret : meth.sig.returnType = some .char)
    (hd : decode c.code pc = .ok (.ireturn, 1)) (hz : narrow .char (.int z) = .int z) (hK : cells ≤ K) (hN : slots ≤ N) (hQ : Q (some (.int z)) T.heap locs) :
    own_G p.tables e below (fun o U' => ∃ v L, o = .returned v ∧ Q v U'.heap L ∧ FrameEnd s o U' L K N) (T.setTop (mkF m pc Ls (.int z :: rest))) :=
  own_ret X hx hlk hret hz (Or.inl ⟨rfl, Or.inr (Or.inr (Or.inr (Or.inl rfl))), z, rfl⟩) hd hK hN hQ
end OwnChr
/-! the one constant that is read: the empty text -/
def own_EL : List (String × Nat) := [("java/lang/String", 7)]
theorem own_mem : (("java/lang/String", 7) : String × Nat) ∈ own_EL := List.mem_cons_self
theorem own_ht : (∀ c ∈ "".toList, c.toNat < 256) ∧ "".toList.map (fun c => Value.int (Jvm.Lit.byteI c.toNat.toUInt16)) = [] := ⟨fun c hc => by simp at hc, by simp⟩
theorem own_EW {Z : State} {a0 : Array Value} (w : (Jvm.Cond.stringLink "java/lang/String" 7 "").before a0 Z = true) : EW Z a0 own_EL := EW.cons w own_ht.1 EW.nil
theorem own_sfnew {Z : State} {EL : List (String × Nat)} {vm : Vm} {h h' : Heap} {a : Addr} (E : Ext h h') (H : CHv Z EL vm h) (ha : a = h.size) : Safe Z EL vm h' a := Safe.ext E H (Safe.new (Nat.le_of_eq ha.symm))
section OwnCH
variable {p : Program} {l : Launch} {e : Env} {R : Room} {s : State} {m : MethodId} {args : Array Value} {below : List Frame} {meth : Method} {c : Code} {T : State} {locs : List Loc} {cells slots : Nat} {Z : State} {a0 : Array Value} {EL : List (String × Nat)} {h : Heap} {vm0 : Vm}
theorem own_chx (X : Stand p l e R (s.setVm vm0) m args below meth c T locs cells slots) (hZ : Z.Warmed39 vm0) (w : EW Z a0 EL) (H : CHv Z EL vm0 h) {x : Addr} (hx : x < h.size) (S : Safe Z EL vm0 h x) : CHv Z EL T.vm h ∧ Safe Z EL T.vm h x :=
  have A := CHv.at X hZ w H
  ⟨A.1, A.safe hx S⟩
/-- a callee whose law asks one thing more of the tables at its start -/
theorem own_backOfSP {P' : Vm → Prop} {y : MethodName} {bytes : ByteArray} {maxL : Nat} {ret : Option FieldType} {rm : Room} {len W : Nat} {as' : Array Value} {Q : Option Value → Heap → List Loc → Prop}
    (hM : MetFree l y (head1 [Jvm.Cond.code y bytes maxL ret] rm) (fun a U => a = as' ∧ Z.Warmed39 U.vm ∧ U.heap = h ∧ P' U.vm) (fun _ _ _ _ _ => True) (fun _ U o U' => ∃ v L, o = .returned v ∧ Q v U'.heap L ∧ ReturnedEndW U o U' L rm.cells rm.slots))
    (hZ : Z.Warmed39 s.vm) (wc : (Jvm.Cond.code y bytes maxL ret).before a0 Z = true) (wz : (Jvm.Cond.initialized y.cls).before a0 Z = true) (hf : rm.frames + 1 ≤ R.frames) (hl : W + (maxL + 11) + rm.locals ≤ R.locals)
    (hP : ∀ {m : MethodId} {meth : Method} {c : Code} {T : State} {locs : List Loc} {cells slots : Nat}, Stand p l e R s m args below meth c T locs cells slots → P' T.vm) :
    BackS l R p e below s args y len W (fun A a => a = as' ∧ A.U.heap = h ∧ A.cells + rm.cells ≤ R.cells ∧ A.slots + rm.slots ≤ R.slots)
      (fun A _ v B => ∃ L, Q v B.U.heap L ∧ B.locs = A.locs ++ L ∧ B.cells = A.cells + rm.cells ∧ B.slots = A.slots + rm.slots) := by
  refine BackS.of_freeW (bytes := bytes) (maxL := maxL) (ret := ret) (E := fun _ _ o t L k n => (k = rm.cells ∧ n = rm.slots) ∧ ∃ v, o = .returned v ∧ Q v t.heap L) hM hf hl ?_ ?_ ?_ ?_ ?_
  · intro m meth c A a Y hp
    have hU : Z.Warmed39 A.U.vm := wtrans hZ Y.warmed
    refine ⟨?_, mv hU wc, mv hU wz, hp.2.2.1, hp.2.2.2⟩
    show (Jvm.Cond.and _ .tt).before a A.U = true
    rw [Cond.before_and, mv hU wc]
    rfl
  · intro m meth c A a g mk Y hp
    have q : P' A.U.vm := hP Y
    exact ⟨hp.1, wtrans hZ Y.warmed, hp.2.1, q⟩
  · intros
    trivial
  · rintro _ _ _ _ ⟨v, L, h1, h2, h3⟩
    exact ⟨L, _, _, h3, ⟨rfl, rfl⟩, v, h1, h2⟩
  · rintro m meth c A a g mk v t L k n Y hp - - ⟨⟨rfl, rfl⟩, v', e3, e4⟩
    cases e3
    exact ⟨L, e4, rfl, rfl, rfl⟩
end OwnCH
/-! a String's length by its bytes and its coder -/
def own_sl (L : List Value) (cd nn : Int32) : Prop := narrow .byte (.int cd) = .int cd ∧ (L.length.toInt32 >>> (cd &&& 31)) = nn
theorem own_sl_of {L : List Value} {n : Nat} {cd nn : Int32} (h : L.length = n) (h1 : narrow .byte (.int cd) = .int cd) (h2 : (n.toInt32 >>> (cd &&& 31)) = nn) : own_sl L cd nn := ⟨h1, by rw [h]; exact h2⟩
theorem own_chr {x : Int32} (h : nar .char x = x) : 0 ≤ x.toInt ∧ x.toInt < 65536 := by
  have q := c_i2c x
  have e : x.toUInt32.toUInt16.toUInt32.toInt32 = x := h
  rw [e] at q
  exact q.2
theorem own_gc {x : Int32} (h : nar .char x = x) (h2 : (255 : Int32) < x) : (255 : Int32) < (((((x >>> ((0 : Int32) &&& 31)).toInt8.toInt32 &&& (255 : Int32)) <<< ((0 : Int32) &&& 31)) ||| (((x >>> ((8 : Int32) &&& 31)).toInt8.toInt32 &&& (255 : Int32)) <<< ((8 : Int32) &&& 31))).toUInt32.toUInt16.toUInt32.toInt32) := by
  have r := own_chr h
  rw [Int32.lt_iff_toInt_lt] at h2 ⊢
  have e0 : (255 : Int32).toInt = 255 := by decide
  rw [e0] at h2 ⊢
  have s8 := c_ishr x (8 : Int32) 8 (by decide)
  generalize x >>> ((8 : Int32) &&& 31) = hi at s8 ⊢
  have b8 := c_i2b hi
  generalize hi.toInt8.toInt32 = hb at b8 ⊢
  have m8 := c_mask hb (255 : Int32) 8 (by decide) (by decide)
  generalize hb &&& (255 : Int32) = hm at m8 ⊢
  have l8 := c_ishl hm (8 : Int32) 8 (by decide)
  generalize hm <<< ((8 : Int32) &&& 31) = B at l8 ⊢
  have b0 := c_i2b (x >>> ((0 : Int32) &&& 31))
  generalize (x >>> ((0 : Int32) &&& 31)).toInt8.toInt32 = lb at b0 ⊢
  have m0 := c_mask lb (255 : Int32) 8 (by decide) (by decide)
  generalize lb &&& (255 : Int32) = lm at m0 ⊢
  have l0 := c_ishl lm (0 : Int32) 0 (by decide)
  generalize lm <<< ((0 : Int32) &&& 31) = A at l0 ⊢
  have rA := rng32 A
  have rB := rng32 B
  have o := c_or' A B 8 (by decide) 256 (by decide)
  generalize hO : A ||| B = O at o ⊢
  have rO := rng32 O
  have c := c_i2c O
  generalize O.toUInt32.toUInt16.toUInt32.toInt32 = C at c ⊢
  have p8 : ((2 ^ 8 : Nat) : Int) = 256 := by decide
  have p0 : ((2 ^ 0 : Nat) : Int) = 1 := by decide
  rw [p8] at s8 m8 l8 m0
  rw [p0] at l0
  have hB : B.toInt = hm.toInt * 256 := by omega
  have hA : A.toInt = lm.toInt := by omega
  have o2 := o (by omega) (by omega) (by omega)
  omega
abbrev own_y1 : MethodName := ⟨"java/lang/StringUTF16", "newBytesLength", "(I)I"⟩
abbrev own_y2 : MethodName := ⟨"java/lang/StringUTF16", "newBytesFor", "(I)[B"⟩
abbrev own_y3 : MethodName := ⟨"java/lang/StringUTF16", "putChar", "([BII)V"⟩
abbrev own_y4 : MethodName := ⟨"java/lang/StringUTF16", "compress", "([CI[BII)I"⟩
abbrev own_y5 : MethodName := ⟨"java/lang/StringUTF16", "toBytes", "([CII)[B"⟩
abbrev own_y6 : MethodName := ⟨"java/lang/StringUTF16", "getChar", "([BI)C"⟩
abbrev own_y7 : MethodName := ⟨"java/lang/StringUTF16", "compress", "([CII)[B"⟩
abbrev own_y8 : MethodName := ⟨"java/lang/StringUTF16", "coderFromArrayLen", "([BI)B"⟩
abbrev own_y9 : MethodName := ⟨"java/lang/String", "<init>", "([CIILjava/lang/Void;)V"⟩
abbrev own_y10 : MethodName := ⟨"java/lang/StringLatin1", "canEncode", "(C)Z"⟩
abbrev own_y11 : MethodName := ⟨"java/lang/StringUTF16", "toBytes", "(C)[B"⟩
abbrev own_y12 : MethodName := ⟨"java/lang/String", "<init>", "([BB)V"⟩
abbrev own_y13 : MethodName := ⟨"java/lang/StringLatin1", "toBytes", "(C)[B"⟩
abbrev own_y14 : MethodName := ⟨"java/lang/String", "coder", "()B"⟩
abbrev own_y15 : MethodName := ⟨"java/lang/String", "length", "()I"⟩
abbrev own_y16 : MethodName := ⟨"java/lang/String", "<init>", "([C)V"⟩
abbrev own_y17 : MethodName := ⟨"java/lang/String", "valueOf", "(C)Ljava/lang/String;"⟩
abbrev own_y18 : MethodName := ⟨"com/example/uni_lock/unilock/Request", "wordBytes", "(Ljava/lang/String;)J"⟩
theorem own_pd1 : parseMethodDescriptor "(I)I" = some ⟨[.int], (some .int)⟩ := by decide +kernel
theorem own_pd2 : parseMethodDescriptor "(I)[B" = some ⟨[.int], (some (.array .byte))⟩ := by decide +kernel
theorem own_pd3 : parseMethodDescriptor "([BII)V" = some ⟨[(.array .byte), .int, .int], none⟩ := by decide +kernel
theorem own_pd4 : parseMethodDescriptor "([CI[BII)I" = some ⟨[(.array .char), .int, (.array .byte), .int, .int], (some .int)⟩ := by decide +kernel
theorem own_pd5 : parseMethodDescriptor "([CII)[B" = some ⟨[(.array .char), .int, .int], (some (.array .byte))⟩ := by decide +kernel
theorem own_pd6 : parseMethodDescriptor "([BI)C" = some ⟨[(.array .byte), .int], (some .char)⟩ := by decide +kernel
theorem own_pd7 : parseMethodDescriptor "([BI)B" = some ⟨[(.array .byte), .int], (some .byte)⟩ := by decide +kernel
theorem own_pd8 : parseMethodDescriptor "([CIILjava/lang/Void;)V" = some ⟨[(.array .char), .int, .int, (.object "java/lang/Void")], none⟩ := by decide +kernel
theorem own_pd9 : parseMethodDescriptor "(C)Z" = some ⟨[.char], (some .boolean)⟩ := by decide +kernel
theorem own_pd10 : parseMethodDescriptor "(C)[B" = some ⟨[.char], (some (.array .byte))⟩ := by decide +kernel
theorem own_pd11 : parseMethodDescriptor "([BB)V" = some ⟨[(.array .byte), .byte], none⟩ := by decide +kernel
theorem own_pd12 : parseMethodDescriptor "()B" = some ⟨[], (some .byte)⟩ := by decide +kernel
theorem own_pd13 : parseMethodDescriptor "()I" = some ⟨[], (some .int)⟩ := by decide +kernel
theorem own_pd14 : parseMethodDescriptor "([C)V" = some ⟨[(.array .char)], none⟩ := by decide +kernel
theorem own_pd15 : parseMethodDescriptor "(C)Ljava/lang/String;" = some ⟨[.char], (some (.object "java/lang/String"))⟩ := by decide +kernel
theorem own_pd16 : parseMethodDescriptor "(Ljava/lang/String;)J" = some ⟨[(.object "java/lang/String")], (some .long)⟩ := by decide +kernel
theorem own_hws {Z : State} {a0 : Array Value} (hw : ∀ d ∈ tables_1, d.before a0 Z = true) : ∀ a ∈ Bundle.stringAtoms, a.before a0 Z = true := by
  intro a ha
  simp only [Bundle.stringAtoms, List.mem_cons, List.not_mem_nil, or_false] at ha
  rcases ha with rfl | rfl | rfl | rfl | rfl | rfl | rfl
  · exact hw _ (List.mem_of_getElem? (i := 3) rfl)
  · exact hw _ (List.mem_of_getElem? (i := 2) rfl)
  · exact hw _ (List.mem_of_getElem? (i := 16) rfl)
  · exact hw _ (List.mem_of_getElem? (i := 17) rfl)
  · exact hw _ (List.mem_of_getElem? (i := 18) rfl)
  · exact hw _ (List.mem_of_getElem? (i := 19) rfl)
  · exact hw _ (List.mem_of_getElem? (i := 20) rfl)

theorem own_len1 {x : Value} : ([x].length.toInt32 >>> ((0 : Int32) &&& 31)) = (1 : Int32) := by show ((1 : Nat).toInt32 >>> ((0 : Int32) &&& 31)) = (1 : Int32); decide
theorem own_len2 {x y : Value} : ([x, y].length.toInt32 >>> ((1 : Int32) &&& 31)) = (1 : Int32) := by show ((2 : Nat).toInt32 >>> ((1 : Int32) &&& 31)) = (1 : Int32); decide

theorem own_pc1_0_d0 : decode jdk_52_method_4_code 0 = .ok (.getstatic 44, 3) := by decide +kernel
theorem own_pc1_0_d3 : decode jdk_52_method_4_code 3 = .ok (.ifCond .ne 25, 3) := by decide +kernel
theorem own_pc1_0_d28 : decode jdk_52_method_4_code 28 = .ok (.iload_n 1, 1) := by decide +kernel
theorem own_pc1_0_d29 : decode jdk_52_method_4_code 29 = .ok (.iconst 1, 1) := by decide +kernel
theorem own_pc1_0_d30 : decode jdk_52_method_4_code 30 = .ok (.ishl, 1) := by decide +kernel
theorem own_pc1_0_d31 : decode jdk_52_method_4_code 31 = .ok (.istore_n 1, 1) := by decide +kernel
theorem own_pc1_0_d32 : decode jdk_52_method_4_code 32 = .ok (.aload_n 0, 1) := by decide +kernel
theorem own_pc1_0_d33 : decode jdk_52_method_4_code 33 = .ok (.iload_n 1, 1) := by decide +kernel
theorem own_pc1_0_d34 : decode jdk_52_method_4_code 34 = .ok (.iinc 1 1, 3) := by decide +kernel
theorem own_pc1_0_d37 : decode jdk_52_method_4_code 37 = .ok (.iload_n 2, 1) := by decide +kernel
theorem own_pc1_0_d38 : decode jdk_52_method_4_code 38 = .ok (.getstatic 59, 3) := by decide +kernel
theorem own_pc1_0_d41 : decode jdk_52_method_4_code 41 = .ok (.ishr, 1) := by decide +kernel
theorem own_pc1_0_d42 : decode jdk_52_method_4_code 42 = .ok (.i2b, 1) := by decide +kernel
theorem own_pc1_0_d43 : decode jdk_52_method_4_code 43 = .ok (.bastore, 1) := by decide +kernel
theorem own_pc1_0_d44 : decode jdk_52_method_4_code 44 = .ok (.aload_n 0, 1) := by decide +kernel
theorem own_pc1_0_d45 : decode jdk_52_method_4_code 45 = .ok (.iload_n 1, 1) := by decide +kernel
theorem own_pc1_0_d46 : decode jdk_52_method_4_code 46 = .ok (.iload_n 2, 1) := by decide +kernel
theorem own_pc1_0_d47 : decode jdk_52_method_4_code 47 = .ok (.getstatic 63, 3) := by decide +kernel
theorem own_pc1_0_d50 : decode jdk_52_method_4_code 50 = .ok (.ishr, 1) := by decide +kernel
theorem own_pc1_0_d51 : decode jdk_52_method_4_code 51 = .ok (.i2b, 1) := by decide +kernel
theorem own_pc1_0_d52 : decode jdk_52_method_4_code 52 = .ok (.bastore, 1) := by decide +kernel
theorem own_pc1_0_d53 : decode jdk_52_method_4_code 53 = .ok (.return_, 1) := by decide +kernel
theorem own_pc1_0_pn : plainName "java/lang/StringUTF16" = true := by first | (simp [plainName, overriddenIn]; done) | decide +kernel
theorem own_pc1_0_ef (m : MethodId) (pb : Addr) (pch : Int32) : entryFrame m #[(.ref pb), (.int (0 : Int32)), (.int pch)] 3 = mkF m 0 #[rv pb, iv (0 : Int32), iv pch] [] := by first | (simp [entryFrame, mkF, argsToLocals, Value.category]; done) | rfl
def own_pc1_0_Q (Z : State) (pb : Addr) (pch : Int32) (x0 x1 : Int32) (h0 : Heap) (n0 : Nat) (v : Option Value) (h : Heap) (L : List Loc) : Prop := v = none ∧ Fr n0 L ∧ Keep h0 h [pb] ∧ own_Ar Z h pb .byte [(.int ((pch >>> ((0 : Int32) &&& 31)).toInt8.toInt32)), (.int ((pch >>> ((8 : Int32) &&& 31)).toInt8.toInt32))]
set_option maxRecDepth 65536 in
set_option maxHeartbeats 40000000 in
theorem own_pc1_0 (l : Launch) (Z : State) (a0 : Array Value) (hw : ∀ d ∈ tables_1, d.before a0 Z = true) (ws : List Jvm.Cond) (pb : Addr) (pch : Int32) (x0 x1 : Int32) (h0 : Heap) (n0 : Nat) (Z0 : n0 ≤ h0.size) (g0 : n0 ≤ pb) (V0 : own_Ar Z h0 pb .byte [(.int x0), (.int x1)]) (hSa : Sta Z h0 "java/lang/StringUTF16" "$assertionsDisabled" "Z" (.int (1 : Int32))) (hSh : Sta Z h0 "java/lang/StringUTF16" "HI_BYTE_SHIFT" "I" (.int (0 : Int32))) (hSl : Sta Z h0 "java/lang/StringUTF16" "LO_BYTE_SHIFT" "I" (.int (8 : Int32))) :
    MetFree l own_y3 (head1 (Jvm.Cond.code own_y3 jdk_52_method_4_code 3 none :: ws) ({ frames := 0, cells := 0, slots := 0, locals := 0 } : Room)) (fun a U => a = #[(.ref pb), (.int (0 : Int32)), (.int pch)] ∧ Z.Warmed39 U.vm ∧ U.heap = h0) (fun _ _ _ _ _ => True) (fun _ U o U' => ∃ v L, o = .returned v ∧ (own_pc1_0_Q Z pb pch x0 x1 h0 n0) v U'.heap L ∧ FrameEnd U o U' L ({ frames := 0, cells := 0, slots := 0, locals := 0 } : Room).cells ({ frames := 0, cells := 0, slots := 0, locals := 0 } : Room).slots) := by
  refine MetFree.of_bodySF (plainFor_of_name own_pc1_0_pn) hisR ?_
  intro p e s m args below meth c s₁ Bd hml0 hP hK
  obtain ⟨rfl, hZ, hh⟩ := hP
  have hx := Bd.exec
  have hby := Bd.bytes
  have hml : c.maxLocals = 3 := hml0
  have hown : s.vm.findClass "java/lang/StringUTF16" = some m.cls := findClass_of_methodNamed Bd.named
  have hnm := (name_of_methodNamed Bd.named Bd.method).1
  have hlk : meth.locks = false := Bd.notSynchronized
  have X0 : Stand p l e ({ frames := 0, cells := 0, slots := 0, locals := 0 } : Room) s m #[(.ref pb), (.int (0 : Int32)), (.int pch)] below meth c s₁ [] 0 0 := Stand.of_body Bd
  have e0 : s₁.heap = h0 := by rw [← hh, Bd.state]; rfl
  have N0 := Fr.nil n0
  have w_73 := hw _ (List.mem_of_getElem? (l := tables_1) (i := 73) rfl)
  have w_74 := hw _ (List.mem_of_getElem? (l := tables_1) (i := 74) rfl)
  have w_75 := hw _ (List.mem_of_getElem? (l := tables_1) (i := 75) rfl)
  show own_G p.tables e below (fun o U' => ∃ v L, o = .returned v ∧ (own_pc1_0_Q Z pb pch x0 x1 h0 n0) v U'.heap L ∧ FrameEnd s o U' L ({ frames := 0, cells := 0, slots := 0, locals := 0 } : Room).cells ({ frames := 0, cells := 0, slots := 0, locals := 0 } : Room).slots) (s₁.setTop (entryFrame m #[(.ref pb), (.int (0 : Int32)), (.int pch)] 3))
  refine own_go (B := s₁.setTop (mkF m 0 #[rv pb, iv (0 : Int32), iv pch] [])) (fun t k => castTop (own_pc1_0_ef m pb pch) k) ?_
  have K0 := Keep.refl h0 [pb]
  obtain ⟨T1, X1, e1, st1⟩ := getS X0 hx hZ hown (host := "") w_73 Via.refl e0 hSa (g := (mkF m 0 #[rv pb, iv (0 : Int32), iv pch] [])) rfl (hb hby own_pc1_0_d0)
  refine own_go (B := (T1.setTop (mkF m 3 #[rv pb, iv (0 : Int32), iv pch] [(.int (1 : Int32))]))) st1 ?_
  have hc3 : ¬ (1 : Int32) = (0 : Int32) := (by decide)
  refine own_ifY X1 hx (hb hby own_pc1_0_d3) (pc' := 28) (by decide) (by decide) hc3 ?_
  refine own_go (B := (T1.setTop (mkF m 29 #[rv pb, iv (0 : Int32), iv pch] [(.int (0 : Int32))]))) (fun t k => XS.iloadN X1.here hx rfl (hb hby own_pc1_0_d28) rfl k) ?_
  refine own_go (B := (T1.setTop (mkF m 30 #[rv pb, iv (0 : Int32), iv pch] [(.int (1 : Int32)), (.int (0 : Int32))]))) (fun t k => own_iconst (v := (1 : Int32)) X1.here hx rfl (hb hby own_pc1_0_d29) (by decide) k) ?_
  refine own_go (B := (T1.setTop (mkF m 31 #[rv pb, iv (0 : Int32), iv pch] [(.int ((0 : Int32) <<< ((1 : Int32) &&& 31)))]))) (fun t k => XS.ishl (x := (0 : Int32)) (y := (1 : Int32)) X1.here hx rfl (hb hby own_pc1_0_d30) rfl k) ?_
  rw [show ((0 : Int32) <<< ((1 : Int32) &&& 31)) = (0 : Int32) from by decide]
  refine own_go (B := (T1.setTop (mkF m 32 #[rv pb, iv (0 : Int32), iv pch] []))) (fun t k => XS.istoreN X1.here hx rfl (hb hby own_pc1_0_d31) rfl (l' := #[rv pb, iv (0 : Int32), iv pch]) rfl k) ?_
  refine own_go (B := (T1.setTop (mkF m 33 #[rv pb, iv (0 : Int32), iv pch] [(.ref pb)]))) (fun t k => XS.aloadN X1.here hx rfl (hb hby own_pc1_0_d32) rfl rfl k) ?_
  refine own_go (B := (T1.setTop (mkF m 34 #[rv pb, iv (0 : Int32), iv pch] [(.int (0 : Int32)), (.ref pb)]))) (fun t k => XS.iloadN X1.here hx rfl (hb hby own_pc1_0_d33) rfl k) ?_
  refine own_go (B := (T1.setTop (mkF m 37 #[rv pb, iv (1 : Int32), iv pch] [(.int (0 : Int32)), (.ref pb)]))) (fun t k => XS.iinc X1.here hx rfl (hb hby own_pc1_0_d34) rfl (l' := #[rv pb, iv (1 : Int32), iv pch]) rfl k) ?_
  refine own_go (B := (T1.setTop (mkF m 38 #[rv pb, iv (1 : Int32), iv pch] [(.int pch), (.int (0 : Int32)), (.ref pb)]))) (fun t k => XS.iloadN X1.here hx rfl (hb hby own_pc1_0_d37) rfl k) ?_
  obtain ⟨T2, X2, e2, st2⟩ := getS X1 hx hZ hown (host := "") w_74 Via.refl e1 hSh (g := (mkF m 38 #[rv pb, iv (1 : Int32), iv pch] [(.int pch), (.int (0 : Int32)), (.ref pb)])) rfl (hb hby own_pc1_0_d38)
  refine own_go (B := (T2.setTop (mkF m 41 #[rv pb, iv (1 : Int32), iv pch] [(.int (0 : Int32)), (.int pch), (.int (0 : Int32)), (.ref pb)]))) st2 ?_
  refine own_go (B := (T2.setTop (mkF m 42 #[rv pb, iv (1 : Int32), iv pch] [(.int (pch >>> ((0 : Int32) &&& 31))), (.int (0 : Int32)), (.ref pb)]))) (fun t k => XS.ishr (x := pch) (y := (0 : Int32)) X2.here hx rfl (hb hby own_pc1_0_d41) rfl k) ?_
  refine own_go (B := (T2.setTop (mkF m 43 #[rv pb, iv (1 : Int32), iv pch] [(.int ((pch >>> ((0 : Int32) &&& 31)).toInt8.toInt32)), (.int (0 : Int32)), (.ref pb)]))) (fun t k => XS.i2b X2.here hx rfl (hb hby own_pc1_0_d42) rfl k) ?_
  obtain ⟨T3, h3, X3, e3, W3, V3, st3⟩ := own_stB X2 hx hZ e2 V0 (i := 0) (by decide) (by decide) (Nat.lt_of_lt_of_eq (by decide : 0 < 2) rfl) (own_i2b _) (L' := [(.int ((pch >>> ((0 : Int32) &&& 31)).toInt8.toInt32)), (.int x1)]) rfl (g := (mkF m 43 #[rv pb, iv (1 : Int32), iv pch] [(.int ((pch >>> ((0 : Int32) &&& 31)).toInt8.toInt32)), (.int (0 : Int32)), (.ref pb)])) rfl rfl (hb hby own_pc1_0_d43)
  refine own_go (B := (T3.setTop (mkF m 44 #[rv pb, iv (1 : Int32), iv pch] []))) st3 ?_
  obtain ⟨L3, X3, N3⟩ := own_abs X3 (Fr.snoc X3 N0 g0)
  have F4 : n0 ≤ h3.size := by rw [W3.size]; exact Z0
  have F5 := Keep.wr K0 W3 (Or.inl (List.mem_of_getElem? (i := 0) rfl))
  have F7 := Sta.wr W3 hSa
  have F8 := Sta.wr W3 hSh
  have F9 := Sta.wr W3 hSl
  refine own_go (B := (T3.setTop (mkF m 45 #[rv pb, iv (1 : Int32), iv pch] [(.ref pb)]))) (fun t k => XS.aloadN X3.here hx rfl (hb hby own_pc1_0_d44) rfl rfl k) ?_
  refine own_go (B := (T3.setTop (mkF m 46 #[rv pb, iv (1 : Int32), iv pch] [(.int (1 : Int32)), (.ref pb)]))) (fun t k => XS.iloadN X3.here hx rfl (hb hby own_pc1_0_d45) rfl k) ?_
  refine own_go (B := (T3.setTop (mkF m 47 #[rv pb, iv (1 : Int32), iv pch] [(.int pch), (.int (1 : Int32)), (.ref pb)]))) (fun t k => XS.iloadN X3.here hx rfl (hb hby own_pc1_0_d46) rfl k) ?_
  obtain ⟨T10, X10, e10, st10⟩ := getS X3 hx hZ hown (host := "") w_75 Via.refl e3 F9 (g := (mkF m 47 #[rv pb, iv (1 : Int32), iv pch] [(.int pch), (.int (1 : Int32)), (.ref pb)])) rfl (hb hby own_pc1_0_d47)
  refine own_go (B := (T10.setTop (mkF m 50 #[rv pb, iv (1 : Int32), iv pch] [(.int (8 : Int32)), (.int pch), (.int (1 : Int32)), (.ref pb)]))) st10 ?_
  refine own_go (B := (T10.setTop (mkF m 51 #[rv pb, iv (1 : Int32), iv pch] [(.int (pch >>> ((8 : Int32) &&& 31))), (.int (1 : Int32)), (.ref pb)]))) (fun t k => XS.ishr (x := pch) (y := (8 : Int32)) X10.here hx rfl (hb hby own_pc1_0_d50) rfl k) ?_
  refine own_go (B := (T10.setTop (mkF m 52 #[rv pb, iv (1 : Int32), iv pch] [(.int ((pch >>> ((8 : Int32) &&& 31)).toInt8.toInt32)), (.int (1 : Int32)), (.ref pb)]))) (fun t k => XS.i2b X10.here hx rfl (hb hby own_pc1_0_d51) rfl k) ?_
  obtain ⟨T11, h11, X11, e11, W11, V11, st11⟩ := own_stB X10 hx hZ e10 V3 (i := 1) (by decide) (by decide) (Nat.lt_of_lt_of_eq (by decide : 1 < 2) rfl) (own_i2b _) (L' := [(.int ((pch >>> ((0 : Int32) &&& 31)).toInt8.toInt32)), (.int ((pch >>> ((8 : Int32) &&& 31)).toInt8.toInt32))]) rfl (g := (mkF m 52 #[rv pb, iv (1 : Int32), iv pch] [(.int ((pch >>> ((8 : Int32) &&& 31)).toInt8.toInt32)), (.int (1 : Int32)), (.ref pb)])) rfl rfl (hb hby own_pc1_0_d52)
  refine own_go (B := (T11.setTop (mkF m 53 #[rv pb, iv (1 : Int32), iv pch] []))) st11 ?_
  obtain ⟨L11, X11, N11⟩ := own_abs X11 (Fr.snoc X11 N3 g0)
  have F12 : n0 ≤ h11.size := by rw [W11.size]; exact F4
  have F13 := Keep.wr F5 W11 (Or.inl (List.mem_of_getElem? (i := 0) rfl))
  have F15 := Sta.wr W11 F7
  have F16 := Sta.wr W11 F8
  have F17 := Sta.wr W11 F9
  exact own_retV X11 hx hlk Bd.returns (hb hby own_pc1_0_d53) (own_b rfl) (own_b rfl) (Q := (own_pc1_0_Q Z pb pch x0 x1 h0 n0)) (by rw [e11]; exact ⟨rfl, N11, F13, V11⟩)

theorem own_pc2_0_d0 : decode jdk_52_method_4_code 0 = .ok (.getstatic 44, 3) := by decide +kernel
theorem own_pc2_0_d3 : decode jdk_52_method_4_code 3 = .ok (.ifCond .ne 25, 3) := by decide +kernel
theorem own_pc2_0_d28 : decode jdk_52_method_4_code 28 = .ok (.iload_n 1, 1) := by decide +kernel
theorem own_pc2_0_d29 : decode jdk_52_method_4_code 29 = .ok (.iconst 1, 1) := by decide +kernel
theorem own_pc2_0_d30 : decode jdk_52_method_4_code 30 = .ok (.ishl, 1) := by decide +kernel
theorem own_pc2_0_d31 : decode jdk_52_method_4_code 31 = .ok (.istore_n 1, 1) := by decide +kernel
theorem own_pc2_0_d32 : decode jdk_52_method_4_code 32 = .ok (.aload_n 0, 1) := by decide +kernel
theorem own_pc2_0_d33 : decode jdk_52_method_4_code 33 = .ok (.iload_n 1, 1) := by decide +kernel
theorem own_pc2_0_d34 : decode jdk_52_method_4_code 34 = .ok (.iinc 1 1, 3) := by decide +kernel
theorem own_pc2_0_d37 : decode jdk_52_method_4_code 37 = .ok (.iload_n 2, 1) := by decide +kernel
theorem own_pc2_0_d38 : decode jdk_52_method_4_code 38 = .ok (.getstatic 59, 3) := by decide +kernel
theorem own_pc2_0_d41 : decode jdk_52_method_4_code 41 = .ok (.ishr, 1) := by decide +kernel
theorem own_pc2_0_d42 : decode jdk_52_method_4_code 42 = .ok (.i2b, 1) := by decide +kernel
theorem own_pc2_0_d43 : decode jdk_52_method_4_code 43 = .ok (.bastore, 1) := by decide +kernel
theorem own_pc2_0_d44 : decode jdk_52_method_4_code 44 = .ok (.aload_n 0, 1) := by decide +kernel
theorem own_pc2_0_d45 : decode jdk_52_method_4_code 45 = .ok (.iload_n 1, 1) := by decide +kernel
theorem own_pc2_0_d46 : decode jdk_52_method_4_code 46 = .ok (.iload_n 2, 1) := by decide +kernel
theorem own_pc2_0_d47 : decode jdk_52_method_4_code 47 = .ok (.getstatic 63, 3) := by decide +kernel
theorem own_pc2_0_d50 : decode jdk_52_method_4_code 50 = .ok (.ishr, 1) := by decide +kernel
theorem own_pc2_0_d51 : decode jdk_52_method_4_code 51 = .ok (.i2b, 1) := by decide +kernel
theorem own_pc2_0_d52 : decode jdk_52_method_4_code 52 = .ok (.bastore, 1) := by decide +kernel
theorem own_pc2_0_d53 : decode jdk_52_method_4_code 53 = .ok (.return_, 1) := by decide +kernel
theorem own_pc2_0_pn : plainName "java/lang/StringUTF16" = true := by first | (simp [plainName, overriddenIn]; done) | decide +kernel
theorem own_pc2_0_ef (m : MethodId) (pb : Addr) (pch : Int32) : entryFrame m #[(.ref pb), (.int (0 : Int32)), (.int pch)] 3 = mkF m 0 #[rv pb, iv (0 : Int32), iv pch] [] := by first | (simp [entryFrame, mkF, argsToLocals, Value.category]; done) | rfl
def own_pc2_0_Q (Z : State) (pb : Addr) (pch : Int32) (x0 x1 x2 x3 : Int32) (h0 : Heap) (n0 : Nat) (v : Option Value) (h : Heap) (L : List Loc) : Prop := v = none ∧ Fr n0 L ∧ Keep h0 h [pb] ∧ own_Ar Z h pb .byte [(.int ((pch >>> ((0 : Int32) &&& 31)).toInt8.toInt32)), (.int ((pch >>> ((8 : Int32) &&& 31)).toInt8.toInt32)), (.int x2), (.int x3)]
set_option maxRecDepth 65536 in
set_option maxHeartbeats 40000000 in
theorem own_pc2_0 (l : Launch) (Z : State) (a0 : Array Value) (hw : ∀ d ∈ tables_1, d.before a0 Z = true) (ws : List Jvm.Cond) (pb : Addr) (pch : Int32) (x0 x1 x2 x3 : Int32) (h0 : Heap) (n0 : Nat) (Z0 : n0 ≤ h0.size) (g0 : n0 ≤ pb) (V0 : own_Ar Z h0 pb .byte [(.int x0), (.int x1), (.int x2), (.int x3)]) (hSa : Sta Z h0 "java/lang/StringUTF16" "$assertionsDisabled" "Z" (.int (1 : Int32))) (hSh : Sta Z h0 "java/lang/StringUTF16" "HI_BYTE_SHIFT" "I" (.int (0 : Int32))) (hSl : Sta Z h0 "java/lang/StringUTF16" "LO_BYTE_SHIFT" "I" (.int (8 : Int32))) :
    MetFree l own_y3 (head1 (Jvm.Cond.code own_y3 jdk_52_method_4_code 3 none :: ws) ({ frames := 0, cells := 0, slots := 0, locals := 0 } : Room)) (fun a U => a = #[(.ref pb), (.int (0 : Int32)), (.int pch)] ∧ Z.Warmed39 U.vm ∧ U.heap = h0) (fun _ _ _ _ _ => True) (fun _ U o U' => ∃ v L, o = .returned v ∧ (own_pc2_0_Q Z pb pch x0 x1 x2 x3 h0 n0) v U'.heap L ∧ FrameEnd U o U' L ({ frames := 0, cells := 0, slots := 0, locals := 0 } : Room).cells ({ frames := 0, cells := 0, slots := 0, locals := 0 } : Room).slots) := by
  refine MetFree.of_bodySF (plainFor_of_name own_pc2_0_pn) hisR ?_
  intro p e s m args below meth c s₁ Bd hml0 hP hK
  obtain ⟨rfl, hZ, hh⟩ := hP
  have hx := Bd.exec
  have hby := Bd.bytes
  have hml : c.maxLocals = 3 := hml0
  have hown : s.vm.findClass "java/lang/StringUTF16" = some m.cls := findClass_of_methodNamed Bd.named
  have hnm := (name_of_methodNamed Bd.named Bd.method).1
  have hlk : meth.locks = false := Bd.notSynchronized
  have X0 : Stand p l e ({ frames := 0, cells := 0, slots := 0, locals := 0 } : Room) s m #[(.ref pb), (.int (0 : Int32)), (.int pch)] below meth c s₁ [] 0 0 := Stand.of_body Bd
  have e0 : s₁.heap = h0 := by rw [← hh, Bd.state]; rfl
  have N0 := Fr.nil n0
  have w_73 := hw _ (List.mem_of_getElem? (l := tables_1) (i := 73) rfl)
  have w_74 := hw _ (List.mem_of_getElem? (l := tables_1) (i := 74) rfl)
  have w_75 := hw _ (List.mem_of_getElem? (l := tables_1) (i := 75) rfl)
  show own_G p.tables e below (fun o U' => ∃ v L, o = .returned v ∧ (own_pc2_0_Q Z pb pch x0 x1 x2 x3 h0 n0) v U'.heap L ∧ FrameEnd s o U' L ({ frames := 0, cells := 0, slots := 0, locals := 0 } : Room).cells ({ frames := 0, cells := 0, slots := 0, locals := 0 } : Room).slots) (s₁.setTop (entryFrame m #[(.ref pb), (.int (0 : Int32)), (.int pch)] 3))
  refine own_go (B := s₁.setTop (mkF m 0 #[rv pb, iv (0 : Int32), iv pch] [])) (fun t k => castTop (own_pc2_0_ef m pb pch) k) ?_
  have K0 := Keep.refl h0 [pb]
  obtain ⟨T1, X1, e1, st1⟩ := getS X0 hx hZ hown (host := "") w_73 Via.refl e0 hSa (g := (mkF m 0 #[rv pb, iv (0 : Int32), iv pch] [])) rfl (hb hby own_pc2_0_d0)
  refine own_go (B := (T1.setTop (mkF m 3 #[rv pb, iv (0 : Int32), iv pch] [(.int (1 : Int32))]))) st1 ?_
  have hc3 : ¬ (1 : Int32) = (0 : Int32) := (by decide)
  refine own_ifY X1 hx (hb hby own_pc2_0_d3) (pc' := 28) (by decide) (by decide) hc3 ?_
  refine own_go (B := (T1.setTop (mkF m 29 #[rv pb, iv (0 : Int32), iv pch] [(.int (0 : Int32))]))) (fun t k => XS.iloadN X1.here hx rfl (hb hby own_pc2_0_d28) rfl k) ?_
  refine own_go (B := (T1.setTop (mkF m 30 #[rv pb, iv (0 : Int32), iv pch] [(.int (1 : Int32)), (.int (0 : Int32))]))) (fun t k => own_iconst (v := (1 : Int32)) X1.here hx rfl (hb hby own_pc2_0_d29) (by decide) k) ?_
  refine own_go (B := (T1.setTop (mkF m 31 #[rv pb, iv (0 : Int32), iv pch] [(.int ((0 : Int32) <<< ((1 : Int32) &&& 31)))]))) (fun t k => XS.ishl (x := (0 : Int32)) (y := (1 : Int32)) X1.here hx rfl (hb hby own_pc2_0_d30) rfl k) ?_
  rw [show ((0 : Int32) <<< ((1 : Int32) &&& 31)) = (0 : Int32) from by decide]
  refine own_go (B := (T1.setTop (mkF m 32 #[rv pb, iv (0 : Int32), iv pch] []))) (fun t k => XS.istoreN X1.here hx rfl (hb hby own_pc2_0_d31) rfl (l' := #[rv pb, iv (0 : Int32), iv pch]) rfl k) ?_
  refine own_go (B := (T1.setTop (mkF m 33 #[rv pb, iv (0 : Int32), iv pch] [(.ref pb)]))) (fun t k => XS.aloadN X1.here hx rfl (hb hby own_pc2_0_d32) rfl rfl k) ?_
  refine own_go (B := (T1.setTop (mkF m 34 #[rv pb, iv (0 : Int32), iv pch] [(.int (0 : Int32)), (.ref pb)]))) (fun t k => XS.iloadN X1.here hx rfl (hb hby own_pc2_0_d33) rfl k) ?_
  refine own_go (B := (T1.setTop (mkF m 37 #[rv pb, iv (1 : Int32), iv pch] [(.int (0 : Int32)), (.ref pb)]))) (fun t k => XS.iinc X1.here hx rfl (hb hby own_pc2_0_d34) rfl (l' := #[rv pb, iv (1 : Int32), iv pch]) rfl k) ?_
  refine own_go (B := (T1.setTop (mkF m 38 #[rv pb, iv (1 : Int32), iv pch] [(.int pch), (.int (0 : Int32)), (.ref pb)]))) (fun t k => XS.iloadN X1.here hx rfl (hb hby own_pc2_0_d37) rfl k) ?_
  obtain ⟨T2, X2, e2, st2⟩ := getS X1 hx hZ hown (host := "") w_74 Via.refl e1 hSh (g := (mkF m 38 #[rv pb, iv (1 : Int32), iv pch] [(.int pch), (.int (0 : Int32)), (.ref pb)])) rfl (hb hby own_pc2_0_d38)
  refine own_go (B := (T2.setTop (mkF m 41 #[rv pb, iv (1 : Int32), iv pch] [(.int (0 : Int32)), (.int pch), (.int (0 : Int32)), (.ref pb)]))) st2 ?_
  refine own_go (B := (T2.setTop (mkF m 42 #[rv pb, iv (1 : Int32), iv pch] [(.int (pch >>> ((0 : Int32) &&& 31))), (.int (0 : Int32)), (.ref pb)]))) (fun t k => XS.ishr (x := pch) (y := (0 : Int32)) X2.here hx rfl (hb hby own_pc2_0_d41) rfl k) ?_
  refine own_go (B := (T2.setTop (mkF m 43 #[rv pb, iv (1 : Int32), iv pch] [(.int ((pch >>> ((0 : Int32) &&& 31)).toInt8.toInt32)), (.int (0 : Int32)), (.ref pb)]))) (fun t k => XS.i2b X2.here hx rfl (hb hby own_pc2_0_d42) rfl k) ?_
  obtain ⟨T3, h3, X3, e3, W3, V3, st3⟩ := own_stB X2 hx hZ e2 V0 (i := 0) (by decide) (by decide) (Nat.lt_of_lt_of_eq (by decide : 0 < 4) rfl) (own_i2b _) (L' := [(.int ((pch >>> ((0 : Int32) &&& 31)).toInt8.toInt32)), (.int x1), (.int x2), (.int x3)]) rfl (g := (mkF m 43 #[rv pb, iv (1 : Int32), iv pch] [(.int ((pch >>> ((0 : Int32) &&& 31)).toInt8.toInt32)), (.int (0 : Int32)), (.ref pb)])) rfl rfl (hb hby own_pc2_0_d43)
  refine own_go (B := (T3.setTop (mkF m 44 #[rv pb, iv (1 : Int32), iv pch] []))) st3 ?_
  obtain ⟨L3, X3, N3⟩ := own_abs X3 (Fr.snoc X3 N0 g0)
  have F4 : n0 ≤ h3.size := by rw [W3.size]; exact Z0
  have F5 := Keep.wr K0 W3 (Or.inl (List.mem_of_getElem? (i := 0) rfl))
  have F7 := Sta.wr W3 hSa
  have F8 := Sta.wr W3 hSh
  have F9 := Sta.wr W3 hSl
  refine own_go (B := (T3.setTop (mkF m 45 #[rv pb, iv (1 : Int32), iv pch] [(.ref pb)]))) (fun t k => XS.aloadN X3.here hx rfl (hb hby own_pc2_0_d44) rfl rfl k) ?_
  refine own_go (B := (T3.setTop (mkF m 46 #[rv pb, iv (1 : Int32), iv pch] [(.int (1 : Int32)), (.ref pb)]))) (fun t k => XS.iloadN X3.here hx rfl (hb hby own_pc2_0_d45) rfl k) ?_
  refine own_go (B := (T3.setTop (mkF m 47 #[rv pb, iv (1 : Int32), iv pch] [(.int pch), (.int (1 : Int32)), (.ref pb)]))) (fun t k => XS.iloadN X3.here hx rfl (hb hby own_pc2_0_d46) rfl k) ?_
  obtain ⟨T10, X10, e10, st10⟩ := getS X3 hx hZ hown (host := "") w_75 Via.refl e3 F9 (g := (mkF m 47 #[rv pb, iv (1 : Int32), iv pch] [(.int pch), (.int (1 : Int32)), (.ref pb)])) rfl (hb hby own_pc2_0_d47)
  refine own_go (B := (T10.setTop (mkF m 50 #[rv pb, iv (1 : Int32), iv pch] [(.int (8 : Int32)), (.int pch), (.int (1 : Int32)), (.ref pb)]))) st10 ?_
  refine own_go (B := (T10.setTop (mkF m 51 #[rv pb, iv (1 : Int32), iv pch] [(.int (pch >>> ((8 : Int32) &&& 31))), (.int (1 : Int32)), (.ref pb)]))) (fun t k => XS.ishr (x := pch) (y := (8 : Int32)) X10.here hx rfl (hb hby own_pc2_0_d50) rfl k) ?_
  refine own_go (B := (T10.setTop (mkF m 52 #[rv pb, iv (1 : Int32), iv pch] [(.int ((pch >>> ((8 : Int32) &&& 31)).toInt8.toInt32)), (.int (1 : Int32)), (.ref pb)]))) (fun t k => XS.i2b X10.here hx rfl (hb hby own_pc2_0_d51) rfl k) ?_
  obtain ⟨T11, h11, X11, e11, W11, V11, st11⟩ := own_stB X10 hx hZ e10 V3 (i := 1) (by decide) (by decide) (Nat.lt_of_lt_of_eq (by decide : 1 < 4) rfl) (own_i2b _) (L' := [(.int ((pch >>> ((0 : Int32) &&& 31)).toInt8.toInt32)), (.int ((pch >>> ((8 : Int32) &&& 31)).toInt8.toInt32)), (.int x2), (.int x3)]) rfl (g := (mkF m 52 #[rv pb, iv (1 : Int32), iv pch] [(.int ((pch >>> ((8 : Int32) &&& 31)).toInt8.toInt32)), (.int (1 : Int32)), (.ref pb)])) rfl rfl (hb hby own_pc2_0_d52)
  refine own_go (B := (T11.setTop (mkF m 53 #[rv pb, iv (1 : Int32), iv pch] []))) st11 ?_
  obtain ⟨L11, X11, N11⟩ := own_abs X11 (Fr.snoc X11 N3 g0)
  have F12 : n0 ≤ h11.size := by rw [W11.size]; exact F4
  have F13 := Keep.wr F5 W11 (Or.inl (List.mem_of_getElem? (i := 0) rfl))
  have F15 := Sta.wr W11 F7
  have F16 := Sta.wr W11 F8
  have F17 := Sta.wr W11 F9
  exact own_retV X11 hx hlk Bd.returns (hb hby own_pc2_0_d53) (own_b rfl) (own_b rfl) (Q := (own_pc2_0_Q Z pb pch x0 x1 x2 x3 h0 n0)) (by rw [e11]; exact ⟨rfl, N11, F13, V11⟩)

theorem own_pc2_1_d0 : decode jdk_52_method_4_code 0 = .ok (.getstatic 44, 3) := by decide +kernel
theorem own_pc2_1_d3 : decode jdk_52_method_4_code 3 = .ok (.ifCond .ne 25, 3) := by decide +kernel
theorem own_pc2_1_d28 : decode jdk_52_method_4_code 28 = .ok (.iload_n 1, 1) := by decide +kernel
theorem own_pc2_1_d29 : decode jdk_52_method_4_code 29 = .ok (.iconst 1, 1) := by decide +kernel
theorem own_pc2_1_d30 : decode jdk_52_method_4_code 30 = .ok (.ishl, 1) := by decide +kernel
theorem own_pc2_1_d31 : decode jdk_52_method_4_code 31 = .ok (.istore_n 1, 1) := by decide +kernel
theorem own_pc2_1_d32 : decode jdk_52_method_4_code 32 = .ok (.aload_n 0, 1) := by decide +kernel
theorem own_pc2_1_d33 : decode jdk_52_method_4_code 33 = .ok (.iload_n 1, 1) := by decide +kernel
theorem own_pc2_1_d34 : decode jdk_52_method_4_code 34 = .ok (.iinc 1 1, 3) := by decide +kernel
theorem own_pc2_1_d37 : decode jdk_52_method_4_code 37 = .ok (.iload_n 2, 1) := by decide +kernel
theorem own_pc2_1_d38 : decode jdk_52_method_4_code 38 = .ok (.getstatic 59, 3) := by decide +kernel
theorem own_pc2_1_d41 : decode jdk_52_method_4_code 41 = .ok (.ishr, 1) := by decide +kernel
theorem own_pc2_1_d42 : decode jdk_52_method_4_code 42 = .ok (.i2b, 1) := by decide +kernel
theorem own_pc2_1_d43 : decode jdk_52_method_4_code 43 = .ok (.bastore, 1) := by decide +kernel
theorem own_pc2_1_d44 : decode jdk_52_method_4_code 44 = .ok (.aload_n 0, 1) := by decide +kernel
theorem own_pc2_1_d45 : decode jdk_52_method_4_code 45 = .ok (.iload_n 1, 1) := by decide +kernel
theorem own_pc2_1_d46 : decode jdk_52_method_4_code 46 = .ok (.iload_n 2, 1) := by decide +kernel
theorem own_pc2_1_d47 : decode jdk_52_method_4_code 47 = .ok (.getstatic 63, 3) := by decide +kernel
theorem own_pc2_1_d50 : decode jdk_52_method_4_code 50 = .ok (.ishr, 1) := by decide +kernel
theorem own_pc2_1_d51 : decode jdk_52_method_4_code 51 = .ok (.i2b, 1) := by decide +kernel
theorem own_pc2_1_d52 : decode jdk_52_method_4_code 52 = .ok (.bastore, 1) := by decide +kernel
theorem own_pc2_1_d53 : decode jdk_52_method_4_code 53 = .ok (.return_, 1) := by decide +kernel
theorem own_pc2_1_pn : plainName "java/lang/StringUTF16" = true := by first | (simp [plainName, overriddenIn]; done) | decide +kernel
theorem own_pc2_1_ef (m : MethodId) (pb : Addr) (pch : Int32) : entryFrame m #[(.ref pb), (.int (1 : Int32)), (.int pch)] 3 = mkF m 0 #[rv pb, iv (1 : Int32), iv pch] [] := by first | (simp [entryFrame, mkF, argsToLocals, Value.category]; done) | rfl
def own_pc2_1_Q (Z : State) (pb : Addr) (pch : Int32) (x0 x1 x2 x3 : Int32) (h0 : Heap) (n0 : Nat) (v : Option Value) (h : Heap) (L : List Loc) : Prop := v = none ∧ Fr n0 L ∧ Keep h0 h [pb] ∧ own_Ar Z h pb .byte [(.int x0), (.int x1), (.int ((pch >>> ((0 : Int32) &&& 31)).toInt8.toInt32)), (.int ((pch >>> ((8 : Int32) &&& 31)).toInt8.toInt32))]
set_option maxRecDepth 65536 in
set_option maxHeartbeats 40000000 in
theorem own_pc2_1 (l : Launch) (Z : State) (a0 : Array Value) (hw : ∀ d ∈ tables_1, d.before a0 Z = true) (ws : List Jvm.Cond) (pb : Addr) (pch : Int32) (x0 x1 x2 x3 : Int32) (h0 : Heap) (n0 : Nat) (Z0 : n0 ≤ h0.size) (g0 : n0 ≤ pb) (V0 : own_Ar Z h0 pb .byte [(.int x0), (.int x1), (.int x2), (.int x3)]) (hSa : Sta Z h0 "java/lang/StringUTF16" "$assertionsDisabled" "Z" (.int (1 : Int32))) (hSh : Sta Z h0 "java/lang/StringUTF16" "HI_BYTE_SHIFT" "I" (.int (0 : Int32))) (hSl : Sta Z h0 "java/lang/StringUTF16" "LO_BYTE_SHIFT" "I" (.int (8 : Int32))) :
    MetFree l own_y3 (head1 (Jvm.Cond.code own_y3 jdk_52_method_4_code 3 none :: ws) ({ frames := 0, cells := 0, slots := 0, locals := 0 } : Room)) (fun a U => a = #[(.ref pb), (.int (1 : Int32)), (.int pch)] ∧ Z.Warmed39 U.vm ∧ U.heap = h0) (fun _ _ _ _ _ => True) (fun _ U o U' => ∃ v L, o = .returned v ∧ (own_pc2_1_Q Z pb pch x0 x1 x2 x3 h0 n0) v U'.heap L ∧ FrameEnd U o U' L ({ frames := 0, cells := 0, slots := 0, locals := 0 } : Room).cells ({ frames := 0, cells := 0, slots := 0, locals := 0 } : Room).slots) := by
  refine MetFree.of_bodySF (plainFor_of_name own_pc2_1_pn) hisR ?_
  intro p e s m args below meth c s₁ Bd hml0 hP hK
  obtain ⟨rfl, hZ, hh⟩ := hP
  have hx := Bd.exec
  have hby := Bd.bytes
  have hml : c.maxLocals = 3 := hml0
  have hown : s.vm.findClass "java/lang/StringUTF16" = some m.cls := findClass_of_methodNamed Bd.named
  have hnm := (name_of_methodNamed Bd.named Bd.method).1
  have hlk : meth.locks = false := Bd.notSynchronized
  have X0 : Stand p l e ({ frames := 0, cells := 0, slots := 0, locals := 0 } : Room) s m #[(.ref pb), (.int (1 : Int32)), (.int pch)] below meth c s₁ [] 0 0 := Stand.of_body Bd
  have e0 : s₁.heap = h0 := by rw [← hh, Bd.state]; rfl
  have N0 := Fr.nil n0
  have w_73 := hw _ (List.mem_of_getElem? (l := tables_1) (i := 73) rfl)
  have w_74 := hw _ (List.mem_of_getElem? (l := tables_1) (i := 74) rfl)
  have w_75 := hw _ (List.mem_of_getElem? (l := tables_1) (i := 75) rfl)
  show own_G p.tables e below (fun o U' => ∃ v L, o = .returned v ∧ (own_pc2_1_Q Z pb pch x0 x1 x2 x3 h0 n0) v U'.heap L ∧ FrameEnd s o U' L ({ frames := 0, cells := 0, slots := 0, locals := 0 } : Room).cells ({ frames := 0, cells := 0, slots := 0, locals := 0 } : Room).slots) (s₁.setTop (entryFrame m #[(.ref pb), (.int (1 : Int32)), (.int pch)] 3))
  refine own_go (B := s₁.setTop (mkF m 0 #[rv pb, iv (1 : Int32), iv pch] [])) (fun t k => castTop (own_pc2_1_ef m pb pch) k) ?_
  have K0 := Keep.refl h0 [pb]
  obtain ⟨T1, X1, e1, st1⟩ := getS X0 hx hZ hown (host := "") w_73 Via.refl e0 hSa (g := (mkF m 0 #[rv pb, iv (1 : Int32), iv pch] [])) rfl (hb hby own_pc2_1_d0)
  refine own_go (B := (T1.setTop (mkF m 3 #[rv pb, iv (1 : Int32), iv pch] [(.int (1 : Int32))]))) st1 ?_
  have hc3 : ¬ (1 : Int32) = (0 : Int32) := (by decide)
  refine own_ifY X1 hx (hb hby own_pc2_1_d3) (pc' := 28) (by decide) (by decide) hc3 ?_
  refine own_go (B := (T1.setTop (mkF m 29 #[rv pb, iv (1 : Int32), iv pch] [(.int (1 : Int32))]))) (fun t k => XS.iloadN X1.here hx rfl (hb hby own_pc2_1_d28) rfl k) ?_
  refine own_go (B := (T1.setTop (mkF m 30 #[rv pb, iv (1 : Int32), iv pch] [(.int (1 : Int32)), (.int (1 : Int32))]))) (fun t k => own_iconst (v := (1 : Int32)) X1.here hx rfl (hb hby own_pc2_1_d29) (by decide) k) ?_
  refine own_go (B := (T1.setTop (mkF m 31 #[rv pb, iv (1 : Int32), iv pch] [(.int ((1 : Int32) <<< ((1 : Int32) &&& 31)))]))) (fun t k => XS.ishl (x := (1 : Int32)) (y := (1 : Int32)) X1.here hx rfl (hb hby own_pc2_1_d30) rfl k) ?_
  rw [show ((1 : Int32) <<< ((1 : Int32) &&& 31)) = (2 : Int32) from by decide]
  refine own_go (B := (T1.setTop (mkF m 32 #[rv pb, iv (2 : Int32), iv pch] []))) (fun t k => XS.istoreN X1.here hx rfl (hb hby own_pc2_1_d31) rfl (l' := #[rv pb, iv (2 : Int32), iv pch]) rfl k) ?_
  refine own_go (B := (T1.setTop (mkF m 33 #[rv pb, iv (2 : Int32), iv pch] [(.ref pb)]))) (fun t k => XS.aloadN X1.here hx rfl (hb hby own_pc2_1_d32) rfl rfl k) ?_
  refine own_go (B := (T1.setTop (mkF m 34 #[rv pb, iv (2 : Int32), iv pch] [(.int (2 : Int32)), (.ref pb)]))) (fun t k => XS.iloadN X1.here hx rfl (hb hby own_pc2_1_d33) rfl k) ?_
  refine own_go (B := (T1.setTop (mkF m 37 #[rv pb, iv (3 : Int32), iv pch] [(.int (2 : Int32)), (.ref pb)]))) (fun t k => XS.iinc X1.here hx rfl (hb hby own_pc2_1_d34) rfl (l' := #[rv pb, iv (3 : Int32), iv pch]) rfl k) ?_
  refine own_go (B := (T1.setTop (mkF m 38 #[rv pb, iv (3 : Int32), iv pch] [(.int pch), (.int (2 : Int32)), (.ref pb)]))) (fun t k => XS.iloadN X1.here hx rfl (hb hby own_pc2_1_d37) rfl k) ?_
  obtain ⟨T2, X2, e2, st2⟩ := getS X1 hx hZ hown (host := "") w_74 Via.refl e1 hSh (g := (mkF m 38 #[rv pb, iv (3 : Int32), iv pch] [(.int pch), (.int (2 : Int32)), (.ref pb)])) rfl (hb hby own_pc2_1_d38)
  refine own_go (B := (T2.setTop (mkF m 41 #[rv pb, iv (3 : Int32), iv pch] [(.int (0 : Int32)), (.int pch), (.int (2 : Int32)), (.ref pb)]))) st2 ?_
  refine own_go (B := (T2.setTop (mkF m 42 #[rv pb, iv (3 : Int32), iv pch] [(.int (pch >>> ((0 : Int32) &&& 31))), (.int (2 : Int32)), (.ref pb)]))) (fun t k => XS.ishr (x := pch) (y := (0 : Int32)) X2.here hx rfl (hb hby own_pc2_1_d41) rfl k) ?_
  refine own_go (B := (T2.setTop (mkF m 43 #[rv pb, iv (3 : Int32), iv pch] [(.int ((pch >>> ((0 : Int32) &&& 31)).toInt8.toInt32)), (.int (2 : Int32)), (.ref pb)]))) (fun t k => XS.i2b X2.here hx rfl (hb hby own_pc2_1_d42) rfl k) ?_
  obtain ⟨T3, h3, X3, e3, W3, V3, st3⟩ := own_stB X2 hx hZ e2 V0 (i := 2) (by decide) (by decide) (Nat.lt_of_lt_of_eq (by decide : 2 < 4) rfl) (own_i2b _) (L' := [(.int x0), (.int x1), (.int ((pch >>> ((0 : Int32) &&& 31)).toInt8.toInt32)), (.int x3)]) rfl (g := (mkF m 43 #[rv pb, iv (3 : Int32), iv pch] [(.int ((pch >>> ((0 : Int32) &&& 31)).toInt8.toInt32)), (.int (2 : Int32)), (.ref pb)])) rfl rfl (hb hby own_pc2_1_d43)
  refine own_go (B := (T3.setTop (mkF m 44 #[rv pb, iv (3 : Int32), iv pch] []))) st3 ?_
  obtain ⟨L3, X3, N3⟩ := own_abs X3 (Fr.snoc X3 N0 g0)
  have F4 : n0 ≤ h3.size := by rw [W3.size]; exact Z0
  have F5 := Keep.wr K0 W3 (Or.inl (List.mem_of_getElem? (i := 0) rfl))
  have F7 := Sta.wr W3 hSa
  have F8 := Sta.wr W3 hSh
  have F9 := Sta.wr W3 hSl
  refine own_go (B := (T3.setTop (mkF m 45 #[rv pb, iv (3 : Int32), iv pch] [(.ref pb)]))) (fun t k => XS.aloadN X3.here hx rfl (hb hby own_pc2_1_d44) rfl rfl k) ?_
  refine own_go (B := (T3.setTop (mkF m 46 #[rv pb, iv (3 : Int32), iv pch] [(.int (3 : Int32)), (.ref pb)]))) (fun t k => XS.iloadN X3.here hx rfl (hb hby own_pc2_1_d45) rfl k) ?_
  refine own_go (B := (T3.setTop (mkF m 47 #[rv pb, iv (3 : Int32), iv pch] [(.int pch), (.int (3 : Int32)), (.ref pb)]))) (fun t k => XS.iloadN X3.here hx rfl (hb hby own_pc2_1_d46) rfl k) ?_
  obtain ⟨T10, X10, e10, st10⟩ := getS X3 hx hZ hown (host := "") w_75 Via.refl e3 F9 (g := (mkF m 47 #[rv pb, iv (3 : Int32), iv pch] [(.int pch), (.int (3 : Int32)), (.ref pb)])) rfl (hb hby own_pc2_1_d47)
  refine own_go (B := (T10.setTop (mkF m 50 #[rv pb, iv (3 : Int32), iv pch] [(.int (8 : Int32)), (.int pch), (.int (3 : Int32)), (.ref pb)]))) st10 ?_
  refine own_go (B := (T10.setTop (mkF m 51 #[rv pb, iv (3 : Int32), iv pch] [(.int (pch >>> ((8 : Int32) &&& 31))), (.int (3 : Int32)), (.ref pb)]))) (fun t k => XS.ishr (x := pch) (y := (8 : Int32)) X10.here hx rfl (hb hby own_pc2_1_d50) rfl k) ?_
  refine own_go (B := (T10.setTop (mkF m 52 #[rv pb, iv (3 : Int32), iv pch] [(.int ((pch >>> ((8 : Int32) &&& 31)).toInt8.toInt32)), (.int (3 : Int32)), (.ref pb)]))) (fun t k => XS.i2b X10.here hx rfl (hb hby own_pc2_1_d51) rfl k) ?_
  obtain ⟨T11, h11, X11, e11, W11, V11, st11⟩ := own_stB X10 hx hZ e10 V3 (i := 3) (by decide) (by decide) (Nat.lt_of_lt_of_eq (by decide : 3 < 4) rfl) (own_i2b _) (L' := [(.int x0), (.int x1), (.int ((pch >>> ((0 : Int32) &&& 31)).toInt8.toInt32)), (.int ((pch >>> ((8 : Int32) &&& 31)).toInt8.toInt32))]) rfl (g := (mkF m 52 #[rv pb, iv (3 : Int32), iv pch] [(.int ((pch >>> ((8 : Int32) &&& 31)).toInt8.toInt32)), (.int (3 : Int32)), (.ref pb)])) rfl rfl (hb hby own_pc2_1_d52)
  refine own_go (B := (T11.setTop (mkF m 53 #[rv pb, iv (3 : Int32), iv pch] []))) st11 ?_
  obtain ⟨L11, X11, N11⟩ := own_abs X11 (Fr.snoc X11 N3 g0)
  have F12 : n0 ≤ h11.size := by rw [W11.size]; exact F4
  have F13 := Keep.wr F5 W11 (Or.inl (List.mem_of_getElem? (i := 0) rfl))
  have F15 := Sta.wr W11 F7
  have F16 := Sta.wr W11 F8
  have F17 := Sta.wr W11 F9
  exact own_retV X11 hx hlk Bd.returns (hb hby own_pc2_1_d53) (own_b rfl) (own_b rfl) (Q := (own_pc2_1_Q Z pb pch x0 x1 x2 x3 h0 n0)) (by rw [e11]; exact ⟨rfl, N11, F13, V11⟩)

theorem own_pc3_0_d0 : decode jdk_52_method_4_code 0 = .ok (.getstatic 44, 3) := by decide +kernel
theorem own_pc3_0_d3 : decode jdk_52_method_4_code 3 = .ok (.ifCond .ne 25, 3) := by decide +kernel
theorem own_pc3_0_d28 : decode jdk_52_method_4_code 28 = .ok (.iload_n 1, 1) := by decide +kernel
theorem own_pc3_0_d29 : decode jdk_52_method_4_code 29 = .ok (.iconst 1, 1) := by decide +kernel
theorem own_pc3_0_d30 : decode jdk_52_method_4_code 30 = .ok (.ishl, 1) := by decide +kernel
theorem own_pc3_0_d31 : decode jdk_52_method_4_code 31 = .ok (.istore_n 1, 1) := by decide +kernel
theorem own_pc3_0_d32 : decode jdk_52_method_4_code 32 = .ok (.aload_n 0, 1) := by decide +kernel
theorem own_pc3_0_d33 : decode jdk_52_method_4_code 33 = .ok (.iload_n 1, 1) := by decide +kernel
theorem own_pc3_0_d34 : decode jdk_52_method_4_code 34 = .ok (.iinc 1 1, 3) := by decide +kernel
theorem own_pc3_0_d37 : decode jdk_52_method_4_code 37 = .ok (.iload_n 2, 1) := by decide +kernel
theorem own_pc3_0_d38 : decode jdk_52_method_4_code 38 = .ok (.getstatic 59, 3) := by decide +kernel
theorem own_pc3_0_d41 : decode jdk_52_method_4_code 41 = .ok (.ishr, 1) := by decide +kernel
theorem own_pc3_0_d42 : decode jdk_52_method_4_code 42 = .ok (.i2b, 1) := by decide +kernel
theorem own_pc3_0_d43 : decode jdk_52_method_4_code 43 = .ok (.bastore, 1) := by decide +kernel
theorem own_pc3_0_d44 : decode jdk_52_method_4_code 44 = .ok (.aload_n 0, 1) := by decide +kernel
theorem own_pc3_0_d45 : decode jdk_52_method_4_code 45 = .ok (.iload_n 1, 1) := by decide +kernel
theorem own_pc3_0_d46 : decode jdk_52_method_4_code 46 = .ok (.iload_n 2, 1) := by decide +kernel
theorem own_pc3_0_d47 : decode jdk_52_method_4_code 47 = .ok (.getstatic 63, 3) := by decide +kernel
theorem own_pc3_0_d50 : decode jdk_52_method_4_code 50 = .ok (.ishr, 1) := by decide +kernel
theorem own_pc3_0_d51 : decode jdk_52_method_4_code 51 = .ok (.i2b, 1) := by decide +kernel
theorem own_pc3_0_d52 : decode jdk_52_method_4_code 52 = .ok (.bastore, 1) := by decide +kernel
theorem own_pc3_0_d53 : decode jdk_52_method_4_code 53 = .ok (.return_, 1) := by decide +kernel
theorem own_pc3_0_pn : plainName "java/lang/StringUTF16" = true := by first | (simp [plainName, overriddenIn]; done) | decide +kernel
theorem own_pc3_0_ef (m : MethodId) (pb : Addr) (pch : Int32) : entryFrame m #[(.ref pb), (.int (0 : Int32)), (.int pch)] 3 = mkF m 0 #[rv pb, iv (0 : Int32), iv pch] [] := by first | (simp [entryFrame, mkF, argsToLocals, Value.category]; done) | rfl
def own_pc3_0_Q (Z : State) (pb : Addr) (pch : Int32) (x0 x1 x2 x3 x4 x5 : Int32) (h0 : Heap) (n0 : Nat) (v : Option Value) (h : Heap) (L : List Loc) : Prop := v = none ∧ Fr n0 L ∧ Keep h0 h [pb] ∧ own_Ar Z h pb .byte [(.int ((pch >>> ((0 : Int32) &&& 31)).toInt8.toInt32)), (.int ((pch >>> ((8 : Int32) &&& 31)).toInt8.toInt32)), (.int x2), (.int x3), (.int x4), (.int x5)]
set_option maxRecDepth 65536 in
set_option maxHeartbeats 40000000 in
theorem own_pc3_0 (l : Launch) (Z : State) (a0 : Array Value) (hw : ∀ d ∈ tables_1, d.before a0 Z = true) (ws : List Jvm.Cond) (pb : Addr) (pch : Int32) (x0 x1 x2 x3 x4 x5 : Int32) (h0 : Heap) (n0 : Nat) (Z0 : n0 ≤ h0.size) (g0 : n0 ≤ pb) (V0 : own_Ar Z h0 pb .byte [(.int x0), (.int x1), (.int x2), (.int x3), (.int x4), (.int x5)]) (hSa : Sta Z h0 "java/lang/StringUTF16" "$assertionsDisabled" "Z" (.int (1 : Int32))) (hSh : Sta Z h0 "java/lang/StringUTF16" "HI_BYTE_SHIFT" "I" (.int (0 : Int32))) (hSl : Sta Z h0 "java/lang/StringUTF16" "LO_BYTE_SHIFT" "I" (.int (8 : Int32))) :
    MetFree l own_y3 (head1 (Jvm.Cond.code own_y3 jdk_52_method_4_code 3 none :: ws) ({ frames := 0, cells := 0, slots := 0, locals := 0 } : Room)) (fun a U => a = #[(.ref pb), (.int (0 : Int32)), (.int pch)] ∧ Z.Warmed39 U.vm ∧ U.heap = h0) (fun _ _ _ _ _ => True) (fun _ U o U' => ∃ v L, o = .returned v ∧ (own_pc3_0_Q Z pb pch x0 x1 x2 x3 x4 x5 h0 n0) v U'.heap L ∧ FrameEnd U o U' L ({ frames := 0, cells := 0, slots := 0, locals := 0 } : Room).cells ({ frames := 0, cells := 0, slots := 0, locals := 0 } : Room).slots) := by
  refine MetFree.of_bodySF (plainFor_of_name own_pc3_0_pn) hisR ?_
  intro p e s m args below meth c s₁ Bd hml0 hP hK
  obtain ⟨rfl, hZ, hh⟩ := hP
  have hx := Bd.exec
  have hby := Bd.bytes
  have hml : c.maxLocals = 3 := hml0
  have hown : s.vm.findClass "java/lang/StringUTF16" = some m.cls := findClass_of_methodNamed Bd.named
  have hnm := (name_of_methodNamed Bd.named Bd.method).1
  have hlk : meth.locks = false := Bd.notSynchronized
  have X0 : Stand p l e ({ frames := 0, cells := 0, slots := 0, locals := 0 } : Room) s m #[(.ref pb), (.int (0 : Int32)), (.int pch)] below meth c s₁ [] 0 0 := Stand.of_body Bd
  have e0 : s₁.heap = h0 := by rw [← hh, Bd.state]; rfl
  have N0 := Fr.nil n0
  have w_73 := hw _ (List.mem_of_getElem? (l := tables_1) (i := 73) rfl)
  have w_74 := hw _ (List.mem_of_getElem? (l := tables_1) (i := 74) rfl)
  have w_75 := hw _ (List.mem_of_getElem? (l := tables_1) (i := 75) rfl)
  show own_G p.tables e below (fun o U' => ∃ v L, o = .returned v ∧ (own_pc3_0_Q Z pb pch x0 x1 x2 x3 x4 x5 h0 n0) v U'.heap L ∧ FrameEnd s o U' L ({ frames := 0, cells := 0, slots := 0, locals := 0 } : Room).cells ({ frames := 0, cells := 0, slots := 0, locals := 0 } : Room).slots) (s₁.setTop (entryFrame m #[(.ref pb), (.int (0 : Int32)), (.int pch)] 3))
  refine own_go (B := s₁.setTop (mkF m 0 #[rv pb, iv (0 : Int32), iv pch] [])) (fun t k => castTop (own_pc3_0_ef m pb pch) k) ?_
  have K0 := Keep.refl h0 [pb]
  obtain ⟨T1, X1, e1, st1⟩ := getS X0 hx hZ hown (host := "") w_73 Via.refl e0 hSa (g := (mkF m 0 #[rv pb, iv (0 : Int32), iv pch] [])) rfl (hb hby own_pc3_0_d0)
  refine own_go (B := (T1.setTop (mkF m 3 #[rv pb, iv (0 : Int32), iv pch] [(.int (1 : Int32))]))) st1 ?_
  have hc3 : ¬ (1 : Int32) = (0 : Int32) := (by decide)
  refine own_ifY X1 hx (hb hby own_pc3_0_d3) (pc' := 28) (by decide) (by decide) hc3 ?_
  refine own_go (B := (T1.setTop (mkF m 29 #[rv pb, iv (0 : Int32), iv pch] [(.int (0 : Int32))]))) (fun t k => XS.iloadN X1.here hx rfl (hb hby own_pc3_0_d28) rfl k) ?_
  refine own_go (B := (T1.setTop (mkF m 30 #[rv pb, iv (0 : Int32), iv pch] [(.int (1 : Int32)), (.int (0 : Int32))]))) (fun t k => own_iconst (v := (1 : Int32)) X1.here hx rfl (hb hby own_pc3_0_d29) (by decide) k) ?_
  refine own_go (B := (T1.setTop (mkF m 31 #[rv pb, iv (0 : Int32), iv pch] [(.int ((0 : Int32) <<< ((1 : Int32) &&& 31)))]))) (fun t k => XS.ishl (x := (0 : Int32)) (y := (1 : Int32)) X1.here hx rfl (hb hby own_pc3_0_d30) rfl k) ?_
  rw [show ((0 : Int32) <<< ((1 : Int32) &&& 31)) = (0 : Int32) from by decide]
  refine own_go (B := (T1.setTop (mkF m 32 #[rv pb, iv (0 : Int32), iv pch] []))) (fun t k => XS.istoreN X1.here hx rfl (hb hby own_pc3_0_d31) rfl (l' := #[rv pb, iv (0 : Int32), iv pch]) rfl k) ?_
  refine own_go (B := (T1.setTop (mkF m 33 #[rv pb, iv (0 : Int32), iv pch] [(.ref pb)]))) (fun t k => XS.aloadN X1.here hx rfl (hb hby own_pc3_0_d32) rfl rfl k) ?_
  refine own_go (B := (T1.setTop (mkF m 34 #[rv pb, iv (0 : Int32), iv pch] [(.int (0 : Int32)), (.ref pb)]))) (fun t k => XS.iloadN X1.here hx rfl (hb hby own_pc3_0_d33) rfl k) ?_
  refine own_go (B := (T1.setTop (mkF m 37 #[rv pb, iv (1 : Int32), iv pch] [(.int (0 : Int32)), (.ref pb)]))) (fun t k => XS.iinc X1.here hx rfl (hb hby own_pc3_0_d34) rfl (l' := #[rv pb, iv (1 : Int32), iv pch]) rfl k) ?_
  refine own_go (B := (T1.setTop (mkF m 38 #[rv pb, iv (1 : Int32), iv pch] [(.int pch), (.int (0 : Int32)), (.ref pb)]))) (fun t k => XS.iloadN X1.here hx rfl (hb hby own_pc3_0_d37) rfl k) ?_
  obtain ⟨T2, X2, e2, st2⟩ := getS X1 hx hZ hown (host := "") w_74 Via.refl e1 hSh (g := (mkF m 38 #[rv pb, iv (1 : Int32), iv pch] [(.int pch), (.int (0 : Int32)), (.ref pb)])) rfl (hb hby own_pc3_0_d38)
  refine own_go (B := (T2.setTop (mkF m 41 #[rv pb, iv (1 : Int32), iv pch] [(.int (0 : Int32)), (.int pch), (.int (0 : Int32)), (.ref pb)]))) st2 ?_
  refine own_go (B := (T2.setTop (mkF m 42 #[rv pb, iv (1 : Int32), iv pch] [(.int (pch >>> ((0 : Int32) &&& 31))), (.int (0 : Int32)), (.ref pb)]))) (fun t k => XS.ishr (x := pch) (y := (0 : Int32)) X2.here hx rfl (hb hby own_pc3_0_d41) rfl k) ?_
  refine own_go (B := (T2.setTop (mkF m 43 #[rv pb, iv (1 : Int32), iv pch] [(.int ((pch >>> ((0 : Int32) &&& 31)).toInt8.toInt32)), (.int (0 : Int32)), (.ref pb)]))) (fun t k => XS.i2b X2.here hx rfl (hb hby own_pc3_0_d42) rfl k) ?_
  obtain ⟨T3, h3, X3, e3, W3, V3, st3⟩ := own_stB X2 hx hZ e2 V0 (i := 0) (by decide) (by decide) (Nat.lt_of_lt_of_eq (by decide : 0 < 6) rfl) (own_i2b _) (L' := [(.int ((pch >>> ((0 : Int32) &&& 31)).toInt8.toInt32)), (.int x1), (.int x2), (.int x3), (.int x4), (.int x5)]) rfl (g := (mkF m 43 #[rv pb, iv (1 : Int32), iv pch] [(.int ((pch >>> ((0 : Int32) &&& 31)).toInt8.toInt32)), (.int (0 : Int32)), (.ref pb)])) rfl rfl (hb hby own_pc3_0_d43)
  refine own_go (B := (T3.setTop (mkF m 44 #[rv pb, iv (1 : Int32), iv pch] []))) st3 ?_
  obtain ⟨L3, X3, N3⟩ := own_abs X3 (Fr.snoc X3 N0 g0)
  have F4 : n0 ≤ h3.size := by rw [W3.size]; exact Z0
  have F5 := Keep.wr K0 W3 (Or.inl (List.mem_of_getElem? (i := 0) rfl))
  have F7 := Sta.wr W3 hSa
  have F8 := Sta.wr W3 hSh
  have F9 := Sta.wr W3 hSl
  refine own_go (B := (T3.setTop (mkF m 45 #[rv pb, iv (1 : Int32), iv pch] [(.ref pb)]))) (fun t k => XS.aloadN X3.here hx rfl (hb hby own_pc3_0_d44) rfl rfl k) ?_
  refine own_go (B := (T3.setTop (mkF m 46 #[rv pb, iv (1 : Int32), iv pch] [(.int (1 : Int32)), (.ref pb)]))) (fun t k => XS.iloadN X3.here hx rfl (hb hby own_pc3_0_d45) rfl k) ?_
  refine own_go (B := (T3.setTop (mkF m 47 #[rv pb, iv (1 : Int32), iv pch] [(.int pch), (.int (1 : Int32)), (.ref pb)]))) (fun t k => XS.iloadN X3.here hx rfl (hb hby own_pc3_0_d46) rfl k) ?_
  obtain ⟨T10, X10, e10, st10⟩ := getS X3 hx hZ hown (host := "") w_75 Via.refl e3 F9 (g := (mkF m 47 #[rv pb, iv (1 : Int32), iv pch] [(.int pch), (.int (1 : Int32)), (.ref pb)])) rfl (hb hby own_pc3_0_d47)
  refine own_go (B := (T10.setTop (mkF m 50 #[rv pb, iv (1 : Int32), iv pch] [(.int (8 : Int32)), (.int pch), (.int (1 : Int32)), (.ref pb)]))) st10 ?_
  refine own_go (B := (T10.setTop (mkF m 51 #[rv pb, iv (1 : Int32), iv pch] [(.int (pch >>> ((8 : Int32) &&& 31))), (.int (1 : Int32)), (.ref pb)]))) (fun t k => XS.ishr (x := pch) (y := (8 : Int32)) X10.here hx rfl (hb hby own_pc3_0_d50) rfl k) ?_
  refine own_go (B := (T10.setTop (mkF m 52 #[rv pb, iv (1 : Int32), iv pch] [(.int ((pch >>> ((8 : Int32) &&& 31)).toInt8.toInt32)), (.int (1 : Int32)), (.ref pb)]))) (fun t k => XS.i2b X10.here hx rfl (hb hby own_pc3_0_d51) rfl k) ?_
  obtain ⟨T11, h11, X11, e11, W11, V11, st11⟩ := own_stB X10 hx hZ e10 V3 (i := 1) (by decide) (by decide) (Nat.lt_of_lt_of_eq (by decide : 1 < 6) rfl) (own_i2b _) (L' := [(.int ((pch >>> ((0 : Int32) &&& 31)).toInt8.toInt32)), (.int ((pch >>> ((8 : Int32) &&& 31)).toInt8.toInt32)), (.int x2), (.int x3), (.int x4), (.int x5)]) rfl (g := (mkF m 52 #[rv pb, iv (1 : Int32), iv pch] [(.int ((pch >>> ((8 : Int32) &&& 31)).toInt8.toInt32)), (.int (1 : Int32)), (.ref pb)])) rfl rfl (hb hby own_pc3_0_d52)
  refine own_go (B := (T11.setTop (mkF m 53 #[rv pb, iv (1 : Int32), iv pch] []))) st11 ?_
  obtain ⟨L11, X11, N11⟩ := own_abs X11 (Fr.snoc X11 N3 g0)
  have F12 : n0 ≤ h11.size := by rw [W11.size]; exact F4
  have F13 := Keep.wr F5 W11 (Or.inl (List.mem_of_getElem? (i := 0) rfl))
  have F15 := Sta.wr W11 F7
  have F16 := Sta.wr W11 F8
  have F17 := Sta.wr W11 F9
  exact own_retV X11 hx hlk Bd.returns (hb hby own_pc3_0_d53) (own_b rfl) (own_b rfl) (Q := (own_pc3_0_Q Z pb pch x0 x1 x2 x3 x4 x5 h0 n0)) (by rw [e11]; exact ⟨rfl, N11, F13, V11⟩)

theorem own_pc3_1_d0 : decode jdk_52_method_4_code 0 = .ok (.getstatic 44, 3) := by decide +kernel
theorem own_pc3_1_d3 : decode jdk_52_method_4_code 3 = .ok (.ifCond .ne 25, 3) := by decide +kernel
theorem own_pc3_1_d28 : decode jdk_52_method_4_code 28 = .ok (.iload_n 1, 1) := by decide +kernel
theorem own_pc3_1_d29 : decode jdk_52_method_4_code 29 = .ok (.iconst 1, 1) := by decide +kernel
theorem own_pc3_1_d30 : decode jdk_52_method_4_code 30 = .ok (.ishl, 1) := by decide +kernel
theorem own_pc3_1_d31 : decode jdk_52_method_4_code 31 = .ok (.istore_n 1, 1) := by decide +kernel
theorem own_pc3_1_d32 : decode jdk_52_method_4_code 32 = .ok (.aload_n 0, 1) := by decide +kernel
theorem own_pc3_1_d33 : decode jdk_52_method_4_code 33 = .ok (.iload_n 1, 1) := by decide +kernel
theorem own_pc3_1_d34 : decode jdk_52_method_4_code 34 = .ok (.iinc 1 1, 3) := by decide +kernel
theorem own_pc3_1_d37 : decode jdk_52_method_4_code 37 = .ok (.iload_n 2, 1) := by decide +kernel
theorem own_pc3_1_d38 : decode jdk_52_method_4_code 38 = .ok (.getstatic 59, 3) := by decide +kernel
theorem own_pc3_1_d41 : decode jdk_52_method_4_code 41 = .ok (.ishr, 1) := by decide +kernel
theorem own_pc3_1_d42 : decode jdk_52_method_4_code 42 = .ok (.i2b, 1) := by decide +kernel
theorem own_pc3_1_d43 : decode jdk_52_method_4_code 43 = .ok (.bastore, 1) := by decide +kernel
theorem own_pc3_1_d44 : decode jdk_52_method_4_code 44 = .ok (.aload_n 0, 1) := by decide +kernel
theorem own_pc3_1_d45 : decode jdk_52_method_4_code 45 = .ok (.iload_n 1, 1) := by decide +kernel
theorem own_pc3_1_d46 : decode jdk_52_method_4_code 46 = .ok (.iload_n 2, 1) := by decide +kernel
theorem own_pc3_1_d47 : decode jdk_52_method_4_code 47 = .ok (.getstatic 63, 3) := by decide +kernel
theorem own_pc3_1_d50 : decode jdk_52_method_4_code 50 = .ok (.ishr, 1) := by decide +kernel
theorem own_pc3_1_d51 : decode jdk_52_method_4_code 51 = .ok (.i2b, 1) := by decide +kernel
theorem own_pc3_1_d52 : decode jdk_52_method_4_code 52 = .ok (.bastore, 1) := by decide +kernel
theorem own_pc3_1_d53 : decode jdk_52_method_4_code 53 = .ok (.return_, 1) := by decide +kernel
theorem own_pc3_1_pn : plainName "java/lang/StringUTF16" = true := by first | (simp [plainName, overriddenIn]; done) | decide +kernel
theorem own_pc3_1_ef (m : MethodId) (pb : Addr) (pch : Int32) : entryFrame m #[(.ref pb), (.int (1 : Int32)), (.int pch)] 3 = mkF m 0 #[rv pb, iv (1 : Int32), iv pch] [] := by first | (simp [entryFrame, mkF, argsToLocals, Value.category]; done) | rfl
def own_pc3_1_Q (Z : State) (pb : Addr) (pch : Int32) (x0 x1 x2 x3 x4 x5 : Int32) (h0 : Heap) (n0 : Nat) (v : Option Value) (h : Heap) (L : List Loc) : Prop := v = none ∧ Fr n0 L ∧ Keep h0 h [pb] ∧ own_Ar Z h pb .byte [(.int x0), (.int x1), (.int ((pch >>> ((0 : Int32) &&& 31)).toInt8.toInt32)), (.int ((pch >>> ((8 : Int32) &&& 31)).toInt8.toInt32)), (.int x4), (.int x5)]
set_option maxRecDepth 65536 in
set_option maxHeartbeats 40000000 in
theorem own_pc3_1 (l : Launch) (Z : State) (a0 : Array Value) (hw : ∀ d ∈ tables_1, d.before a0 Z = true) (ws : List Jvm.Cond) (pb : Addr) (pch : Int32) (x0 x1 x2 x3 x4 x5 : Int32) (h0 : Heap) (n0 : Nat) (Z0 : n0 ≤ h0.size) (g0 : n0 ≤ pb) (V0 : own_Ar Z h0 pb .byte [(.int x0), (.int x1), (.int x2), (.int x3), (.int x4), (.int x5)]) (hSa : Sta Z h0 "java/lang/StringUTF16" "$assertionsDisabled" "Z" (.int (1 : Int32))) (hSh : Sta Z h0 "java/lang/StringUTF16" "HI_BYTE_SHIFT" "I" (.int (0 : Int32))) (hSl : Sta Z h0 "java/lang/StringUTF16" "LO_BYTE_SHIFT" "I" (.int (8 : Int32))) :
    MetFree l own_y3 (head1 (Jvm.Cond.code own_y3 jdk_52_method_4_code 3 none :: ws) ({ frames := 0, cells := 0, slots := 0, locals := 0 } : Room)) (fun a U => a = #[(.ref pb), (.int (1 : Int32)), (.int pch)] ∧ Z.Warmed39 U.vm ∧ U.heap = h0) (fun _ _ _ _ _ => True) (fun _ U o U' => ∃ v L, o = .returned v ∧ (own_pc3_1_Q Z pb pch x0 x1 x2 x3 x4 x5 h0 n0) v U'.heap L ∧ FrameEnd U o U' L ({ frames := 0, cells := 0, slots := 0, locals := 0 } : Room).cells ({ frames := 0, cells := 0, slots := 0, locals := 0 } : Room).slots) := by
  refine MetFree.of_bodySF (plainFor_of_name own_pc3_1_pn) hisR ?_
  intro p e s m args below meth c s₁ Bd hml0 hP hK
  obtain ⟨rfl, hZ, hh⟩ := hP
  have hx := Bd.exec
  have hby := Bd.bytes
  have hml : c.maxLocals = 3 := hml0
  have hown : s.vm.findClass "java/lang/StringUTF16" = some m.cls := findClass_of_methodNamed Bd.named
  have hnm := (name_of_methodNamed Bd.named Bd.method).1
  have hlk : meth.locks = false := Bd.notSynchronized
  have X0 : Stand p l e ({ frames := 0, cells := 0, slots := 0, locals := 0 } : Room) s m #[(.ref pb), (.int (1 : Int32)), (.int pch)] below meth c s₁ [] 0 0 := Stand.of_body Bd
  have e0 : s₁.heap = h0 := by rw [← hh, Bd.state]; rfl
  have N0 := Fr.nil n0
  have w_73 := hw _ (List.mem_of_getElem? (l := tables_1) (i := 73) rfl)
  have w_74 := hw _ (List.mem_of_getElem? (l := tables_1) (i := 74) rfl)
  have w_75 := hw _ (List.mem_of_getElem? (l := tables_1) (i := 75) rfl)
  show own_G p.tables e below (fun o U' => ∃ v L, o = .returned v ∧ (own_pc3_1_Q Z pb pch x0 x1 x2 x3 x4 x5 h0 n0) v U'.heap L ∧ FrameEnd s o U' L ({ frames := 0, cells := 0, slots := 0, locals := 0 } : Room).cells ({ frames := 0, cells := 0, slots := 0, locals := 0 } : Room).slots) (s₁.setTop (entryFrame m #[(.ref pb), (.int (1 : Int32)), (.int pch)] 3))
  refine own_go (B := s₁.setTop (mkF m 0 #[rv pb, iv (1 : Int32), iv pch] [])) (fun t k => castTop (own_pc3_1_ef m pb pch) k) ?_
  have K0 := Keep.refl h0 [pb]
  obtain ⟨T1, X1, e1, st1⟩ := getS X0 hx hZ hown (host := "") w_73 Via.refl e0 hSa (g := (mkF m 0 #[rv pb, iv (1 : Int32), iv pch] [])) rfl (hb hby own_pc3_1_d0)
  refine own_go (B := (T1.setTop (mkF m 3 #[rv pb, iv (1 : Int32), iv pch] [(.int (1 : Int32))]))) st1 ?_
  have hc3 : ¬ (1 : Int32) = (0 : Int32) := (by decide)
  refine own_ifY X1 hx (hb hby own_pc3_1_d3) (pc' := 28) (by decide) (by decide) hc3 ?_
  refine own_go (B := (T1.setTop (mkF m 29 #[rv pb, iv (1 : Int32), iv pch] [(.int (1 : Int32))]))) (fun t k => XS.iloadN X1.here hx rfl (hb hby own_pc3_1_d28) rfl k) ?_
  refine own_go (B := (T1.setTop (mkF m 30 #[rv pb, iv (1 : Int32), iv pch] [(.int (1 : Int32)), (.int (1 : Int32))]))) (fun t k => own_iconst (v := (1 : Int32)) X1.here hx rfl (hb hby own_pc3_1_d29) (by decide) k) ?_
  refine own_go (B := (T1.setTop (mkF m 31 #[rv pb, iv (1 : Int32), iv pch] [(.int ((1 : Int32) <<< ((1 : Int32) &&& 31)))]))) (fun t k => XS.ishl (x := (1 : Int32)) (y := (1 : Int32)) X1.here hx rfl (hb hby own_pc3_1_d30) rfl k) ?_
  rw [show ((1 : Int32) <<< ((1 : Int32) &&& 31)) = (2 : Int32) from by decide]
  refine own_go (B := (T1.setTop (mkF m 32 #[rv pb, iv (2 : Int32), iv pch] []))) (fun t k => XS.istoreN X1.here hx rfl (hb hby own_pc3_1_d31) rfl (l' := #[rv pb, iv (2 : Int32), iv pch]) rfl k) ?_
  refine own_go (B := (T1.setTop (mkF m 33 #[rv pb, iv (2 : Int32), iv pch] [(.ref pb)]))) (fun t k => XS.aloadN X1.here hx rfl (hb hby own_pc3_1_d32) rfl rfl k) ?_
  refine own_go (B := (T1.setTop (mkF m 34 #[rv pb, iv (2 : Int32), iv pch] [(.int (2 : Int32)), (.ref pb)]))) (fun t k => XS.iloadN X1.here hx rfl (hb hby own_pc3_1_d33) rfl k) ?_
  refine own_go (B := (T1.setTop (mkF m 37 #[rv pb, iv (3 : Int32), iv pch] [(.int (2 : Int32)), (.ref pb)]))) (fun t k => XS.iinc X1.here hx rfl (hb hby own_pc3_1_d34) rfl (l' := #[rv pb, iv (3 : Int32), iv pch]) rfl k) ?_
  refine own_go (B := (T1.setTop (mkF m 38 #[rv pb, iv (3 : Int32), iv pch] [(.int pch), (.int (2 : Int32)), (.ref pb)]))) (fun t k => XS.iloadN X1.here hx rfl (hb hby own_pc3_1_d37) rfl k) ?_
  obtain ⟨T2, X2, e2, st2⟩ := getS X1 hx hZ hown (host := "") w_74 Via.refl e1 hSh (g := (mkF m 38 #[rv pb, iv (3 : Int32), iv pch] [(.int pch), (.int (2 : Int32)), (.ref pb)])) rfl (hb hby own_pc3_1_d38)
  refine own_go (B := (T2.setTop (mkF m 41 #[rv pb, iv (3 : Int32), iv pch] [(.int (0 : Int32)), (.int pch), (.int (2 : Int32)), (.ref pb)]))) st2 ?_
  refine own_go (B := (T2.setTop (mkF m 42 #[rv pb, iv (3 : Int32), iv pch] [(.int (pch >>> ((0 : Int32) &&& 31))), (.int (2 : Int32)), (.ref pb)]))) (fun t k => XS.ishr (x := pch) (y := (0 : Int32)) X2.here hx rfl (hb hby own_pc3_1_d41) rfl k) ?_
  refine own_go (B := (T2.setTop (mkF m 43 #[rv pb, iv (3 : Int32), iv pch] [(.int ((pch >>> ((0 : Int32) &&& 31)).toInt8.toInt32)), (.int (2 : Int32)), (.ref pb)]))) (fun t k => XS.i2b X2.here hx rfl (hb hby own_pc3_1_d42) rfl k) ?_
  obtain ⟨T3, h3, X3, e3, W3, V3, st3⟩ := own_stB X2 hx hZ e2 V0 (i := 2) (by decide) (by decide) (Nat.lt_of_lt_of_eq (by decide : 2 < 6) rfl) (own_i2b _) (L' := [(.int x0), (.int x1), (.int ((pch >>> ((0 : Int32) &&& 31)).toInt8.toInt32)), (.int x3), (.int x4), (.int x5)]) rfl (g := (mkF m 43 #[rv pb, iv (3 : Int32), iv pch] [(.int ((pch >>> ((0 : Int32) &&& 31)).toInt8.toInt32)), (.int (2 : Int32)), (.ref pb)])) rfl rfl (hb hby own_pc3_1_d43)
  refine own_go (B := (T3.setTop (mkF m 44 #[rv pb, iv (3 : Int32), iv pch] []))) st3 ?_
  obtain ⟨L3, X3, N3⟩ := own_abs X3 (Fr.snoc X3 N0 g0)
  have F4 : n0 ≤ h3.size := by rw [W3.size]; exact Z0
  have F5 := Keep.wr K0 W3 (Or.inl (List.mem_of_getElem? (i := 0) rfl))
  have F7 := Sta.wr W3 hSa
  have F8 := Sta.wr W3 hSh
  have F9 := Sta.wr W3 hSl
  refine own_go (B := (T3.setTop (mkF m 45 #[rv pb, iv (3 : Int32), iv pch] [(.ref pb)]))) (fun t k => XS.aloadN X3.here hx rfl (hb hby own_pc3_1_d44) rfl rfl k) ?_
  refine own_go (B := (T3.setTop (mkF m 46 #[rv pb, iv (3 : Int32), iv pch] [(.int (3 : Int32)), (.ref pb)]))) (fun t k => XS.iloadN X3.here hx rfl (hb hby own_pc3_1_d45) rfl k) ?_
  refine own_go (B := (T3.setTop (mkF m 47 #[rv pb, iv (3 : Int32), iv pch] [(.int pch), (.int (3 : Int32)), (.ref pb)]))) (fun t k => XS.iloadN X3.here hx rfl (hb hby own_pc3_1_d46) rfl k) ?_
  obtain ⟨T10, X10, e10, st10⟩ := getS X3 hx hZ hown (host := "") w_75 Via.refl e3 F9 (g := (mkF m 47 #[rv pb, iv (3 : Int32), iv pch] [(.int pch), (.int (3 : Int32)), (.ref pb)])) rfl (hb hby own_pc3_1_d47)
  refine own_go (B := (T10.setTop (mkF m 50 #[rv pb, iv (3 : Int32), iv pch] [(.int (8 : Int32)), (.int pch), (.int (3 : Int32)), (.ref pb)]))) st10 ?_
  refine own_go (B := (T10.setTop (mkF m 51 #[rv pb, iv (3 : Int32), iv pch] [(.int (pch >>> ((8 : Int32) &&& 31))), (.int (3 : Int32)), (.ref pb)]))) (fun t k => XS.ishr (x := pch) (y := (8 : Int32)) X10.here hx rfl (hb hby own_pc3_1_d50) rfl k) ?_
  refine own_go (B := (T10.setTop (mkF m 52 #[rv pb, iv (3 : Int32), iv pch] [(.int ((pch >>> ((8 : Int32) &&& 31)).toInt8.toInt32)), (.int (3 : Int32)), (.ref pb)]))) (fun t k => XS.i2b X10.here hx rfl (hb hby own_pc3_1_d51) rfl k) ?_
  obtain ⟨T11, h11, X11, e11, W11, V11, st11⟩ := own_stB X10 hx hZ e10 V3 (i := 3) (by decide) (by decide) (Nat.lt_of_lt_of_eq (by decide : 3 < 6) rfl) (own_i2b _) (L' := [(.int x0), (.int x1), (.int ((pch >>> ((0 : Int32) &&& 31)).toInt8.toInt32)), (.int ((pch >>> ((8 : Int32) &&& 31)).toInt8.toInt32)), (.int x4), (.int x5)]) rfl (g := (mkF m 52 #[rv pb, iv (3 : Int32), iv pch] [(.int ((pch >>> ((8 : Int32) &&& 31)).toInt8.toInt32)), (.int (3 : Int32)), (.ref pb)])) rfl rfl (hb hby own_pc3_1_d52)
  refine own_go (B := (T11.setTop (mkF m 53 #[rv pb, iv (3 : Int32), iv pch] []))) st11 ?_
  obtain ⟨L11, X11, N11⟩ := own_abs X11 (Fr.snoc X11 N3 g0)
  have F12 : n0 ≤ h11.size := by rw [W11.size]; exact F4
  have F13 := Keep.wr F5 W11 (Or.inl (List.mem_of_getElem? (i := 0) rfl))
  have F15 := Sta.wr W11 F7
  have F16 := Sta.wr W11 F8
  have F17 := Sta.wr W11 F9
  exact own_retV X11 hx hlk Bd.returns (hb hby own_pc3_1_d53) (own_b rfl) (own_b rfl) (Q := (own_pc3_1_Q Z pb pch x0 x1 x2 x3 x4 x5 h0 n0)) (by rw [e11]; exact ⟨rfl, N11, F13, V11⟩)

theorem own_pc3_2_d0 : decode jdk_52_method_4_code 0 = .ok (.getstatic 44, 3) := by decide +kernel
theorem own_pc3_2_d3 : decode jdk_52_method_4_code 3 = .ok (.ifCond .ne 25, 3) := by decide +kernel
theorem own_pc3_2_d28 : decode jdk_52_method_4_code 28 = .ok (.iload_n 1, 1) := by decide +kernel
theorem own_pc3_2_d29 : decode jdk_52_method_4_code 29 = .ok (.iconst 1, 1) := by decide +kernel
theorem own_pc3_2_d30 : decode jdk_52_method_4_code 30 = .ok (.ishl, 1) := by decide +kernel
theorem own_pc3_2_d31 : decode jdk_52_method_4_code 31 = .ok (.istore_n 1, 1) := by decide +kernel
theorem own_pc3_2_d32 : decode jdk_52_method_4_code 32 = .ok (.aload_n 0, 1) := by decide +kernel
theorem own_pc3_2_d33 : decode jdk_52_method_4_code 33 = .ok (.iload_n 1, 1) := by decide +kernel
theorem own_pc3_2_d34 : decode jdk_52_method_4_code 34 = .ok (.iinc 1 1, 3) := by decide +kernel
theorem own_pc3_2_d37 : decode jdk_52_method_4_code 37 = .ok (.iload_n 2, 1) := by decide +kernel
theorem own_pc3_2_d38 : decode jdk_52_method_4_code 38 = .ok (.getstatic 59, 3) := by decide +kernel
theorem own_pc3_2_d41 : decode jdk_52_method_4_code 41 = .ok (.ishr, 1) := by decide +kernel
theorem own_pc3_2_d42 : decode jdk_52_method_4_code 42 = .ok (.i2b, 1) := by decide +kernel
theorem own_pc3_2_d43 : decode jdk_52_method_4_code 43 = .ok (.bastore, 1) := by decide +kernel
theorem own_pc3_2_d44 : decode jdk_52_method_4_code 44 = .ok (.aload_n 0, 1) := by decide +kernel
theorem own_pc3_2_d45 : decode jdk_52_method_4_code 45 = .ok (.iload_n 1, 1) := by decide +kernel
theorem own_pc3_2_d46 : decode jdk_52_method_4_code 46 = .ok (.iload_n 2, 1) := by decide +kernel
theorem own_pc3_2_d47 : decode jdk_52_method_4_code 47 = .ok (.getstatic 63, 3) := by decide +kernel
theorem own_pc3_2_d50 : decode jdk_52_method_4_code 50 = .ok (.ishr, 1) := by decide +kernel
theorem own_pc3_2_d51 : decode jdk_52_method_4_code 51 = .ok (.i2b, 1) := by decide +kernel
theorem own_pc3_2_d52 : decode jdk_52_method_4_code 52 = .ok (.bastore, 1) := by decide +kernel
theorem own_pc3_2_d53 : decode jdk_52_method_4_code 53 = .ok (.return_, 1) := by decide +kernel
theorem own_pc3_2_pn : plainName "java/lang/StringUTF16" = true := by first | (simp [plainName, overriddenIn]; done) | decide +kernel
theorem own_pc3_2_ef (m : MethodId) (pb : Addr) (pch : Int32) : entryFrame m #[(.ref pb), (.int (2 : Int32)), (.int pch)] 3 = mkF m 0 #[rv pb, iv (2 : Int32), iv pch] [] := by first | (simp [entryFrame, mkF, argsToLocals, Value.category]; done) | rfl
def own_pc3_2_Q (Z : State) (pb : Addr) (pch : Int32) (x0 x1 x2 x3 x4 x5 : Int32) (h0 : Heap) (n0 : Nat) (v : Option Value) (h : Heap) (L : List Loc) : Prop := v = none ∧ Fr n0 L ∧ Keep h0 h [pb] ∧ own_Ar Z h pb .byte [(.int x0), (.int x1), (.int x2), (.int x3), (.int ((pch >>> ((0 : Int32) &&& 31)).toInt8.toInt32)), (.int ((pch >>> ((8 : Int32) &&& 31)).toInt8.toInt32))]
set_option maxRecDepth 65536 in
set_option maxHeartbeats 40000000 in
theorem own_pc3_2 (l : Launch) (Z : State) (a0 : Array Value) (hw : ∀ d ∈ tables_1, d.before a0 Z = true) (ws : List Jvm.Cond) (pb : Addr) (pch : Int32) (x0 x1 x2 x3 x4 x5 : Int32) (h0 : Heap) (n0 : Nat) (Z0 : n0 ≤ h0.size) (g0 : n0 ≤ pb) (V0 : own_Ar Z h0 pb .byte [(.int x0), (.int x1), (.int x2), (.int x3), (.int x4), (.int x5)]) (hSa : Sta Z h0 "java/lang/StringUTF16" "$assertionsDisabled" "Z" (.int (1 : Int32))) (hSh : Sta Z h0 "java/lang/StringUTF16" "HI_BYTE_SHIFT" "I" (.int (0 : Int32))) (hSl : Sta Z h0 "java/lang/StringUTF16" "LO_BYTE_SHIFT" "I" (.int (8 : Int32))) :
    MetFree l own_y3 (head1 (Jvm.Cond.code own_y3 jdk_52_method_4_code 3 none :: ws) ({ frames := 0, cells := 0, slots := 0, locals := 0 } : Room)) (fun a U => a = #[(.ref pb), (.int (2 : Int32)), (.int pch)] ∧ Z.Warmed39 U.vm ∧ U.heap = h0) (fun _ _ _ _ _ => True) (fun _ U o U' => ∃ v L, o = .returned v ∧ (own_pc3_2_Q Z pb pch x0 x1 x2 x3 x4 x5 h0 n0) v U'.heap L ∧ FrameEnd U o U' L ({ frames := 0, cells := 0, slots := 0, locals := 0 } : Room).cells ({ frames := 0, cells := 0, slots := 0, locals := 0 } : Room).slots) := by
  refine MetFree.of_bodySF (plainFor_of_name own_pc3_2_pn) hisR ?_
  intro p e s m args below meth c s₁ Bd hml0 hP hK
  obtain ⟨rfl, hZ, hh⟩ := hP
  have hx := Bd.exec
  have hby := Bd.bytes
  have hml : c.maxLocals = 3 := hml0
  have hown : s.vm.findClass "java/lang/StringUTF16" = some m.cls := findClass_of_methodNamed Bd.named
  have hnm := (name_of_methodNamed Bd.named Bd.method).1
  have hlk : meth.locks = false := Bd.notSynchronized
  have X0 : Stand p l e ({ frames := 0, cells := 0, slots := 0, locals := 0 } : Room) s m #[(.ref pb), (.int (2 : Int32)), (.int pch)] below meth c s₁ [] 0 0 := Stand.of_body Bd
  have e0 : s₁.heap = h0 := by rw [← hh, Bd.state]; rfl
  have N0 := Fr.nil n0
  have w_73 := hw _ (List.mem_of_getElem? (l := tables_1) (i := 73) rfl)
  have w_74 := hw _ (List.mem_of_getElem? (l := tables_1) (i := 74) rfl)
  have w_75 := hw _ (List.mem_of_getElem? (l := tables_1) (i := 75) rfl)
  show own_G p.tables e below (fun o U' => ∃ v L, o = .returned v ∧ (own_pc3_2_Q Z pb pch x0 x1 x2 x3 x4 x5 h0 n0) v U'.heap L ∧ FrameEnd s o U' L ({ frames := 0, cells := 0, slots := 0, locals := 0 } : Room).cells ({ frames := 0, cells := 0, slots := 0, locals := 0 } : Room).slots) (s₁.setTop (entryFrame m #[(.ref pb), (.int (2 : Int32)), (.int pch)] 3))
  refine own_go (B := s₁.setTop (mkF m 0 #[rv pb, iv (2 : Int32), iv pch] [])) (fun t k => castTop (own_pc3_2_ef m pb pch) k) ?_
  have K0 := Keep.refl h0 [pb]
  obtain ⟨T1, X1, e1, st1⟩ := getS X0 hx hZ hown (host := "") w_73 Via.refl e0 hSa (g := (mkF m 0 #[rv pb, iv (2 : Int32), iv pch] [])) rfl (hb hby own_pc3_2_d0)
  refine own_go (B := (T1.setTop (mkF m 3 #[rv pb, iv (2 : Int32), iv pch] [(.int (1 : Int32))]))) st1 ?_
  have hc3 : ¬ (1 : Int32) = (0 : Int32) := (by decide)
  refine own_ifY X1 hx (hb hby own_pc3_2_d3) (pc' := 28) (by decide) (by decide) hc3 ?_
  refine own_go (B := (T1.setTop (mkF m 29 #[rv pb, iv (2 : Int32), iv pch] [(.int (2 : Int32))]))) (fun t k => XS.iloadN X1.here hx rfl (hb hby own_pc3_2_d28) rfl k) ?_
  refine own_go (B := (T1.setTop (mkF m 30 #[rv pb, iv (2 : Int32), iv pch] [(.int (1 : Int32)), (.int (2 : Int32))]))) (fun t k => own_iconst (v := (1 : Int32)) X1.here hx rfl (hb hby own_pc3_2_d29) (by decide) k) ?_
  refine own_go (B := (T1.setTop (mkF m 31 #[rv pb, iv (2 : Int32), iv pch] [(.int ((2 : Int32) <<< ((1 : Int32) &&& 31)))]))) (fun t k => XS.ishl (x := (2 : Int32)) (y := (1 : Int32)) X1.here hx rfl (hb hby own_pc3_2_d30) rfl k) ?_
  rw [show ((2 : Int32) <<< ((1 : Int32) &&& 31)) = (4 : Int32) from by decide]
  refine own_go (B := (T1.setTop (mkF m 32 #[rv pb, iv (4 : Int32), iv pch] []))) (fun t k => XS.istoreN X1.here hx rfl (hb hby own_pc3_2_d31) rfl (l' := #[rv pb, iv (4 : Int32), iv pch]) rfl k) ?_
  refine own_go (B := (T1.setTop (mkF m 33 #[rv pb, iv (4 : Int32), iv pch] [(.ref pb)]))) (fun t k => XS.aloadN X1.here hx rfl (hb hby own_pc3_2_d32) rfl rfl k) ?_
  refine own_go (B := (T1.setTop (mkF m 34 #[rv pb, iv (4 : Int32), iv pch] [(.int (4 : Int32)), (.ref pb)]))) (fun t k => XS.iloadN X1.here hx rfl (hb hby own_pc3_2_d33) rfl k) ?_
  refine own_go (B := (T1.setTop (mkF m 37 #[rv pb, iv (5 : Int32), iv pch] [(.int (4 : Int32)), (.ref pb)]))) (fun t k => XS.iinc X1.here hx rfl (hb hby own_pc3_2_d34) rfl (l' := #[rv pb, iv (5 : Int32), iv pch]) rfl k) ?_
  refine own_go (B := (T1.setTop (mkF m 38 #[rv pb, iv (5 : Int32), iv pch] [(.int pch), (.int (4 : Int32)), (.ref pb)]))) (fun t k => XS.iloadN X1.here hx rfl (hb hby own_pc3_2_d37) rfl k) ?_
  obtain ⟨T2, X2, e2, st2⟩ := getS X1 hx hZ hown (host := "") w_74 Via.refl e1 hSh (g := (mkF m 38 #[rv pb, iv (5 : Int32), iv pch] [(.int pch), (.int (4 : Int32)), (.ref pb)])) rfl (hb hby own_pc3_2_d38)
  refine own_go (B := (T2.setTop (mkF m 41 #[rv pb, iv (5 : Int32), iv pch] [(.int (0 : Int32)), (.int pch), (.int (4 : Int32)), (.ref pb)]))) st2 ?_
  refine own_go (B := (T2.setTop (mkF m 42 #[rv pb, iv (5 : Int32), iv pch] [(.int (pch >>> ((0 : Int32) &&& 31))), (.int (4 : Int32)), (.ref pb)]))) (fun t k => XS.ishr (x := pch) (y := (0 : Int32)) X2.here hx rfl (hb hby own_pc3_2_d41) rfl k) ?_
  refine own_go (B := (T2.setTop (mkF m 43 #[rv pb, iv (5 : Int32), iv pch] [(.int ((pch >>> ((0 : Int32) &&& 31)).toInt8.toInt32)), (.int (4 : Int32)), (.ref pb)]))) (fun t k => XS.i2b X2.here hx rfl (hb hby own_pc3_2_d42) rfl k) ?_
  obtain ⟨T3, h3, X3, e3, W3, V3, st3⟩ := own_stB X2 hx hZ e2 V0 (i := 4) (by decide) (by decide) (Nat.lt_of_lt_of_eq (by decide : 4 < 6) rfl) (own_i2b _) (L' := [(.int x0), (.int x1), (.int x2), (.int x3), (.int ((pch >>> ((0 : Int32) &&& 31)).toInt8.toInt32)), (.int x5)]) rfl (g := (mkF m 43 #[rv pb, iv (5 : Int32), iv pch] [(.int ((pch >>> ((0 : Int32) &&& 31)).toInt8.toInt32)), (.int (4 : Int32)), (.ref pb)])) rfl rfl (hb hby own_pc3_2_d43)
  refine own_go (B := (T3.setTop (mkF m 44 #[rv pb, iv (5 : Int32), iv pch] []))) st3 ?_
  obtain ⟨L3, X3, N3⟩ := own_abs X3 (Fr.snoc X3 N0 g0)
  have F4 : n0 ≤ h3.size := by rw [W3.size]; exact Z0
  have F5 := Keep.wr K0 W3 (Or.inl (List.mem_of_getElem? (i := 0) rfl))
  have F7 := Sta.wr W3 hSa
  have F8 := Sta.wr W3 hSh
  have F9 := Sta.wr W3 hSl
  refine own_go (B := (T3.setTop (mkF m 45 #[rv pb, iv (5 : Int32), iv pch] [(.ref pb)]))) (fun t k => XS.aloadN X3.here hx rfl (hb hby own_pc3_2_d44) rfl rfl k) ?_
  refine own_go (B := (T3.setTop (mkF m 46 #[rv pb, iv (5 : Int32), iv pch] [(.int (5 : Int32)), (.ref pb)]))) (fun t k => XS.iloadN X3.here hx rfl (hb hby own_pc3_2_d45) rfl k) ?_
  refine own_go (B := (T3.setTop (mkF m 47 #[rv pb, iv (5 : Int32), iv pch] [(.int pch), (.int (5 : Int32)), (.ref pb)]))) (fun t k => XS.iloadN X3.here hx rfl (hb hby own_pc3_2_d46) rfl k) ?_
  obtain ⟨T10, X10, e10, st10⟩ := getS X3 hx hZ hown (host := "") w_75 Via.refl e3 F9 (g := (mkF m 47 #[rv pb, iv (5 : Int32), iv pch] [(.int pch), (.int (5 : Int32)), (.ref pb)])) rfl (hb hby own_pc3_2_d47)
  refine own_go (B := (T10.setTop (mkF m 50 #[rv pb, iv (5 : Int32), iv pch] [(.int (8 : Int32)), (.int pch), (.int (5 : Int32)), (.ref pb)]))) st10 ?_
  refine own_go (B := (T10.setTop (mkF m 51 #[rv pb, iv (5 : Int32), iv pch] [(.int (pch >>> ((8 : Int32) &&& 31))), (.int (5 : Int32)), (.ref pb)]))) (fun t k => XS.ishr (x := pch) (y := (8 : Int32)) X10.here hx rfl (hb hby own_pc3_2_d50) rfl k) ?_
  refine own_go (B := (T10.setTop (mkF m 52 #[rv pb, iv (5 : Int32), iv pch] [(.int ((pch >>> ((8 : Int32) &&& 31)).toInt8.toInt32)), (.int (5 : Int32)), (.ref pb)]))) (fun t k => XS.i2b X10.here hx rfl (hb hby own_pc3_2_d51) rfl k) ?_
  obtain ⟨T11, h11, X11, e11, W11, V11, st11⟩ := own_stB X10 hx hZ e10 V3 (i := 5) (by decide) (by decide) (Nat.lt_of_lt_of_eq (by decide : 5 < 6) rfl) (own_i2b _) (L' := [(.int x0), (.int x1), (.int x2), (.int x3), (.int ((pch >>> ((0 : Int32) &&& 31)).toInt8.toInt32)), (.int ((pch >>> ((8 : Int32) &&& 31)).toInt8.toInt32))]) rfl (g := (mkF m 52 #[rv pb, iv (5 : Int32), iv pch] [(.int ((pch >>> ((8 : Int32) &&& 31)).toInt8.toInt32)), (.int (5 : Int32)), (.ref pb)])) rfl rfl (hb hby own_pc3_2_d52)
  refine own_go (B := (T11.setTop (mkF m 53 #[rv pb, iv (5 : Int32), iv pch] []))) st11 ?_
  obtain ⟨L11, X11, N11⟩ := own_abs X11 (Fr.snoc X11 N3 g0)
  have F12 : n0 ≤ h11.size := by rw [W11.size]; exact F4
  have F13 := Keep.wr F5 W11 (Or.inl (List.mem_of_getElem? (i := 0) rfl))
  have F15 := Sta.wr W11 F7
  have F16 := Sta.wr W11 F8
  have F17 := Sta.wr W11 F9
  exact own_retV X11 hx hlk Bd.returns (hb hby own_pc3_2_d53) (own_b rfl) (own_b rfl) (Q := (own_pc3_2_Q Z pb pch x0 x1 x2 x3 x4 x5 h0 n0)) (by rw [e11]; exact ⟨rfl, N11, F13, V11⟩)

theorem own_gc2_0_d0 : decode jdk_52_method_5_code 0 = .ok (.getstatic 44, 3) := by decide +kernel
theorem own_gc2_0_d3 : decode jdk_52_method_5_code 3 = .ok (.ifCond .ne 25, 3) := by decide +kernel
theorem own_gc2_0_d28 : decode jdk_52_method_5_code 28 = .ok (.iload_n 1, 1) := by decide +kernel
theorem own_gc2_0_d29 : decode jdk_52_method_5_code 29 = .ok (.iconst 1, 1) := by decide +kernel
theorem own_gc2_0_d30 : decode jdk_52_method_5_code 30 = .ok (.ishl, 1) := by decide +kernel
theorem own_gc2_0_d31 : decode jdk_52_method_5_code 31 = .ok (.istore_n 1, 1) := by decide +kernel
theorem own_gc2_0_d32 : decode jdk_52_method_5_code 32 = .ok (.aload_n 0, 1) := by decide +kernel
theorem own_gc2_0_d33 : decode jdk_52_method_5_code 33 = .ok (.iload_n 1, 1) := by decide +kernel
theorem own_gc2_0_d34 : decode jdk_52_method_5_code 34 = .ok (.iinc 1 1, 3) := by decide +kernel
theorem own_gc2_0_d37 : decode jdk_52_method_5_code 37 = .ok (.baload, 1) := by decide +kernel
theorem own_gc2_0_d38 : decode jdk_52_method_5_code 38 = .ok (.sipush 255, 3) := by decide +kernel
theorem own_gc2_0_d41 : decode jdk_52_method_5_code 41 = .ok (.iand, 1) := by decide +kernel
theorem own_gc2_0_d42 : decode jdk_52_method_5_code 42 = .ok (.getstatic 59, 3) := by decide +kernel
theorem own_gc2_0_d45 : decode jdk_52_method_5_code 45 = .ok (.ishl, 1) := by decide +kernel
theorem own_gc2_0_d46 : decode jdk_52_method_5_code 46 = .ok (.aload_n 0, 1) := by decide +kernel
theorem own_gc2_0_d47 : decode jdk_52_method_5_code 47 = .ok (.iload_n 1, 1) := by decide +kernel
theorem own_gc2_0_d48 : decode jdk_52_method_5_code 48 = .ok (.baload, 1) := by decide +kernel
theorem own_gc2_0_d49 : decode jdk_52_method_5_code 49 = .ok (.sipush 255, 3) := by decide +kernel
theorem own_gc2_0_d52 : decode jdk_52_method_5_code 52 = .ok (.iand, 1) := by decide +kernel
theorem own_gc2_0_d53 : decode jdk_52_method_5_code 53 = .ok (.getstatic 63, 3) := by decide +kernel
theorem own_gc2_0_d56 : decode jdk_52_method_5_code 56 = .ok (.ishl, 1) := by decide +kernel
theorem own_gc2_0_d57 : decode jdk_52_method_5_code 57 = .ok (.ior, 1) := by decide +kernel
theorem own_gc2_0_d58 : decode jdk_52_method_5_code 58 = .ok (.i2c, 1) := by decide +kernel
theorem own_gc2_0_d59 : decode jdk_52_method_5_code 59 = .ok (.ireturn, 1) := by decide +kernel
theorem own_gc2_0_pn : plainName "java/lang/StringUTF16" = true := by first | (simp [plainName, overriddenIn]; done) | decide +kernel
theorem own_gc2_0_ef (m : MethodId) (pb : Addr) : entryFrame m #[(.ref pb), (.int (0 : Int32))] 2 = mkF m 0 #[rv pb, iv (0 : Int32)] [] := by first | (simp [entryFrame, mkF, argsToLocals, Value.category]; done) | rfl
def own_gc2_0_Q (Z : State) (pb : Addr) (x0 x1 x2 x3 : Int32) (h0 : Heap) (n0 : Nat) (v : Option Value) (h : Heap) (L : List Loc) : Prop := v = some (.int ((((x0 &&& (255 : Int32)) <<< ((0 : Int32) &&& 31)) ||| ((x1 &&& (255 : Int32)) <<< ((8 : Int32) &&& 31))).toUInt32.toUInt16.toUInt32.toInt32)) ∧ Fr n0 L ∧ h = h0
set_option maxRecDepth 65536 in
set_option maxHeartbeats 40000000 in
theorem own_gc2_0 (l : Launch) (Z : State) (a0 : Array Value) (hw : ∀ d ∈ tables_1, d.before a0 Z = true) (ws : List Jvm.Cond) (pb : Addr) (x0 x1 x2 x3 : Int32) (h0 : Heap) (n0 : Nat) (V0 : own_Ar Z h0 pb .byte [(.int x0), (.int x1), (.int x2), (.int x3)]) (hSa : Sta Z h0 "java/lang/StringUTF16" "$assertionsDisabled" "Z" (.int (1 : Int32))) (hSh : Sta Z h0 "java/lang/StringUTF16" "HI_BYTE_SHIFT" "I" (.int (0 : Int32))) (hSl : Sta Z h0 "java/lang/StringUTF16" "LO_BYTE_SHIFT" "I" (.int (8 : Int32))) :
    MetFree l own_y6 (head1 (Jvm.Cond.code own_y6 jdk_52_method_5_code 2 (some .char) :: ws) ({ frames := 0, cells := 0, slots := 0, locals := 0 } : Room)) (fun a U => a = #[(.ref pb), (.int (0 : Int32))] ∧ Z.Warmed39 U.vm ∧ U.heap = h0) (fun _ _ _ _ _ => True) (fun _ U o U' => ∃ v L, o = .returned v ∧ (own_gc2_0_Q Z pb x0 x1 x2 x3 h0 n0) v U'.heap L ∧ FrameEnd U o U' L ({ frames := 0, cells := 0, slots := 0, locals := 0 } : Room).cells ({ frames := 0, cells := 0, slots := 0, locals := 0 } : Room).slots) := by
  refine MetFree.of_bodySF (plainFor_of_name own_gc2_0_pn) hisR ?_
  intro p e s m args below meth c s₁ Bd hml0 hP hK
  obtain ⟨rfl, hZ, hh⟩ := hP
  have hx := Bd.exec
  have hby := Bd.bytes
  have hml : c.maxLocals = 2 := hml0
  have hown : s.vm.findClass "java/lang/StringUTF16" = some m.cls := findClass_of_methodNamed Bd.named
  have hnm := (name_of_methodNamed Bd.named Bd.method).1
  have hlk : meth.locks = false := Bd.notSynchronized
  have X0 : Stand p l e ({ frames := 0, cells := 0, slots := 0, locals := 0 } : Room) s m #[(.ref pb), (.int (0 : Int32))] below meth c s₁ [] 0 0 := Stand.of_body Bd
  have e0 : s₁.heap = h0 := by rw [← hh, Bd.state]; rfl
  have N0 := Fr.nil n0
  have w_73 := hw _ (List.mem_of_getElem? (l := tables_1) (i := 73) rfl)
  have w_74 := hw _ (List.mem_of_getElem? (l := tables_1) (i := 74) rfl)
  have w_75 := hw _ (List.mem_of_getElem? (l := tables_1) (i := 75) rfl)
  show own_G p.tables e below (fun o U' => ∃ v L, o = .returned v ∧ (own_gc2_0_Q Z pb x0 x1 x2 x3 h0 n0) v U'.heap L ∧ FrameEnd s o U' L ({ frames := 0, cells := 0, slots := 0, locals := 0 } : Room).cells ({ frames := 0, cells := 0, slots := 0, locals := 0 } : Room).slots) (s₁.setTop (entryFrame m #[(.ref pb), (.int (0 : Int32))] 2))
  refine own_go (B := s₁.setTop (mkF m 0 #[rv pb, iv (0 : Int32)] [])) (fun t k => castTop (own_gc2_0_ef m pb) k) ?_
  obtain ⟨T1, X1, e1, st1⟩ := getS X0 hx hZ hown (host := "") w_73 Via.refl e0 hSa (g := (mkF m 0 #[rv pb, iv (0 : Int32)] [])) rfl (hb hby own_gc2_0_d0)
  refine own_go (B := (T1.setTop (mkF m 3 #[rv pb, iv (0 : Int32)] [(.int (1 : Int32))]))) st1 ?_
  have hc3 : ¬ (1 : Int32) = (0 : Int32) := (by decide)
  refine own_ifY X1 hx (hb hby own_gc2_0_d3) (pc' := 28) (by decide) (by decide) hc3 ?_
  refine own_go (B := (T1.setTop (mkF m 29 #[rv pb, iv (0 : Int32)] [(.int (0 : Int32))]))) (fun t k => XS.iloadN X1.here hx rfl (hb hby own_gc2_0_d28) rfl k) ?_
  refine own_go (B := (T1.setTop (mkF m 30 #[rv pb, iv (0 : Int32)] [(.int (1 : Int32)), (.int (0 : Int32))]))) (fun t k => own_iconst (v := (1 : Int32)) X1.here hx rfl (hb hby own_gc2_0_d29) (by decide) k) ?_
  refine own_go (B := (T1.setTop (mkF m 31 #[rv pb, iv (0 : Int32)] [(.int ((0 : Int32) <<< ((1 : Int32) &&& 31)))]))) (fun t k => XS.ishl (x := (0 : Int32)) (y := (1 : Int32)) X1.here hx rfl (hb hby own_gc2_0_d30) rfl k) ?_
  rw [show ((0 : Int32) <<< ((1 : Int32) &&& 31)) = (0 : Int32) from by decide]
  refine own_go (B := (T1.setTop (mkF m 32 #[rv pb, iv (0 : Int32)] []))) (fun t k => XS.istoreN X1.here hx rfl (hb hby own_gc2_0_d31) rfl (l' := #[rv pb, iv (0 : Int32)]) rfl k) ?_
  refine own_go (B := (T1.setTop (mkF m 33 #[rv pb, iv (0 : Int32)] [(.ref pb)]))) (fun t k => XS.aloadN X1.here hx rfl (hb hby own_gc2_0_d32) rfl rfl k) ?_
  refine own_go (B := (T1.setTop (mkF m 34 #[rv pb, iv (0 : Int32)] [(.int (0 : Int32)), (.ref pb)]))) (fun t k => XS.iloadN X1.here hx rfl (hb hby own_gc2_0_d33) rfl k) ?_
  refine own_go (B := (T1.setTop (mkF m 37 #[rv pb, iv (1 : Int32)] [(.int (0 : Int32)), (.ref pb)]))) (fun t k => XS.iinc X1.here hx rfl (hb hby own_gc2_0_d34) rfl (l' := #[rv pb, iv (1 : Int32)]) rfl k) ?_
  refine own_go (B := (T1.setTop (mkF m 38 #[rv pb, iv (1 : Int32)] [(.int x0)]))) (own_ldB X1 hx hZ e1 V0 (v := (.int x0)) (by decide) rfl (g := (mkF m 37 #[rv pb, iv (1 : Int32)] [(.int (0 : Int32)), (.ref pb)])) rfl rfl (hb hby own_gc2_0_d37)) ?_
  refine own_go (B := (T1.setTop (mkF m 41 #[rv pb, iv (1 : Int32)] [(.int (255 : Int32)), (.int x0)]))) (fun t k => own_sipush (v := (255 : Int32)) X1.here hx rfl (hb hby own_gc2_0_d38) (by decide) k) ?_
  refine own_go (B := (T1.setTop (mkF m 42 #[rv pb, iv (1 : Int32)] [(.int (x0 &&& (255 : Int32)))]))) (fun t k => XS.iand (x := x0) (y := (255 : Int32)) X1.here hx rfl (hb hby own_gc2_0_d41) rfl k) ?_
  obtain ⟨T2, X2, e2, st2⟩ := getS X1 hx hZ hown (host := "") w_74 Via.refl e1 hSh (g := (mkF m 42 #[rv pb, iv (1 : Int32)] [(.int (x0 &&& (255 : Int32)))])) rfl (hb hby own_gc2_0_d42)
  refine own_go (B := (T2.setTop (mkF m 45 #[rv pb, iv (1 : Int32)] [(.int (0 : Int32)), (.int (x0 &&& (255 : Int32)))]))) st2 ?_
  refine own_go (B := (T2.setTop (mkF m 46 #[rv pb, iv (1 : Int32)] [(.int ((x0 &&& (255 : Int32)) <<< ((0 : Int32) &&& 31)))]))) (fun t k => XS.ishl (x := (x0 &&& (255 : Int32))) (y := (0 : Int32)) X2.here hx rfl (hb hby own_gc2_0_d45) rfl k) ?_
  refine own_go (B := (T2.setTop (mkF m 47 #[rv pb, iv (1 : Int32)] [(.ref pb), (.int ((x0 &&& (255 : Int32)) <<< ((0 : Int32) &&& 31)))]))) (fun t k => XS.aloadN X2.here hx rfl (hb hby own_gc2_0_d46) rfl rfl k) ?_
  refine own_go (B := (T2.setTop (mkF m 48 #[rv pb, iv (1 : Int32)] [(.int (1 : Int32)), (.ref pb), (.int ((x0 &&& (255 : Int32)) <<< ((0 : Int32) &&& 31)))]))) (fun t k => XS.iloadN X2.here hx rfl (hb hby own_gc2_0_d47) rfl k) ?_
  refine own_go (B := (T2.setTop (mkF m 49 #[rv pb, iv (1 : Int32)] [(.int x1), (.int ((x0 &&& (255 : Int32)) <<< ((0 : Int32) &&& 31)))]))) (own_ldB X2 hx hZ e2 V0 (v := (.int x1)) (by decide) rfl (g := (mkF m 48 #[rv pb, iv (1 : Int32)] [(.int (1 : Int32)), (.ref pb), (.int ((x0 &&& (255 : Int32)) <<< ((0 : Int32) &&& 31)))])) rfl rfl (hb hby own_gc2_0_d48)) ?_
  refine own_go (B := (T2.setTop (mkF m 52 #[rv pb, iv (1 : Int32)] [(.int (255 : Int32)), (.int x1), (.int ((x0 &&& (255 : Int32)) <<< ((0 : Int32) &&& 31)))]))) (fun t k => own_sipush (v := (255 : Int32)) X2.here hx rfl (hb hby own_gc2_0_d49) (by decide) k) ?_
  refine own_go (B := (T2.setTop (mkF m 53 #[rv pb, iv (1 : Int32)] [(.int (x1 &&& (255 : Int32))), (.int ((x0 &&& (255 : Int32)) <<< ((0 : Int32) &&& 31)))]))) (fun t k => XS.iand (x := x1) (y := (255 : Int32)) X2.here hx rfl (hb hby own_gc2_0_d52) rfl k) ?_
  obtain ⟨T3, X3, e3, st3⟩ := getS X2 hx hZ hown (host := "") w_75 Via.refl e2 hSl (g := (mkF m 53 #[rv pb, iv (1 : Int32)] [(.int (x1 &&& (255 : Int32))), (.int ((x0 &&& (255 : Int32)) <<< ((0 : Int32) &&& 31)))])) rfl (hb hby own_gc2_0_d53)
  refine own_go (B := (T3.setTop (mkF m 56 #[rv pb, iv (1 : Int32)] [(.int (8 : Int32)), (.int (x1 &&& (255 : Int32))), (.int ((x0 &&& (255 : Int32)) <<< ((0 : Int32) &&& 31)))]))) st3 ?_
  refine own_go (B := (T3.setTop (mkF m 57 #[rv pb, iv (1 : Int32)] [(.int ((x1 &&& (255 : Int32)) <<< ((8 : Int32) &&& 31))), (.int ((x0 &&& (255 : Int32)) <<< ((0 : Int32) &&& 31)))]))) (fun t k => XS.ishl (x := (x1 &&& (255 : Int32))) (y := (8 : Int32)) X3.here hx rfl (hb hby own_gc2_0_d56) rfl k) ?_
  refine own_go (B := (T3.setTop (mkF m 58 #[rv pb, iv (1 : Int32)] [(.int (((x0 &&& (255 : Int32)) <<< ((0 : Int32) &&& 31)) ||| ((x1 &&& (255 : Int32)) <<< ((8 : Int32) &&& 31))))]))) (fun t k => XS.ior (x := ((x0 &&& (255 : Int32)) <<< ((0 : Int32) &&& 31))) (y := ((x1 &&& (255 : Int32)) <<< ((8 : Int32) &&& 31))) X3.here hx rfl (hb hby own_gc2_0_d57) rfl k) ?_
  refine own_go (B := (T3.setTop (mkF m 59 #[rv pb, iv (1 : Int32)] [(.int ((((x0 &&& (255 : Int32)) <<< ((0 : Int32) &&& 31)) ||| ((x1 &&& (255 : Int32)) <<< ((8 : Int32) &&& 31))).toUInt32.toUInt16.toUInt32.toInt32))]))) (fun t k => XS.i2c X3.here hx rfl (hb hby own_gc2_0_d58) rfl k) ?_
  exact own_retC X3 hx hlk Bd.returns (hb hby own_gc2_0_d59) (own_nwC (own_i2c _)) (own_b rfl) (own_b rfl) (Q := (own_gc2_0_Q Z pb x0 x1 x2 x3 h0 n0)) ⟨rfl, N0, e3⟩

theorem own_gc2_1_d0 : decode jdk_52_method_5_code 0 = .ok (.getstatic 44, 3) := by decide +kernel
theorem own_gc2_1_d3 : decode jdk_52_method_5_code 3 = .ok (.ifCond .ne 25, 3) := by decide +kernel
theorem own_gc2_1_d28 : decode jdk_52_method_5_code 28 = .ok (.iload_n 1, 1) := by decide +kernel
theorem own_gc2_1_d29 : decode jdk_52_method_5_code 29 = .ok (.iconst 1, 1) := by decide +kernel
theorem own_gc2_1_d30 : decode jdk_52_method_5_code 30 = .ok (.ishl, 1) := by decide +kernel
theorem own_gc2_1_d31 : decode jdk_52_method_5_code 31 = .ok (.istore_n 1, 1) := by decide +kernel
theorem own_gc2_1_d32 : decode jdk_52_method_5_code 32 = .ok (.aload_n 0, 1) := by decide +kernel
theorem own_gc2_1_d33 : decode jdk_52_method_5_code 33 = .ok (.iload_n 1, 1) := by decide +kernel
theorem own_gc2_1_d34 : decode jdk_52_method_5_code 34 = .ok (.iinc 1 1, 3) := by decide +kernel
theorem own_gc2_1_d37 : decode jdk_52_method_5_code 37 = .ok (.baload, 1) := by decide +kernel
theorem own_gc2_1_d38 : decode jdk_52_method_5_code 38 = .ok (.sipush 255, 3) := by decide +kernel
theorem own_gc2_1_d41 : decode jdk_52_method_5_code 41 = .ok (.iand, 1) := by decide +kernel
theorem own_gc2_1_d42 : decode jdk_52_method_5_code 42 = .ok (.getstatic 59, 3) := by decide +kernel
theorem own_gc2_1_d45 : decode jdk_52_method_5_code 45 = .ok (.ishl, 1) := by decide +kernel
theorem own_gc2_1_d46 : decode jdk_52_method_5_code 46 = .ok (.aload_n 0, 1) := by decide +kernel
theorem own_gc2_1_d47 : decode jdk_52_method_5_code 47 = .ok (.iload_n 1, 1) := by decide +kernel
theorem own_gc2_1_d48 : decode jdk_52_method_5_code 48 = .ok (.baload, 1) := by decide +kernel
theorem own_gc2_1_d49 : decode jdk_52_method_5_code 49 = .ok (.sipush 255, 3) := by decide +kernel
theorem own_gc2_1_d52 : decode jdk_52_method_5_code 52 = .ok (.iand, 1) := by decide +kernel
theorem own_gc2_1_d53 : decode jdk_52_method_5_code 53 = .ok (.getstatic 63, 3) := by decide +kernel
theorem own_gc2_1_d56 : decode jdk_52_method_5_code 56 = .ok (.ishl, 1) := by decide +kernel
theorem own_gc2_1_d57 : decode jdk_52_method_5_code 57 = .ok (.ior, 1) := by decide +kernel
theorem own_gc2_1_d58 : decode jdk_52_method_5_code 58 = .ok (.i2c, 1) := by decide +kernel
theorem own_gc2_1_d59 : decode jdk_52_method_5_code 59 = .ok (.ireturn, 1) := by decide +kernel
theorem own_gc2_1_pn : plainName "java/lang/StringUTF16" = true := by first | (simp [plainName, overriddenIn]; done) | decide +kernel
theorem own_gc2_1_ef (m : MethodId) (pb : Addr) : entryFrame m #[(.ref pb), (.int (1 : Int32))] 2 = mkF m 0 #[rv pb, iv (1 : Int32)] [] := by first | (simp [entryFrame, mkF, argsToLocals, Value.category]; done) | rfl
def own_gc2_1_Q (Z : State) (pb : Addr) (x0 x1 x2 x3 : Int32) (h0 : Heap) (n0 : Nat) (v : Option Value) (h : Heap) (L : List Loc) : Prop := v = some (.int ((((x2 &&& (255 : Int32)) <<< ((0 : Int32) &&& 31)) ||| ((x3 &&& (255 : Int32)) <<< ((8 : Int32) &&& 31))).toUInt32.toUInt16.toUInt32.toInt32)) ∧ Fr n0 L ∧ h = h0
set_option maxRecDepth 65536 in
set_option maxHeartbeats 40000000 in
theorem own_gc2_1 (l : Launch) (Z : State) (a0 : Array Value) (hw : ∀ d ∈ tables_1, d.before a0 Z = true) (ws : List Jvm.Cond) (pb : Addr) (x0 x1 x2 x3 : Int32) (h0 : Heap) (n0 : Nat) (V0 : own_Ar Z h0 pb .byte [(.int x0), (.int x1), (.int x2), (.int x3)]) (hSa : Sta Z h0 "java/lang/StringUTF16" "$assertionsDisabled" "Z" (.int (1 : Int32))) (hSh : Sta Z h0 "java/lang/StringUTF16" "HI_BYTE_SHIFT" "I" (.int (0 : Int32))) (hSl : Sta Z h0 "java/lang/StringUTF16" "LO_BYTE_SHIFT" "I" (.int (8 : Int32))) :
    MetFree l own_y6 (head1 (Jvm.Cond.code own_y6 jdk_52_method_5_code 2 (some .char) :: ws) ({ frames := 0, cells := 0, slots := 0, locals := 0 } : Room)) (fun a U => a = #[(.ref pb), (.int (1 : Int32))] ∧ Z.Warmed39 U.vm ∧ U.heap = h0) (fun _ _ _ _ _ => True) (fun _ U o U' => ∃ v L, o = .returned v ∧ (own_gc2_1_Q Z pb x0 x1 x2 x3 h0 n0) v U'.heap L ∧ FrameEnd U o U' L ({ frames := 0, cells := 0, slots := 0, locals := 0 } : Room).cells ({ frames := 0, cells := 0, slots := 0, locals := 0 } : Room).slots) := by
  refine MetFree.of_bodySF (plainFor_of_name own_gc2_1_pn) hisR ?_
  intro p e s m args below meth c s₁ Bd hml0 hP hK
  obtain ⟨rfl, hZ, hh⟩ := hP
  have hx := Bd.exec
  have hby := Bd.bytes
  have hml : c.maxLocals = 2 := hml0
  have hown : s.vm.findClass "java/lang/StringUTF16" = some m.cls := findClass_of_methodNamed Bd.named
  have hnm := (name_of_methodNamed Bd.named Bd.method).1
  have hlk : meth.locks = false := Bd.notSynchronized
  have X0 : Stand p l e ({ frames := 0, cells := 0, slots := 0, locals := 0 } : Room) s m #[(.ref pb), (.int (1 : Int32))] below meth c s₁ [] 0 0 := Stand.of_body Bd
  have e0 : s₁.heap = h0 := by rw [← hh, Bd.state]; rfl
  have N0 := Fr.nil n0
  have w_73 := hw _ (List.mem_of_getElem? (l := tables_1) (i := 73) rfl)
  have w_74 := hw _ (List.mem_of_getElem? (l := tables_1) (i := 74) rfl)
  have w_75 := hw _ (List.mem_of_getElem? (l := tables_1) (i := 75) rfl)
  show own_G p.tables e below (fun o U' => ∃ v L, o = .returned v ∧ (own_gc2_1_Q Z pb x0 x1 x2 x3 h0 n0) v U'.heap L ∧ FrameEnd s o U' L ({ frames := 0, cells := 0, slots := 0, locals := 0 } : Room).cells ({ frames := 0, cells := 0, slots := 0, locals := 0 } : Room).slots) (s₁.setTop (entryFrame m #[(.ref pb), (.int (1 : Int32))] 2))
  refine own_go (B := s₁.setTop (mkF m 0 #[rv pb, iv (1 : Int32)] [])) (fun t k => castTop (own_gc2_1_ef m pb) k) ?_
  obtain ⟨T1, X1, e1, st1⟩ := getS X0 hx hZ hown (host := "") w_73 Via.refl e0 hSa (g := (mkF m 0 #[rv pb, iv (1 : Int32)] [])) rfl (hb hby own_gc2_1_d0)
  refine own_go (B := (T1.setTop (mkF m 3 #[rv pb, iv (1 : Int32)] [(.int (1 : Int32))]))) st1 ?_
  have hc3 : ¬ (1 : Int32) = (0 : Int32) := (by decide)
  refine own_ifY X1 hx (hb hby own_gc2_1_d3) (pc' := 28) (by decide) (by decide) hc3 ?_
  refine own_go (B := (T1.setTop (mkF m 29 #[rv pb, iv (1 : Int32)] [(.int (1 : Int32))]))) (fun t k => XS.iloadN X1.here hx rfl (hb hby own_gc2_1_d28) rfl k) ?_
  refine own_go (B := (T1.setTop (mkF m 30 #[rv pb, iv (1 : Int32)] [(.int (1 : Int32)), (.int (1 : Int32))]))) (fun t k => own_iconst (v := (1 : Int32)) X1.here hx rfl (hb hby own_gc2_1_d29) (by decide) k) ?_
  refine own_go (B := (T1.setTop (mkF m 31 #[rv pb, iv (1 : Int32)] [(.int ((1 : Int32) <<< ((1 : Int32) &&& 31)))]))) (fun t k => XS.ishl (x := (1 : Int32)) (y := (1 : Int32)) X1.here hx rfl (hb hby own_gc2_1_d30) rfl k) ?_
  rw [show ((1 : Int32) <<< ((1 : Int32) &&& 31)) = (2 : Int32) from by decide]
  refine own_go (B := (T1.setTop (mkF m 32 #[rv pb, iv (2 : Int32)] []))) (fun t k => XS.istoreN X1.here hx rfl (hb hby own_gc2_1_d31) rfl (l' := #[rv pb, iv (2 : Int32)]) rfl k) ?_
  refine own_go (B := (T1.setTop (mkF m 33 #[rv pb, iv (2 : Int32)] [(.ref pb)]))) (fun t k => XS.aloadN X1.here hx rfl (hb hby own_gc2_1_d32) rfl rfl k) ?_
  refine own_go (B := (T1.setTop (mkF m 34 #[rv pb, iv (2 : Int32)] [(.int (2 : Int32)), (.ref pb)]))) (fun t k => XS.iloadN X1.here hx rfl (hb hby own_gc2_1_d33) rfl k) ?_
  refine own_go (B := (T1.setTop (mkF m 37 #[rv pb, iv (3 : Int32)] [(.int (2 : Int32)), (.ref pb)]))) (fun t k => XS.iinc X1.here hx rfl (hb hby own_gc2_1_d34) rfl (l' := #[rv pb, iv (3 : Int32)]) rfl k) ?_
  refine own_go (B := (T1.setTop (mkF m 38 #[rv pb, iv (3 : Int32)] [(.int x2)]))) (own_ldB X1 hx hZ e1 V0 (v := (.int x2)) (by decide) rfl (g := (mkF m 37 #[rv pb, iv (3 : Int32)] [(.int (2 : Int32)), (.ref pb)])) rfl rfl (hb hby own_gc2_1_d37)) ?_
  refine own_go (B := (T1.setTop (mkF m 41 #[rv pb, iv (3 : Int32)] [(.int (255 : Int32)), (.int x2)]))) (fun t k => own_sipush (v := (255 : Int32)) X1.here hx rfl (hb hby own_gc2_1_d38) (by decide) k) ?_
  refine own_go (B := (T1.setTop (mkF m 42 #[rv pb, iv (3 : Int32)] [(.int (x2 &&& (255 : Int32)))]))) (fun t k => XS.iand (x := x2) (y := (255 : Int32)) X1.here hx rfl (hb hby own_gc2_1_d41) rfl k) ?_
  obtain ⟨T2, X2, e2, st2⟩ := getS X1 hx hZ hown (host := "") w_74 Via.refl e1 hSh (g := (mkF m 42 #[rv pb, iv (3 : Int32)] [(.int (x2 &&& (255 : Int32)))])) rfl (hb hby own_gc2_1_d42)
  refine own_go (B := (T2.setTop (mkF m 45 #[rv pb, iv (3 : Int32)] [(.int (0 : Int32)), (.int (x2 &&& (255 : Int32)))]))) st2 ?_
  refine own_go (B := (T2.setTop (mkF m 46 #[rv pb, iv (3 : Int32)] [(.int ((x2 &&& (255 : Int32)) <<< ((0 : Int32) &&& 31)))]))) (fun t k => XS.ishl (x := (x2 &&& (255 : Int32))) (y := (0 : Int32)) X2.here hx rfl (hb hby own_gc2_1_d45) rfl k) ?_
  refine own_go (B := (T2.setTop (mkF m 47 #[rv pb, iv (3 : Int32)] [(.ref pb), (.int ((x2 &&& (255 : Int32)) <<< ((0 : Int32) &&& 31)))]))) (fun t k => XS.aloadN X2.here hx rfl (hb hby own_gc2_1_d46) rfl rfl k) ?_
  refine own_go (B := (T2.setTop (mkF m 48 #[rv pb, iv (3 : Int32)] [(.int (3 : Int32)), (.ref pb), (.int ((x2 &&& (255 : Int32)) <<< ((0 : Int32) &&& 31)))]))) (fun t k => XS.iloadN X2.here hx rfl (hb hby own_gc2_1_d47) rfl k) ?_
  refine own_go (B := (T2.setTop (mkF m 49 #[rv pb, iv (3 : Int32)] [(.int x3), (.int ((x2 &&& (255 : Int32)) <<< ((0 : Int32) &&& 31)))]))) (own_ldB X2 hx hZ e2 V0 (v := (.int x3)) (by decide) rfl (g := (mkF m 48 #[rv pb, iv (3 : Int32)] [(.int (3 : Int32)), (.ref pb), (.int ((x2 &&& (255 : Int32)) <<< ((0 : Int32) &&& 31)))])) rfl rfl (hb hby own_gc2_1_d48)) ?_
  refine own_go (B := (T2.setTop (mkF m 52 #[rv pb, iv (3 : Int32)] [(.int (255 : Int32)), (.int x3), (.int ((x2 &&& (255 : Int32)) <<< ((0 : Int32) &&& 31)))]))) (fun t k => own_sipush (v := (255 : Int32)) X2.here hx rfl (hb hby own_gc2_1_d49) (by decide) k) ?_
  refine own_go (B := (T2.setTop (mkF m 53 #[rv pb, iv (3 : Int32)] [(.int (x3 &&& (255 : Int32))), (.int ((x2 &&& (255 : Int32)) <<< ((0 : Int32) &&& 31)))]))) (fun t k => XS.iand (x := x3) (y := (255 : Int32)) X2.here hx rfl (hb hby own_gc2_1_d52) rfl k) ?_
  obtain ⟨T3, X3, e3, st3⟩ := getS X2 hx hZ hown (host := "") w_75 Via.refl e2 hSl (g := (mkF m 53 #[rv pb, iv (3 : Int32)] [(.int (x3 &&& (255 : Int32))), (.int ((x2 &&& (255 : Int32)) <<< ((0 : Int32) &&& 31)))])) rfl (hb hby own_gc2_1_d53)
  refine own_go (B := (T3.setTop (mkF m 56 #[rv pb, iv (3 : Int32)] [(.int (8 : Int32)), (.int (x3 &&& (255 : Int32))), (.int ((x2 &&& (255 : Int32)) <<< ((0 : Int32) &&& 31)))]))) st3 ?_
  refine own_go (B := (T3.setTop (mkF m 57 #[rv pb, iv (3 : Int32)] [(.int ((x3 &&& (255 : Int32)) <<< ((8 : Int32) &&& 31))), (.int ((x2 &&& (255 : Int32)) <<< ((0 : Int32) &&& 31)))]))) (fun t k => XS.ishl (x := (x3 &&& (255 : Int32))) (y := (8 : Int32)) X3.here hx rfl (hb hby own_gc2_1_d56) rfl k) ?_
  refine own_go (B := (T3.setTop (mkF m 58 #[rv pb, iv (3 : Int32)] [(.int (((x2 &&& (255 : Int32)) <<< ((0 : Int32) &&& 31)) ||| ((x3 &&& (255 : Int32)) <<< ((8 : Int32) &&& 31))))]))) (fun t k => XS.ior (x := ((x2 &&& (255 : Int32)) <<< ((0 : Int32) &&& 31))) (y := ((x3 &&& (255 : Int32)) <<< ((8 : Int32) &&& 31))) X3.here hx rfl (hb hby own_gc2_1_d57) rfl k) ?_
  refine own_go (B := (T3.setTop (mkF m 59 #[rv pb, iv (3 : Int32)] [(.int ((((x2 &&& (255 : Int32)) <<< ((0 : Int32) &&& 31)) ||| ((x3 &&& (255 : Int32)) <<< ((8 : Int32) &&& 31))).toUInt32.toUInt16.toUInt32.toInt32))]))) (fun t k => XS.i2c X3.here hx rfl (hb hby own_gc2_1_d58) rfl k) ?_
  exact own_retC X3 hx hlk Bd.returns (hb hby own_gc2_1_d59) (own_nwC (own_i2c _)) (own_b rfl) (own_b rfl) (Q := (own_gc2_1_Q Z pb x0 x1 x2 x3 h0 n0)) ⟨rfl, N0, e3⟩

theorem own_gc3_0_d0 : decode jdk_52_method_5_code 0 = .ok (.getstatic 44, 3) := by decide +kernel
theorem own_gc3_0_d3 : decode jdk_52_method_5_code 3 = .ok (.ifCond .ne 25, 3) := by decide +kernel
theorem own_gc3_0_d28 : decode jdk_52_method_5_code 28 = .ok (.iload_n 1, 1) := by decide +kernel
theorem own_gc3_0_d29 : decode jdk_52_method_5_code 29 = .ok (.iconst 1, 1) := by decide +kernel
theorem own_gc3_0_d30 : decode jdk_52_method_5_code 30 = .ok (.ishl, 1) := by decide +kernel
theorem own_gc3_0_d31 : decode jdk_52_method_5_code 31 = .ok (.istore_n 1, 1) := by decide +kernel
theorem own_gc3_0_d32 : decode jdk_52_method_5_code 32 = .ok (.aload_n 0, 1) := by decide +kernel
theorem own_gc3_0_d33 : decode jdk_52_method_5_code 33 = .ok (.iload_n 1, 1) := by decide +kernel
theorem own_gc3_0_d34 : decode jdk_52_method_5_code 34 = .ok (.iinc 1 1, 3) := by decide +kernel
theorem own_gc3_0_d37 : decode jdk_52_method_5_code 37 = .ok (.baload, 1) := by decide +kernel
theorem own_gc3_0_d38 : decode jdk_52_method_5_code 38 = .ok (.sipush 255, 3) := by decide +kernel
theorem own_gc3_0_d41 : decode jdk_52_method_5_code 41 = .ok (.iand, 1) := by decide +kernel
theorem own_gc3_0_d42 : decode jdk_52_method_5_code 42 = .ok (.getstatic 59, 3) := by decide +kernel
theorem own_gc3_0_d45 : decode jdk_52_method_5_code 45 = .ok (.ishl, 1) := by decide +kernel
theorem own_gc3_0_d46 : decode jdk_52_method_5_code 46 = .ok (.aload_n 0, 1) := by decide +kernel
theorem own_gc3_0_d47 : decode jdk_52_method_5_code 47 = .ok (.iload_n 1, 1) := by decide +kernel
theorem own_gc3_0_d48 : decode jdk_52_method_5_code 48 = .ok (.baload, 1) := by decide +kernel
theorem own_gc3_0_d49 : decode jdk_52_method_5_code 49 = .ok (.sipush 255, 3) := by decide +kernel
theorem own_gc3_0_d52 : decode jdk_52_method_5_code 52 = .ok (.iand, 1) := by decide +kernel
theorem own_gc3_0_d53 : decode jdk_52_method_5_code 53 = .ok (.getstatic 63, 3) := by decide +kernel
theorem own_gc3_0_d56 : decode jdk_52_method_5_code 56 = .ok (.ishl, 1) := by decide +kernel
theorem own_gc3_0_d57 : decode jdk_52_method_5_code 57 = .ok (.ior, 1) := by decide +kernel
theorem own_gc3_0_d58 : decode jdk_52_method_5_code 58 = .ok (.i2c, 1) := by decide +kernel
theorem own_gc3_0_d59 : decode jdk_52_method_5_code 59 = .ok (.ireturn, 1) := by decide +kernel
theorem own_gc3_0_pn : plainName "java/lang/StringUTF16" = true := by first | (simp [plainName, overriddenIn]; done) | decide +kernel
theorem own_gc3_0_ef (m : MethodId) (pb : Addr) : entryFrame m #[(.ref pb), (.int (0 : Int32))] 2 = mkF m 0 #[rv pb, iv (0 : Int32)] [] := by first | (simp [entryFrame, mkF, argsToLocals, Value.category]; done) | rfl
def own_gc3_0_Q (Z : State) (pb : Addr) (x0 x1 x2 x3 x4 x5 : Int32) (h0 : Heap) (n0 : Nat) (v : Option Value) (h : Heap) (L : List Loc) : Prop := v = some (.int ((((x0 &&& (255 : Int32)) <<< ((0 : Int32) &&& 31)) ||| ((x1 &&& (255 : Int32)) <<< ((8 : Int32) &&& 31))).toUInt32.toUInt16.toUInt32.toInt32)) ∧ Fr n0 L ∧ h = h0
set_option maxRecDepth 65536 in
set_option maxHeartbeats 40000000 in
theorem own_gc3_0 (l : Launch) (Z : State) (a0 : Array Value) (hw : ∀ d ∈ tables_1, d.before a0 Z = true) (ws : List Jvm.Cond) (pb : Addr) (x0 x1 x2 x3 x4 x5 : Int32) (h0 : Heap) (n0 : Nat) (V0 : own_Ar Z h0 pb .byte [(.int x0), (.int x1), (.int x2), (.int x3), (.int x4), (.int x5)]) (hSa : Sta Z h0 "java/lang/StringUTF16" "$assertionsDisabled" "Z" (.int (1 : Int32))) (hSh : Sta Z h0 "java/lang/StringUTF16" "HI_BYTE_SHIFT" "I" (.int (0 : Int32))) (hSl : Sta Z h0 "java/lang/StringUTF16" "LO_BYTE_SHIFT" "I" (.int (8 : Int32))) :
    MetFree l own_y6 (head1 (Jvm.Cond.code own_y6 jdk_52_method_5_code 2 (some .char) :: ws) ({ frames := 0, cells := 0, slots := 0, locals := 0 } : Room)) (fun a U => a = #[(.ref pb), (.int (0 : Int32))] ∧ Z.Warmed39 U.vm ∧ U.heap = h0) (fun _ _ _ _ _ => True) (fun _ U o U' => ∃ v L, o = .returned v ∧ (own_gc3_0_Q Z pb x0 x1 x2 x3 x4 x5 h0 n0) v U'.heap L ∧ FrameEnd U o U' L ({ frames := 0, cells := 0, slots := 0, locals := 0 } : Room).cells ({ frames := 0, cells := 0, slots := 0, locals := 0 } : Room).slots) := by
  refine MetFree.of_bodySF (plainFor_of_name own_gc3_0_pn) hisR ?_
  intro p e s m args below meth c s₁ Bd hml0 hP hK
  obtain ⟨rfl, hZ, hh⟩ := hP
  have hx := Bd.exec
  have hby := Bd.bytes
  have hml : c.maxLocals = 2 := hml0
  have hown : s.vm.findClass "java/lang/StringUTF16" = some m.cls := findClass_of_methodNamed Bd.named
  have hnm := (name_of_methodNamed Bd.named Bd.method).1
  have hlk : meth.locks = false := Bd.notSynchronized
  have X0 : Stand p l e ({ frames := 0, cells := 0, slots := 0, locals := 0 } : Room) s m #[(.ref pb), (.int (0 : Int32))] below meth c s₁ [] 0 0 := Stand.of_body Bd
  have e0 : s₁.heap = h0 := by rw [← hh, Bd.state]; rfl
  have N0 := Fr.nil n0
  have w_73 := hw _ (List.mem_of_getElem? (l := tables_1) (i := 73) rfl)
  have w_74 := hw _ (List.mem_of_getElem? (l := tables_1) (i := 74) rfl)
  have w_75 := hw _ (List.mem_of_getElem? (l := tables_1) (i := 75) rfl)
  show own_G p.tables e below (fun o U' => ∃ v L, o = .returned v ∧ (own_gc3_0_Q Z pb x0 x1 x2 x3 x4 x5 h0 n0) v U'.heap L ∧ FrameEnd s o U' L ({ frames := 0, cells := 0, slots := 0, locals := 0 } : Room).cells ({ frames := 0, cells := 0, slots := 0, locals := 0 } : Room).slots) (s₁.setTop (entryFrame m #[(.ref pb), (.int (0 : Int32))] 2))
  refine own_go (B := s₁.setTop (mkF m 0 #[rv pb, iv (0 : Int32)] [])) (fun t k => castTop (own_gc3_0_ef m pb) k) ?_
  obtain ⟨T1, X1, e1, st1⟩ := getS X0 hx hZ hown (host := "") w_73 Via.refl e0 hSa (g := (mkF m 0 #[rv pb, iv (0 : Int32)] [])) rfl (hb hby own_gc3_0_d0)
  refine own_go (B := (T1.setTop (mkF m 3 #[rv pb, iv (0 : Int32)] [(.int (1 : Int32))]))) st1 ?_
  have hc3 : ¬ (1 : Int32) = (0 : Int32) := (by decide)
  refine own_ifY X1 hx (hb hby own_gc3_0_d3) (pc' := 28) (by decide) (by decide) hc3 ?_
  refine own_go (B := (T1.setTop (mkF m 29 #[rv pb, iv (0 : Int32)] [(.int (0 : Int32))]))) (fun t k => XS.iloadN X1.here hx rfl (hb hby own_gc3_0_d28) rfl k) ?_
  refine own_go (B := (T1.setTop (mkF m 30 #[rv pb, iv (0 : Int32)] [(.int (1 : Int32)), (.int (0 : Int32))]))) (fun t k => own_iconst (v := (1 : Int32)) X1.here hx rfl (hb hby own_gc3_0_d29) (by decide) k) ?_
  refine own_go (B := (T1.setTop (mkF m 31 #[rv pb, iv (0 : Int32)] [(.int ((0 : Int32) <<< ((1 : Int32) &&& 31)))]))) (fun t k => XS.ishl (x := (0 : Int32)) (y := (1 : Int32)) X1.here hx rfl (hb hby own_gc3_0_d30) rfl k) ?_
  rw [show ((0 : Int32) <<< ((1 : Int32) &&& 31)) = (0 : Int32) from by decide]
  refine own_go (B := (T1.setTop (mkF m 32 #[rv pb, iv (0 : Int32)] []))) (fun t k => XS.istoreN X1.here hx rfl (hb hby own_gc3_0_d31) rfl (l' := #[rv pb, iv (0 : Int32)]) rfl k) ?_
  refine own_go (B := (T1.setTop (mkF m 33 #[rv pb, iv (0 : Int32)] [(.ref pb)]))) (fun t k => XS.aloadN X1.here hx rfl (hb hby own_gc3_0_d32) rfl rfl k) ?_
  refine own_go (B := (T1.setTop (mkF m 34 #[rv pb, iv (0 : Int32)] [(.int (0 : Int32)), (.ref pb)]))) (fun t k => XS.iloadN X1.here hx rfl (hb hby own_gc3_0_d33) rfl k) ?_
  refine own_go (B := (T1.setTop (mkF m 37 #[rv pb, iv (1 : Int32)] [(.int (0 : Int32)), (.ref pb)]))) (fun t k => XS.iinc X1.here hx rfl (hb hby own_gc3_0_d34) rfl (l' := #[rv pb, iv (1 : Int32)]) rfl k) ?_
  refine own_go (B := (T1.setTop (mkF m 38 #[rv pb, iv (1 : Int32)] [(.int x0)]))) (own_ldB X1 hx hZ e1 V0 (v := (.int x0)) (by decide) rfl (g := (mkF m 37 #[rv pb, iv (1 : Int32)] [(.int (0 : Int32)), (.ref pb)])) rfl rfl (hb hby own_gc3_0_d37)) ?_
  refine own_go (B := (T1.setTop (mkF m 41 #[rv pb, iv (1 : Int32)] [(.int (255 : Int32)), (.int x0)]))) (fun t k => own_sipush (v := (255 : Int32)) X1.here hx rfl (hb hby own_gc3_0_d38) (by decide) k) ?_
  refine own_go (B := (T1.setTop (mkF m 42 #[rv pb, iv (1 : Int32)] [(.int (x0 &&& (255 : Int32)))]))) (fun t k => XS.iand (x := x0) (y := (255 : Int32)) X1.here hx rfl (hb hby own_gc3_0_d41) rfl k) ?_
  obtain ⟨T2, X2, e2, st2⟩ := getS X1 hx hZ hown (host := "") w_74 Via.refl e1 hSh (g := (mkF m 42 #[rv pb, iv (1 : Int32)] [(.int (x0 &&& (255 : Int32)))])) rfl (hb hby own_gc3_0_d42)
  refine own_go (B := (T2.setTop (mkF m 45 #[rv pb, iv (1 : Int32)] [(.int (0 : Int32)), (.int (x0 &&& (255 : Int32)))]))) st2 ?_
  refine own_go (B := (T2.setTop (mkF m 46 #[rv pb, iv (1 : Int32)] [(.int ((x0 &&& (255 : Int32)) <<< ((0 : Int32) &&& 31)))]))) (fun t k => XS.ishl (x := (x0 &&& (255 : Int32))) (y := (0 : Int32)) X2.here hx rfl (hb hby own_gc3_0_d45) rfl k) ?_
  refine own_go (B := (T2.setTop (mkF m 47 #[rv pb, iv (1 : Int32)] [(.ref pb), (.int ((x0 &&& (255 : Int32)) <<< ((0 : Int32) &&& 31)))]))) (fun t k => XS.aloadN X2.here hx rfl (hb hby own_gc3_0_d46) rfl rfl k) ?_
  refine own_go (B := (T2.setTop (mkF m 48 #[rv pb, iv (1 : Int32)] [(.int (1 : Int32)), (.ref pb), (.int ((x0 &&& (255 : Int32)) <<< ((0 : Int32) &&& 31)))]))) (fun t k => XS.iloadN X2.here hx rfl (hb hby own_gc3_0_d47) rfl k) ?_
  refine own_go (B := (T2.setTop (mkF m 49 #[rv pb, iv (1 : Int32)] [(.int x1), (.int ((x0 &&& (255 : Int32)) <<< ((0 : Int32) &&& 31)))]))) (own_ldB X2 hx hZ e2 V0 (v := (.int x1)) (by decide) rfl (g := (mkF m 48 #[rv pb, iv (1 : Int32)] [(.int (1 : Int32)), (.ref pb), (.int ((x0 &&& (255 : Int32)) <<< ((0 : Int32) &&& 31)))])) rfl rfl (hb hby own_gc3_0_d48)) ?_
  refine own_go (B := (T2.setTop (mkF m 52 #[rv pb, iv (1 : Int32)] [(.int (255 : Int32)), (.int x1), (.int ((x0 &&& (255 : Int32)) <<< ((0 : Int32) &&& 31)))]))) (fun t k => own_sipush (v := (255 : Int32)) X2.here hx rfl (hb hby own_gc3_0_d49) (by decide) k) ?_
  refine own_go (B := (T2.setTop (mkF m 53 #[rv pb, iv (1 : Int32)] [(.int (x1 &&& (255 : Int32))), (.int ((x0 &&& (255 : Int32)) <<< ((0 : Int32) &&& 31)))]))) (fun t k => XS.iand (x := x1) (y := (255 : Int32)) X2.here hx rfl (hb hby own_gc3_0_d52) rfl k) ?_
  obtain ⟨T3, X3, e3, st3⟩ := getS X2 hx hZ hown (host := "") w_75 Via.refl e2 hSl (g := (mkF m 53 #[rv pb, iv (1 : Int32)] [(.int (x1 &&& (255 : Int32))), (.int ((x0 &&& (255 : Int32)) <<< ((0 : Int32) &&& 31)))])) rfl (hb hby own_gc3_0_d53)
  refine own_go (B := (T3.setTop (mkF m 56 #[rv pb, iv (1 : Int32)] [(.int (8 : Int32)), (.int (x1 &&& (255 : Int32))), (.int ((x0 &&& (255 : Int32)) <<< ((0 : Int32) &&& 31)))]))) st3 ?_
  refine own_go (B := (T3.setTop (mkF m 57 #[rv pb, iv (1 : Int32)] [(.int ((x1 &&& (255 : Int32)) <<< ((8 : Int32) &&& 31))), (.int ((x0 &&& (255 : Int32)) <<< ((0 : Int32) &&& 31)))]))) (fun t k => XS.ishl (x := (x1 &&& (255 : Int32))) (y := (8 : Int32)) X3.here hx rfl (hb hby own_gc3_0_d56) rfl k) ?_
  refine own_go (B := (T3.setTop (mkF m 58 #[rv pb, iv (1 : Int32)] [(.int (((x0 &&& (255 : Int32)) <<< ((0 : Int32) &&& 31)) ||| ((x1 &&& (255 : Int32)) <<< ((8 : Int32) &&& 31))))]))) (fun t k => XS.ior (x := ((x0 &&& (255 : Int32)) <<< ((0 : Int32) &&& 31))) (y := ((x1 &&& (255 : Int32)) <<< ((8 : Int32) &&& 31))) X3.here hx rfl (hb hby own_gc3_0_d57) rfl k) ?_
  refine own_go (B := (T3.setTop (mkF m 59 #[rv pb, iv (1 : Int32)] [(.int ((((x0 &&& (255 : Int32)) <<< ((0 : Int32) &&& 31)) ||| ((x1 &&& (255 : Int32)) <<< ((8 : Int32) &&& 31))).toUInt32.toUInt16.toUInt32.toInt32))]))) (fun t k => XS.i2c X3.here hx rfl (hb hby own_gc3_0_d58) rfl k) ?_
  exact own_retC X3 hx hlk Bd.returns (hb hby own_gc3_0_d59) (own_nwC (own_i2c _)) (own_b rfl) (own_b rfl) (Q := (own_gc3_0_Q Z pb x0 x1 x2 x3 x4 x5 h0 n0)) ⟨rfl, N0, e3⟩

theorem own_gc3_1_d0 : decode jdk_52_method_5_code 0 = .ok (.getstatic 44, 3) := by decide +kernel
theorem own_gc3_1_d3 : decode jdk_52_method_5_code 3 = .ok (.ifCond .ne 25, 3) := by decide +kernel
theorem own_gc3_1_d28 : decode jdk_52_method_5_code 28 = .ok (.iload_n 1, 1) := by decide +kernel
theorem own_gc3_1_d29 : decode jdk_52_method_5_code 29 = .ok (.iconst 1, 1) := by decide +kernel
theorem own_gc3_1_d30 : decode jdk_52_method_5_code 30 = .ok (.ishl, 1) := by decide +kernel
theorem own_gc3_1_d31 : decode jdk_52_method_5_code 31 = .ok (.istore_n 1, 1) := by decide +kernel
theorem own_gc3_1_d32 : decode jdk_52_method_5_code 32 = .ok (.aload_n 0, 1) := by decide +kernel
theorem own_gc3_1_d33 : decode jdk_52_method_5_code 33 = .ok (.iload_n 1, 1) := by decide +kernel
theorem own_gc3_1_d34 : decode jdk_52_method_5_code 34 = .ok (.iinc 1 1, 3) := by decide +kernel
theorem own_gc3_1_d37 : decode jdk_52_method_5_code 37 = .ok (.baload, 1) := by decide +kernel
theorem own_gc3_1_d38 : decode jdk_52_method_5_code 38 = .ok (.sipush 255, 3) := by decide +kernel
theorem own_gc3_1_d41 : decode jdk_52_method_5_code 41 = .ok (.iand, 1) := by decide +kernel
theorem own_gc3_1_d42 : decode jdk_52_method_5_code 42 = .ok (.getstatic 59, 3) := by decide +kernel
theorem own_gc3_1_d45 : decode jdk_52_method_5_code 45 = .ok (.ishl, 1) := by decide +kernel
theorem own_gc3_1_d46 : decode jdk_52_method_5_code 46 = .ok (.aload_n 0, 1) := by decide +kernel
theorem own_gc3_1_d47 : decode jdk_52_method_5_code 47 = .ok (.iload_n 1, 1) := by decide +kernel
theorem own_gc3_1_d48 : decode jdk_52_method_5_code 48 = .ok (.baload, 1) := by decide +kernel
theorem own_gc3_1_d49 : decode jdk_52_method_5_code 49 = .ok (.sipush 255, 3) := by decide +kernel
theorem own_gc3_1_d52 : decode jdk_52_method_5_code 52 = .ok (.iand, 1) := by decide +kernel
theorem own_gc3_1_d53 : decode jdk_52_method_5_code 53 = .ok (.getstatic 63, 3) := by decide +kernel
theorem own_gc3_1_d56 : decode jdk_52_method_5_code 56 = .ok (.ishl, 1) := by decide +kernel
theorem own_gc3_1_d57 : decode jdk_52_method_5_code 57 = .ok (.ior, 1) := by decide +kernel
theorem own_gc3_1_d58 : decode jdk_52_method_5_code 58 = .ok (.i2c, 1) := by decide +kernel
theorem own_gc3_1_d59 : decode jdk_52_method_5_code 59 = .ok (.ireturn, 1) := by decide +kernel
theorem own_gc3_1_pn : plainName "java/lang/StringUTF16" = true := by first | (simp [plainName, overriddenIn]; done) | decide +kernel
theorem own_gc3_1_ef (m : MethodId) (pb : Addr) : entryFrame m #[(.ref pb), (.int (1 : Int32))] 2 = mkF m 0 #[rv pb, iv (1 : Int32)] [] := by first | (simp [entryFrame, mkF, argsToLocals, Value.category]; done) | rfl
def own_gc3_1_Q (Z : State) (pb : Addr) (x0 x1 x2 x3 x4 x5 : Int32) (h0 : Heap) (n0 : Nat) (v : Option Value) (h : Heap) (L : List Loc) : Prop := v = some (.int ((((x2 &&& (255 : Int32)) <<< ((0 : Int32) &&& 31)) ||| ((x3 &&& (255 : Int32)) <<< ((8 : Int32) &&& 31))).toUInt32.toUInt16.toUInt32.toInt32)) ∧ Fr n0 L ∧ h = h0
set_option maxRecDepth 65536 in
set_option maxHeartbeats 40000000 in
theorem own_gc3_1 (l : Launch) (Z : State) (a0 : Array Value) (hw : ∀ d ∈ tables_1, d.before a0 Z = true) (ws : List Jvm.Cond) (pb : Addr) (x0 x1 x2 x3 x4 x5 : Int32) (h0 : Heap) (n0 : Nat) (V0 : own_Ar Z h0 pb .byte [(.int x0), (.int x1), (.int x2), (.int x3), (.int x4), (.int x5)]) (hSa : Sta Z h0 "java/lang/StringUTF16" "$assertionsDisabled" "Z" (.int (1 : Int32))) (hSh : Sta Z h0 "java/lang/StringUTF16" "HI_BYTE_SHIFT" "I" (.int (0 : Int32))) (hSl : Sta Z h0 "java/lang/StringUTF16" "LO_BYTE_SHIFT" "I" (.int (8 : Int32))) :
    MetFree l own_y6 (head1 (Jvm.Cond.code own_y6 jdk_52_method_5_code 2 (some .char) :: ws) ({ frames := 0, cells := 0, slots := 0, locals := 0 } : Room)) (fun a U => a = #[(.ref pb), (.int (1 : Int32))] ∧ Z.Warmed39 U.vm ∧ U.heap = h0) (fun _ _ _ _ _ => True) (fun _ U o U' => ∃ v L, o = .returned v ∧ (own_gc3_1_Q Z pb x0 x1 x2 x3 x4 x5 h0 n0) v U'.heap L ∧ FrameEnd U o U' L ({ frames := 0, cells := 0, slots := 0, locals := 0 } : Room).cells ({ frames := 0, cells := 0, slots := 0, locals := 0 } : Room).slots) := by
  refine MetFree.of_bodySF (plainFor_of_name own_gc3_1_pn) hisR ?_
  intro p e s m args below meth c s₁ Bd hml0 hP hK
  obtain ⟨rfl, hZ, hh⟩ := hP
  have hx := Bd.exec
  have hby := Bd.bytes
  have hml : c.maxLocals = 2 := hml0
  have hown : s.vm.findClass "java/lang/StringUTF16" = some m.cls := findClass_of_methodNamed Bd.named
  have hnm := (name_of_methodNamed Bd.named Bd.method).1
  have hlk : meth.locks = false := Bd.notSynchronized
  have X0 : Stand p l e ({ frames := 0, cells := 0, slots := 0, locals := 0 } : Room) s m #[(.ref pb), (.int (1 : Int32))] below meth c s₁ [] 0 0 := Stand.of_body Bd
  have e0 : s₁.heap = h0 := by rw [← hh, Bd.state]; rfl
  have N0 := Fr.nil n0
  have w_73 := hw _ (List.mem_of_getElem? (l := tables_1) (i := 73) rfl)
  have w_74 := hw _ (List.mem_of_getElem? (l := tables_1) (i := 74) rfl)
  have w_75 := hw _ (List.mem_of_getElem? (l := tables_1) (i := 75) rfl)
  show own_G p.tables e below (fun o U' => ∃ v L, o = .returned v ∧ (own_gc3_1_Q Z pb x0 x1 x2 x3 x4 x5 h0 n0) v U'.heap L ∧ FrameEnd s o U' L ({ frames := 0, cells := 0, slots := 0, locals := 0 } : Room).cells ({ frames := 0, cells := 0, slots := 0, locals := 0 } : Room).slots) (s₁.setTop (entryFrame m #[(.ref pb), (.int (1 : Int32))] 2))
  refine own_go (B := s₁.setTop (mkF m 0 #[rv pb, iv (1 : Int32)] [])) (fun t k => castTop (own_gc3_1_ef m pb) k) ?_
  obtain ⟨T1, X1, e1, st1⟩ := getS X0 hx hZ hown (host := "") w_73 Via.refl e0 hSa (g := (mkF m 0 #[rv pb, iv (1 : Int32)] [])) rfl (hb hby own_gc3_1_d0)
  refine own_go (B := (T1.setTop (mkF m 3 #[rv pb, iv (1 : Int32)] [(.int (1 : Int32))]))) st1 ?_
  have hc3 : ¬ (1 : Int32) = (0 : Int32) := (by decide)
  refine own_ifY X1 hx (hb hby own_gc3_1_d3) (pc' := 28) (by decide) (by decide) hc3 ?_
  refine own_go (B := (T1.setTop (mkF m 29 #[rv pb, iv (1 : Int32)] [(.int (1 : Int32))]))) (fun t k => XS.iloadN X1.here hx rfl (hb hby own_gc3_1_d28) rfl k) ?_
  refine own_go (B := (T1.setTop (mkF m 30 #[rv pb, iv (1 : Int32)] [(.int (1 : Int32)), (.int (1 : Int32))]))) (fun t k => own_iconst (v := (1 : Int32)) X1.here hx rfl (hb hby own_gc3_1_d29) (by decide) k) ?_
  refine own_go (B := (T1.setTop (mkF m 31 #[rv pb, iv (1 : Int32)] [(.int ((1 : Int32) <<< ((1 : Int32) &&& 31)))]))) (fun t k => XS.ishl (x := (1 : Int32)) (y := (1 : Int32)) X1.here hx rfl (hb hby own_gc3_1_d30) rfl k) ?_
  rw [show ((1 : Int32) <<< ((1 : Int32) &&& 31)) = (2 : Int32) from by decide]
  refine own_go (B := (T1.setTop (mkF m 32 #[rv pb, iv (2 : Int32)] []))) (fun t k => XS.istoreN X1.here hx rfl (hb hby own_gc3_1_d31) rfl (l' := #[rv pb, iv (2 : Int32)]) rfl k) ?_
  refine own_go (B := (T1.setTop (mkF m 33 #[rv pb, iv (2 : Int32)] [(.ref pb)]))) (fun t k => XS.aloadN X1.here hx rfl (hb hby own_gc3_1_d32) rfl rfl k) ?_
  refine own_go (B := (T1.setTop (mkF m 34 #[rv pb, iv (2 : Int32)] [(.int (2 : Int32)), (.ref pb)]))) (fun t k => XS.iloadN X1.here hx rfl (hb hby own_gc3_1_d33) rfl k) ?_
  refine own_go (B := (T1.setTop (mkF m 37 #[rv pb, iv (3 : Int32)] [(.int (2 : Int32)), (.ref pb)]))) (fun t k => XS.iinc X1.here hx rfl (hb hby own_gc3_1_d34) rfl (l' := #[rv pb, iv (3 : Int32)]) rfl k) ?_
  refine own_go (B := (T1.setTop (mkF m 38 #[rv pb, iv (3 : Int32)] [(.int x2)]))) (own_ldB X1 hx hZ e1 V0 (v := (.int x2)) (by decide) rfl (g := (mkF m 37 #[rv pb, iv (3 : Int32)] [(.int (2 : Int32)), (.ref pb)])) rfl rfl (hb hby own_gc3_1_d37)) ?_
  refine own_go (B := (T1.setTop (mkF m 41 #[rv pb, iv (3 : Int32)] [(.int (255 : Int32)), (.int x2)]))) (fun t k => own_sipush (v := (255 : Int32)) X1.here hx rfl (hb hby own_gc3_1_d38) (by decide) k) ?_
  refine own_go (B := (T1.setTop (mkF m 42 #[rv pb, iv (3 : Int32)] [(.int (x2 &&& (255 : Int32)))]))) (fun t k => XS.iand (x := x2) (y := (255 : Int32)) X1.here hx rfl (hb hby own_gc3_1_d41) rfl k) ?_
  obtain ⟨T2, X2, e2, st2⟩ := getS X1 hx hZ hown (host := "") w_74 Via.refl e1 hSh (g := (mkF m 42 #[rv pb, iv (3 : Int32)] [(.int (x2 &&& (255 : Int32)))])) rfl (hb hby own_gc3_1_d42)
  refine own_go (B := (T2.setTop (mkF m 45 #[rv pb, iv (3 : Int32)] [(.int (0 : Int32)), (.int (x2 &&& (255 : Int32)))]))) st2 ?_
  refine own_go (B := (T2.setTop (mkF m 46 #[rv pb, iv (3 : Int32)] [(.int ((x2 &&& (255 : Int32)) <<< ((0 : Int32) &&& 31)))]))) (fun t k => XS.ishl (x := (x2 &&& (255 : Int32))) (y := (0 : Int32)) X2.here hx rfl (hb hby own_gc3_1_d45) rfl k) ?_
  refine own_go (B := (T2.setTop (mkF m 47 #[rv pb, iv (3 : Int32)] [(.ref pb), (.int ((x2 &&& (255 : Int32)) <<< ((0 : Int32) &&& 31)))]))) (fun t k => XS.aloadN X2.here hx rfl (hb hby own_gc3_1_d46) rfl rfl k) ?_
  refine own_go (B := (T2.setTop (mkF m 48 #[rv pb, iv (3 : Int32)] [(.int (3 : Int32)), (.ref pb), (.int ((x2 &&& (255 : Int32)) <<< ((0 : Int32) &&& 31)))]))) (fun t k => XS.iloadN X2.here hx rfl (hb hby own_gc3_1_d47) rfl k) ?_
  refine own_go (B := (T2.setTop (mkF m 49 #[rv pb, iv (3 : Int32)] [(.int x3), (.int ((x2 &&& (255 : Int32)) <<< ((0 : Int32) &&& 31)))]))) (own_ldB X2 hx hZ e2 V0 (v := (.int x3)) (by decide) rfl (g := (mkF m 48 #[rv pb, iv (3 : Int32)] [(.int (3 : Int32)), (.ref pb), (.int ((x2 &&& (255 : Int32)) <<< ((0 : Int32) &&& 31)))])) rfl rfl (hb hby own_gc3_1_d48)) ?_
  refine own_go (B := (T2.setTop (mkF m 52 #[rv pb, iv (3 : Int32)] [(.int (255 : Int32)), (.int x3), (.int ((x2 &&& (255 : Int32)) <<< ((0 : Int32) &&& 31)))]))) (fun t k => own_sipush (v := (255 : Int32)) X2.here hx rfl (hb hby own_gc3_1_d49) (by decide) k) ?_
  refine own_go (B := (T2.setTop (mkF m 53 #[rv pb, iv (3 : Int32)] [(.int (x3 &&& (255 : Int32))), (.int ((x2 &&& (255 : Int32)) <<< ((0 : Int32) &&& 31)))]))) (fun t k => XS.iand (x := x3) (y := (255 : Int32)) X2.here hx rfl (hb hby own_gc3_1_d52) rfl k) ?_
  obtain ⟨T3, X3, e3, st3⟩ := getS X2 hx hZ hown (host := "") w_75 Via.refl e2 hSl (g := (mkF m 53 #[rv pb, iv (3 : Int32)] [(.int (x3 &&& (255 : Int32))), (.int ((x2 &&& (255 : Int32)) <<< ((0 : Int32) &&& 31)))])) rfl (hb hby own_gc3_1_d53)
  refine own_go (B := (T3.setTop (mkF m 56 #[rv pb, iv (3 : Int32)] [(.int (8 : Int32)), (.int (x3 &&& (255 : Int32))), (.int ((x2 &&& (255 : Int32)) <<< ((0 : Int32) &&& 31)))]))) st3 ?_
  refine own_go (B := (T3.setTop (mkF m 57 #[rv pb, iv (3 : Int32)] [(.int ((x3 &&& (255 : Int32)) <<< ((8 : Int32) &&& 31))), (.int ((x2 &&& (255 : Int32)) <<< ((0 : Int32) &&& 31)))]))) (fun t k => XS.ishl (x := (x3 &&& (255 : Int32))) (y := (8 : Int32)) X3.here hx rfl (hb hby own_gc3_1_d56) rfl k) ?_
  refine own_go (B := (T3.setTop (mkF m 58 #[rv pb, iv (3 : Int32)] [(.int (((x2 &&& (255 : Int32)) <<< ((0 : Int32) &&& 31)) ||| ((x3 &&& (255 : Int32)) <<< ((8 : Int32) &&& 31))))]))) (fun t k => XS.ior (x := ((x2 &&& (255 : Int32)) <<< ((0 : Int32) &&& 31))) (y := ((x3 &&& (255 : Int32)) <<< ((8 : Int32) &&& 31))) X3.here hx rfl (hb hby own_gc3_1_d57) rfl k) ?_
  refine own_go (B := (T3.setTop (mkF m 59 #[rv pb, iv (3 : Int32)] [(.int ((((x2 &&& (255 : Int32)) <<< ((0 : Int32) &&& 31)) ||| ((x3 &&& (255 : Int32)) <<< ((8 : Int32) &&& 31))).toUInt32.toUInt16.toUInt32.toInt32))]))) (fun t k => XS.i2c X3.here hx rfl (hb hby own_gc3_1_d58) rfl k) ?_
  exact own_retC X3 hx hlk Bd.returns (hb hby own_gc3_1_d59) (own_nwC (own_i2c _)) (own_b rfl) (own_b rfl) (Q := (own_gc3_1_Q Z pb x0 x1 x2 x3 x4 x5 h0 n0)) ⟨rfl, N0, e3⟩

theorem own_gc3_2_d0 : decode jdk_52_method_5_code 0 = .ok (.getstatic 44, 3) := by decide +kernel
theorem own_gc3_2_d3 : decode jdk_52_method_5_code 3 = .ok (.ifCond .ne 25, 3) := by decide +kernel
theorem own_gc3_2_d28 : decode jdk_52_method_5_code 28 = .ok (.iload_n 1, 1) := by decide +kernel
theorem own_gc3_2_d29 : decode jdk_52_method_5_code 29 = .ok (.iconst 1, 1) := by decide +kernel
theorem own_gc3_2_d30 : decode jdk_52_method_5_code 30 = .ok (.ishl, 1) := by decide +kernel
theorem own_gc3_2_d31 : decode jdk_52_method_5_code 31 = .ok (.istore_n 1, 1) := by decide +kernel
theorem own_gc3_2_d32 : decode jdk_52_method_5_code 32 = .ok (.aload_n 0, 1) := by decide +kernel
theorem own_gc3_2_d33 : decode jdk_52_method_5_code 33 = .ok (.iload_n 1, 1) := by decide +kernel
theorem own_gc3_2_d34 : decode jdk_52_method_5_code 34 = .ok (.iinc 1 1, 3) := by decide +kernel
theorem own_gc3_2_d37 : decode jdk_52_method_5_code 37 = .ok (.baload, 1) := by decide +kernel
theorem own_gc3_2_d38 : decode jdk_52_method_5_code 38 = .ok (.sipush 255, 3) := by decide +kernel
theorem own_gc3_2_d41 : decode jdk_52_method_5_code 41 = .ok (.iand, 1) := by decide +kernel
theorem own_gc3_2_d42 : decode jdk_52_method_5_code 42 = .ok (.getstatic 59, 3) := by decide +kernel
theorem own_gc3_2_d45 : decode jdk_52_method_5_code 45 = .ok (.ishl, 1) := by decide +kernel
theorem own_gc3_2_d46 : decode jdk_52_method_5_code 46 = .ok (.aload_n 0, 1) := by decide +kernel
theorem own_gc3_2_d47 : decode jdk_52_method_5_code 47 = .ok (.iload_n 1, 1) := by decide +kernel
theorem own_gc3_2_d48 : decode jdk_52_method_5_code 48 = .ok (.baload, 1) := by decide +kernel
theorem own_gc3_2_d49 : decode jdk_52_method_5_code 49 = .ok (.sipush 255, 3) := by decide +kernel
theorem own_gc3_2_d52 : decode jdk_52_method_5_code 52 = .ok (.iand, 1) := by decide +kernel
theorem own_gc3_2_d53 : decode jdk_52_method_5_code 53 = .ok (.getstatic 63, 3) := by decide +kernel
theorem own_gc3_2_d56 : decode jdk_52_method_5_code 56 = .ok (.ishl, 1) := by decide +kernel
theorem own_gc3_2_d57 : decode jdk_52_method_5_code 57 = .ok (.ior, 1) := by decide +kernel
theorem own_gc3_2_d58 : decode jdk_52_method_5_code 58 = .ok (.i2c, 1) := by decide +kernel
theorem own_gc3_2_d59 : decode jdk_52_method_5_code 59 = .ok (.ireturn, 1) := by decide +kernel
theorem own_gc3_2_pn : plainName "java/lang/StringUTF16" = true := by first | (simp [plainName, overriddenIn]; done) | decide +kernel
theorem own_gc3_2_ef (m : MethodId) (pb : Addr) : entryFrame m #[(.ref pb), (.int (2 : Int32))] 2 = mkF m 0 #[rv pb, iv (2 : Int32)] [] := by first | (simp [entryFrame, mkF, argsToLocals, Value.category]; done) | rfl
def own_gc3_2_Q (Z : State) (pb : Addr) (x0 x1 x2 x3 x4 x5 : Int32) (h0 : Heap) (n0 : Nat) (v : Option Value) (h : Heap) (L : List Loc) : Prop := v = some (.int ((((x4 &&& (255 : Int32)) <<< ((0 : Int32) &&& 31)) ||| ((x5 &&& (255 : Int32)) <<< ((8 : Int32) &&& 31))).toUInt32.toUInt16.toUInt32.toInt32)) ∧ Fr n0 L ∧ h = h0
set_option maxRecDepth 65536 in
set_option maxHeartbeats 40000000 in
theorem own_gc3_2 (l : Launch) (Z : State) (a0 : Array Value) (hw : ∀ d ∈ tables_1, d.before a0 Z = true) (ws : List Jvm.Cond) (pb : Addr) (x0 x1 x2 x3 x4 x5 : Int32) (h0 : Heap) (n0 : Nat) (V0 : own_Ar Z h0 pb .byte [(.int x0), (.int x1), (.int x2), (.int x3), (.int x4), (.int x5)]) (hSa : Sta Z h0 "java/lang/StringUTF16" "$assertionsDisabled" "Z" (.int (1 : Int32))) (hSh : Sta Z h0 "java/lang/StringUTF16" "HI_BYTE_SHIFT" "I" (.int (0 : Int32))) (hSl : Sta Z h0 "java/lang/StringUTF16" "LO_BYTE_SHIFT" "I" (.int (8 : Int32))) :
    MetFree l own_y6 (head1 (Jvm.Cond.code own_y6 jdk_52_method_5_code 2 (some .char) :: ws) ({ frames := 0, cells := 0, slots := 0, locals := 0 } : Room)) (fun a U => a = #[(.ref pb), (.int (2 : Int32))] ∧ Z.Warmed39 U.vm ∧ U.heap = h0) (fun _ _ _ _ _ => True) (fun _ U o U' => ∃ v L, o = .returned v ∧ (own_gc3_2_Q Z pb x0 x1 x2 x3 x4 x5 h0 n0) v U'.heap L ∧ FrameEnd U o U' L ({ frames := 0, cells := 0, slots := 0, locals := 0 } : Room).cells ({ frames := 0, cells := 0, slots := 0, locals := 0 } : Room).slots) := by
  refine MetFree.of_bodySF (plainFor_of_name own_gc3_2_pn) hisR ?_
  intro p e s m args below meth c s₁ Bd hml0 hP hK
  obtain ⟨rfl, hZ, hh⟩ := hP
  have hx := Bd.exec
  have hby := Bd.bytes
  have hml : c.maxLocals = 2 := hml0
  have hown : s.vm.findClass "java/lang/StringUTF16" = some m.cls := findClass_of_methodNamed Bd.named
  have hnm := (name_of_methodNamed Bd.named Bd.method).1
  have hlk : meth.locks = false := Bd.notSynchronized
  have X0 : Stand p l e ({ frames := 0, cells := 0, slots := 0, locals := 0 } : Room) s m #[(.ref pb), (.int (2 : Int32))] below meth c s₁ [] 0 0 := Stand.of_body Bd
  have e0 : s₁.heap = h0 := by rw [← hh, Bd.state]; rfl
  have N0 := Fr.nil n0
  have w_73 := hw _ (List.mem_of_getElem? (l := tables_1) (i := 73) rfl)
  have w_74 := hw _ (List.mem_of_getElem? (l := tables_1) (i := 74) rfl)
  have w_75 := hw _ (List.mem_of_getElem? (l := tables_1) (i := 75) rfl)
  show own_G p.tables e below (fun o U' => ∃ v L, o = .returned v ∧ (own_gc3_2_Q Z pb x0 x1 x2 x3 x4 x5 h0 n0) v U'.heap L ∧ FrameEnd s o U' L ({ frames := 0, cells := 0, slots := 0, locals := 0 } : Room).cells ({ frames := 0, cells := 0, slots := 0, locals := 0 } : Room).slots) (s₁.setTop (entryFrame m #[(.ref pb), (.int (2 : Int32))] 2))
  refine own_go (B := s₁.setTop (mkF m 0 #[rv pb, iv (2 : Int32)] [])) (fun t k => castTop (own_gc3_2_ef m pb) k) ?_
  obtain ⟨T1, X1, e1, st1⟩ := getS X0 hx hZ hown (host := "") w_73 Via.refl e0 hSa (g := (mkF m 0 #[rv pb, iv (2 : Int32)] [])) rfl (hb hby own_gc3_2_d0)
  refine own_go (B := (T1.setTop (mkF m 3 #[rv pb, iv (2 : Int32)] [(.int (1 : Int32))]))) st1 ?_
  have hc3 : ¬ (1 : Int32) = (0 : Int32) := (by decide)
  refine own_ifY X1 hx (hb hby own_gc3_2_d3) (pc' := 28) (by decide) (by decide) hc3 ?_
  refine own_go (B := (T1.setTop (mkF m 29 #[rv pb, iv (2 : Int32)] [(.int (2 : Int32))]))) (fun t k => XS.iloadN X1.here hx rfl (hb hby own_gc3_2_d28) rfl k) ?_
  refine own_go (B := (T1.setTop (mkF m 30 #[rv pb, iv (2 : Int32)] [(.int (1 : Int32)), (.int (2 : Int32))]))) (fun t k => own_iconst (v := (1 : Int32)) X1.here hx rfl (hb hby own_gc3_2_d29) (by decide) k) ?_
  refine own_go (B := (T1.setTop (mkF m 31 #[rv pb, iv (2 : Int32)] [(.int ((2 : Int32) <<< ((1 : Int32) &&& 31)))]))) (fun t k => XS.ishl (x := (2 : Int32)) (y := (1 : Int32)) X1.here hx rfl (hb hby own_gc3_2_d30) rfl k) ?_
  rw [show ((2 : Int32) <<< ((1 : Int32) &&& 31)) = (4 : Int32) from by decide]
  refine own_go (B := (T1.setTop (mkF m 32 #[rv pb, iv (4 : Int32)] []))) (fun t k => XS.istoreN X1.here hx rfl (hb hby own_gc3_2_d31) rfl (l' := #[rv pb, iv (4 : Int32)]) rfl k) ?_
  refine own_go (B := (T1.setTop (mkF m 33 #[rv pb, iv (4 : Int32)] [(.ref pb)]))) (fun t k => XS.aloadN X1.here hx rfl (hb hby own_gc3_2_d32) rfl rfl k) ?_
  refine own_go (B := (T1.setTop (mkF m 34 #[rv pb, iv (4 : Int32)] [(.int (4 : Int32)), (.ref pb)]))) (fun t k => XS.iloadN X1.here hx rfl (hb hby own_gc3_2_d33) rfl k) ?_
  refine own_go (B := (T1.setTop (mkF m 37 #[rv pb, iv (5 : Int32)] [(.int (4 : Int32)), (.ref pb)]))) (fun t k => XS.iinc X1.here hx rfl (hb hby own_gc3_2_d34) rfl (l' := #[rv pb, iv (5 : Int32)]) rfl k) ?_
  refine own_go (B := (T1.setTop (mkF m 38 #[rv pb, iv (5 : Int32)] [(.int x4)]))) (own_ldB X1 hx hZ e1 V0 (v := (.int x4)) (by decide) rfl (g := (mkF m 37 #[rv pb, iv (5 : Int32)] [(.int (4 : Int32)), (.ref pb)])) rfl rfl (hb hby own_gc3_2_d37)) ?_
  refine own_go (B := (T1.setTop (mkF m 41 #[rv pb, iv (5 : Int32)] [(.int (255 : Int32)), (.int x4)]))) (fun t k => own_sipush (v := (255 : Int32)) X1.here hx rfl (hb hby own_gc3_2_d38) (by decide) k) ?_
  refine own_go (B := (T1.setTop (mkF m 42 #[rv pb, iv (5 : Int32)] [(.int (x4 &&& (255 : Int32)))]))) (fun t k => XS.iand (x := x4) (y := (255 : Int32)) X1.here hx rfl (hb hby own_gc3_2_d41) rfl k) ?_
  obtain ⟨T2, X2, e2, st2⟩ := getS X1 hx hZ hown (host := "") w_74 Via.refl e1 hSh (g := (mkF m 42 #[rv pb, iv (5 : Int32)] [(.int (x4 &&& (255 : Int32)))])) rfl (hb hby own_gc3_2_d42)
  refine own_go (B := (T2.setTop (mkF m 45 #[rv pb, iv (5 : Int32)] [(.int (0 : Int32)), (.int (x4 &&& (255 : Int32)))]))) st2 ?_
  refine own_go (B := (T2.setTop (mkF m 46 #[rv pb, iv (5 : Int32)] [(.int ((x4 &&& (255 : Int32)) <<< ((0 : Int32) &&& 31)))]))) (fun t k => XS.ishl (x := (x4 &&& (255 : Int32))) (y := (0 : Int32)) X2.here hx rfl (hb hby own_gc3_2_d45) rfl k) ?_
  refine own_go (B := (T2.setTop (mkF m 47 #[rv pb, iv (5 : Int32)] [(.ref pb), (.int ((x4 &&& (255 : Int32)) <<< ((0 : Int32) &&& 31)))]))) (fun t k => XS.aloadN X2.here hx rfl (hb hby own_gc3_2_d46) rfl rfl k) ?_
  refine own_go (B := (T2.setTop (mkF m 48 #[rv pb, iv (5 : Int32)] [(.int (5 : Int32)), (.ref pb), (.int ((x4 &&& (255 : Int32)) <<< ((0 : Int32) &&& 31)))]))) (fun t k => XS.iloadN X2.here hx rfl (hb hby own_gc3_2_d47) rfl k) ?_
  refine own_go (B := (T2.setTop (mkF m 49 #[rv pb, iv (5 : Int32)] [(.int x5), (.int ((x4 &&& (255 : Int32)) <<< ((0 : Int32) &&& 31)))]))) (own_ldB X2 hx hZ e2 V0 (v := (.int x5)) (by decide) rfl (g := (mkF m 48 #[rv pb, iv (5 : Int32)] [(.int (5 : Int32)), (.ref pb), (.int ((x4 &&& (255 : Int32)) <<< ((0 : Int32) &&& 31)))])) rfl rfl (hb hby own_gc3_2_d48)) ?_
  refine own_go (B := (T2.setTop (mkF m 52 #[rv pb, iv (5 : Int32)] [(.int (255 : Int32)), (.int x5), (.int ((x4 &&& (255 : Int32)) <<< ((0 : Int32) &&& 31)))]))) (fun t k => own_sipush (v := (255 : Int32)) X2.here hx rfl (hb hby own_gc3_2_d49) (by decide) k) ?_
  refine own_go (B := (T2.setTop (mkF m 53 #[rv pb, iv (5 : Int32)] [(.int (x5 &&& (255 : Int32))), (.int ((x4 &&& (255 : Int32)) <<< ((0 : Int32) &&& 31)))]))) (fun t k => XS.iand (x := x5) (y := (255 : Int32)) X2.here hx rfl (hb hby own_gc3_2_d52) rfl k) ?_
  obtain ⟨T3, X3, e3, st3⟩ := getS X2 hx hZ hown (host := "") w_75 Via.refl e2 hSl (g := (mkF m 53 #[rv pb, iv (5 : Int32)] [(.int (x5 &&& (255 : Int32))), (.int ((x4 &&& (255 : Int32)) <<< ((0 : Int32) &&& 31)))])) rfl (hb hby own_gc3_2_d53)
  refine own_go (B := (T3.setTop (mkF m 56 #[rv pb, iv (5 : Int32)] [(.int (8 : Int32)), (.int (x5 &&& (255 : Int32))), (.int ((x4 &&& (255 : Int32)) <<< ((0 : Int32) &&& 31)))]))) st3 ?_
  refine own_go (B := (T3.setTop (mkF m 57 #[rv pb, iv (5 : Int32)] [(.int ((x5 &&& (255 : Int32)) <<< ((8 : Int32) &&& 31))), (.int ((x4 &&& (255 : Int32)) <<< ((0 : Int32) &&& 31)))]))) (fun t k => XS.ishl (x := (x5 &&& (255 : Int32))) (y := (8 : Int32)) X3.here hx rfl (hb hby own_gc3_2_d56) rfl k) ?_
  refine own_go (B := (T3.setTop (mkF m 58 #[rv pb, iv (5 : Int32)] [(.int (((x4 &&& (255 : Int32)) <<< ((0 : Int32) &&& 31)) ||| ((x5 &&& (255 : Int32)) <<< ((8 : Int32) &&& 31))))]))) (fun t k => XS.ior (x := ((x4 &&& (255 : Int32)) <<< ((0 : Int32) &&& 31))) (y := ((x5 &&& (255 : Int32)) <<< ((8 : Int32) &&& 31))) X3.here hx rfl (hb hby own_gc3_2_d57) rfl k) ?_
  refine own_go (B := (T3.setTop (mkF m 59 #[rv pb, iv (5 : Int32)] [(.int ((((x4 &&& (255 : Int32)) <<< ((0 : Int32) &&& 31)) ||| ((x5 &&& (255 : Int32)) <<< ((8 : Int32) &&& 31))).toUInt32.toUInt16.toUInt32.toInt32))]))) (fun t k => XS.i2c X3.here hx rfl (hb hby own_gc3_2_d58) rfl k) ?_
  exact own_retC X3 hx hlk Bd.returns (hb hby own_gc3_2_d59) (own_nwC (own_i2c _)) (own_b rfl) (own_b rfl) (Q := (own_gc3_2_Q Z pb x0 x1 x2 x3 x4 x5 h0 n0)) ⟨rfl, N0, e3⟩

theorem own_nl2_d0 : decode jdk_52_method_3_code 0 = .ok (.iload_n 0, 1) := by decide +kernel
theorem own_nl2_d1 : decode jdk_52_method_3_code 1 = .ok (.ifCond .ge 11, 3) := by decide +kernel
theorem own_nl2_d12 : decode jdk_52_method_3_code 12 = .ok (.iload_n 0, 1) := by decide +kernel
theorem own_nl2_d13 : decode jdk_52_method_3_code 13 = .ok (.ldc 20, 2) := by decide +kernel
theorem own_nl2_d15 : decode jdk_52_method_3_code 15 = .ok (.if_icmp .lt 40, 3) := by decide +kernel
theorem own_nl2_d55 : decode jdk_52_method_3_code 55 = .ok (.iload_n 0, 1) := by decide +kernel
theorem own_nl2_d56 : decode jdk_52_method_3_code 56 = .ok (.iconst 1, 1) := by decide +kernel
theorem own_nl2_d57 : decode jdk_52_method_3_code 57 = .ok (.ishl, 1) := by decide +kernel
theorem own_nl2_d58 : decode jdk_52_method_3_code 58 = .ok (.ireturn, 1) := by decide +kernel
theorem own_nl2_pn : plainName "java/lang/StringUTF16" = true := by first | (simp [plainName, overriddenIn]; done) | decide +kernel
theorem own_nl2_ef (m : MethodId) : entryFrame m #[(.int (2 : Int32))] 1 = mkF m 0 #[iv (2 : Int32)] [] := by first | (simp [entryFrame, mkF, argsToLocals, Value.category]; done) | rfl
def own_nl2_Q (Z : State) (h0 : Heap) (n0 : Nat) (v : Option Value) (h : Heap) (L : List Loc) : Prop := v = some (.int (4 : Int32)) ∧ Fr n0 L ∧ h = h0
set_option maxRecDepth 65536 in
set_option maxHeartbeats 40000000 in
theorem own_nl2 (l : Launch) (Z : State) (a0 : Array Value) (hw : ∀ d ∈ tables_1, d.before a0 Z = true) (ws : List Jvm.Cond) (h0 : Heap) (n0 : Nat) :
    MetFree l own_y1 (head1 (Jvm.Cond.code own_y1 jdk_52_method_3_code 1 (some .int) :: ws) ({ frames := 0, cells := 0, slots := 0, locals := 0 } : Room)) (fun a U => a = #[(.int (2 : Int32))] ∧ Z.Warmed39 U.vm ∧ U.heap = h0) (fun _ _ _ _ _ => True) (fun _ U o U' => ∃ v L, o = .returned v ∧ (own_nl2_Q Z h0 n0) v U'.heap L ∧ FrameEnd U o U' L ({ frames := 0, cells := 0, slots := 0, locals := 0 } : Room).cells ({ frames := 0, cells := 0, slots := 0, locals := 0 } : Room).slots) := by
  refine MetFree.of_bodySF (plainFor_of_name own_nl2_pn) hisR ?_
  intro p e s m args below meth c s₁ Bd hml0 hP hK
  obtain ⟨rfl, hZ, hh⟩ := hP
  have hx := Bd.exec
  have hby := Bd.bytes
  have hml : c.maxLocals = 1 := hml0
  have hown : s.vm.findClass "java/lang/StringUTF16" = some m.cls := findClass_of_methodNamed Bd.named
  have hnm := (name_of_methodNamed Bd.named Bd.method).1
  have hlk : meth.locks = false := Bd.notSynchronized
  have X0 : Stand p l e ({ frames := 0, cells := 0, slots := 0, locals := 0 } : Room) s m #[(.int (2 : Int32))] below meth c s₁ [] 0 0 := Stand.of_body Bd
  have e0 : s₁.heap = h0 := by rw [← hh, Bd.state]; rfl
  have N0 := Fr.nil n0
  have w_85 := hw _ (List.mem_of_getElem? (l := tables_1) (i := 85) rfl)
  show own_G p.tables e below (fun o U' => ∃ v L, o = .returned v ∧ (own_nl2_Q Z h0 n0) v U'.heap L ∧ FrameEnd s o U' L ({ frames := 0, cells := 0, slots := 0, locals := 0 } : Room).cells ({ frames := 0, cells := 0, slots := 0, locals := 0 } : Room).slots) (s₁.setTop (entryFrame m #[(.int (2 : Int32))] 1))
  refine own_go (B := s₁.setTop (mkF m 0 #[iv (2 : Int32)] [])) (fun t k => castTop (own_nl2_ef m) k) ?_
  refine own_go (B := (s₁.setTop (mkF m 1 #[iv (2 : Int32)] [(.int (2 : Int32))]))) (fun t k => XS.iloadN X0.here hx rfl (hb hby own_nl2_d0) rfl k) ?_
  have hc1 : ¬ (2 : Int32) < (0 : Int32) := (by decide)
  refine own_ifY X0 hx (hb hby own_nl2_d1) (pc' := 12) (by decide) (by decide) hc1 ?_
  refine own_go (B := (s₁.setTop (mkF m 13 #[iv (2 : Int32)] [(.int (2 : Int32))]))) (fun t k => XS.iloadN X0.here hx rfl (hb hby own_nl2_d12) rfl k) ?_
  have lc1 := X0.ldcInt hx hown (v := (1073741823 : Int32)) (mvT hZ w_85) (g := (mkF m 13 #[iv (2 : Int32)] [(.int (2 : Int32))])) rfl (hb hby own_nl2_d13)
  refine own_go (B := (s₁.setTop (mkF m 15 #[iv (2 : Int32)] [(.int (1073741823 : Int32)), (.int (2 : Int32))]))) lc1 ?_
  have hc15 : (2 : Int32) < (1073741823 : Int32) := (by decide)
  refine own_icmpY X0 hx (hb hby own_nl2_d15) (pc' := 55) (by decide) (by decide) hc15 ?_
  refine own_go (B := (s₁.setTop (mkF m 56 #[iv (2 : Int32)] [(.int (2 : Int32))]))) (fun t k => XS.iloadN X0.here hx rfl (hb hby own_nl2_d55) rfl k) ?_
  refine own_go (B := (s₁.setTop (mkF m 57 #[iv (2 : Int32)] [(.int (1 : Int32)), (.int (2 : Int32))]))) (fun t k => own_iconst (v := (1 : Int32)) X0.here hx rfl (hb hby own_nl2_d56) (by decide) k) ?_
  refine own_go (B := (s₁.setTop (mkF m 58 #[iv (2 : Int32)] [(.int ((2 : Int32) <<< ((1 : Int32) &&& 31)))]))) (fun t k => XS.ishl (x := (2 : Int32)) (y := (1 : Int32)) X0.here hx rfl (hb hby own_nl2_d57) rfl k) ?_
  rw [show ((2 : Int32) <<< ((1 : Int32) &&& 31)) = (4 : Int32) from by decide]
  exact own_retI X0 hx hlk Bd.returns (hb hby own_nl2_d58) (own_b rfl) (own_b rfl) (Q := (own_nl2_Q Z h0 n0)) ⟨rfl, N0, e0⟩

theorem own_nf2_d0 : decode jdk_52_method_2_code 0 = .ok (.iload_n 0, 1) := by decide +kernel
theorem own_nf2_d1 : decode jdk_52_method_2_code 1 = .ok (.invokestatic 11, 3) := by decide +kernel
theorem own_nf2_d4 : decode jdk_52_method_2_code 4 = .ok (.newarray .byte, 2) := by decide +kernel
theorem own_nf2_d6 : decode jdk_52_method_2_code 6 = .ok (.areturn, 1) := by decide +kernel
theorem own_nf2_pn : plainName "java/lang/StringUTF16" = true := by first | (simp [plainName, overriddenIn]; done) | decide +kernel
theorem own_nf2_ef (m : MethodId) : entryFrame m #[(.int (2 : Int32))] 1 = mkF m 0 #[iv (2 : Int32)] [] := by first | (simp [entryFrame, mkF, argsToLocals, Value.category]; done) | rfl
def own_nf2_Q (Z : State) (h0 : Heap) (n0 : Nat) (v : Option Value) (h : Heap) (L : List Loc) : Prop := ∃ b, v = some (.ref b) ∧ Fr n0 L ∧ Keep h0 h [] ∧ h0.size ≤ b ∧ own_Ar Z h b .byte [(.int (0 : Int32)), (.int (0 : Int32)), (.int (0 : Int32)), (.int (0 : Int32))]
set_option maxRecDepth 65536 in
set_option maxHeartbeats 40000000 in
theorem own_nf2 (l : Launch) (Z : State) (a0 : Array Value) (hw : ∀ d ∈ tables_1, d.before a0 Z = true) (ws : List Jvm.Cond) (h0 : Heap) (n0 : Nat) (Z0 : n0 ≤ h0.size) :
    MetFree l own_y2 (head1 (Jvm.Cond.code own_y2 jdk_52_method_2_code 1 (some (.array .byte)) :: ws) ({ frames := 1, cells := 1, slots := 4, locals := 12 } : Room)) (fun a U => a = #[(.int (2 : Int32))] ∧ Z.Warmed39 U.vm ∧ U.heap = h0) (fun _ _ _ _ _ => True) (fun _ U o U' => ∃ v L, o = .returned v ∧ (own_nf2_Q Z h0 n0) v U'.heap L ∧ FrameEnd U o U' L ({ frames := 1, cells := 1, slots := 4, locals := 12 } : Room).cells ({ frames := 1, cells := 1, slots := 4, locals := 12 } : Room).slots) := by
  refine MetFree.of_bodySF (plainFor_of_name own_nf2_pn) hisR ?_
  intro p e s m args below meth c s₁ Bd hml0 hP hK
  obtain ⟨rfl, hZ, hh⟩ := hP
  have hx := Bd.exec
  have hby := Bd.bytes
  have hml : c.maxLocals = 1 := hml0
  have hown : s.vm.findClass "java/lang/StringUTF16" = some m.cls := findClass_of_methodNamed Bd.named
  have hnm := (name_of_methodNamed Bd.named Bd.method).1
  have hlk : meth.locks = false := Bd.notSynchronized
  have X0 : Stand p l e ({ frames := 1, cells := 1, slots := 4, locals := 12 } : Room) s m #[(.int (2 : Int32))] below meth c s₁ [] 0 0 := Stand.of_body Bd
  have e0 : s₁.heap = h0 := by rw [← hh, Bd.state]; rfl
  have N0 := Fr.nil n0
  have w_16 := hw _ (List.mem_of_getElem? (l := tables_1) (i := 16) rfl)
  have w_40 := hw _ (List.mem_of_getElem? (l := tables_1) (i := 40) rfl)
  have w_82 := hw _ (List.mem_of_getElem? (l := tables_1) (i := 82) rfl)
  have w_83 := hw _ (List.mem_of_getElem? (l := tables_1) (i := 83) rfl)
  have w_84 := hw _ (List.mem_of_getElem? (l := tables_1) (i := 84) rfl)
  show own_G p.tables e below (fun o U' => ∃ v L, o = .returned v ∧ (own_nf2_Q Z h0 n0) v U'.heap L ∧ FrameEnd s o U' L ({ frames := 1, cells := 1, slots := 4, locals := 12 } : Room).cells ({ frames := 1, cells := 1, slots := 4, locals := 12 } : Room).slots) (s₁.setTop (entryFrame m #[(.int (2 : Int32))] 1))
  refine own_go (B := s₁.setTop (mkF m 0 #[iv (2 : Int32)] [])) (fun t k => castTop (own_nf2_ef m) k) ?_
  have K0 := Keep.refl h0 []
  refine own_go (B := (s₁.setTop (mkF m 1 #[iv (2 : Int32)] [(.int (2 : Int32))]))) (fun t k => XS.iloadN X0.here hx rfl (hb hby own_nf2_d0) rfl k) ?_
  obtain ⟨_, _, ⟨T1, L1, k1, n1⟩, -, X1, ⟨Lc1, hQ1, l1, yy1, zz1⟩, st1⟩ := Jvm.LawKit.callS X0 hx (y := own_y1) hown (mvT hZ w_82) (mvT hZ w_83) (mvT hZ w_40) (mvT hZ w_84) (by decide) (backOf (W := 0) (own_nl2 l Z a0 hw [] h0 n0) hZ w_84 w_40 (by decide) (by decide)) (g := (mkF m 1 #[iv (2 : Int32)] [(.int (2 : Int32))])) rfl (by rw [hml]; rfl) (argsL := [(.int (2 : Int32))]) (rest := []) (lenOf own_pd1 rfl) rfl (by show 2 * 0 + _ ≤ _; exact own_b rfl) (hb hby own_nf2_d1) (fun _ _ => ⟨rfl, e0, (own_b rfl : 0 + 0 ≤ _), (own_b rfl : 0 + 0 ≤ _)⟩)
  dsimp only [Pt.U, Pt.locs, Pt.cells, Pt.slots] at X1 l1 yy1 zz1 st1 hQ1
  obtain ⟨rfl, Nq1, eq1⟩ := hQ1
  obtain ⟨L1, X1, N1⟩ := own_absC (K := 0) (K' := 0) X1 l1 yy1 zz1 N0 Nq1
  have e1 : T1.heap = h0 := eq1
  refine own_go (B := (T1.setTop (mkF m 4 #[iv (2 : Int32)] [(.int (4 : Int32))]))) st1 ?_
  obtain ⟨T2, h2, c2, X2, e2, E2, A2, st2⟩ := newP X1 hx hZ (aty := .byte) w_16 e1 (g := (mkF m 4 #[iv (2 : Int32)] [(.int (4 : Int32))])) rfl (hb hby own_nf2_d4) rfl (by decide) (cap := 4) (by decide) (by decide) (own_b rfl) (own_b rfl)
  obtain ⟨a2, ga2⟩ : ∃ z, z = h0.size := ⟨_, rfl⟩
  rw [← ga2] at A2 st2
  refine own_go (B := (T2.setTop (mkF m 6 #[iv (2 : Int32)] [(.ref a2)]))) st2 ?_
  have Z3 : n0 ≤ h2.size := Nat.le_trans Z0 E2.1
  have K4 := Keep.ext K0 E2
  have gn2 : n0 ≤ a2 := Nat.le_trans Z0 (Nat.le_of_eq ga2.symm)
  have V2 : own_Ar Z h2 a2 .byte [(.int (0 : Int32)), (.int (0 : Int32)), (.int (0 : Int32)), (.int (0 : Int32))] := own_Ar_new A2 (N := 4) (by decide) rfl
  exact own_retA X2 hx hlk Bd.returns rfl rfl (hb hby own_nf2_d6) (own_b rfl) (own_b rfl) (Q := (own_nf2_Q Z h0 n0)) (by rw [e2]; exact ⟨_, rfl, N1, K4, Nat.le_trans K0.1 (Nat.le_of_eq ga2.symm), V2⟩)

theorem own_tb2_d0 : decode jdk_52_method_14_code 0 = .ok (.iload_n 2, 1) := by decide +kernel
theorem own_tb2_d1 : decode jdk_52_method_14_code 1 = .ok (.invokestatic 107, 3) := by decide +kernel
theorem own_tb2_d4 : decode jdk_52_method_14_code 4 = .ok (.astore_n 3, 1) := by decide +kernel
theorem own_tb2_d5 : decode jdk_52_method_14_code 5 = .ok (.iconst 0, 1) := by decide +kernel
theorem own_tb2_d6 : decode jdk_52_method_14_code 6 = .ok (.istore 4, 2) := by decide +kernel
theorem own_tb2_d8 : decode jdk_52_method_14_code 8 = .ok (.iload 4, 2) := by decide +kernel
theorem own_tb2_d10 : decode jdk_52_method_14_code 10 = .ok (.iload_n 2, 1) := by decide +kernel
theorem own_tb2_d11 : decode jdk_52_method_14_code 11 = .ok (.if_icmp .ge 21, 3) := by decide +kernel
theorem own_tb2_d14 : decode jdk_52_method_14_code 14 = .ok (.aload_n 3, 1) := by decide +kernel
theorem own_tb2_d15 : decode jdk_52_method_14_code 15 = .ok (.iload 4, 2) := by decide +kernel
theorem own_tb2_d17 : decode jdk_52_method_14_code 17 = .ok (.aload_n 0, 1) := by decide +kernel
theorem own_tb2_d18 : decode jdk_52_method_14_code 18 = .ok (.iload_n 1, 1) := by decide +kernel
theorem own_tb2_d19 : decode jdk_52_method_14_code 19 = .ok (.caload, 1) := by decide +kernel
theorem own_tb2_d20 : decode jdk_52_method_14_code 20 = .ok (.invokestatic 111, 3) := by decide +kernel
theorem own_tb2_d23 : decode jdk_52_method_14_code 23 = .ok (.iinc 1 1, 3) := by decide +kernel
theorem own_tb2_d26 : decode jdk_52_method_14_code 26 = .ok (.iinc 4 1, 3) := by decide +kernel
theorem own_tb2_d29 : decode jdk_52_method_14_code 29 = .ok (.goto (-21), 3) := by decide +kernel
theorem own_tb2_d32 : decode jdk_52_method_14_code 32 = .ok (.aload_n 3, 1) := by decide +kernel
theorem own_tb2_d33 : decode jdk_52_method_14_code 33 = .ok (.areturn, 1) := by decide +kernel
theorem own_tb2_pn : plainName "java/lang/StringUTF16" = true := by first | (simp [plainName, overriddenIn]; done) | decide +kernel
theorem own_tb2_ef (m : MethodId) (pv : Addr) : entryFrame m #[(.ref pv), (.int (0 : Int32)), (.int (2 : Int32))] 5 = mkF m 0 #[rv pv, iv (0 : Int32), iv (2 : Int32), .unset, .unset] [] := by first | (simp [entryFrame, mkF, argsToLocals, Value.category]; done) | rfl
def own_tb2_Q (Z : State) (pv : Addr) (ch0 ch1 : Int32) (h0 : Heap) (n0 : Nat) (v : Option Value) (h : Heap) (L : List Loc) : Prop := ∃ b, v = some (.ref b) ∧ Fr n0 L ∧ Keep h0 h [] ∧ h0.size ≤ b ∧ own_Ar Z h b .byte [(.int ((ch0 >>> ((0 : Int32) &&& 31)).toInt8.toInt32)), (.int ((ch0 >>> ((8 : Int32) &&& 31)).toInt8.toInt32)), (.int ((ch1 >>> ((0 : Int32) &&& 31)).toInt8.toInt32)), (.int ((ch1 >>> ((8 : Int32) &&& 31)).toInt8.toInt32))]
set_option maxRecDepth 65536 in
set_option maxHeartbeats 40000000 in
theorem own_tb2 (l : Launch) (Z : State) (a0 : Array Value) (hw : ∀ d ∈ tables_1, d.before a0 Z = true) (ws : List Jvm.Cond) (pv : Addr) (ch0 ch1 : Int32) (h0 : Heap) (n0 : Nat) (Z0 : n0 ≤ h0.size) (V0 : own_Ar Z h0 pv .char [(.int ch0), (.int ch1)]) (hSa : Sta Z h0 "java/lang/StringUTF16" "$assertionsDisabled" "Z" (.int (1 : Int32))) (hSh : Sta Z h0 "java/lang/StringUTF16" "HI_BYTE_SHIFT" "I" (.int (0 : Int32))) (hSl : Sta Z h0 "java/lang/StringUTF16" "LO_BYTE_SHIFT" "I" (.int (8 : Int32))) :
    MetFree l own_y5 (head1 (Jvm.Cond.code own_y5 jdk_52_method_14_code 5 (some (.array .byte)) :: ws) ({ frames := 2, cells := 1, slots := 4, locals := 24 } : Room)) (fun a U => a = #[(.ref pv), (.int (0 : Int32)), (.int (2 : Int32))] ∧ Z.Warmed39 U.vm ∧ U.heap = h0) (fun _ _ _ _ _ => True) (fun _ U o U' => ∃ v L, o = .returned v ∧ (own_tb2_Q Z pv ch0 ch1 h0 n0) v U'.heap L ∧ FrameEnd U o U' L ({ frames := 2, cells := 1, slots := 4, locals := 24 } : Room).cells ({ frames := 2, cells := 1, slots := 4, locals := 24 } : Room).slots) := by
  refine MetFree.of_bodySF (plainFor_of_name own_tb2_pn) hisR ?_
  intro p e s m args below meth c s₁ Bd hml0 hP hK
  obtain ⟨rfl, hZ, hh⟩ := hP
  have hx := Bd.exec
  have hby := Bd.bytes
  have hml : c.maxLocals = 5 := hml0
  have hown : s.vm.findClass "java/lang/StringUTF16" = some m.cls := findClass_of_methodNamed Bd.named
  have hnm := (name_of_methodNamed Bd.named Bd.method).1
  have hlk : meth.locks = false := Bd.notSynchronized
  have X0 : Stand p l e ({ frames := 2, cells := 1, slots := 4, locals := 24 } : Room) s m #[(.ref pv), (.int (0 : Int32)), (.int (2 : Int32))] below meth c s₁ [] 0 0 := Stand.of_body Bd
  have e0 : s₁.heap = h0 := by rw [← hh, Bd.state]; rfl
  have N0 := Fr.nil n0
  have w_40 := hw _ (List.mem_of_getElem? (l := tables_1) (i := 40) rfl)
  have w_70 := hw _ (List.mem_of_getElem? (l := tables_1) (i := 70) rfl)
  have w_71 := hw _ (List.mem_of_getElem? (l := tables_1) (i := 71) rfl)
  have w_72 := hw _ (List.mem_of_getElem? (l := tables_1) (i := 72) rfl)
  have w_79 := hw _ (List.mem_of_getElem? (l := tables_1) (i := 79) rfl)
  have w_80 := hw _ (List.mem_of_getElem? (l := tables_1) (i := 80) rfl)
  have w_81 := hw _ (List.mem_of_getElem? (l := tables_1) (i := 81) rfl)
  show own_G p.tables e below (fun o U' => ∃ v L, o = .returned v ∧ (own_tb2_Q Z pv ch0 ch1 h0 n0) v U'.heap L ∧ FrameEnd s o U' L ({ frames := 2, cells := 1, slots := 4, locals := 24 } : Room).cells ({ frames := 2, cells := 1, slots := 4, locals := 24 } : Room).slots) (s₁.setTop (entryFrame m #[(.ref pv), (.int (0 : Int32)), (.int (2 : Int32))] 5))
  refine own_go (B := s₁.setTop (mkF m 0 #[rv pv, iv (0 : Int32), iv (2 : Int32), .unset, .unset] [])) (fun t k => castTop (own_tb2_ef m pv) k) ?_
  have K0 := Keep.refl h0 []
  refine own_go (B := (s₁.setTop (mkF m 1 #[rv pv, iv (0 : Int32), iv (2 : Int32), .unset, .unset] [(.int (2 : Int32))]))) (fun t k => XS.iloadN X0.here hx rfl (hb hby own_tb2_d0) rfl k) ?_
  obtain ⟨_, _, ⟨T1, L1, k1, n1⟩, -, X1, ⟨Lc1, hQ1, l1, yy1, zz1⟩, st1⟩ := Jvm.LawKit.callS X0 hx (y := own_y2) hown (mvT hZ w_79) (mvT hZ w_80) (mvT hZ w_40) (mvT hZ w_81) (by decide) (backOf (W := 0) (own_nf2 l Z a0 hw [] h0 n0 Z0) hZ w_81 w_40 (by decide) (by decide)) (g := (mkF m 1 #[rv pv, iv (0 : Int32), iv (2 : Int32), .unset, .unset] [(.int (2 : Int32))])) rfl (by rw [hml]; rfl) (argsL := [(.int (2 : Int32))]) (rest := []) (lenOf own_pd2 rfl) rfl (by show 2 * 0 + _ ≤ _; exact own_b rfl) (hb hby own_tb2_d1) (fun _ _ => ⟨rfl, e0, (own_b rfl : 0 + 1 ≤ _), (own_b rfl : 0 + 4 ≤ _)⟩)
  dsimp only [Pt.U, Pt.locs, Pt.cells, Pt.slots] at X1 l1 yy1 zz1 st1 hQ1
  obtain ⟨b1, rfl, Nq1, K1, gz1, gv1⟩ := hQ1
  obtain ⟨L1, X1, N1⟩ := own_absC (K := 1) (K' := 4) X1 l1 yy1 zz1 N0 Nq1
  have gn_b1 : n0 ≤ b1 := Nat.le_trans Z0 gz1
  have nb1_pv : b1 ≠ pv := fun q => absurd (own_Ar_lt V0) (by rw [← q]; exact Nat.not_lt.mpr gz1)
  have F2 : n0 ≤ T1.heap.size := Nat.le_trans Z0 K1.1
  have F3 := Keep.trans K0 K1 all0
  have F4 := own_Ar_keep V0 K1 nin0
  have F5 := own_sta_keep hSa K1 ns0
  have F6 := own_sta_keep hSh K1 ns0
  have F7 := own_sta_keep hSl K1 ns0
  refine own_go (B := (T1.setTop (mkF m 4 #[rv pv, iv (0 : Int32), iv (2 : Int32), .unset, .unset] [(.ref b1)]))) st1 ?_
  refine own_go (B := (T1.setTop (mkF m 5 #[rv pv, iv (0 : Int32), iv (2 : Int32), rv b1, .unset] []))) (fun t k => XS.astoreN X1.here hx rfl (hb hby own_tb2_d4) rfl rfl (l' := #[rv pv, iv (0 : Int32), iv (2 : Int32), rv b1, .unset]) rfl k) ?_
  refine own_go (B := (T1.setTop (mkF m 6 #[rv pv, iv (0 : Int32), iv (2 : Int32), rv b1, .unset] [(.int (0 : Int32))]))) (fun t k => own_iconst (v := (0 : Int32)) X1.here hx rfl (hb hby own_tb2_d5) (by decide) k) ?_
  refine own_go (B := (T1.setTop (mkF m 8 #[rv pv, iv (0 : Int32), iv (2 : Int32), rv b1, iv (0 : Int32)] []))) (fun t k => XS.istore X1.here hx rfl (hb hby own_tb2_d6) rfl (l' := #[rv pv, iv (0 : Int32), iv (2 : Int32), rv b1, iv (0 : Int32)]) rfl k) ?_
  refine own_go (B := (T1.setTop (mkF m 10 #[rv pv, iv (0 : Int32), iv (2 : Int32), rv b1, iv (0 : Int32)] [(.int (0 : Int32))]))) (fun t k => XS.iload X1.here hx rfl (hb hby own_tb2_d8) rfl k) ?_
  refine own_go (B := (T1.setTop (mkF m 11 #[rv pv, iv (0 : Int32), iv (2 : Int32), rv b1, iv (0 : Int32)] [(.int (2 : Int32)), (.int (0 : Int32))]))) (fun t k => XS.iloadN X1.here hx rfl (hb hby own_tb2_d10) rfl k) ?_
  have hc11 : (0 : Int32) < (2 : Int32) := (by decide)
  refine own_icmpN X1 hx (hb hby own_tb2_d11) (pn := 14) rfl hc11 ?_
  refine own_go (B := (T1.setTop (mkF m 15 #[rv pv, iv (0 : Int32), iv (2 : Int32), rv b1, iv (0 : Int32)] [(.ref b1)]))) (fun t k => XS.aloadN X1.here hx rfl (hb hby own_tb2_d14) rfl rfl k) ?_
  refine own_go (B := (T1.setTop (mkF m 17 #[rv pv, iv (0 : Int32), iv (2 : Int32), rv b1, iv (0 : Int32)] [(.int (0 : Int32)), (.ref b1)]))) (fun t k => XS.iload X1.here hx rfl (hb hby own_tb2_d15) rfl k) ?_
  refine own_go (B := (T1.setTop (mkF m 18 #[rv pv, iv (0 : Int32), iv (2 : Int32), rv b1, iv (0 : Int32)] [(.ref pv), (.int (0 : Int32)), (.ref b1)]))) (fun t k => XS.aloadN X1.here hx rfl (hb hby own_tb2_d17) rfl rfl k) ?_
  refine own_go (B := (T1.setTop (mkF m 19 #[rv pv, iv (0 : Int32), iv (2 : Int32), rv b1, iv (0 : Int32)] [(.int (0 : Int32)), (.ref pv), (.int (0 : Int32)), (.ref b1)]))) (fun t k => XS.iloadN X1.here hx rfl (hb hby own_tb2_d18) rfl k) ?_
  refine own_go (B := (T1.setTop (mkF m 20 #[rv pv, iv (0 : Int32), iv (2 : Int32), rv b1, iv (0 : Int32)] [(.int ch0), (.int (0 : Int32)), (.ref b1)]))) (own_ldC X1 hx hZ rfl F4 (v := (.int ch0)) (by decide) rfl (g := (mkF m 19 #[rv pv, iv (0 : Int32), iv (2 : Int32), rv b1, iv (0 : Int32)] [(.int (0 : Int32)), (.ref pv), (.int (0 : Int32)), (.ref b1)])) rfl rfl (hb hby own_tb2_d19)) ?_
  obtain ⟨_, _, ⟨T8, L8, k8, n8⟩, -, X8, ⟨Lc8, hQ8, l8, yy8, zz8⟩, st8⟩ := Jvm.LawKit.callS X1 hx (y := own_y3) hown (mvT hZ w_70) (mvT hZ w_71) (mvT hZ w_40) (mvT hZ w_72) (by decide) (backOf (W := 0) (own_pc2_0 l Z a0 hw [] b1 ch0 (0 : Int32) (0 : Int32) (0 : Int32) (0 : Int32) T1.heap n0 F2 gn_b1 gv1 F5 F6 F7) hZ w_72 w_40 (by decide) (by decide)) (g := (mkF m 20 #[rv pv, iv (0 : Int32), iv (2 : Int32), rv b1, iv (0 : Int32)] [(.int ch0), (.int (0 : Int32)), (.ref b1)])) rfl (by rw [hml]; rfl) (argsL := [(.ref b1), (.int (0 : Int32)), (.int ch0)]) (rest := []) (lenOf own_pd3 rfl) rfl (by show 2 * 0 + _ ≤ _; exact own_b rfl) (hb hby own_tb2_d20) (fun _ _ => ⟨rfl, rfl, (own_b rfl : 1 + 0 ≤ _), (own_b rfl : 4 + 0 ≤ _)⟩)
  dsimp only [Pt.U, Pt.locs, Pt.cells, Pt.slots] at X8 l8 yy8 zz8 st8 hQ8
  obtain ⟨rfl, Nq8, K8, gv8⟩ := hQ8
  obtain ⟨L8, X8, N8⟩ := own_absC (K := 1) (K' := 4) X8 l8 yy8 zz8 N1 Nq8
  have F9 : n0 ≤ T8.heap.size := Nat.le_trans F2 K8.1
  have F10 := Keep.trans F3 K8 (allS (Or.inr (Nat.le_trans K0.1 gz1)) all0)
  have F11 := own_Ar_keep F4 K8 (ninS (Ne.symm nb1_pv) nin0)
  have F12 := own_sta_keep F5 K8 (nsS (own_Ar_ns gv1) ns0)
  have F13 := own_sta_keep F6 K8 (nsS (own_Ar_ns gv1) ns0)
  have F14 := own_sta_keep F7 K8 (nsS (own_Ar_ns gv1) ns0)
  refine own_go (B := (T8.setTop (mkF m 23 #[rv pv, iv (0 : Int32), iv (2 : Int32), rv b1, iv (0 : Int32)] []))) st8 ?_
  refine own_go (B := (T8.setTop (mkF m 26 #[rv pv, iv (1 : Int32), iv (2 : Int32), rv b1, iv (0 : Int32)] []))) (fun t k => XS.iinc X8.here hx rfl (hb hby own_tb2_d23) rfl (l' := #[rv pv, iv (1 : Int32), iv (2 : Int32), rv b1, iv (0 : Int32)]) rfl k) ?_
  refine own_go (B := (T8.setTop (mkF m 29 #[rv pv, iv (1 : Int32), iv (2 : Int32), rv b1, iv (1 : Int32)] []))) (fun t k => XS.iinc X8.here hx rfl (hb hby own_tb2_d26) rfl (l' := #[rv pv, iv (1 : Int32), iv (2 : Int32), rv b1, iv (1 : Int32)]) rfl k) ?_
  refine own_go (B := (T8.setTop (mkF m 8 #[rv pv, iv (1 : Int32), iv (2 : Int32), rv b1, iv (1 : Int32)] []))) (fun t k => XS.goto X8.here hx rfl (pc0 := 29) (pc' := 8) rfl (hb hby own_tb2_d29) (by decide) (by decide) k) ?_
  refine own_go (B := (T8.setTop (mkF m 10 #[rv pv, iv (1 : Int32), iv (2 : Int32), rv b1, iv (1 : Int32)] [(.int (1 : Int32))]))) (fun t k => XS.iload X8.here hx rfl (hb hby own_tb2_d8) rfl k) ?_
  refine own_go (B := (T8.setTop (mkF m 11 #[rv pv, iv (1 : Int32), iv (2 : Int32), rv b1, iv (1 : Int32)] [(.int (2 : Int32)), (.int (1 : Int32))]))) (fun t k => XS.iloadN X8.here hx rfl (hb hby own_tb2_d10) rfl k) ?_
  have hc11 : (1 : Int32) < (2 : Int32) := (by decide)
  refine own_icmpN X8 hx (hb hby own_tb2_d11) (pn := 14) rfl hc11 ?_
  refine own_go (B := (T8.setTop (mkF m 15 #[rv pv, iv (1 : Int32), iv (2 : Int32), rv b1, iv (1 : Int32)] [(.ref b1)]))) (fun t k => XS.aloadN X8.here hx rfl (hb hby own_tb2_d14) rfl rfl k) ?_
  refine own_go (B := (T8.setTop (mkF m 17 #[rv pv, iv (1 : Int32), iv (2 : Int32), rv b1, iv (1 : Int32)] [(.int (1 : Int32)), (.ref b1)]))) (fun t k => XS.iload X8.here hx rfl (hb hby own_tb2_d15) rfl k) ?_
  refine own_go (B := (T8.setTop (mkF m 18 #[rv pv, iv (1 : Int32), iv (2 : Int32), rv b1, iv (1 : Int32)] [(.ref pv), (.int (1 : Int32)), (.ref b1)]))) (fun t k => XS.aloadN X8.here hx rfl (hb hby own_tb2_d17) rfl rfl k) ?_
  refine own_go (B := (T8.setTop (mkF m 19 #[rv pv, iv (1 : Int32), iv (2 : Int32), rv b1, iv (1 : Int32)] [(.int (1 : Int32)), (.ref pv), (.int (1 : Int32)), (.ref b1)]))) (fun t k => XS.iloadN X8.here hx rfl (hb hby own_tb2_d18) rfl k) ?_
  refine own_go (B := (T8.setTop (mkF m 20 #[rv pv, iv (1 : Int32), iv (2 : Int32), rv b1, iv (1 : Int32)] [(.int ch1), (.int (1 : Int32)), (.ref b1)]))) (own_ldC X8 hx hZ rfl F11 (v := (.int ch1)) (by decide) rfl (g := (mkF m 19 #[rv pv, iv (1 : Int32), iv (2 : Int32), rv b1, iv (1 : Int32)] [(.int (1 : Int32)), (.ref pv), (.int (1 : Int32)), (.ref b1)])) rfl rfl (hb hby own_tb2_d19)) ?_
  obtain ⟨_, _, ⟨T16, L16, k16, n16⟩, -, X16, ⟨Lc16, hQ16, l16, yy16, zz16⟩, st16⟩ := Jvm.LawKit.callS X8 hx (y := own_y3) hown (mvT hZ w_70) (mvT hZ w_71) (mvT hZ w_40) (mvT hZ w_72) (by decide) (backOf (W := 0) (own_pc2_1 l Z a0 hw [] b1 ch1 ((ch0 >>> ((0 : Int32) &&& 31)).toInt8.toInt32) ((ch0 >>> ((8 : Int32) &&& 31)).toInt8.toInt32) (0 : Int32) (0 : Int32) T8.heap n0 F9 gn_b1 gv8 F12 F13 F14) hZ w_72 w_40 (by decide) (by decide)) (g := (mkF m 20 #[rv pv, iv (1 : Int32), iv (2 : Int32), rv b1, iv (1 : Int32)] [(.int ch1), (.int (1 : Int32)), (.ref b1)])) rfl (by rw [hml]; rfl) (argsL := [(.ref b1), (.int (1 : Int32)), (.int ch1)]) (rest := []) (lenOf own_pd3 rfl) rfl (by show 2 * 0 + _ ≤ _; exact own_b rfl) (hb hby own_tb2_d20) (fun _ _ => ⟨rfl, rfl, (own_b rfl : 1 + 0 ≤ _), (own_b rfl : 4 + 0 ≤ _)⟩)
  dsimp only [Pt.U, Pt.locs, Pt.cells, Pt.slots] at X16 l16 yy16 zz16 st16 hQ16
  obtain ⟨rfl, Nq16, K16, gv16⟩ := hQ16
  obtain ⟨L16, X16, N16⟩ := own_absC (K := 1) (K' := 4) X16 l16 yy16 zz16 N8 Nq16
  have F17 : n0 ≤ T16.heap.size := Nat.le_trans F9 K16.1
  have F18 := Keep.trans F10 K16 (allS (Or.inr (Nat.le_trans K0.1 gz1)) all0)
  have F19 := own_Ar_keep F11 K16 (ninS (Ne.symm nb1_pv) nin0)
  have F20 := own_sta_keep F12 K16 (nsS (own_Ar_ns gv8) ns0)
  have F21 := own_sta_keep F13 K16 (nsS (own_Ar_ns gv8) ns0)
  have F22 := own_sta_keep F14 K16 (nsS (own_Ar_ns gv8) ns0)
  refine own_go (B := (T16.setTop (mkF m 23 #[rv pv, iv (1 : Int32), iv (2 : Int32), rv b1, iv (1 : Int32)] []))) st16 ?_
  refine own_go (B := (T16.setTop (mkF m 26 #[rv pv, iv (2 : Int32), iv (2 : Int32), rv b1, iv (1 : Int32)] []))) (fun t k => XS.iinc X16.here hx rfl (hb hby own_tb2_d23) rfl (l' := #[rv pv, iv (2 : Int32), iv (2 : Int32), rv b1, iv (1 : Int32)]) rfl k) ?_
  refine own_go (B := (T16.setTop (mkF m 29 #[rv pv, iv (2 : Int32), iv (2 : Int32), rv b1, iv (2 : Int32)] []))) (fun t k => XS.iinc X16.here hx rfl (hb hby own_tb2_d26) rfl (l' := #[rv pv, iv (2 : Int32), iv (2 : Int32), rv b1, iv (2 : Int32)]) rfl k) ?_
  refine own_go (B := (T16.setTop (mkF m 8 #[rv pv, iv (2 : Int32), iv (2 : Int32), rv b1, iv (2 : Int32)] []))) (fun t k => XS.goto X16.here hx rfl (pc0 := 29) (pc' := 8) rfl (hb hby own_tb2_d29) (by decide) (by decide) k) ?_
  refine own_go (B := (T16.setTop (mkF m 10 #[rv pv, iv (2 : Int32), iv (2 : Int32), rv b1, iv (2 : Int32)] [(.int (2 : Int32))]))) (fun t k => XS.iload X16.here hx rfl (hb hby own_tb2_d8) rfl k) ?_
  refine own_go (B := (T16.setTop (mkF m 11 #[rv pv, iv (2 : Int32), iv (2 : Int32), rv b1, iv (2 : Int32)] [(.int (2 : Int32)), (.int (2 : Int32))]))) (fun t k => XS.iloadN X16.here hx rfl (hb hby own_tb2_d10) rfl k) ?_
  have hc11 : ¬ (2 : Int32) < (2 : Int32) := (by decide)
  refine own_icmpY X16 hx (hb hby own_tb2_d11) (pc' := 32) (by decide) (by decide) hc11 ?_
  refine own_go (B := (T16.setTop (mkF m 33 #[rv pv, iv (2 : Int32), iv (2 : Int32), rv b1, iv (2 : Int32)] [(.ref b1)]))) (fun t k => XS.aloadN X16.here hx rfl (hb hby own_tb2_d32) rfl rfl k) ?_
  exact own_retA X16 hx hlk Bd.returns rfl rfl (hb hby own_tb2_d33) (own_b rfl) (own_b rfl) (Q := (own_tb2_Q Z pv ch0 ch1 h0 n0)) ⟨_, rfl, N16, F18, Nat.le_trans K0.1 gz1, gv16⟩

theorem own_nl3_d0 : decode jdk_52_method_3_code 0 = .ok (.iload_n 0, 1) := by decide +kernel
theorem own_nl3_d1 : decode jdk_52_method_3_code 1 = .ok (.ifCond .ge 11, 3) := by decide +kernel
theorem own_nl3_d12 : decode jdk_52_method_3_code 12 = .ok (.iload_n 0, 1) := by decide +kernel
theorem own_nl3_d13 : decode jdk_52_method_3_code 13 = .ok (.ldc 20, 2) := by decide +kernel
theorem own_nl3_d15 : decode jdk_52_method_3_code 15 = .ok (.if_icmp .lt 40, 3) := by decide +kernel
theorem own_nl3_d55 : decode jdk_52_method_3_code 55 = .ok (.iload_n 0, 1) := by decide +kernel
theorem own_nl3_d56 : decode jdk_52_method_3_code 56 = .ok (.iconst 1, 1) := by decide +kernel
theorem own_nl3_d57 : decode jdk_52_method_3_code 57 = .ok (.ishl, 1) := by decide +kernel
theorem own_nl3_d58 : decode jdk_52_method_3_code 58 = .ok (.ireturn, 1) := by decide +kernel
theorem own_nl3_pn : plainName "java/lang/StringUTF16" = true := by first | (simp [plainName, overriddenIn]; done) | decide +kernel
theorem own_nl3_ef (m : MethodId) : entryFrame m #[(.int (3 : Int32))] 1 = mkF m 0 #[iv (3 : Int32)] [] := by first | (simp [entryFrame, mkF, argsToLocals, Value.category]; done) | rfl
def own_nl3_Q (Z : State) (h0 : Heap) (n0 : Nat) (v : Option Value) (h : Heap) (L : List Loc) : Prop := v = some (.int (6 : Int32)) ∧ Fr n0 L ∧ h = h0
set_option maxRecDepth 65536 in
set_option maxHeartbeats 40000000 in
theorem own_nl3 (l : Launch) (Z : State) (a0 : Array Value) (hw : ∀ d ∈ tables_1, d.before a0 Z = true) (ws : List Jvm.Cond) (h0 : Heap) (n0 : Nat) :
    MetFree l own_y1 (head1 (Jvm.Cond.code own_y1 jdk_52_method_3_code 1 (some .int) :: ws) ({ frames := 0, cells := 0, slots := 0, locals := 0 } : Room)) (fun a U => a = #[(.int (3 : Int32))] ∧ Z.Warmed39 U.vm ∧ U.heap = h0) (fun _ _ _ _ _ => True) (fun _ U o U' => ∃ v L, o = .returned v ∧ (own_nl3_Q Z h0 n0) v U'.heap L ∧ FrameEnd U o U' L ({ frames := 0, cells := 0, slots := 0, locals := 0 } : Room).cells ({ frames := 0, cells := 0, slots := 0, locals := 0 } : Room).slots) := by
  refine MetFree.of_bodySF (plainFor_of_name own_nl3_pn) hisR ?_
  intro p e s m args below meth c s₁ Bd hml0 hP hK
  obtain ⟨rfl, hZ, hh⟩ := hP
  have hx := Bd.exec
  have hby := Bd.bytes
  have hml : c.maxLocals = 1 := hml0
  have hown : s.vm.findClass "java/lang/StringUTF16" = some m.cls := findClass_of_methodNamed Bd.named
  have hnm := (name_of_methodNamed Bd.named Bd.method).1
  have hlk : meth.locks = false := Bd.notSynchronized
  have X0 : Stand p l e ({ frames := 0, cells := 0, slots := 0, locals := 0 } : Room) s m #[(.int (3 : Int32))] below meth c s₁ [] 0 0 := Stand.of_body Bd
  have e0 : s₁.heap = h0 := by rw [← hh, Bd.state]; rfl
  have N0 := Fr.nil n0
  have w_85 := hw _ (List.mem_of_getElem? (l := tables_1) (i := 85) rfl)
  show own_G p.tables e below (fun o U' => ∃ v L, o = .returned v ∧ (own_nl3_Q Z h0 n0) v U'.heap L ∧ FrameEnd s o U' L ({ frames := 0, cells := 0, slots := 0, locals := 0 } : Room).cells ({ frames := 0, cells := 0, slots := 0, locals := 0 } : Room).slots) (s₁.setTop (entryFrame m #[(.int (3 : Int32))] 1))
  refine own_go (B := s₁.setTop (mkF m 0 #[iv (3 : Int32)] [])) (fun t k => castTop (own_nl3_ef m) k) ?_
  refine own_go (B := (s₁.setTop (mkF m 1 #[iv (3 : Int32)] [(.int (3 : Int32))]))) (fun t k => XS.iloadN X0.here hx rfl (hb hby own_nl3_d0) rfl k) ?_
  have hc1 : ¬ (3 : Int32) < (0 : Int32) := (by decide)
  refine own_ifY X0 hx (hb hby own_nl3_d1) (pc' := 12) (by decide) (by decide) hc1 ?_
  refine own_go (B := (s₁.setTop (mkF m 13 #[iv (3 : Int32)] [(.int (3 : Int32))]))) (fun t k => XS.iloadN X0.here hx rfl (hb hby own_nl3_d12) rfl k) ?_
  have lc1 := X0.ldcInt hx hown (v := (1073741823 : Int32)) (mvT hZ w_85) (g := (mkF m 13 #[iv (3 : Int32)] [(.int (3 : Int32))])) rfl (hb hby own_nl3_d13)
  refine own_go (B := (s₁.setTop (mkF m 15 #[iv (3 : Int32)] [(.int (1073741823 : Int32)), (.int (3 : Int32))]))) lc1 ?_
  have hc15 : (3 : Int32) < (1073741823 : Int32) := (by decide)
  refine own_icmpY X0 hx (hb hby own_nl3_d15) (pc' := 55) (by decide) (by decide) hc15 ?_
  refine own_go (B := (s₁.setTop (mkF m 56 #[iv (3 : Int32)] [(.int (3 : Int32))]))) (fun t k => XS.iloadN X0.here hx rfl (hb hby own_nl3_d55) rfl k) ?_
  refine own_go (B := (s₁.setTop (mkF m 57 #[iv (3 : Int32)] [(.int (1 : Int32)), (.int (3 : Int32))]))) (fun t k => own_iconst (v := (1 : Int32)) X0.here hx rfl (hb hby own_nl3_d56) (by decide) k) ?_
  refine own_go (B := (s₁.setTop (mkF m 58 #[iv (3 : Int32)] [(.int ((3 : Int32) <<< ((1 : Int32) &&& 31)))]))) (fun t k => XS.ishl (x := (3 : Int32)) (y := (1 : Int32)) X0.here hx rfl (hb hby own_nl3_d57) rfl k) ?_
  rw [show ((3 : Int32) <<< ((1 : Int32) &&& 31)) = (6 : Int32) from by decide]
  exact own_retI X0 hx hlk Bd.returns (hb hby own_nl3_d58) (own_b rfl) (own_b rfl) (Q := (own_nl3_Q Z h0 n0)) ⟨rfl, N0, e0⟩

theorem own_nf3_d0 : decode jdk_52_method_2_code 0 = .ok (.iload_n 0, 1) := by decide +kernel
theorem own_nf3_d1 : decode jdk_52_method_2_code 1 = .ok (.invokestatic 11, 3) := by decide +kernel
theorem own_nf3_d4 : decode jdk_52_method_2_code 4 = .ok (.newarray .byte, 2) := by decide +kernel
theorem own_nf3_d6 : decode jdk_52_method_2_code 6 = .ok (.areturn, 1) := by decide +kernel
theorem own_nf3_pn : plainName "java/lang/StringUTF16" = true := by first | (simp [plainName, overriddenIn]; done) | decide +kernel
theorem own_nf3_ef (m : MethodId) : entryFrame m #[(.int (3 : Int32))] 1 = mkF m 0 #[iv (3 : Int32)] [] := by first | (simp [entryFrame, mkF, argsToLocals, Value.category]; done) | rfl
def own_nf3_Q (Z : State) (h0 : Heap) (n0 : Nat) (v : Option Value) (h : Heap) (L : List Loc) : Prop := ∃ b, v = some (.ref b) ∧ Fr n0 L ∧ Keep h0 h [] ∧ h0.size ≤ b ∧ own_Ar Z h b .byte [(.int (0 : Int32)), (.int (0 : Int32)), (.int (0 : Int32)), (.int (0 : Int32)), (.int (0 : Int32)), (.int (0 : Int32))]
set_option maxRecDepth 65536 in
set_option maxHeartbeats 40000000 in
theorem own_nf3 (l : Launch) (Z : State) (a0 : Array Value) (hw : ∀ d ∈ tables_1, d.before a0 Z = true) (ws : List Jvm.Cond) (h0 : Heap) (n0 : Nat) (Z0 : n0 ≤ h0.size) :
    MetFree l own_y2 (head1 (Jvm.Cond.code own_y2 jdk_52_method_2_code 1 (some (.array .byte)) :: ws) ({ frames := 1, cells := 1, slots := 6, locals := 12 } : Room)) (fun a U => a = #[(.int (3 : Int32))] ∧ Z.Warmed39 U.vm ∧ U.heap = h0) (fun _ _ _ _ _ => True) (fun _ U o U' => ∃ v L, o = .returned v ∧ (own_nf3_Q Z h0 n0) v U'.heap L ∧ FrameEnd U o U' L ({ frames := 1, cells := 1, slots := 6, locals := 12 } : Room).cells ({ frames := 1, cells := 1, slots := 6, locals := 12 } : Room).slots) := by
  refine MetFree.of_bodySF (plainFor_of_name own_nf3_pn) hisR ?_
  intro p e s m args below meth c s₁ Bd hml0 hP hK
  obtain ⟨rfl, hZ, hh⟩ := hP
  have hx := Bd.exec
  have hby := Bd.bytes
  have hml : c.maxLocals = 1 := hml0
  have hown : s.vm.findClass "java/lang/StringUTF16" = some m.cls := findClass_of_methodNamed Bd.named
  have hnm := (name_of_methodNamed Bd.named Bd.method).1
  have hlk : meth.locks = false := Bd.notSynchronized
  have X0 : Stand p l e ({ frames := 1, cells := 1, slots := 6, locals := 12 } : Room) s m #[(.int (3 : Int32))] below meth c s₁ [] 0 0 := Stand.of_body Bd
  have e0 : s₁.heap = h0 := by rw [← hh, Bd.state]; rfl
  have N0 := Fr.nil n0
  have w_16 := hw _ (List.mem_of_getElem? (l := tables_1) (i := 16) rfl)
  have w_40 := hw _ (List.mem_of_getElem? (l := tables_1) (i := 40) rfl)
  have w_82 := hw _ (List.mem_of_getElem? (l := tables_1) (i := 82) rfl)
  have w_83 := hw _ (List.mem_of_getElem? (l := tables_1) (i := 83) rfl)
  have w_84 := hw _ (List.mem_of_getElem? (l := tables_1) (i := 84) rfl)
  show own_G p.tables e below (fun o U' => ∃ v L, o = .returned v ∧ (own_nf3_Q Z h0 n0) v U'.heap L ∧ FrameEnd s o U' L ({ frames := 1, cells := 1, slots := 6, locals := 12 } : Room).cells ({ frames := 1, cells := 1, slots := 6, locals := 12 } : Room).slots) (s₁.setTop (entryFrame m #[(.int (3 : Int32))] 1))
  refine own_go (B := s₁.setTop (mkF m 0 #[iv (3 : Int32)] [])) (fun t k => castTop (own_nf3_ef m) k) ?_
  have K0 := Keep.refl h0 []
  refine own_go (B := (s₁.setTop (mkF m 1 #[iv (3 : Int32)] [(.int (3 : Int32))]))) (fun t k => XS.iloadN X0.here hx rfl (hb hby own_nf3_d0) rfl k) ?_
  obtain ⟨_, _, ⟨T1, L1, k1, n1⟩, -, X1, ⟨Lc1, hQ1, l1, yy1, zz1⟩, st1⟩ := Jvm.LawKit.callS X0 hx (y := own_y1) hown (mvT hZ w_82) (mvT hZ w_83) (mvT hZ w_40) (mvT hZ w_84) (by decide) (backOf (W := 0) (own_nl3 l Z a0 hw [] h0 n0) hZ w_84 w_40 (by decide) (by decide)) (g := (mkF m 1 #[iv (3 : Int32)] [(.int (3 : Int32))])) rfl (by rw [hml]; rfl) (argsL := [(.int (3 : Int32))]) (rest := []) (lenOf own_pd1 rfl) rfl (by show 2 * 0 + _ ≤ _; exact own_b rfl) (hb hby own_nf3_d1) (fun _ _ => ⟨rfl, e0, (own_b rfl : 0 + 0 ≤ _), (own_b rfl : 0 + 0 ≤ _)⟩)
  dsimp only [Pt.U, Pt.locs, Pt.cells, Pt.slots] at X1 l1 yy1 zz1 st1 hQ1
  obtain ⟨rfl, Nq1, eq1⟩ := hQ1
  obtain ⟨L1, X1, N1⟩ := own_absC (K := 0) (K' := 0) X1 l1 yy1 zz1 N0 Nq1
  have e1 : T1.heap = h0 := eq1
  refine own_go (B := (T1.setTop (mkF m 4 #[iv (3 : Int32)] [(.int (6 : Int32))]))) st1 ?_
  obtain ⟨T2, h2, c2, X2, e2, E2, A2, st2⟩ := newP X1 hx hZ (aty := .byte) w_16 e1 (g := (mkF m 4 #[iv (3 : Int32)] [(.int (6 : Int32))])) rfl (hb hby own_nf3_d4) rfl (by decide) (cap := 6) (by decide) (by decide) (own_b rfl) (own_b rfl)
  obtain ⟨a2, ga2⟩ : ∃ z, z = h0.size := ⟨_, rfl⟩
  rw [← ga2] at A2 st2
  refine own_go (B := (T2.setTop (mkF m 6 #[iv (3 : Int32)] [(.ref a2)]))) st2 ?_
  have Z3 : n0 ≤ h2.size := Nat.le_trans Z0 E2.1
  have K4 := Keep.ext K0 E2
  have gn2 : n0 ≤ a2 := Nat.le_trans Z0 (Nat.le_of_eq ga2.symm)
  have V2 : own_Ar Z h2 a2 .byte [(.int (0 : Int32)), (.int (0 : Int32)), (.int (0 : Int32)), (.int (0 : Int32)), (.int (0 : Int32)), (.int (0 : Int32))] := own_Ar_new A2 (N := 6) (by decide) rfl
  exact own_retA X2 hx hlk Bd.returns rfl rfl (hb hby own_nf3_d6) (own_b rfl) (own_b rfl) (Q := (own_nf3_Q Z h0 n0)) (by rw [e2]; exact ⟨_, rfl, N1, K4, Nat.le_trans K0.1 (Nat.le_of_eq ga2.symm), V2⟩)

theorem own_tb3_d0 : decode jdk_52_method_14_code 0 = .ok (.iload_n 2, 1) := by decide +kernel
theorem own_tb3_d1 : decode jdk_52_method_14_code 1 = .ok (.invokestatic 107, 3) := by decide +kernel
theorem own_tb3_d4 : decode jdk_52_method_14_code 4 = .ok (.astore_n 3, 1) := by decide +kernel
theorem own_tb3_d5 : decode jdk_52_method_14_code 5 = .ok (.iconst 0, 1) := by decide +kernel
theorem own_tb3_d6 : decode jdk_52_method_14_code 6 = .ok (.istore 4, 2) := by decide +kernel
theorem own_tb3_d8 : decode jdk_52_method_14_code 8 = .ok (.iload 4, 2) := by decide +kernel
theorem own_tb3_d10 : decode jdk_52_method_14_code 10 = .ok (.iload_n 2, 1) := by decide +kernel
theorem own_tb3_d11 : decode jdk_52_method_14_code 11 = .ok (.if_icmp .ge 21, 3) := by decide +kernel
theorem own_tb3_d14 : decode jdk_52_method_14_code 14 = .ok (.aload_n 3, 1) := by decide +kernel
theorem own_tb3_d15 : decode jdk_52_method_14_code 15 = .ok (.iload 4, 2) := by decide +kernel
theorem own_tb3_d17 : decode jdk_52_method_14_code 17 = .ok (.aload_n 0, 1) := by decide +kernel
theorem own_tb3_d18 : decode jdk_52_method_14_code 18 = .ok (.iload_n 1, 1) := by decide +kernel
theorem own_tb3_d19 : decode jdk_52_method_14_code 19 = .ok (.caload, 1) := by decide +kernel
theorem own_tb3_d20 : decode jdk_52_method_14_code 20 = .ok (.invokestatic 111, 3) := by decide +kernel
theorem own_tb3_d23 : decode jdk_52_method_14_code 23 = .ok (.iinc 1 1, 3) := by decide +kernel
theorem own_tb3_d26 : decode jdk_52_method_14_code 26 = .ok (.iinc 4 1, 3) := by decide +kernel
theorem own_tb3_d29 : decode jdk_52_method_14_code 29 = .ok (.goto (-21), 3) := by decide +kernel
theorem own_tb3_d32 : decode jdk_52_method_14_code 32 = .ok (.aload_n 3, 1) := by decide +kernel
theorem own_tb3_d33 : decode jdk_52_method_14_code 33 = .ok (.areturn, 1) := by decide +kernel
theorem own_tb3_pn : plainName "java/lang/StringUTF16" = true := by first | (simp [plainName, overriddenIn]; done) | decide +kernel
theorem own_tb3_ef (m : MethodId) (pv : Addr) : entryFrame m #[(.ref pv), (.int (0 : Int32)), (.int (3 : Int32))] 5 = mkF m 0 #[rv pv, iv (0 : Int32), iv (3 : Int32), .unset, .unset] [] := by first | (simp [entryFrame, mkF, argsToLocals, Value.category]; done) | rfl
def own_tb3_Q (Z : State) (pv : Addr) (ch0 ch1 ch2 : Int32) (h0 : Heap) (n0 : Nat) (v : Option Value) (h : Heap) (L : List Loc) : Prop := ∃ b, v = some (.ref b) ∧ Fr n0 L ∧ Keep h0 h [] ∧ h0.size ≤ b ∧ own_Ar Z h b .byte [(.int ((ch0 >>> ((0 : Int32) &&& 31)).toInt8.toInt32)), (.int ((ch0 >>> ((8 : Int32) &&& 31)).toInt8.toInt32)), (.int ((ch1 >>> ((0 : Int32) &&& 31)).toInt8.toInt32)), (.int ((ch1 >>> ((8 : Int32) &&& 31)).toInt8.toInt32)), (.int ((ch2 >>> ((0 : Int32) &&& 31)).toInt8.toInt32)), (.int ((ch2 >>> ((8 : Int32) &&& 31)).toInt8.toInt32))]
set_option maxRecDepth 65536 in
set_option maxHeartbeats 40000000 in
theorem own_tb3 (l : Launch) (Z : State) (a0 : Array Value) (hw : ∀ d ∈ tables_1, d.before a0 Z = true) (ws : List Jvm.Cond) (pv : Addr) (ch0 ch1 ch2 : Int32) (h0 : Heap) (n0 : Nat) (Z0 : n0 ≤ h0.size) (V0 : own_Ar Z h0 pv .char [(.int ch0), (.int ch1), (.int ch2)]) (hSa : Sta Z h0 "java/lang/StringUTF16" "$assertionsDisabled" "Z" (.int (1 : Int32))) (hSh : Sta Z h0 "java/lang/StringUTF16" "HI_BYTE_SHIFT" "I" (.int (0 : Int32))) (hSl : Sta Z h0 "java/lang/StringUTF16" "LO_BYTE_SHIFT" "I" (.int (8 : Int32))) :
    MetFree l own_y5 (head1 (Jvm.Cond.code own_y5 jdk_52_method_14_code 5 (some (.array .byte)) :: ws) ({ frames := 2, cells := 1, slots := 6, locals := 24 } : Room)) (fun a U => a = #[(.ref pv), (.int (0 : Int32)), (.int (3 : Int32))] ∧ Z.Warmed39 U.vm ∧ U.heap = h0) (fun _ _ _ _ _ => True) (fun _ U o U' => ∃ v L, o = .returned v ∧ (own_tb3_Q Z pv ch0 ch1 ch2 h0 n0) v U'.heap L ∧ FrameEnd U o U' L ({ frames := 2, cells := 1, slots := 6, locals := 24 } : Room).cells ({ frames := 2, cells := 1, slots := 6, locals := 24 } : Room).slots) := by
  refine MetFree.of_bodySF (plainFor_of_name own_tb3_pn) hisR ?_
  intro p e s m args below meth c s₁ Bd hml0 hP hK
  obtain ⟨rfl, hZ, hh⟩ := hP
  have hx := Bd.exec
  have hby := Bd.bytes
  have hml : c.maxLocals = 5 := hml0
  have hown : s.vm.findClass "java/lang/StringUTF16" = some m.cls := findClass_of_methodNamed Bd.named
  have hnm := (name_of_methodNamed Bd.named Bd.method).1
  have hlk : meth.locks = false := Bd.notSynchronized
  have X0 : Stand p l e ({ frames := 2, cells := 1, slots := 6, locals := 24 } : Room) s m #[(.ref pv), (.int (0 : Int32)), (.int (3 : Int32))] below meth c s₁ [] 0 0 := Stand.of_body Bd
  have e0 : s₁.heap = h0 := by rw [← hh, Bd.state]; rfl
  have N0 := Fr.nil n0
  have w_40 := hw _ (List.mem_of_getElem? (l := tables_1) (i := 40) rfl)
  have w_70 := hw _ (List.mem_of_getElem? (l := tables_1) (i := 70) rfl)
  have w_71 := hw _ (List.mem_of_getElem? (l := tables_1) (i := 71) rfl)
  have w_72 := hw _ (List.mem_of_getElem? (l := tables_1) (i := 72) rfl)
  have w_79 := hw _ (List.mem_of_getElem? (l := tables_1) (i := 79) rfl)
  have w_80 := hw _ (List.mem_of_getElem? (l := tables_1) (i := 80) rfl)
  have w_81 := hw _ (List.mem_of_getElem? (l := tables_1) (i := 81) rfl)
  show own_G p.tables e below (fun o U' => ∃ v L, o = .returned v ∧ (own_tb3_Q Z pv ch0 ch1 ch2 h0 n0) v U'.heap L ∧ FrameEnd s o U' L ({ frames := 2, cells := 1, slots := 6, locals := 24 } : Room).cells ({ frames := 2, cells := 1, slots := 6, locals := 24 } : Room).slots) (s₁.setTop (entryFrame m #[(.ref pv), (.int (0 : Int32)), (.int (3 : Int32))] 5))
  refine own_go (B := s₁.setTop (mkF m 0 #[rv pv, iv (0 : Int32), iv (3 : Int32), .unset, .unset] [])) (fun t k => castTop (own_tb3_ef m pv) k) ?_
  have K0 := Keep.refl h0 []
  refine own_go (B := (s₁.setTop (mkF m 1 #[rv pv, iv (0 : Int32), iv (3 : Int32), .unset, .unset] [(.int (3 : Int32))]))) (fun t k => XS.iloadN X0.here hx rfl (hb hby own_tb3_d0) rfl k) ?_
  obtain ⟨_, _, ⟨T1, L1, k1, n1⟩, -, X1, ⟨Lc1, hQ1, l1, yy1, zz1⟩, st1⟩ := Jvm.LawKit.callS X0 hx (y := own_y2) hown (mvT hZ w_79) (mvT hZ w_80) (mvT hZ w_40) (mvT hZ w_81) (by decide) (backOf (W := 0) (own_nf3 l Z a0 hw [] h0 n0 Z0) hZ w_81 w_40 (by decide) (by decide)) (g := (mkF m 1 #[rv pv, iv (0 : Int32), iv (3 : Int32), .unset, .unset] [(.int (3 : Int32))])) rfl (by rw [hml]; rfl) (argsL := [(.int (3 : Int32))]) (rest := []) (lenOf own_pd2 rfl) rfl (by show 2 * 0 + _ ≤ _; exact own_b rfl) (hb hby own_tb3_d1) (fun _ _ => ⟨rfl, e0, (own_b rfl : 0 + 1 ≤ _), (own_b rfl : 0 + 6 ≤ _)⟩)
  dsimp only [Pt.U, Pt.locs, Pt.cells, Pt.slots] at X1 l1 yy1 zz1 st1 hQ1
  obtain ⟨b1, rfl, Nq1, K1, gz1, gv1⟩ := hQ1
  obtain ⟨L1, X1, N1⟩ := own_absC (K := 1) (K' := 6) X1 l1 yy1 zz1 N0 Nq1
  have gn_b1 : n0 ≤ b1 := Nat.le_trans Z0 gz1
  have nb1_pv : b1 ≠ pv := fun q => absurd (own_Ar_lt V0) (by rw [← q]; exact Nat.not_lt.mpr gz1)
  have F2 : n0 ≤ T1.heap.size := Nat.le_trans Z0 K1.1
  have F3 := Keep.trans K0 K1 all0
  have F4 := own_Ar_keep V0 K1 nin0
  have F5 := own_sta_keep hSa K1 ns0
  have F6 := own_sta_keep hSh K1 ns0
  have F7 := own_sta_keep hSl K1 ns0
  refine own_go (B := (T1.setTop (mkF m 4 #[rv pv, iv (0 : Int32), iv (3 : Int32), .unset, .unset] [(.ref b1)]))) st1 ?_
  refine own_go (B := (T1.setTop (mkF m 5 #[rv pv, iv (0 : Int32), iv (3 : Int32), rv b1, .unset] []))) (fun t k => XS.astoreN X1.here hx rfl (hb hby own_tb3_d4) rfl rfl (l' := #[rv pv, iv (0 : Int32), iv (3 : Int32), rv b1, .unset]) rfl k) ?_
  refine own_go (B := (T1.setTop (mkF m 6 #[rv pv, iv (0 : Int32), iv (3 : Int32), rv b1, .unset] [(.int (0 : Int32))]))) (fun t k => own_iconst (v := (0 : Int32)) X1.here hx rfl (hb hby own_tb3_d5) (by decide) k) ?_
  refine own_go (B := (T1.setTop (mkF m 8 #[rv pv, iv (0 : Int32), iv (3 : Int32), rv b1, iv (0 : Int32)] []))) (fun t k => XS.istore X1.here hx rfl (hb hby own_tb3_d6) rfl (l' := #[rv pv, iv (0 : Int32), iv (3 : Int32), rv b1, iv (0 : Int32)]) rfl k) ?_
  refine own_go (B := (T1.setTop (mkF m 10 #[rv pv, iv (0 : Int32), iv (3 : Int32), rv b1, iv (0 : Int32)] [(.int (0 : Int32))]))) (fun t k => XS.iload X1.here hx rfl (hb hby own_tb3_d8) rfl k) ?_
  refine own_go (B := (T1.setTop (mkF m 11 #[rv pv, iv (0 : Int32), iv (3 : Int32), rv b1, iv (0 : Int32)] [(.int (3 : Int32)), (.int (0 : Int32))]))) (fun t k => XS.iloadN X1.here hx rfl (hb hby own_tb3_d10) rfl k) ?_
  have hc11 : (0 : Int32) < (3 : Int32) := (by decide)
  refine own_icmpN X1 hx (hb hby own_tb3_d11) (pn := 14) rfl hc11 ?_
  refine own_go (B := (T1.setTop (mkF m 15 #[rv pv, iv (0 : Int32), iv (3 : Int32), rv b1, iv (0 : Int32)] [(.ref b1)]))) (fun t k => XS.aloadN X1.here hx rfl (hb hby own_tb3_d14) rfl rfl k) ?_
  refine own_go (B := (T1.setTop (mkF m 17 #[rv pv, iv (0 : Int32), iv (3 : Int32), rv b1, iv (0 : Int32)] [(.int (0 : Int32)), (.ref b1)]))) (fun t k => XS.iload X1.here hx rfl (hb hby own_tb3_d15) rfl k) ?_
  refine own_go (B := (T1.setTop (mkF m 18 #[rv pv, iv (0 : Int32), iv (3 : Int32), rv b1, iv (0 : Int32)] [(.ref pv), (.int (0 : Int32)), (.ref b1)]))) (fun t k => XS.aloadN X1.here hx rfl (hb hby own_tb3_d17) rfl rfl k) ?_
  refine own_go (B := (T1.setTop (mkF m 19 #[rv pv, iv (0 : Int32), iv (3 : Int32), rv b1, iv (0 : Int32)] [(.int (0 : Int32)), (.ref pv), (.int (0 : Int32)), (.ref b1)]))) (fun t k => XS.iloadN X1.here hx rfl (hb hby own_tb3_d18) rfl k) ?_
  refine own_go (B := (T1.setTop (mkF m 20 #[rv pv, iv (0 : Int32), iv (3 : Int32), rv b1, iv (0 : Int32)] [(.int ch0), (.int (0 : Int32)), (.ref b1)]))) (own_ldC X1 hx hZ rfl F4 (v := (.int ch0)) (by decide) rfl (g := (mkF m 19 #[rv pv, iv (0 : Int32), iv (3 : Int32), rv b1, iv (0 : Int32)] [(.int (0 : Int32)), (.ref pv), (.int (0 : Int32)), (.ref b1)])) rfl rfl (hb hby own_tb3_d19)) ?_
  obtain ⟨_, _, ⟨T8, L8, k8, n8⟩, -, X8, ⟨Lc8, hQ8, l8, yy8, zz8⟩, st8⟩ := Jvm.LawKit.callS X1 hx (y := own_y3) hown (mvT hZ w_70) (mvT hZ w_71) (mvT hZ w_40) (mvT hZ w_72) (by decide) (backOf (W := 0) (own_pc3_0 l Z a0 hw [] b1 ch0 (0 : Int32) (0 : Int32) (0 : Int32) (0 : Int32) (0 : Int32) (0 : Int32) T1.heap n0 F2 gn_b1 gv1 F5 F6 F7) hZ w_72 w_40 (by decide) (by decide)) (g := (mkF m 20 #[rv pv, iv (0 : Int32), iv (3 : Int32), rv b1, iv (0 : Int32)] [(.int ch0), (.int (0 : Int32)), (.ref b1)])) rfl (by rw [hml]; rfl) (argsL := [(.ref b1), (.int (0 : Int32)), (.int ch0)]) (rest := []) (lenOf own_pd3 rfl) rfl (by show 2 * 0 + _ ≤ _; exact own_b rfl) (hb hby own_tb3_d20) (fun _ _ => ⟨rfl, rfl, (own_b rfl : 1 + 0 ≤ _), (own_b rfl : 6 + 0 ≤ _)⟩)
  dsimp only [Pt.U, Pt.locs, Pt.cells, Pt.slots] at X8 l8 yy8 zz8 st8 hQ8
  obtain ⟨rfl, Nq8, K8, gv8⟩ := hQ8
  obtain ⟨L8, X8, N8⟩ := own_absC (K := 1) (K' := 6) X8 l8 yy8 zz8 N1 Nq8
  have F9 : n0 ≤ T8.heap.size := Nat.le_trans F2 K8.1
  have F10 := Keep.trans F3 K8 (allS (Or.inr (Nat.le_trans K0.1 gz1)) all0)
  have F11 := own_Ar_keep F4 K8 (ninS (Ne.symm nb1_pv) nin0)
  have F12 := own_sta_keep F5 K8 (nsS (own_Ar_ns gv1) ns0)
  have F13 := own_sta_keep F6 K8 (nsS (own_Ar_ns gv1) ns0)
  have F14 := own_sta_keep F7 K8 (nsS (own_Ar_ns gv1) ns0)
  refine own_go (B := (T8.setTop (mkF m 23 #[rv pv, iv (0 : Int32), iv (3 : Int32), rv b1, iv (0 : Int32)] []))) st8 ?_
  refine own_go (B := (T8.setTop (mkF m 26 #[rv pv, iv (1 : Int32), iv (3 : Int32), rv b1, iv (0 : Int32)] []))) (fun t k => XS.iinc X8.here hx rfl (hb hby own_tb3_d23) rfl (l' := #[rv pv, iv (1 : Int32), iv (3 : Int32), rv b1, iv (0 : Int32)]) rfl k) ?_
  refine own_go (B := (T8.setTop (mkF m 29 #[rv pv, iv (1 : Int32), iv (3 : Int32), rv b1, iv (1 : Int32)] []))) (fun t k => XS.iinc X8.here hx rfl (hb hby own_tb3_d26) rfl (l' := #[rv pv, iv (1 : Int32), iv (3 : Int32), rv b1, iv (1 : Int32)]) rfl k) ?_
  refine own_go (B := (T8.setTop (mkF m 8 #[rv pv, iv (1 : Int32), iv (3 : Int32), rv b1, iv (1 : Int32)] []))) (fun t k => XS.goto X8.here hx rfl (pc0 := 29) (pc' := 8) rfl (hb hby own_tb3_d29) (by decide) (by decide) k) ?_
  refine own_go (B := (T8.setTop (mkF m 10 #[rv pv, iv (1 : Int32), iv (3 : Int32), rv b1, iv (1 : Int32)] [(.int (1 : Int32))]))) (fun t k => XS.iload X8.here hx rfl (hb hby own_tb3_d8) rfl k) ?_
  refine own_go (B := (T8.setTop (mkF m 11 #[rv pv, iv (1 : Int32), iv (3 : Int32), rv b1, iv (1 : Int32)] [(.int (3 : Int32)), (.int (1 : Int32))]))) (fun t k => XS.iloadN X8.here hx rfl (hb hby own_tb3_d10) rfl k) ?_
  have hc11 : (1 : Int32) < (3 : Int32) := (by decide)
  refine own_icmpN X8 hx (hb hby own_tb3_d11) (pn := 14) rfl hc11 ?_
  refine own_go (B := (T8.setTop (mkF m 15 #[rv pv, iv (1 : Int32), iv (3 : Int32), rv b1, iv (1 : Int32)] [(.ref b1)]))) (fun t k => XS.aloadN X8.here hx rfl (hb hby own_tb3_d14) rfl rfl k) ?_
  refine own_go (B := (T8.setTop (mkF m 17 #[rv pv, iv (1 : Int32), iv (3 : Int32), rv b1, iv (1 : Int32)] [(.int (1 : Int32)), (.ref b1)]))) (fun t k => XS.iload X8.here hx rfl (hb hby own_tb3_d15) rfl k) ?_
  refine own_go (B := (T8.setTop (mkF m 18 #[rv pv, iv (1 : Int32), iv (3 : Int32), rv b1, iv (1 : Int32)] [(.ref pv), (.int (1 : Int32)), (.ref b1)]))) (fun t k => XS.aloadN X8.here hx rfl (hb hby own_tb3_d17) rfl rfl k) ?_
  refine own_go (B := (T8.setTop (mkF m 19 #[rv pv, iv (1 : Int32), iv (3 : Int32), rv b1, iv (1 : Int32)] [(.int (1 : Int32)), (.ref pv), (.int (1 : Int32)), (.ref b1)]))) (fun t k => XS.iloadN X8.here hx rfl (hb hby own_tb3_d18) rfl k) ?_
  refine own_go (B := (T8.setTop (mkF m 20 #[rv pv, iv (1 : Int32), iv (3 : Int32), rv b1, iv (1 : Int32)] [(.int ch1), (.int (1 : Int32)), (.ref b1)]))) (own_ldC X8 hx hZ rfl F11 (v := (.int ch1)) (by decide) rfl (g := (mkF m 19 #[rv pv, iv (1 : Int32), iv (3 : Int32), rv b1, iv (1 : Int32)] [(.int (1 : Int32)), (.ref pv), (.int (1 : Int32)), (.ref b1)])) rfl rfl (hb hby own_tb3_d19)) ?_
  obtain ⟨_, _, ⟨T16, L16, k16, n16⟩, -, X16, ⟨Lc16, hQ16, l16, yy16, zz16⟩, st16⟩ := Jvm.LawKit.callS X8 hx (y := own_y3) hown (mvT hZ w_70) (mvT hZ w_71) (mvT hZ w_40) (mvT hZ w_72) (by decide) (backOf (W := 0) (own_pc3_1 l Z a0 hw [] b1 ch1 ((ch0 >>> ((0 : Int32) &&& 31)).toInt8.toInt32) ((ch0 >>> ((8 : Int32) &&& 31)).toInt8.toInt32) (0 : Int32) (0 : Int32) (0 : Int32) (0 : Int32) T8.heap n0 F9 gn_b1 gv8 F12 F13 F14) hZ w_72 w_40 (by decide) (by decide)) (g := (mkF m 20 #[rv pv, iv (1 : Int32), iv (3 : Int32), rv b1, iv (1 : Int32)] [(.int ch1), (.int (1 : Int32)), (.ref b1)])) rfl (by rw [hml]; rfl) (argsL := [(.ref b1), (.int (1 : Int32)), (.int ch1)]) (rest := []) (lenOf own_pd3 rfl) rfl (by show 2 * 0 + _ ≤ _; exact own_b rfl) (hb hby own_tb3_d20) (fun _ _ => ⟨rfl, rfl, (own_b rfl : 1 + 0 ≤ _), (own_b rfl : 6 + 0 ≤ _)⟩)
  dsimp only [Pt.U, Pt.locs, Pt.cells, Pt.slots] at X16 l16 yy16 zz16 st16 hQ16
  obtain ⟨rfl, Nq16, K16, gv16⟩ := hQ16
  obtain ⟨L16, X16, N16⟩ := own_absC (K := 1) (K' := 6) X16 l16 yy16 zz16 N8 Nq16
  have F17 : n0 ≤ T16.heap.size := Nat.le_trans F9 K16.1
  have F18 := Keep.trans F10 K16 (allS (Or.inr (Nat.le_trans K0.1 gz1)) all0)
  have F19 := own_Ar_keep F11 K16 (ninS (Ne.symm nb1_pv) nin0)
  have F20 := own_sta_keep F12 K16 (nsS (own_Ar_ns gv8) ns0)
  have F21 := own_sta_keep F13 K16 (nsS (own_Ar_ns gv8) ns0)
  have F22 := own_sta_keep F14 K16 (nsS (own_Ar_ns gv8) ns0)
  refine own_go (B := (T16.setTop (mkF m 23 #[rv pv, iv (1 : Int32), iv (3 : Int32), rv b1, iv (1 : Int32)] []))) st16 ?_
  refine own_go (B := (T16.setTop (mkF m 26 #[rv pv, iv (2 : Int32), iv (3 : Int32), rv b1, iv (1 : Int32)] []))) (fun t k => XS.iinc X16.here hx rfl (hb hby own_tb3_d23) rfl (l' := #[rv pv, iv (2 : Int32), iv (3 : Int32), rv b1, iv (1 : Int32)]) rfl k) ?_
  refine own_go (B := (T16.setTop (mkF m 29 #[rv pv, iv (2 : Int32), iv (3 : Int32), rv b1, iv (2 : Int32)] []))) (fun t k => XS.iinc X16.here hx rfl (hb hby own_tb3_d26) rfl (l' := #[rv pv, iv (2 : Int32), iv (3 : Int32), rv b1, iv (2 : Int32)]) rfl k) ?_
  refine own_go (B := (T16.setTop (mkF m 8 #[rv pv, iv (2 : Int32), iv (3 : Int32), rv b1, iv (2 : Int32)] []))) (fun t k => XS.goto X16.here hx rfl (pc0 := 29) (pc' := 8) rfl (hb hby own_tb3_d29) (by decide) (by decide) k) ?_
  refine own_go (B := (T16.setTop (mkF m 10 #[rv pv, iv (2 : Int32), iv (3 : Int32), rv b1, iv (2 : Int32)] [(.int (2 : Int32))]))) (fun t k => XS.iload X16.here hx rfl (hb hby own_tb3_d8) rfl k) ?_
  refine own_go (B := (T16.setTop (mkF m 11 #[rv pv, iv (2 : Int32), iv (3 : Int32), rv b1, iv (2 : Int32)] [(.int (3 : Int32)), (.int (2 : Int32))]))) (fun t k => XS.iloadN X16.here hx rfl (hb hby own_tb3_d10) rfl k) ?_
  have hc11 : (2 : Int32) < (3 : Int32) := (by decide)
  refine own_icmpN X16 hx (hb hby own_tb3_d11) (pn := 14) rfl hc11 ?_
  refine own_go (B := (T16.setTop (mkF m 15 #[rv pv, iv (2 : Int32), iv (3 : Int32), rv b1, iv (2 : Int32)] [(.ref b1)]))) (fun t k => XS.aloadN X16.here hx rfl (hb hby own_tb3_d14) rfl rfl k) ?_
  refine own_go (B := (T16.setTop (mkF m 17 #[rv pv, iv (2 : Int32), iv (3 : Int32), rv b1, iv (2 : Int32)] [(.int (2 : Int32)), (.ref b1)]))) (fun t k => XS.iload X16.here hx rfl (hb hby own_tb3_d15) rfl k) ?_
  refine own_go (B := (T16.setTop (mkF m 18 #[rv pv, iv (2 : Int32), iv (3 : Int32), rv b1, iv (2 : Int32)] [(.ref pv), (.int (2 : Int32)), (.ref b1)]))) (fun t k => XS.aloadN X16.here hx rfl (hb hby own_tb3_d17) rfl rfl k) ?_
  refine own_go (B := (T16.setTop (mkF m 19 #[rv pv, iv (2 : Int32), iv (3 : Int32), rv b1, iv (2 : Int32)] [(.int (2 : Int32)), (.ref pv), (.int (2 : Int32)), (.ref b1)]))) (fun t k => XS.iloadN X16.here hx rfl (hb hby own_tb3_d18) rfl k) ?_
  refine own_go (B := (T16.setTop (mkF m 20 #[rv pv, iv (2 : Int32), iv (3 : Int32), rv b1, iv (2 : Int32)] [(.int ch2), (.int (2 : Int32)), (.ref b1)]))) (own_ldC X16 hx hZ rfl F19 (v := (.int ch2)) (by decide) rfl (g := (mkF m 19 #[rv pv, iv (2 : Int32), iv (3 : Int32), rv b1, iv (2 : Int32)] [(.int (2 : Int32)), (.ref pv), (.int (2 : Int32)), (.ref b1)])) rfl rfl (hb hby own_tb3_d19)) ?_
  obtain ⟨_, _, ⟨T24, L24, k24, n24⟩, -, X24, ⟨Lc24, hQ24, l24, yy24, zz24⟩, st24⟩ := Jvm.LawKit.callS X16 hx (y := own_y3) hown (mvT hZ w_70) (mvT hZ w_71) (mvT hZ w_40) (mvT hZ w_72) (by decide) (backOf (W := 0) (own_pc3_2 l Z a0 hw [] b1 ch2 ((ch0 >>> ((0 : Int32) &&& 31)).toInt8.toInt32) ((ch0 >>> ((8 : Int32) &&& 31)).toInt8.toInt32) ((ch1 >>> ((0 : Int32) &&& 31)).toInt8.toInt32) ((ch1 >>> ((8 : Int32) &&& 31)).toInt8.toInt32) (0 : Int32) (0 : Int32) T16.heap n0 F17 gn_b1 gv16 F20 F21 F22) hZ w_72 w_40 (by decide) (by decide)) (g := (mkF m 20 #[rv pv, iv (2 : Int32), iv (3 : Int32), rv b1, iv (2 : Int32)] [(.int ch2), (.int (2 : Int32)), (.ref b1)])) rfl (by rw [hml]; rfl) (argsL := [(.ref b1), (.int (2 : Int32)), (.int ch2)]) (rest := []) (lenOf own_pd3 rfl) rfl (by show 2 * 0 + _ ≤ _; exact own_b rfl) (hb hby own_tb3_d20) (fun _ _ => ⟨rfl, rfl, (own_b rfl : 1 + 0 ≤ _), (own_b rfl : 6 + 0 ≤ _)⟩)
  dsimp only [Pt.U, Pt.locs, Pt.cells, Pt.slots] at X24 l24 yy24 zz24 st24 hQ24
  obtain ⟨rfl, Nq24, K24, gv24⟩ := hQ24
  obtain ⟨L24, X24, N24⟩ := own_absC (K := 1) (K' := 6) X24 l24 yy24 zz24 N16 Nq24
  have F25 : n0 ≤ T24.heap.size := Nat.le_trans F17 K24.1
  have F26 := Keep.trans F18 K24 (allS (Or.inr (Nat.le_trans K0.1 gz1)) all0)
  have F27 := own_Ar_keep F19 K24 (ninS (Ne.symm nb1_pv) nin0)
  have F28 := own_sta_keep F20 K24 (nsS (own_Ar_ns gv16) ns0)
  have F29 := own_sta_keep F21 K24 (nsS (own_Ar_ns gv16) ns0)
  have F30 := own_sta_keep F22 K24 (nsS (own_Ar_ns gv16) ns0)
  refine own_go (B := (T24.setTop (mkF m 23 #[rv pv, iv (2 : Int32), iv (3 : Int32), rv b1, iv (2 : Int32)] []))) st24 ?_
  refine own_go (B := (T24.setTop (mkF m 26 #[rv pv, iv (3 : Int32), iv (3 : Int32), rv b1, iv (2 : Int32)] []))) (fun t k => XS.iinc X24.here hx rfl (hb hby own_tb3_d23) rfl (l' := #[rv pv, iv (3 : Int32), iv (3 : Int32), rv b1, iv (2 : Int32)]) rfl k) ?_
  refine own_go (B := (T24.setTop (mkF m 29 #[rv pv, iv (3 : Int32), iv (3 : Int32), rv b1, iv (3 : Int32)] []))) (fun t k => XS.iinc X24.here hx rfl (hb hby own_tb3_d26) rfl (l' := #[rv pv, iv (3 : Int32), iv (3 : Int32), rv b1, iv (3 : Int32)]) rfl k) ?_
  refine own_go (B := (T24.setTop (mkF m 8 #[rv pv, iv (3 : Int32), iv (3 : Int32), rv b1, iv (3 : Int32)] []))) (fun t k => XS.goto X24.here hx rfl (pc0 := 29) (pc' := 8) rfl (hb hby own_tb3_d29) (by decide) (by decide) k) ?_
  refine own_go (B := (T24.setTop (mkF m 10 #[rv pv, iv (3 : Int32), iv (3 : Int32), rv b1, iv (3 : Int32)] [(.int (3 : Int32))]))) (fun t k => XS.iload X24.here hx rfl (hb hby own_tb3_d8) rfl k) ?_
  refine own_go (B := (T24.setTop (mkF m 11 #[rv pv, iv (3 : Int32), iv (3 : Int32), rv b1, iv (3 : Int32)] [(.int (3 : Int32)), (.int (3 : Int32))]))) (fun t k => XS.iloadN X24.here hx rfl (hb hby own_tb3_d10) rfl k) ?_
  have hc11 : ¬ (3 : Int32) < (3 : Int32) := (by decide)
  refine own_icmpY X24 hx (hb hby own_tb3_d11) (pc' := 32) (by decide) (by decide) hc11 ?_
  refine own_go (B := (T24.setTop (mkF m 33 #[rv pv, iv (3 : Int32), iv (3 : Int32), rv b1, iv (3 : Int32)] [(.ref b1)]))) (fun t k => XS.aloadN X24.here hx rfl (hb hby own_tb3_d32) rfl rfl k) ?_
  exact own_retA X24 hx hlk Bd.returns rfl rfl (hb hby own_tb3_d33) (own_b rfl) (own_b rfl) (Q := (own_tb3_Q Z pv ch0 ch1 ch2 h0 n0)) ⟨_, rfl, N24, F26, Nat.le_trans K0.1 gz1, gv24⟩

theorem own_l1_d0 : decode jdk_43_method_46_code 0 = .ok (.iconst 1, 1) := by decide +kernel
theorem own_l1_d1 : decode jdk_43_method_46_code 1 = .ok (.newarray .byte, 2) := by decide +kernel
theorem own_l1_d3 : decode jdk_43_method_46_code 3 = .ok (.dup, 1) := by decide +kernel
theorem own_l1_d4 : decode jdk_43_method_46_code 4 = .ok (.iconst 0, 1) := by decide +kernel
theorem own_l1_d5 : decode jdk_43_method_46_code 5 = .ok (.iload_n 0, 1) := by decide +kernel
theorem own_l1_d6 : decode jdk_43_method_46_code 6 = .ok (.i2b, 1) := by decide +kernel
theorem own_l1_d7 : decode jdk_43_method_46_code 7 = .ok (.bastore, 1) := by decide +kernel
theorem own_l1_d8 : decode jdk_43_method_46_code 8 = .ok (.areturn, 1) := by decide +kernel
theorem own_l1_pn : plainName "java/lang/StringLatin1" = true := by first | (simp [plainName, overriddenIn]; done) | decide +kernel
theorem own_l1_ef (m : MethodId) (pch : Int32) : entryFrame m #[(.int pch)] 1 = mkF m 0 #[iv pch] [] := by first | (simp [entryFrame, mkF, argsToLocals, Value.category]; done) | rfl
def own_l1_Q (Z : State) (pch : Int32) (h0 : Heap) (n0 : Nat) (v : Option Value) (h : Heap) (L : List Loc) : Prop := ∃ b, v = some (.ref b) ∧ Fr n0 L ∧ Keep h0 h [] ∧ h0.size ≤ b ∧ own_Ar Z h b .byte [(.int (pch.toInt8.toInt32))]
set_option maxRecDepth 65536 in
set_option maxHeartbeats 40000000 in
theorem own_l1 (l : Launch) (Z : State) (a0 : Array Value) (hw : ∀ d ∈ tables_1, d.before a0 Z = true) (ws : List Jvm.Cond) (pch : Int32) (h0 : Heap) (n0 : Nat) (Z0 : n0 ≤ h0.size) :
    MetFree l own_y13 (head1 (Jvm.Cond.code own_y13 jdk_43_method_46_code 1 (some (.array .byte)) :: ws) ({ frames := 0, cells := 1, slots := 1, locals := 0 } : Room)) (fun a U => a = #[(.int pch)] ∧ Z.Warmed39 U.vm ∧ U.heap = h0) (fun _ _ _ _ _ => True) (fun _ U o U' => ∃ v L, o = .returned v ∧ (own_l1_Q Z pch h0 n0) v U'.heap L ∧ FrameEnd U o U' L ({ frames := 0, cells := 1, slots := 1, locals := 0 } : Room).cells ({ frames := 0, cells := 1, slots := 1, locals := 0 } : Room).slots) := by
  refine MetFree.of_bodySF (plainFor_of_name own_l1_pn) hisR ?_
  intro p e s m args below meth c s₁ Bd hml0 hP hK
  obtain ⟨rfl, hZ, hh⟩ := hP
  have hx := Bd.exec
  have hby := Bd.bytes
  have hml : c.maxLocals = 1 := hml0
  have hown : s.vm.findClass "java/lang/StringLatin1" = some m.cls := findClass_of_methodNamed Bd.named
  have hnm := (name_of_methodNamed Bd.named Bd.method).1
  have hlk : meth.locks = false := Bd.notSynchronized
  have X0 : Stand p l e ({ frames := 0, cells := 1, slots := 1, locals := 0 } : Room) s m #[(.int pch)] below meth c s₁ [] 0 0 := Stand.of_body Bd
  have e0 : s₁.heap = h0 := by rw [← hh, Bd.state]; rfl
  have N0 := Fr.nil n0
  have w_16 := hw _ (List.mem_of_getElem? (l := tables_1) (i := 16) rfl)
  show own_G p.tables e below (fun o U' => ∃ v L, o = .returned v ∧ (own_l1_Q Z pch h0 n0) v U'.heap L ∧ FrameEnd s o U' L ({ frames := 0, cells := 1, slots := 1, locals := 0 } : Room).cells ({ frames := 0, cells := 1, slots := 1, locals := 0 } : Room).slots) (s₁.setTop (entryFrame m #[(.int pch)] 1))
  refine own_go (B := s₁.setTop (mkF m 0 #[iv pch] [])) (fun t k => castTop (own_l1_ef m pch) k) ?_
  have K0 := Keep.refl h0 []
  refine own_go (B := (s₁.setTop (mkF m 1 #[iv pch] [(.int (1 : Int32))]))) (fun t k => own_iconst (v := (1 : Int32)) X0.here hx rfl (hb hby own_l1_d0) (by decide) k) ?_
  obtain ⟨T1, h1, c1, X1, e1, E1, A1, st1⟩ := newP X0 hx hZ (aty := .byte) w_16 e0 (g := (mkF m 1 #[iv pch] [(.int (1 : Int32))])) rfl (hb hby own_l1_d1) rfl (by decide) (cap := 1) (by decide) (by decide) (own_b rfl) (own_b rfl)
  obtain ⟨a1, ga1⟩ : ∃ z, z = h0.size := ⟨_, rfl⟩
  rw [← ga1] at A1 st1
  refine own_go (B := (T1.setTop (mkF m 3 #[iv pch] [(.ref a1)]))) st1 ?_
  have Z2 : n0 ≤ h1.size := Nat.le_trans Z0 E1.1
  have K3 := Keep.ext K0 E1
  have gn1 : n0 ≤ a1 := Nat.le_trans Z0 (Nat.le_of_eq ga1.symm)
  have V1 : own_Ar Z h1 a1 .byte [(.int (0 : Int32))] := own_Ar_new A1 (N := 1) (by decide) rfl
  refine own_go (B := (T1.setTop (mkF m 4 #[iv pch] [(.ref a1), (.ref a1)]))) (fun t k => XS.dup X1.here hx rfl (hb hby own_l1_d3) rfl rfl k) ?_
  refine own_go (B := (T1.setTop (mkF m 5 #[iv pch] [(.int (0 : Int32)), (.ref a1), (.ref a1)]))) (fun t k => own_iconst (v := (0 : Int32)) X1.here hx rfl (hb hby own_l1_d4) (by decide) k) ?_
  refine own_go (B := (T1.setTop (mkF m 6 #[iv pch] [(.int pch), (.int (0 : Int32)), (.ref a1), (.ref a1)]))) (fun t k => XS.iloadN X1.here hx rfl (hb hby own_l1_d5) rfl k) ?_
  refine own_go (B := (T1.setTop (mkF m 7 #[iv pch] [(.int (pch.toInt8.toInt32)), (.int (0 : Int32)), (.ref a1), (.ref a1)]))) (fun t k => XS.i2b X1.here hx rfl (hb hby own_l1_d6) rfl k) ?_
  obtain ⟨T4, h4, X4, e4, W4, V4, st4⟩ := own_stB X1 hx hZ e1 V1 (i := 0) (by decide) (by decide) (Nat.lt_of_lt_of_eq (by decide : 0 < 1) rfl) (own_i2b _) (L' := [(.int (pch.toInt8.toInt32))]) rfl (g := (mkF m 7 #[iv pch] [(.int (pch.toInt8.toInt32)), (.int (0 : Int32)), (.ref a1), (.ref a1)])) rfl rfl (hb hby own_l1_d7)
  refine own_go (B := (T4.setTop (mkF m 8 #[iv pch] [(.ref a1)]))) st4 ?_
  obtain ⟨L4, X4, N4⟩ := own_abs X4 (Fr.snoc X4 N0 gn1)
  have F5 : n0 ≤ h4.size := by rw [W4.size]; exact Z2
  have F6 := Keep.wr K3 W4 (Or.inr (Nat.le_trans K0.1 (Nat.le_of_eq ga1.symm)))
  exact own_retA X4 hx hlk Bd.returns rfl rfl (hb hby own_l1_d8) (own_b rfl) (own_b rfl) (Q := (own_l1_Q Z pch h0 n0)) (by rw [e4]; exact ⟨_, rfl, N4, F6, Nat.le_trans K0.1 (Nat.le_of_eq ga1.symm), V4⟩)

theorem own_u1_d0 : decode jdk_52_method_24_code 0 = .ok (.iconst 2, 1) := by decide +kernel
theorem own_u1_d1 : decode jdk_52_method_24_code 1 = .ok (.newarray .byte, 2) := by decide +kernel
theorem own_u1_d3 : decode jdk_52_method_24_code 3 = .ok (.astore_n 1, 1) := by decide +kernel
theorem own_u1_d4 : decode jdk_52_method_24_code 4 = .ok (.aload_n 1, 1) := by decide +kernel
theorem own_u1_d5 : decode jdk_52_method_24_code 5 = .ok (.iconst 0, 1) := by decide +kernel
theorem own_u1_d6 : decode jdk_52_method_24_code 6 = .ok (.iload_n 0, 1) := by decide +kernel
theorem own_u1_d7 : decode jdk_52_method_24_code 7 = .ok (.invokestatic 111, 3) := by decide +kernel
theorem own_u1_d10 : decode jdk_52_method_24_code 10 = .ok (.aload_n 1, 1) := by decide +kernel
theorem own_u1_d11 : decode jdk_52_method_24_code 11 = .ok (.areturn, 1) := by decide +kernel
theorem own_u1_pn : plainName "java/lang/StringUTF16" = true := by first | (simp [plainName, overriddenIn]; done) | decide +kernel
theorem own_u1_ef (m : MethodId) (pch : Int32) : entryFrame m #[(.int pch)] 2 = mkF m 0 #[iv pch, .unset] [] := by first | (simp [entryFrame, mkF, argsToLocals, Value.category]; done) | rfl
def own_u1_Q (Z : State) (pch : Int32) (h0 : Heap) (n0 : Nat) (v : Option Value) (h : Heap) (L : List Loc) : Prop := ∃ b, v = some (.ref b) ∧ Fr n0 L ∧ Keep h0 h [] ∧ h0.size ≤ b ∧ own_Ar Z h b .byte [(.int ((pch >>> ((0 : Int32) &&& 31)).toInt8.toInt32)), (.int ((pch >>> ((8 : Int32) &&& 31)).toInt8.toInt32))]
set_option maxRecDepth 65536 in
set_option maxHeartbeats 40000000 in
theorem own_u1 (l : Launch) (Z : State) (a0 : Array Value) (hw : ∀ d ∈ tables_1, d.before a0 Z = true) (ws : List Jvm.Cond) (pch : Int32) (h0 : Heap) (n0 : Nat) (Z0 : n0 ≤ h0.size) (hSa : Sta Z h0 "java/lang/StringUTF16" "$assertionsDisabled" "Z" (.int (1 : Int32))) (hSh : Sta Z h0 "java/lang/StringUTF16" "HI_BYTE_SHIFT" "I" (.int (0 : Int32))) (hSl : Sta Z h0 "java/lang/StringUTF16" "LO_BYTE_SHIFT" "I" (.int (8 : Int32))) :
    MetFree l own_y11 (head1 (Jvm.Cond.code own_y11 jdk_52_method_24_code 2 (some (.array .byte)) :: ws) ({ frames := 1, cells := 1, slots := 2, locals := 14 } : Room)) (fun a U => a = #[(.int pch)] ∧ Z.Warmed39 U.vm ∧ U.heap = h0) (fun _ _ _ _ _ => True) (fun _ U o U' => ∃ v L, o = .returned v ∧ (own_u1_Q Z pch h0 n0) v U'.heap L ∧ FrameEnd U o U' L ({ frames := 1, cells := 1, slots := 2, locals := 14 } : Room).cells ({ frames := 1, cells := 1, slots := 2, locals := 14 } : Room).slots) := by
  refine MetFree.of_bodySF (plainFor_of_name own_u1_pn) hisR ?_
  intro p e s m args below meth c s₁ Bd hml0 hP hK
  obtain ⟨rfl, hZ, hh⟩ := hP
  have hx := Bd.exec
  have hby := Bd.bytes
  have hml : c.maxLocals = 2 := hml0
  have hown : s.vm.findClass "java/lang/StringUTF16" = some m.cls := findClass_of_methodNamed Bd.named
  have hnm := (name_of_methodNamed Bd.named Bd.method).1
  have hlk : meth.locks = false := Bd.notSynchronized
  have X0 : Stand p l e ({ frames := 1, cells := 1, slots := 2, locals := 14 } : Room) s m #[(.int pch)] below meth c s₁ [] 0 0 := Stand.of_body Bd
  have e0 : s₁.heap = h0 := by rw [← hh, Bd.state]; rfl
  have N0 := Fr.nil n0
  have w_16 := hw _ (List.mem_of_getElem? (l := tables_1) (i := 16) rfl)
  have w_40 := hw _ (List.mem_of_getElem? (l := tables_1) (i := 40) rfl)
  have w_70 := hw _ (List.mem_of_getElem? (l := tables_1) (i := 70) rfl)
  have w_71 := hw _ (List.mem_of_getElem? (l := tables_1) (i := 71) rfl)
  have w_72 := hw _ (List.mem_of_getElem? (l := tables_1) (i := 72) rfl)
  show own_G p.tables e below (fun o U' => ∃ v L, o = .returned v ∧ (own_u1_Q Z pch h0 n0) v U'.heap L ∧ FrameEnd s o U' L ({ frames := 1, cells := 1, slots := 2, locals := 14 } : Room).cells ({ frames := 1, cells := 1, slots := 2, locals := 14 } : Room).slots) (s₁.setTop (entryFrame m #[(.int pch)] 2))
  refine own_go (B := s₁.setTop (mkF m 0 #[iv pch, .unset] [])) (fun t k => castTop (own_u1_ef m pch) k) ?_
  have K0 := Keep.refl h0 []
  refine own_go (B := (s₁.setTop (mkF m 1 #[iv pch, .unset] [(.int (2 : Int32))]))) (fun t k => own_iconst (v := (2 : Int32)) X0.here hx rfl (hb hby own_u1_d0) (by decide) k) ?_
  obtain ⟨T1, h1, c1, X1, e1, E1, A1, st1⟩ := newP X0 hx hZ (aty := .byte) w_16 e0 (g := (mkF m 1 #[iv pch, .unset] [(.int (2 : Int32))])) rfl (hb hby own_u1_d1) rfl (by decide) (cap := 2) (by decide) (by decide) (own_b rfl) (own_b rfl)
  obtain ⟨a1, ga1⟩ : ∃ z, z = h0.size := ⟨_, rfl⟩
  rw [← ga1] at A1 st1
  refine own_go (B := (T1.setTop (mkF m 3 #[iv pch, .unset] [(.ref a1)]))) st1 ?_
  have Z2 : n0 ≤ h1.size := Nat.le_trans Z0 E1.1
  have K3 := Keep.ext K0 E1
  have F4 := Sta.ext E1 hSa
  have F5 := Sta.ext E1 hSh
  have F6 := Sta.ext E1 hSl
  have gn1 : n0 ≤ a1 := Nat.le_trans Z0 (Nat.le_of_eq ga1.symm)
  have V1 : own_Ar Z h1 a1 .byte [(.int (0 : Int32)), (.int (0 : Int32))] := own_Ar_new A1 (N := 2) (by decide) rfl
  refine own_go (B := (T1.setTop (mkF m 4 #[iv pch, rv a1] []))) (fun t k => XS.astoreN X1.here hx rfl (hb hby own_u1_d3) rfl rfl (l' := #[iv pch, rv a1]) rfl k) ?_
  refine own_go (B := (T1.setTop (mkF m 5 #[iv pch, rv a1] [(.ref a1)]))) (fun t k => XS.aloadN X1.here hx rfl (hb hby own_u1_d4) rfl rfl k) ?_
  refine own_go (B := (T1.setTop (mkF m 6 #[iv pch, rv a1] [(.int (0 : Int32)), (.ref a1)]))) (fun t k => own_iconst (v := (0 : Int32)) X1.here hx rfl (hb hby own_u1_d5) (by decide) k) ?_
  refine own_go (B := (T1.setTop (mkF m 7 #[iv pch, rv a1] [(.int pch), (.int (0 : Int32)), (.ref a1)]))) (fun t k => XS.iloadN X1.here hx rfl (hb hby own_u1_d6) rfl k) ?_
  obtain ⟨_, _, ⟨T7, L7, k7, n7⟩, -, X7, ⟨Lc7, hQ7, l7, yy7, zz7⟩, st7⟩ := Jvm.LawKit.callS X1 hx (y := own_y3) hown (mvT hZ w_70) (mvT hZ w_71) (mvT hZ w_40) (mvT hZ w_72) (by decide) (backOf (W := 0) (own_pc1_0 l Z a0 hw [] a1 pch (0 : Int32) (0 : Int32) h1 n0 Z2 gn1 V1 F4 F5 F6) hZ w_72 w_40 (by decide) (by decide)) (g := (mkF m 7 #[iv pch, rv a1] [(.int pch), (.int (0 : Int32)), (.ref a1)])) rfl (by rw [hml]; rfl) (argsL := [(.ref a1), (.int (0 : Int32)), (.int pch)]) (rest := []) (lenOf own_pd3 rfl) rfl (by show 2 * 0 + _ ≤ _; exact own_b rfl) (hb hby own_u1_d7) (fun _ _ => ⟨rfl, e1, (own_b rfl : 1 + 0 ≤ _), (own_b rfl : 2 + 0 ≤ _)⟩)
  dsimp only [Pt.U, Pt.locs, Pt.cells, Pt.slots] at X7 l7 yy7 zz7 st7 hQ7
  obtain ⟨rfl, Nq7, K7, gv7⟩ := hQ7
  obtain ⟨L7, X7, N7⟩ := own_absC (K := 1) (K' := 2) X7 l7 yy7 zz7 N0 Nq7
  have F8 : n0 ≤ T7.heap.size := Nat.le_trans Z2 K7.1
  have F9 := Keep.trans K3 K7 (allS (Or.inr (Nat.le_trans K0.1 (Nat.le_of_eq ga1.symm))) all0)
  have F10 := own_sta_keep F4 K7 (nsS (own_Ar_ns V1) ns0)
  have F11 := own_sta_keep F5 K7 (nsS (own_Ar_ns V1) ns0)
  have F12 := own_sta_keep F6 K7 (nsS (own_Ar_ns V1) ns0)
  refine own_go (B := (T7.setTop (mkF m 10 #[iv pch, rv a1] []))) st7 ?_
  refine own_go (B := (T7.setTop (mkF m 11 #[iv pch, rv a1] [(.ref a1)]))) (fun t k => XS.aloadN X7.here hx rfl (hb hby own_u1_d10) rfl rfl k) ?_
  exact own_retA X7 hx hlk Bd.returns rfl rfl (hb hby own_u1_d11) (own_b rfl) (own_b rfl) (Q := (own_u1_Q Z pch h0 n0)) ⟨_, rfl, N7, F9, Nat.le_trans K0.1 (Nat.le_of_eq ga1.symm), gv7⟩

theorem own_k5_2_d0 : decode jdk_52_method_21_code 0 = .ok (.iconst 0, 1) := by decide +kernel
theorem own_k5_2_d1 : decode jdk_52_method_21_code 1 = .ok (.istore 5, 2) := by decide +kernel
theorem own_k5_2_d3 : decode jdk_52_method_21_code 3 = .ok (.iload 5, 2) := by decide +kernel
theorem own_k5_2_d5 : decode jdk_52_method_21_code 5 = .ok (.iload 4, 2) := by decide +kernel
theorem own_k5_2_d7 : decode jdk_52_method_21_code 7 = .ok (.if_icmp .ge 37, 3) := by decide +kernel
theorem own_k5_2_d10 : decode jdk_52_method_21_code 10 = .ok (.aload_n 0, 1) := by decide +kernel
theorem own_k5_2_d11 : decode jdk_52_method_21_code 11 = .ok (.iload_n 1, 1) := by decide +kernel
theorem own_k5_2_d12 : decode jdk_52_method_21_code 12 = .ok (.caload, 1) := by decide +kernel
theorem own_k5_2_d13 : decode jdk_52_method_21_code 13 = .ok (.istore 6, 2) := by decide +kernel
theorem own_k5_2_d15 : decode jdk_52_method_21_code 15 = .ok (.iload 6, 2) := by decide +kernel
theorem own_k5_2_d17 : decode jdk_52_method_21_code 17 = .ok (.sipush 255, 3) := by decide +kernel
theorem own_k5_2_d20 : decode jdk_52_method_21_code 20 = .ok (.if_icmp .le 6, 3) := by decide +kernel
theorem own_k5_2_d23 : decode jdk_52_method_21_code 23 = .ok (.iload 5, 2) := by decide +kernel
theorem own_k5_2_d25 : decode jdk_52_method_21_code 25 = .ok (.ireturn, 1) := by decide +kernel
theorem own_k5_2_d26 : decode jdk_52_method_21_code 26 = .ok (.aload_n 2, 1) := by decide +kernel
theorem own_k5_2_d27 : decode jdk_52_method_21_code 27 = .ok (.iload_n 3, 1) := by decide +kernel
theorem own_k5_2_d28 : decode jdk_52_method_21_code 28 = .ok (.iload 6, 2) := by decide +kernel
theorem own_k5_2_d30 : decode jdk_52_method_21_code 30 = .ok (.i2b, 1) := by decide +kernel
theorem own_k5_2_d31 : decode jdk_52_method_21_code 31 = .ok (.bastore, 1) := by decide +kernel
theorem own_k5_2_d32 : decode jdk_52_method_21_code 32 = .ok (.iinc 1 1, 3) := by decide +kernel
theorem own_k5_2_d35 : decode jdk_52_method_21_code 35 = .ok (.iinc 3 1, 3) := by decide +kernel
theorem own_k5_2_d38 : decode jdk_52_method_21_code 38 = .ok (.iinc 5 1, 3) := by decide +kernel
theorem own_k5_2_d41 : decode jdk_52_method_21_code 41 = .ok (.goto (-38), 3) := by decide +kernel
theorem own_k5_2_d44 : decode jdk_52_method_21_code 44 = .ok (.iload 4, 2) := by decide +kernel
theorem own_k5_2_d46 : decode jdk_52_method_21_code 46 = .ok (.ireturn, 1) := by decide +kernel
theorem own_k5_2_pn : plainName "java/lang/StringUTF16" = true := by first | (simp [plainName, overriddenIn]; done) | decide +kernel
theorem own_k5_2_ef (m : MethodId) (pv : Addr) (pd : Addr) : entryFrame m #[(.ref pv), (.int (0 : Int32)), (.ref pd), (.int (0 : Int32)), (.int (2 : Int32))] 7 = mkF m 0 #[rv pv, iv (0 : Int32), rv pd, iv (0 : Int32), iv (2 : Int32), .unset, .unset] [] := by first | (simp [entryFrame, mkF, argsToLocals, Value.category]; done) | rfl
def own_k5_2_Q (Z : State) (pv : Addr) (pd : Addr) (ch0 ch1 : Int32) (h0 : Heap) (n0 : Nat) (v : Option Value) (h : Heap) (L : List Loc) : Prop := ∃ r Ld, v = some (.int r) ∧ Fr n0 L ∧ Keep h0 h [pd] ∧ own_Ar Z h pd .byte Ld ∧ Ld.length = 2 ∧ (r = (2 : Int32) ∨ (r = (0 : Int32) ∧ (255 : Int32) < ch0) ∨ (r = (1 : Int32) ∧ (255 : Int32) < ch1))
set_option maxRecDepth 65536 in
set_option maxHeartbeats 40000000 in
theorem own_k5_2 (l : Launch) (Z : State) (a0 : Array Value) (hw : ∀ d ∈ tables_1, d.before a0 Z = true) (ws : List Jvm.Cond) (pv : Addr) (pd : Addr) (ch0 ch1 : Int32) (h0 : Heap) (n0 : Nat) (Z0 : n0 ≤ h0.size) (g0 : n0 ≤ pd) (V0 : own_Ar Z h0 pv .char [(.int ch0), (.int ch1)]) (V1 : own_Ar Z h0 pd .byte [(.int (0 : Int32)), (.int (0 : Int32))]) (nvd : pv ≠ pd) :
    MetFree l own_y4 (head1 (Jvm.Cond.code own_y4 jdk_52_method_21_code 7 (some .int) :: ws) ({ frames := 0, cells := 0, slots := 0, locals := 0 } : Room)) (fun a U => a = #[(.ref pv), (.int (0 : Int32)), (.ref pd), (.int (0 : Int32)), (.int (2 : Int32))] ∧ Z.Warmed39 U.vm ∧ U.heap = h0) (fun _ _ _ _ _ => True) (fun _ U o U' => ∃ v L, o = .returned v ∧ (own_k5_2_Q Z pv pd ch0 ch1 h0 n0) v U'.heap L ∧ FrameEnd U o U' L ({ frames := 0, cells := 0, slots := 0, locals := 0 } : Room).cells ({ frames := 0, cells := 0, slots := 0, locals := 0 } : Room).slots) := by
  refine MetFree.of_bodySF (plainFor_of_name own_k5_2_pn) hisR ?_
  intro p e s m args below meth c s₁ Bd hml0 hP hK
  obtain ⟨rfl, hZ, hh⟩ := hP
  have hx := Bd.exec
  have hby := Bd.bytes
  have hml : c.maxLocals = 7 := hml0
  have hown : s.vm.findClass "java/lang/StringUTF16" = some m.cls := findClass_of_methodNamed Bd.named
  have hnm := (name_of_methodNamed Bd.named Bd.method).1
  have hlk : meth.locks = false := Bd.notSynchronized
  have X0 : Stand p l e ({ frames := 0, cells := 0, slots := 0, locals := 0 } : Room) s m #[(.ref pv), (.int (0 : Int32)), (.ref pd), (.int (0 : Int32)), (.int (2 : Int32))] below meth c s₁ [] 0 0 := Stand.of_body Bd
  have e0 : s₁.heap = h0 := by rw [← hh, Bd.state]; rfl
  have N0 := Fr.nil n0
  show own_G p.tables e below (fun o U' => ∃ v L, o = .returned v ∧ (own_k5_2_Q Z pv pd ch0 ch1 h0 n0) v U'.heap L ∧ FrameEnd s o U' L ({ frames := 0, cells := 0, slots := 0, locals := 0 } : Room).cells ({ frames := 0, cells := 0, slots := 0, locals := 0 } : Room).slots) (s₁.setTop (entryFrame m #[(.ref pv), (.int (0 : Int32)), (.ref pd), (.int (0 : Int32)), (.int (2 : Int32))] 7))
  refine own_go (B := s₁.setTop (mkF m 0 #[rv pv, iv (0 : Int32), rv pd, iv (0 : Int32), iv (2 : Int32), .unset, .unset] [])) (fun t k => castTop (own_k5_2_ef m pv pd) k) ?_
  have K0 := Keep.refl h0 [pd]
  refine own_go (B := (s₁.setTop (mkF m 1 #[rv pv, iv (0 : Int32), rv pd, iv (0 : Int32), iv (2 : Int32), .unset, .unset] [(.int (0 : Int32))]))) (fun t k => own_iconst (v := (0 : Int32)) X0.here hx rfl (hb hby own_k5_2_d0) (by decide) k) ?_
  refine own_go (B := (s₁.setTop (mkF m 3 #[rv pv, iv (0 : Int32), rv pd, iv (0 : Int32), iv (2 : Int32), iv (0 : Int32), .unset] []))) (fun t k => XS.istore X0.here hx rfl (hb hby own_k5_2_d1) rfl (l' := #[rv pv, iv (0 : Int32), rv pd, iv (0 : Int32), iv (2 : Int32), iv (0 : Int32), .unset]) rfl k) ?_
  refine own_go (B := (s₁.setTop (mkF m 5 #[rv pv, iv (0 : Int32), rv pd, iv (0 : Int32), iv (2 : Int32), iv (0 : Int32), .unset] [(.int (0 : Int32))]))) (fun t k => XS.iload X0.here hx rfl (hb hby own_k5_2_d3) rfl k) ?_
  refine own_go (B := (s₁.setTop (mkF m 7 #[rv pv, iv (0 : Int32), rv pd, iv (0 : Int32), iv (2 : Int32), iv (0 : Int32), .unset] [(.int (2 : Int32)), (.int (0 : Int32))]))) (fun t k => XS.iload X0.here hx rfl (hb hby own_k5_2_d5) rfl k) ?_
  have hc_1 : (0 : Int32) < (2 : Int32) := (by decide)
  refine own_icmpN X0 hx (hb hby own_k5_2_d7) (pn := 10) rfl hc_1 ?_
  refine own_go (B := (s₁.setTop (mkF m 11 #[rv pv, iv (0 : Int32), rv pd, iv (0 : Int32), iv (2 : Int32), iv (0 : Int32), .unset] [(.ref pv)]))) (fun t k => XS.aloadN X0.here hx rfl (hb hby own_k5_2_d10) rfl rfl k) ?_
  refine own_go (B := (s₁.setTop (mkF m 12 #[rv pv, iv (0 : Int32), rv pd, iv (0 : Int32), iv (2 : Int32), iv (0 : Int32), .unset] [(.int (0 : Int32)), (.ref pv)]))) (fun t k => XS.iloadN X0.here hx rfl (hb hby own_k5_2_d11) rfl k) ?_
  refine own_go (B := (s₁.setTop (mkF m 13 #[rv pv, iv (0 : Int32), rv pd, iv (0 : Int32), iv (2 : Int32), iv (0 : Int32), .unset] [(.int ch0)]))) (own_ldC X0 hx hZ e0 V0 (v := (.int ch0)) (by decide) rfl (g := (mkF m 12 #[rv pv, iv (0 : Int32), rv pd, iv (0 : Int32), iv (2 : Int32), iv (0 : Int32), .unset] [(.int (0 : Int32)), (.ref pv)])) rfl rfl (hb hby own_k5_2_d12)) ?_
  refine own_go (B := (s₁.setTop (mkF m 15 #[rv pv, iv (0 : Int32), rv pd, iv (0 : Int32), iv (2 : Int32), iv (0 : Int32), iv ch0] []))) (fun t k => XS.istore X0.here hx rfl (hb hby own_k5_2_d13) rfl (l' := #[rv pv, iv (0 : Int32), rv pd, iv (0 : Int32), iv (2 : Int32), iv (0 : Int32), iv ch0]) rfl k) ?_
  refine own_go (B := (s₁.setTop (mkF m 17 #[rv pv, iv (0 : Int32), rv pd, iv (0 : Int32), iv (2 : Int32), iv (0 : Int32), iv ch0] [(.int ch0)]))) (fun t k => XS.iload X0.here hx rfl (hb hby own_k5_2_d15) rfl k) ?_
  refine own_go (B := (s₁.setTop (mkF m 20 #[rv pv, iv (0 : Int32), rv pd, iv (0 : Int32), iv (2 : Int32), iv (0 : Int32), iv ch0] [(.int (255 : Int32)), (.int ch0)]))) (fun t k => own_sipush (v := (255 : Int32)) X0.here hx rfl (hb hby own_k5_2_d17) (by decide) k) ?_
  refine own_icmp X0 hx (hb hby own_k5_2_d20) (pc' := 26) (pn := 23) (by decide) (by decide) rfl (fun (hc_2 : ¬ (255 : Int32) < ch0) => ?_) (fun (hc_2 : (255 : Int32) < ch0) => ?_)
  · refine own_go (B := (s₁.setTop (mkF m 27 #[rv pv, iv (0 : Int32), rv pd, iv (0 : Int32), iv (2 : Int32), iv (0 : Int32), iv ch0] [(.ref pd)]))) (fun t k => XS.aloadN X0.here hx rfl (hb hby own_k5_2_d26) rfl rfl k) ?_
    refine own_go (B := (s₁.setTop (mkF m 28 #[rv pv, iv (0 : Int32), rv pd, iv (0 : Int32), iv (2 : Int32), iv (0 : Int32), iv ch0] [(.int (0 : Int32)), (.ref pd)]))) (fun t k => XS.iloadN X0.here hx rfl (hb hby own_k5_2_d27) rfl k) ?_
    refine own_go (B := (s₁.setTop (mkF m 30 #[rv pv, iv (0 : Int32), rv pd, iv (0 : Int32), iv (2 : Int32), iv (0 : Int32), iv ch0] [(.int ch0), (.int (0 : Int32)), (.ref pd)]))) (fun t k => XS.iload X0.here hx rfl (hb hby own_k5_2_d28) rfl k) ?_
    refine own_go (B := (s₁.setTop (mkF m 31 #[rv pv, iv (0 : Int32), rv pd, iv (0 : Int32), iv (2 : Int32), iv (0 : Int32), iv ch0] [(.int (ch0.toInt8.toInt32)), (.int (0 : Int32)), (.ref pd)]))) (fun t k => XS.i2b X0.here hx rfl (hb hby own_k5_2_d30) rfl k) ?_
    obtain ⟨T3, h3, X3, e3, W3, V3, st3⟩ := own_stB X0 hx hZ e0 V1 (i := 0) (by decide) (by decide) (Nat.lt_of_lt_of_eq (by decide : 0 < 2) rfl) (own_i2b _) (L' := [(.int (ch0.toInt8.toInt32)), (.int (0 : Int32))]) rfl (g := (mkF m 31 #[rv pv, iv (0 : Int32), rv pd, iv (0 : Int32), iv (2 : Int32), iv (0 : Int32), iv ch0] [(.int (ch0.toInt8.toInt32)), (.int (0 : Int32)), (.ref pd)])) rfl rfl (hb hby own_k5_2_d31)
    refine own_go (B := (T3.setTop (mkF m 32 #[rv pv, iv (0 : Int32), rv pd, iv (0 : Int32), iv (2 : Int32), iv (0 : Int32), iv ch0] []))) st3 ?_
    obtain ⟨L3, X3, N3⟩ := own_abs X3 (Fr.snoc X3 N0 g0)
    have F4 : n0 ≤ h3.size := by rw [W3.size]; exact Z0
    have F5 := Keep.wr K0 W3 (Or.inl (List.mem_of_getElem? (i := 0) rfl))
    have F6 := own_Ar_other V0 W3 nvd
    refine own_go (B := (T3.setTop (mkF m 35 #[rv pv, iv (1 : Int32), rv pd, iv (0 : Int32), iv (2 : Int32), iv (0 : Int32), iv ch0] []))) (fun t k => XS.iinc X3.here hx rfl (hb hby own_k5_2_d32) rfl (l' := #[rv pv, iv (1 : Int32), rv pd, iv (0 : Int32), iv (2 : Int32), iv (0 : Int32), iv ch0]) rfl k) ?_
    refine own_go (B := (T3.setTop (mkF m 38 #[rv pv, iv (1 : Int32), rv pd, iv (1 : Int32), iv (2 : Int32), iv (0 : Int32), iv ch0] []))) (fun t k => XS.iinc X3.here hx rfl (hb hby own_k5_2_d35) rfl (l' := #[rv pv, iv (1 : Int32), rv pd, iv (1 : Int32), iv (2 : Int32), iv (0 : Int32), iv ch0]) rfl k) ?_
    refine own_go (B := (T3.setTop (mkF m 41 #[rv pv, iv (1 : Int32), rv pd, iv (1 : Int32), iv (2 : Int32), iv (1 : Int32), iv ch0] []))) (fun t k => XS.iinc X3.here hx rfl (hb hby own_k5_2_d38) rfl (l' := #[rv pv, iv (1 : Int32), rv pd, iv (1 : Int32), iv (2 : Int32), iv (1 : Int32), iv ch0]) rfl k) ?_
    refine own_go (B := (T3.setTop (mkF m 3 #[rv pv, iv (1 : Int32), rv pd, iv (1 : Int32), iv (2 : Int32), iv (1 : Int32), iv ch0] []))) (fun t k => XS.goto X3.here hx rfl (pc0 := 41) (pc' := 3) rfl (hb hby own_k5_2_d41) (by decide) (by decide) k) ?_
    refine own_go (B := (T3.setTop (mkF m 5 #[rv pv, iv (1 : Int32), rv pd, iv (1 : Int32), iv (2 : Int32), iv (1 : Int32), iv ch0] [(.int (1 : Int32))]))) (fun t k => XS.iload X3.here hx rfl (hb hby own_k5_2_d3) rfl k) ?_
    refine own_go (B := (T3.setTop (mkF m 7 #[rv pv, iv (1 : Int32), rv pd, iv (1 : Int32), iv (2 : Int32), iv (1 : Int32), iv ch0] [(.int (2 : Int32)), (.int (1 : Int32))]))) (fun t k => XS.iload X3.here hx rfl (hb hby own_k5_2_d5) rfl k) ?_
    have hc_8 : (1 : Int32) < (2 : Int32) := (by decide)
    refine own_icmpN X3 hx (hb hby own_k5_2_d7) (pn := 10) rfl hc_8 ?_
    refine own_go (B := (T3.setTop (mkF m 11 #[rv pv, iv (1 : Int32), rv pd, iv (1 : Int32), iv (2 : Int32), iv (1 : Int32), iv ch0] [(.ref pv)]))) (fun t k => XS.aloadN X3.here hx rfl (hb hby own_k5_2_d10) rfl rfl k) ?_
    refine own_go (B := (T3.setTop (mkF m 12 #[rv pv, iv (1 : Int32), rv pd, iv (1 : Int32), iv (2 : Int32), iv (1 : Int32), iv ch0] [(.int (1 : Int32)), (.ref pv)]))) (fun t k => XS.iloadN X3.here hx rfl (hb hby own_k5_2_d11) rfl k) ?_
    refine own_go (B := (T3.setTop (mkF m 13 #[rv pv, iv (1 : Int32), rv pd, iv (1 : Int32), iv (2 : Int32), iv (1 : Int32), iv ch0] [(.int ch1)]))) (own_ldC X3 hx hZ e3 F6 (v := (.int ch1)) (by decide) rfl (g := (mkF m 12 #[rv pv, iv (1 : Int32), rv pd, iv (1 : Int32), iv (2 : Int32), iv (1 : Int32), iv ch0] [(.int (1 : Int32)), (.ref pv)])) rfl rfl (hb hby own_k5_2_d12)) ?_
    refine own_go (B := (T3.setTop (mkF m 15 #[rv pv, iv (1 : Int32), rv pd, iv (1 : Int32), iv (2 : Int32), iv (1 : Int32), iv ch1] []))) (fun t k => XS.istore X3.here hx rfl (hb hby own_k5_2_d13) rfl (l' := #[rv pv, iv (1 : Int32), rv pd, iv (1 : Int32), iv (2 : Int32), iv (1 : Int32), iv ch1]) rfl k) ?_
    refine own_go (B := (T3.setTop (mkF m 17 #[rv pv, iv (1 : Int32), rv pd, iv (1 : Int32), iv (2 : Int32), iv (1 : Int32), iv ch1] [(.int ch1)]))) (fun t k => XS.iload X3.here hx rfl (hb hby own_k5_2_d15) rfl k) ?_
    refine own_go (B := (T3.setTop (mkF m 20 #[rv pv, iv (1 : Int32), rv pd, iv (1 : Int32), iv (2 : Int32), iv (1 : Int32), iv ch1] [(.int (255 : Int32)), (.int ch1)]))) (fun t k => own_sipush (v := (255 : Int32)) X3.here hx rfl (hb hby own_k5_2_d17) (by decide) k) ?_
    refine own_icmp X3 hx (hb hby own_k5_2_d20) (pc' := 26) (pn := 23) (by decide) (by decide) rfl (fun (hc_9 : ¬ (255 : Int32) < ch1) => ?_) (fun (hc_9 : (255 : Int32) < ch1) => ?_)
    · refine own_go (B := (T3.setTop (mkF m 27 #[rv pv, iv (1 : Int32), rv pd, iv (1 : Int32), iv (2 : Int32), iv (1 : Int32), iv ch1] [(.ref pd)]))) (fun t k => XS.aloadN X3.here hx rfl (hb hby own_k5_2_d26) rfl rfl k) ?_
      refine own_go (B := (T3.setTop (mkF m 28 #[rv pv, iv (1 : Int32), rv pd, iv (1 : Int32), iv (2 : Int32), iv (1 : Int32), iv ch1] [(.int (1 : Int32)), (.ref pd)]))) (fun t k => XS.iloadN X3.here hx rfl (hb hby own_k5_2_d27) rfl k) ?_
      refine own_go (B := (T3.setTop (mkF m 30 #[rv pv, iv (1 : Int32), rv pd, iv (1 : Int32), iv (2 : Int32), iv (1 : Int32), iv ch1] [(.int ch1), (.int (1 : Int32)), (.ref pd)]))) (fun t k => XS.iload X3.here hx rfl (hb hby own_k5_2_d28) rfl k) ?_
      refine own_go (B := (T3.setTop (mkF m 31 #[rv pv, iv (1 : Int32), rv pd, iv (1 : Int32), iv (2 : Int32), iv (1 : Int32), iv ch1] [(.int (ch1.toInt8.toInt32)), (.int (1 : Int32)), (.ref pd)]))) (fun t k => XS.i2b X3.here hx rfl (hb hby own_k5_2_d30) rfl k) ?_
      obtain ⟨T10, h10, X10, e10, W10, V10, st10⟩ := own_stB X3 hx hZ e3 V3 (i := 1) (by decide) (by decide) (Nat.lt_of_lt_of_eq (by decide : 1 < 2) rfl) (own_i2b _) (L' := [(.int (ch0.toInt8.toInt32)), (.int (ch1.toInt8.toInt32))]) rfl (g := (mkF m 31 #[rv pv, iv (1 : Int32), rv pd, iv (1 : Int32), iv (2 : Int32), iv (1 : Int32), iv ch1] [(.int (ch1.toInt8.toInt32)), (.int (1 : Int32)), (.ref pd)])) rfl rfl (hb hby own_k5_2_d31)
      refine own_go (B := (T10.setTop (mkF m 32 #[rv pv, iv (1 : Int32), rv pd, iv (1 : Int32), iv (2 : Int32), iv (1 : Int32), iv ch1] []))) st10 ?_
      obtain ⟨L10, X10, N10⟩ := own_abs X10 (Fr.snoc X10 N3 g0)
      have F11 : n0 ≤ h10.size := by rw [W10.size]; exact F4
      have F12 := Keep.wr F5 W10 (Or.inl (List.mem_of_getElem? (i := 0) rfl))
      have F13 := own_Ar_other F6 W10 nvd
      refine own_go (B := (T10.setTop (mkF m 35 #[rv pv, iv (2 : Int32), rv pd, iv (1 : Int32), iv (2 : Int32), iv (1 : Int32), iv ch1] []))) (fun t k => XS.iinc X10.here hx rfl (hb hby own_k5_2_d32) rfl (l' := #[rv pv, iv (2 : Int32), rv pd, iv (1 : Int32), iv (2 : Int32), iv (1 : Int32), iv ch1]) rfl k) ?_
      refine own_go (B := (T10.setTop (mkF m 38 #[rv pv, iv (2 : Int32), rv pd, iv (2 : Int32), iv (2 : Int32), iv (1 : Int32), iv ch1] []))) (fun t k => XS.iinc X10.here hx rfl (hb hby own_k5_2_d35) rfl (l' := #[rv pv, iv (2 : Int32), rv pd, iv (2 : Int32), iv (2 : Int32), iv (1 : Int32), iv ch1]) rfl k) ?_
      refine own_go (B := (T10.setTop (mkF m 41 #[rv pv, iv (2 : Int32), rv pd, iv (2 : Int32), iv (2 : Int32), iv (2 : Int32), iv ch1] []))) (fun t k => XS.iinc X10.here hx rfl (hb hby own_k5_2_d38) rfl (l' := #[rv pv, iv (2 : Int32), rv pd, iv (2 : Int32), iv (2 : Int32), iv (2 : Int32), iv ch1]) rfl k) ?_
      refine own_go (B := (T10.setTop (mkF m 3 #[rv pv, iv (2 : Int32), rv pd, iv (2 : Int32), iv (2 : Int32), iv (2 : Int32), iv ch1] []))) (fun t k => XS.goto X10.here hx rfl (pc0 := 41) (pc' := 3) rfl (hb hby own_k5_2_d41) (by decide) (by decide) k) ?_
      refine own_go (B := (T10.setTop (mkF m 5 #[rv pv, iv (2 : Int32), rv pd, iv (2 : Int32), iv (2 : Int32), iv (2 : Int32), iv ch1] [(.int (2 : Int32))]))) (fun t k => XS.iload X10.here hx rfl (hb hby own_k5_2_d3) rfl k) ?_
      refine own_go (B := (T10.setTop (mkF m 7 #[rv pv, iv (2 : Int32), rv pd, iv (2 : Int32), iv (2 : Int32), iv (2 : Int32), iv ch1] [(.int (2 : Int32)), (.int (2 : Int32))]))) (fun t k => XS.iload X10.here hx rfl (hb hby own_k5_2_d5) rfl k) ?_
      have hc_15 : ¬ (2 : Int32) < (2 : Int32) := (by decide)
      refine own_icmpY X10 hx (hb hby own_k5_2_d7) (pc' := 44) (by decide) (by decide) hc_15 ?_
      refine own_go (B := (T10.setTop (mkF m 46 #[rv pv, iv (2 : Int32), rv pd, iv (2 : Int32), iv (2 : Int32), iv (2 : Int32), iv ch1] [(.int (2 : Int32))]))) (fun t k => XS.iload X10.here hx rfl (hb hby own_k5_2_d44) rfl k) ?_
      exact own_retI X10 hx hlk Bd.returns (hb hby own_k5_2_d46) (own_b rfl) (own_b rfl) (Q := (own_k5_2_Q Z pv pd ch0 ch1 h0 n0)) (by rw [e10]; exact ⟨_, [(.int (ch0.toInt8.toInt32)), (.int (ch1.toInt8.toInt32))], rfl, N10, F12, V10, rfl, Or.inl rfl⟩)
    · refine own_go (B := (T3.setTop (mkF m 25 #[rv pv, iv (1 : Int32), rv pd, iv (1 : Int32), iv (2 : Int32), iv (1 : Int32), iv ch1] [(.int (1 : Int32))]))) (fun t k => XS.iload X3.here hx rfl (hb hby own_k5_2_d23) rfl k) ?_
      exact own_retI X3 hx hlk Bd.returns (hb hby own_k5_2_d25) (own_b rfl) (own_b rfl) (Q := (own_k5_2_Q Z pv pd ch0 ch1 h0 n0)) (by rw [e3]; exact ⟨_, [(.int (ch0.toInt8.toInt32)), (.int (0 : Int32))], rfl, N3, F5, V3, rfl, Or.inr (Or.inr (⟨rfl, hc_9⟩))⟩)
  · refine own_go (B := (s₁.setTop (mkF m 25 #[rv pv, iv (0 : Int32), rv pd, iv (0 : Int32), iv (2 : Int32), iv (0 : Int32), iv ch0] [(.int (0 : Int32))]))) (fun t k => XS.iload X0.here hx rfl (hb hby own_k5_2_d23) rfl k) ?_
    exact own_retI X0 hx hlk Bd.returns (hb hby own_k5_2_d25) (own_b rfl) (own_b rfl) (Q := (own_k5_2_Q Z pv pd ch0 ch1 h0 n0)) (by rw [e0]; exact ⟨_, [(.int (0 : Int32)), (.int (0 : Int32))], rfl, N0, K0, V1, rfl, Or.inr (Or.inl ⟨rfl, hc_2⟩)⟩)

theorem own_k3_2_d0 : decode jdk_52_method_16_code 0 = .ok (.iload_n 2, 1) := by decide +kernel
theorem own_k3_2_d1 : decode jdk_52_method_16_code 1 = .ok (.newarray .byte, 2) := by decide +kernel
theorem own_k3_2_d3 : decode jdk_52_method_16_code 3 = .ok (.astore_n 3, 1) := by decide +kernel
theorem own_k3_2_d4 : decode jdk_52_method_16_code 4 = .ok (.aload_n 0, 1) := by decide +kernel
theorem own_k3_2_d5 : decode jdk_52_method_16_code 5 = .ok (.iload_n 1, 1) := by decide +kernel
theorem own_k3_2_d6 : decode jdk_52_method_16_code 6 = .ok (.aload_n 3, 1) := by decide +kernel
theorem own_k3_2_d7 : decode jdk_52_method_16_code 7 = .ok (.iconst 0, 1) := by decide +kernel
theorem own_k3_2_d8 : decode jdk_52_method_16_code 8 = .ok (.iload_n 2, 1) := by decide +kernel
theorem own_k3_2_d9 : decode jdk_52_method_16_code 9 = .ok (.invokestatic 115, 3) := by decide +kernel
theorem own_k3_2_d12 : decode jdk_52_method_16_code 12 = .ok (.istore 4, 2) := by decide +kernel
theorem own_k3_2_d14 : decode jdk_52_method_16_code 14 = .ok (.iload 4, 2) := by decide +kernel
theorem own_k3_2_d16 : decode jdk_52_method_16_code 16 = .ok (.iload_n 2, 1) := by decide +kernel
theorem own_k3_2_d17 : decode jdk_52_method_16_code 17 = .ok (.if_icmp .eq 40, 3) := by decide +kernel
theorem own_k3_2_d20 : decode jdk_52_method_16_code 20 = .ok (.aload_n 0, 1) := by decide +kernel
theorem own_k3_2_d21 : decode jdk_52_method_16_code 21 = .ok (.iload_n 1, 1) := by decide +kernel
theorem own_k3_2_d22 : decode jdk_52_method_16_code 22 = .ok (.iload_n 2, 1) := by decide +kernel
theorem own_k3_2_d23 : decode jdk_52_method_16_code 23 = .ok (.invokestatic 119, 3) := by decide +kernel
theorem own_k3_2_d26 : decode jdk_52_method_16_code 26 = .ok (.astore 5, 2) := by decide +kernel
theorem own_k3_2_d28 : decode jdk_52_method_16_code 28 = .ok (.aload 5, 2) := by decide +kernel
theorem own_k3_2_d30 : decode jdk_52_method_16_code 30 = .ok (.iload 4, 2) := by decide +kernel
theorem own_k3_2_d32 : decode jdk_52_method_16_code 32 = .ok (.invokestatic 71, 3) := by decide +kernel
theorem own_k3_2_d35 : decode jdk_52_method_16_code 35 = .ok (.sipush 255, 3) := by decide +kernel
theorem own_k3_2_d38 : decode jdk_52_method_16_code 38 = .ok (.if_icmp .gt 16, 3) := by decide +kernel
theorem own_k3_2_d54 : decode jdk_52_method_16_code 54 = .ok (.aload 5, 2) := by decide +kernel
theorem own_k3_2_d56 : decode jdk_52_method_16_code 56 = .ok (.areturn, 1) := by decide +kernel
theorem own_k3_2_d57 : decode jdk_52_method_16_code 57 = .ok (.aload_n 3, 1) := by decide +kernel
theorem own_k3_2_d58 : decode jdk_52_method_16_code 58 = .ok (.areturn, 1) := by decide +kernel
theorem own_k3_2_pn : plainName "java/lang/StringUTF16" = true := by first | (simp [plainName, overriddenIn]; done) | decide +kernel
theorem own_k3_2_ef (m : MethodId) (pv : Addr) : entryFrame m #[(.ref pv), (.int (0 : Int32)), (.int (2 : Int32))] 6 = mkF m 0 #[rv pv, iv (0 : Int32), iv (2 : Int32), .unset, .unset, .unset] [] := by first | (simp [entryFrame, mkF, argsToLocals, Value.category]; done) | rfl
def own_k3_2_Q (Z : State) (pv : Addr) (ch0 ch1 : Int32) (h0 : Heap) (n0 : Nat) (v : Option Value) (h : Heap) (L : List Loc) : Prop := ∃ b Lb, v = some (.ref b) ∧ Fr n0 L ∧ Keep h0 h [] ∧ own_Ar Z h b .byte Lb ∧ (Lb.length = 2 ∨ Lb.length = 4)
set_option maxRecDepth 65536 in
set_option maxHeartbeats 40000000 in
theorem own_k3_2 (l : Launch) (Z : State) (a0 : Array Value) (hw : ∀ d ∈ tables_1, d.before a0 Z = true) (ws : List Jvm.Cond) (pv : Addr) (ch0 ch1 : Int32) (h0 : Heap) (n0 : Nat) (Z0 : n0 ≤ h0.size) (V0 : own_Ar Z h0 pv .char [(.int ch0), (.int ch1)]) (hn0 : nar .char ch0 = ch0) (hn1 : nar .char ch1 = ch1) (hSa : Sta Z h0 "java/lang/StringUTF16" "$assertionsDisabled" "Z" (.int (1 : Int32))) (hSh : Sta Z h0 "java/lang/StringUTF16" "HI_BYTE_SHIFT" "I" (.int (0 : Int32))) (hSl : Sta Z h0 "java/lang/StringUTF16" "LO_BYTE_SHIFT" "I" (.int (8 : Int32))) :
    MetFree l own_y7 (head1 (Jvm.Cond.code own_y7 jdk_52_method_16_code 6 (some (.array .byte)) :: ws) ({ frames := 3, cells := 2, slots := 6, locals := 40 } : Room)) (fun a U => a = #[(.ref pv), (.int (0 : Int32)), (.int (2 : Int32))] ∧ Z.Warmed39 U.vm ∧ U.heap = h0) (fun _ _ _ _ _ => True) (fun _ U o U' => ∃ v L, o = .returned v ∧ (own_k3_2_Q Z pv ch0 ch1 h0 n0) v U'.heap L ∧ FrameEnd U o U' L ({ frames := 3, cells := 2, slots := 6, locals := 40 } : Room).cells ({ frames := 3, cells := 2, slots := 6, locals := 40 } : Room).slots) := by
  refine MetFree.of_bodySF (plainFor_of_name own_k3_2_pn) hisR ?_
  intro p e s m args below meth c s₁ Bd hml0 hP hK
  obtain ⟨rfl, hZ, hh⟩ := hP
  have hx := Bd.exec
  have hby := Bd.bytes
  have hml : c.maxLocals = 6 := hml0
  have hown : s.vm.findClass "java/lang/StringUTF16" = some m.cls := findClass_of_methodNamed Bd.named
  have hnm := (name_of_methodNamed Bd.named Bd.method).1
  have hlk : meth.locks = false := Bd.notSynchronized
  have X0 : Stand p l e ({ frames := 3, cells := 2, slots := 6, locals := 40 } : Room) s m #[(.ref pv), (.int (0 : Int32)), (.int (2 : Int32))] below meth c s₁ [] 0 0 := Stand.of_body Bd
  have e0 : s₁.heap = h0 := by rw [← hh, Bd.state]; rfl
  have N0 := Fr.nil n0
  have w_16 := hw _ (List.mem_of_getElem? (l := tables_1) (i := 16) rfl)
  have w_40 := hw _ (List.mem_of_getElem? (l := tables_1) (i := 40) rfl)
  have w_42 := hw _ (List.mem_of_getElem? (l := tables_1) (i := 42) rfl)
  have w_43 := hw _ (List.mem_of_getElem? (l := tables_1) (i := 43) rfl)
  have w_44 := hw _ (List.mem_of_getElem? (l := tables_1) (i := 44) rfl)
  have w_76 := hw _ (List.mem_of_getElem? (l := tables_1) (i := 76) rfl)
  have w_77 := hw _ (List.mem_of_getElem? (l := tables_1) (i := 77) rfl)
  have w_78 := hw _ (List.mem_of_getElem? (l := tables_1) (i := 78) rfl)
  have w_86 := hw _ (List.mem_of_getElem? (l := tables_1) (i := 86) rfl)
  have w_87 := hw _ (List.mem_of_getElem? (l := tables_1) (i := 87) rfl)
  have w_88 := hw _ (List.mem_of_getElem? (l := tables_1) (i := 88) rfl)
  show own_G p.tables e below (fun o U' => ∃ v L, o = .returned v ∧ (own_k3_2_Q Z pv ch0 ch1 h0 n0) v U'.heap L ∧ FrameEnd s o U' L ({ frames := 3, cells := 2, slots := 6, locals := 40 } : Room).cells ({ frames := 3, cells := 2, slots := 6, locals := 40 } : Room).slots) (s₁.setTop (entryFrame m #[(.ref pv), (.int (0 : Int32)), (.int (2 : Int32))] 6))
  refine own_go (B := s₁.setTop (mkF m 0 #[rv pv, iv (0 : Int32), iv (2 : Int32), .unset, .unset, .unset] [])) (fun t k => castTop (own_k3_2_ef m pv) k) ?_
  have K0 := Keep.refl h0 []
  refine own_go (B := (s₁.setTop (mkF m 1 #[rv pv, iv (0 : Int32), iv (2 : Int32), .unset, .unset, .unset] [(.int (2 : Int32))]))) (fun t k => XS.iloadN X0.here hx rfl (hb hby own_k3_2_d0) rfl k) ?_
  obtain ⟨T1, h1, c1, X1, e1, E1, A1, st1⟩ := newP X0 hx hZ (aty := .byte) w_16 e0 (g := (mkF m 1 #[rv pv, iv (0 : Int32), iv (2 : Int32), .unset, .unset, .unset] [(.int (2 : Int32))])) rfl (hb hby own_k3_2_d1) rfl (by decide) (cap := 2) (by decide) (by decide) (own_b rfl) (own_b rfl)
  obtain ⟨a1, ga1⟩ : ∃ z, z = h0.size := ⟨_, rfl⟩
  rw [← ga1] at A1 st1
  refine own_go (B := (T1.setTop (mkF m 3 #[rv pv, iv (0 : Int32), iv (2 : Int32), .unset, .unset, .unset] [(.ref a1)]))) st1 ?_
  have Z2 : n0 ≤ h1.size := Nat.le_trans Z0 E1.1
  have K3 := Keep.ext K0 E1
  have V4 := own_Ar_ext V0 E1
  have F5 := Sta.ext E1 hSa
  have F6 := Sta.ext E1 hSh
  have F7 := Sta.ext E1 hSl
  have gn1 : n0 ≤ a1 := Nat.le_trans Z0 (Nat.le_of_eq ga1.symm)
  have ne1_pv : a1 ≠ pv := fun q => absurd (own_Ar_lt V0) (by rw [← q, ga1]; exact Nat.lt_irrefl _)
  have V1 : own_Ar Z h1 a1 .byte [(.int (0 : Int32)), (.int (0 : Int32))] := own_Ar_new A1 (N := 2) (by decide) rfl
  refine own_go (B := (T1.setTop (mkF m 4 #[rv pv, iv (0 : Int32), iv (2 : Int32), rv a1, .unset, .unset] []))) (fun t k => XS.astoreN X1.here hx rfl (hb hby own_k3_2_d3) rfl rfl (l' := #[rv pv, iv (0 : Int32), iv (2 : Int32), rv a1, .unset, .unset]) rfl k) ?_
  refine own_go (B := (T1.setTop (mkF m 5 #[rv pv, iv (0 : Int32), iv (2 : Int32), rv a1, .unset, .unset] [(.ref pv)]))) (fun t k => XS.aloadN X1.here hx rfl (hb hby own_k3_2_d4) rfl rfl k) ?_
  refine own_go (B := (T1.setTop (mkF m 6 #[rv pv, iv (0 : Int32), iv (2 : Int32), rv a1, .unset, .unset] [(.int (0 : Int32)), (.ref pv)]))) (fun t k => XS.iloadN X1.here hx rfl (hb hby own_k3_2_d5) rfl k) ?_
  refine own_go (B := (T1.setTop (mkF m 7 #[rv pv, iv (0 : Int32), iv (2 : Int32), rv a1, .unset, .unset] [(.ref a1), (.int (0 : Int32)), (.ref pv)]))) (fun t k => XS.aloadN X1.here hx rfl (hb hby own_k3_2_d6) rfl rfl k) ?_
  refine own_go (B := (T1.setTop (mkF m 8 #[rv pv, iv (0 : Int32), iv (2 : Int32), rv a1, .unset, .unset] [(.int (0 : Int32)), (.ref a1), (.int (0 : Int32)), (.ref pv)]))) (fun t k => own_iconst (v := (0 : Int32)) X1.here hx rfl (hb hby own_k3_2_d7) (by decide) k) ?_
  refine own_go (B := (T1.setTop (mkF m 9 #[rv pv, iv (0 : Int32), iv (2 : Int32), rv a1, .unset, .unset] [(.int (2 : Int32)), (.int (0 : Int32)), (.ref a1), (.int (0 : Int32)), (.ref pv)]))) (fun t k => XS.iloadN X1.here hx rfl (hb hby own_k3_2_d8) rfl k) ?_
  obtain ⟨_, _, ⟨T8, L8, k8, n8⟩, -, X8, ⟨Lc8, hQ8, l8, yy8, zz8⟩, st8⟩ := Jvm.LawKit.callS X1 hx (y := own_y4) hown (mvT hZ w_42) (mvT hZ w_43) (mvT hZ w_40) (mvT hZ w_44) (by decide) (backOf (W := 0) (own_k5_2 l Z a0 hw [] pv a1 ch0 ch1 h1 n0 Z2 gn1 V4 V1 (Ne.symm ne1_pv)) hZ w_44 w_40 (by decide) (by decide)) (g := (mkF m 9 #[rv pv, iv (0 : Int32), iv (2 : Int32), rv a1, .unset, .unset] [(.int (2 : Int32)), (.int (0 : Int32)), (.ref a1), (.int (0 : Int32)), (.ref pv)])) rfl (by rw [hml]; rfl) (argsL := [(.ref pv), (.int (0 : Int32)), (.ref a1), (.int (0 : Int32)), (.int (2 : Int32))]) (rest := []) (lenOf own_pd4 rfl) rfl (by show 2 * 0 + _ ≤ _; exact own_b rfl) (hb hby own_k3_2_d9) (fun _ _ => ⟨rfl, e1, (own_b rfl : 1 + 0 ≤ _), (own_b rfl : 2 + 0 ≤ _)⟩)
  dsimp only [Pt.U, Pt.locs, Pt.cells, Pt.slots] at X8 l8 yy8 zz8 st8 hQ8
  obtain ⟨r8, Ld8, rfl, Nq8, K8, gv8, gl8, gd8⟩ := hQ8
  obtain ⟨L8, X8, N8⟩ := own_absC (K := 1) (K' := 2) X8 l8 yy8 zz8 N0 Nq8
  have F9 : n0 ≤ T8.heap.size := Nat.le_trans Z2 K8.1
  have F10 := Keep.trans K3 K8 (allS (Or.inr (Nat.le_trans K0.1 (Nat.le_of_eq ga1.symm))) all0)
  have F11 := own_Ar_keep V4 K8 (ninS (Ne.symm ne1_pv) nin0)
  have F12 := own_sta_keep F5 K8 (nsS (own_Ar_ns V1) ns0)
  have F13 := own_sta_keep F6 K8 (nsS (own_Ar_ns V1) ns0)
  have F14 := own_sta_keep F7 K8 (nsS (own_Ar_ns V1) ns0)
  refine own_go (B := (T8.setTop (mkF m 12 #[rv pv, iv (0 : Int32), iv (2 : Int32), rv a1, .unset, .unset] [(.int r8)]))) st8 ?_
  rcases gd8 with rfl | ⟨rfl, hcc⟩ | ⟨rfl, hcc⟩
  · refine own_go (B := (T8.setTop (mkF m 14 #[rv pv, iv (0 : Int32), iv (2 : Int32), rv a1, iv (2 : Int32), .unset] []))) (fun t k => XS.istore X8.here hx rfl (hb hby own_k3_2_d12) rfl (l' := #[rv pv, iv (0 : Int32), iv (2 : Int32), rv a1, iv (2 : Int32), .unset]) rfl k) ?_
    refine own_go (B := (T8.setTop (mkF m 16 #[rv pv, iv (0 : Int32), iv (2 : Int32), rv a1, iv (2 : Int32), .unset] [(.int (2 : Int32))]))) (fun t k => XS.iload X8.here hx rfl (hb hby own_k3_2_d14) rfl k) ?_
    refine own_go (B := (T8.setTop (mkF m 17 #[rv pv, iv (0 : Int32), iv (2 : Int32), rv a1, iv (2 : Int32), .unset] [(.int (2 : Int32)), (.int (2 : Int32))]))) (fun t k => XS.iloadN X8.here hx rfl (hb hby own_k3_2_d16) rfl k) ?_
    have hc17 : (2 : Int32) = (2 : Int32) := (by decide)
    refine own_icmpY X8 hx (hb hby own_k3_2_d17) (pc' := 57) (by decide) (by decide) hc17 ?_
    refine own_go (B := (T8.setTop (mkF m 58 #[rv pv, iv (0 : Int32), iv (2 : Int32), rv a1, iv (2 : Int32), .unset] [(.ref a1)]))) (fun t k => XS.aloadN X8.here hx rfl (hb hby own_k3_2_d57) rfl rfl k) ?_
    exact own_retA X8 hx hlk Bd.returns rfl rfl (hb hby own_k3_2_d58) (own_b rfl) (own_b rfl) (Q := (own_k3_2_Q Z pv ch0 ch1 h0 n0)) ⟨_, Ld8, rfl, N8, F10, gv8, Or.inl gl8⟩
  · refine own_go (B := (T8.setTop (mkF m 14 #[rv pv, iv (0 : Int32), iv (2 : Int32), rv a1, iv (0 : Int32), .unset] []))) (fun t k => XS.istore X8.here hx rfl (hb hby own_k3_2_d12) rfl (l' := #[rv pv, iv (0 : Int32), iv (2 : Int32), rv a1, iv (0 : Int32), .unset]) rfl k) ?_
    refine own_go (B := (T8.setTop (mkF m 16 #[rv pv, iv (0 : Int32), iv (2 : Int32), rv a1, iv (0 : Int32), .unset] [(.int (0 : Int32))]))) (fun t k => XS.iload X8.here hx rfl (hb hby own_k3_2_d14) rfl k) ?_
    refine own_go (B := (T8.setTop (mkF m 17 #[rv pv, iv (0 : Int32), iv (2 : Int32), rv a1, iv (0 : Int32), .unset] [(.int (2 : Int32)), (.int (0 : Int32))]))) (fun t k => XS.iloadN X8.here hx rfl (hb hby own_k3_2_d16) rfl k) ?_
    have hc17 : ¬ (0 : Int32) = (2 : Int32) := (by decide)
    refine own_icmpN X8 hx (hb hby own_k3_2_d17) (pn := 20) rfl hc17 ?_
    refine own_go (B := (T8.setTop (mkF m 21 #[rv pv, iv (0 : Int32), iv (2 : Int32), rv a1, iv (0 : Int32), .unset] [(.ref pv)]))) (fun t k => XS.aloadN X8.here hx rfl (hb hby own_k3_2_d20) rfl rfl k) ?_
    refine own_go (B := (T8.setTop (mkF m 22 #[rv pv, iv (0 : Int32), iv (2 : Int32), rv a1, iv (0 : Int32), .unset] [(.int (0 : Int32)), (.ref pv)]))) (fun t k => XS.iloadN X8.here hx rfl (hb hby own_k3_2_d21) rfl k) ?_
    refine own_go (B := (T8.setTop (mkF m 23 #[rv pv, iv (0 : Int32), iv (2 : Int32), rv a1, iv (0 : Int32), .unset] [(.int (2 : Int32)), (.int (0 : Int32)), (.ref pv)]))) (fun t k => XS.iloadN X8.here hx rfl (hb hby own_k3_2_d22) rfl k) ?_
    obtain ⟨_, _, ⟨T16, L16, k16, n16⟩, -, X16, ⟨Lc16, hQ16, l16, yy16, zz16⟩, st16⟩ := Jvm.LawKit.callS X8 hx (y := own_y5) hown (mvT hZ w_76) (mvT hZ w_77) (mvT hZ w_40) (mvT hZ w_78) (by decide) (backOf (W := 0) (own_tb2 l Z a0 hw [] pv ch0 ch1 T8.heap n0 F9 F11 F12 F13 F14) hZ w_78 w_40 (by decide) (by decide)) (g := (mkF m 23 #[rv pv, iv (0 : Int32), iv (2 : Int32), rv a1, iv (0 : Int32), .unset] [(.int (2 : Int32)), (.int (0 : Int32)), (.ref pv)])) rfl (by rw [hml]; rfl) (argsL := [(.ref pv), (.int (0 : Int32)), (.int (2 : Int32))]) (rest := []) (lenOf own_pd5 rfl) rfl (by show 2 * 0 + _ ≤ _; exact own_b rfl) (hb hby own_k3_2_d23) (fun _ _ => ⟨rfl, rfl, (own_b rfl : 1 + 1 ≤ _), (own_b rfl : 2 + 4 ≤ _)⟩)
    dsimp only [Pt.U, Pt.locs, Pt.cells, Pt.slots] at X16 l16 yy16 zz16 st16 hQ16
    obtain ⟨b16, rfl, Nq16, K16, gz16, gv16⟩ := hQ16
    obtain ⟨L16, X16, N16⟩ := own_absC (K := 2) (K' := 6) X16 l16 yy16 zz16 N8 Nq16
    have gn_b16 : n0 ≤ b16 := Nat.le_trans F9 gz16
    have nb16_pv : b16 ≠ pv := fun q => absurd (own_Ar_lt F11) (by rw [← q]; exact Nat.not_lt.mpr gz16)
    have nb16_a1 : b16 ≠ a1 := fun q => absurd (own_Ar_lt gv8) (by rw [← q]; exact Nat.not_lt.mpr gz16)
    have F17 : n0 ≤ T16.heap.size := Nat.le_trans F9 K16.1
    have F18 := Keep.trans F10 K16 all0
    have F19 := own_Ar_keep F11 K16 nin0
    have F20 := own_sta_keep F12 K16 ns0
    have F21 := own_sta_keep F13 K16 ns0
    have F22 := own_sta_keep F14 K16 ns0
    have F23 := own_Ar_keep gv8 K16 nin0
    refine own_go (B := (T16.setTop (mkF m 26 #[rv pv, iv (0 : Int32), iv (2 : Int32), rv a1, iv (0 : Int32), .unset] [(.ref b16)]))) st16 ?_
    refine own_go (B := (T16.setTop (mkF m 28 #[rv pv, iv (0 : Int32), iv (2 : Int32), rv a1, iv (0 : Int32), rv b16] []))) (fun t k => XS.astore X16.here hx rfl (hb hby own_k3_2_d26) rfl rfl (l' := #[rv pv, iv (0 : Int32), iv (2 : Int32), rv a1, iv (0 : Int32), rv b16]) rfl k) ?_
    refine own_go (B := (T16.setTop (mkF m 30 #[rv pv, iv (0 : Int32), iv (2 : Int32), rv a1, iv (0 : Int32), rv b16] [(.ref b16)]))) (fun t k => XS.aload X16.here hx rfl (hb hby own_k3_2_d28) rfl rfl k) ?_
    refine own_go (B := (T16.setTop (mkF m 32 #[rv pv, iv (0 : Int32), iv (2 : Int32), rv a1, iv (0 : Int32), rv b16] [(.int (0 : Int32)), (.ref b16)]))) (fun t k => XS.iload X16.here hx rfl (hb hby own_k3_2_d30) rfl k) ?_
    obtain ⟨_, _, ⟨T24, L24, k24, n24⟩, -, X24, ⟨Lc24, hQ24, l24, yy24, zz24⟩, st24⟩ := Jvm.LawKit.callS X16 hx (y := own_y6) hown (mvT hZ w_86) (mvT hZ w_87) (mvT hZ w_40) (mvT hZ w_88) (by decide) (backOf (W := 0) (own_gc2_0 l Z a0 hw [] b16 ((ch0 >>> ((0 : Int32) &&& 31)).toInt8.toInt32) ((ch0 >>> ((8 : Int32) &&& 31)).toInt8.toInt32) ((ch1 >>> ((0 : Int32) &&& 31)).toInt8.toInt32) ((ch1 >>> ((8 : Int32) &&& 31)).toInt8.toInt32) T16.heap n0 gv16 F20 F21 F22) hZ w_88 w_40 (by decide) (by decide)) (g := (mkF m 32 #[rv pv, iv (0 : Int32), iv (2 : Int32), rv a1, iv (0 : Int32), rv b16] [(.int (0 : Int32)), (.ref b16)])) rfl (by rw [hml]; rfl) (argsL := [(.ref b16), (.int (0 : Int32))]) (rest := []) (lenOf own_pd6 rfl) rfl (by show 2 * 0 + _ ≤ _; exact own_b rfl) (hb hby own_k3_2_d32) (fun _ _ => ⟨rfl, rfl, (own_b rfl : 2 + 0 ≤ _), (own_b rfl : 6 + 0 ≤ _)⟩)
    dsimp only [Pt.U, Pt.locs, Pt.cells, Pt.slots] at X24 l24 yy24 zz24 st24 hQ24
    obtain ⟨rfl, Nq24, eq24⟩ := hQ24
    obtain ⟨L24, X24, N24⟩ := own_absC (K := 2) (K' := 6) X24 l24 yy24 zz24 N16 Nq24
    have e24 : T24.heap = T16.heap := eq24
    refine own_go (B := (T24.setTop (mkF m 35 #[rv pv, iv (0 : Int32), iv (2 : Int32), rv a1, iv (0 : Int32), rv b16] [(.int ((((((ch0 >>> ((0 : Int32) &&& 31)).toInt8.toInt32) &&& (255 : Int32)) <<< ((0 : Int32) &&& 31)) ||| ((((ch0 >>> ((8 : Int32) &&& 31)).toInt8.toInt32) &&& (255 : Int32)) <<< ((8 : Int32) &&& 31))).toUInt32.toUInt16.toUInt32.toInt32))]))) st24 ?_
    refine own_go (B := (T24.setTop (mkF m 38 #[rv pv, iv (0 : Int32), iv (2 : Int32), rv a1, iv (0 : Int32), rv b16] [(.int (255 : Int32)), (.int ((((((ch0 >>> ((0 : Int32) &&& 31)).toInt8.toInt32) &&& (255 : Int32)) <<< ((0 : Int32) &&& 31)) ||| ((((ch0 >>> ((8 : Int32) &&& 31)).toInt8.toInt32) &&& (255 : Int32)) <<< ((8 : Int32) &&& 31))).toUInt32.toUInt16.toUInt32.toInt32))]))) (fun t k => own_sipush (v := (255 : Int32)) X24.here hx rfl (hb hby own_k3_2_d35) (by decide) k) ?_
    have hc38 : (255 : Int32) < ((((((ch0 >>> ((0 : Int32) &&& 31)).toInt8.toInt32) &&& (255 : Int32)) <<< ((0 : Int32) &&& 31)) ||| ((((ch0 >>> ((8 : Int32) &&& 31)).toInt8.toInt32) &&& (255 : Int32)) <<< ((8 : Int32) &&& 31))).toUInt32.toUInt16.toUInt32.toInt32) := (own_gc hn0 hcc)
    refine own_icmpY X24 hx (hb hby own_k3_2_d38) (pc' := 54) (by decide) (by decide) hc38 ?_
    refine own_go (B := (T24.setTop (mkF m 56 #[rv pv, iv (0 : Int32), iv (2 : Int32), rv a1, iv (0 : Int32), rv b16] [(.ref b16)]))) (fun t k => XS.aload X24.here hx rfl (hb hby own_k3_2_d54) rfl rfl k) ?_
    exact own_retA X24 hx hlk Bd.returns rfl rfl (hb hby own_k3_2_d56) (own_b rfl) (own_b rfl) (Q := (own_k3_2_Q Z pv ch0 ch1 h0 n0)) (by rw [e24]; exact ⟨_, [(.int ((ch0 >>> ((0 : Int32) &&& 31)).toInt8.toInt32)), (.int ((ch0 >>> ((8 : Int32) &&& 31)).toInt8.toInt32)), (.int ((ch1 >>> ((0 : Int32) &&& 31)).toInt8.toInt32)), (.int ((ch1 >>> ((8 : Int32) &&& 31)).toInt8.toInt32))], rfl, N24, F18, gv16, Or.inr rfl⟩)
  · refine own_go (B := (T8.setTop (mkF m 14 #[rv pv, iv (0 : Int32), iv (2 : Int32), rv a1, iv (1 : Int32), .unset] []))) (fun t k => XS.istore X8.here hx rfl (hb hby own_k3_2_d12) rfl (l' := #[rv pv, iv (0 : Int32), iv (2 : Int32), rv a1, iv (1 : Int32), .unset]) rfl k) ?_
    refine own_go (B := (T8.setTop (mkF m 16 #[rv pv, iv (0 : Int32), iv (2 : Int32), rv a1, iv (1 : Int32), .unset] [(.int (1 : Int32))]))) (fun t k => XS.iload X8.here hx rfl (hb hby own_k3_2_d14) rfl k) ?_
    refine own_go (B := (T8.setTop (mkF m 17 #[rv pv, iv (0 : Int32), iv (2 : Int32), rv a1, iv (1 : Int32), .unset] [(.int (2 : Int32)), (.int (1 : Int32))]))) (fun t k => XS.iloadN X8.here hx rfl (hb hby own_k3_2_d16) rfl k) ?_
    have hc17 : ¬ (1 : Int32) = (2 : Int32) := (by decide)
    refine own_icmpN X8 hx (hb hby own_k3_2_d17) (pn := 20) rfl hc17 ?_
    refine own_go (B := (T8.setTop (mkF m 21 #[rv pv, iv (0 : Int32), iv (2 : Int32), rv a1, iv (1 : Int32), .unset] [(.ref pv)]))) (fun t k => XS.aloadN X8.here hx rfl (hb hby own_k3_2_d20) rfl rfl k) ?_
    refine own_go (B := (T8.setTop (mkF m 22 #[rv pv, iv (0 : Int32), iv (2 : Int32), rv a1, iv (1 : Int32), .unset] [(.int (0 : Int32)), (.ref pv)]))) (fun t k => XS.iloadN X8.here hx rfl (hb hby own_k3_2_d21) rfl k) ?_
    refine own_go (B := (T8.setTop (mkF m 23 #[rv pv, iv (0 : Int32), iv (2 : Int32), rv a1, iv (1 : Int32), .unset] [(.int (2 : Int32)), (.int (0 : Int32)), (.ref pv)]))) (fun t k => XS.iloadN X8.here hx rfl (hb hby own_k3_2_d22) rfl k) ?_
    obtain ⟨_, _, ⟨T25, L25, k25, n25⟩, -, X25, ⟨Lc25, hQ25, l25, yy25, zz25⟩, st25⟩ := Jvm.LawKit.callS X8 hx (y := own_y5) hown (mvT hZ w_76) (mvT hZ w_77) (mvT hZ w_40) (mvT hZ w_78) (by decide) (backOf (W := 0) (own_tb2 l Z a0 hw [] pv ch0 ch1 T8.heap n0 F9 F11 F12 F13 F14) hZ w_78 w_40 (by decide) (by decide)) (g := (mkF m 23 #[rv pv, iv (0 : Int32), iv (2 : Int32), rv a1, iv (1 : Int32), .unset] [(.int (2 : Int32)), (.int (0 : Int32)), (.ref pv)])) rfl (by rw [hml]; rfl) (argsL := [(.ref pv), (.int (0 : Int32)), (.int (2 : Int32))]) (rest := []) (lenOf own_pd5 rfl) rfl (by show 2 * 0 + _ ≤ _; exact own_b rfl) (hb hby own_k3_2_d23) (fun _ _ => ⟨rfl, rfl, (own_b rfl : 1 + 1 ≤ _), (own_b rfl : 2 + 4 ≤ _)⟩)
    dsimp only [Pt.U, Pt.locs, Pt.cells, Pt.slots] at X25 l25 yy25 zz25 st25 hQ25
    obtain ⟨b25, rfl, Nq25, K25, gz25, gv25⟩ := hQ25
    obtain ⟨L25, X25, N25⟩ := own_absC (K := 2) (K' := 6) X25 l25 yy25 zz25 N8 Nq25
    have gn_b25 : n0 ≤ b25 := Nat.le_trans F9 gz25
    have nb25_pv : b25 ≠ pv := fun q => absurd (own_Ar_lt F11) (by rw [← q]; exact Nat.not_lt.mpr gz25)
    have nb25_a1 : b25 ≠ a1 := fun q => absurd (own_Ar_lt gv8) (by rw [← q]; exact Nat.not_lt.mpr gz25)
    have F26 : n0 ≤ T25.heap.size := Nat.le_trans F9 K25.1
    have F27 := Keep.trans F10 K25 all0
    have F28 := own_Ar_keep F11 K25 nin0
    have F29 := own_sta_keep F12 K25 ns0
    have F30 := own_sta_keep F13 K25 ns0
    have F31 := own_sta_keep F14 K25 ns0
    have F32 := own_Ar_keep gv8 K25 nin0
    refine own_go (B := (T25.setTop (mkF m 26 #[rv pv, iv (0 : Int32), iv (2 : Int32), rv a1, iv (1 : Int32), .unset] [(.ref b25)]))) st25 ?_
    refine own_go (B := (T25.setTop (mkF m 28 #[rv pv, iv (0 : Int32), iv (2 : Int32), rv a1, iv (1 : Int32), rv b25] []))) (fun t k => XS.astore X25.here hx rfl (hb hby own_k3_2_d26) rfl rfl (l' := #[rv pv, iv (0 : Int32), iv (2 : Int32), rv a1, iv (1 : Int32), rv b25]) rfl k) ?_
    refine own_go (B := (T25.setTop (mkF m 30 #[rv pv, iv (0 : Int32), iv (2 : Int32), rv a1, iv (1 : Int32), rv b25] [(.ref b25)]))) (fun t k => XS.aload X25.here hx rfl (hb hby own_k3_2_d28) rfl rfl k) ?_
    refine own_go (B := (T25.setTop (mkF m 32 #[rv pv, iv (0 : Int32), iv (2 : Int32), rv a1, iv (1 : Int32), rv b25] [(.int (1 : Int32)), (.ref b25)]))) (fun t k => XS.iload X25.here hx rfl (hb hby own_k3_2_d30) rfl k) ?_
    obtain ⟨_, _, ⟨T33, L33, k33, n33⟩, -, X33, ⟨Lc33, hQ33, l33, yy33, zz33⟩, st33⟩ := Jvm.LawKit.callS X25 hx (y := own_y6) hown (mvT hZ w_86) (mvT hZ w_87) (mvT hZ w_40) (mvT hZ w_88) (by decide) (backOf (W := 0) (own_gc2_1 l Z a0 hw [] b25 ((ch0 >>> ((0 : Int32) &&& 31)).toInt8.toInt32) ((ch0 >>> ((8 : Int32) &&& 31)).toInt8.toInt32) ((ch1 >>> ((0 : Int32) &&& 31)).toInt8.toInt32) ((ch1 >>> ((8 : Int32) &&& 31)).toInt8.toInt32) T25.heap n0 gv25 F29 F30 F31) hZ w_88 w_40 (by decide) (by decide)) (g := (mkF m 32 #[rv pv, iv (0 : Int32), iv (2 : Int32), rv a1, iv (1 : Int32), rv b25] [(.int (1 : Int32)), (.ref b25)])) rfl (by rw [hml]; rfl) (argsL := [(.ref b25), (.int (1 : Int32))]) (rest := []) (lenOf own_pd6 rfl) rfl (by show 2 * 0 + _ ≤ _; exact own_b rfl) (hb hby own_k3_2_d32) (fun _ _ => ⟨rfl, rfl, (own_b rfl : 2 + 0 ≤ _), (own_b rfl : 6 + 0 ≤ _)⟩)
    dsimp only [Pt.U, Pt.locs, Pt.cells, Pt.slots] at X33 l33 yy33 zz33 st33 hQ33
    obtain ⟨rfl, Nq33, eq33⟩ := hQ33
    obtain ⟨L33, X33, N33⟩ := own_absC (K := 2) (K' := 6) X33 l33 yy33 zz33 N25 Nq33
    have e33 : T33.heap = T25.heap := eq33
    refine own_go (B := (T33.setTop (mkF m 35 #[rv pv, iv (0 : Int32), iv (2 : Int32), rv a1, iv (1 : Int32), rv b25] [(.int ((((((ch1 >>> ((0 : Int32) &&& 31)).toInt8.toInt32) &&& (255 : Int32)) <<< ((0 : Int32) &&& 31)) ||| ((((ch1 >>> ((8 : Int32) &&& 31)).toInt8.toInt32) &&& (255 : Int32)) <<< ((8 : Int32) &&& 31))).toUInt32.toUInt16.toUInt32.toInt32))]))) st33 ?_
    refine own_go (B := (T33.setTop (mkF m 38 #[rv pv, iv (0 : Int32), iv (2 : Int32), rv a1, iv (1 : Int32), rv b25] [(.int (255 : Int32)), (.int ((((((ch1 >>> ((0 : Int32) &&& 31)).toInt8.toInt32) &&& (255 : Int32)) <<< ((0 : Int32) &&& 31)) ||| ((((ch1 >>> ((8 : Int32) &&& 31)).toInt8.toInt32) &&& (255 : Int32)) <<< ((8 : Int32) &&& 31))).toUInt32.toUInt16.toUInt32.toInt32))]))) (fun t k => own_sipush (v := (255 : Int32)) X33.here hx rfl (hb hby own_k3_2_d35) (by decide) k) ?_
    have hc38 : (255 : Int32) < ((((((ch1 >>> ((0 : Int32) &&& 31)).toInt8.toInt32) &&& (255 : Int32)) <<< ((0 : Int32) &&& 31)) ||| ((((ch1 >>> ((8 : Int32) &&& 31)).toInt8.toInt32) &&& (255 : Int32)) <<< ((8 : Int32) &&& 31))).toUInt32.toUInt16.toUInt32.toInt32) := (own_gc hn1 hcc)
    refine own_icmpY X33 hx (hb hby own_k3_2_d38) (pc' := 54) (by decide) (by decide) hc38 ?_
    refine own_go (B := (T33.setTop (mkF m 56 #[rv pv, iv (0 : Int32), iv (2 : Int32), rv a1, iv (1 : Int32), rv b25] [(.ref b25)]))) (fun t k => XS.aload X33.here hx rfl (hb hby own_k3_2_d54) rfl rfl k) ?_
    exact own_retA X33 hx hlk Bd.returns rfl rfl (hb hby own_k3_2_d56) (own_b rfl) (own_b rfl) (Q := (own_k3_2_Q Z pv ch0 ch1 h0 n0)) (by rw [e33]; exact ⟨_, [(.int ((ch0 >>> ((0 : Int32) &&& 31)).toInt8.toInt32)), (.int ((ch0 >>> ((8 : Int32) &&& 31)).toInt8.toInt32)), (.int ((ch1 >>> ((0 : Int32) &&& 31)).toInt8.toInt32)), (.int ((ch1 >>> ((8 : Int32) &&& 31)).toInt8.toInt32))], rfl, N33, F27, gv25, Or.inr rfl⟩)

theorem own_cd2_2_d0 : decode jdk_52_method_15_code 0 = .ok (.iload_n 1, 1) := by decide +kernel
theorem own_cd2_2_d1 : decode jdk_52_method_15_code 1 = .ok (.aload_n 0, 1) := by decide +kernel
theorem own_cd2_2_d2 : decode jdk_52_method_15_code 2 = .ok (.arraylength, 1) := by decide +kernel
theorem own_cd2_2_d3 : decode jdk_52_method_15_code 3 = .ok (.isub, 1) := by decide +kernel
theorem own_cd2_2_d4 : decode jdk_52_method_15_code 4 = .ok (.bipush 31, 2) := by decide +kernel
theorem own_cd2_2_d6 : decode jdk_52_method_15_code 6 = .ok (.iushr, 1) := by decide +kernel
theorem own_cd2_2_d7 : decode jdk_52_method_15_code 7 = .ok (.i2b, 1) := by decide +kernel
theorem own_cd2_2_d8 : decode jdk_52_method_15_code 8 = .ok (.ireturn, 1) := by decide +kernel
theorem own_cd2_2_pn : plainName "java/lang/StringUTF16" = true := by first | (simp [plainName, overriddenIn]; done) | decide +kernel
theorem own_cd2_2_ef (m : MethodId) (pb : Addr) : entryFrame m #[(.ref pb), (.int (2 : Int32))] 2 = mkF m 0 #[rv pb, iv (2 : Int32)] [] := by first | (simp [entryFrame, mkF, argsToLocals, Value.category]; done) | rfl
def own_cd2_2_Q (Z : State) (pb : Addr) (Lb : List Value) (h0 : Heap) (n0 : Nat) (v : Option Value) (h : Heap) (L : List Loc) : Prop := v = some (.int (0 : Int32)) ∧ Fr n0 L ∧ h = h0
set_option maxRecDepth 65536 in
set_option maxHeartbeats 40000000 in
theorem own_cd2_2 (l : Launch) (Z : State) (a0 : Array Value) (hw : ∀ d ∈ tables_1, d.before a0 Z = true) (ws : List Jvm.Cond) (pb : Addr) (Lb : List Value) (h0 : Heap) (n0 : Nat) (V0 : own_Ar Z h0 pb .byte Lb) (hl : Lb.length = 2) :
    MetFree l own_y8 (head1 (Jvm.Cond.code own_y8 jdk_52_method_15_code 2 (some .byte) :: ws) ({ frames := 0, cells := 0, slots := 0, locals := 0 } : Room)) (fun a U => a = #[(.ref pb), (.int (2 : Int32))] ∧ Z.Warmed39 U.vm ∧ U.heap = h0) (fun _ _ _ _ _ => True) (fun _ U o U' => ∃ v L, o = .returned v ∧ (own_cd2_2_Q Z pb Lb h0 n0) v U'.heap L ∧ FrameEnd U o U' L ({ frames := 0, cells := 0, slots := 0, locals := 0 } : Room).cells ({ frames := 0, cells := 0, slots := 0, locals := 0 } : Room).slots) := by
  refine MetFree.of_bodySF (plainFor_of_name own_cd2_2_pn) hisR ?_
  intro p e s m args below meth c s₁ Bd hml0 hP hK
  obtain ⟨rfl, hZ, hh⟩ := hP
  have hx := Bd.exec
  have hby := Bd.bytes
  have hml : c.maxLocals = 2 := hml0
  have hown : s.vm.findClass "java/lang/StringUTF16" = some m.cls := findClass_of_methodNamed Bd.named
  have hnm := (name_of_methodNamed Bd.named Bd.method).1
  have hlk : meth.locks = false := Bd.notSynchronized
  have X0 : Stand p l e ({ frames := 0, cells := 0, slots := 0, locals := 0 } : Room) s m #[(.ref pb), (.int (2 : Int32))] below meth c s₁ [] 0 0 := Stand.of_body Bd
  have e0 : s₁.heap = h0 := by rw [← hh, Bd.state]; rfl
  have N0 := Fr.nil n0
  show own_G p.tables e below (fun o U' => ∃ v L, o = .returned v ∧ (own_cd2_2_Q Z pb Lb h0 n0) v U'.heap L ∧ FrameEnd s o U' L ({ frames := 0, cells := 0, slots := 0, locals := 0 } : Room).cells ({ frames := 0, cells := 0, slots := 0, locals := 0 } : Room).slots) (s₁.setTop (entryFrame m #[(.ref pb), (.int (2 : Int32))] 2))
  refine own_go (B := s₁.setTop (mkF m 0 #[rv pb, iv (2 : Int32)] [])) (fun t k => castTop (own_cd2_2_ef m pb) k) ?_
  refine own_go (B := (s₁.setTop (mkF m 1 #[rv pb, iv (2 : Int32)] [(.int (2 : Int32))]))) (fun t k => XS.iloadN X0.here hx rfl (hb hby own_cd2_2_d0) rfl k) ?_
  refine own_go (B := (s₁.setTop (mkF m 2 #[rv pb, iv (2 : Int32)] [(.ref pb), (.int (2 : Int32))]))) (fun t k => XS.aloadN X0.here hx rfl (hb hby own_cd2_2_d1) rfl rfl k) ?_
  refine own_go (B := (s₁.setTop (mkF m 3 #[rv pb, iv (2 : Int32)] [(.int (2 : Int32)), (.int (2 : Int32))]))) (own_alen X0 hx hZ e0 V0 (n := (2 : Int32)) (own_lenL hl (by decide)) (g := (mkF m 2 #[rv pb, iv (2 : Int32)] [(.ref pb), (.int (2 : Int32))])) rfl rfl (hb hby own_cd2_2_d2)) ?_
  refine own_go (B := (s₁.setTop (mkF m 4 #[rv pb, iv (2 : Int32)] [(.int ((2 : Int32) - (2 : Int32)))]))) (fun t k => XS.isub (x := (2 : Int32)) (y := (2 : Int32)) X0.here hx rfl (hb hby own_cd2_2_d3) rfl k) ?_
  rw [show ((2 : Int32) - (2 : Int32)) = (0 : Int32) from by decide]
  refine own_go (B := (s₁.setTop (mkF m 6 #[rv pb, iv (2 : Int32)] [(.int (31 : Int32)), (.int (0 : Int32))]))) (fun t k => own_bipush (v := (31 : Int32)) X0.here hx rfl (hb hby own_cd2_2_d4) (by decide) k) ?_
  refine own_go (B := (s₁.setTop (mkF m 7 #[rv pb, iv (2 : Int32)] [(.int (((0 : Int32).toUInt32 >>> ((31 : Int32) &&& 31).toUInt32).toInt32))]))) (fun t k => XS.iushr (x := (0 : Int32)) (y := (31 : Int32)) X0.here hx rfl (hb hby own_cd2_2_d6) rfl k) ?_
  refine own_go (B := (s₁.setTop (mkF m 8 #[rv pb, iv (2 : Int32)] [(.int ((((0 : Int32).toUInt32 >>> ((31 : Int32) &&& 31).toUInt32).toInt32).toInt8.toInt32))]))) (fun t k => XS.i2b X0.here hx rfl (hb hby own_cd2_2_d7) rfl k) ?_
  rw [show ((((0 : Int32).toUInt32 >>> ((31 : Int32) &&& 31).toUInt32).toInt32).toInt8.toInt32) = (0 : Int32) from by decide]
  exact own_retB X0 hx hlk Bd.returns (hb hby own_cd2_2_d8) (rfl) (own_b rfl) (own_b rfl) (Q := (own_cd2_2_Q Z pb Lb h0 n0)) ⟨rfl, N0, e0⟩

theorem own_cd2_4_d0 : decode jdk_52_method_15_code 0 = .ok (.iload_n 1, 1) := by decide +kernel
theorem own_cd2_4_d1 : decode jdk_52_method_15_code 1 = .ok (.aload_n 0, 1) := by decide +kernel
theorem own_cd2_4_d2 : decode jdk_52_method_15_code 2 = .ok (.arraylength, 1) := by decide +kernel
theorem own_cd2_4_d3 : decode jdk_52_method_15_code 3 = .ok (.isub, 1) := by decide +kernel
theorem own_cd2_4_d4 : decode jdk_52_method_15_code 4 = .ok (.bipush 31, 2) := by decide +kernel
theorem own_cd2_4_d6 : decode jdk_52_method_15_code 6 = .ok (.iushr, 1) := by decide +kernel
theorem own_cd2_4_d7 : decode jdk_52_method_15_code 7 = .ok (.i2b, 1) := by decide +kernel
theorem own_cd2_4_d8 : decode jdk_52_method_15_code 8 = .ok (.ireturn, 1) := by decide +kernel
theorem own_cd2_4_pn : plainName "java/lang/StringUTF16" = true := by first | (simp [plainName, overriddenIn]; done) | decide +kernel
theorem own_cd2_4_ef (m : MethodId) (pb : Addr) : entryFrame m #[(.ref pb), (.int (2 : Int32))] 2 = mkF m 0 #[rv pb, iv (2 : Int32)] [] := by first | (simp [entryFrame, mkF, argsToLocals, Value.category]; done) | rfl
def own_cd2_4_Q (Z : State) (pb : Addr) (Lb : List Value) (h0 : Heap) (n0 : Nat) (v : Option Value) (h : Heap) (L : List Loc) : Prop := v = some (.int (1 : Int32)) ∧ Fr n0 L ∧ h = h0
set_option maxRecDepth 65536 in
set_option maxHeartbeats 40000000 in
theorem own_cd2_4 (l : Launch) (Z : State) (a0 : Array Value) (hw : ∀ d ∈ tables_1, d.before a0 Z = true) (ws : List Jvm.Cond) (pb : Addr) (Lb : List Value) (h0 : Heap) (n0 : Nat) (V0 : own_Ar Z h0 pb .byte Lb) (hl : Lb.length = 4) :
    MetFree l own_y8 (head1 (Jvm.Cond.code own_y8 jdk_52_method_15_code 2 (some .byte) :: ws) ({ frames := 0, cells := 0, slots := 0, locals := 0 } : Room)) (fun a U => a = #[(.ref pb), (.int (2 : Int32))] ∧ Z.Warmed39 U.vm ∧ U.heap = h0) (fun _ _ _ _ _ => True) (fun _ U o U' => ∃ v L, o = .returned v ∧ (own_cd2_4_Q Z pb Lb h0 n0) v U'.heap L ∧ FrameEnd U o U' L ({ frames := 0, cells := 0, slots := 0, locals := 0 } : Room).cells ({ frames := 0, cells := 0, slots := 0, locals := 0 } : Room).slots) := by
  refine MetFree.of_bodySF (plainFor_of_name own_cd2_4_pn) hisR ?_
  intro p e s m args below meth c s₁ Bd hml0 hP hK
  obtain ⟨rfl, hZ, hh⟩ := hP
  have hx := Bd.exec
  have hby := Bd.bytes
  have hml : c.maxLocals = 2 := hml0
  have hown : s.vm.findClass "java/lang/StringUTF16" = some m.cls := findClass_of_methodNamed Bd.named
  have hnm := (name_of_methodNamed Bd.named Bd.method).1
  have hlk : meth.locks = false := Bd.notSynchronized
  have X0 : Stand p l e ({ frames := 0, cells := 0, slots := 0, locals := 0 } : Room) s m #[(.ref pb), (.int (2 : Int32))] below meth c s₁ [] 0 0 := Stand.of_body Bd
  have e0 : s₁.heap = h0 := by rw [← hh, Bd.state]; rfl
  have N0 := Fr.nil n0
  show own_G p.tables e below (fun o U' => ∃ v L, o = .returned v ∧ (own_cd2_4_Q Z pb Lb h0 n0) v U'.heap L ∧ FrameEnd s o U' L ({ frames := 0, cells := 0, slots := 0, locals := 0 } : Room).cells ({ frames := 0, cells := 0, slots := 0, locals := 0 } : Room).slots) (s₁.setTop (entryFrame m #[(.ref pb), (.int (2 : Int32))] 2))
  refine own_go (B := s₁.setTop (mkF m 0 #[rv pb, iv (2 : Int32)] [])) (fun t k => castTop (own_cd2_4_ef m pb) k) ?_
  refine own_go (B := (s₁.setTop (mkF m 1 #[rv pb, iv (2 : Int32)] [(.int (2 : Int32))]))) (fun t k => XS.iloadN X0.here hx rfl (hb hby own_cd2_4_d0) rfl k) ?_
  refine own_go (B := (s₁.setTop (mkF m 2 #[rv pb, iv (2 : Int32)] [(.ref pb), (.int (2 : Int32))]))) (fun t k => XS.aloadN X0.here hx rfl (hb hby own_cd2_4_d1) rfl rfl k) ?_
  refine own_go (B := (s₁.setTop (mkF m 3 #[rv pb, iv (2 : Int32)] [(.int (4 : Int32)), (.int (2 : Int32))]))) (own_alen X0 hx hZ e0 V0 (n := (4 : Int32)) (own_lenL hl (by decide)) (g := (mkF m 2 #[rv pb, iv (2 : Int32)] [(.ref pb), (.int (2 : Int32))])) rfl rfl (hb hby own_cd2_4_d2)) ?_
  refine own_go (B := (s₁.setTop (mkF m 4 #[rv pb, iv (2 : Int32)] [(.int ((2 : Int32) - (4 : Int32)))]))) (fun t k => XS.isub (x := (2 : Int32)) (y := (4 : Int32)) X0.here hx rfl (hb hby own_cd2_4_d3) rfl k) ?_
  rw [show ((2 : Int32) - (4 : Int32)) = (-2 : Int32) from by decide]
  refine own_go (B := (s₁.setTop (mkF m 6 #[rv pb, iv (2 : Int32)] [(.int (31 : Int32)), (.int (-2 : Int32))]))) (fun t k => own_bipush (v := (31 : Int32)) X0.here hx rfl (hb hby own_cd2_4_d4) (by decide) k) ?_
  refine own_go (B := (s₁.setTop (mkF m 7 #[rv pb, iv (2 : Int32)] [(.int (((-2 : Int32).toUInt32 >>> ((31 : Int32) &&& 31).toUInt32).toInt32))]))) (fun t k => XS.iushr (x := (-2 : Int32)) (y := (31 : Int32)) X0.here hx rfl (hb hby own_cd2_4_d6) rfl k) ?_
  refine own_go (B := (s₁.setTop (mkF m 8 #[rv pb, iv (2 : Int32)] [(.int ((((-2 : Int32).toUInt32 >>> ((31 : Int32) &&& 31).toUInt32).toInt32).toInt8.toInt32))]))) (fun t k => XS.i2b X0.here hx rfl (hb hby own_cd2_4_d7) rfl k) ?_
  rw [show ((((-2 : Int32).toUInt32 >>> ((31 : Int32) &&& 31).toUInt32).toInt32).toInt8.toInt32) = (1 : Int32) from by decide]
  exact own_retB X0 hx hlk Bd.returns (hb hby own_cd2_4_d8) (rfl) (own_b rfl) (own_b rfl) (Q := (own_cd2_4_Q Z pb Lb h0 n0)) ⟨rfl, N0, e0⟩

theorem own_i4_2_d0 : decode jdk_42_method_149_code 0 = .ok (.aload_n 0, 1) := by decide +kernel
theorem own_i4_2_d1 : decode jdk_42_method_149_code 1 = .ok (.invokespecial 1, 3) := by decide +kernel
theorem own_i4_2_d4 : decode jdk_42_method_149_code 4 = .ok (.iload_n 3, 1) := by decide +kernel
theorem own_i4_2_d5 : decode jdk_42_method_149_code 5 = .ok (.ifCond .ne 22, 3) := by decide +kernel
theorem own_i4_2_d27 : decode jdk_42_method_149_code 27 = .ok (.getstatic 38, 3) := by decide +kernel
theorem own_i4_2_d30 : decode jdk_42_method_149_code 30 = .ok (.ifCond .eq 28, 3) := by decide +kernel
theorem own_i4_2_d33 : decode jdk_42_method_149_code 33 = .ok (.aload_n 1, 1) := by decide +kernel
theorem own_i4_2_d34 : decode jdk_42_method_149_code 34 = .ok (.iload_n 2, 1) := by decide +kernel
theorem own_i4_2_d35 : decode jdk_42_method_149_code 35 = .ok (.iload_n 3, 1) := by decide +kernel
theorem own_i4_2_d36 : decode jdk_42_method_149_code 36 = .ok (.invokestatic 177, 3) := by decide +kernel
theorem own_i4_2_d39 : decode jdk_42_method_149_code 39 = .ok (.astore 5, 2) := by decide +kernel
theorem own_i4_2_d41 : decode jdk_42_method_149_code 41 = .ok (.aload_n 0, 1) := by decide +kernel
theorem own_i4_2_d42 : decode jdk_42_method_149_code 42 = .ok (.aload 5, 2) := by decide +kernel
theorem own_i4_2_d44 : decode jdk_42_method_149_code 44 = .ok (.iload_n 3, 1) := by decide +kernel
theorem own_i4_2_d45 : decode jdk_42_method_149_code 45 = .ok (.invokestatic 47, 3) := by decide +kernel
theorem own_i4_2_d48 : decode jdk_42_method_149_code 48 = .ok (.putfield 15, 3) := by decide +kernel
theorem own_i4_2_d51 : decode jdk_42_method_149_code 51 = .ok (.aload_n 0, 1) := by decide +kernel
theorem own_i4_2_d52 : decode jdk_42_method_149_code 52 = .ok (.aload 5, 2) := by decide +kernel
theorem own_i4_2_d54 : decode jdk_42_method_149_code 54 = .ok (.putfield 9, 3) := by decide +kernel
theorem own_i4_2_d57 : decode jdk_42_method_149_code 57 = .ok (.return_, 1) := by decide +kernel
theorem own_i4_2_pn : plainName "java/lang/String" = true := by first | (simp [plainName, overriddenIn]; done) | decide +kernel
theorem own_i4_2_ef (m : MethodId) (th : Addr) (pv : Addr) : entryFrame m #[(.ref th), (.ref pv), (.int (0 : Int32)), (.int (2 : Int32)), .null] 6 = mkF m 0 #[rv th, rv pv, iv (0 : Int32), iv (2 : Int32), .val .null, .unset] [] := by first | (simp [entryFrame, mkF, argsToLocals, Value.category]; done) | rfl
def own_i4_2_Q (Z : State) (th : Addr) (pv : Addr) (ch0 ch1 cs : Int32) (h0 : Heap) (n0 : Nat) (v : Option Value) (h : Heap) (L : List Loc) : Prop := ∃ b Lb cd, v = none ∧ Fr n0 L ∧ Keep h0 h [th] ∧ Exa Z h th "java/lang/String" ∧ Fld Z h th "java/lang/String" "value" "[B" (.ref b) ∧ Fld Z h th "java/lang/String" "coder" "B" (.int cd) ∧ own_Ar Z h b .byte Lb ∧ own_sl Lb cd (2 : Int32)
set_option maxRecDepth 65536 in
set_option maxHeartbeats 40000000 in
theorem own_i4_2 (l : Launch) (Z : State) (a0 : Array Value) (hw : ∀ d ∈ tables_1, d.before a0 Z = true) (ws : List Jvm.Cond) (th : Addr) (pv : Addr) (ch0 ch1 cs : Int32) (h0 : Heap) (n0 : Nat) (Z0 : n0 ≤ h0.size) (E0 : Exa Z h0 th "java/lang/String") (g0 : n0 ≤ th) (F9000 : Fld Z h0 th "java/lang/String" "value" "[B" .null) (F9001 : Fld Z h0 th "java/lang/String" "coder" "B" (.int (0 : Int32))) (V0 : own_Ar Z h0 pv .char [(.int ch0), (.int ch1)]) (hn0 : nar .char ch0 = ch0) (hn1 : nar .char ch1 = ch1) (hcS : Sta Z h0 "java/lang/String" "COMPACT_STRINGS" "Z" (.int cs)) (hcs : ¬ cs = (0 : Int32)) (hSa : Sta Z h0 "java/lang/StringUTF16" "$assertionsDisabled" "Z" (.int (1 : Int32))) (hSh : Sta Z h0 "java/lang/StringUTF16" "HI_BYTE_SHIFT" "I" (.int (0 : Int32))) (hSl : Sta Z h0 "java/lang/StringUTF16" "LO_BYTE_SHIFT" "I" (.int (8 : Int32))) :
    MetFree l own_y9 (head1 (Jvm.Cond.code own_y9 jdk_42_method_149_code 6 none :: ws) ({ frames := 4, cells := 2, slots := 6, locals := 57 } : Room)) (fun a U => a = #[(.ref th), (.ref pv), (.int (0 : Int32)), (.int (2 : Int32)), .null] ∧ Z.Warmed39 U.vm ∧ U.heap = h0) (fun _ _ _ _ _ => True) (fun _ U o U' => ∃ v L, o = .returned v ∧ (own_i4_2_Q Z th pv ch0 ch1 cs h0 n0) v U'.heap L ∧ FrameEnd U o U' L ({ frames := 4, cells := 2, slots := 6, locals := 57 } : Room).cells ({ frames := 4, cells := 2, slots := 6, locals := 57 } : Room).slots) := by
  refine MetFree.of_bodySF (plainFor_of_name own_i4_2_pn) hisR ?_
  intro p e s m args below meth c s₁ Bd hml0 hP hK
  obtain ⟨rfl, hZ, hh⟩ := hP
  have hx := Bd.exec
  have hby := Bd.bytes
  have hml : c.maxLocals = 6 := hml0
  have hown : s.vm.findClass "java/lang/String" = some m.cls := findClass_of_methodNamed Bd.named
  have hnm := (name_of_methodNamed Bd.named Bd.method).1
  have hlk : meth.locks = false := Bd.notSynchronized
  have X0 : Stand p l e ({ frames := 4, cells := 2, slots := 6, locals := 57 } : Room) s m #[(.ref th), (.ref pv), (.int (0 : Int32)), (.int (2 : Int32)), .null] below meth c s₁ [] 0 0 := Stand.of_body Bd
  have e0 : s₁.heap = h0 := by rw [← hh, Bd.state]; rfl
  have N0 := Fr.nil n0
  have w_2 := hw _ (List.mem_of_getElem? (l := tables_1) (i := 2) rfl)
  have w_12 := hw _ (List.mem_of_getElem? (l := tables_1) (i := 12) rfl)
  have w_13 := hw _ (List.mem_of_getElem? (l := tables_1) (i := 13) rfl)
  have w_14 := hw _ (List.mem_of_getElem? (l := tables_1) (i := 14) rfl)
  have w_17 := hw _ (List.mem_of_getElem? (l := tables_1) (i := 17) rfl)
  have w_18 := hw _ (List.mem_of_getElem? (l := tables_1) (i := 18) rfl)
  have w_21 := hw _ (List.mem_of_getElem? (l := tables_1) (i := 21) rfl)
  have w_22 := hw _ (List.mem_of_getElem? (l := tables_1) (i := 22) rfl)
  have w_26 := hw _ (List.mem_of_getElem? (l := tables_1) (i := 26) rfl)
  have w_38 := hw _ (List.mem_of_getElem? (l := tables_1) (i := 38) rfl)
  have w_39 := hw _ (List.mem_of_getElem? (l := tables_1) (i := 39) rfl)
  have w_40 := hw _ (List.mem_of_getElem? (l := tables_1) (i := 40) rfl)
  have w_41 := hw _ (List.mem_of_getElem? (l := tables_1) (i := 41) rfl)
  have w_45 := hw _ (List.mem_of_getElem? (l := tables_1) (i := 45) rfl)
  have w_46 := hw _ (List.mem_of_getElem? (l := tables_1) (i := 46) rfl)
  have w_47 := hw _ (List.mem_of_getElem? (l := tables_1) (i := 47) rfl)
  show own_G p.tables e below (fun o U' => ∃ v L, o = .returned v ∧ (own_i4_2_Q Z th pv ch0 ch1 cs h0 n0) v U'.heap L ∧ FrameEnd s o U' L ({ frames := 4, cells := 2, slots := 6, locals := 57 } : Room).cells ({ frames := 4, cells := 2, slots := 6, locals := 57 } : Room).slots) (s₁.setTop (entryFrame m #[(.ref th), (.ref pv), (.int (0 : Int32)), (.int (2 : Int32)), .null] 6))
  refine own_go (B := s₁.setTop (mkF m 0 #[rv th, rv pv, iv (0 : Int32), iv (2 : Int32), .val .null, .unset] [])) (fun t k => castTop (own_i4_2_ef m th pv) k) ?_
  have K0 := Keep.refl h0 [th]
  have npv := own_Ar_ne E0 w_2 V0
  refine own_go (B := (s₁.setTop (mkF m 1 #[rv th, rv pv, iv (0 : Int32), iv (2 : Int32), .val .null, .unset] [(.ref th)]))) (fun t k => XS.aloadN X0.here hx rfl (hb hby own_i4_2_d0) rfl rfl k) ?_
  obtain ⟨T1, X1, e1, st1⟩ := initO X0 hx hZ hown w_12 w_13 w_14 e0 (g := (mkF m 1 #[rv th, rv pv, iv (0 : Int32), iv (2 : Int32), .val .null, .unset] [(.ref th)])) rfl (by rw [hml]; rfl) rfl (hb hby own_i4_2_d1) (by decide) (W := 0) (by show 2 * 0 + _ ≤ _; exact own_b rfl) (by decide)
  refine own_go (B := (T1.setTop (mkF m 4 #[rv th, rv pv, iv (0 : Int32), iv (2 : Int32), .val .null, .unset] []))) st1 ?_
  refine own_go (B := (T1.setTop (mkF m 5 #[rv th, rv pv, iv (0 : Int32), iv (2 : Int32), .val .null, .unset] [(.int (2 : Int32))]))) (fun t k => XS.iloadN X1.here hx rfl (hb hby own_i4_2_d4) rfl k) ?_
  have hc5 : ¬ (2 : Int32) = (0 : Int32) := (by decide)
  refine own_ifY X1 hx (hb hby own_i4_2_d5) (pc' := 27) (by decide) (by decide) hc5 ?_
  obtain ⟨T2, X2, e2, st2⟩ := getS X1 hx hZ hown (host := "") w_26 Via.refl e1 hcS (g := (mkF m 27 #[rv th, rv pv, iv (0 : Int32), iv (2 : Int32), .val .null, .unset] [])) rfl (hb hby own_i4_2_d27)
  refine own_go (B := (T2.setTop (mkF m 30 #[rv th, rv pv, iv (0 : Int32), iv (2 : Int32), .val .null, .unset] [(.int cs)]))) st2 ?_
  have hc30 : ¬ cs = (0 : Int32) := hcs
  refine own_ifN X2 hx (hb hby own_i4_2_d30) (pn := 33) rfl hc30 ?_
  refine own_go (B := (T2.setTop (mkF m 34 #[rv th, rv pv, iv (0 : Int32), iv (2 : Int32), .val .null, .unset] [(.ref pv)]))) (fun t k => XS.aloadN X2.here hx rfl (hb hby own_i4_2_d33) rfl rfl k) ?_
  refine own_go (B := (T2.setTop (mkF m 35 #[rv th, rv pv, iv (0 : Int32), iv (2 : Int32), .val .null, .unset] [(.int (0 : Int32)), (.ref pv)]))) (fun t k => XS.iloadN X2.here hx rfl (hb hby own_i4_2_d34) rfl k) ?_
  refine own_go (B := (T2.setTop (mkF m 36 #[rv th, rv pv, iv (0 : Int32), iv (2 : Int32), .val .null, .unset] [(.int (2 : Int32)), (.int (0 : Int32)), (.ref pv)]))) (fun t k => XS.iloadN X2.here hx rfl (hb hby own_i4_2_d35) rfl k) ?_
  obtain ⟨_, _, ⟨T3, L3, k3, n3⟩, -, X3, ⟨Lc3, hQ3, l3, yy3, zz3⟩, st3⟩ := Jvm.LawKit.callS X2 hx (y := own_y7) hown (mvT hZ w_38) (mvT hZ w_39) (mvT hZ w_40) (mvT hZ w_41) (by decide) (backOf (W := 0) (own_k3_2 l Z a0 hw [] pv ch0 ch1 h0 n0 Z0 V0 hn0 hn1 hSa hSh hSl) hZ w_41 w_40 (by decide) (by decide)) (g := (mkF m 36 #[rv th, rv pv, iv (0 : Int32), iv (2 : Int32), .val .null, .unset] [(.int (2 : Int32)), (.int (0 : Int32)), (.ref pv)])) rfl (by rw [hml]; rfl) (argsL := [(.ref pv), (.int (0 : Int32)), (.int (2 : Int32))]) (rest := []) (lenOf own_pd5 rfl) rfl (by show 2 * 0 + _ ≤ _; exact own_b rfl) (hb hby own_i4_2_d36) (fun _ _ => ⟨rfl, e2, (own_b rfl : 0 + 2 ≤ _), (own_b rfl : 0 + 6 ≤ _)⟩)
  dsimp only [Pt.U, Pt.locs, Pt.cells, Pt.slots] at X3 l3 yy3 zz3 st3 hQ3
  obtain ⟨b3, Lb3, rfl, Nq3, K3, gv3, gd3⟩ := hQ3
  obtain ⟨L3, X3, N3⟩ := own_absC (K := 2) (K' := 6) X3 l3 yy3 zz3 N0 Nq3
  have F4 : n0 ≤ T3.heap.size := Nat.le_trans Z0 K3.1
  have F5 := Keep.trans K0 K3 all0
  have F6 := Exa.keep E0 K3
  have F7 := Fld.keep F9000 K3 nin0
  have F8 := Fld.keep F9001 K3 nin0
  have F9 := own_Ar_keep V0 K3 nin0
  have F10 := own_sta_keep hcS K3 ns0
  have F11 := own_sta_keep hSa K3 ns0
  have F12 := own_sta_keep hSh K3 ns0
  have F13 := own_sta_keep hSl K3 ns0
  have nq3 := own_Ar_ne F6 w_2 gv3
  refine own_go (B := (T3.setTop (mkF m 39 #[rv th, rv pv, iv (0 : Int32), iv (2 : Int32), .val .null, .unset] [(.ref b3)]))) st3 ?_
  rcases gd3 with hl | hl
  · refine own_go (B := (T3.setTop (mkF m 41 #[rv th, rv pv, iv (0 : Int32), iv (2 : Int32), .val .null, rv b3] []))) (fun t k => XS.astore X3.here hx rfl (hb hby own_i4_2_d39) rfl rfl (l' := #[rv th, rv pv, iv (0 : Int32), iv (2 : Int32), .val .null, rv b3]) rfl k) ?_
    refine own_go (B := (T3.setTop (mkF m 42 #[rv th, rv pv, iv (0 : Int32), iv (2 : Int32), .val .null, rv b3] [(.ref th)]))) (fun t k => XS.aloadN X3.here hx rfl (hb hby own_i4_2_d41) rfl rfl k) ?_
    refine own_go (B := (T3.setTop (mkF m 44 #[rv th, rv pv, iv (0 : Int32), iv (2 : Int32), .val .null, rv b3] [(.ref b3), (.ref th)]))) (fun t k => XS.aload X3.here hx rfl (hb hby own_i4_2_d42) rfl rfl k) ?_
    refine own_go (B := (T3.setTop (mkF m 45 #[rv th, rv pv, iv (0 : Int32), iv (2 : Int32), .val .null, rv b3] [(.int (2 : Int32)), (.ref b3), (.ref th)]))) (fun t k => XS.iloadN X3.here hx rfl (hb hby own_i4_2_d44) rfl k) ?_
    obtain ⟨_, _, ⟨T14, L14, k14, n14⟩, -, X14, ⟨Lc14, hQ14, l14, yy14, zz14⟩, st14⟩ := Jvm.LawKit.callS X3 hx (y := own_y8) hown (mvT hZ w_45) (mvT hZ w_46) (mvT hZ w_40) (mvT hZ w_47) (by decide) (backOf (W := 1) (own_cd2_2 l Z a0 hw [] b3 Lb3 T3.heap n0 gv3 hl) hZ w_47 w_40 (by decide) (by decide)) (g := (mkF m 45 #[rv th, rv pv, iv (0 : Int32), iv (2 : Int32), .val .null, rv b3] [(.int (2 : Int32)), (.ref b3), (.ref th)])) rfl (by rw [hml]; rfl) (argsL := [(.ref b3), (.int (2 : Int32))]) (rest := [(.ref th)]) (lenOf own_pd7 rfl) rfl (by show 2 * 0 + _ ≤ _; exact own_b rfl) (hb hby own_i4_2_d45) (fun _ _ => ⟨rfl, rfl, (own_b rfl : 2 + 0 ≤ _), (own_b rfl : 6 + 0 ≤ _)⟩)
    dsimp only [Pt.U, Pt.locs, Pt.cells, Pt.slots] at X14 l14 yy14 zz14 st14 hQ14
    obtain ⟨rfl, Nq14, eq14⟩ := hQ14
    obtain ⟨L14, X14, N14⟩ := own_absC (K := 2) (K' := 6) X14 l14 yy14 zz14 N3 Nq14
    have e14 : T14.heap = T3.heap := eq14
    refine own_go (B := (T14.setTop (mkF m 48 #[rv th, rv pv, iv (0 : Int32), iv (2 : Int32), .val .null, rv b3] [(.int (0 : Int32)), (.ref th)]))) st14 ?_
    obtain ⟨T15, h15, X15, e15, W15, st15⟩ := putF X14 hx hZ hown (host := "") (Or.inl w_22) Via.refl e14 F8 F6 (Or.inr ⟨w_18, rfl, hnm⟩) w_2 (ty := .byte) (by decide) rfl rfl (g := (mkF m 48 #[rv th, rv pv, iv (0 : Int32), iv (2 : Int32), .val .null, rv b3] [(.int (0 : Int32)), (.ref th)])) rfl rfl (hb hby own_i4_2_d48)
    refine own_go (B := (T15.setTop (mkF m 51 #[rv th, rv pv, iv (0 : Int32), iv (2 : Int32), .val .null, rv b3] []))) st15 ?_
    obtain ⟨L15, X15, N15⟩ := own_abs X15 (Fr.snoc X15 N14 g0)
    have F16 : n0 ≤ h15.size := by rw [W15.size]; exact F4
    have F17 := Keep.wr F5 W15 (Or.inl (List.mem_of_getElem? (i := 0) rfl))
    have F18 := Exa.wr W15 F6
    have F19 := Fld.other W15 F7 (Or.inr (slot_ne (t := (.array .byte)) (t' := .byte) (Or.inr w_17) (Or.inr w_18) (by decide) (by decide) (by decide)))
    have F20 := Fld.same W15 F8
    have F21 := own_Ar_other F9 W15 (Ne.symm npv)
    have F22 := Sta.wr W15 F10
    have F23 := Sta.wr W15 F11
    have F24 := Sta.wr W15 F12
    have F25 := Sta.wr W15 F13
    have F26 := own_Ar_other gv3 W15 (Ne.symm nq3)
    refine own_go (B := (T15.setTop (mkF m 52 #[rv th, rv pv, iv (0 : Int32), iv (2 : Int32), .val .null, rv b3] [(.ref th)]))) (fun t k => XS.aloadN X15.here hx rfl (hb hby own_i4_2_d51) rfl rfl k) ?_
    refine own_go (B := (T15.setTop (mkF m 54 #[rv th, rv pv, iv (0 : Int32), iv (2 : Int32), .val .null, rv b3] [(.ref b3), (.ref th)]))) (fun t k => XS.aload X15.here hx rfl (hb hby own_i4_2_d52) rfl rfl k) ?_
    obtain ⟨T27, h27, X27, e27, W27, st27⟩ := putF X15 hx hZ hown (host := "") (Or.inl w_21) Via.refl e15 F19 F18 (Or.inr ⟨w_17, rfl, hnm⟩) w_2 (ty := (.array .byte)) (by decide) rfl rfl (g := (mkF m 54 #[rv th, rv pv, iv (0 : Int32), iv (2 : Int32), .val .null, rv b3] [(.ref b3), (.ref th)])) rfl rfl (hb hby own_i4_2_d54)
    refine own_go (B := (T27.setTop (mkF m 57 #[rv th, rv pv, iv (0 : Int32), iv (2 : Int32), .val .null, rv b3] []))) st27 ?_
    obtain ⟨L27, X27, N27⟩ := own_abs X27 (Fr.snoc X27 N15 g0)
    have F28 : n0 ≤ h27.size := by rw [W27.size]; exact F16
    have F29 := Keep.wr F17 W27 (Or.inl (List.mem_of_getElem? (i := 0) rfl))
    have F30 := Exa.wr W27 F18
    have F31 := Fld.same W27 F19
    have F32 := Fld.other W27 F20 (Or.inr (slot_ne (t := .byte) (t' := (.array .byte)) (Or.inr w_18) (Or.inr w_17) (by decide) (by decide) (by decide)))
    have F33 := own_Ar_other F21 W27 (Ne.symm npv)
    have F34 := Sta.wr W27 F22
    have F35 := Sta.wr W27 F23
    have F36 := Sta.wr W27 F24
    have F37 := Sta.wr W27 F25
    have F38 := own_Ar_other F26 W27 (Ne.symm nq3)
    exact own_retV X27 hx hlk Bd.returns (hb hby own_i4_2_d57) (own_b rfl) (own_b rfl) (Q := (own_i4_2_Q Z th pv ch0 ch1 cs h0 n0)) (by rw [e27]; exact ⟨_, Lb3, _, rfl, N27, F29, F30, F31, F32, F38, (own_sl_of hl rfl (by decide))⟩)
  · refine own_go (B := (T3.setTop (mkF m 41 #[rv th, rv pv, iv (0 : Int32), iv (2 : Int32), .val .null, rv b3] []))) (fun t k => XS.astore X3.here hx rfl (hb hby own_i4_2_d39) rfl rfl (l' := #[rv th, rv pv, iv (0 : Int32), iv (2 : Int32), .val .null, rv b3]) rfl k) ?_
    refine own_go (B := (T3.setTop (mkF m 42 #[rv th, rv pv, iv (0 : Int32), iv (2 : Int32), .val .null, rv b3] [(.ref th)]))) (fun t k => XS.aloadN X3.here hx rfl (hb hby own_i4_2_d41) rfl rfl k) ?_
    refine own_go (B := (T3.setTop (mkF m 44 #[rv th, rv pv, iv (0 : Int32), iv (2 : Int32), .val .null, rv b3] [(.ref b3), (.ref th)]))) (fun t k => XS.aload X3.here hx rfl (hb hby own_i4_2_d42) rfl rfl k) ?_
    refine own_go (B := (T3.setTop (mkF m 45 #[rv th, rv pv, iv (0 : Int32), iv (2 : Int32), .val .null, rv b3] [(.int (2 : Int32)), (.ref b3), (.ref th)]))) (fun t k => XS.iloadN X3.here hx rfl (hb hby own_i4_2_d44) rfl k) ?_
    obtain ⟨_, _, ⟨T39, L39, k39, n39⟩, -, X39, ⟨Lc39, hQ39, l39, yy39, zz39⟩, st39⟩ := Jvm.LawKit.callS X3 hx (y := own_y8) hown (mvT hZ w_45) (mvT hZ w_46) (mvT hZ w_40) (mvT hZ w_47) (by decide) (backOf (W := 1) (own_cd2_4 l Z a0 hw [] b3 Lb3 T3.heap n0 gv3 hl) hZ w_47 w_40 (by decide) (by decide)) (g := (mkF m 45 #[rv th, rv pv, iv (0 : Int32), iv (2 : Int32), .val .null, rv b3] [(.int (2 : Int32)), (.ref b3), (.ref th)])) rfl (by rw [hml]; rfl) (argsL := [(.ref b3), (.int (2 : Int32))]) (rest := [(.ref th)]) (lenOf own_pd7 rfl) rfl (by show 2 * 0 + _ ≤ _; exact own_b rfl) (hb hby own_i4_2_d45) (fun _ _ => ⟨rfl, rfl, (own_b rfl : 2 + 0 ≤ _), (own_b rfl : 6 + 0 ≤ _)⟩)
    dsimp only [Pt.U, Pt.locs, Pt.cells, Pt.slots] at X39 l39 yy39 zz39 st39 hQ39
    obtain ⟨rfl, Nq39, eq39⟩ := hQ39
    obtain ⟨L39, X39, N39⟩ := own_absC (K := 2) (K' := 6) X39 l39 yy39 zz39 N3 Nq39
    have e39 : T39.heap = T3.heap := eq39
    refine own_go (B := (T39.setTop (mkF m 48 #[rv th, rv pv, iv (0 : Int32), iv (2 : Int32), .val .null, rv b3] [(.int (1 : Int32)), (.ref th)]))) st39 ?_
    obtain ⟨T40, h40, X40, e40, W40, st40⟩ := putF X39 hx hZ hown (host := "") (Or.inl w_22) Via.refl e39 F8 F6 (Or.inr ⟨w_18, rfl, hnm⟩) w_2 (ty := .byte) (by decide) rfl rfl (g := (mkF m 48 #[rv th, rv pv, iv (0 : Int32), iv (2 : Int32), .val .null, rv b3] [(.int (1 : Int32)), (.ref th)])) rfl rfl (hb hby own_i4_2_d48)
    refine own_go (B := (T40.setTop (mkF m 51 #[rv th, rv pv, iv (0 : Int32), iv (2 : Int32), .val .null, rv b3] []))) st40 ?_
    obtain ⟨L40, X40, N40⟩ := own_abs X40 (Fr.snoc X40 N39 g0)
    have F41 : n0 ≤ h40.size := by rw [W40.size]; exact F4
    have F42 := Keep.wr F5 W40 (Or.inl (List.mem_of_getElem? (i := 0) rfl))
    have F43 := Exa.wr W40 F6
    have F44 := Fld.other W40 F7 (Or.inr (slot_ne (t := (.array .byte)) (t' := .byte) (Or.inr w_17) (Or.inr w_18) (by decide) (by decide) (by decide)))
    have F45 := Fld.same W40 F8
    have F46 := own_Ar_other F9 W40 (Ne.symm npv)
    have F47 := Sta.wr W40 F10
    have F48 := Sta.wr W40 F11
    have F49 := Sta.wr W40 F12
    have F50 := Sta.wr W40 F13
    have F51 := own_Ar_other gv3 W40 (Ne.symm nq3)
    refine own_go (B := (T40.setTop (mkF m 52 #[rv th, rv pv, iv (0 : Int32), iv (2 : Int32), .val .null, rv b3] [(.ref th)]))) (fun t k => XS.aloadN X40.here hx rfl (hb hby own_i4_2_d51) rfl rfl k) ?_
    refine own_go (B := (T40.setTop (mkF m 54 #[rv th, rv pv, iv (0 : Int32), iv (2 : Int32), .val .null, rv b3] [(.ref b3), (.ref th)]))) (fun t k => XS.aload X40.here hx rfl (hb hby own_i4_2_d52) rfl rfl k) ?_
    obtain ⟨T52, h52, X52, e52, W52, st52⟩ := putF X40 hx hZ hown (host := "") (Or.inl w_21) Via.refl e40 F44 F43 (Or.inr ⟨w_17, rfl, hnm⟩) w_2 (ty := (.array .byte)) (by decide) rfl rfl (g := (mkF m 54 #[rv th, rv pv, iv (0 : Int32), iv (2 : Int32), .val .null, rv b3] [(.ref b3), (.ref th)])) rfl rfl (hb hby own_i4_2_d54)
    refine own_go (B := (T52.setTop (mkF m 57 #[rv th, rv pv, iv (0 : Int32), iv (2 : Int32), .val .null, rv b3] []))) st52 ?_
    obtain ⟨L52, X52, N52⟩ := own_abs X52 (Fr.snoc X52 N40 g0)
    have F53 : n0 ≤ h52.size := by rw [W52.size]; exact F41
    have F54 := Keep.wr F42 W52 (Or.inl (List.mem_of_getElem? (i := 0) rfl))
    have F55 := Exa.wr W52 F43
    have F56 := Fld.same W52 F44
    have F57 := Fld.other W52 F45 (Or.inr (slot_ne (t := .byte) (t' := (.array .byte)) (Or.inr w_18) (Or.inr w_17) (by decide) (by decide) (by decide)))
    have F58 := own_Ar_other F46 W52 (Ne.symm npv)
    have F59 := Sta.wr W52 F47
    have F60 := Sta.wr W52 F48
    have F61 := Sta.wr W52 F49
    have F62 := Sta.wr W52 F50
    have F63 := own_Ar_other F51 W52 (Ne.symm nq3)
    exact own_retV X52 hx hlk Bd.returns (hb hby own_i4_2_d57) (own_b rfl) (own_b rfl) (Q := (own_i4_2_Q Z th pv ch0 ch1 cs h0 n0)) (by rw [e52]; exact ⟨_, Lb3, _, rfl, N52, F54, F55, F56, F57, F63, (own_sl_of hl rfl (by decide))⟩)

theorem own_i1_2_d0 : decode jdk_42_method_3_code 0 = .ok (.aload_n 0, 1) := by decide +kernel
theorem own_i1_2_d1 : decode jdk_42_method_3_code 1 = .ok (.aload_n 1, 1) := by decide +kernel
theorem own_i1_2_d2 : decode jdk_42_method_3_code 2 = .ok (.iconst 0, 1) := by decide +kernel
theorem own_i1_2_d3 : decode jdk_42_method_3_code 3 = .ok (.aload_n 1, 1) := by decide +kernel
theorem own_i1_2_d4 : decode jdk_42_method_3_code 4 = .ok (.arraylength, 1) := by decide +kernel
theorem own_i1_2_d5 : decode jdk_42_method_3_code 5 = .ok (.aconst_null, 1) := by decide +kernel
theorem own_i1_2_d6 : decode jdk_42_method_3_code 6 = .ok (.invokespecial 27, 3) := by decide +kernel
theorem own_i1_2_d9 : decode jdk_42_method_3_code 9 = .ok (.return_, 1) := by decide +kernel
theorem own_i1_2_pn : plainName "java/lang/String" = true := by first | (simp [plainName, overriddenIn]; done) | decide +kernel
theorem own_i1_2_ef (m : MethodId) (th : Addr) (pv : Addr) : entryFrame m #[(.ref th), (.ref pv)] 2 = mkF m 0 #[rv th, rv pv] [] := by first | (simp [entryFrame, mkF, argsToLocals, Value.category]; done) | rfl
def own_i1_2_Q (Z : State) (th : Addr) (pv : Addr) (ch0 ch1 cs : Int32) (h0 : Heap) (n0 : Nat) (v : Option Value) (h : Heap) (L : List Loc) : Prop := ∃ b Lb cd, v = none ∧ Fr n0 L ∧ Keep h0 h [th] ∧ Exa Z h th "java/lang/String" ∧ Fld Z h th "java/lang/String" "value" "[B" (.ref b) ∧ Fld Z h th "java/lang/String" "coder" "B" (.int cd) ∧ own_Ar Z h b .byte Lb ∧ own_sl Lb cd (2 : Int32)
set_option maxRecDepth 65536 in
set_option maxHeartbeats 40000000 in
theorem own_i1_2 (l : Launch) (Z : State) (a0 : Array Value) (hw : ∀ d ∈ tables_1, d.before a0 Z = true) (ws : List Jvm.Cond) (th : Addr) (pv : Addr) (ch0 ch1 cs : Int32) (h0 : Heap) (n0 : Nat) (Z0 : n0 ≤ h0.size) (E0 : Exa Z h0 th "java/lang/String") (g0 : n0 ≤ th) (F9000 : Fld Z h0 th "java/lang/String" "value" "[B" .null) (F9001 : Fld Z h0 th "java/lang/String" "coder" "B" (.int (0 : Int32))) (V0 : own_Ar Z h0 pv .char [(.int ch0), (.int ch1)]) (hn0 : nar .char ch0 = ch0) (hn1 : nar .char ch1 = ch1) (hcS : Sta Z h0 "java/lang/String" "COMPACT_STRINGS" "Z" (.int cs)) (hcs : ¬ cs = (0 : Int32)) (hSa : Sta Z h0 "java/lang/StringUTF16" "$assertionsDisabled" "Z" (.int (1 : Int32))) (hSh : Sta Z h0 "java/lang/StringUTF16" "HI_BYTE_SHIFT" "I" (.int (0 : Int32))) (hSl : Sta Z h0 "java/lang/StringUTF16" "LO_BYTE_SHIFT" "I" (.int (8 : Int32))) :
    MetFree l own_y16 (head1 (Jvm.Cond.code own_y16 jdk_42_method_3_code 2 none :: ws) ({ frames := 5, cells := 2, slots := 6, locals := 74 } : Room)) (fun a U => a = #[(.ref th), (.ref pv)] ∧ Z.Warmed39 U.vm ∧ U.heap = h0) (fun _ _ _ _ _ => True) (fun _ U o U' => ∃ v L, o = .returned v ∧ (own_i1_2_Q Z th pv ch0 ch1 cs h0 n0) v U'.heap L ∧ FrameEnd U o U' L ({ frames := 5, cells := 2, slots := 6, locals := 74 } : Room).cells ({ frames := 5, cells := 2, slots := 6, locals := 74 } : Room).slots) := by
  refine MetFree.of_bodySF (plainFor_of_name own_i1_2_pn) hisR ?_
  intro p e s m args below meth c s₁ Bd hml0 hP hK
  obtain ⟨rfl, hZ, hh⟩ := hP
  have hx := Bd.exec
  have hby := Bd.bytes
  have hml : c.maxLocals = 2 := hml0
  have hown : s.vm.findClass "java/lang/String" = some m.cls := findClass_of_methodNamed Bd.named
  have hnm := (name_of_methodNamed Bd.named Bd.method).1
  have hlk : meth.locks = false := Bd.notSynchronized
  have X0 : Stand p l e ({ frames := 5, cells := 2, slots := 6, locals := 74 } : Room) s m #[(.ref th), (.ref pv)] below meth c s₁ [] 0 0 := Stand.of_body Bd
  have e0 : s₁.heap = h0 := by rw [← hh, Bd.state]; rfl
  have N0 := Fr.nil n0
  have w_3 := hw _ (List.mem_of_getElem? (l := tables_1) (i := 3) rfl)
  have w_8 := hw _ (List.mem_of_getElem? (l := tables_1) (i := 8) rfl)
  have w_9 := hw _ (List.mem_of_getElem? (l := tables_1) (i := 9) rfl)
  have w_11 := hw _ (List.mem_of_getElem? (l := tables_1) (i := 11) rfl)
  show own_G p.tables e below (fun o U' => ∃ v L, o = .returned v ∧ (own_i1_2_Q Z th pv ch0 ch1 cs h0 n0) v U'.heap L ∧ FrameEnd s o U' L ({ frames := 5, cells := 2, slots := 6, locals := 74 } : Room).cells ({ frames := 5, cells := 2, slots := 6, locals := 74 } : Room).slots) (s₁.setTop (entryFrame m #[(.ref th), (.ref pv)] 2))
  refine own_go (B := s₁.setTop (mkF m 0 #[rv th, rv pv] [])) (fun t k => castTop (own_i1_2_ef m th pv) k) ?_
  have K0 := Keep.refl h0 [th]
  refine own_go (B := (s₁.setTop (mkF m 1 #[rv th, rv pv] [(.ref th)]))) (fun t k => XS.aloadN X0.here hx rfl (hb hby own_i1_2_d0) rfl rfl k) ?_
  refine own_go (B := (s₁.setTop (mkF m 2 #[rv th, rv pv] [(.ref pv), (.ref th)]))) (fun t k => XS.aloadN X0.here hx rfl (hb hby own_i1_2_d1) rfl rfl k) ?_
  refine own_go (B := (s₁.setTop (mkF m 3 #[rv th, rv pv] [(.int (0 : Int32)), (.ref pv), (.ref th)]))) (fun t k => own_iconst (v := (0 : Int32)) X0.here hx rfl (hb hby own_i1_2_d2) (by decide) k) ?_
  refine own_go (B := (s₁.setTop (mkF m 4 #[rv th, rv pv] [(.ref pv), (.int (0 : Int32)), (.ref pv), (.ref th)]))) (fun t k => XS.aloadN X0.here hx rfl (hb hby own_i1_2_d3) rfl rfl k) ?_
  refine own_go (B := (s₁.setTop (mkF m 5 #[rv th, rv pv] [(.int (2 : Int32)), (.int (0 : Int32)), (.ref pv), (.ref th)]))) (own_alen X0 hx hZ e0 V0 (n := (2 : Int32)) (own_lenL (n := 2) rfl (by decide)) (g := (mkF m 4 #[rv th, rv pv] [(.ref pv), (.int (0 : Int32)), (.ref pv), (.ref th)])) rfl rfl (hb hby own_i1_2_d4)) ?_
  refine own_go (B := (s₁.setTop (mkF m 6 #[rv th, rv pv] [.null, (.int (2 : Int32)), (.int (0 : Int32)), (.ref pv), (.ref th)]))) (fun t k => XS.aconstNull X0.here hx rfl (hb hby own_i1_2_d5) k) ?_
  obtain ⟨_, _, ⟨T1, L1, k1, n1⟩, -, X1, ⟨Lc1, hQ1, l1, yy1, zz1⟩, st1⟩ := X0.specialBack hx (y := own_y9) rfl hown (mvT hZ w_8) (mvT hZ w_9) (mvT hZ w_11) (by decide) (backOf (W := 0) (own_i4_2 l Z a0 hw [] th pv ch0 ch1 cs h0 n0 Z0 E0 g0 F9000 F9001 V0 hn0 hn1 hcS hcs hSa hSh hSl) hZ w_11 w_3 (by decide) (by decide)) (g := (mkF m 6 #[rv th, rv pv] [.null, (.int (2 : Int32)), (.int (0 : Int32)), (.ref pv), (.ref th)])) rfl (by rw [hml]; rfl) (Steps.refl _) (a := th) (argsL := [(.ref pv), (.int (0 : Int32)), (.int (2 : Int32)), .null]) (rest := []) (lenOf own_pd8 rfl) rfl (by show 2 * 0 + _ ≤ _; exact own_b rfl) (hb hby own_i1_2_d6) (fun _ _ => ⟨rfl, e0, (own_b rfl : 0 + 2 ≤ _), (own_b rfl : 0 + 6 ≤ _)⟩)
  dsimp only [Pt.U, Pt.locs, Pt.cells, Pt.slots] at X1 l1 yy1 zz1 st1 hQ1
  obtain ⟨b1, Lb1, cd1, rfl, Nq1, K1, Ex1, gb1, gc1, gv1, gs1⟩ := hQ1
  obtain ⟨L1, X1, N1⟩ := own_absC (K := 2) (K' := 6) X1 l1 yy1 zz1 N0 Nq1
  have F2 : n0 ≤ T1.heap.size := Nat.le_trans Z0 K1.1
  have F3 := Keep.trans K0 K1 (allS (Or.inl (List.mem_of_getElem? (i := 0) rfl)) all0)
  have F4 := Exa.keep E0 K1
  have F7 := own_sta_keep hcS K1 (nsS (Exa.nostat E0) ns0)
  have F8 := own_sta_keep hSa K1 (nsS (Exa.nostat E0) ns0)
  have F9 := own_sta_keep hSh K1 (nsS (Exa.nostat E0) ns0)
  have F10 := own_sta_keep hSl K1 (nsS (Exa.nostat E0) ns0)
  refine own_tr (B := (T1.setTop (mkF m 9 #[rv th, rv pv] []))) st1 ?_
  exact own_retV X1 hx hlk Bd.returns (hb hby own_i1_2_d9) (own_b rfl) (own_b rfl) (Q := (own_i1_2_Q Z th pv ch0 ch1 cs h0 n0)) ⟨_, Lb1, _, rfl, N1, F3, Ex1, gb1, gc1, gv1, gs1⟩

theorem own_k5_3_d0 : decode jdk_52_method_21_code 0 = .ok (.iconst 0, 1) := by decide +kernel
theorem own_k5_3_d1 : decode jdk_52_method_21_code 1 = .ok (.istore 5, 2) := by decide +kernel
theorem own_k5_3_d3 : decode jdk_52_method_21_code 3 = .ok (.iload 5, 2) := by decide +kernel
theorem own_k5_3_d5 : decode jdk_52_method_21_code 5 = .ok (.iload 4, 2) := by decide +kernel
theorem own_k5_3_d7 : decode jdk_52_method_21_code 7 = .ok (.if_icmp .ge 37, 3) := by decide +kernel
theorem own_k5_3_d10 : decode jdk_52_method_21_code 10 = .ok (.aload_n 0, 1) := by decide +kernel
theorem own_k5_3_d11 : decode jdk_52_method_21_code 11 = .ok (.iload_n 1, 1) := by decide +kernel
theorem own_k5_3_d12 : decode jdk_52_method_21_code 12 = .ok (.caload, 1) := by decide +kernel
theorem own_k5_3_d13 : decode jdk_52_method_21_code 13 = .ok (.istore 6, 2) := by decide +kernel
theorem own_k5_3_d15 : decode jdk_52_method_21_code 15 = .ok (.iload 6, 2) := by decide +kernel
theorem own_k5_3_d17 : decode jdk_52_method_21_code 17 = .ok (.sipush 255, 3) := by decide +kernel
theorem own_k5_3_d20 : decode jdk_52_method_21_code 20 = .ok (.if_icmp .le 6, 3) := by decide +kernel
theorem own_k5_3_d23 : decode jdk_52_method_21_code 23 = .ok (.iload 5, 2) := by decide +kernel
theorem own_k5_3_d25 : decode jdk_52_method_21_code 25 = .ok (.ireturn, 1) := by decide +kernel
theorem own_k5_3_d26 : decode jdk_52_method_21_code 26 = .ok (.aload_n 2, 1) := by decide +kernel
theorem own_k5_3_d27 : decode jdk_52_method_21_code 27 = .ok (.iload_n 3, 1) := by decide +kernel
theorem own_k5_3_d28 : decode jdk_52_method_21_code 28 = .ok (.iload 6, 2) := by decide +kernel
theorem own_k5_3_d30 : decode jdk_52_method_21_code 30 = .ok (.i2b, 1) := by decide +kernel
theorem own_k5_3_d31 : decode jdk_52_method_21_code 31 = .ok (.bastore, 1) := by decide +kernel
theorem own_k5_3_d32 : decode jdk_52_method_21_code 32 = .ok (.iinc 1 1, 3) := by decide +kernel
theorem own_k5_3_d35 : decode jdk_52_method_21_code 35 = .ok (.iinc 3 1, 3) := by decide +kernel
theorem own_k5_3_d38 : decode jdk_52_method_21_code 38 = .ok (.iinc 5 1, 3) := by decide +kernel
theorem own_k5_3_d41 : decode jdk_52_method_21_code 41 = .ok (.goto (-38), 3) := by decide +kernel
theorem own_k5_3_d44 : decode jdk_52_method_21_code 44 = .ok (.iload 4, 2) := by decide +kernel
theorem own_k5_3_d46 : decode jdk_52_method_21_code 46 = .ok (.ireturn, 1) := by decide +kernel
theorem own_k5_3_pn : plainName "java/lang/StringUTF16" = true := by first | (simp [plainName, overriddenIn]; done) | decide +kernel
theorem own_k5_3_ef (m : MethodId) (pv : Addr) (pd : Addr) : entryFrame m #[(.ref pv), (.int (0 : Int32)), (.ref pd), (.int (0 : Int32)), (.int (3 : Int32))] 7 = mkF m 0 #[rv pv, iv (0 : Int32), rv pd, iv (0 : Int32), iv (3 : Int32), .unset, .unset] [] := by first | (simp [entryFrame, mkF, argsToLocals, Value.category]; done) | rfl
def own_k5_3_Q (Z : State) (pv : Addr) (pd : Addr) (ch0 ch1 ch2 : Int32) (h0 : Heap) (n0 : Nat) (v : Option Value) (h : Heap) (L : List Loc) : Prop := ∃ r Ld, v = some (.int r) ∧ Fr n0 L ∧ Keep h0 h [pd] ∧ own_Ar Z h pd .byte Ld ∧ Ld.length = 3 ∧ (r = (3 : Int32) ∨ (r = (0 : Int32) ∧ (255 : Int32) < ch0) ∨ (r = (1 : Int32) ∧ (255 : Int32) < ch1) ∨ (r = (2 : Int32) ∧ (255 : Int32) < ch2))
set_option maxRecDepth 65536 in
set_option maxHeartbeats 40000000 in
theorem own_k5_3 (l : Launch) (Z : State) (a0 : Array Value) (hw : ∀ d ∈ tables_1, d.before a0 Z = true) (ws : List Jvm.Cond) (pv : Addr) (pd : Addr) (ch0 ch1 ch2 : Int32) (h0 : Heap) (n0 : Nat) (Z0 : n0 ≤ h0.size) (g0 : n0 ≤ pd) (V0 : own_Ar Z h0 pv .char [(.int ch0), (.int ch1), (.int ch2)]) (V1 : own_Ar Z h0 pd .byte [(.int (0 : Int32)), (.int (0 : Int32)), (.int (0 : Int32))]) (nvd : pv ≠ pd) :
    MetFree l own_y4 (head1 (Jvm.Cond.code own_y4 jdk_52_method_21_code 7 (some .int) :: ws) ({ frames := 0, cells := 0, slots := 0, locals := 0 } : Room)) (fun a U => a = #[(.ref pv), (.int (0 : Int32)), (.ref pd), (.int (0 : Int32)), (.int (3 : Int32))] ∧ Z.Warmed39 U.vm ∧ U.heap = h0) (fun _ _ _ _ _ => True) (fun _ U o U' => ∃ v L, o = .returned v ∧ (own_k5_3_Q Z pv pd ch0 ch1 ch2 h0 n0) v U'.heap L ∧ FrameEnd U o U' L ({ frames := 0, cells := 0, slots := 0, locals := 0 } : Room).cells ({ frames := 0, cells := 0, slots := 0, locals := 0 } : Room).slots) := by
  refine MetFree.of_bodySF (plainFor_of_name own_k5_3_pn) hisR ?_
  intro p e s m args below meth c s₁ Bd hml0 hP hK
  obtain ⟨rfl, hZ, hh⟩ := hP
  have hx := Bd.exec
  have hby := Bd.bytes
  have hml : c.maxLocals = 7 := hml0
  have hown : s.vm.findClass "java/lang/StringUTF16" = some m.cls := findClass_of_methodNamed Bd.named
  have hnm := (name_of_methodNamed Bd.named Bd.method).1
  have hlk : meth.locks = false := Bd.notSynchronized
  have X0 : Stand p l e ({ frames := 0, cells := 0, slots := 0, locals := 0 } : Room) s m #[(.ref pv), (.int (0 : Int32)), (.ref pd), (.int (0 : Int32)), (.int (3 : Int32))] below meth c s₁ [] 0 0 := Stand.of_body Bd
  have e0 : s₁.heap = h0 := by rw [← hh, Bd.state]; rfl
  have N0 := Fr.nil n0
  show own_G p.tables e below (fun o U' => ∃ v L, o = .returned v ∧ (own_k5_3_Q Z pv pd ch0 ch1 ch2 h0 n0) v U'.heap L ∧ FrameEnd s o U' L ({ frames := 0, cells := 0, slots := 0, locals := 0 } : Room).cells ({ frames := 0, cells := 0, slots := 0, locals := 0 } : Room).slots) (s₁.setTop (entryFrame m #[(.ref pv), (.int (0 : Int32)), (.ref pd), (.int (0 : Int32)), (.int (3 : Int32))] 7))
  refine own_go (B := s₁.setTop (mkF m 0 #[rv pv, iv (0 : Int32), rv pd, iv (0 : Int32), iv (3 : Int32), .unset, .unset] [])) (fun t k => castTop (own_k5_3_ef m pv pd) k) ?_
  have K0 := Keep.refl h0 [pd]
  refine own_go (B := (s₁.setTop (mkF m 1 #[rv pv, iv (0 : Int32), rv pd, iv (0 : Int32), iv (3 : Int32), .unset, .unset] [(.int (0 : Int32))]))) (fun t k => own_iconst (v := (0 : Int32)) X0.here hx rfl (hb hby own_k5_3_d0) (by decide) k) ?_
  refine own_go (B := (s₁.setTop (mkF m 3 #[rv pv, iv (0 : Int32), rv pd, iv (0 : Int32), iv (3 : Int32), iv (0 : Int32), .unset] []))) (fun t k => XS.istore X0.here hx rfl (hb hby own_k5_3_d1) rfl (l' := #[rv pv, iv (0 : Int32), rv pd, iv (0 : Int32), iv (3 : Int32), iv (0 : Int32), .unset]) rfl k) ?_
  refine own_go (B := (s₁.setTop (mkF m 5 #[rv pv, iv (0 : Int32), rv pd, iv (0 : Int32), iv (3 : Int32), iv (0 : Int32), .unset] [(.int (0 : Int32))]))) (fun t k => XS.iload X0.here hx rfl (hb hby own_k5_3_d3) rfl k) ?_
  refine own_go (B := (s₁.setTop (mkF m 7 #[rv pv, iv (0 : Int32), rv pd, iv (0 : Int32), iv (3 : Int32), iv (0 : Int32), .unset] [(.int (3 : Int32)), (.int (0 : Int32))]))) (fun t k => XS.iload X0.here hx rfl (hb hby own_k5_3_d5) rfl k) ?_
  have hc_1 : (0 : Int32) < (3 : Int32) := (by decide)
  refine own_icmpN X0 hx (hb hby own_k5_3_d7) (pn := 10) rfl hc_1 ?_
  refine own_go (B := (s₁.setTop (mkF m 11 #[rv pv, iv (0 : Int32), rv pd, iv (0 : Int32), iv (3 : Int32), iv (0 : Int32), .unset] [(.ref pv)]))) (fun t k => XS.aloadN X0.here hx rfl (hb hby own_k5_3_d10) rfl rfl k) ?_
  refine own_go (B := (s₁.setTop (mkF m 12 #[rv pv, iv (0 : Int32), rv pd, iv (0 : Int32), iv (3 : Int32), iv (0 : Int32), .unset] [(.int (0 : Int32)), (.ref pv)]))) (fun t k => XS.iloadN X0.here hx rfl (hb hby own_k5_3_d11) rfl k) ?_
  refine own_go (B := (s₁.setTop (mkF m 13 #[rv pv, iv (0 : Int32), rv pd, iv (0 : Int32), iv (3 : Int32), iv (0 : Int32), .unset] [(.int ch0)]))) (own_ldC X0 hx hZ e0 V0 (v := (.int ch0)) (by decide) rfl (g := (mkF m 12 #[rv pv, iv (0 : Int32), rv pd, iv (0 : Int32), iv (3 : Int32), iv (0 : Int32), .unset] [(.int (0 : Int32)), (.ref pv)])) rfl rfl (hb hby own_k5_3_d12)) ?_
  refine own_go (B := (s₁.setTop (mkF m 15 #[rv pv, iv (0 : Int32), rv pd, iv (0 : Int32), iv (3 : Int32), iv (0 : Int32), iv ch0] []))) (fun t k => XS.istore X0.here hx rfl (hb hby own_k5_3_d13) rfl (l' := #[rv pv, iv (0 : Int32), rv pd, iv (0 : Int32), iv (3 : Int32), iv (0 : Int32), iv ch0]) rfl k) ?_
  refine own_go (B := (s₁.setTop (mkF m 17 #[rv pv, iv (0 : Int32), rv pd, iv (0 : Int32), iv (3 : Int32), iv (0 : Int32), iv ch0] [(.int ch0)]))) (fun t k => XS.iload X0.here hx rfl (hb hby own_k5_3_d15) rfl k) ?_
  refine own_go (B := (s₁.setTop (mkF m 20 #[rv pv, iv (0 : Int32), rv pd, iv (0 : Int32), iv (3 : Int32), iv (0 : Int32), iv ch0] [(.int (255 : Int32)), (.int ch0)]))) (fun t k => own_sipush (v := (255 : Int32)) X0.here hx rfl (hb hby own_k5_3_d17) (by decide) k) ?_
  refine own_icmp X0 hx (hb hby own_k5_3_d20) (pc' := 26) (pn := 23) (by decide) (by decide) rfl (fun (hc_2 : ¬ (255 : Int32) < ch0) => ?_) (fun (hc_2 : (255 : Int32) < ch0) => ?_)
  · refine own_go (B := (s₁.setTop (mkF m 27 #[rv pv, iv (0 : Int32), rv pd, iv (0 : Int32), iv (3 : Int32), iv (0 : Int32), iv ch0] [(.ref pd)]))) (fun t k => XS.aloadN X0.here hx rfl (hb hby own_k5_3_d26) rfl rfl k) ?_
    refine own_go (B := (s₁.setTop (mkF m 28 #[rv pv, iv (0 : Int32), rv pd, iv (0 : Int32), iv (3 : Int32), iv (0 : Int32), iv ch0] [(.int (0 : Int32)), (.ref pd)]))) (fun t k => XS.iloadN X0.here hx rfl (hb hby own_k5_3_d27) rfl k) ?_
    refine own_go (B := (s₁.setTop (mkF m 30 #[rv pv, iv (0 : Int32), rv pd, iv (0 : Int32), iv (3 : Int32), iv (0 : Int32), iv ch0] [(.int ch0), (.int (0 : Int32)), (.ref pd)]))) (fun t k => XS.iload X0.here hx rfl (hb hby own_k5_3_d28) rfl k) ?_
    refine own_go (B := (s₁.setTop (mkF m 31 #[rv pv, iv (0 : Int32), rv pd, iv (0 : Int32), iv (3 : Int32), iv (0 : Int32), iv ch0] [(.int (ch0.toInt8.toInt32)), (.int (0 : Int32)), (.ref pd)]))) (fun t k => XS.i2b X0.here hx rfl (hb hby own_k5_3_d30) rfl k) ?_
    obtain ⟨T3, h3, X3, e3, W3, V3, st3⟩ := own_stB X0 hx hZ e0 V1 (i := 0) (by decide) (by decide) (Nat.lt_of_lt_of_eq (by decide : 0 < 3) rfl) (own_i2b _) (L' := [(.int (ch0.toInt8.toInt32)), (.int (0 : Int32)), (.int (0 : Int32))]) rfl (g := (mkF m 31 #[rv pv, iv (0 : Int32), rv pd, iv (0 : Int32), iv (3 : Int32), iv (0 : Int32), iv ch0] [(.int (ch0.toInt8.toInt32)), (.int (0 : Int32)), (.ref pd)])) rfl rfl (hb hby own_k5_3_d31)
    refine own_go (B := (T3.setTop (mkF m 32 #[rv pv, iv (0 : Int32), rv pd, iv (0 : Int32), iv (3 : Int32), iv (0 : Int32), iv ch0] []))) st3 ?_
    obtain ⟨L3, X3, N3⟩ := own_abs X3 (Fr.snoc X3 N0 g0)
    have F4 : n0 ≤ h3.size := by rw [W3.size]; exact Z0
    have F5 := Keep.wr K0 W3 (Or.inl (List.mem_of_getElem? (i := 0) rfl))
    have F6 := own_Ar_other V0 W3 nvd
    refine own_go (B := (T3.setTop (mkF m 35 #[rv pv, iv (1 : Int32), rv pd, iv (0 : Int32), iv (3 : Int32), iv (0 : Int32), iv ch0] []))) (fun t k => XS.iinc X3.here hx rfl (hb hby own_k5_3_d32) rfl (l' := #[rv pv, iv (1 : Int32), rv pd, iv (0 : Int32), iv (3 : Int32), iv (0 : Int32), iv ch0]) rfl k) ?_
    refine own_go (B := (T3.setTop (mkF m 38 #[rv pv, iv (1 : Int32), rv pd, iv (1 : Int32), iv (3 : Int32), iv (0 : Int32), iv ch0] []))) (fun t k => XS.iinc X3.here hx rfl (hb hby own_k5_3_d35) rfl (l' := #[rv pv, iv (1 : Int32), rv pd, iv (1 : Int32), iv (3 : Int32), iv (0 : Int32), iv ch0]) rfl k) ?_
    refine own_go (B := (T3.setTop (mkF m 41 #[rv pv, iv (1 : Int32), rv pd, iv (1 : Int32), iv (3 : Int32), iv (1 : Int32), iv ch0] []))) (fun t k => XS.iinc X3.here hx rfl (hb hby own_k5_3_d38) rfl (l' := #[rv pv, iv (1 : Int32), rv pd, iv (1 : Int32), iv (3 : Int32), iv (1 : Int32), iv ch0]) rfl k) ?_
    refine own_go (B := (T3.setTop (mkF m 3 #[rv pv, iv (1 : Int32), rv pd, iv (1 : Int32), iv (3 : Int32), iv (1 : Int32), iv ch0] []))) (fun t k => XS.goto X3.here hx rfl (pc0 := 41) (pc' := 3) rfl (hb hby own_k5_3_d41) (by decide) (by decide) k) ?_
    refine own_go (B := (T3.setTop (mkF m 5 #[rv pv, iv (1 : Int32), rv pd, iv (1 : Int32), iv (3 : Int32), iv (1 : Int32), iv ch0] [(.int (1 : Int32))]))) (fun t k => XS.iload X3.here hx rfl (hb hby own_k5_3_d3) rfl k) ?_
    refine own_go (B := (T3.setTop (mkF m 7 #[rv pv, iv (1 : Int32), rv pd, iv (1 : Int32), iv (3 : Int32), iv (1 : Int32), iv ch0] [(.int (3 : Int32)), (.int (1 : Int32))]))) (fun t k => XS.iload X3.here hx rfl (hb hby own_k5_3_d5) rfl k) ?_
    have hc_8 : (1 : Int32) < (3 : Int32) := (by decide)
    refine own_icmpN X3 hx (hb hby own_k5_3_d7) (pn := 10) rfl hc_8 ?_
    refine own_go (B := (T3.setTop (mkF m 11 #[rv pv, iv (1 : Int32), rv pd, iv (1 : Int32), iv (3 : Int32), iv (1 : Int32), iv ch0] [(.ref pv)]))) (fun t k => XS.aloadN X3.here hx rfl (hb hby own_k5_3_d10) rfl rfl k) ?_
    refine own_go (B := (T3.setTop (mkF m 12 #[rv pv, iv (1 : Int32), rv pd, iv (1 : Int32), iv (3 : Int32), iv (1 : Int32), iv ch0] [(.int (1 : Int32)), (.ref pv)]))) (fun t k => XS.iloadN X3.here hx rfl (hb hby own_k5_3_d11) rfl k) ?_
    refine own_go (B := (T3.setTop (mkF m 13 #[rv pv, iv (1 : Int32), rv pd, iv (1 : Int32), iv (3 : Int32), iv (1 : Int32), iv ch0] [(.int ch1)]))) (own_ldC X3 hx hZ e3 F6 (v := (.int ch1)) (by decide) rfl (g := (mkF m 12 #[rv pv, iv (1 : Int32), rv pd, iv (1 : Int32), iv (3 : Int32), iv (1 : Int32), iv ch0] [(.int (1 : Int32)), (.ref pv)])) rfl rfl (hb hby own_k5_3_d12)) ?_
    refine own_go (B := (T3.setTop (mkF m 15 #[rv pv, iv (1 : Int32), rv pd, iv (1 : Int32), iv (3 : Int32), iv (1 : Int32), iv ch1] []))) (fun t k => XS.istore X3.here hx rfl (hb hby own_k5_3_d13) rfl (l' := #[rv pv, iv (1 : Int32), rv pd, iv (1 : Int32), iv (3 : Int32), iv (1 : Int32), iv ch1]) rfl k) ?_
    refine own_go (B := (T3.setTop (mkF m 17 #[rv pv, iv (1 : Int32), rv pd, iv (1 : Int32), iv (3 : Int32), iv (1 : Int32), iv ch1] [(.int ch1)]))) (fun t k => XS.iload X3.here hx rfl (hb hby own_k5_3_d15) rfl k) ?_
    refine own_go (B := (T3.setTop (mkF m 20 #[rv pv, iv (1 : Int32), rv pd, iv (1 : Int32), iv (3 : Int32), iv (1 : Int32), iv ch1] [(.int (255 : Int32)), (.int ch1)]))) (fun t k => own_sipush (v := (255 : Int32)) X3.here hx rfl (hb hby own_k5_3_d17) (by decide) k) ?_
    refine own_icmp X3 hx (hb hby own_k5_3_d20) (pc' := 26) (pn := 23) (by decide) (by decide) rfl (fun (hc_9 : ¬ (255 : Int32) < ch1) => ?_) (fun (hc_9 : (255 : Int32) < ch1) => ?_)
    · refine own_go (B := (T3.setTop (mkF m 27 #[rv pv, iv (1 : Int32), rv pd, iv (1 : Int32), iv (3 : Int32), iv (1 : Int32), iv ch1] [(.ref pd)]))) (fun t k => XS.aloadN X3.here hx rfl (hb hby own_k5_3_d26) rfl rfl k) ?_
      refine own_go (B := (T3.setTop (mkF m 28 #[rv pv, iv (1 : Int32), rv pd, iv (1 : Int32), iv (3 : Int32), iv (1 : Int32), iv ch1] [(.int (1 : Int32)), (.ref pd)]))) (fun t k => XS.iloadN X3.here hx rfl (hb hby own_k5_3_d27) rfl k) ?_
      refine own_go (B := (T3.setTop (mkF m 30 #[rv pv, iv (1 : Int32), rv pd, iv (1 : Int32), iv (3 : Int32), iv (1 : Int32), iv ch1] [(.int ch1), (.int (1 : Int32)), (.ref pd)]))) (fun t k => XS.iload X3.here hx rfl (hb hby own_k5_3_d28) rfl k) ?_
      refine own_go (B := (T3.setTop (mkF m 31 #[rv pv, iv (1 : Int32), rv pd, iv (1 : Int32), iv (3 : Int32), iv (1 : Int32), iv ch1] [(.int (ch1.toInt8.toInt32)), (.int (1 : Int32)), (.ref pd)]))) (fun t k => XS.i2b X3.here hx rfl (hb hby own_k5_3_d30) rfl k) ?_
      obtain ⟨T10, h10, X10, e10, W10, V10, st10⟩ := own_stB X3 hx hZ e3 V3 (i := 1) (by decide) (by decide) (Nat.lt_of_lt_of_eq (by decide : 1 < 3) rfl) (own_i2b _) (L' := [(.int (ch0.toInt8.toInt32)), (.int (ch1.toInt8.toInt32)), (.int (0 : Int32))]) rfl (g := (mkF m 31 #[rv pv, iv (1 : Int32), rv pd, iv (1 : Int32), iv (3 : Int32), iv (1 : Int32), iv ch1] [(.int (ch1.toInt8.toInt32)), (.int (1 : Int32)), (.ref pd)])) rfl rfl (hb hby own_k5_3_d31)
      refine own_go (B := (T10.setTop (mkF m 32 #[rv pv, iv (1 : Int32), rv pd, iv (1 : Int32), iv (3 : Int32), iv (1 : Int32), iv ch1] []))) st10 ?_
      obtain ⟨L10, X10, N10⟩ := own_abs X10 (Fr.snoc X10 N3 g0)
      have F11 : n0 ≤ h10.size := by rw [W10.size]; exact F4
      have F12 := Keep.wr F5 W10 (Or.inl (List.mem_of_getElem? (i := 0) rfl))
      have F13 := own_Ar_other F6 W10 nvd
      refine own_go (B := (T10.setTop (mkF m 35 #[rv pv, iv (2 : Int32), rv pd, iv (1 : Int32), iv (3 : Int32), iv (1 : Int32), iv ch1] []))) (fun t k => XS.iinc X10.here hx rfl (hb hby own_k5_3_d32) rfl (l' := #[rv pv, iv (2 : Int32), rv pd, iv (1 : Int32), iv (3 : Int32), iv (1 : Int32), iv ch1]) rfl k) ?_
      refine own_go (B := (T10.setTop (mkF m 38 #[rv pv, iv (2 : Int32), rv pd, iv (2 : Int32), iv (3 : Int32), iv (1 : Int32), iv ch1] []))) (fun t k => XS.iinc X10.here hx rfl (hb hby own_k5_3_d35) rfl (l' := #[rv pv, iv (2 : Int32), rv pd, iv (2 : Int32), iv (3 : Int32), iv (1 : Int32), iv ch1]) rfl k) ?_
      refine own_go (B := (T10.setTop (mkF m 41 #[rv pv, iv (2 : Int32), rv pd, iv (2 : Int32), iv (3 : Int32), iv (2 : Int32), iv ch1] []))) (fun t k => XS.iinc X10.here hx rfl (hb hby own_k5_3_d38) rfl (l' := #[rv pv, iv (2 : Int32), rv pd, iv (2 : Int32), iv (3 : Int32), iv (2 : Int32), iv ch1]) rfl k) ?_
      refine own_go (B := (T10.setTop (mkF m 3 #[rv pv, iv (2 : Int32), rv pd, iv (2 : Int32), iv (3 : Int32), iv (2 : Int32), iv ch1] []))) (fun t k => XS.goto X10.here hx rfl (pc0 := 41) (pc' := 3) rfl (hb hby own_k5_3_d41) (by decide) (by decide) k) ?_
      refine own_go (B := (T10.setTop (mkF m 5 #[rv pv, iv (2 : Int32), rv pd, iv (2 : Int32), iv (3 : Int32), iv (2 : Int32), iv ch1] [(.int (2 : Int32))]))) (fun t k => XS.iload X10.here hx rfl (hb hby own_k5_3_d3) rfl k) ?_
      refine own_go (B := (T10.setTop (mkF m 7 #[rv pv, iv (2 : Int32), rv pd, iv (2 : Int32), iv (3 : Int32), iv (2 : Int32), iv ch1] [(.int (3 : Int32)), (.int (2 : Int32))]))) (fun t k => XS.iload X10.here hx rfl (hb hby own_k5_3_d5) rfl k) ?_
      have hc_15 : (2 : Int32) < (3 : Int32) := (by decide)
      refine own_icmpN X10 hx (hb hby own_k5_3_d7) (pn := 10) rfl hc_15 ?_
      refine own_go (B := (T10.setTop (mkF m 11 #[rv pv, iv (2 : Int32), rv pd, iv (2 : Int32), iv (3 : Int32), iv (2 : Int32), iv ch1] [(.ref pv)]))) (fun t k => XS.aloadN X10.here hx rfl (hb hby own_k5_3_d10) rfl rfl k) ?_
      refine own_go (B := (T10.setTop (mkF m 12 #[rv pv, iv (2 : Int32), rv pd, iv (2 : Int32), iv (3 : Int32), iv (2 : Int32), iv ch1] [(.int (2 : Int32)), (.ref pv)]))) (fun t k => XS.iloadN X10.here hx rfl (hb hby own_k5_3_d11) rfl k) ?_
      refine own_go (B := (T10.setTop (mkF m 13 #[rv pv, iv (2 : Int32), rv pd, iv (2 : Int32), iv (3 : Int32), iv (2 : Int32), iv ch1] [(.int ch2)]))) (own_ldC X10 hx hZ e10 F13 (v := (.int ch2)) (by decide) rfl (g := (mkF m 12 #[rv pv, iv (2 : Int32), rv pd, iv (2 : Int32), iv (3 : Int32), iv (2 : Int32), iv ch1] [(.int (2 : Int32)), (.ref pv)])) rfl rfl (hb hby own_k5_3_d12)) ?_
      refine own_go (B := (T10.setTop (mkF m 15 #[rv pv, iv (2 : Int32), rv pd, iv (2 : Int32), iv (3 : Int32), iv (2 : Int32), iv ch2] []))) (fun t k => XS.istore X10.here hx rfl (hb hby own_k5_3_d13) rfl (l' := #[rv pv, iv (2 : Int32), rv pd, iv (2 : Int32), iv (3 : Int32), iv (2 : Int32), iv ch2]) rfl k) ?_
      refine own_go (B := (T10.setTop (mkF m 17 #[rv pv, iv (2 : Int32), rv pd, iv (2 : Int32), iv (3 : Int32), iv (2 : Int32), iv ch2] [(.int ch2)]))) (fun t k => XS.iload X10.here hx rfl (hb hby own_k5_3_d15) rfl k) ?_
      refine own_go (B := (T10.setTop (mkF m 20 #[rv pv, iv (2 : Int32), rv pd, iv (2 : Int32), iv (3 : Int32), iv (2 : Int32), iv ch2] [(.int (255 : Int32)), (.int ch2)]))) (fun t k => own_sipush (v := (255 : Int32)) X10.here hx rfl (hb hby own_k5_3_d17) (by decide) k) ?_
      refine own_icmp X10 hx (hb hby own_k5_3_d20) (pc' := 26) (pn := 23) (by decide) (by decide) rfl (fun (hc_16 : ¬ (255 : Int32) < ch2) => ?_) (fun (hc_16 : (255 : Int32) < ch2) => ?_)
      · refine own_go (B := (T10.setTop (mkF m 27 #[rv pv, iv (2 : Int32), rv pd, iv (2 : Int32), iv (3 : Int32), iv (2 : Int32), iv ch2] [(.ref pd)]))) (fun t k => XS.aloadN X10.here hx rfl (hb hby own_k5_3_d26) rfl rfl k) ?_
        refine own_go (B := (T10.setTop (mkF m 28 #[rv pv, iv (2 : Int32), rv pd, iv (2 : Int32), iv (3 : Int32), iv (2 : Int32), iv ch2] [(.int (2 : Int32)), (.ref pd)]))) (fun t k => XS.iloadN X10.here hx rfl (hb hby own_k5_3_d27) rfl k) ?_
        refine own_go (B := (T10.setTop (mkF m 30 #[rv pv, iv (2 : Int32), rv pd, iv (2 : Int32), iv (3 : Int32), iv (2 : Int32), iv ch2] [(.int ch2), (.int (2 : Int32)), (.ref pd)]))) (fun t k => XS.iload X10.here hx rfl (hb hby own_k5_3_d28) rfl k) ?_
        refine own_go (B := (T10.setTop (mkF m 31 #[rv pv, iv (2 : Int32), rv pd, iv (2 : Int32), iv (3 : Int32), iv (2 : Int32), iv ch2] [(.int (ch2.toInt8.toInt32)), (.int (2 : Int32)), (.ref pd)]))) (fun t k => XS.i2b X10.here hx rfl (hb hby own_k5_3_d30) rfl k) ?_
        obtain ⟨T17, h17, X17, e17, W17, V17, st17⟩ := own_stB X10 hx hZ e10 V10 (i := 2) (by decide) (by decide) (Nat.lt_of_lt_of_eq (by decide : 2 < 3) rfl) (own_i2b _) (L' := [(.int (ch0.toInt8.toInt32)), (.int (ch1.toInt8.toInt32)), (.int (ch2.toInt8.toInt32))]) rfl (g := (mkF m 31 #[rv pv, iv (2 : Int32), rv pd, iv (2 : Int32), iv (3 : Int32), iv (2 : Int32), iv ch2] [(.int (ch2.toInt8.toInt32)), (.int (2 : Int32)), (.ref pd)])) rfl rfl (hb hby own_k5_3_d31)
        refine own_go (B := (T17.setTop (mkF m 32 #[rv pv, iv (2 : Int32), rv pd, iv (2 : Int32), iv (3 : Int32), iv (2 : Int32), iv ch2] []))) st17 ?_
        obtain ⟨L17, X17, N17⟩ := own_abs X17 (Fr.snoc X17 N10 g0)
        have F18 : n0 ≤ h17.size := by rw [W17.size]; exact F11
        have F19 := Keep.wr F12 W17 (Or.inl (List.mem_of_getElem? (i := 0) rfl))
        have F20 := own_Ar_other F13 W17 nvd
        refine own_go (B := (T17.setTop (mkF m 35 #[rv pv, iv (3 : Int32), rv pd, iv (2 : Int32), iv (3 : Int32), iv (2 : Int32), iv ch2] []))) (fun t k => XS.iinc X17.here hx rfl (hb hby own_k5_3_d32) rfl (l' := #[rv pv, iv (3 : Int32), rv pd, iv (2 : Int32), iv (3 : Int32), iv (2 : Int32), iv ch2]) rfl k) ?_
        refine own_go (B := (T17.setTop (mkF m 38 #[rv pv, iv (3 : Int32), rv pd, iv (3 : Int32), iv (3 : Int32), iv (2 : Int32), iv ch2] []))) (fun t k => XS.iinc X17.here hx rfl (hb hby own_k5_3_d35) rfl (l' := #[rv pv, iv (3 : Int32), rv pd, iv (3 : Int32), iv (3 : Int32), iv (2 : Int32), iv ch2]) rfl k) ?_
        refine own_go (B := (T17.setTop (mkF m 41 #[rv pv, iv (3 : Int32), rv pd, iv (3 : Int32), iv (3 : Int32), iv (3 : Int32), iv ch2] []))) (fun t k => XS.iinc X17.here hx rfl (hb hby own_k5_3_d38) rfl (l' := #[rv pv, iv (3 : Int32), rv pd, iv (3 : Int32), iv (3 : Int32), iv (3 : Int32), iv ch2]) rfl k) ?_
        refine own_go (B := (T17.setTop (mkF m 3 #[rv pv, iv (3 : Int32), rv pd, iv (3 : Int32), iv (3 : Int32), iv (3 : Int32), iv ch2] []))) (fun t k => XS.goto X17.here hx rfl (pc0 := 41) (pc' := 3) rfl (hb hby own_k5_3_d41) (by decide) (by decide) k) ?_
        refine own_go (B := (T17.setTop (mkF m 5 #[rv pv, iv (3 : Int32), rv pd, iv (3 : Int32), iv (3 : Int32), iv (3 : Int32), iv ch2] [(.int (3 : Int32))]))) (fun t k => XS.iload X17.here hx rfl (hb hby own_k5_3_d3) rfl k) ?_
        refine own_go (B := (T17.setTop (mkF m 7 #[rv pv, iv (3 : Int32), rv pd, iv (3 : Int32), iv (3 : Int32), iv (3 : Int32), iv ch2] [(.int (3 : Int32)), (.int (3 : Int32))]))) (fun t k => XS.iload X17.here hx rfl (hb hby own_k5_3_d5) rfl k) ?_
        have hc_22 : ¬ (3 : Int32) < (3 : Int32) := (by decide)
        refine own_icmpY X17 hx (hb hby own_k5_3_d7) (pc' := 44) (by decide) (by decide) hc_22 ?_
        refine own_go (B := (T17.setTop (mkF m 46 #[rv pv, iv (3 : Int32), rv pd, iv (3 : Int32), iv (3 : Int32), iv (3 : Int32), iv ch2] [(.int (3 : Int32))]))) (fun t k => XS.iload X17.here hx rfl (hb hby own_k5_3_d44) rfl k) ?_
        exact own_retI X17 hx hlk Bd.returns (hb hby own_k5_3_d46) (own_b rfl) (own_b rfl) (Q := (own_k5_3_Q Z pv pd ch0 ch1 ch2 h0 n0)) (by rw [e17]; exact ⟨_, [(.int (ch0.toInt8.toInt32)), (.int (ch1.toInt8.toInt32)), (.int (ch2.toInt8.toInt32))], rfl, N17, F19, V17, rfl, Or.inl rfl⟩)
      · refine own_go (B := (T10.setTop (mkF m 25 #[rv pv, iv (2 : Int32), rv pd, iv (2 : Int32), iv (3 : Int32), iv (2 : Int32), iv ch2] [(.int (2 : Int32))]))) (fun t k => XS.iload X10.here hx rfl (hb hby own_k5_3_d23) rfl k) ?_
        exact own_retI X10 hx hlk Bd.returns (hb hby own_k5_3_d25) (own_b rfl) (own_b rfl) (Q := (own_k5_3_Q Z pv pd ch0 ch1 ch2 h0 n0)) (by rw [e10]; exact ⟨_, [(.int (ch0.toInt8.toInt32)), (.int (ch1.toInt8.toInt32)), (.int (0 : Int32))], rfl, N10, F12, V10, rfl, Or.inr (Or.inr (Or.inr (⟨rfl, hc_16⟩)))⟩)
    · refine own_go (B := (T3.setTop (mkF m 25 #[rv pv, iv (1 : Int32), rv pd, iv (1 : Int32), iv (3 : Int32), iv (1 : Int32), iv ch1] [(.int (1 : Int32))]))) (fun t k => XS.iload X3.here hx rfl (hb hby own_k5_3_d23) rfl k) ?_
      exact own_retI X3 hx hlk Bd.returns (hb hby own_k5_3_d25) (own_b rfl) (own_b rfl) (Q := (own_k5_3_Q Z pv pd ch0 ch1 ch2 h0 n0)) (by rw [e3]; exact ⟨_, [(.int (ch0.toInt8.toInt32)), (.int (0 : Int32)), (.int (0 : Int32))], rfl, N3, F5, V3, rfl, Or.inr (Or.inr (Or.inl ⟨rfl, hc_9⟩))⟩)
  · refine own_go (B := (s₁.setTop (mkF m 25 #[rv pv, iv (0 : Int32), rv pd, iv (0 : Int32), iv (3 : Int32), iv (0 : Int32), iv ch0] [(.int (0 : Int32))]))) (fun t k => XS.iload X0.here hx rfl (hb hby own_k5_3_d23) rfl k) ?_
    exact own_retI X0 hx hlk Bd.returns (hb hby own_k5_3_d25) (own_b rfl) (own_b rfl) (Q := (own_k5_3_Q Z pv pd ch0 ch1 ch2 h0 n0)) (by rw [e0]; exact ⟨_, [(.int (0 : Int32)), (.int (0 : Int32)), (.int (0 : Int32))], rfl, N0, K0, V1, rfl, Or.inr (Or.inl ⟨rfl, hc_2⟩)⟩)

theorem own_k3_3_d0 : decode jdk_52_method_16_code 0 = .ok (.iload_n 2, 1) := by decide +kernel
theorem own_k3_3_d1 : decode jdk_52_method_16_code 1 = .ok (.newarray .byte, 2) := by decide +kernel
theorem own_k3_3_d3 : decode jdk_52_method_16_code 3 = .ok (.astore_n 3, 1) := by decide +kernel
theorem own_k3_3_d4 : decode jdk_52_method_16_code 4 = .ok (.aload_n 0, 1) := by decide +kernel
theorem own_k3_3_d5 : decode jdk_52_method_16_code 5 = .ok (.iload_n 1, 1) := by decide +kernel
theorem own_k3_3_d6 : decode jdk_52_method_16_code 6 = .ok (.aload_n 3, 1) := by decide +kernel
theorem own_k3_3_d7 : decode jdk_52_method_16_code 7 = .ok (.iconst 0, 1) := by decide +kernel
theorem own_k3_3_d8 : decode jdk_52_method_16_code 8 = .ok (.iload_n 2, 1) := by decide +kernel
theorem own_k3_3_d9 : decode jdk_52_method_16_code 9 = .ok (.invokestatic 115, 3) := by decide +kernel
theorem own_k3_3_d12 : decode jdk_52_method_16_code 12 = .ok (.istore 4, 2) := by decide +kernel
theorem own_k3_3_d14 : decode jdk_52_method_16_code 14 = .ok (.iload 4, 2) := by decide +kernel
theorem own_k3_3_d16 : decode jdk_52_method_16_code 16 = .ok (.iload_n 2, 1) := by decide +kernel
theorem own_k3_3_d17 : decode jdk_52_method_16_code 17 = .ok (.if_icmp .eq 40, 3) := by decide +kernel
theorem own_k3_3_d20 : decode jdk_52_method_16_code 20 = .ok (.aload_n 0, 1) := by decide +kernel
theorem own_k3_3_d21 : decode jdk_52_method_16_code 21 = .ok (.iload_n 1, 1) := by decide +kernel
theorem own_k3_3_d22 : decode jdk_52_method_16_code 22 = .ok (.iload_n 2, 1) := by decide +kernel
theorem own_k3_3_d23 : decode jdk_52_method_16_code 23 = .ok (.invokestatic 119, 3) := by decide +kernel
theorem own_k3_3_d26 : decode jdk_52_method_16_code 26 = .ok (.astore 5, 2) := by decide +kernel
theorem own_k3_3_d28 : decode jdk_52_method_16_code 28 = .ok (.aload 5, 2) := by decide +kernel
theorem own_k3_3_d30 : decode jdk_52_method_16_code 30 = .ok (.iload 4, 2) := by decide +kernel
theorem own_k3_3_d32 : decode jdk_52_method_16_code 32 = .ok (.invokestatic 71, 3) := by decide +kernel
theorem own_k3_3_d35 : decode jdk_52_method_16_code 35 = .ok (.sipush 255, 3) := by decide +kernel
theorem own_k3_3_d38 : decode jdk_52_method_16_code 38 = .ok (.if_icmp .gt 16, 3) := by decide +kernel
theorem own_k3_3_d54 : decode jdk_52_method_16_code 54 = .ok (.aload 5, 2) := by decide +kernel
theorem own_k3_3_d56 : decode jdk_52_method_16_code 56 = .ok (.areturn, 1) := by decide +kernel
theorem own_k3_3_d57 : decode jdk_52_method_16_code 57 = .ok (.aload_n 3, 1) := by decide +kernel
theorem own_k3_3_d58 : decode jdk_52_method_16_code 58 = .ok (.areturn, 1) := by decide +kernel
theorem own_k3_3_pn : plainName "java/lang/StringUTF16" = true := by first | (simp [plainName, overriddenIn]; done) | decide +kernel
theorem own_k3_3_ef (m : MethodId) (pv : Addr) : entryFrame m #[(.ref pv), (.int (0 : Int32)), (.int (3 : Int32))] 6 = mkF m 0 #[rv pv, iv (0 : Int32), iv (3 : Int32), .unset, .unset, .unset] [] := by first | (simp [entryFrame, mkF, argsToLocals, Value.category]; done) | rfl
def own_k3_3_Q (Z : State) (pv : Addr) (ch0 ch1 ch2 : Int32) (h0 : Heap) (n0 : Nat) (v : Option Value) (h : Heap) (L : List Loc) : Prop := ∃ b Lb, v = some (.ref b) ∧ Fr n0 L ∧ Keep h0 h [] ∧ own_Ar Z h b .byte Lb ∧ (Lb.length = 3 ∨ Lb.length = 6)
set_option maxRecDepth 65536 in
set_option maxHeartbeats 40000000 in
theorem own_k3_3 (l : Launch) (Z : State) (a0 : Array Value) (hw : ∀ d ∈ tables_1, d.before a0 Z = true) (ws : List Jvm.Cond) (pv : Addr) (ch0 ch1 ch2 : Int32) (h0 : Heap) (n0 : Nat) (Z0 : n0 ≤ h0.size) (V0 : own_Ar Z h0 pv .char [(.int ch0), (.int ch1), (.int ch2)]) (hn0 : nar .char ch0 = ch0) (hn1 : nar .char ch1 = ch1) (hn2 : nar .char ch2 = ch2) (hSa : Sta Z h0 "java/lang/StringUTF16" "$assertionsDisabled" "Z" (.int (1 : Int32))) (hSh : Sta Z h0 "java/lang/StringUTF16" "HI_BYTE_SHIFT" "I" (.int (0 : Int32))) (hSl : Sta Z h0 "java/lang/StringUTF16" "LO_BYTE_SHIFT" "I" (.int (8 : Int32))) :
    MetFree l own_y7 (head1 (Jvm.Cond.code own_y7 jdk_52_method_16_code 6 (some (.array .byte)) :: ws) ({ frames := 3, cells := 2, slots := 9, locals := 40 } : Room)) (fun a U => a = #[(.ref pv), (.int (0 : Int32)), (.int (3 : Int32))] ∧ Z.Warmed39 U.vm ∧ U.heap = h0) (fun _ _ _ _ _ => True) (fun _ U o U' => ∃ v L, o = .returned v ∧ (own_k3_3_Q Z pv ch0 ch1 ch2 h0 n0) v U'.heap L ∧ FrameEnd U o U' L ({ frames := 3, cells := 2, slots := 9, locals := 40 } : Room).cells ({ frames := 3, cells := 2, slots := 9, locals := 40 } : Room).slots) := by
  refine MetFree.of_bodySF (plainFor_of_name own_k3_3_pn) hisR ?_
  intro p e s m args below meth c s₁ Bd hml0 hP hK
  obtain ⟨rfl, hZ, hh⟩ := hP
  have hx := Bd.exec
  have hby := Bd.bytes
  have hml : c.maxLocals = 6 := hml0
  have hown : s.vm.findClass "java/lang/StringUTF16" = some m.cls := findClass_of_methodNamed Bd.named
  have hnm := (name_of_methodNamed Bd.named Bd.method).1
  have hlk : meth.locks = false := Bd.notSynchronized
  have X0 : Stand p l e ({ frames := 3, cells := 2, slots := 9, locals := 40 } : Room) s m #[(.ref pv), (.int (0 : Int32)), (.int (3 : Int32))] below meth c s₁ [] 0 0 := Stand.of_body Bd
  have e0 : s₁.heap = h0 := by rw [← hh, Bd.state]; rfl
  have N0 := Fr.nil n0
  have w_16 := hw _ (List.mem_of_getElem? (l := tables_1) (i := 16) rfl)
  have w_40 := hw _ (List.mem_of_getElem? (l := tables_1) (i := 40) rfl)
  have w_42 := hw _ (List.mem_of_getElem? (l := tables_1) (i := 42) rfl)
  have w_43 := hw _ (List.mem_of_getElem? (l := tables_1) (i := 43) rfl)
  have w_44 := hw _ (List.mem_of_getElem? (l := tables_1) (i := 44) rfl)
  have w_76 := hw _ (List.mem_of_getElem? (l := tables_1) (i := 76) rfl)
  have w_77 := hw _ (List.mem_of_getElem? (l := tables_1) (i := 77) rfl)
  have w_78 := hw _ (List.mem_of_getElem? (l := tables_1) (i := 78) rfl)
  have w_86 := hw _ (List.mem_of_getElem? (l := tables_1) (i := 86) rfl)
  have w_87 := hw _ (List.mem_of_getElem? (l := tables_1) (i := 87) rfl)
  have w_88 := hw _ (List.mem_of_getElem? (l := tables_1) (i := 88) rfl)
  show own_G p.tables e below (fun o U' => ∃ v L, o = .returned v ∧ (own_k3_3_Q Z pv ch0 ch1 ch2 h0 n0) v U'.heap L ∧ FrameEnd s o U' L ({ frames := 3, cells := 2, slots := 9, locals := 40 } : Room).cells ({ frames := 3, cells := 2, slots := 9, locals := 40 } : Room).slots) (s₁.setTop (entryFrame m #[(.ref pv), (.int (0 : Int32)), (.int (3 : Int32))] 6))
  refine own_go (B := s₁.setTop (mkF m 0 #[rv pv, iv (0 : Int32), iv (3 : Int32), .unset, .unset, .unset] [])) (fun t k => castTop (own_k3_3_ef m pv) k) ?_
  have K0 := Keep.refl h0 []
  refine own_go (B := (s₁.setTop (mkF m 1 #[rv pv, iv (0 : Int32), iv (3 : Int32), .unset, .unset, .unset] [(.int (3 : Int32))]))) (fun t k => XS.iloadN X0.here hx rfl (hb hby own_k3_3_d0) rfl k) ?_
  obtain ⟨T1, h1, c1, X1, e1, E1, A1, st1⟩ := newP X0 hx hZ (aty := .byte) w_16 e0 (g := (mkF m 1 #[rv pv, iv (0 : Int32), iv (3 : Int32), .unset, .unset, .unset] [(.int (3 : Int32))])) rfl (hb hby own_k3_3_d1) rfl (by decide) (cap := 3) (by decide) (by decide) (own_b rfl) (own_b rfl)
  obtain ⟨a1, ga1⟩ : ∃ z, z = h0.size := ⟨_, rfl⟩
  rw [← ga1] at A1 st1
  refine own_go (B := (T1.setTop (mkF m 3 #[rv pv, iv (0 : Int32), iv (3 : Int32), .unset, .unset, .unset] [(.ref a1)]))) st1 ?_
  have Z2 : n0 ≤ h1.size := Nat.le_trans Z0 E1.1
  have K3 := Keep.ext K0 E1
  have V4 := own_Ar_ext V0 E1
  have F5 := Sta.ext E1 hSa
  have F6 := Sta.ext E1 hSh
  have F7 := Sta.ext E1 hSl
  have gn1 : n0 ≤ a1 := Nat.le_trans Z0 (Nat.le_of_eq ga1.symm)
  have ne1_pv : a1 ≠ pv := fun q => absurd (own_Ar_lt V0) (by rw [← q, ga1]; exact Nat.lt_irrefl _)
  have V1 : own_Ar Z h1 a1 .byte [(.int (0 : Int32)), (.int (0 : Int32)), (.int (0 : Int32))] := own_Ar_new A1 (N := 3) (by decide) rfl
  refine own_go (B := (T1.setTop (mkF m 4 #[rv pv, iv (0 : Int32), iv (3 : Int32), rv a1, .unset, .unset] []))) (fun t k => XS.astoreN X1.here hx rfl (hb hby own_k3_3_d3) rfl rfl (l' := #[rv pv, iv (0 : Int32), iv (3 : Int32), rv a1, .unset, .unset]) rfl k) ?_
  refine own_go (B := (T1.setTop (mkF m 5 #[rv pv, iv (0 : Int32), iv (3 : Int32), rv a1, .unset, .unset] [(.ref pv)]))) (fun t k => XS.aloadN X1.here hx rfl (hb hby own_k3_3_d4) rfl rfl k) ?_
  refine own_go (B := (T1.setTop (mkF m 6 #[rv pv, iv (0 : Int32), iv (3 : Int32), rv a1, .unset, .unset] [(.int (0 : Int32)), (.ref pv)]))) (fun t k => XS.iloadN X1.here hx rfl (hb hby own_k3_3_d5) rfl k) ?_
  refine own_go (B := (T1.setTop (mkF m 7 #[rv pv, iv (0 : Int32), iv (3 : Int32), rv a1, .unset, .unset] [(.ref a1), (.int (0 : Int32)), (.ref pv)]))) (fun t k => XS.aloadN X1.here hx rfl (hb hby own_k3_3_d6) rfl rfl k) ?_
  refine own_go (B := (T1.setTop (mkF m 8 #[rv pv, iv (0 : Int32), iv (3 : Int32), rv a1, .unset, .unset] [(.int (0 : Int32)), (.ref a1), (.int (0 : Int32)), (.ref pv)]))) (fun t k => own_iconst (v := (0 : Int32)) X1.here hx rfl (hb hby own_k3_3_d7) (by decide) k) ?_
  refine own_go (B := (T1.setTop (mkF m 9 #[rv pv, iv (0 : Int32), iv (3 : Int32), rv a1, .unset, .unset] [(.int (3 : Int32)), (.int (0 : Int32)), (.ref a1), (.int (0 : Int32)), (.ref pv)]))) (fun t k => XS.iloadN X1.here hx rfl (hb hby own_k3_3_d8) rfl k) ?_
  obtain ⟨_, _, ⟨T8, L8, k8, n8⟩, -, X8, ⟨Lc8, hQ8, l8, yy8, zz8⟩, st8⟩ := Jvm.LawKit.callS X1 hx (y := own_y4) hown (mvT hZ w_42) (mvT hZ w_43) (mvT hZ w_40) (mvT hZ w_44) (by decide) (backOf (W := 0) (own_k5_3 l Z a0 hw [] pv a1 ch0 ch1 ch2 h1 n0 Z2 gn1 V4 V1 (Ne.symm ne1_pv)) hZ w_44 w_40 (by decide) (by decide)) (g := (mkF m 9 #[rv pv, iv (0 : Int32), iv (3 : Int32), rv a1, .unset, .unset] [(.int (3 : Int32)), (.int (0 : Int32)), (.ref a1), (.int (0 : Int32)), (.ref pv)])) rfl (by rw [hml]; rfl) (argsL := [(.ref pv), (.int (0 : Int32)), (.ref a1), (.int (0 : Int32)), (.int (3 : Int32))]) (rest := []) (lenOf own_pd4 rfl) rfl (by show 2 * 0 + _ ≤ _; exact own_b rfl) (hb hby own_k3_3_d9) (fun _ _ => ⟨rfl, e1, (own_b rfl : 1 + 0 ≤ _), (own_b rfl : 3 + 0 ≤ _)⟩)
  dsimp only [Pt.U, Pt.locs, Pt.cells, Pt.slots] at X8 l8 yy8 zz8 st8 hQ8
  obtain ⟨r8, Ld8, rfl, Nq8, K8, gv8, gl8, gd8⟩ := hQ8
  obtain ⟨L8, X8, N8⟩ := own_absC (K := 1) (K' := 3) X8 l8 yy8 zz8 N0 Nq8
  have F9 : n0 ≤ T8.heap.size := Nat.le_trans Z2 K8.1
  have F10 := Keep.trans K3 K8 (allS (Or.inr (Nat.le_trans K0.1 (Nat.le_of_eq ga1.symm))) all0)
  have F11 := own_Ar_keep V4 K8 (ninS (Ne.symm ne1_pv) nin0)
  have F12 := own_sta_keep F5 K8 (nsS (own_Ar_ns V1) ns0)
  have F13 := own_sta_keep F6 K8 (nsS (own_Ar_ns V1) ns0)
  have F14 := own_sta_keep F7 K8 (nsS (own_Ar_ns V1) ns0)
  refine own_go (B := (T8.setTop (mkF m 12 #[rv pv, iv (0 : Int32), iv (3 : Int32), rv a1, .unset, .unset] [(.int r8)]))) st8 ?_
  rcases gd8 with rfl | ⟨rfl, hcc⟩ | ⟨rfl, hcc⟩ | ⟨rfl, hcc⟩
  · refine own_go (B := (T8.setTop (mkF m 14 #[rv pv, iv (0 : Int32), iv (3 : Int32), rv a1, iv (3 : Int32), .unset] []))) (fun t k => XS.istore X8.here hx rfl (hb hby own_k3_3_d12) rfl (l' := #[rv pv, iv (0 : Int32), iv (3 : Int32), rv a1, iv (3 : Int32), .unset]) rfl k) ?_
    refine own_go (B := (T8.setTop (mkF m 16 #[rv pv, iv (0 : Int32), iv (3 : Int32), rv a1, iv (3 : Int32), .unset] [(.int (3 : Int32))]))) (fun t k => XS.iload X8.here hx rfl (hb hby own_k3_3_d14) rfl k) ?_
    refine own_go (B := (T8.setTop (mkF m 17 #[rv pv, iv (0 : Int32), iv (3 : Int32), rv a1, iv (3 : Int32), .unset] [(.int (3 : Int32)), (.int (3 : Int32))]))) (fun t k => XS.iloadN X8.here hx rfl (hb hby own_k3_3_d16) rfl k) ?_
    have hc17 : (3 : Int32) = (3 : Int32) := (by decide)
    refine own_icmpY X8 hx (hb hby own_k3_3_d17) (pc' := 57) (by decide) (by decide) hc17 ?_
    refine own_go (B := (T8.setTop (mkF m 58 #[rv pv, iv (0 : Int32), iv (3 : Int32), rv a1, iv (3 : Int32), .unset] [(.ref a1)]))) (fun t k => XS.aloadN X8.here hx rfl (hb hby own_k3_3_d57) rfl rfl k) ?_
    exact own_retA X8 hx hlk Bd.returns rfl rfl (hb hby own_k3_3_d58) (own_b rfl) (own_b rfl) (Q := (own_k3_3_Q Z pv ch0 ch1 ch2 h0 n0)) ⟨_, Ld8, rfl, N8, F10, gv8, Or.inl gl8⟩
  · refine own_go (B := (T8.setTop (mkF m 14 #[rv pv, iv (0 : Int32), iv (3 : Int32), rv a1, iv (0 : Int32), .unset] []))) (fun t k => XS.istore X8.here hx rfl (hb hby own_k3_3_d12) rfl (l' := #[rv pv, iv (0 : Int32), iv (3 : Int32), rv a1, iv (0 : Int32), .unset]) rfl k) ?_
    refine own_go (B := (T8.setTop (mkF m 16 #[rv pv, iv (0 : Int32), iv (3 : Int32), rv a1, iv (0 : Int32), .unset] [(.int (0 : Int32))]))) (fun t k => XS.iload X8.here hx rfl (hb hby own_k3_3_d14) rfl k) ?_
    refine own_go (B := (T8.setTop (mkF m 17 #[rv pv, iv (0 : Int32), iv (3 : Int32), rv a1, iv (0 : Int32), .unset] [(.int (3 : Int32)), (.int (0 : Int32))]))) (fun t k => XS.iloadN X8.here hx rfl (hb hby own_k3_3_d16) rfl k) ?_
    have hc17 : ¬ (0 : Int32) = (3 : Int32) := (by decide)
    refine own_icmpN X8 hx (hb hby own_k3_3_d17) (pn := 20) rfl hc17 ?_
    refine own_go (B := (T8.setTop (mkF m 21 #[rv pv, iv (0 : Int32), iv (3 : Int32), rv a1, iv (0 : Int32), .unset] [(.ref pv)]))) (fun t k => XS.aloadN X8.here hx rfl (hb hby own_k3_3_d20) rfl rfl k) ?_
    refine own_go (B := (T8.setTop (mkF m 22 #[rv pv, iv (0 : Int32), iv (3 : Int32), rv a1, iv (0 : Int32), .unset] [(.int (0 : Int32)), (.ref pv)]))) (fun t k => XS.iloadN X8.here hx rfl (hb hby own_k3_3_d21) rfl k) ?_
    refine own_go (B := (T8.setTop (mkF m 23 #[rv pv, iv (0 : Int32), iv (3 : Int32), rv a1, iv (0 : Int32), .unset] [(.int (3 : Int32)), (.int (0 : Int32)), (.ref pv)]))) (fun t k => XS.iloadN X8.here hx rfl (hb hby own_k3_3_d22) rfl k) ?_
    obtain ⟨_, _, ⟨T16, L16, k16, n16⟩, -, X16, ⟨Lc16, hQ16, l16, yy16, zz16⟩, st16⟩ := Jvm.LawKit.callS X8 hx (y := own_y5) hown (mvT hZ w_76) (mvT hZ w_77) (mvT hZ w_40) (mvT hZ w_78) (by decide) (backOf (W := 0) (own_tb3 l Z a0 hw [] pv ch0 ch1 ch2 T8.heap n0 F9 F11 F12 F13 F14) hZ w_78 w_40 (by decide) (by decide)) (g := (mkF m 23 #[rv pv, iv (0 : Int32), iv (3 : Int32), rv a1, iv (0 : Int32), .unset] [(.int (3 : Int32)), (.int (0 : Int32)), (.ref pv)])) rfl (by rw [hml]; rfl) (argsL := [(.ref pv), (.int (0 : Int32)), (.int (3 : Int32))]) (rest := []) (lenOf own_pd5 rfl) rfl (by show 2 * 0 + _ ≤ _; exact own_b rfl) (hb hby own_k3_3_d23) (fun _ _ => ⟨rfl, rfl, (own_b rfl : 1 + 1 ≤ _), (own_b rfl : 3 + 6 ≤ _)⟩)
    dsimp only [Pt.U, Pt.locs, Pt.cells, Pt.slots] at X16 l16 yy16 zz16 st16 hQ16
    obtain ⟨b16, rfl, Nq16, K16, gz16, gv16⟩ := hQ16
    obtain ⟨L16, X16, N16⟩ := own_absC (K := 2) (K' := 9) X16 l16 yy16 zz16 N8 Nq16
    have gn_b16 : n0 ≤ b16 := Nat.le_trans F9 gz16
    have nb16_pv : b16 ≠ pv := fun q => absurd (own_Ar_lt F11) (by rw [← q]; exact Nat.not_lt.mpr gz16)
    have nb16_a1 : b16 ≠ a1 := fun q => absurd (own_Ar_lt gv8) (by rw [← q]; exact Nat.not_lt.mpr gz16)
    have F17 : n0 ≤ T16.heap.size := Nat.le_trans F9 K16.1
    have F18 := Keep.trans F10 K16 all0
    have F19 := own_Ar_keep F11 K16 nin0
    have F20 := own_sta_keep F12 K16 ns0
    have F21 := own_sta_keep F13 K16 ns0
    have F22 := own_sta_keep F14 K16 ns0
    have F23 := own_Ar_keep gv8 K16 nin0
    refine own_go (B := (T16.setTop (mkF m 26 #[rv pv, iv (0 : Int32), iv (3 : Int32), rv a1, iv (0 : Int32), .unset] [(.ref b16)]))) st16 ?_
    refine own_go (B := (T16.setTop (mkF m 28 #[rv pv, iv (0 : Int32), iv (3 : Int32), rv a1, iv (0 : Int32), rv b16] []))) (fun t k => XS.astore X16.here hx rfl (hb hby own_k3_3_d26) rfl rfl (l' := #[rv pv, iv (0 : Int32), iv (3 : Int32), rv a1, iv (0 : Int32), rv b16]) rfl k) ?_
    refine own_go (B := (T16.setTop (mkF m 30 #[rv pv, iv (0 : Int32), iv (3 : Int32), rv a1, iv (0 : Int32), rv b16] [(.ref b16)]))) (fun t k => XS.aload X16.here hx rfl (hb hby own_k3_3_d28) rfl rfl k) ?_
    refine own_go (B := (T16.setTop (mkF m 32 #[rv pv, iv (0 : Int32), iv (3 : Int32), rv a1, iv (0 : Int32), rv b16] [(.int (0 : Int32)), (.ref b16)]))) (fun t k => XS.iload X16.here hx rfl (hb hby own_k3_3_d30) rfl k) ?_
    obtain ⟨_, _, ⟨T24, L24, k24, n24⟩, -, X24, ⟨Lc24, hQ24, l24, yy24, zz24⟩, st24⟩ := Jvm.LawKit.callS X16 hx (y := own_y6) hown (mvT hZ w_86) (mvT hZ w_87) (mvT hZ w_40) (mvT hZ w_88) (by decide) (backOf (W := 0) (own_gc3_0 l Z a0 hw [] b16 ((ch0 >>> ((0 : Int32) &&& 31)).toInt8.toInt32) ((ch0 >>> ((8 : Int32) &&& 31)).toInt8.toInt32) ((ch1 >>> ((0 : Int32) &&& 31)).toInt8.toInt32) ((ch1 >>> ((8 : Int32) &&& 31)).toInt8.toInt32) ((ch2 >>> ((0 : Int32) &&& 31)).toInt8.toInt32) ((ch2 >>> ((8 : Int32) &&& 31)).toInt8.toInt32) T16.heap n0 gv16 F20 F21 F22) hZ w_88 w_40 (by decide) (by decide)) (g := (mkF m 32 #[rv pv, iv (0 : Int32), iv (3 : Int32), rv a1, iv (0 : Int32), rv b16] [(.int (0 : Int32)), (.ref b16)])) rfl (by rw [hml]; rfl) (argsL := [(.ref b16), (.int (0 : Int32))]) (rest := []) (lenOf own_pd6 rfl) rfl (by show 2 * 0 + _ ≤ _; exact own_b rfl) (hb hby own_k3_3_d32) (fun _ _ => ⟨rfl, rfl, (own_b rfl : 2 + 0 ≤ _), (own_b rfl : 9 + 0 ≤ _)⟩)
    dsimp only [Pt.U, Pt.locs, Pt.cells, Pt.slots] at X24 l24 yy24 zz24 st24 hQ24
    obtain ⟨rfl, Nq24, eq24⟩ := hQ24
    obtain ⟨L24, X24, N24⟩ := own_absC (K := 2) (K' := 9) X24 l24 yy24 zz24 N16 Nq24
    have e24 : T24.heap = T16.heap := eq24
    refine own_go (B := (T24.setTop (mkF m 35 #[rv pv, iv (0 : Int32), iv (3 : Int32), rv a1, iv (0 : Int32), rv b16] [(.int ((((((ch0 >>> ((0 : Int32) &&& 31)).toInt8.toInt32) &&& (255 : Int32)) <<< ((0 : Int32) &&& 31)) ||| ((((ch0 >>> ((8 : Int32) &&& 31)).toInt8.toInt32) &&& (255 : Int32)) <<< ((8 : Int32) &&& 31))).toUInt32.toUInt16.toUInt32.toInt32))]))) st24 ?_
    refine own_go (B := (T24.setTop (mkF m 38 #[rv pv, iv (0 : Int32), iv (3 : Int32), rv a1, iv (0 : Int32), rv b16] [(.int (255 : Int32)), (.int ((((((ch0 >>> ((0 : Int32) &&& 31)).toInt8.toInt32) &&& (255 : Int32)) <<< ((0 : Int32) &&& 31)) ||| ((((ch0 >>> ((8 : Int32) &&& 31)).toInt8.toInt32) &&& (255 : Int32)) <<< ((8 : Int32) &&& 31))).toUInt32.toUInt16.toUInt32.toInt32))]))) (fun t k => own_sipush (v := (255 : Int32)) X24.here hx rfl (hb hby own_k3_3_d35) (by decide) k) ?_
    have hc38 : (255 : Int32) < ((((((ch0 >>> ((0 : Int32) &&& 31)).toInt8.toInt32) &&& (255 : Int32)) <<< ((0 : Int32) &&& 31)) ||| ((((ch0 >>> ((8 : Int32) &&& 31)).toInt8.toInt32) &&& (255 : Int32)) <<< ((8 : Int32) &&& 31))).toUInt32.toUInt16.toUInt32.toInt32) := (own_gc hn0 hcc)
    refine own_icmpY X24 hx (hb hby own_k3_3_d38) (pc' := 54) (by decide) (by decide) hc38 ?_
    refine own_go (B := (T24.setTop (mkF m 56 #[rv pv, iv (0 : Int32), iv (3 : Int32), rv a1, iv (0 : Int32), rv b16] [(.ref b16)]))) (fun t k => XS.aload X24.here hx rfl (hb hby own_k3_3_d54) rfl rfl k) ?_
    exact own_retA X24 hx hlk Bd.returns rfl rfl (hb hby own_k3_3_d56) (own_b rfl) (own_b rfl) (Q := (own_k3_3_Q Z pv ch0 ch1 ch2 h0 n0)) (by rw [e24]; exact ⟨_, [(.int ((ch0 >>> ((0 : Int32) &&& 31)).toInt8.toInt32)), (.int ((ch0 >>> ((8 : Int32) &&& 31)).toInt8.toInt32)), (.int ((ch1 >>> ((0 : Int32) &&& 31)).toInt8.toInt32)), (.int ((ch1 >>> ((8 : Int32) &&& 31)).toInt8.toInt32)), (.int ((ch2 >>> ((0 : Int32) &&& 31)).toInt8.toInt32)), (.int ((ch2 >>> ((8 : Int32) &&& 31)).toInt8.toInt32))], rfl, N24, F18, gv16, Or.inr rfl⟩)
  · refine own_go (B := (T8.setTop (mkF m 14 #[rv pv, iv (0 : Int32), iv (3 : Int32), rv a1, iv (1 : Int32), .unset] []))) (fun t k => XS.istore X8.here hx rfl (hb hby own_k3_3_d12) rfl (l' := #[rv pv, iv (0 : Int32), iv (3 : Int32), rv a1, iv (1 : Int32), .unset]) rfl k) ?_
    refine own_go (B := (T8.setTop (mkF m 16 #[rv pv, iv (0 : Int32), iv (3 : Int32), rv a1, iv (1 : Int32), .unset] [(.int (1 : Int32))]))) (fun t k => XS.iload X8.here hx rfl (hb hby own_k3_3_d14) rfl k) ?_
    refine own_go (B := (T8.setTop (mkF m 17 #[rv pv, iv (0 : Int32), iv (3 : Int32), rv a1, iv (1 : Int32), .unset] [(.int (3 : Int32)), (.int (1 : Int32))]))) (fun t k => XS.iloadN X8.here hx rfl (hb hby own_k3_3_d16) rfl k) ?_
    have hc17 : ¬ (1 : Int32) = (3 : Int32) := (by decide)
    refine own_icmpN X8 hx (hb hby own_k3_3_d17) (pn := 20) rfl hc17 ?_
    refine own_go (B := (T8.setTop (mkF m 21 #[rv pv, iv (0 : Int32), iv (3 : Int32), rv a1, iv (1 : Int32), .unset] [(.ref pv)]))) (fun t k => XS.aloadN X8.here hx rfl (hb hby own_k3_3_d20) rfl rfl k) ?_
    refine own_go (B := (T8.setTop (mkF m 22 #[rv pv, iv (0 : Int32), iv (3 : Int32), rv a1, iv (1 : Int32), .unset] [(.int (0 : Int32)), (.ref pv)]))) (fun t k => XS.iloadN X8.here hx rfl (hb hby own_k3_3_d21) rfl k) ?_
    refine own_go (B := (T8.setTop (mkF m 23 #[rv pv, iv (0 : Int32), iv (3 : Int32), rv a1, iv (1 : Int32), .unset] [(.int (3 : Int32)), (.int (0 : Int32)), (.ref pv)]))) (fun t k => XS.iloadN X8.here hx rfl (hb hby own_k3_3_d22) rfl k) ?_
    obtain ⟨_, _, ⟨T25, L25, k25, n25⟩, -, X25, ⟨Lc25, hQ25, l25, yy25, zz25⟩, st25⟩ := Jvm.LawKit.callS X8 hx (y := own_y5) hown (mvT hZ w_76) (mvT hZ w_77) (mvT hZ w_40) (mvT hZ w_78) (by decide) (backOf (W := 0) (own_tb3 l Z a0 hw [] pv ch0 ch1 ch2 T8.heap n0 F9 F11 F12 F13 F14) hZ w_78 w_40 (by decide) (by decide)) (g := (mkF m 23 #[rv pv, iv (0 : Int32), iv (3 : Int32), rv a1, iv (1 : Int32), .unset] [(.int (3 : Int32)), (.int (0 : Int32)), (.ref pv)])) rfl (by rw [hml]; rfl) (argsL := [(.ref pv), (.int (0 : Int32)), (.int (3 : Int32))]) (rest := []) (lenOf own_pd5 rfl) rfl (by show 2 * 0 + _ ≤ _; exact own_b rfl) (hb hby own_k3_3_d23) (fun _ _ => ⟨rfl, rfl, (own_b rfl : 1 + 1 ≤ _), (own_b rfl : 3 + 6 ≤ _)⟩)
    dsimp only [Pt.U, Pt.locs, Pt.cells, Pt.slots] at X25 l25 yy25 zz25 st25 hQ25
    obtain ⟨b25, rfl, Nq25, K25, gz25, gv25⟩ := hQ25
    obtain ⟨L25, X25, N25⟩ := own_absC (K := 2) (K' := 9) X25 l25 yy25 zz25 N8 Nq25
    have gn_b25 : n0 ≤ b25 := Nat.le_trans F9 gz25
    have nb25_pv : b25 ≠ pv := fun q => absurd (own_Ar_lt F11) (by rw [← q]; exact Nat.not_lt.mpr gz25)
    have nb25_a1 : b25 ≠ a1 := fun q => absurd (own_Ar_lt gv8) (by rw [← q]; exact Nat.not_lt.mpr gz25)
    have F26 : n0 ≤ T25.heap.size := Nat.le_trans F9 K25.1
    have F27 := Keep.trans F10 K25 all0
    have F28 := own_Ar_keep F11 K25 nin0
    have F29 := own_sta_keep F12 K25 ns0
    have F30 := own_sta_keep F13 K25 ns0
    have F31 := own_sta_keep F14 K25 ns0
    have F32 := own_Ar_keep gv8 K25 nin0
    refine own_go (B := (T25.setTop (mkF m 26 #[rv pv, iv (0 : Int32), iv (3 : Int32), rv a1, iv (1 : Int32), .unset] [(.ref b25)]))) st25 ?_
    refine own_go (B := (T25.setTop (mkF m 28 #[rv pv, iv (0 : Int32), iv (3 : Int32), rv a1, iv (1 : Int32), rv b25] []))) (fun t k => XS.astore X25.here hx rfl (hb hby own_k3_3_d26) rfl rfl (l' := #[rv pv, iv (0 : Int32), iv (3 : Int32), rv a1, iv (1 : Int32), rv b25]) rfl k) ?_
    refine own_go (B := (T25.setTop (mkF m 30 #[rv pv, iv (0 : Int32), iv (3 : Int32), rv a1, iv (1 : Int32), rv b25] [(.ref b25)]))) (fun t k => XS.aload X25.here hx rfl (hb hby own_k3_3_d28) rfl rfl k) ?_
    refine own_go (B := (T25.setTop (mkF m 32 #[rv pv, iv (0 : Int32), iv (3 : Int32), rv a1, iv (1 : Int32), rv b25] [(.int (1 : Int32)), (.ref b25)]))) (fun t k => XS.iload X25.here hx rfl (hb hby own_k3_3_d30) rfl k) ?_
    obtain ⟨_, _, ⟨T33, L33, k33, n33⟩, -, X33, ⟨Lc33, hQ33, l33, yy33, zz33⟩, st33⟩ := Jvm.LawKit.callS X25 hx (y := own_y6) hown (mvT hZ w_86) (mvT hZ w_87) (mvT hZ w_40) (mvT hZ w_88) (by decide) (backOf (W := 0) (own_gc3_1 l Z a0 hw [] b25 ((ch0 >>> ((0 : Int32) &&& 31)).toInt8.toInt32) ((ch0 >>> ((8 : Int32) &&& 31)).toInt8.toInt32) ((ch1 >>> ((0 : Int32) &&& 31)).toInt8.toInt32) ((ch1 >>> ((8 : Int32) &&& 31)).toInt8.toInt32) ((ch2 >>> ((0 : Int32) &&& 31)).toInt8.toInt32) ((ch2 >>> ((8 : Int32) &&& 31)).toInt8.toInt32) T25.heap n0 gv25 F29 F30 F31) hZ w_88 w_40 (by decide) (by decide)) (g := (mkF m 32 #[rv pv, iv (0 : Int32), iv (3 : Int32), rv a1, iv (1 : Int32), rv b25] [(.int (1 : Int32)), (.ref b25)])) rfl (by rw [hml]; rfl) (argsL := [(.ref b25), (.int (1 : Int32))]) (rest := []) (lenOf own_pd6 rfl) rfl (by show 2 * 0 + _ ≤ _; exact own_b rfl) (hb hby own_k3_3_d32) (fun _ _ => ⟨rfl, rfl, (own_b rfl : 2 + 0 ≤ _), (own_b rfl : 9 + 0 ≤ _)⟩)
    dsimp only [Pt.U, Pt.locs, Pt.cells, Pt.slots] at X33 l33 yy33 zz33 st33 hQ33
    obtain ⟨rfl, Nq33, eq33⟩ := hQ33
    obtain ⟨L33, X33, N33⟩ := own_absC (K := 2) (K' := 9) X33 l33 yy33 zz33 N25 Nq33
    have e33 : T33.heap = T25.heap := eq33
    refine own_go (B := (T33.setTop (mkF m 35 #[rv pv, iv (0 : Int32), iv (3 : Int32), rv a1, iv (1 : Int32), rv b25] [(.int ((((((ch1 >>> ((0 : Int32) &&& 31)).toInt8.toInt32) &&& (255 : Int32)) <<< ((0 : Int32) &&& 31)) ||| ((((ch1 >>> ((8 : Int32) &&& 31)).toInt8.toInt32) &&& (255 : Int32)) <<< ((8 : Int32) &&& 31))).toUInt32.toUInt16.toUInt32.toInt32))]))) st33 ?_
    refine own_go (B := (T33.setTop (mkF m 38 #[rv pv, iv (0 : Int32), iv (3 : Int32), rv a1, iv (1 : Int32), rv b25] [(.int (255 : Int32)), (.int ((((((ch1 >>> ((0 : Int32) &&& 31)).toInt8.toInt32) &&& (255 : Int32)) <<< ((0 : Int32) &&& 31)) ||| ((((ch1 >>> ((8 : Int32) &&& 31)).toInt8.toInt32) &&& (255 : Int32)) <<< ((8 : Int32) &&& 31))).toUInt32.toUInt16.toUInt32.toInt32))]))) (fun t k => own_sipush (v := (255 : Int32)) X33.here hx rfl (hb hby own_k3_3_d35) (by decide) k) ?_
    have hc38 : (255 : Int32) < ((((((ch1 >>> ((0 : Int32) &&& 31)).toInt8.toInt32) &&& (255 : Int32)) <<< ((0 : Int32) &&& 31)) ||| ((((ch1 >>> ((8 : Int32) &&& 31)).toInt8.toInt32) &&& (255 : Int32)) <<< ((8 : Int32) &&& 31))).toUInt32.toUInt16.toUInt32.toInt32) := (own_gc hn1 hcc)
    refine own_icmpY X33 hx (hb hby own_k3_3_d38) (pc' := 54) (by decide) (by decide) hc38 ?_
    refine own_go (B := (T33.setTop (mkF m 56 #[rv pv, iv (0 : Int32), iv (3 : Int32), rv a1, iv (1 : Int32), rv b25] [(.ref b25)]))) (fun t k => XS.aload X33.here hx rfl (hb hby own_k3_3_d54) rfl rfl k) ?_
    exact own_retA X33 hx hlk Bd.returns rfl rfl (hb hby own_k3_3_d56) (own_b rfl) (own_b rfl) (Q := (own_k3_3_Q Z pv ch0 ch1 ch2 h0 n0)) (by rw [e33]; exact ⟨_, [(.int ((ch0 >>> ((0 : Int32) &&& 31)).toInt8.toInt32)), (.int ((ch0 >>> ((8 : Int32) &&& 31)).toInt8.toInt32)), (.int ((ch1 >>> ((0 : Int32) &&& 31)).toInt8.toInt32)), (.int ((ch1 >>> ((8 : Int32) &&& 31)).toInt8.toInt32)), (.int ((ch2 >>> ((0 : Int32) &&& 31)).toInt8.toInt32)), (.int ((ch2 >>> ((8 : Int32) &&& 31)).toInt8.toInt32))], rfl, N33, F27, gv25, Or.inr rfl⟩)
  · refine own_go (B := (T8.setTop (mkF m 14 #[rv pv, iv (0 : Int32), iv (3 : Int32), rv a1, iv (2 : Int32), .unset] []))) (fun t k => XS.istore X8.here hx rfl (hb hby own_k3_3_d12) rfl (l' := #[rv pv, iv (0 : Int32), iv (3 : Int32), rv a1, iv (2 : Int32), .unset]) rfl k) ?_
    refine own_go (B := (T8.setTop (mkF m 16 #[rv pv, iv (0 : Int32), iv (3 : Int32), rv a1, iv (2 : Int32), .unset] [(.int (2 : Int32))]))) (fun t k => XS.iload X8.here hx rfl (hb hby own_k3_3_d14) rfl k) ?_
    refine own_go (B := (T8.setTop (mkF m 17 #[rv pv, iv (0 : Int32), iv (3 : Int32), rv a1, iv (2 : Int32), .unset] [(.int (3 : Int32)), (.int (2 : Int32))]))) (fun t k => XS.iloadN X8.here hx rfl (hb hby own_k3_3_d16) rfl k) ?_
    have hc17 : ¬ (2 : Int32) = (3 : Int32) := (by decide)
    refine own_icmpN X8 hx (hb hby own_k3_3_d17) (pn := 20) rfl hc17 ?_
    refine own_go (B := (T8.setTop (mkF m 21 #[rv pv, iv (0 : Int32), iv (3 : Int32), rv a1, iv (2 : Int32), .unset] [(.ref pv)]))) (fun t k => XS.aloadN X8.here hx rfl (hb hby own_k3_3_d20) rfl rfl k) ?_
    refine own_go (B := (T8.setTop (mkF m 22 #[rv pv, iv (0 : Int32), iv (3 : Int32), rv a1, iv (2 : Int32), .unset] [(.int (0 : Int32)), (.ref pv)]))) (fun t k => XS.iloadN X8.here hx rfl (hb hby own_k3_3_d21) rfl k) ?_
    refine own_go (B := (T8.setTop (mkF m 23 #[rv pv, iv (0 : Int32), iv (3 : Int32), rv a1, iv (2 : Int32), .unset] [(.int (3 : Int32)), (.int (0 : Int32)), (.ref pv)]))) (fun t k => XS.iloadN X8.here hx rfl (hb hby own_k3_3_d22) rfl k) ?_
    obtain ⟨_, _, ⟨T34, L34, k34, n34⟩, -, X34, ⟨Lc34, hQ34, l34, yy34, zz34⟩, st34⟩ := Jvm.LawKit.callS X8 hx (y := own_y5) hown (mvT hZ w_76) (mvT hZ w_77) (mvT hZ w_40) (mvT hZ w_78) (by decide) (backOf (W := 0) (own_tb3 l Z a0 hw [] pv ch0 ch1 ch2 T8.heap n0 F9 F11 F12 F13 F14) hZ w_78 w_40 (by decide) (by decide)) (g := (mkF m 23 #[rv pv, iv (0 : Int32), iv (3 : Int32), rv a1, iv (2 : Int32), .unset] [(.int (3 : Int32)), (.int (0 : Int32)), (.ref pv)])) rfl (by rw [hml]; rfl) (argsL := [(.ref pv), (.int (0 : Int32)), (.int (3 : Int32))]) (rest := []) (lenOf own_pd5 rfl) rfl (by show 2 * 0 + _ ≤ _; exact own_b rfl) (hb hby own_k3_3_d23) (fun _ _ => ⟨rfl, rfl, (own_b rfl : 1 + 1 ≤ _), (own_b rfl : 3 + 6 ≤ _)⟩)
    dsimp only [Pt.U, Pt.locs, Pt.cells, Pt.slots] at X34 l34 yy34 zz34 st34 hQ34
    obtain ⟨b34, rfl, Nq34, K34, gz34, gv34⟩ := hQ34
    obtain ⟨L34, X34, N34⟩ := own_absC (K := 2) (K' := 9) X34 l34 yy34 zz34 N8 Nq34
    have gn_b34 : n0 ≤ b34 := Nat.le_trans F9 gz34
    have nb34_pv : b34 ≠ pv := fun q => absurd (own_Ar_lt F11) (by rw [← q]; exact Nat.not_lt.mpr gz34)
    have nb34_a1 : b34 ≠ a1 := fun q => absurd (own_Ar_lt gv8) (by rw [← q]; exact Nat.not_lt.mpr gz34)
    have F35 : n0 ≤ T34.heap.size := Nat.le_trans F9 K34.1
    have F36 := Keep.trans F10 K34 all0
    have F37 := own_Ar_keep F11 K34 nin0
    have F38 := own_sta_keep F12 K34 ns0
    have F39 := own_sta_keep F13 K34 ns0
    have F40 := own_sta_keep F14 K34 ns0
    have F41 := own_Ar_keep gv8 K34 nin0
    refine own_go (B := (T34.setTop (mkF m 26 #[rv pv, iv (0 : Int32), iv (3 : Int32), rv a1, iv (2 : Int32), .unset] [(.ref b34)]))) st34 ?_
    refine own_go (B := (T34.setTop (mkF m 28 #[rv pv, iv (0 : Int32), iv (3 : Int32), rv a1, iv (2 : Int32), rv b34] []))) (fun t k => XS.astore X34.here hx rfl (hb hby own_k3_3_d26) rfl rfl (l' := #[rv pv, iv (0 : Int32), iv (3 : Int32), rv a1, iv (2 : Int32), rv b34]) rfl k) ?_
    refine own_go (B := (T34.setTop (mkF m 30 #[rv pv, iv (0 : Int32), iv (3 : Int32), rv a1, iv (2 : Int32), rv b34] [(.ref b34)]))) (fun t k => XS.aload X34.here hx rfl (hb hby own_k3_3_d28) rfl rfl k) ?_
    refine own_go (B := (T34.setTop (mkF m 32 #[rv pv, iv (0 : Int32), iv (3 : Int32), rv a1, iv (2 : Int32), rv b34] [(.int (2 : Int32)), (.ref b34)]))) (fun t k => XS.iload X34.here hx rfl (hb hby own_k3_3_d30) rfl k) ?_
    obtain ⟨_, _, ⟨T42, L42, k42, n42⟩, -, X42, ⟨Lc42, hQ42, l42, yy42, zz42⟩, st42⟩ := Jvm.LawKit.callS X34 hx (y := own_y6) hown (mvT hZ w_86) (mvT hZ w_87) (mvT hZ w_40) (mvT hZ w_88) (by decide) (backOf (W := 0) (own_gc3_2 l Z a0 hw [] b34 ((ch0 >>> ((0 : Int32) &&& 31)).toInt8.toInt32) ((ch0 >>> ((8 : Int32) &&& 31)).toInt8.toInt32) ((ch1 >>> ((0 : Int32) &&& 31)).toInt8.toInt32) ((ch1 >>> ((8 : Int32) &&& 31)).toInt8.toInt32) ((ch2 >>> ((0 : Int32) &&& 31)).toInt8.toInt32) ((ch2 >>> ((8 : Int32) &&& 31)).toInt8.toInt32) T34.heap n0 gv34 F38 F39 F40) hZ w_88 w_40 (by decide) (by decide)) (g := (mkF m 32 #[rv pv, iv (0 : Int32), iv (3 : Int32), rv a1, iv (2 : Int32), rv b34] [(.int (2 : Int32)), (.ref b34)])) rfl (by rw [hml]; rfl) (argsL := [(.ref b34), (.int (2 : Int32))]) (rest := []) (lenOf own_pd6 rfl) rfl (by show 2 * 0 + _ ≤ _; exact own_b rfl) (hb hby own_k3_3_d32) (fun _ _ => ⟨rfl, rfl, (own_b rfl : 2 + 0 ≤ _), (own_b rfl : 9 + 0 ≤ _)⟩)
    dsimp only [Pt.U, Pt.locs, Pt.cells, Pt.slots] at X42 l42 yy42 zz42 st42 hQ42
    obtain ⟨rfl, Nq42, eq42⟩ := hQ42
    obtain ⟨L42, X42, N42⟩ := own_absC (K := 2) (K' := 9) X42 l42 yy42 zz42 N34 Nq42
    have e42 : T42.heap = T34.heap := eq42
    refine own_go (B := (T42.setTop (mkF m 35 #[rv pv, iv (0 : Int32), iv (3 : Int32), rv a1, iv (2 : Int32), rv b34] [(.int ((((((ch2 >>> ((0 : Int32) &&& 31)).toInt8.toInt32) &&& (255 : Int32)) <<< ((0 : Int32) &&& 31)) ||| ((((ch2 >>> ((8 : Int32) &&& 31)).toInt8.toInt32) &&& (255 : Int32)) <<< ((8 : Int32) &&& 31))).toUInt32.toUInt16.toUInt32.toInt32))]))) st42 ?_
    refine own_go (B := (T42.setTop (mkF m 38 #[rv pv, iv (0 : Int32), iv (3 : Int32), rv a1, iv (2 : Int32), rv b34] [(.int (255 : Int32)), (.int ((((((ch2 >>> ((0 : Int32) &&& 31)).toInt8.toInt32) &&& (255 : Int32)) <<< ((0 : Int32) &&& 31)) ||| ((((ch2 >>> ((8 : Int32) &&& 31)).toInt8.toInt32) &&& (255 : Int32)) <<< ((8 : Int32) &&& 31))).toUInt32.toUInt16.toUInt32.toInt32))]))) (fun t k => own_sipush (v := (255 : Int32)) X42.here hx rfl (hb hby own_k3_3_d35) (by decide) k) ?_
    have hc38 : (255 : Int32) < ((((((ch2 >>> ((0 : Int32) &&& 31)).toInt8.toInt32) &&& (255 : Int32)) <<< ((0 : Int32) &&& 31)) ||| ((((ch2 >>> ((8 : Int32) &&& 31)).toInt8.toInt32) &&& (255 : Int32)) <<< ((8 : Int32) &&& 31))).toUInt32.toUInt16.toUInt32.toInt32) := (own_gc hn2 hcc)
    refine own_icmpY X42 hx (hb hby own_k3_3_d38) (pc' := 54) (by decide) (by decide) hc38 ?_
    refine own_go (B := (T42.setTop (mkF m 56 #[rv pv, iv (0 : Int32), iv (3 : Int32), rv a1, iv (2 : Int32), rv b34] [(.ref b34)]))) (fun t k => XS.aload X42.here hx rfl (hb hby own_k3_3_d54) rfl rfl k) ?_
    exact own_retA X42 hx hlk Bd.returns rfl rfl (hb hby own_k3_3_d56) (own_b rfl) (own_b rfl) (Q := (own_k3_3_Q Z pv ch0 ch1 ch2 h0 n0)) (by rw [e42]; exact ⟨_, [(.int ((ch0 >>> ((0 : Int32) &&& 31)).toInt8.toInt32)), (.int ((ch0 >>> ((8 : Int32) &&& 31)).toInt8.toInt32)), (.int ((ch1 >>> ((0 : Int32) &&& 31)).toInt8.toInt32)), (.int ((ch1 >>> ((8 : Int32) &&& 31)).toInt8.toInt32)), (.int ((ch2 >>> ((0 : Int32) &&& 31)).toInt8.toInt32)), (.int ((ch2 >>> ((8 : Int32) &&& 31)).toInt8.toInt32))], rfl, N42, F36, gv34, Or.inr rfl⟩)

theorem own_cd3_3_d0 : decode jdk_52_method_15_code 0 = .ok (.iload_n 1, 1) := by decide +kernel
theorem own_cd3_3_d1 : decode jdk_52_method_15_code 1 = .ok (.aload_n 0, 1) := by decide +kernel
theorem own_cd3_3_d2 : decode jdk_52_method_15_code 2 = .ok (.arraylength, 1) := by decide +kernel
theorem own_cd3_3_d3 : decode jdk_52_method_15_code 3 = .ok (.isub, 1) := by decide +kernel
theorem own_cd3_3_d4 : decode jdk_52_method_15_code 4 = .ok (.bipush 31, 2) := by decide +kernel
theorem own_cd3_3_d6 : decode jdk_52_method_15_code 6 = .ok (.iushr, 1) := by decide +kernel
theorem own_cd3_3_d7 : decode jdk_52_method_15_code 7 = .ok (.i2b, 1) := by decide +kernel
theorem own_cd3_3_d8 : decode jdk_52_method_15_code 8 = .ok (.ireturn, 1) := by decide +kernel
theorem own_cd3_3_pn : plainName "java/lang/StringUTF16" = true := by first | (simp [plainName, overriddenIn]; done) | decide +kernel
theorem own_cd3_3_ef (m : MethodId) (pb : Addr) : entryFrame m #[(.ref pb), (.int (3 : Int32))] 2 = mkF m 0 #[rv pb, iv (3 : Int32)] [] := by first | (simp [entryFrame, mkF, argsToLocals, Value.category]; done) | rfl
def own_cd3_3_Q (Z : State) (pb : Addr) (Lb : List Value) (h0 : Heap) (n0 : Nat) (v : Option Value) (h : Heap) (L : List Loc) : Prop := v = some (.int (0 : Int32)) ∧ Fr n0 L ∧ h = h0
set_option maxRecDepth 65536 in
set_option maxHeartbeats 40000000 in
theorem own_cd3_3 (l : Launch) (Z : State) (a0 : Array Value) (hw : ∀ d ∈ tables_1, d.before a0 Z = true) (ws : List Jvm.Cond) (pb : Addr) (Lb : List Value) (h0 : Heap) (n0 : Nat) (V0 : own_Ar Z h0 pb .byte Lb) (hl : Lb.length = 3) :
    MetFree l own_y8 (head1 (Jvm.Cond.code own_y8 jdk_52_method_15_code 2 (some .byte) :: ws) ({ frames := 0, cells := 0, slots := 0, locals := 0 } : Room)) (fun a U => a = #[(.ref pb), (.int (3 : Int32))] ∧ Z.Warmed39 U.vm ∧ U.heap = h0) (fun _ _ _ _ _ => True) (fun _ U o U' => ∃ v L, o = .returned v ∧ (own_cd3_3_Q Z pb Lb h0 n0) v U'.heap L ∧ FrameEnd U o U' L ({ frames := 0, cells := 0, slots := 0, locals := 0 } : Room).cells ({ frames := 0, cells := 0, slots := 0, locals := 0 } : Room).slots) := by
  refine MetFree.of_bodySF (plainFor_of_name own_cd3_3_pn) hisR ?_
  intro p e s m args below meth c s₁ Bd hml0 hP hK
  obtain ⟨rfl, hZ, hh⟩ := hP
  have hx := Bd.exec
  have hby := Bd.bytes
  have hml : c.maxLocals = 2 := hml0
  have hown : s.vm.findClass "java/lang/StringUTF16" = some m.cls := findClass_of_methodNamed Bd.named
  have hnm := (name_of_methodNamed Bd.named Bd.method).1
  have hlk : meth.locks = false := Bd.notSynchronized
  have X0 : Stand p l e ({ frames := 0, cells := 0, slots := 0, locals := 0 } : Room) s m #[(.ref pb), (.int (3 : Int32))] below meth c s₁ [] 0 0 := Stand.of_body Bd
  have e0 : s₁.heap = h0 := by rw [← hh, Bd.state]; rfl
  have N0 := Fr.nil n0
  show own_G p.tables e below (fun o U' => ∃ v L, o = .returned v ∧ (own_cd3_3_Q Z pb Lb h0 n0) v U'.heap L ∧ FrameEnd s o U' L ({ frames := 0, cells := 0, slots := 0, locals := 0 } : Room).cells ({ frames := 0, cells := 0, slots := 0, locals := 0 } : Room).slots) (s₁.setTop (entryFrame m #[(.ref pb), (.int (3 : Int32))] 2))
  refine own_go (B := s₁.setTop (mkF m 0 #[rv pb, iv (3 : Int32)] [])) (fun t k => castTop (own_cd3_3_ef m pb) k) ?_
  refine own_go (B := (s₁.setTop (mkF m 1 #[rv pb, iv (3 : Int32)] [(.int (3 : Int32))]))) (fun t k => XS.iloadN X0.here hx rfl (hb hby own_cd3_3_d0) rfl k) ?_
  refine own_go (B := (s₁.setTop (mkF m 2 #[rv pb, iv (3 : Int32)] [(.ref pb), (.int (3 : Int32))]))) (fun t k => XS.aloadN X0.here hx rfl (hb hby own_cd3_3_d1) rfl rfl k) ?_
  refine own_go (B := (s₁.setTop (mkF m 3 #[rv pb, iv (3 : Int32)] [(.int (3 : Int32)), (.int (3 : Int32))]))) (own_alen X0 hx hZ e0 V0 (n := (3 : Int32)) (own_lenL hl (by decide)) (g := (mkF m 2 #[rv pb, iv (3 : Int32)] [(.ref pb), (.int (3 : Int32))])) rfl rfl (hb hby own_cd3_3_d2)) ?_
  refine own_go (B := (s₁.setTop (mkF m 4 #[rv pb, iv (3 : Int32)] [(.int ((3 : Int32) - (3 : Int32)))]))) (fun t k => XS.isub (x := (3 : Int32)) (y := (3 : Int32)) X0.here hx rfl (hb hby own_cd3_3_d3) rfl k) ?_
  rw [show ((3 : Int32) - (3 : Int32)) = (0 : Int32) from by decide]
  refine own_go (B := (s₁.setTop (mkF m 6 #[rv pb, iv (3 : Int32)] [(.int (31 : Int32)), (.int (0 : Int32))]))) (fun t k => own_bipush (v := (31 : Int32)) X0.here hx rfl (hb hby own_cd3_3_d4) (by decide) k) ?_
  refine own_go (B := (s₁.setTop (mkF m 7 #[rv pb, iv (3 : Int32)] [(.int (((0 : Int32).toUInt32 >>> ((31 : Int32) &&& 31).toUInt32).toInt32))]))) (fun t k => XS.iushr (x := (0 : Int32)) (y := (31 : Int32)) X0.here hx rfl (hb hby own_cd3_3_d6) rfl k) ?_
  refine own_go (B := (s₁.setTop (mkF m 8 #[rv pb, iv (3 : Int32)] [(.int ((((0 : Int32).toUInt32 >>> ((31 : Int32) &&& 31).toUInt32).toInt32).toInt8.toInt32))]))) (fun t k => XS.i2b X0.here hx rfl (hb hby own_cd3_3_d7) rfl k) ?_
  rw [show ((((0 : Int32).toUInt32 >>> ((31 : Int32) &&& 31).toUInt32).toInt32).toInt8.toInt32) = (0 : Int32) from by decide]
  exact own_retB X0 hx hlk Bd.returns (hb hby own_cd3_3_d8) (rfl) (own_b rfl) (own_b rfl) (Q := (own_cd3_3_Q Z pb Lb h0 n0)) ⟨rfl, N0, e0⟩

theorem own_cd3_6_d0 : decode jdk_52_method_15_code 0 = .ok (.iload_n 1, 1) := by decide +kernel
theorem own_cd3_6_d1 : decode jdk_52_method_15_code 1 = .ok (.aload_n 0, 1) := by decide +kernel
theorem own_cd3_6_d2 : decode jdk_52_method_15_code 2 = .ok (.arraylength, 1) := by decide +kernel
theorem own_cd3_6_d3 : decode jdk_52_method_15_code 3 = .ok (.isub, 1) := by decide +kernel
theorem own_cd3_6_d4 : decode jdk_52_method_15_code 4 = .ok (.bipush 31, 2) := by decide +kernel
theorem own_cd3_6_d6 : decode jdk_52_method_15_code 6 = .ok (.iushr, 1) := by decide +kernel
theorem own_cd3_6_d7 : decode jdk_52_method_15_code 7 = .ok (.i2b, 1) := by decide +kernel
theorem own_cd3_6_d8 : decode jdk_52_method_15_code 8 = .ok (.ireturn, 1) := by decide +kernel
theorem own_cd3_6_pn : plainName "java/lang/StringUTF16" = true := by first | (simp [plainName, overriddenIn]; done) | decide +kernel
theorem own_cd3_6_ef (m : MethodId) (pb : Addr) : entryFrame m #[(.ref pb), (.int (3 : Int32))] 2 = mkF m 0 #[rv pb, iv (3 : Int32)] [] := by first | (simp [entryFrame, mkF, argsToLocals, Value.category]; done) | rfl
def own_cd3_6_Q (Z : State) (pb : Addr) (Lb : List Value) (h0 : Heap) (n0 : Nat) (v : Option Value) (h : Heap) (L : List Loc) : Prop := v = some (.int (1 : Int32)) ∧ Fr n0 L ∧ h = h0
set_option maxRecDepth 65536 in
set_option maxHeartbeats 40000000 in
theorem own_cd3_6 (l : Launch) (Z : State) (a0 : Array Value) (hw : ∀ d ∈ tables_1, d.before a0 Z = true) (ws : List Jvm.Cond) (pb : Addr) (Lb : List Value) (h0 : Heap) (n0 : Nat) (V0 : own_Ar Z h0 pb .byte Lb) (hl : Lb.length = 6) :
    MetFree l own_y8 (head1 (Jvm.Cond.code own_y8 jdk_52_method_15_code 2 (some .byte) :: ws) ({ frames := 0, cells := 0, slots := 0, locals := 0 } : Room)) (fun a U => a = #[(.ref pb), (.int (3 : Int32))] ∧ Z.Warmed39 U.vm ∧ U.heap = h0) (fun _ _ _ _ _ => True) (fun _ U o U' => ∃ v L, o = .returned v ∧ (own_cd3_6_Q Z pb Lb h0 n0) v U'.heap L ∧ FrameEnd U o U' L ({ frames := 0, cells := 0, slots := 0, locals := 0 } : Room).cells ({ frames := 0, cells := 0, slots := 0, locals := 0 } : Room).slots) := by
  refine MetFree.of_bodySF (plainFor_of_name own_cd3_6_pn) hisR ?_
  intro p e s m args below meth c s₁ Bd hml0 hP hK
  obtain ⟨rfl, hZ, hh⟩ := hP
  have hx := Bd.exec
  have hby := Bd.bytes
  have hml : c.maxLocals = 2 := hml0
  have hown : s.vm.findClass "java/lang/StringUTF16" = some m.cls := findClass_of_methodNamed Bd.named
  have hnm := (name_of_methodNamed Bd.named Bd.method).1
  have hlk : meth.locks = false := Bd.notSynchronized
  have X0 : Stand p l e ({ frames := 0, cells := 0, slots := 0, locals := 0 } : Room) s m #[(.ref pb), (.int (3 : Int32))] below meth c s₁ [] 0 0 := Stand.of_body Bd
  have e0 : s₁.heap = h0 := by rw [← hh, Bd.state]; rfl
  have N0 := Fr.nil n0
  show own_G p.tables e below (fun o U' => ∃ v L, o = .returned v ∧ (own_cd3_6_Q Z pb Lb h0 n0) v U'.heap L ∧ FrameEnd s o U' L ({ frames := 0, cells := 0, slots := 0, locals := 0 } : Room).cells ({ frames := 0, cells := 0, slots := 0, locals := 0 } : Room).slots) (s₁.setTop (entryFrame m #[(.ref pb), (.int (3 : Int32))] 2))
  refine own_go (B := s₁.setTop (mkF m 0 #[rv pb, iv (3 : Int32)] [])) (fun t k => castTop (own_cd3_6_ef m pb) k) ?_
  refine own_go (B := (s₁.setTop (mkF m 1 #[rv pb, iv (3 : Int32)] [(.int (3 : Int32))]))) (fun t k => XS.iloadN X0.here hx rfl (hb hby own_cd3_6_d0) rfl k) ?_
  refine own_go (B := (s₁.setTop (mkF m 2 #[rv pb, iv (3 : Int32)] [(.ref pb), (.int (3 : Int32))]))) (fun t k => XS.aloadN X0.here hx rfl (hb hby own_cd3_6_d1) rfl rfl k) ?_
  refine own_go (B := (s₁.setTop (mkF m 3 #[rv pb, iv (3 : Int32)] [(.int (6 : Int32)), (.int (3 : Int32))]))) (own_alen X0 hx hZ e0 V0 (n := (6 : Int32)) (own_lenL hl (by decide)) (g := (mkF m 2 #[rv pb, iv (3 : Int32)] [(.ref pb), (.int (3 : Int32))])) rfl rfl (hb hby own_cd3_6_d2)) ?_
  refine own_go (B := (s₁.setTop (mkF m 4 #[rv pb, iv (3 : Int32)] [(.int ((3 : Int32) - (6 : Int32)))]))) (fun t k => XS.isub (x := (3 : Int32)) (y := (6 : Int32)) X0.here hx rfl (hb hby own_cd3_6_d3) rfl k) ?_
  rw [show ((3 : Int32) - (6 : Int32)) = (-3 : Int32) from by decide]
  refine own_go (B := (s₁.setTop (mkF m 6 #[rv pb, iv (3 : Int32)] [(.int (31 : Int32)), (.int (-3 : Int32))]))) (fun t k => own_bipush (v := (31 : Int32)) X0.here hx rfl (hb hby own_cd3_6_d4) (by decide) k) ?_
  refine own_go (B := (s₁.setTop (mkF m 7 #[rv pb, iv (3 : Int32)] [(.int (((-3 : Int32).toUInt32 >>> ((31 : Int32) &&& 31).toUInt32).toInt32))]))) (fun t k => XS.iushr (x := (-3 : Int32)) (y := (31 : Int32)) X0.here hx rfl (hb hby own_cd3_6_d6) rfl k) ?_
  refine own_go (B := (s₁.setTop (mkF m 8 #[rv pb, iv (3 : Int32)] [(.int ((((-3 : Int32).toUInt32 >>> ((31 : Int32) &&& 31).toUInt32).toInt32).toInt8.toInt32))]))) (fun t k => XS.i2b X0.here hx rfl (hb hby own_cd3_6_d7) rfl k) ?_
  rw [show ((((-3 : Int32).toUInt32 >>> ((31 : Int32) &&& 31).toUInt32).toInt32).toInt8.toInt32) = (1 : Int32) from by decide]
  exact own_retB X0 hx hlk Bd.returns (hb hby own_cd3_6_d8) (rfl) (own_b rfl) (own_b rfl) (Q := (own_cd3_6_Q Z pb Lb h0 n0)) ⟨rfl, N0, e0⟩

theorem own_i4_3_d0 : decode jdk_42_method_149_code 0 = .ok (.aload_n 0, 1) := by decide +kernel
theorem own_i4_3_d1 : decode jdk_42_method_149_code 1 = .ok (.invokespecial 1, 3) := by decide +kernel
theorem own_i4_3_d4 : decode jdk_42_method_149_code 4 = .ok (.iload_n 3, 1) := by decide +kernel
theorem own_i4_3_d5 : decode jdk_42_method_149_code 5 = .ok (.ifCond .ne 22, 3) := by decide +kernel
theorem own_i4_3_d27 : decode jdk_42_method_149_code 27 = .ok (.getstatic 38, 3) := by decide +kernel
theorem own_i4_3_d30 : decode jdk_42_method_149_code 30 = .ok (.ifCond .eq 28, 3) := by decide +kernel
theorem own_i4_3_d33 : decode jdk_42_method_149_code 33 = .ok (.aload_n 1, 1) := by decide +kernel
theorem own_i4_3_d34 : decode jdk_42_method_149_code 34 = .ok (.iload_n 2, 1) := by decide +kernel
theorem own_i4_3_d35 : decode jdk_42_method_149_code 35 = .ok (.iload_n 3, 1) := by decide +kernel
theorem own_i4_3_d36 : decode jdk_42_method_149_code 36 = .ok (.invokestatic 177, 3) := by decide +kernel
theorem own_i4_3_d39 : decode jdk_42_method_149_code 39 = .ok (.astore 5, 2) := by decide +kernel
theorem own_i4_3_d41 : decode jdk_42_method_149_code 41 = .ok (.aload_n 0, 1) := by decide +kernel
theorem own_i4_3_d42 : decode jdk_42_method_149_code 42 = .ok (.aload 5, 2) := by decide +kernel
theorem own_i4_3_d44 : decode jdk_42_method_149_code 44 = .ok (.iload_n 3, 1) := by decide +kernel
theorem own_i4_3_d45 : decode jdk_42_method_149_code 45 = .ok (.invokestatic 47, 3) := by decide +kernel
theorem own_i4_3_d48 : decode jdk_42_method_149_code 48 = .ok (.putfield 15, 3) := by decide +kernel
theorem own_i4_3_d51 : decode jdk_42_method_149_code 51 = .ok (.aload_n 0, 1) := by decide +kernel
theorem own_i4_3_d52 : decode jdk_42_method_149_code 52 = .ok (.aload 5, 2) := by decide +kernel
theorem own_i4_3_d54 : decode jdk_42_method_149_code 54 = .ok (.putfield 9, 3) := by decide +kernel
theorem own_i4_3_d57 : decode jdk_42_method_149_code 57 = .ok (.return_, 1) := by decide +kernel
theorem own_i4_3_pn : plainName "java/lang/String" = true := by first | (simp [plainName, overriddenIn]; done) | decide +kernel
theorem own_i4_3_ef (m : MethodId) (th : Addr) (pv : Addr) : entryFrame m #[(.ref th), (.ref pv), (.int (0 : Int32)), (.int (3 : Int32)), .null] 6 = mkF m 0 #[rv th, rv pv, iv (0 : Int32), iv (3 : Int32), .val .null, .unset] [] := by first | (simp [entryFrame, mkF, argsToLocals, Value.category]; done) | rfl
def own_i4_3_Q (Z : State) (th : Addr) (pv : Addr) (ch0 ch1 ch2 cs : Int32) (h0 : Heap) (n0 : Nat) (v : Option Value) (h : Heap) (L : List Loc) : Prop := ∃ b Lb cd, v = none ∧ Fr n0 L ∧ Keep h0 h [th] ∧ Exa Z h th "java/lang/String" ∧ Fld Z h th "java/lang/String" "value" "[B" (.ref b) ∧ Fld Z h th "java/lang/String" "coder" "B" (.int cd) ∧ own_Ar Z h b .byte Lb ∧ own_sl Lb cd (3 : Int32)
set_option maxRecDepth 65536 in
set_option maxHeartbeats 40000000 in
theorem own_i4_3 (l : Launch) (Z : State) (a0 : Array Value) (hw : ∀ d ∈ tables_1, d.before a0 Z = true) (ws : List Jvm.Cond) (th : Addr) (pv : Addr) (ch0 ch1 ch2 cs : Int32) (h0 : Heap) (n0 : Nat) (Z0 : n0 ≤ h0.size) (E0 : Exa Z h0 th "java/lang/String") (g0 : n0 ≤ th) (F9000 : Fld Z h0 th "java/lang/String" "value" "[B" .null) (F9001 : Fld Z h0 th "java/lang/String" "coder" "B" (.int (0 : Int32))) (V0 : own_Ar Z h0 pv .char [(.int ch0), (.int ch1), (.int ch2)]) (hn0 : nar .char ch0 = ch0) (hn1 : nar .char ch1 = ch1) (hn2 : nar .char ch2 = ch2) (hcS : Sta Z h0 "java/lang/String" "COMPACT_STRINGS" "Z" (.int cs)) (hcs : ¬ cs = (0 : Int32)) (hSa : Sta Z h0 "java/lang/StringUTF16" "$assertionsDisabled" "Z" (.int (1 : Int32))) (hSh : Sta Z h0 "java/lang/StringUTF16" "HI_BYTE_SHIFT" "I" (.int (0 : Int32))) (hSl : Sta Z h0 "java/lang/StringUTF16" "LO_BYTE_SHIFT" "I" (.int (8 : Int32))) :
    MetFree l own_y9 (head1 (Jvm.Cond.code own_y9 jdk_42_method_149_code 6 none :: ws) ({ frames := 4, cells := 2, slots := 9, locals := 57 } : Room)) (fun a U => a = #[(.ref th), (.ref pv), (.int (0 : Int32)), (.int (3 : Int32)), .null] ∧ Z.Warmed39 U.vm ∧ U.heap = h0) (fun _ _ _ _ _ => True) (fun _ U o U' => ∃ v L, o = .returned v ∧ (own_i4_3_Q Z th pv ch0 ch1 ch2 cs h0 n0) v U'.heap L ∧ FrameEnd U o U' L ({ frames := 4, cells := 2, slots := 9, locals := 57 } : Room).cells ({ frames := 4, cells := 2, slots := 9, locals := 57 } : Room).slots) := by
  refine MetFree.of_bodySF (plainFor_of_name own_i4_3_pn) hisR ?_
  intro p e s m args below meth c s₁ Bd hml0 hP hK
  obtain ⟨rfl, hZ, hh⟩ := hP
  have hx := Bd.exec
  have hby := Bd.bytes
  have hml : c.maxLocals = 6 := hml0
  have hown : s.vm.findClass "java/lang/String" = some m.cls := findClass_of_methodNamed Bd.named
  have hnm := (name_of_methodNamed Bd.named Bd.method).1
  have hlk : meth.locks = false := Bd.notSynchronized
  have X0 : Stand p l e ({ frames := 4, cells := 2, slots := 9, locals := 57 } : Room) s m #[(.ref th), (.ref pv), (.int (0 : Int32)), (.int (3 : Int32)), .null] below meth c s₁ [] 0 0 := Stand.of_body Bd
  have e0 : s₁.heap = h0 := by rw [← hh, Bd.state]; rfl
  have N0 := Fr.nil n0
  have w_2 := hw _ (List.mem_of_getElem? (l := tables_1) (i := 2) rfl)
  have w_12 := hw _ (List.mem_of_getElem? (l := tables_1) (i := 12) rfl)
  have w_13 := hw _ (List.mem_of_getElem? (l := tables_1) (i := 13) rfl)
  have w_14 := hw _ (List.mem_of_getElem? (l := tables_1) (i := 14) rfl)
  have w_17 := hw _ (List.mem_of_getElem? (l := tables_1) (i := 17) rfl)
  have w_18 := hw _ (List.mem_of_getElem? (l := tables_1) (i := 18) rfl)
  have w_21 := hw _ (List.mem_of_getElem? (l := tables_1) (i := 21) rfl)
  have w_22 := hw _ (List.mem_of_getElem? (l := tables_1) (i := 22) rfl)
  have w_26 := hw _ (List.mem_of_getElem? (l := tables_1) (i := 26) rfl)
  have w_38 := hw _ (List.mem_of_getElem? (l := tables_1) (i := 38) rfl)
  have w_39 := hw _ (List.mem_of_getElem? (l := tables_1) (i := 39) rfl)
  have w_40 := hw _ (List.mem_of_getElem? (l := tables_1) (i := 40) rfl)
  have w_41 := hw _ (List.mem_of_getElem? (l := tables_1) (i := 41) rfl)
  have w_45 := hw _ (List.mem_of_getElem? (l := tables_1) (i := 45) rfl)
  have w_46 := hw _ (List.mem_of_getElem? (l := tables_1) (i := 46) rfl)
  have w_47 := hw _ (List.mem_of_getElem? (l := tables_1) (i := 47) rfl)
  show own_G p.tables e below (fun o U' => ∃ v L, o = .returned v ∧ (own_i4_3_Q Z th pv ch0 ch1 ch2 cs h0 n0) v U'.heap L ∧ FrameEnd s o U' L ({ frames := 4, cells := 2, slots := 9, locals := 57 } : Room).cells ({ frames := 4, cells := 2, slots := 9, locals := 57 } : Room).slots) (s₁.setTop (entryFrame m #[(.ref th), (.ref pv), (.int (0 : Int32)), (.int (3 : Int32)), .null] 6))
  refine own_go (B := s₁.setTop (mkF m 0 #[rv th, rv pv, iv (0 : Int32), iv (3 : Int32), .val .null, .unset] [])) (fun t k => castTop (own_i4_3_ef m th pv) k) ?_
  have K0 := Keep.refl h0 [th]
  have npv := own_Ar_ne E0 w_2 V0
  refine own_go (B := (s₁.setTop (mkF m 1 #[rv th, rv pv, iv (0 : Int32), iv (3 : Int32), .val .null, .unset] [(.ref th)]))) (fun t k => XS.aloadN X0.here hx rfl (hb hby own_i4_3_d0) rfl rfl k) ?_
  obtain ⟨T1, X1, e1, st1⟩ := initO X0 hx hZ hown w_12 w_13 w_14 e0 (g := (mkF m 1 #[rv th, rv pv, iv (0 : Int32), iv (3 : Int32), .val .null, .unset] [(.ref th)])) rfl (by rw [hml]; rfl) rfl (hb hby own_i4_3_d1) (by decide) (W := 0) (by show 2 * 0 + _ ≤ _; exact own_b rfl) (by decide)
  refine own_go (B := (T1.setTop (mkF m 4 #[rv th, rv pv, iv (0 : Int32), iv (3 : Int32), .val .null, .unset] []))) st1 ?_
  refine own_go (B := (T1.setTop (mkF m 5 #[rv th, rv pv, iv (0 : Int32), iv (3 : Int32), .val .null, .unset] [(.int (3 : Int32))]))) (fun t k => XS.iloadN X1.here hx rfl (hb hby own_i4_3_d4) rfl k) ?_
  have hc5 : ¬ (3 : Int32) = (0 : Int32) := (by decide)
  refine own_ifY X1 hx (hb hby own_i4_3_d5) (pc' := 27) (by decide) (by decide) hc5 ?_
  obtain ⟨T2, X2, e2, st2⟩ := getS X1 hx hZ hown (host := "") w_26 Via.refl e1 hcS (g := (mkF m 27 #[rv th, rv pv, iv (0 : Int32), iv (3 : Int32), .val .null, .unset] [])) rfl (hb hby own_i4_3_d27)
  refine own_go (B := (T2.setTop (mkF m 30 #[rv th, rv pv, iv (0 : Int32), iv (3 : Int32), .val .null, .unset] [(.int cs)]))) st2 ?_
  have hc30 : ¬ cs = (0 : Int32) := hcs
  refine own_ifN X2 hx (hb hby own_i4_3_d30) (pn := 33) rfl hc30 ?_
  refine own_go (B := (T2.setTop (mkF m 34 #[rv th, rv pv, iv (0 : Int32), iv (3 : Int32), .val .null, .unset] [(.ref pv)]))) (fun t k => XS.aloadN X2.here hx rfl (hb hby own_i4_3_d33) rfl rfl k) ?_
  refine own_go (B := (T2.setTop (mkF m 35 #[rv th, rv pv, iv (0 : Int32), iv (3 : Int32), .val .null, .unset] [(.int (0 : Int32)), (.ref pv)]))) (fun t k => XS.iloadN X2.here hx rfl (hb hby own_i4_3_d34) rfl k) ?_
  refine own_go (B := (T2.setTop (mkF m 36 #[rv th, rv pv, iv (0 : Int32), iv (3 : Int32), .val .null, .unset] [(.int (3 : Int32)), (.int (0 : Int32)), (.ref pv)]))) (fun t k => XS.iloadN X2.here hx rfl (hb hby own_i4_3_d35) rfl k) ?_
  obtain ⟨_, _, ⟨T3, L3, k3, n3⟩, -, X3, ⟨Lc3, hQ3, l3, yy3, zz3⟩, st3⟩ := Jvm.LawKit.callS X2 hx (y := own_y7) hown (mvT hZ w_38) (mvT hZ w_39) (mvT hZ w_40) (mvT hZ w_41) (by decide) (backOf (W := 0) (own_k3_3 l Z a0 hw [] pv ch0 ch1 ch2 h0 n0 Z0 V0 hn0 hn1 hn2 hSa hSh hSl) hZ w_41 w_40 (by decide) (by decide)) (g := (mkF m 36 #[rv th, rv pv, iv (0 : Int32), iv (3 : Int32), .val .null, .unset] [(.int (3 : Int32)), (.int (0 : Int32)), (.ref pv)])) rfl (by rw [hml]; rfl) (argsL := [(.ref pv), (.int (0 : Int32)), (.int (3 : Int32))]) (rest := []) (lenOf own_pd5 rfl) rfl (by show 2 * 0 + _ ≤ _; exact own_b rfl) (hb hby own_i4_3_d36) (fun _ _ => ⟨rfl, e2, (own_b rfl : 0 + 2 ≤ _), (own_b rfl : 0 + 9 ≤ _)⟩)
  dsimp only [Pt.U, Pt.locs, Pt.cells, Pt.slots] at X3 l3 yy3 zz3 st3 hQ3
  obtain ⟨b3, Lb3, rfl, Nq3, K3, gv3, gd3⟩ := hQ3
  obtain ⟨L3, X3, N3⟩ := own_absC (K := 2) (K' := 9) X3 l3 yy3 zz3 N0 Nq3
  have F4 : n0 ≤ T3.heap.size := Nat.le_trans Z0 K3.1
  have F5 := Keep.trans K0 K3 all0
  have F6 := Exa.keep E0 K3
  have F7 := Fld.keep F9000 K3 nin0
  have F8 := Fld.keep F9001 K3 nin0
  have F9 := own_Ar_keep V0 K3 nin0
  have F10 := own_sta_keep hcS K3 ns0
  have F11 := own_sta_keep hSa K3 ns0
  have F12 := own_sta_keep hSh K3 ns0
  have F13 := own_sta_keep hSl K3 ns0
  have nq3 := own_Ar_ne F6 w_2 gv3
  refine own_go (B := (T3.setTop (mkF m 39 #[rv th, rv pv, iv (0 : Int32), iv (3 : Int32), .val .null, .unset] [(.ref b3)]))) st3 ?_
  rcases gd3 with hl | hl
  · refine own_go (B := (T3.setTop (mkF m 41 #[rv th, rv pv, iv (0 : Int32), iv (3 : Int32), .val .null, rv b3] []))) (fun t k => XS.astore X3.here hx rfl (hb hby own_i4_3_d39) rfl rfl (l' := #[rv th, rv pv, iv (0 : Int32), iv (3 : Int32), .val .null, rv b3]) rfl k) ?_
    refine own_go (B := (T3.setTop (mkF m 42 #[rv th, rv pv, iv (0 : Int32), iv (3 : Int32), .val .null, rv b3] [(.ref th)]))) (fun t k => XS.aloadN X3.here hx rfl (hb hby own_i4_3_d41) rfl rfl k) ?_
    refine own_go (B := (T3.setTop (mkF m 44 #[rv th, rv pv, iv (0 : Int32), iv (3 : Int32), .val .null, rv b3] [(.ref b3), (.ref th)]))) (fun t k => XS.aload X3.here hx rfl (hb hby own_i4_3_d42) rfl rfl k) ?_
    refine own_go (B := (T3.setTop (mkF m 45 #[rv th, rv pv, iv (0 : Int32), iv (3 : Int32), .val .null, rv b3] [(.int (3 : Int32)), (.ref b3), (.ref th)]))) (fun t k => XS.iloadN X3.here hx rfl (hb hby own_i4_3_d44) rfl k) ?_
    obtain ⟨_, _, ⟨T14, L14, k14, n14⟩, -, X14, ⟨Lc14, hQ14, l14, yy14, zz14⟩, st14⟩ := Jvm.LawKit.callS X3 hx (y := own_y8) hown (mvT hZ w_45) (mvT hZ w_46) (mvT hZ w_40) (mvT hZ w_47) (by decide) (backOf (W := 1) (own_cd3_3 l Z a0 hw [] b3 Lb3 T3.heap n0 gv3 hl) hZ w_47 w_40 (by decide) (by decide)) (g := (mkF m 45 #[rv th, rv pv, iv (0 : Int32), iv (3 : Int32), .val .null, rv b3] [(.int (3 : Int32)), (.ref b3), (.ref th)])) rfl (by rw [hml]; rfl) (argsL := [(.ref b3), (.int (3 : Int32))]) (rest := [(.ref th)]) (lenOf own_pd7 rfl) rfl (by show 2 * 0 + _ ≤ _; exact own_b rfl) (hb hby own_i4_3_d45) (fun _ _ => ⟨rfl, rfl, (own_b rfl : 2 + 0 ≤ _), (own_b rfl : 9 + 0 ≤ _)⟩)
    dsimp only [Pt.U, Pt.locs, Pt.cells, Pt.slots] at X14 l14 yy14 zz14 st14 hQ14
    obtain ⟨rfl, Nq14, eq14⟩ := hQ14
    obtain ⟨L14, X14, N14⟩ := own_absC (K := 2) (K' := 9) X14 l14 yy14 zz14 N3 Nq14
    have e14 : T14.heap = T3.heap := eq14
    refine own_go (B := (T14.setTop (mkF m 48 #[rv th, rv pv, iv (0 : Int32), iv (3 : Int32), .val .null, rv b3] [(.int (0 : Int32)), (.ref th)]))) st14 ?_
    obtain ⟨T15, h15, X15, e15, W15, st15⟩ := putF X14 hx hZ hown (host := "") (Or.inl w_22) Via.refl e14 F8 F6 (Or.inr ⟨w_18, rfl, hnm⟩) w_2 (ty := .byte) (by decide) rfl rfl (g := (mkF m 48 #[rv th, rv pv, iv (0 : Int32), iv (3 : Int32), .val .null, rv b3] [(.int (0 : Int32)), (.ref th)])) rfl rfl (hb hby own_i4_3_d48)
    refine own_go (B := (T15.setTop (mkF m 51 #[rv th, rv pv, iv (0 : Int32), iv (3 : Int32), .val .null, rv b3] []))) st15 ?_
    obtain ⟨L15, X15, N15⟩ := own_abs X15 (Fr.snoc X15 N14 g0)
    have F16 : n0 ≤ h15.size := by rw [W15.size]; exact F4
    have F17 := Keep.wr F5 W15 (Or.inl (List.mem_of_getElem? (i := 0) rfl))
    have F18 := Exa.wr W15 F6
    have F19 := Fld.other W15 F7 (Or.inr (slot_ne (t := (.array .byte)) (t' := .byte) (Or.inr w_17) (Or.inr w_18) (by decide) (by decide) (by decide)))
    have F20 := Fld.same W15 F8
    have F21 := own_Ar_other F9 W15 (Ne.symm npv)
    have F22 := Sta.wr W15 F10
    have F23 := Sta.wr W15 F11
    have F24 := Sta.wr W15 F12
    have F25 := Sta.wr W15 F13
    have F26 := own_Ar_other gv3 W15 (Ne.symm nq3)
    refine own_go (B := (T15.setTop (mkF m 52 #[rv th, rv pv, iv (0 : Int32), iv (3 : Int32), .val .null, rv b3] [(.ref th)]))) (fun t k => XS.aloadN X15.here hx rfl (hb hby own_i4_3_d51) rfl rfl k) ?_
    refine own_go (B := (T15.setTop (mkF m 54 #[rv th, rv pv, iv (0 : Int32), iv (3 : Int32), .val .null, rv b3] [(.ref b3), (.ref th)]))) (fun t k => XS.aload X15.here hx rfl (hb hby own_i4_3_d52) rfl rfl k) ?_
    obtain ⟨T27, h27, X27, e27, W27, st27⟩ := putF X15 hx hZ hown (host := "") (Or.inl w_21) Via.refl e15 F19 F18 (Or.inr ⟨w_17, rfl, hnm⟩) w_2 (ty := (.array .byte)) (by decide) rfl rfl (g := (mkF m 54 #[rv th, rv pv, iv (0 : Int32), iv (3 : Int32), .val .null, rv b3] [(.ref b3), (.ref th)])) rfl rfl (hb hby own_i4_3_d54)
    refine own_go (B := (T27.setTop (mkF m 57 #[rv th, rv pv, iv (0 : Int32), iv (3 : Int32), .val .null, rv b3] []))) st27 ?_
    obtain ⟨L27, X27, N27⟩ := own_abs X27 (Fr.snoc X27 N15 g0)
    have F28 : n0 ≤ h27.size := by rw [W27.size]; exact F16
    have F29 := Keep.wr F17 W27 (Or.inl (List.mem_of_getElem? (i := 0) rfl))
    have F30 := Exa.wr W27 F18
    have F31 := Fld.same W27 F19
    have F32 := Fld.other W27 F20 (Or.inr (slot_ne (t := .byte) (t' := (.array .byte)) (Or.inr w_18) (Or.inr w_17) (by decide) (by decide) (by decide)))
    have F33 := own_Ar_other F21 W27 (Ne.symm npv)
    have F34 := Sta.wr W27 F22
    have F35 := Sta.wr W27 F23
    have F36 := Sta.wr W27 F24
    have F37 := Sta.wr W27 F25
    have F38 := own_Ar_other F26 W27 (Ne.symm nq3)
    exact own_retV X27 hx hlk Bd.returns (hb hby own_i4_3_d57) (own_b rfl) (own_b rfl) (Q := (own_i4_3_Q Z th pv ch0 ch1 ch2 cs h0 n0)) (by rw [e27]; exact ⟨_, Lb3, _, rfl, N27, F29, F30, F31, F32, F38, (own_sl_of hl rfl (by decide))⟩)
  · refine own_go (B := (T3.setTop (mkF m 41 #[rv th, rv pv, iv (0 : Int32), iv (3 : Int32), .val .null, rv b3] []))) (fun t k => XS.astore X3.here hx rfl (hb hby own_i4_3_d39) rfl rfl (l' := #[rv th, rv pv, iv (0 : Int32), iv (3 : Int32), .val .null, rv b3]) rfl k) ?_
    refine own_go (B := (T3.setTop (mkF m 42 #[rv th, rv pv, iv (0 : Int32), iv (3 : Int32), .val .null, rv b3] [(.ref th)]))) (fun t k => XS.aloadN X3.here hx rfl (hb hby own_i4_3_d41) rfl rfl k) ?_
    refine own_go (B := (T3.setTop (mkF m 44 #[rv th, rv pv, iv (0 : Int32), iv (3 : Int32), .val .null, rv b3] [(.ref b3), (.ref th)]))) (fun t k => XS.aload X3.here hx rfl (hb hby own_i4_3_d42) rfl rfl k) ?_
    refine own_go (B := (T3.setTop (mkF m 45 #[rv th, rv pv, iv (0 : Int32), iv (3 : Int32), .val .null, rv b3] [(.int (3 : Int32)), (.ref b3), (.ref th)]))) (fun t k => XS.iloadN X3.here hx rfl (hb hby own_i4_3_d44) rfl k) ?_
    obtain ⟨_, _, ⟨T39, L39, k39, n39⟩, -, X39, ⟨Lc39, hQ39, l39, yy39, zz39⟩, st39⟩ := Jvm.LawKit.callS X3 hx (y := own_y8) hown (mvT hZ w_45) (mvT hZ w_46) (mvT hZ w_40) (mvT hZ w_47) (by decide) (backOf (W := 1) (own_cd3_6 l Z a0 hw [] b3 Lb3 T3.heap n0 gv3 hl) hZ w_47 w_40 (by decide) (by decide)) (g := (mkF m 45 #[rv th, rv pv, iv (0 : Int32), iv (3 : Int32), .val .null, rv b3] [(.int (3 : Int32)), (.ref b3), (.ref th)])) rfl (by rw [hml]; rfl) (argsL := [(.ref b3), (.int (3 : Int32))]) (rest := [(.ref th)]) (lenOf own_pd7 rfl) rfl (by show 2 * 0 + _ ≤ _; exact own_b rfl) (hb hby own_i4_3_d45) (fun _ _ => ⟨rfl, rfl, (own_b rfl : 2 + 0 ≤ _), (own_b rfl : 9 + 0 ≤ _)⟩)
    dsimp only [Pt.U, Pt.locs, Pt.cells, Pt.slots] at X39 l39 yy39 zz39 st39 hQ39
    obtain ⟨rfl, Nq39, eq39⟩ := hQ39
    obtain ⟨L39, X39, N39⟩ := own_absC (K := 2) (K' := 9) X39 l39 yy39 zz39 N3 Nq39
    have e39 : T39.heap = T3.heap := eq39
    refine own_go (B := (T39.setTop (mkF m 48 #[rv th, rv pv, iv (0 : Int32), iv (3 : Int32), .val .null, rv b3] [(.int (1 : Int32)), (.ref th)]))) st39 ?_
    obtain ⟨T40, h40, X40, e40, W40, st40⟩ := putF X39 hx hZ hown (host := "") (Or.inl w_22) Via.refl e39 F8 F6 (Or.inr ⟨w_18, rfl, hnm⟩) w_2 (ty := .byte) (by decide) rfl rfl (g := (mkF m 48 #[rv th, rv pv, iv (0 : Int32), iv (3 : Int32), .val .null, rv b3] [(.int (1 : Int32)), (.ref th)])) rfl rfl (hb hby own_i4_3_d48)
    refine own_go (B := (T40.setTop (mkF m 51 #[rv th, rv pv, iv (0 : Int32), iv (3 : Int32), .val .null, rv b3] []))) st40 ?_
    obtain ⟨L40, X40, N40⟩ := own_abs X40 (Fr.snoc X40 N39 g0)
    have F41 : n0 ≤ h40.size := by rw [W40.size]; exact F4
    have F42 := Keep.wr F5 W40 (Or.inl (List.mem_of_getElem? (i := 0) rfl))
    have F43 := Exa.wr W40 F6
    have F44 := Fld.other W40 F7 (Or.inr (slot_ne (t := (.array .byte)) (t' := .byte) (Or.inr w_17) (Or.inr w_18) (by decide) (by decide) (by decide)))
    have F45 := Fld.same W40 F8
    have F46 := own_Ar_other F9 W40 (Ne.symm npv)
    have F47 := Sta.wr W40 F10
    have F48 := Sta.wr W40 F11
    have F49 := Sta.wr W40 F12
    have F50 := Sta.wr W40 F13
    have F51 := own_Ar_other gv3 W40 (Ne.symm nq3)
    refine own_go (B := (T40.setTop (mkF m 52 #[rv th, rv pv, iv (0 : Int32), iv (3 : Int32), .val .null, rv b3] [(.ref th)]))) (fun t k => XS.aloadN X40.here hx rfl (hb hby own_i4_3_d51) rfl rfl k) ?_
    refine own_go (B := (T40.setTop (mkF m 54 #[rv th, rv pv, iv (0 : Int32), iv (3 : Int32), .val .null, rv b3] [(.ref b3), (.ref th)]))) (fun t k => XS.aload X40.here hx rfl (hb hby own_i4_3_d52) rfl rfl k) ?_
    obtain ⟨T52, h52, X52, e52, W52, st52⟩ := putF X40 hx hZ hown (host := "") (Or.inl w_21) Via.refl e40 F44 F43 (Or.inr ⟨w_17, rfl, hnm⟩) w_2 (ty := (.array .byte)) (by decide) rfl rfl (g := (mkF m 54 #[rv th, rv pv, iv (0 : Int32), iv (3 : Int32), .val .null, rv b3] [(.ref b3), (.ref th)])) rfl rfl (hb hby own_i4_3_d54)
    refine own_go (B := (T52.setTop (mkF m 57 #[rv th, rv pv, iv (0 : Int32), iv (3 : Int32), .val .null, rv b3] []))) st52 ?_
    obtain ⟨L52, X52, N52⟩ := own_abs X52 (Fr.snoc X52 N40 g0)
    have F53 : n0 ≤ h52.size := by rw [W52.size]; exact F41
    have F54 := Keep.wr F42 W52 (Or.inl (List.mem_of_getElem? (i := 0) rfl))
    have F55 := Exa.wr W52 F43
    have F56 := Fld.same W52 F44
    have F57 := Fld.other W52 F45 (Or.inr (slot_ne (t := .byte) (t' := (.array .byte)) (Or.inr w_18) (Or.inr w_17) (by decide) (by decide) (by decide)))
    have F58 := own_Ar_other F46 W52 (Ne.symm npv)
    have F59 := Sta.wr W52 F47
    have F60 := Sta.wr W52 F48
    have F61 := Sta.wr W52 F49
    have F62 := Sta.wr W52 F50
    have F63 := own_Ar_other F51 W52 (Ne.symm nq3)
    exact own_retV X52 hx hlk Bd.returns (hb hby own_i4_3_d57) (own_b rfl) (own_b rfl) (Q := (own_i4_3_Q Z th pv ch0 ch1 ch2 cs h0 n0)) (by rw [e52]; exact ⟨_, Lb3, _, rfl, N52, F54, F55, F56, F57, F63, (own_sl_of hl rfl (by decide))⟩)

theorem own_i1_3_d0 : decode jdk_42_method_3_code 0 = .ok (.aload_n 0, 1) := by decide +kernel
theorem own_i1_3_d1 : decode jdk_42_method_3_code 1 = .ok (.aload_n 1, 1) := by decide +kernel
theorem own_i1_3_d2 : decode jdk_42_method_3_code 2 = .ok (.iconst 0, 1) := by decide +kernel
theorem own_i1_3_d3 : decode jdk_42_method_3_code 3 = .ok (.aload_n 1, 1) := by decide +kernel
theorem own_i1_3_d4 : decode jdk_42_method_3_code 4 = .ok (.arraylength, 1) := by decide +kernel
theorem own_i1_3_d5 : decode jdk_42_method_3_code 5 = .ok (.aconst_null, 1) := by decide +kernel
theorem own_i1_3_d6 : decode jdk_42_method_3_code 6 = .ok (.invokespecial 27, 3) := by decide +kernel
theorem own_i1_3_d9 : decode jdk_42_method_3_code 9 = .ok (.return_, 1) := by decide +kernel
theorem own_i1_3_pn : plainName "java/lang/String" = true := by first | (simp [plainName, overriddenIn]; done) | decide +kernel
theorem own_i1_3_ef (m : MethodId) (th : Addr) (pv : Addr) : entryFrame m #[(.ref th), (.ref pv)] 2 = mkF m 0 #[rv th, rv pv] [] := by first | (simp [entryFrame, mkF, argsToLocals, Value.category]; done) | rfl
def own_i1_3_Q (Z : State) (th : Addr) (pv : Addr) (ch0 ch1 ch2 cs : Int32) (h0 : Heap) (n0 : Nat) (v : Option Value) (h : Heap) (L : List Loc) : Prop := ∃ b Lb cd, v = none ∧ Fr n0 L ∧ Keep h0 h [th] ∧ Exa Z h th "java/lang/String" ∧ Fld Z h th "java/lang/String" "value" "[B" (.ref b) ∧ Fld Z h th "java/lang/String" "coder" "B" (.int cd) ∧ own_Ar Z h b .byte Lb ∧ own_sl Lb cd (3 : Int32)
set_option maxRecDepth 65536 in
set_option maxHeartbeats 40000000 in
theorem own_i1_3 (l : Launch) (Z : State) (a0 : Array Value) (hw : ∀ d ∈ tables_1, d.before a0 Z = true) (ws : List Jvm.Cond) (th : Addr) (pv : Addr) (ch0 ch1 ch2 cs : Int32) (h0 : Heap) (n0 : Nat) (Z0 : n0 ≤ h0.size) (E0 : Exa Z h0 th "java/lang/String") (g0 : n0 ≤ th) (F9000 : Fld Z h0 th "java/lang/String" "value" "[B" .null) (F9001 : Fld Z h0 th "java/lang/String" "coder" "B" (.int (0 : Int32))) (V0 : own_Ar Z h0 pv .char [(.int ch0), (.int ch1), (.int ch2)]) (hn0 : nar .char ch0 = ch0) (hn1 : nar .char ch1 = ch1) (hn2 : nar .char ch2 = ch2) (hcS : Sta Z h0 "java/lang/String" "COMPACT_STRINGS" "Z" (.int cs)) (hcs : ¬ cs = (0 : Int32)) (hSa : Sta Z h0 "java/lang/StringUTF16" "$assertionsDisabled" "Z" (.int (1 : Int32))) (hSh : Sta Z h0 "java/lang/StringUTF16" "HI_BYTE_SHIFT" "I" (.int (0 : Int32))) (hSl : Sta Z h0 "java/lang/StringUTF16" "LO_BYTE_SHIFT" "I" (.int (8 : Int32))) :
    MetFree l own_y16 (head1 (Jvm.Cond.code own_y16 jdk_42_method_3_code 2 none :: ws) ({ frames := 5, cells := 2, slots := 9, locals := 74 } : Room)) (fun a U => a = #[(.ref th), (.ref pv)] ∧ Z.Warmed39 U.vm ∧ U.heap = h0) (fun _ _ _ _ _ => True) (fun _ U o U' => ∃ v L, o = .returned v ∧ (own_i1_3_Q Z th pv ch0 ch1 ch2 cs h0 n0) v U'.heap L ∧ FrameEnd U o U' L ({ frames := 5, cells := 2, slots := 9, locals := 74 } : Room).cells ({ frames := 5, cells := 2, slots := 9, locals := 74 } : Room).slots) := by
  refine MetFree.of_bodySF (plainFor_of_name own_i1_3_pn) hisR ?_
  intro p e s m args below meth c s₁ Bd hml0 hP hK
  obtain ⟨rfl, hZ, hh⟩ := hP
  have hx := Bd.exec
  have hby := Bd.bytes
  have hml : c.maxLocals = 2 := hml0
  have hown : s.vm.findClass "java/lang/String" = some m.cls := findClass_of_methodNamed Bd.named
  have hnm := (name_of_methodNamed Bd.named Bd.method).1
  have hlk : meth.locks = false := Bd.notSynchronized
  have X0 : Stand p l e ({ frames := 5, cells := 2, slots := 9, locals := 74 } : Room) s m #[(.ref th), (.ref pv)] below meth c s₁ [] 0 0 := Stand.of_body Bd
  have e0 : s₁.heap = h0 := by rw [← hh, Bd.state]; rfl
  have N0 := Fr.nil n0
  have w_3 := hw _ (List.mem_of_getElem? (l := tables_1) (i := 3) rfl)
  have w_8 := hw _ (List.mem_of_getElem? (l := tables_1) (i := 8) rfl)
  have w_9 := hw _ (List.mem_of_getElem? (l := tables_1) (i := 9) rfl)
  have w_11 := hw _ (List.mem_of_getElem? (l := tables_1) (i := 11) rfl)
  show own_G p.tables e below (fun o U' => ∃ v L, o = .returned v ∧ (own_i1_3_Q Z th pv ch0 ch1 ch2 cs h0 n0) v U'.heap L ∧ FrameEnd s o U' L ({ frames := 5, cells := 2, slots := 9, locals := 74 } : Room).cells ({ frames := 5, cells := 2, slots := 9, locals := 74 } : Room).slots) (s₁.setTop (entryFrame m #[(.ref th), (.ref pv)] 2))
  refine own_go (B := s₁.setTop (mkF m 0 #[rv th, rv pv] [])) (fun t k => castTop (own_i1_3_ef m th pv) k) ?_
  have K0 := Keep.refl h0 [th]
  refine own_go (B := (s₁.setTop (mkF m 1 #[rv th, rv pv] [(.ref th)]))) (fun t k => XS.aloadN X0.here hx rfl (hb hby own_i1_3_d0) rfl rfl k) ?_
  refine own_go (B := (s₁.setTop (mkF m 2 #[rv th, rv pv] [(.ref pv), (.ref th)]))) (fun t k => XS.aloadN X0.here hx rfl (hb hby own_i1_3_d1) rfl rfl k) ?_
  refine own_go (B := (s₁.setTop (mkF m 3 #[rv th, rv pv] [(.int (0 : Int32)), (.ref pv), (.ref th)]))) (fun t k => own_iconst (v := (0 : Int32)) X0.here hx rfl (hb hby own_i1_3_d2) (by decide) k) ?_
  refine own_go (B := (s₁.setTop (mkF m 4 #[rv th, rv pv] [(.ref pv), (.int (0 : Int32)), (.ref pv), (.ref th)]))) (fun t k => XS.aloadN X0.here hx rfl (hb hby own_i1_3_d3) rfl rfl k) ?_
  refine own_go (B := (s₁.setTop (mkF m 5 #[rv th, rv pv] [(.int (3 : Int32)), (.int (0 : Int32)), (.ref pv), (.ref th)]))) (own_alen X0 hx hZ e0 V0 (n := (3 : Int32)) (own_lenL (n := 3) rfl (by decide)) (g := (mkF m 4 #[rv th, rv pv] [(.ref pv), (.int (0 : Int32)), (.ref pv), (.ref th)])) rfl rfl (hb hby own_i1_3_d4)) ?_
  refine own_go (B := (s₁.setTop (mkF m 6 #[rv th, rv pv] [.null, (.int (3 : Int32)), (.int (0 : Int32)), (.ref pv), (.ref th)]))) (fun t k => XS.aconstNull X0.here hx rfl (hb hby own_i1_3_d5) k) ?_
  obtain ⟨_, _, ⟨T1, L1, k1, n1⟩, -, X1, ⟨Lc1, hQ1, l1, yy1, zz1⟩, st1⟩ := X0.specialBack hx (y := own_y9) rfl hown (mvT hZ w_8) (mvT hZ w_9) (mvT hZ w_11) (by decide) (backOf (W := 0) (own_i4_3 l Z a0 hw [] th pv ch0 ch1 ch2 cs h0 n0 Z0 E0 g0 F9000 F9001 V0 hn0 hn1 hn2 hcS hcs hSa hSh hSl) hZ w_11 w_3 (by decide) (by decide)) (g := (mkF m 6 #[rv th, rv pv] [.null, (.int (3 : Int32)), (.int (0 : Int32)), (.ref pv), (.ref th)])) rfl (by rw [hml]; rfl) (Steps.refl _) (a := th) (argsL := [(.ref pv), (.int (0 : Int32)), (.int (3 : Int32)), .null]) (rest := []) (lenOf own_pd8 rfl) rfl (by show 2 * 0 + _ ≤ _; exact own_b rfl) (hb hby own_i1_3_d6) (fun _ _ => ⟨rfl, e0, (own_b rfl : 0 + 2 ≤ _), (own_b rfl : 0 + 9 ≤ _)⟩)
  dsimp only [Pt.U, Pt.locs, Pt.cells, Pt.slots] at X1 l1 yy1 zz1 st1 hQ1
  obtain ⟨b1, Lb1, cd1, rfl, Nq1, K1, Ex1, gb1, gc1, gv1, gs1⟩ := hQ1
  obtain ⟨L1, X1, N1⟩ := own_absC (K := 2) (K' := 9) X1 l1 yy1 zz1 N0 Nq1
  have F2 : n0 ≤ T1.heap.size := Nat.le_trans Z0 K1.1
  have F3 := Keep.trans K0 K1 (allS (Or.inl (List.mem_of_getElem? (i := 0) rfl)) all0)
  have F4 := Exa.keep E0 K1
  have F7 := own_sta_keep hcS K1 (nsS (Exa.nostat E0) ns0)
  have F8 := own_sta_keep hSa K1 (nsS (Exa.nostat E0) ns0)
  have F9 := own_sta_keep hSh K1 (nsS (Exa.nostat E0) ns0)
  have F10 := own_sta_keep hSl K1 (nsS (Exa.nostat E0) ns0)
  refine own_tr (B := (T1.setTop (mkF m 9 #[rv th, rv pv] []))) st1 ?_
  exact own_retV X1 hx hlk Bd.returns (hb hby own_i1_3_d9) (own_b rfl) (own_b rfl) (Q := (own_i1_3_Q Z th pv ch0 ch1 ch2 cs h0 n0)) ⟨_, Lb1, _, rfl, N1, F3, Ex1, gb1, gc1, gv1, gs1⟩

theorem own_i4_0_d0 : decode jdk_42_method_149_code 0 = .ok (.aload_n 0, 1) := by decide +kernel
theorem own_i4_0_d1 : decode jdk_42_method_149_code 1 = .ok (.invokespecial 1, 3) := by decide +kernel
theorem own_i4_0_d4 : decode jdk_42_method_149_code 4 = .ok (.iload_n 3, 1) := by decide +kernel
theorem own_i4_0_d5 : decode jdk_42_method_149_code 5 = .ok (.ifCond .ne 22, 3) := by decide +kernel
theorem own_i4_0_d8 : decode jdk_42_method_149_code 8 = .ok (.aload_n 0, 1) := by decide +kernel
theorem own_i4_0_d9 : decode jdk_42_method_149_code 9 = .ok (.ldc 7, 2) := by decide +kernel
theorem own_i4_0_d11 : decode jdk_42_method_149_code 11 = .ok (.getfield 9, 3) := by decide +kernel
theorem own_i4_0_d14 : decode jdk_42_method_149_code 14 = .ok (.putfield 9, 3) := by decide +kernel
theorem own_i4_0_d17 : decode jdk_42_method_149_code 17 = .ok (.aload_n 0, 1) := by decide +kernel
theorem own_i4_0_d18 : decode jdk_42_method_149_code 18 = .ok (.ldc 7, 2) := by decide +kernel
theorem own_i4_0_d20 : decode jdk_42_method_149_code 20 = .ok (.getfield 15, 3) := by decide +kernel
theorem own_i4_0_d23 : decode jdk_42_method_149_code 23 = .ok (.putfield 15, 3) := by decide +kernel
theorem own_i4_0_d26 : decode jdk_42_method_149_code 26 = .ok (.return_, 1) := by decide +kernel
theorem own_i4_0_pn : plainName "java/lang/String" = true := by first | (simp [plainName, overriddenIn]; done) | decide +kernel
theorem own_i4_0_ef (m : MethodId) (th : Addr) (pv : Addr) : entryFrame m #[(.ref th), (.ref pv), (.int (0 : Int32)), (.int (0 : Int32)), .null] 6 = mkF m 0 #[rv th, rv pv, iv (0 : Int32), iv (0 : Int32), .val .null, .unset] [] := by first | (simp [entryFrame, mkF, argsToLocals, Value.category]; done) | rfl
def own_i4_0_Q (Z : State) (th : Addr) (pv : Addr) (h0 : Heap) (n0 : Nat) (v : Option Value) (h : Heap) (L : List Loc) : Prop := ∃ b Lb cd, v = none ∧ Fr n0 L ∧ Keep h0 h [th] ∧ Exa Z h th "java/lang/String" ∧ Fld Z h th "java/lang/String" "value" "[B" (.ref b) ∧ Fld Z h th "java/lang/String" "coder" "B" (.int cd) ∧ own_Ar Z h b .byte Lb ∧ own_sl Lb cd (0 : Int32)
set_option maxRecDepth 65536 in
set_option maxHeartbeats 40000000 in
theorem own_i4_0 (l : Launch) (Z : State) (a0 : Array Value) (hw : ∀ d ∈ tables_1, d.before a0 Z = true) (ws : List Jvm.Cond) (th : Addr) (pv : Addr) (h0 : Heap) (n0 : Nat) (Z0 : n0 ≤ h0.size) (E0 : Exa Z h0 th "java/lang/String") (g0 : n0 ≤ th) (F9000 : Fld Z h0 th "java/lang/String" "value" "[B" .null) (F9001 : Fld Z h0 th "java/lang/String" "coder" "B" (.int (0 : Int32))) (V0 : own_Ar Z h0 pv .char []) :
    MetFree l own_y9 (head1 (Jvm.Cond.code own_y9 jdk_42_method_149_code 6 none :: ws) ({ frames := 1, cells := 4, slots := 8, locals := 12 } : Room)) (fun a U => a = #[(.ref th), (.ref pv), (.int (0 : Int32)), (.int (0 : Int32)), .null] ∧ Z.Warmed39 U.vm ∧ U.heap = h0 ∧ CHv Z own_EL U.vm h0 ∧ Safe Z own_EL U.vm h0 th) (fun _ _ _ _ _ => True) (fun _ U o U' => ∃ v L, o = .returned v ∧ (own_i4_0_Q Z th pv h0 n0) v U'.heap L ∧ ReturnedEndW U o U' L ({ frames := 1, cells := 4, slots := 8, locals := 12 } : Room).cells ({ frames := 1, cells := 4, slots := 8, locals := 12 } : Room).slots) := by
  refine MetFree.of_bodySF (plainFor_of_name own_i4_0_pn) hisR ?_
  intro p e s m args below meth c s₁ Bd hml0 hP hK
  obtain ⟨rfl, hZ, hh, hPx⟩ := hP
  have hx := Bd.exec
  have hby := Bd.bytes
  have hml : c.maxLocals = 6 := hml0
  have hown : s.vm.findClass "java/lang/String" = some m.cls := findClass_of_methodNamed Bd.named
  have hnm := (name_of_methodNamed Bd.named Bd.method).1
  have hlk : meth.locks = false := Bd.notSynchronized
  have X0 : Stand p l e ({ frames := 1, cells := 4, slots := 8, locals := 12 } : Room) (s.setVm s.vm) m #[(.ref th), (.ref pv), (.int (0 : Int32)), (.int (0 : Int32)), .null] below meth c s₁ [] 0 0 := Stand.of_body Bd
  have hS0 : s.Since s.vm 0 := own_since0 s 0
  have hk0 : 0 ≤ h0.size := Nat.zero_le _
  have hws := own_hws hw
  have e0 : s₁.heap = h0 := by rw [← hh, Bd.state]; rfl
  have N0 := Fr.nil n0
  have w_2 := hw _ (List.mem_of_getElem? (l := tables_1) (i := 2) rfl)
  have w_12 := hw _ (List.mem_of_getElem? (l := tables_1) (i := 12) rfl)
  have w_13 := hw _ (List.mem_of_getElem? (l := tables_1) (i := 13) rfl)
  have w_14 := hw _ (List.mem_of_getElem? (l := tables_1) (i := 14) rfl)
  have w_15 := hw _ (List.mem_of_getElem? (l := tables_1) (i := 15) rfl)
  have w_17 := hw _ (List.mem_of_getElem? (l := tables_1) (i := 17) rfl)
  have w_18 := hw _ (List.mem_of_getElem? (l := tables_1) (i := 18) rfl)
  have w_21 := hw _ (List.mem_of_getElem? (l := tables_1) (i := 21) rfl)
  have w_22 := hw _ (List.mem_of_getElem? (l := tables_1) (i := 22) rfl)
  show own_G p.tables e below (fun o U' => ∃ v L, o = .returned v ∧ (own_i4_0_Q Z th pv h0 n0) v U'.heap L ∧ ReturnedEndW s o U' L ({ frames := 1, cells := 4, slots := 8, locals := 12 } : Room).cells ({ frames := 1, cells := 4, slots := 8, locals := 12 } : Room).slots) (s₁.setTop (entryFrame m #[(.ref th), (.ref pv), (.int (0 : Int32)), (.int (0 : Int32)), .null] 6))
  refine own_go (B := s₁.setTop (mkF m 0 #[rv th, rv pv, iv (0 : Int32), iv (0 : Int32), .val .null, .unset] [])) (fun t k => castTop (own_i4_0_ef m th pv) k) ?_
  have K0 := Keep.refl h0 [th]
  obtain ⟨hCH, hSf⟩ := hPx
  refine own_go (B := (s₁.setTop (mkF m 1 #[rv th, rv pv, iv (0 : Int32), iv (0 : Int32), .val .null, .unset] [(.ref th)]))) (fun t k => XS.aloadN X0.here hx rfl (hb hby own_i4_0_d0) rfl rfl k) ?_
  obtain ⟨T1, X1, e1, st1⟩ := initO X0 hx hZ hown w_12 w_13 w_14 e0 (g := (mkF m 1 #[rv th, rv pv, iv (0 : Int32), iv (0 : Int32), .val .null, .unset] [(.ref th)])) rfl (by rw [hml]; rfl) rfl (hb hby own_i4_0_d1) (by decide) (W := 0) (by show 2 * 0 + _ ≤ _; exact own_b rfl) (by decide)
  refine own_go (B := (T1.setTop (mkF m 4 #[rv th, rv pv, iv (0 : Int32), iv (0 : Int32), .val .null, .unset] []))) st1 ?_
  refine own_go (B := (T1.setTop (mkF m 5 #[rv th, rv pv, iv (0 : Int32), iv (0 : Int32), .val .null, .unset] [(.int (0 : Int32))]))) (fun t k => XS.iloadN X1.here hx rfl (hb hby own_i4_0_d4) rfl k) ?_
  have hc5 : (0 : Int32) = (0 : Int32) := (by decide)
  refine own_ifN X1 hx (hb hby own_i4_0_d5) (pn := 8) rfl hc5 ?_
  refine own_go (B := (T1.setTop (mkF m 9 #[rv th, rv pv, iv (0 : Int32), iv (0 : Int32), .val .null, .unset] [(.ref th)]))) (fun t k => XS.aloadN X1.here hx rfl (hb hby own_i4_0_d8) rfl rfl k) ?_
  obtain ⟨a2, T2, h2, k2, b2, kc2, X2, e2, E2, hS2, hk2, hZ2, ho2, Ex2, Fc2, Fv2, Av2, la2, lb2, hC2, hL2, hsf2, st2⟩ := ldcCH (s := s) (vm0 := s.vm) X1 hx hZ hown w_15 hws e1 hS0 hk0 (own_EW w_15) own_mem hCH (vs := []) (z := (0 : Int32)) own_ht (by decide) (by decide) (g := (mkF m 9 #[rv th, rv pv, iv (0 : Int32), iv (0 : Int32), .val .null, .unset] [(.ref th)])) rfl (hb hby own_i4_0_d9) (n := 0) (by decide) (by decide) (own_b rfl) (own_b rfl)
  refine own_go (B := (T2.setTop (mkF m 11 #[rv th, rv pv, iv (0 : Int32), iv (0 : Int32), .val .null, .unset] [(.ref a2), (.ref th)]))) st2 ?_
  have Hc2 := hC2.1
  have Sf2 := CHr.safe hC2 E0.lt hSf
  obtain ⟨na2, nb2⟩ := hsf2 _ Sf2
  have Z3 : n0 ≤ h2.size := Nat.le_trans Z0 E2.1
  have K4 := Keep.ext K0 E2
  have F5 := Exa.ext E2 E0
  have F6 := Fld.ext E2 F9000
  have F7 := Fld.ext E2 F9001
  have VA2 := own_ar_of Av2 (by decide)
  obtain ⟨T8, X8, e8, st8⟩ := getF X2 hx hZ2 ho2 (host := "") (Or.inl w_21) Via.refl e2 Fv2 (g := (mkF m 11 #[rv th, rv pv, iv (0 : Int32), iv (0 : Int32), .val .null, .unset] [(.ref a2), (.ref th)])) rfl rfl (hb hby own_i4_0_d11)
  refine own_go (B := (T8.setTop (mkF m 14 #[rv th, rv pv, iv (0 : Int32), iv (0 : Int32), .val .null, .unset] [(.ref b2), (.ref th)]))) st8 ?_
  obtain ⟨T9, h9, X9, e9, W9, st9⟩ := putF X8 hx hZ2 ho2 (host := "") (Or.inl w_21) Via.refl e8 F6 F5 (Or.inr ⟨w_17, rfl, hnm⟩) w_2 (ty := (.array .byte)) (by decide) rfl rfl (g := (mkF m 14 #[rv th, rv pv, iv (0 : Int32), iv (0 : Int32), .val .null, .unset] [(.ref b2), (.ref th)])) rfl rfl (hb hby own_i4_0_d14)
  refine own_go (B := (T9.setTop (mkF m 17 #[rv th, rv pv, iv (0 : Int32), iv (0 : Int32), .val .null, .unset] []))) st9 ?_
  obtain ⟨L9, X9, N9⟩ := own_abs X9 (Fr.snoc X9 N0 g0)
  have F10 : n0 ≤ h9.size := by rw [W9.size]; exact Z3
  have F11 := Keep.wr K4 W9 (Or.inl (List.mem_of_getElem? (i := 0) rfl))
  have F12 := Exa.wr W9 F5
  have F13 := Fld.same W9 F6
  have F14 := Fld.other W9 F7 (Or.inr (slot_ne (t := .byte) (t' := (.array .byte)) (Or.inr w_18) (Or.inr w_17) (by decide) (by decide) (by decide)))
  have F15 : k2 ≤ h9.size := by rw [W9.size]; exact hk2
  have F16 := CHv.wr W9 Sf2 Hc2
  have F17 := Safe.wr W9 Sf2 Hc2 Sf2
  have F18 := Exa.wr W9 Ex2
  have F19 := Fld.other W9 Fc2 (Or.inl (Ne.symm na2))
  have F20 := Fld.other W9 Fv2 (Or.inl (Ne.symm na2))
  have F21 := own_Ar_other VA2 W9 (Ne.symm nb2)
  refine own_go (B := (T9.setTop (mkF m 18 #[rv th, rv pv, iv (0 : Int32), iv (0 : Int32), .val .null, .unset] [(.ref th)]))) (fun t k => XS.aloadN X9.here hx rfl (hb hby own_i4_0_d17) rfl rfl k) ?_
  obtain ⟨a22, T22, h22, k22, b22, kc22, X22, e22, E22, hS22, hk22, hZ22, ho22, Ex22, Fc22, Fv22, Av22, la22, lb22, hC22, hL22, hsf22, st22⟩ := ldcCH (s := s) (vm0 := T2.vm) X9 hx hZ2 ho2 w_15 hws e9 hS2 F15 (own_EW w_15) own_mem F16 (vs := []) (z := (0 : Int32)) own_ht (by decide) (by decide) (g := (mkF m 18 #[rv th, rv pv, iv (0 : Int32), iv (0 : Int32), .val .null, .unset] [(.ref th)])) rfl (hb hby own_i4_0_d18) (n := 0) (by decide) (by decide) (own_b rfl) (own_b rfl)
  refine own_go (B := (T22.setTop (mkF m 20 #[rv th, rv pv, iv (0 : Int32), iv (0 : Int32), .val .null, .unset] [(.ref a22), (.ref th)]))) st22 ?_
  have Hc22 := hC22.1
  have Sf22 := CHr.safe hC22 F12.lt F17
  obtain ⟨na22, nb22⟩ := hsf22 _ Sf22
  have Z23 : n0 ≤ h22.size := Nat.le_trans F10 E22.1
  have K24 := Keep.ext F11 E22
  have F25 := Exa.ext E22 F12
  have F26 := Fld.ext E22 F13
  have F27 := Fld.ext E22 F14
  have F28 := Exa.ext E22 F18
  have F29 := Fld.ext E22 F19
  have F30 := Fld.ext E22 F20
  have V31 := own_Ar_ext F21 E22
  have VA22 := own_ar_of Av22 (by decide)
  obtain ⟨T32, X32, e32, st32⟩ := getF X22 hx hZ22 ho22 (host := "") (Or.inl w_22) Via.refl e22 Fc22 (g := (mkF m 20 #[rv th, rv pv, iv (0 : Int32), iv (0 : Int32), .val .null, .unset] [(.ref a22), (.ref th)])) rfl rfl (hb hby own_i4_0_d20)
  refine own_go (B := (T32.setTop (mkF m 23 #[rv th, rv pv, iv (0 : Int32), iv (0 : Int32), .val .null, .unset] [(.int (0 : Int32)), (.ref th)]))) st32 ?_
  obtain ⟨T33, h33, X33, e33, W33, st33⟩ := putF X32 hx hZ22 ho22 (host := "") (Or.inl w_22) Via.refl e32 F27 F25 (Or.inr ⟨w_18, rfl, hnm⟩) w_2 (ty := .byte) (by decide) rfl rfl (g := (mkF m 23 #[rv th, rv pv, iv (0 : Int32), iv (0 : Int32), .val .null, .unset] [(.int (0 : Int32)), (.ref th)])) rfl rfl (hb hby own_i4_0_d23)
  refine own_go (B := (T33.setTop (mkF m 26 #[rv th, rv pv, iv (0 : Int32), iv (0 : Int32), .val .null, .unset] []))) st33 ?_
  obtain ⟨L33, X33, N33⟩ := own_abs X33 (Fr.snoc X33 N9 g0)
  have F34 : n0 ≤ h33.size := by rw [W33.size]; exact Z23
  have F35 := Keep.wr K24 W33 (Or.inl (List.mem_of_getElem? (i := 0) rfl))
  have F36 := Exa.wr W33 F25
  have F37 := Fld.other W33 F26 (Or.inr (slot_ne (t := (.array .byte)) (t' := .byte) (Or.inr w_17) (Or.inr w_18) (by decide) (by decide) (by decide)))
  have F38 := Fld.same W33 F27
  have F39 := Exa.wr W33 F28
  have F40 := Fld.other W33 F29 (Or.inl (Ne.symm na2))
  have F41 := Fld.other W33 F30 (Or.inl (Ne.symm na2))
  have F42 := own_Ar_other V31 W33 (Ne.symm nb2)
  have F43 : k22 ≤ h33.size := by rw [W33.size]; exact hk22
  have F44 := CHv.wr W33 Sf22 Hc22
  have F45 := Safe.wr W33 Sf22 Hc22 Sf22
  have F46 := Exa.wr W33 Ex22
  have F47 := Fld.other W33 Fc22 (Or.inl (Ne.symm na22))
  have F48 := Fld.other W33 Fv22 (Or.inl (Ne.symm na22))
  have F49 := own_Ar_other VA22 W33 (Ne.symm nb22)
  exact own_retWV X33 hx hlk hS22 (by rw [e33]; exact F43) Bd.returns (hb hby own_i4_0_d26) (own_b rfl) (own_b rfl) (Q := (own_i4_0_Q Z th pv h0 n0)) (by rw [e33]; exact ⟨_, [], _, rfl, N33, F35, F36, F37, F38, F42, ⟨rfl, by decide⟩⟩)

theorem own_i1_0_d0 : decode jdk_42_method_3_code 0 = .ok (.aload_n 0, 1) := by decide +kernel
theorem own_i1_0_d1 : decode jdk_42_method_3_code 1 = .ok (.aload_n 1, 1) := by decide +kernel
theorem own_i1_0_d2 : decode jdk_42_method_3_code 2 = .ok (.iconst 0, 1) := by decide +kernel
theorem own_i1_0_d3 : decode jdk_42_method_3_code 3 = .ok (.aload_n 1, 1) := by decide +kernel
theorem own_i1_0_d4 : decode jdk_42_method_3_code 4 = .ok (.arraylength, 1) := by decide +kernel
theorem own_i1_0_d5 : decode jdk_42_method_3_code 5 = .ok (.aconst_null, 1) := by decide +kernel
theorem own_i1_0_d6 : decode jdk_42_method_3_code 6 = .ok (.invokespecial 27, 3) := by decide +kernel
theorem own_i1_0_d9 : decode jdk_42_method_3_code 9 = .ok (.return_, 1) := by decide +kernel
theorem own_i1_0_pn : plainName "java/lang/String" = true := by first | (simp [plainName, overriddenIn]; done) | decide +kernel
theorem own_i1_0_ef (m : MethodId) (th : Addr) (pv : Addr) : entryFrame m #[(.ref th), (.ref pv)] 2 = mkF m 0 #[rv th, rv pv] [] := by first | (simp [entryFrame, mkF, argsToLocals, Value.category]; done) | rfl
def own_i1_0_Q (Z : State) (th : Addr) (pv : Addr) (h0 : Heap) (n0 : Nat) (v : Option Value) (h : Heap) (L : List Loc) : Prop := ∃ b Lb cd, v = none ∧ Fr n0 L ∧ Keep h0 h [th] ∧ Exa Z h th "java/lang/String" ∧ Fld Z h th "java/lang/String" "value" "[B" (.ref b) ∧ Fld Z h th "java/lang/String" "coder" "B" (.int cd) ∧ own_Ar Z h b .byte Lb ∧ own_sl Lb cd (0 : Int32)
set_option maxRecDepth 65536 in
set_option maxHeartbeats 40000000 in
theorem own_i1_0 (l : Launch) (Z : State) (a0 : Array Value) (hw : ∀ d ∈ tables_1, d.before a0 Z = true) (ws : List Jvm.Cond) (th : Addr) (pv : Addr) (h0 : Heap) (n0 : Nat) (Z0 : n0 ≤ h0.size) (E0 : Exa Z h0 th "java/lang/String") (g0 : n0 ≤ th) (F9000 : Fld Z h0 th "java/lang/String" "value" "[B" .null) (F9001 : Fld Z h0 th "java/lang/String" "coder" "B" (.int (0 : Int32))) (V0 : own_Ar Z h0 pv .char []) :
    MetFree l own_y16 (head1 (Jvm.Cond.code own_y16 jdk_42_method_3_code 2 none :: ws) ({ frames := 2, cells := 4, slots := 8, locals := 29 } : Room)) (fun a U => a = #[(.ref th), (.ref pv)] ∧ Z.Warmed39 U.vm ∧ U.heap = h0 ∧ CHv Z own_EL U.vm h0 ∧ Safe Z own_EL U.vm h0 th) (fun _ _ _ _ _ => True) (fun _ U o U' => ∃ v L, o = .returned v ∧ (own_i1_0_Q Z th pv h0 n0) v U'.heap L ∧ ReturnedEndW U o U' L ({ frames := 2, cells := 4, slots := 8, locals := 29 } : Room).cells ({ frames := 2, cells := 4, slots := 8, locals := 29 } : Room).slots) := by
  refine MetFree.of_bodySF (plainFor_of_name own_i1_0_pn) hisR ?_
  intro p e s m args below meth c s₁ Bd hml0 hP hK
  obtain ⟨rfl, hZ, hh, hPx⟩ := hP
  have hx := Bd.exec
  have hby := Bd.bytes
  have hml : c.maxLocals = 2 := hml0
  have hown : s.vm.findClass "java/lang/String" = some m.cls := findClass_of_methodNamed Bd.named
  have hnm := (name_of_methodNamed Bd.named Bd.method).1
  have hlk : meth.locks = false := Bd.notSynchronized
  have X0 : Stand p l e ({ frames := 2, cells := 4, slots := 8, locals := 29 } : Room) (s.setVm s.vm) m #[(.ref th), (.ref pv)] below meth c s₁ [] 0 0 := Stand.of_body Bd
  have hS0 : s.Since s.vm 0 := own_since0 s 0
  have hk0 : 0 ≤ h0.size := Nat.zero_le _
  have hws := own_hws hw
  have e0 : s₁.heap = h0 := by rw [← hh, Bd.state]; rfl
  have N0 := Fr.nil n0
  have w_3 := hw _ (List.mem_of_getElem? (l := tables_1) (i := 3) rfl)
  have w_8 := hw _ (List.mem_of_getElem? (l := tables_1) (i := 8) rfl)
  have w_9 := hw _ (List.mem_of_getElem? (l := tables_1) (i := 9) rfl)
  have w_11 := hw _ (List.mem_of_getElem? (l := tables_1) (i := 11) rfl)
  have w_15 := hw _ (List.mem_of_getElem? (l := tables_1) (i := 15) rfl)
  show own_G p.tables e below (fun o U' => ∃ v L, o = .returned v ∧ (own_i1_0_Q Z th pv h0 n0) v U'.heap L ∧ ReturnedEndW s o U' L ({ frames := 2, cells := 4, slots := 8, locals := 29 } : Room).cells ({ frames := 2, cells := 4, slots := 8, locals := 29 } : Room).slots) (s₁.setTop (entryFrame m #[(.ref th), (.ref pv)] 2))
  refine own_go (B := s₁.setTop (mkF m 0 #[rv th, rv pv] [])) (fun t k => castTop (own_i1_0_ef m th pv) k) ?_
  have K0 := Keep.refl h0 [th]
  obtain ⟨hCH, hSf⟩ := hPx
  refine own_go (B := (s₁.setTop (mkF m 1 #[rv th, rv pv] [(.ref th)]))) (fun t k => XS.aloadN X0.here hx rfl (hb hby own_i1_0_d0) rfl rfl k) ?_
  refine own_go (B := (s₁.setTop (mkF m 2 #[rv th, rv pv] [(.ref pv), (.ref th)]))) (fun t k => XS.aloadN X0.here hx rfl (hb hby own_i1_0_d1) rfl rfl k) ?_
  refine own_go (B := (s₁.setTop (mkF m 3 #[rv th, rv pv] [(.int (0 : Int32)), (.ref pv), (.ref th)]))) (fun t k => own_iconst (v := (0 : Int32)) X0.here hx rfl (hb hby own_i1_0_d2) (by decide) k) ?_
  refine own_go (B := (s₁.setTop (mkF m 4 #[rv th, rv pv] [(.ref pv), (.int (0 : Int32)), (.ref pv), (.ref th)]))) (fun t k => XS.aloadN X0.here hx rfl (hb hby own_i1_0_d3) rfl rfl k) ?_
  refine own_go (B := (s₁.setTop (mkF m 5 #[rv th, rv pv] [(.int (0 : Int32)), (.int (0 : Int32)), (.ref pv), (.ref th)]))) (own_alen X0 hx hZ e0 V0 (n := (0 : Int32)) (own_lenL (n := 0) rfl (by decide)) (g := (mkF m 4 #[rv th, rv pv] [(.ref pv), (.int (0 : Int32)), (.ref pv), (.ref th)])) rfl rfl (hb hby own_i1_0_d4)) ?_
  refine own_go (B := (s₁.setTop (mkF m 6 #[rv th, rv pv] [.null, (.int (0 : Int32)), (.int (0 : Int32)), (.ref pv), (.ref th)]))) (fun t k => XS.aconstNull X0.here hx rfl (hb hby own_i1_0_d5) k) ?_
  obtain ⟨_, _, ⟨T1, L1, k1, n1⟩, -, X1, hs1, hg1, ⟨Lc1, hQ1, l1, yy1, zz1⟩, st1⟩ := X0.specialBackS hx (y := own_y9) rfl hown (mvT hZ w_8) (mvT hZ w_9) (mvT hZ w_11) (by decide) (own_backOfSP (P' := fun vm => CHv Z own_EL vm h0 ∧ Safe Z own_EL vm h0 th) (W := 0) (own_i4_0 l Z a0 hw [] th pv h0 n0 Z0 E0 g0 F9000 F9001 V0) hZ w_11 w_3 (by decide) (by decide) (fun Y => own_chx Y hZ (own_EW w_15) hCH E0.lt hSf)) (g := (mkF m 6 #[rv th, rv pv] [.null, (.int (0 : Int32)), (.int (0 : Int32)), (.ref pv), (.ref th)])) rfl (by rw [hml]; rfl) (Steps.refl _) (a := th) (argsL := [(.ref pv), (.int (0 : Int32)), (.int (0 : Int32)), .null]) (rest := []) (lenOf own_pd8 rfl) rfl (by show 2 * 0 + _ ≤ _; exact own_b rfl) (hb hby own_i1_0_d6) (fun _ _ => ⟨rfl, e0, (own_b rfl : 0 + 4 ≤ _), (own_b rfl : 0 + 8 ≤ _)⟩)
  dsimp only [Pt.U, Pt.locs, Pt.cells, Pt.slots] at X1 l1 yy1 zz1 st1 hQ1 hs1 hg1
  obtain ⟨b1, Lb1, cd1, rfl, Nq1, K1, Ex1, gb1, gc1, gv1, gs1⟩ := hQ1
  obtain ⟨L1, X1, N1⟩ := own_absC (K := 4) (K' := 8) X1 l1 yy1 zz1 N0 Nq1
  have X1 : Stand p l e ({ frames := 2, cells := 4, slots := 8, locals := 29 } : Room) (s.setVm T1.vm) m #[(.ref th), (.ref pv)] below meth c T1 L1 4 8 := X1
  have hS1 := foldS hS0 (T := s₁) (by rw [e0]; exact hk0) hs1 hg1
  have hZ1 : Z.Warmed39 (s.setVm T1.vm).vm := State.Warmed39.trans (t := s.setVm s.vm) hZ hs1.1
  have ho1 : (s.setVm T1.vm).vm.findClass "java/lang/String" = some m.cls := by rw [show (s.setVm T1.vm).vm = T1.vm from rfl, hs1.1.alike.findClass]; exact hown
  have F2 : n0 ≤ T1.heap.size := Nat.le_trans Z0 K1.1
  have F3 := Keep.trans K0 K1 (allS (Or.inl (List.mem_of_getElem? (i := 0) rfl)) all0)
  have F4 := Exa.keep E0 K1
  have hk1 : T1.heap.size ≤ T1.heap.size := Nat.le_refl _
  refine own_tr (B := (T1.setTop (mkF m 9 #[rv th, rv pv] []))) st1 ?_
  exact own_retWV X1 hx hlk hS1 hk1 Bd.returns (hb hby own_i1_0_d9) (own_b rfl) (own_b rfl) (Q := (own_i1_0_Q Z th pv h0 n0)) ⟨_, Lb1, _, rfl, N1, F3, Ex1, gb1, gc1, gv1, gs1⟩

theorem own_ce_d0 : decode jdk_43_method_3_code 0 = .ok (.iload_n 0, 1) := by decide +kernel
theorem own_ce_d1 : decode jdk_43_method_3_code 1 = .ok (.sipush 255, 3) := by decide +kernel
theorem own_ce_d4 : decode jdk_43_method_3_code 4 = .ok (.if_icmp .gt 7, 3) := by decide +kernel
theorem own_ce_d7 : decode jdk_43_method_3_code 7 = .ok (.iconst 1, 1) := by decide +kernel
theorem own_ce_d8 : decode jdk_43_method_3_code 8 = .ok (.goto 4, 3) := by decide +kernel
theorem own_ce_d11 : decode jdk_43_method_3_code 11 = .ok (.iconst 0, 1) := by decide +kernel
theorem own_ce_d12 : decode jdk_43_method_3_code 12 = .ok (.ireturn, 1) := by decide +kernel
theorem own_ce_pn : plainName "java/lang/StringLatin1" = true := by first | (simp [plainName, overriddenIn]; done) | decide +kernel
theorem own_ce_ef (m : MethodId) (pch : Int32) : entryFrame m #[(.int pch)] 1 = mkF m 0 #[iv pch] [] := by first | (simp [entryFrame, mkF, argsToLocals, Value.category]; done) | rfl
def own_ce_Q (Z : State) (pch : Int32) (h0 : Heap) (n0 : Nat) (v : Option Value) (h : Heap) (L : List Loc) : Prop := ∃ r, v = some (.int r) ∧ Fr n0 L ∧ h = h0
set_option maxRecDepth 65536 in
set_option maxHeartbeats 40000000 in
theorem own_ce (l : Launch) (Z : State) (a0 : Array Value) (hw : ∀ d ∈ tables_1, d.before a0 Z = true) (ws : List Jvm.Cond) (pch : Int32) (h0 : Heap) (n0 : Nat) :
    MetFree l own_y10 (head1 (Jvm.Cond.code own_y10 jdk_43_method_3_code 1 (some .boolean) :: ws) ({ frames := 0, cells := 0, slots := 0, locals := 0 } : Room)) (fun a U => a = #[(.int pch)] ∧ Z.Warmed39 U.vm ∧ U.heap = h0) (fun _ _ _ _ _ => True) (fun _ U o U' => ∃ v L, o = .returned v ∧ (own_ce_Q Z pch h0 n0) v U'.heap L ∧ FrameEnd U o U' L ({ frames := 0, cells := 0, slots := 0, locals := 0 } : Room).cells ({ frames := 0, cells := 0, slots := 0, locals := 0 } : Room).slots) := by
  refine MetFree.of_bodySF (plainFor_of_name own_ce_pn) hisR ?_
  intro p e s m args below meth c s₁ Bd hml0 hP hK
  obtain ⟨rfl, hZ, hh⟩ := hP
  have hx := Bd.exec
  have hby := Bd.bytes
  have hml : c.maxLocals = 1 := hml0
  have hown : s.vm.findClass "java/lang/StringLatin1" = some m.cls := findClass_of_methodNamed Bd.named
  have hnm := (name_of_methodNamed Bd.named Bd.method).1
  have hlk : meth.locks = false := Bd.notSynchronized
  have X0 : Stand p l e ({ frames := 0, cells := 0, slots := 0, locals := 0 } : Room) s m #[(.int pch)] below meth c s₁ [] 0 0 := Stand.of_body Bd
  have e0 : s₁.heap = h0 := by rw [← hh, Bd.state]; rfl
  have N0 := Fr.nil n0
  show own_G p.tables e below (fun o U' => ∃ v L, o = .returned v ∧ (own_ce_Q Z pch h0 n0) v U'.heap L ∧ FrameEnd s o U' L ({ frames := 0, cells := 0, slots := 0, locals := 0 } : Room).cells ({ frames := 0, cells := 0, slots := 0, locals := 0 } : Room).slots) (s₁.setTop (entryFrame m #[(.int pch)] 1))
  refine own_go (B := s₁.setTop (mkF m 0 #[iv pch] [])) (fun t k => castTop (own_ce_ef m pch) k) ?_
  refine own_go (B := (s₁.setTop (mkF m 1 #[iv pch] [(.int pch)]))) (fun t k => XS.iloadN X0.here hx rfl (hb hby own_ce_d0) rfl k) ?_
  refine own_go (B := (s₁.setTop (mkF m 4 #[iv pch] [(.int (255 : Int32)), (.int pch)]))) (fun t k => own_sipush (v := (255 : Int32)) X0.here hx rfl (hb hby own_ce_d1) (by decide) k) ?_
  refine own_icmp X0 hx (hb hby own_ce_d4) (pc' := 11) (pn := 7) (by decide) (by decide) rfl (fun (hc4 : (255 : Int32) < pch) => ?_) (fun (hc4 : ¬ (255 : Int32) < pch) => ?_)
  · refine own_go (B := (s₁.setTop (mkF m 12 #[iv pch] [(.int (0 : Int32))]))) (fun t k => own_iconst (v := (0 : Int32)) X0.here hx rfl (hb hby own_ce_d11) (by decide) k) ?_
    exact own_retZ X0 hx hlk Bd.returns (hb hby own_ce_d12) (by decide) (own_b rfl) (own_b rfl) (Q := (own_ce_Q Z pch h0 n0)) ⟨_, rfl, N0, e0⟩
  · refine own_go (B := (s₁.setTop (mkF m 8 #[iv pch] [(.int (1 : Int32))]))) (fun t k => own_iconst (v := (1 : Int32)) X0.here hx rfl (hb hby own_ce_d7) (by decide) k) ?_
    refine own_go (B := (s₁.setTop (mkF m 12 #[iv pch] [(.int (1 : Int32))]))) (fun t k => XS.goto X0.here hx rfl (pc0 := 8) (pc' := 12) rfl (hb hby own_ce_d8) (by decide) (by decide) k) ?_
    exact own_retZ X0 hx hlk Bd.returns (hb hby own_ce_d12) (by decide) (own_b rfl) (own_b rfl) (Q := (own_ce_Q Z pch h0 n0)) ⟨_, rfl, N0, e0⟩

theorem own_sb0_d0 : decode jdk_42_method_151_code 0 = .ok (.aload_n 0, 1) := by decide +kernel
theorem own_sb0_d1 : decode jdk_42_method_151_code 1 = .ok (.invokespecial 1, 3) := by decide +kernel
theorem own_sb0_d4 : decode jdk_42_method_151_code 4 = .ok (.aload_n 0, 1) := by decide +kernel
theorem own_sb0_d5 : decode jdk_42_method_151_code 5 = .ok (.aload_n 1, 1) := by decide +kernel
theorem own_sb0_d6 : decode jdk_42_method_151_code 6 = .ok (.putfield 9, 3) := by decide +kernel
theorem own_sb0_d9 : decode jdk_42_method_151_code 9 = .ok (.aload_n 0, 1) := by decide +kernel
theorem own_sb0_d10 : decode jdk_42_method_151_code 10 = .ok (.iload_n 2, 1) := by decide +kernel
theorem own_sb0_d11 : decode jdk_42_method_151_code 11 = .ok (.putfield 15, 3) := by decide +kernel
theorem own_sb0_d14 : decode jdk_42_method_151_code 14 = .ok (.return_, 1) := by decide +kernel
theorem own_sb0_pn : plainName "java/lang/String" = true := by first | (simp [plainName, overriddenIn]; done) | decide +kernel
theorem own_sb0_ef (m : MethodId) (th : Addr) (pb : Addr) : entryFrame m #[(.ref th), (.ref pb), (.int (0 : Int32))] 3 = mkF m 0 #[rv th, rv pb, iv (0 : Int32)] [] := by first | (simp [entryFrame, mkF, argsToLocals, Value.category]; done) | rfl
def own_sb0_Q (Z : State) (th : Addr) (pb : Addr) (h0 : Heap) (n0 : Nat) (v : Option Value) (h : Heap) (L : List Loc) : Prop := v = none ∧ Fr n0 L ∧ Keep h0 h [th] ∧ Exa Z h th "java/lang/String" ∧ Fld Z h th "java/lang/String" "value" "[B" (.ref pb) ∧ Fld Z h th "java/lang/String" "coder" "B" (.int (0 : Int32))
set_option maxRecDepth 65536 in
set_option maxHeartbeats 40000000 in
theorem own_sb0 (l : Launch) (Z : State) (a0 : Array Value) (hw : ∀ d ∈ tables_1, d.before a0 Z = true) (ws : List Jvm.Cond) (th : Addr) (pb : Addr) (h0 : Heap) (n0 : Nat) (Z0 : n0 ≤ h0.size) (E0 : Exa Z h0 th "java/lang/String") (g0 : n0 ≤ th) (F9000 : Fld Z h0 th "java/lang/String" "value" "[B" .null) (F9001 : Fld Z h0 th "java/lang/String" "coder" "B" (.int (0 : Int32))) :
    MetFree l own_y12 (head1 (Jvm.Cond.code own_y12 jdk_42_method_151_code 3 none :: ws) ({ frames := 1, cells := 0, slots := 0, locals := 12 } : Room)) (fun a U => a = #[(.ref th), (.ref pb), (.int (0 : Int32))] ∧ Z.Warmed39 U.vm ∧ U.heap = h0) (fun _ _ _ _ _ => True) (fun _ U o U' => ∃ v L, o = .returned v ∧ (own_sb0_Q Z th pb h0 n0) v U'.heap L ∧ FrameEnd U o U' L ({ frames := 1, cells := 0, slots := 0, locals := 12 } : Room).cells ({ frames := 1, cells := 0, slots := 0, locals := 12 } : Room).slots) := by
  refine MetFree.of_bodySF (plainFor_of_name own_sb0_pn) hisR ?_
  intro p e s m args below meth c s₁ Bd hml0 hP hK
  obtain ⟨rfl, hZ, hh⟩ := hP
  have hx := Bd.exec
  have hby := Bd.bytes
  have hml : c.maxLocals = 3 := hml0
  have hown : s.vm.findClass "java/lang/String" = some m.cls := findClass_of_methodNamed Bd.named
  have hnm := (name_of_methodNamed Bd.named Bd.method).1
  have hlk : meth.locks = false := Bd.notSynchronized
  have X0 : Stand p l e ({ frames := 1, cells := 0, slots := 0, locals := 12 } : Room) s m #[(.ref th), (.ref pb), (.int (0 : Int32))] below meth c s₁ [] 0 0 := Stand.of_body Bd
  have e0 : s₁.heap = h0 := by rw [← hh, Bd.state]; rfl
  have N0 := Fr.nil n0
  have w_2 := hw _ (List.mem_of_getElem? (l := tables_1) (i := 2) rfl)
  have w_12 := hw _ (List.mem_of_getElem? (l := tables_1) (i := 12) rfl)
  have w_13 := hw _ (List.mem_of_getElem? (l := tables_1) (i := 13) rfl)
  have w_14 := hw _ (List.mem_of_getElem? (l := tables_1) (i := 14) rfl)
  have w_17 := hw _ (List.mem_of_getElem? (l := tables_1) (i := 17) rfl)
  have w_18 := hw _ (List.mem_of_getElem? (l := tables_1) (i := 18) rfl)
  have w_21 := hw _ (List.mem_of_getElem? (l := tables_1) (i := 21) rfl)
  have w_22 := hw _ (List.mem_of_getElem? (l := tables_1) (i := 22) rfl)
  show own_G p.tables e below (fun o U' => ∃ v L, o = .returned v ∧ (own_sb0_Q Z th pb h0 n0) v U'.heap L ∧ FrameEnd s o U' L ({ frames := 1, cells := 0, slots := 0, locals := 12 } : Room).cells ({ frames := 1, cells := 0, slots := 0, locals := 12 } : Room).slots) (s₁.setTop (entryFrame m #[(.ref th), (.ref pb), (.int (0 : Int32))] 3))
  refine own_go (B := s₁.setTop (mkF m 0 #[rv th, rv pb, iv (0 : Int32)] [])) (fun t k => castTop (own_sb0_ef m th pb) k) ?_
  have K0 := Keep.refl h0 [th]
  refine own_go (B := (s₁.setTop (mkF m 1 #[rv th, rv pb, iv (0 : Int32)] [(.ref th)]))) (fun t k => XS.aloadN X0.here hx rfl (hb hby own_sb0_d0) rfl rfl k) ?_
  obtain ⟨T1, X1, e1, st1⟩ := initO X0 hx hZ hown w_12 w_13 w_14 e0 (g := (mkF m 1 #[rv th, rv pb, iv (0 : Int32)] [(.ref th)])) rfl (by rw [hml]; rfl) rfl (hb hby own_sb0_d1) (by decide) (W := 0) (by show 2 * 0 + _ ≤ _; exact own_b rfl) (by decide)
  refine own_go (B := (T1.setTop (mkF m 4 #[rv th, rv pb, iv (0 : Int32)] []))) st1 ?_
  refine own_go (B := (T1.setTop (mkF m 5 #[rv th, rv pb, iv (0 : Int32)] [(.ref th)]))) (fun t k => XS.aloadN X1.here hx rfl (hb hby own_sb0_d4) rfl rfl k) ?_
  refine own_go (B := (T1.setTop (mkF m 6 #[rv th, rv pb, iv (0 : Int32)] [(.ref pb), (.ref th)]))) (fun t k => XS.aloadN X1.here hx rfl (hb hby own_sb0_d5) rfl rfl k) ?_
  obtain ⟨T2, h2, X2, e2, W2, st2⟩ := putF X1 hx hZ hown (host := "") (Or.inl w_21) Via.refl e1 F9000 E0 (Or.inr ⟨w_17, rfl, hnm⟩) w_2 (ty := (.array .byte)) (by decide) rfl rfl (g := (mkF m 6 #[rv th, rv pb, iv (0 : Int32)] [(.ref pb), (.ref th)])) rfl rfl (hb hby own_sb0_d6)
  refine own_go (B := (T2.setTop (mkF m 9 #[rv th, rv pb, iv (0 : Int32)] []))) st2 ?_
  obtain ⟨L2, X2, N2⟩ := own_abs X2 (Fr.snoc X2 N0 g0)
  have F3 : n0 ≤ h2.size := by rw [W2.size]; exact Z0
  have F4 := Exa.wr W2 E0
  have F5 := Keep.wr K0 W2 (Or.inl (List.mem_of_getElem? (i := 0) rfl))
  have F6 := Fld.same W2 F9000
  have F7 := Fld.other W2 F9001 (Or.inr (slot_ne (t := .byte) (t' := (.array .byte)) (Or.inr w_18) (Or.inr w_17) (by decide) (by decide) (by decide)))
  refine own_go (B := (T2.setTop (mkF m 10 #[rv th, rv pb, iv (0 : Int32)] [(.ref th)]))) (fun t k => XS.aloadN X2.here hx rfl (hb hby own_sb0_d9) rfl rfl k) ?_
  refine own_go (B := (T2.setTop (mkF m 11 #[rv th, rv pb, iv (0 : Int32)] [(.int (0 : Int32)), (.ref th)]))) (fun t k => XS.iloadN X2.here hx rfl (hb hby own_sb0_d10) rfl k) ?_
  obtain ⟨T8, h8, X8, e8, W8, st8⟩ := putF X2 hx hZ hown (host := "") (Or.inl w_22) Via.refl e2 F7 F4 (Or.inr ⟨w_18, rfl, hnm⟩) w_2 (ty := .byte) (by decide) rfl rfl (g := (mkF m 11 #[rv th, rv pb, iv (0 : Int32)] [(.int (0 : Int32)), (.ref th)])) rfl rfl (hb hby own_sb0_d11)
  refine own_go (B := (T8.setTop (mkF m 14 #[rv th, rv pb, iv (0 : Int32)] []))) st8 ?_
  obtain ⟨L8, X8, N8⟩ := own_abs X8 (Fr.snoc X8 N2 g0)
  have F9 : n0 ≤ h8.size := by rw [W8.size]; exact F3
  have F10 := Exa.wr W8 F4
  have F11 := Keep.wr F5 W8 (Or.inl (List.mem_of_getElem? (i := 0) rfl))
  have F12 := Fld.other W8 F6 (Or.inr (slot_ne (t := (.array .byte)) (t' := .byte) (Or.inr w_17) (Or.inr w_18) (by decide) (by decide) (by decide)))
  have F13 := Fld.same W8 F7
  exact own_retV X8 hx hlk Bd.returns (hb hby own_sb0_d14) (own_b rfl) (own_b rfl) (Q := (own_sb0_Q Z th pb h0 n0)) (by rw [e8]; exact ⟨rfl, N8, F11, F10, F12, F13⟩)

theorem own_sb1_d0 : decode jdk_42_method_151_code 0 = .ok (.aload_n 0, 1) := by decide +kernel
theorem own_sb1_d1 : decode jdk_42_method_151_code 1 = .ok (.invokespecial 1, 3) := by decide +kernel
theorem own_sb1_d4 : decode jdk_42_method_151_code 4 = .ok (.aload_n 0, 1) := by decide +kernel
theorem own_sb1_d5 : decode jdk_42_method_151_code 5 = .ok (.aload_n 1, 1) := by decide +kernel
theorem own_sb1_d6 : decode jdk_42_method_151_code 6 = .ok (.putfield 9, 3) := by decide +kernel
theorem own_sb1_d9 : decode jdk_42_method_151_code 9 = .ok (.aload_n 0, 1) := by decide +kernel
theorem own_sb1_d10 : decode jdk_42_method_151_code 10 = .ok (.iload_n 2, 1) := by decide +kernel
theorem own_sb1_d11 : decode jdk_42_method_151_code 11 = .ok (.putfield 15, 3) := by decide +kernel
theorem own_sb1_d14 : decode jdk_42_method_151_code 14 = .ok (.return_, 1) := by decide +kernel
theorem own_sb1_pn : plainName "java/lang/String" = true := by first | (simp [plainName, overriddenIn]; done) | decide +kernel
theorem own_sb1_ef (m : MethodId) (th : Addr) (pb : Addr) : entryFrame m #[(.ref th), (.ref pb), (.int (1 : Int32))] 3 = mkF m 0 #[rv th, rv pb, iv (1 : Int32)] [] := by first | (simp [entryFrame, mkF, argsToLocals, Value.category]; done) | rfl
def own_sb1_Q (Z : State) (th : Addr) (pb : Addr) (h0 : Heap) (n0 : Nat) (v : Option Value) (h : Heap) (L : List Loc) : Prop := v = none ∧ Fr n0 L ∧ Keep h0 h [th] ∧ Exa Z h th "java/lang/String" ∧ Fld Z h th "java/lang/String" "value" "[B" (.ref pb) ∧ Fld Z h th "java/lang/String" "coder" "B" (.int (1 : Int32))
set_option maxRecDepth 65536 in
set_option maxHeartbeats 40000000 in
theorem own_sb1 (l : Launch) (Z : State) (a0 : Array Value) (hw : ∀ d ∈ tables_1, d.before a0 Z = true) (ws : List Jvm.Cond) (th : Addr) (pb : Addr) (h0 : Heap) (n0 : Nat) (Z0 : n0 ≤ h0.size) (E0 : Exa Z h0 th "java/lang/String") (g0 : n0 ≤ th) (F9000 : Fld Z h0 th "java/lang/String" "value" "[B" .null) (F9001 : Fld Z h0 th "java/lang/String" "coder" "B" (.int (0 : Int32))) :
    MetFree l own_y12 (head1 (Jvm.Cond.code own_y12 jdk_42_method_151_code 3 none :: ws) ({ frames := 1, cells := 0, slots := 0, locals := 12 } : Room)) (fun a U => a = #[(.ref th), (.ref pb), (.int (1 : Int32))] ∧ Z.Warmed39 U.vm ∧ U.heap = h0) (fun _ _ _ _ _ => True) (fun _ U o U' => ∃ v L, o = .returned v ∧ (own_sb1_Q Z th pb h0 n0) v U'.heap L ∧ FrameEnd U o U' L ({ frames := 1, cells := 0, slots := 0, locals := 12 } : Room).cells ({ frames := 1, cells := 0, slots := 0, locals := 12 } : Room).slots) := by
  refine MetFree.of_bodySF (plainFor_of_name own_sb1_pn) hisR ?_
  intro p e s m args below meth c s₁ Bd hml0 hP hK
  obtain ⟨rfl, hZ, hh⟩ := hP
  have hx := Bd.exec
  have hby := Bd.bytes
  have hml : c.maxLocals = 3 := hml0
  have hown : s.vm.findClass "java/lang/String" = some m.cls := findClass_of_methodNamed Bd.named
  have hnm := (name_of_methodNamed Bd.named Bd.method).1
  have hlk : meth.locks = false := Bd.notSynchronized
  have X0 : Stand p l e ({ frames := 1, cells := 0, slots := 0, locals := 12 } : Room) s m #[(.ref th), (.ref pb), (.int (1 : Int32))] below meth c s₁ [] 0 0 := Stand.of_body Bd
  have e0 : s₁.heap = h0 := by rw [← hh, Bd.state]; rfl
  have N0 := Fr.nil n0
  have w_2 := hw _ (List.mem_of_getElem? (l := tables_1) (i := 2) rfl)
  have w_12 := hw _ (List.mem_of_getElem? (l := tables_1) (i := 12) rfl)
  have w_13 := hw _ (List.mem_of_getElem? (l := tables_1) (i := 13) rfl)
  have w_14 := hw _ (List.mem_of_getElem? (l := tables_1) (i := 14) rfl)
  have w_17 := hw _ (List.mem_of_getElem? (l := tables_1) (i := 17) rfl)
  have w_18 := hw _ (List.mem_of_getElem? (l := tables_1) (i := 18) rfl)
  have w_21 := hw _ (List.mem_of_getElem? (l := tables_1) (i := 21) rfl)
  have w_22 := hw _ (List.mem_of_getElem? (l := tables_1) (i := 22) rfl)
  show own_G p.tables e below (fun o U' => ∃ v L, o = .returned v ∧ (own_sb1_Q Z th pb h0 n0) v U'.heap L ∧ FrameEnd s o U' L ({ frames := 1, cells := 0, slots := 0, locals := 12 } : Room).cells ({ frames := 1, cells := 0, slots := 0, locals := 12 } : Room).slots) (s₁.setTop (entryFrame m #[(.ref th), (.ref pb), (.int (1 : Int32))] 3))
  refine own_go (B := s₁.setTop (mkF m 0 #[rv th, rv pb, iv (1 : Int32)] [])) (fun t k => castTop (own_sb1_ef m th pb) k) ?_
  have K0 := Keep.refl h0 [th]
  refine own_go (B := (s₁.setTop (mkF m 1 #[rv th, rv pb, iv (1 : Int32)] [(.ref th)]))) (fun t k => XS.aloadN X0.here hx rfl (hb hby own_sb1_d0) rfl rfl k) ?_
  obtain ⟨T1, X1, e1, st1⟩ := initO X0 hx hZ hown w_12 w_13 w_14 e0 (g := (mkF m 1 #[rv th, rv pb, iv (1 : Int32)] [(.ref th)])) rfl (by rw [hml]; rfl) rfl (hb hby own_sb1_d1) (by decide) (W := 0) (by show 2 * 0 + _ ≤ _; exact own_b rfl) (by decide)
  refine own_go (B := (T1.setTop (mkF m 4 #[rv th, rv pb, iv (1 : Int32)] []))) st1 ?_
  refine own_go (B := (T1.setTop (mkF m 5 #[rv th, rv pb, iv (1 : Int32)] [(.ref th)]))) (fun t k => XS.aloadN X1.here hx rfl (hb hby own_sb1_d4) rfl rfl k) ?_
  refine own_go (B := (T1.setTop (mkF m 6 #[rv th, rv pb, iv (1 : Int32)] [(.ref pb), (.ref th)]))) (fun t k => XS.aloadN X1.here hx rfl (hb hby own_sb1_d5) rfl rfl k) ?_
  obtain ⟨T2, h2, X2, e2, W2, st2⟩ := putF X1 hx hZ hown (host := "") (Or.inl w_21) Via.refl e1 F9000 E0 (Or.inr ⟨w_17, rfl, hnm⟩) w_2 (ty := (.array .byte)) (by decide) rfl rfl (g := (mkF m 6 #[rv th, rv pb, iv (1 : Int32)] [(.ref pb), (.ref th)])) rfl rfl (hb hby own_sb1_d6)
  refine own_go (B := (T2.setTop (mkF m 9 #[rv th, rv pb, iv (1 : Int32)] []))) st2 ?_
  obtain ⟨L2, X2, N2⟩ := own_abs X2 (Fr.snoc X2 N0 g0)
  have F3 : n0 ≤ h2.size := by rw [W2.size]; exact Z0
  have F4 := Exa.wr W2 E0
  have F5 := Keep.wr K0 W2 (Or.inl (List.mem_of_getElem? (i := 0) rfl))
  have F6 := Fld.same W2 F9000
  have F7 := Fld.other W2 F9001 (Or.inr (slot_ne (t := .byte) (t' := (.array .byte)) (Or.inr w_18) (Or.inr w_17) (by decide) (by decide) (by decide)))
  refine own_go (B := (T2.setTop (mkF m 10 #[rv th, rv pb, iv (1 : Int32)] [(.ref th)]))) (fun t k => XS.aloadN X2.here hx rfl (hb hby own_sb1_d9) rfl rfl k) ?_
  refine own_go (B := (T2.setTop (mkF m 11 #[rv th, rv pb, iv (1 : Int32)] [(.int (1 : Int32)), (.ref th)]))) (fun t k => XS.iloadN X2.here hx rfl (hb hby own_sb1_d10) rfl k) ?_
  obtain ⟨T8, h8, X8, e8, W8, st8⟩ := putF X2 hx hZ hown (host := "") (Or.inl w_22) Via.refl e2 F7 F4 (Or.inr ⟨w_18, rfl, hnm⟩) w_2 (ty := .byte) (by decide) rfl rfl (g := (mkF m 11 #[rv th, rv pb, iv (1 : Int32)] [(.int (1 : Int32)), (.ref th)])) rfl rfl (hb hby own_sb1_d11)
  refine own_go (B := (T8.setTop (mkF m 14 #[rv th, rv pb, iv (1 : Int32)] []))) st8 ?_
  obtain ⟨L8, X8, N8⟩ := own_abs X8 (Fr.snoc X8 N2 g0)
  have F9 : n0 ≤ h8.size := by rw [W8.size]; exact F3
  have F10 := Exa.wr W8 F4
  have F11 := Keep.wr F5 W8 (Or.inl (List.mem_of_getElem? (i := 0) rfl))
  have F12 := Fld.other W8 F6 (Or.inr (slot_ne (t := (.array .byte)) (t' := .byte) (Or.inr w_17) (Or.inr w_18) (by decide) (by decide) (by decide)))
  have F13 := Fld.same W8 F7
  exact own_retV X8 hx hlk Bd.returns (hb hby own_sb1_d14) (own_b rfl) (own_b rfl) (Q := (own_sb1_Q Z th pb h0 n0)) (by rw [e8]; exact ⟨rfl, N8, F11, F10, F12, F13⟩)

theorem own_vo_d0 : decode jdk_42_method_139_code 0 = .ok (.getstatic 38, 3) := by decide +kernel
theorem own_vo_d3 : decode jdk_42_method_139_code 3 = .ok (.ifCond .eq 23, 3) := by decide +kernel
theorem own_vo_d6 : decode jdk_42_method_139_code 6 = .ok (.iload_n 0, 1) := by decide +kernel
theorem own_vo_d7 : decode jdk_42_method_139_code 7 = .ok (.invokestatic 1015, 3) := by decide +kernel
theorem own_vo_d10 : decode jdk_42_method_139_code 10 = .ok (.ifCond .eq 16, 3) := by decide +kernel
theorem own_vo_d13 : decode jdk_42_method_139_code 13 = .ok (.new 10, 3) := by decide +kernel
theorem own_vo_d16 : decode jdk_42_method_139_code 16 = .ok (.dup, 1) := by decide +kernel
theorem own_vo_d17 : decode jdk_42_method_139_code 17 = .ok (.iload_n 0, 1) := by decide +kernel
theorem own_vo_d18 : decode jdk_42_method_139_code 18 = .ok (.invokestatic 1018, 3) := by decide +kernel
theorem own_vo_d21 : decode jdk_42_method_139_code 21 = .ok (.iconst 0, 1) := by decide +kernel
theorem own_vo_d22 : decode jdk_42_method_139_code 22 = .ok (.invokespecial 209, 3) := by decide +kernel
theorem own_vo_d25 : decode jdk_42_method_139_code 25 = .ok (.areturn, 1) := by decide +kernel
theorem own_vo_d26 : decode jdk_42_method_139_code 26 = .ok (.new 10, 3) := by decide +kernel
theorem own_vo_d29 : decode jdk_42_method_139_code 29 = .ok (.dup, 1) := by decide +kernel
theorem own_vo_d30 : decode jdk_42_method_139_code 30 = .ok (.iload_n 0, 1) := by decide +kernel
theorem own_vo_d31 : decode jdk_42_method_139_code 31 = .ok (.invokestatic 1021, 3) := by decide +kernel
theorem own_vo_d34 : decode jdk_42_method_139_code 34 = .ok (.iconst 1, 1) := by decide +kernel
theorem own_vo_d35 : decode jdk_42_method_139_code 35 = .ok (.invokespecial 209, 3) := by decide +kernel
theorem own_vo_d38 : decode jdk_42_method_139_code 38 = .ok (.areturn, 1) := by decide +kernel
theorem own_vo_pn : plainName "java/lang/String" = true := by first | (simp [plainName, overriddenIn]; done) | decide +kernel
theorem own_vo_ef (m : MethodId) (pch : Int32) : entryFrame m #[(.int pch)] 1 = mkF m 0 #[iv pch] [] := by first | (simp [entryFrame, mkF, argsToLocals, Value.category]; done) | rfl
def own_vo_Q (Z : State) (pch : Int32) (cs : Int32) (h0 : Heap) (n0 : Nat) (v : Option Value) (h : Heap) (L : List Loc) : Prop := ∃ a b Lb cd, v = some (.ref a) ∧ Fr n0 L ∧ Keep h0 h [] ∧ Exa Z h a "java/lang/String" ∧ Fld Z h a "java/lang/String" "value" "[B" (.ref b) ∧ Fld Z h a "java/lang/String" "coder" "B" (.int cd) ∧ own_Ar Z h b .byte Lb ∧ own_sl Lb cd (1 : Int32)
set_option maxRecDepth 65536 in
set_option maxHeartbeats 40000000 in
theorem own_vo (l : Launch) (Z : State) (a0 : Array Value) (hw : ∀ d ∈ tables_1, d.before a0 Z = true) (ws : List Jvm.Cond) (pch : Int32) (cs : Int32) (h0 : Heap) (n0 : Nat) (Z0 : n0 ≤ h0.size) (hcS : Sta Z h0 "java/lang/String" "COMPACT_STRINGS" "Z" (.int cs)) (hcs : ¬ cs = (0 : Int32)) (hSa : Sta Z h0 "java/lang/StringUTF16" "$assertionsDisabled" "Z" (.int (1 : Int32))) (hSh : Sta Z h0 "java/lang/StringUTF16" "HI_BYTE_SHIFT" "I" (.int (0 : Int32))) (hSl : Sta Z h0 "java/lang/StringUTF16" "LO_BYTE_SHIFT" "I" (.int (8 : Int32))) :
    MetFree l own_y17 (head1 (Jvm.Cond.code own_y17 jdk_42_method_139_code 1 (some (.object "java/lang/String")) :: ws) ({ frames := 2, cells := 2, slots := 6, locals := 29 } : Room)) (fun a U => a = #[(.int pch)] ∧ Z.Warmed39 U.vm ∧ U.heap = h0) (fun _ _ _ _ _ => True) (fun _ U o U' => ∃ v L, o = .returned v ∧ (own_vo_Q Z pch cs h0 n0) v U'.heap L ∧ FrameEnd U o U' L ({ frames := 2, cells := 2, slots := 6, locals := 29 } : Room).cells ({ frames := 2, cells := 2, slots := 6, locals := 29 } : Room).slots) := by
  refine MetFree.of_bodySF (plainFor_of_name own_vo_pn) hisR ?_
  intro p e s m args below meth c s₁ Bd hml0 hP hK
  obtain ⟨rfl, hZ, hh⟩ := hP
  have hx := Bd.exec
  have hby := Bd.bytes
  have hml : c.maxLocals = 1 := hml0
  have hown : s.vm.findClass "java/lang/String" = some m.cls := findClass_of_methodNamed Bd.named
  have hnm := (name_of_methodNamed Bd.named Bd.method).1
  have hlk : meth.locks = false := Bd.notSynchronized
  have X0 : Stand p l e ({ frames := 2, cells := 2, slots := 6, locals := 29 } : Room) s m #[(.int pch)] below meth c s₁ [] 0 0 := Stand.of_body Bd
  have e0 : s₁.heap = h0 := by rw [← hh, Bd.state]; rfl
  have N0 := Fr.nil n0
  have w_2 := hw _ (List.mem_of_getElem? (l := tables_1) (i := 2) rfl)
  have w_3 := hw _ (List.mem_of_getElem? (l := tables_1) (i := 3) rfl)
  have w_17 := hw _ (List.mem_of_getElem? (l := tables_1) (i := 17) rfl)
  have w_18 := hw _ (List.mem_of_getElem? (l := tables_1) (i := 18) rfl)
  have w_26 := hw _ (List.mem_of_getElem? (l := tables_1) (i := 26) rfl)
  have w_27 := hw _ (List.mem_of_getElem? (l := tables_1) (i := 27) rfl)
  have w_28 := hw _ (List.mem_of_getElem? (l := tables_1) (i := 28) rfl)
  have w_29 := hw _ (List.mem_of_getElem? (l := tables_1) (i := 29) rfl)
  have w_30 := hw _ (List.mem_of_getElem? (l := tables_1) (i := 30) rfl)
  have w_31 := hw _ (List.mem_of_getElem? (l := tables_1) (i := 31) rfl)
  have w_32 := hw _ (List.mem_of_getElem? (l := tables_1) (i := 32) rfl)
  have w_33 := hw _ (List.mem_of_getElem? (l := tables_1) (i := 33) rfl)
  have w_34 := hw _ (List.mem_of_getElem? (l := tables_1) (i := 34) rfl)
  have w_35 := hw _ (List.mem_of_getElem? (l := tables_1) (i := 35) rfl)
  have w_36 := hw _ (List.mem_of_getElem? (l := tables_1) (i := 36) rfl)
  have w_37 := hw _ (List.mem_of_getElem? (l := tables_1) (i := 37) rfl)
  have w_40 := hw _ (List.mem_of_getElem? (l := tables_1) (i := 40) rfl)
  have w_67 := hw _ (List.mem_of_getElem? (l := tables_1) (i := 67) rfl)
  have w_68 := hw _ (List.mem_of_getElem? (l := tables_1) (i := 68) rfl)
  have w_69 := hw _ (List.mem_of_getElem? (l := tables_1) (i := 69) rfl)
  show own_G p.tables e below (fun o U' => ∃ v L, o = .returned v ∧ (own_vo_Q Z pch cs h0 n0) v U'.heap L ∧ FrameEnd s o U' L ({ frames := 2, cells := 2, slots := 6, locals := 29 } : Room).cells ({ frames := 2, cells := 2, slots := 6, locals := 29 } : Room).slots) (s₁.setTop (entryFrame m #[(.int pch)] 1))
  refine own_go (B := s₁.setTop (mkF m 0 #[iv pch] [])) (fun t k => castTop (own_vo_ef m pch) k) ?_
  have K0 := Keep.refl h0 []
  obtain ⟨T1, X1, e1, st1⟩ := getS X0 hx hZ hown (host := "") w_26 Via.refl e0 hcS (g := (mkF m 0 #[iv pch] [])) rfl (hb hby own_vo_d0)
  refine own_go (B := (T1.setTop (mkF m 3 #[iv pch] [(.int cs)]))) st1 ?_
  have hc3 : ¬ cs = (0 : Int32) := hcs
  refine own_ifN X1 hx (hb hby own_vo_d3) (pn := 6) rfl hc3 ?_
  refine own_go (B := (T1.setTop (mkF m 7 #[iv pch] [(.int pch)]))) (fun t k => XS.iloadN X1.here hx rfl (hb hby own_vo_d6) rfl k) ?_
  obtain ⟨_, _, ⟨T2, L2, k2, n2⟩, -, X2, ⟨Lc2, hQ2, l2, yy2, zz2⟩, st2⟩ := Jvm.LawKit.callS X1 hx (y := own_y10) hown (mvT hZ w_27) (mvT hZ w_28) (mvT hZ w_29) (mvT hZ w_30) (by decide) (backOf (W := 0) (own_ce l Z a0 hw [] pch h0 n0) hZ w_30 w_29 (by decide) (by decide)) (g := (mkF m 7 #[iv pch] [(.int pch)])) rfl (by rw [hml]; rfl) (argsL := [(.int pch)]) (rest := []) (lenOf own_pd9 rfl) rfl (by show 2 * 0 + _ ≤ _; exact own_b rfl) (hb hby own_vo_d7) (fun _ _ => ⟨rfl, e1, (own_b rfl : 0 + 0 ≤ _), (own_b rfl : 0 + 0 ≤ _)⟩)
  dsimp only [Pt.U, Pt.locs, Pt.cells, Pt.slots] at X2 l2 yy2 zz2 st2 hQ2
  obtain ⟨r2, rfl, Nq2, eq2⟩ := hQ2
  obtain ⟨L2, X2, N2⟩ := own_absC (K := 0) (K' := 0) X2 l2 yy2 zz2 N0 Nq2
  have e2 : T2.heap = h0 := eq2
  refine own_go (B := (T2.setTop (mkF m 10 #[iv pch] [(.int r2)]))) st2 ?_
  refine own_if X2 hx (hb hby own_vo_d10) (pc' := 26) (pn := 13) (by decide) (by decide) rfl (fun (hc10 : r2 = (0 : Int32)) => ?_) (fun (hc10 : ¬ r2 = (0 : Int32)) => ?_)
  · obtain ⟨T3, h3, X3, e3, E3, A3, D3, U3, st3⟩ := newO X2 hx hZ hown w_31 w_2 w_3 e2 (g := (mkF m 26 #[iv pch] [])) rfl (hb hby own_vo_d26) (own_b rfl) (own_b rfl)
    obtain ⟨a3, ga3⟩ : ∃ z, z = h0.size := ⟨_, rfl⟩
    rw [← ga3] at A3 D3 U3 st3
    refine own_go (B := (T3.setTop (mkF m 29 #[iv pch] [(.ref a3)]))) st3 ?_
    have Z4 : n0 ≤ h3.size := Nat.le_trans Z0 E3.1
    have K5 := Keep.ext K0 E3
    have F6 := Sta.ext E3 hcS
    have F7 := Sta.ext E3 hSa
    have F8 := Sta.ext E3 hSh
    have F9 := Sta.ext E3 hSl
    have gn3 : n0 ≤ a3 := Nat.le_trans Z0 (Nat.le_of_eq ga3.symm)
    have F10 : Fld Z h3 a3 "java/lang/String" "value" "[B" .null := D3 (Or.inr w_17) (ty := (.array .byte)) (by decide)
    have F11 : Fld Z h3 a3 "java/lang/String" "coder" "B" (.int (0 : Int32)) := D3 (Or.inr w_18) (ty := .byte) (by decide)
    refine own_go (B := (T3.setTop (mkF m 30 #[iv pch] [(.ref a3), (.ref a3)]))) (fun t k => XS.dup X3.here hx rfl (hb hby own_vo_d29) rfl rfl k) ?_
    refine own_go (B := (T3.setTop (mkF m 31 #[iv pch] [(.int pch), (.ref a3), (.ref a3)]))) (fun t k => XS.iloadN X3.here hx rfl (hb hby own_vo_d30) rfl k) ?_
    obtain ⟨_, _, ⟨T12, L12, k12, n12⟩, -, X12, ⟨Lc12, hQ12, l12, yy12, zz12⟩, st12⟩ := Jvm.LawKit.callS X3 hx (y := own_y11) hown (mvT hZ w_67) (mvT hZ w_68) (mvT hZ w_40) (mvT hZ w_69) (by decide) (backOf (W := 2) (own_u1 l Z a0 hw [] pch h3 n0 Z4 F7 F8 F9) hZ w_69 w_40 (by decide) (by decide)) (g := (mkF m 31 #[iv pch] [(.int pch), (.ref a3), (.ref a3)])) rfl (by rw [hml]; rfl) (argsL := [(.int pch)]) (rest := [(.ref a3), (.ref a3)]) (lenOf own_pd10 rfl) rfl (by show 2 * 0 + _ ≤ _; exact own_b rfl) (hb hby own_vo_d31) (fun _ _ => ⟨rfl, e3, (own_b rfl : 1 + 1 ≤ _), (own_b rfl : 4 + 2 ≤ _)⟩)
    dsimp only [Pt.U, Pt.locs, Pt.cells, Pt.slots] at X12 l12 yy12 zz12 st12 hQ12
    obtain ⟨b12, rfl, Nq12, K12, gz12, gv12⟩ := hQ12
    obtain ⟨L12, X12, N12⟩ := own_absC (K := 2) (K' := 6) X12 l12 yy12 zz12 N2 Nq12
    have gn_b12 : n0 ≤ b12 := Nat.le_trans Z4 gz12
    have nb12_a3 : b12 ≠ a3 := fun q => absurd A3.lt (by rw [← q]; exact Nat.not_lt.mpr gz12)
    have F13 : n0 ≤ T12.heap.size := Nat.le_trans Z4 K12.1
    have F14 := Keep.trans K5 K12 all0
    have F15 := own_sta_keep F6 K12 ns0
    have F16 := own_sta_keep F7 K12 ns0
    have F17 := own_sta_keep F8 K12 ns0
    have F18 := own_sta_keep F9 K12 ns0
    have F19 := Exa.keep A3 K12
    have F20 := Fld.keep F10 K12 nin0
    have F21 := Fld.keep F11 K12 nin0
    refine own_go (B := (T12.setTop (mkF m 34 #[iv pch] [(.ref b12), (.ref a3), (.ref a3)]))) st12 ?_
    refine own_go (B := (T12.setTop (mkF m 35 #[iv pch] [(.int (1 : Int32)), (.ref b12), (.ref a3), (.ref a3)]))) (fun t k => own_iconst (v := (1 : Int32)) X12.here hx rfl (hb hby own_vo_d34) (by decide) k) ?_
    obtain ⟨_, _, ⟨T22, L22, k22, n22⟩, -, X22, ⟨Lc22, hQ22, l22, yy22, zz22⟩, st22⟩ := X12.specialBack hx (y := own_y12) rfl hown (mvT hZ w_35) (mvT hZ w_36) (mvT hZ w_37) (by decide) (backOf (W := 1) (own_sb1 l Z a0 hw [] a3 b12 T12.heap n0 F13 F19 gn3 F20 F21) hZ w_37 w_3 (by decide) (by decide)) (g := (mkF m 35 #[iv pch] [(.int (1 : Int32)), (.ref b12), (.ref a3), (.ref a3)])) rfl (by rw [hml]; rfl) (Steps.refl _) (a := a3) (argsL := [(.ref b12), (.int (1 : Int32))]) (rest := [(.ref a3)]) (lenOf own_pd11 rfl) rfl (by show 2 * 0 + _ ≤ _; exact own_b rfl) (hb hby own_vo_d35) (fun _ _ => ⟨rfl, rfl, (own_b rfl : 2 + 0 ≤ _), (own_b rfl : 6 + 0 ≤ _)⟩)
    dsimp only [Pt.U, Pt.locs, Pt.cells, Pt.slots] at X22 l22 yy22 zz22 st22 hQ22
    obtain ⟨rfl, Nq22, K22, Ex22, g0_22, g1_22⟩ := hQ22
    obtain ⟨L22, X22, N22⟩ := own_absC (K := 2) (K' := 6) X22 l22 yy22 zz22 N12 Nq22
    have F23 : n0 ≤ T22.heap.size := Nat.le_trans F13 K22.1
    have F24 := Keep.trans F14 K22 (allS (Or.inr (Nat.le_trans K0.1 (Nat.le_of_eq ga3.symm))) all0)
    have F25 := own_sta_keep F15 K22 (nsS (Exa.nostat F19) ns0)
    have F26 := own_sta_keep F16 K22 (nsS (Exa.nostat F19) ns0)
    have F27 := own_sta_keep F17 K22 (nsS (Exa.nostat F19) ns0)
    have F28 := own_sta_keep F18 K22 (nsS (Exa.nostat F19) ns0)
    have F29 := Exa.keep F19 K22
    have F32 := own_Ar_keep gv12 K22 (ninS nb12_a3 nin0)
    refine own_tr (B := (T22.setTop (mkF m 38 #[iv pch] [(.ref a3)]))) st22 ?_
    exact own_retA X22 hx hlk Bd.returns rfl rfl (hb hby own_vo_d38) (own_b rfl) (own_b rfl) (Q := (own_vo_Q Z pch cs h0 n0)) ⟨_, _, [(.int ((pch >>> ((0 : Int32) &&& 31)).toInt8.toInt32)), (.int ((pch >>> ((8 : Int32) &&& 31)).toInt8.toInt32))], _, rfl, N22, F24, Ex22, g0_22, g1_22, F32, ⟨rfl, own_len2⟩⟩
  · obtain ⟨T33, h33, X33, e33, E33, A33, D33, U33, st33⟩ := newO X2 hx hZ hown w_31 w_2 w_3 e2 (g := (mkF m 13 #[iv pch] [])) rfl (hb hby own_vo_d13) (own_b rfl) (own_b rfl)
    obtain ⟨a33, ga33⟩ : ∃ z, z = h0.size := ⟨_, rfl⟩
    rw [← ga33] at A33 D33 U33 st33
    refine own_go (B := (T33.setTop (mkF m 16 #[iv pch] [(.ref a33)]))) st33 ?_
    have Z34 : n0 ≤ h33.size := Nat.le_trans Z0 E33.1
    have K35 := Keep.ext K0 E33
    have F36 := Sta.ext E33 hcS
    have F37 := Sta.ext E33 hSa
    have F38 := Sta.ext E33 hSh
    have F39 := Sta.ext E33 hSl
    have gn33 : n0 ≤ a33 := Nat.le_trans Z0 (Nat.le_of_eq ga33.symm)
    have F40 : Fld Z h33 a33 "java/lang/String" "value" "[B" .null := D33 (Or.inr w_17) (ty := (.array .byte)) (by decide)
    have F41 : Fld Z h33 a33 "java/lang/String" "coder" "B" (.int (0 : Int32)) := D33 (Or.inr w_18) (ty := .byte) (by decide)
    refine own_go (B := (T33.setTop (mkF m 17 #[iv pch] [(.ref a33), (.ref a33)]))) (fun t k => XS.dup X33.here hx rfl (hb hby own_vo_d16) rfl rfl k) ?_
    refine own_go (B := (T33.setTop (mkF m 18 #[iv pch] [(.int pch), (.ref a33), (.ref a33)]))) (fun t k => XS.iloadN X33.here hx rfl (hb hby own_vo_d17) rfl k) ?_
    obtain ⟨_, _, ⟨T42, L42, k42, n42⟩, -, X42, ⟨Lc42, hQ42, l42, yy42, zz42⟩, st42⟩ := Jvm.LawKit.callS X33 hx (y := own_y13) hown (mvT hZ w_32) (mvT hZ w_33) (mvT hZ w_29) (mvT hZ w_34) (by decide) (backOf (W := 2) (own_l1 l Z a0 hw [] pch h33 n0 Z34) hZ w_34 w_29 (by decide) (by decide)) (g := (mkF m 18 #[iv pch] [(.int pch), (.ref a33), (.ref a33)])) rfl (by rw [hml]; rfl) (argsL := [(.int pch)]) (rest := [(.ref a33), (.ref a33)]) (lenOf own_pd10 rfl) rfl (by show 2 * 0 + _ ≤ _; exact own_b rfl) (hb hby own_vo_d18) (fun _ _ => ⟨rfl, e33, (own_b rfl : 1 + 1 ≤ _), (own_b rfl : 4 + 1 ≤ _)⟩)
    dsimp only [Pt.U, Pt.locs, Pt.cells, Pt.slots] at X42 l42 yy42 zz42 st42 hQ42
    obtain ⟨b42, rfl, Nq42, K42, gz42, gv42⟩ := hQ42
    obtain ⟨L42, X42, N42⟩ := own_absC (K := 2) (K' := 5) X42 l42 yy42 zz42 N2 Nq42
    have gn_b42 : n0 ≤ b42 := Nat.le_trans Z34 gz42
    have nb42_a33 : b42 ≠ a33 := fun q => absurd A33.lt (by rw [← q]; exact Nat.not_lt.mpr gz42)
    have F43 : n0 ≤ T42.heap.size := Nat.le_trans Z34 K42.1
    have F44 := Keep.trans K35 K42 all0
    have F45 := own_sta_keep F36 K42 ns0
    have F46 := own_sta_keep F37 K42 ns0
    have F47 := own_sta_keep F38 K42 ns0
    have F48 := own_sta_keep F39 K42 ns0
    have F49 := Exa.keep A33 K42
    have F50 := Fld.keep F40 K42 nin0
    have F51 := Fld.keep F41 K42 nin0
    refine own_go (B := (T42.setTop (mkF m 21 #[iv pch] [(.ref b42), (.ref a33), (.ref a33)]))) st42 ?_
    refine own_go (B := (T42.setTop (mkF m 22 #[iv pch] [(.int (0 : Int32)), (.ref b42), (.ref a33), (.ref a33)]))) (fun t k => own_iconst (v := (0 : Int32)) X42.here hx rfl (hb hby own_vo_d21) (by decide) k) ?_
    obtain ⟨_, _, ⟨T52, L52, k52, n52⟩, -, X52, ⟨Lc52, hQ52, l52, yy52, zz52⟩, st52⟩ := X42.specialBack hx (y := own_y12) rfl hown (mvT hZ w_35) (mvT hZ w_36) (mvT hZ w_37) (by decide) (backOf (W := 1) (own_sb0 l Z a0 hw [] a33 b42 T42.heap n0 F43 F49 gn33 F50 F51) hZ w_37 w_3 (by decide) (by decide)) (g := (mkF m 22 #[iv pch] [(.int (0 : Int32)), (.ref b42), (.ref a33), (.ref a33)])) rfl (by rw [hml]; rfl) (Steps.refl _) (a := a33) (argsL := [(.ref b42), (.int (0 : Int32))]) (rest := [(.ref a33)]) (lenOf own_pd11 rfl) rfl (by show 2 * 0 + _ ≤ _; exact own_b rfl) (hb hby own_vo_d22) (fun _ _ => ⟨rfl, rfl, (own_b rfl : 2 + 0 ≤ _), (own_b rfl : 5 + 0 ≤ _)⟩)
    dsimp only [Pt.U, Pt.locs, Pt.cells, Pt.slots] at X52 l52 yy52 zz52 st52 hQ52
    obtain ⟨rfl, Nq52, K52, Ex52, g0_52, g1_52⟩ := hQ52
    obtain ⟨L52, X52, N52⟩ := own_absC (K := 2) (K' := 5) X52 l52 yy52 zz52 N42 Nq52
    have F53 : n0 ≤ T52.heap.size := Nat.le_trans F43 K52.1
    have F54 := Keep.trans F44 K52 (allS (Or.inr (Nat.le_trans K0.1 (Nat.le_of_eq ga33.symm))) all0)
    have F55 := own_sta_keep F45 K52 (nsS (Exa.nostat F49) ns0)
    have F56 := own_sta_keep F46 K52 (nsS (Exa.nostat F49) ns0)
    have F57 := own_sta_keep F47 K52 (nsS (Exa.nostat F49) ns0)
    have F58 := own_sta_keep F48 K52 (nsS (Exa.nostat F49) ns0)
    have F59 := Exa.keep F49 K52
    have F62 := own_Ar_keep gv42 K52 (ninS nb42_a33 nin0)
    refine own_tr (B := (T52.setTop (mkF m 25 #[iv pch] [(.ref a33)]))) st52 ?_
    exact own_retA X52 hx hlk Bd.returns rfl rfl (hb hby own_vo_d25) (own_b rfl) (own_b rfl) (Q := (own_vo_Q Z pch cs h0 n0)) ⟨_, _, [(.int (pch.toInt8.toInt32))], _, rfl, N52, F54, Ex52, g0_52, g1_52, F62, ⟨rfl, own_len1⟩⟩

theorem own_co_d0 : decode jdk_42_method_152_code 0 = .ok (.getstatic 38, 3) := by decide +kernel
theorem own_co_d3 : decode jdk_42_method_152_code 3 = .ok (.ifCond .eq 10, 3) := by decide +kernel
theorem own_co_d6 : decode jdk_42_method_152_code 6 = .ok (.aload_n 0, 1) := by decide +kernel
theorem own_co_d7 : decode jdk_42_method_152_code 7 = .ok (.getfield 15, 3) := by decide +kernel
theorem own_co_d10 : decode jdk_42_method_152_code 10 = .ok (.goto 4, 3) := by decide +kernel
theorem own_co_d14 : decode jdk_42_method_152_code 14 = .ok (.ireturn, 1) := by decide +kernel
theorem own_co_pn : plainName "java/lang/String" = true := by first | (simp [plainName, overriddenIn]; done) | decide +kernel
theorem own_co_ef (m : MethodId) (th : Addr) : entryFrame m #[(.ref th)] 1 = mkF m 0 #[rv th] [] := by first | (simp [entryFrame, mkF, argsToLocals, Value.category]; done) | rfl
def own_co_Q (Z : State) (th : Addr) (cs cd : Int32) (h0 : Heap) (n0 : Nat) (v : Option Value) (h : Heap) (L : List Loc) : Prop := v = some (.int cd) ∧ Fr n0 L ∧ h = h0
set_option maxRecDepth 65536 in
set_option maxHeartbeats 40000000 in
theorem own_co (l : Launch) (Z : State) (a0 : Array Value) (hw : ∀ d ∈ tables_1, d.before a0 Z = true) (ws : List Jvm.Cond) (th : Addr) (cs cd : Int32) (h0 : Heap) (n0 : Nat) (hcS : Sta Z h0 "java/lang/String" "COMPACT_STRINGS" "Z" (.int cs)) (hcs : ¬ cs = (0 : Int32)) (F1 : Fld Z h0 th "java/lang/String" "coder" "B" (.int cd)) (hcd : narrow .byte (.int cd) = .int cd) :
    MetFree l own_y14 (head1 (Jvm.Cond.code own_y14 jdk_42_method_152_code 1 (some .byte) :: ws) ({ frames := 0, cells := 0, slots := 0, locals := 0 } : Room)) (fun a U => a = #[(.ref th)] ∧ Z.Warmed39 U.vm ∧ U.heap = h0) (fun _ _ _ _ _ => True) (fun _ U o U' => ∃ v L, o = .returned v ∧ (own_co_Q Z th cs cd h0 n0) v U'.heap L ∧ FrameEnd U o U' L ({ frames := 0, cells := 0, slots := 0, locals := 0 } : Room).cells ({ frames := 0, cells := 0, slots := 0, locals := 0 } : Room).slots) := by
  refine MetFree.of_bodySF (plainFor_of_name own_co_pn) hisR ?_
  intro p e s m args below meth c s₁ Bd hml0 hP hK
  obtain ⟨rfl, hZ, hh⟩ := hP
  have hx := Bd.exec
  have hby := Bd.bytes
  have hml : c.maxLocals = 1 := hml0
  have hown : s.vm.findClass "java/lang/String" = some m.cls := findClass_of_methodNamed Bd.named
  have hnm := (name_of_methodNamed Bd.named Bd.method).1
  have hlk : meth.locks = false := Bd.notSynchronized
  have X0 : Stand p l e ({ frames := 0, cells := 0, slots := 0, locals := 0 } : Room) s m #[(.ref th)] below meth c s₁ [] 0 0 := Stand.of_body Bd
  have e0 : s₁.heap = h0 := by rw [← hh, Bd.state]; rfl
  have N0 := Fr.nil n0
  have w_22 := hw _ (List.mem_of_getElem? (l := tables_1) (i := 22) rfl)
  have w_26 := hw _ (List.mem_of_getElem? (l := tables_1) (i := 26) rfl)
  show own_G p.tables e below (fun o U' => ∃ v L, o = .returned v ∧ (own_co_Q Z th cs cd h0 n0) v U'.heap L ∧ FrameEnd s o U' L ({ frames := 0, cells := 0, slots := 0, locals := 0 } : Room).cells ({ frames := 0, cells := 0, slots := 0, locals := 0 } : Room).slots) (s₁.setTop (entryFrame m #[(.ref th)] 1))
  refine own_go (B := s₁.setTop (mkF m 0 #[rv th] [])) (fun t k => castTop (own_co_ef m th) k) ?_
  obtain ⟨T1, X1, e1, st1⟩ := getS X0 hx hZ hown (host := "") w_26 Via.refl e0 hcS (g := (mkF m 0 #[rv th] [])) rfl (hb hby own_co_d0)
  refine own_go (B := (T1.setTop (mkF m 3 #[rv th] [(.int cs)]))) st1 ?_
  have hc3 : ¬ cs = (0 : Int32) := hcs
  refine own_ifN X1 hx (hb hby own_co_d3) (pn := 6) rfl hc3 ?_
  refine own_go (B := (T1.setTop (mkF m 7 #[rv th] [(.ref th)]))) (fun t k => XS.aloadN X1.here hx rfl (hb hby own_co_d6) rfl rfl k) ?_
  obtain ⟨T2, X2, e2, st2⟩ := getF X1 hx hZ hown (host := "") (Or.inl w_22) Via.refl e1 F1 (g := (mkF m 7 #[rv th] [(.ref th)])) rfl rfl (hb hby own_co_d7)
  refine own_go (B := (T2.setTop (mkF m 10 #[rv th] [(.int cd)]))) st2 ?_
  refine own_go (B := (T2.setTop (mkF m 14 #[rv th] [(.int cd)]))) (fun t k => XS.goto X2.here hx rfl (pc0 := 10) (pc' := 14) rfl (hb hby own_co_d10) (by decide) (by decide) k) ?_
  exact own_retB X2 hx hlk Bd.returns (hb hby own_co_d14) (hcd) (own_b rfl) (own_b rfl) (Q := (own_co_Q Z th cs cd h0 n0)) ⟨rfl, N0, e2⟩

theorem own_ln_d0 : decode jdk_42_method_54_code 0 = .ok (.aload_n 0, 1) := by decide +kernel
theorem own_ln_d1 : decode jdk_42_method_54_code 1 = .ok (.getfield 9, 3) := by decide +kernel
theorem own_ln_d4 : decode jdk_42_method_54_code 4 = .ok (.arraylength, 1) := by decide +kernel
theorem own_ln_d5 : decode jdk_42_method_54_code 5 = .ok (.aload_n 0, 1) := by decide +kernel
theorem own_ln_d6 : decode jdk_42_method_54_code 6 = .ok (.invokevirtual 335, 3) := by decide +kernel
theorem own_ln_d9 : decode jdk_42_method_54_code 9 = .ok (.ishr, 1) := by decide +kernel
theorem own_ln_d10 : decode jdk_42_method_54_code 10 = .ok (.ireturn, 1) := by decide +kernel
theorem own_ln_pn : plainName "java/lang/String" = true := by first | (simp [plainName, overriddenIn]; done) | decide +kernel
theorem own_ln_ef (m : MethodId) (th : Addr) : entryFrame m #[(.ref th)] 1 = mkF m 0 #[rv th] [] := by first | (simp [entryFrame, mkF, argsToLocals, Value.category]; done) | rfl
def own_ln_Q (Z : State) (th : Addr) (cs cd nn : Int32) (b : Addr) (Lb : List Value) (h0 : Heap) (n0 : Nat) (v : Option Value) (h : Heap) (L : List Loc) : Prop := v = some (.int nn) ∧ Fr n0 L ∧ h = h0
set_option maxRecDepth 65536 in
set_option maxHeartbeats 40000000 in
theorem own_ln (l : Launch) (Z : State) (a0 : Array Value) (hw : ∀ d ∈ tables_1, d.before a0 Z = true) (ws : List Jvm.Cond) (th : Addr) (cs cd nn : Int32) (b : Addr) (Lb : List Value) (h0 : Heap) (n0 : Nat) (hcS : Sta Z h0 "java/lang/String" "COMPACT_STRINGS" "Z" (.int cs)) (hcs : ¬ cs = (0 : Int32)) (E0 : Exa Z h0 th "java/lang/String") (F0 : Fld Z h0 th "java/lang/String" "value" "[B" (.ref b)) (F1 : Fld Z h0 th "java/lang/String" "coder" "B" (.int cd)) (V0 : own_Ar Z h0 b .byte Lb) (hsl : own_sl Lb cd nn) :
    MetFree l own_y15 (head1 (Jvm.Cond.code own_y15 jdk_42_method_54_code 1 (some .int) :: ws) ({ frames := 1, cells := 0, slots := 0, locals := 13 } : Room)) (fun a U => a = #[(.ref th)] ∧ Z.Warmed39 U.vm ∧ U.heap = h0) (fun _ _ _ _ _ => True) (fun _ U o U' => ∃ v L, o = .returned v ∧ (own_ln_Q Z th cs cd nn b Lb h0 n0) v U'.heap L ∧ FrameEnd U o U' L ({ frames := 1, cells := 0, slots := 0, locals := 13 } : Room).cells ({ frames := 1, cells := 0, slots := 0, locals := 13 } : Room).slots) := by
  refine MetFree.of_bodySF (plainFor_of_name own_ln_pn) hisR ?_
  intro p e s m args below meth c s₁ Bd hml0 hP hK
  obtain ⟨rfl, hZ, hh⟩ := hP
  have hx := Bd.exec
  have hby := Bd.bytes
  have hml : c.maxLocals = 1 := hml0
  have hown : s.vm.findClass "java/lang/String" = some m.cls := findClass_of_methodNamed Bd.named
  have hnm := (name_of_methodNamed Bd.named Bd.method).1
  have hlk : meth.locks = false := Bd.notSynchronized
  have X0 : Stand p l e ({ frames := 1, cells := 0, slots := 0, locals := 13 } : Room) s m #[(.ref th)] below meth c s₁ [] 0 0 := Stand.of_body Bd
  have e0 : s₁.heap = h0 := by rw [← hh, Bd.state]; rfl
  have N0 := Fr.nil n0
  have w_3 := hw _ (List.mem_of_getElem? (l := tables_1) (i := 3) rfl)
  have w_21 := hw _ (List.mem_of_getElem? (l := tables_1) (i := 21) rfl)
  have w_59 := hw _ (List.mem_of_getElem? (l := tables_1) (i := 59) rfl)
  have w_60 := hw _ (List.mem_of_getElem? (l := tables_1) (i := 60) rfl)
  have w_61 := hw _ (List.mem_of_getElem? (l := tables_1) (i := 61) rfl)
  have w_62 := hw _ (List.mem_of_getElem? (l := tables_1) (i := 62) rfl)
  have w_63 := hw _ (List.mem_of_getElem? (l := tables_1) (i := 63) rfl)
  show own_G p.tables e below (fun o U' => ∃ v L, o = .returned v ∧ (own_ln_Q Z th cs cd nn b Lb h0 n0) v U'.heap L ∧ FrameEnd s o U' L ({ frames := 1, cells := 0, slots := 0, locals := 13 } : Room).cells ({ frames := 1, cells := 0, slots := 0, locals := 13 } : Room).slots) (s₁.setTop (entryFrame m #[(.ref th)] 1))
  refine own_go (B := s₁.setTop (mkF m 0 #[rv th] [])) (fun t k => castTop (own_ln_ef m th) k) ?_
  refine own_go (B := (s₁.setTop (mkF m 1 #[rv th] [(.ref th)]))) (fun t k => XS.aloadN X0.here hx rfl (hb hby own_ln_d0) rfl rfl k) ?_
  obtain ⟨T1, X1, e1, st1⟩ := getF X0 hx hZ hown (host := "") (Or.inl w_21) Via.refl e0 F0 (g := (mkF m 1 #[rv th] [(.ref th)])) rfl rfl (hb hby own_ln_d1)
  refine own_go (B := (T1.setTop (mkF m 4 #[rv th] [(.ref b)]))) st1 ?_
  refine own_go (B := (T1.setTop (mkF m 5 #[rv th] [(.int (Lb.length.toInt32))]))) (own_alen X1 hx hZ e1 V0 (n := (Lb.length.toInt32)) rfl (g := (mkF m 4 #[rv th] [(.ref b)])) rfl rfl (hb hby own_ln_d4)) ?_
  refine own_go (B := (T1.setTop (mkF m 6 #[rv th] [(.ref th), (.int (Lb.length.toInt32))]))) (fun t k => XS.aloadN X1.here hx rfl (hb hby own_ln_d5) rfl rfl k) ?_
  obtain ⟨cq2, kq2, qa2, qb2, qc2⟩ := isOf hZ e1 E0
  obtain ⟨_, _, ⟨T2, L2, k2, n2⟩, -, X2, ⟨Lc2, hQ2, l2, yy2, zz2⟩, st2⟩ := X1.virtualBack hx (y := own_y14) (z := own_y14) hown (mvT hZ w_59) (mvT hZ w_60) (notFace_of_selects (args := #[]) (mvT hZ w_62)) (mvT hZ w_62) (mvT hZ w_61) (by decide) (backOf (W := 1) (own_co l Z a0 hw [] th cs cd h0 n0 hcS hcs F1 hsl.1) hZ w_63 w_3 (by decide) (by decide)) qa2 qc2 (g := (mkF m 6 #[rv th] [(.ref th), (.int (Lb.length.toInt32))])) rfl (by rw [hml]; rfl) (Steps.refl _) (argsL := []) (rest := [(.int (Lb.length.toInt32))]) (lenOf own_pd12 rfl) rfl (by show 2 * 0 + _ ≤ _; exact own_b rfl) (hb hby own_ln_d6) (fun _ _ => ⟨rfl, e1, (own_b rfl : 0 + 0 ≤ _), (own_b rfl : 0 + 0 ≤ _)⟩)
  dsimp only [Pt.U, Pt.locs, Pt.cells, Pt.slots] at X2 l2 yy2 zz2 st2 hQ2
  obtain ⟨rfl, Nq2, eq2⟩ := hQ2
  obtain ⟨L2, X2, N2⟩ := own_absC (K := 0) (K' := 0) X2 l2 yy2 zz2 N0 Nq2
  have e2 : T2.heap = h0 := eq2
  refine own_tr (B := (T2.setTop (mkF m 9 #[rv th] [(.int cd), (.int (Lb.length.toInt32))]))) st2 ?_
  refine own_go (B := (T2.setTop (mkF m 10 #[rv th] [(.int ((Lb.length.toInt32) >>> (cd &&& 31)))]))) (fun t k => XS.ishr (x := (Lb.length.toInt32)) (y := cd) X2.here hx rfl (hb hby own_ln_d9) rfl k) ?_
  rw [hsl.2]
  exact own_retI X2 hx hlk Bd.returns (hb hby own_ln_d10) (own_b rfl) (own_b rfl) (Q := (own_ln_Q Z th cs cd nn b Lb h0 n0)) ⟨rfl, N2, e2⟩

theorem own_wb_d0 : decode prog_13_method_4_code 0 = .ok (.ldc2_w 26, 3) := by decide +kernel
theorem own_wb_d3 : decode prog_13_method_4_code 3 = .ok (.ldc2_w 28, 3) := by decide +kernel
theorem own_wb_d6 : decode prog_13_method_4_code 6 = .ok (.aload_n 0, 1) := by decide +kernel
theorem own_wb_d7 : decode prog_13_method_4_code 7 = .ok (.invokevirtual 30, 3) := by decide +kernel
theorem own_wb_d10 : decode prog_13_method_4_code 10 = .ok (.i2l, 1) := by decide +kernel
theorem own_wb_d11 : decode prog_13_method_4_code 11 = .ok (.lmul, 1) := by decide +kernel
theorem own_wb_d12 : decode prog_13_method_4_code 12 = .ok (.ladd, 1) := by decide +kernel
theorem own_wb_d13 : decode prog_13_method_4_code 13 = .ok (.lreturn, 1) := by decide +kernel
theorem own_wb_pn : plainName "com/example/uni_lock/unilock/Request" = true := by first | (simp [plainName, overriddenIn]; done) | decide +kernel
theorem own_wb_ef (m : MethodId) (th : Addr) : entryFrame m #[(.ref th)] 1 = mkF m 0 #[rv th] [] := by first | (simp [entryFrame, mkF, argsToLocals, Value.category]; done) | rfl
def own_wb_Q (Z : State) (th : Addr) (cs cd nn : Int32) (b : Addr) (Lb : List Value) (h0 : Heap) (n0 : Nat) (v : Option Value) (h : Heap) (L : List Loc) : Prop := v = some (.long ((48 : Int64) + ((2 : Int64) * (nn.toInt64)))) ∧ Fr n0 L ∧ h = h0
set_option maxRecDepth 65536 in
set_option maxHeartbeats 40000000 in
theorem own_wb (l : Launch) (Z : State) (a0 : Array Value) (hw : ∀ d ∈ tables_1, d.before a0 Z = true) (ws : List Jvm.Cond) (th : Addr) (cs cd nn : Int32) (b : Addr) (Lb : List Value) (h0 : Heap) (n0 : Nat) (hcS : Sta Z h0 "java/lang/String" "COMPACT_STRINGS" "Z" (.int cs)) (hcs : ¬ cs = (0 : Int32)) (E0 : Exa Z h0 th "java/lang/String") (F0 : Fld Z h0 th "java/lang/String" "value" "[B" (.ref b)) (F1 : Fld Z h0 th "java/lang/String" "coder" "B" (.int cd)) (V0 : own_Ar Z h0 b .byte Lb) (hsl : own_sl Lb cd nn) :
    MetFree l own_y18 (head1 (Jvm.Cond.code own_y18 prog_13_method_4_code 1 (some .long) :: ws) ({ frames := 2, cells := 0, slots := 0, locals := 29 } : Room)) (fun a U => a = #[(.ref th)] ∧ Z.Warmed39 U.vm ∧ U.heap = h0) (fun _ _ _ _ _ => True) (fun _ U o U' => ∃ v L, o = .returned v ∧ (own_wb_Q Z th cs cd nn b Lb h0 n0) v U'.heap L ∧ FrameEnd U o U' L ({ frames := 2, cells := 0, slots := 0, locals := 29 } : Room).cells ({ frames := 2, cells := 0, slots := 0, locals := 29 } : Room).slots) := by
  refine MetFree.of_bodySF (plainFor_of_name own_wb_pn) hisR ?_
  intro p e s m args below meth c s₁ Bd hml0 hP hK
  obtain ⟨rfl, hZ, hh⟩ := hP
  have hx := Bd.exec
  have hby := Bd.bytes
  have hml : c.maxLocals = 1 := hml0
  have hown : s.vm.findClass "com/example/uni_lock/unilock/Request" = some m.cls := findClass_of_methodNamed Bd.named
  have hnm := (name_of_methodNamed Bd.named Bd.method).1
  have hlk : meth.locks = false := Bd.notSynchronized
  have X0 : Stand p l e ({ frames := 2, cells := 0, slots := 0, locals := 29 } : Room) s m #[(.ref th)] below meth c s₁ [] 0 0 := Stand.of_body Bd
  have e0 : s₁.heap = h0 := by rw [← hh, Bd.state]; rfl
  have N0 := Fr.nil n0
  have w_3 := hw _ (List.mem_of_getElem? (l := tables_1) (i := 3) rfl)
  have w_52 := hw _ (List.mem_of_getElem? (l := tables_1) (i := 52) rfl)
  have w_53 := hw _ (List.mem_of_getElem? (l := tables_1) (i := 53) rfl)
  have w_54 := hw _ (List.mem_of_getElem? (l := tables_1) (i := 54) rfl)
  have w_55 := hw _ (List.mem_of_getElem? (l := tables_1) (i := 55) rfl)
  have w_56 := hw _ (List.mem_of_getElem? (l := tables_1) (i := 56) rfl)
  have w_57 := hw _ (List.mem_of_getElem? (l := tables_1) (i := 57) rfl)
  have w_58 := hw _ (List.mem_of_getElem? (l := tables_1) (i := 58) rfl)
  show own_G p.tables e below (fun o U' => ∃ v L, o = .returned v ∧ (own_wb_Q Z th cs cd nn b Lb h0 n0) v U'.heap L ∧ FrameEnd s o U' L ({ frames := 2, cells := 0, slots := 0, locals := 29 } : Room).cells ({ frames := 2, cells := 0, slots := 0, locals := 29 } : Room).slots) (s₁.setTop (entryFrame m #[(.ref th)] 1))
  refine own_go (B := s₁.setTop (mkF m 0 #[rv th] [])) (fun t k => castTop (own_wb_ef m th) k) ?_
  have lc1 := X0.ldc2Long hx hown (v := (48 : Int64)) (mvT hZ w_52) (g := (mkF m 0 #[rv th] [])) rfl (hb hby own_wb_d0)
  refine own_go (B := (s₁.setTop (mkF m 3 #[rv th] [(.long (48 : Int64))]))) lc1 ?_
  have lc2 := X0.ldc2Long hx hown (v := (2 : Int64)) (mvT hZ w_53) (g := (mkF m 3 #[rv th] [(.long (48 : Int64))])) rfl (hb hby own_wb_d3)
  refine own_go (B := (s₁.setTop (mkF m 6 #[rv th] [(.long (2 : Int64)), (.long (48 : Int64))]))) lc2 ?_
  refine own_go (B := (s₁.setTop (mkF m 7 #[rv th] [(.ref th), (.long (2 : Int64)), (.long (48 : Int64))]))) (fun t k => XS.aloadN X0.here hx rfl (hb hby own_wb_d6) rfl rfl k) ?_
  obtain ⟨cq3, kq3, qa3, qb3, qc3⟩ := isOf hZ e0 E0
  obtain ⟨_, _, ⟨T3, L3, k3, n3⟩, -, X3, ⟨Lc3, hQ3, l3, yy3, zz3⟩, st3⟩ := X0.virtualBack hx (y := own_y15) (z := own_y15) hown (mvT hZ w_54) (mvT hZ w_55) (notFace_of_selects (args := #[]) (mvT hZ w_57)) (mvT hZ w_57) (mvT hZ w_56) (by decide) (backOf (W := 4) (own_ln l Z a0 hw [] th cs cd nn b Lb h0 n0 hcS hcs E0 F0 F1 V0 hsl) hZ w_58 w_3 (by decide) (by decide)) qa3 qc3 (g := (mkF m 7 #[rv th] [(.ref th), (.long (2 : Int64)), (.long (48 : Int64))])) rfl (by rw [hml]; rfl) (Steps.refl _) (argsL := []) (rest := [(.long (2 : Int64)), (.long (48 : Int64))]) (lenOf own_pd13 rfl) rfl (by show 2 * 0 + _ ≤ _; exact own_b rfl) (hb hby own_wb_d7) (fun _ _ => ⟨rfl, e0, (own_b rfl : 0 + 0 ≤ _), (own_b rfl : 0 + 0 ≤ _)⟩)
  dsimp only [Pt.U, Pt.locs, Pt.cells, Pt.slots] at X3 l3 yy3 zz3 st3 hQ3
  obtain ⟨rfl, Nq3, eq3⟩ := hQ3
  obtain ⟨L3, X3, N3⟩ := own_absC (K := 0) (K' := 0) X3 l3 yy3 zz3 N0 Nq3
  have e3 : T3.heap = h0 := eq3
  refine own_tr (B := (T3.setTop (mkF m 10 #[rv th] [(.int nn), (.long (2 : Int64)), (.long (48 : Int64))]))) st3 ?_
  refine own_go (B := (T3.setTop (mkF m 11 #[rv th] [(.long (nn.toInt64)), (.long (2 : Int64)), (.long (48 : Int64))]))) (fun t k => XS.i2l X3.here hx rfl (hb hby own_wb_d10) rfl k) ?_
  refine own_go (B := (T3.setTop (mkF m 12 #[rv th] [(.long ((2 : Int64) * (nn.toInt64))), (.long (48 : Int64))]))) (fun t k => XS.lmul (x := (2 : Int64)) (y := (nn.toInt64)) X3.here hx rfl (hb hby own_wb_d11) rfl k) ?_
  refine own_go (B := (T3.setTop (mkF m 13 #[rv th] [(.long ((48 : Int64) + ((2 : Int64) * (nn.toInt64))))]))) (fun t k => XS.ladd (x := (48 : Int64)) (y := ((2 : Int64) * (nn.toInt64))) X3.here hx rfl (hb hby own_wb_d12) rfl k) ?_
  exact own_retL X3 hx hlk Bd.returns (hb hby own_wb_d13) (own_b rfl) (own_b rfl) (Q := (own_wb_Q Z th cs cd nn b Lb h0 n0)) ⟨rfl, N3, e3⟩

theorem own_law_pn : plainName "com/example/uni_lock/unilock/RequestWordBytesPinLaw" = true := by first | (simp [plainName, overriddenIn]; done) | decide +kernel
theorem own_law_ef (m : MethodId) (p0 : Int32) (p1 : Int32) : entryFrame m #[(.int p0), (.int p1)] maxLocals = mkF m 0 #[iv p0, iv p1, .unset, .unset, .unset, .unset, .unset, .unset, .unset, .unset, .unset, .unset, .unset, .unset, .unset, .unset, .unset, .unset] [] := by first | (simp [entryFrame, mkF, argsToLocals, Value.category, maxLocals]; done) | rfl
def own_law_Q (Z : State) (p0 : Int32) (p1 : Int32) (cs : Int32) (h0 : Heap) (n0 : Nat) (v : Option Value) (h : Heap) (L : List Loc) : Prop := v = some (.int 1) ∧ Fr n0 L
set_option maxRecDepth 65536 in
set_option maxHeartbeats 40000000 in
theorem own_law (l : Launch) (Z : State) (a0 : Array Value) (hw : ∀ d ∈ tables_1, d.before a0 Z = true) (ws : List Jvm.Cond) (p0 : Int32) (p1 : Int32) (cs : Int32) (h0 : Heap) (n0 : Nat) (Z0 : n0 ≤ h0.size) (hcS : Sta Z h0 "java/lang/String" "COMPACT_STRINGS" "Z" (.int cs)) (hcs : ¬ cs = (0 : Int32)) (hSa : Sta Z h0 "java/lang/StringUTF16" "$assertionsDisabled" "Z" (.int (1 : Int32))) (hSh : Sta Z h0 "java/lang/StringUTF16" "HI_BYTE_SHIFT" "I" (.int (0 : Int32))) (hSl : Sta Z h0 "java/lang/StringUTF16" "LO_BYTE_SHIFT" "I" (.int (8 : Int32))) :
    MetFree l x (head1 (Jvm.Cond.code x code maxLocals ret :: ws) room_1) (fun a U => a = #[(.int p0), (.int p1)] ∧ Z.Warmed39 U.vm ∧ U.heap = h0 ∧ CHv Z own_EL U.vm h0) (fun _ _ _ _ _ => True) (fun _ U o U' => ∃ v L, o = .returned v ∧ (own_law_Q Z p0 p1 cs h0 n0) v U'.heap L ∧ ReturnedEndW U o U' L 40 1216) := by
  refine MetFree.of_bodySF (plainFor_of_name own_law_pn) hisR ?_
  intro p e s m args below meth c s₁ Bd hml0 hP hK
  obtain ⟨rfl, hZ, hh, hPx⟩ := hP
  have hx := Bd.exec
  have hby := Bd.bytes
  have hml : c.maxLocals = 18 := hml0
  have hown : s.vm.findClass "com/example/uni_lock/unilock/RequestWordBytesPinLaw" = some m.cls := findClass_of_methodNamed Bd.named
  have hnm := (name_of_methodNamed Bd.named Bd.method).1
  have hlk : meth.locks = false := Bd.notSynchronized
  have X0 : Stand p l e room_1 (s.setVm s.vm) m #[(.int p0), (.int p1)] below meth c s₁ [] 0 0 := Stand.of_body Bd
  have hS0 : s.Since s.vm 0 := own_since0 s 0
  have hk0 : 0 ≤ h0.size := Nat.zero_le _
  have hws := own_hws hw
  have e0 : s₁.heap = h0 := by rw [← hh, Bd.state]; rfl
  have N0 := Fr.nil n0
  have w_0 := hw _ (List.mem_of_getElem? (l := tables_1) (i := 0) rfl)
  have w_1 := hw _ (List.mem_of_getElem? (l := tables_1) (i := 1) rfl)
  have w_2 := hw _ (List.mem_of_getElem? (l := tables_1) (i := 2) rfl)
  have w_3 := hw _ (List.mem_of_getElem? (l := tables_1) (i := 3) rfl)
  have w_4 := hw _ (List.mem_of_getElem? (l := tables_1) (i := 4) rfl)
  have w_5 := hw _ (List.mem_of_getElem? (l := tables_1) (i := 5) rfl)
  have w_6 := hw _ (List.mem_of_getElem? (l := tables_1) (i := 6) rfl)
  have w_7 := hw _ (List.mem_of_getElem? (l := tables_1) (i := 7) rfl)
  have w_15 := hw _ (List.mem_of_getElem? (l := tables_1) (i := 15) rfl)
  have w_17 := hw _ (List.mem_of_getElem? (l := tables_1) (i := 17) rfl)
  have w_18 := hw _ (List.mem_of_getElem? (l := tables_1) (i := 18) rfl)
  have w_23 := hw _ (List.mem_of_getElem? (l := tables_1) (i := 23) rfl)
  have w_24 := hw _ (List.mem_of_getElem? (l := tables_1) (i := 24) rfl)
  have w_25 := hw _ (List.mem_of_getElem? (l := tables_1) (i := 25) rfl)
  have w_48 := hw _ (List.mem_of_getElem? (l := tables_1) (i := 48) rfl)
  have w_49 := hw _ (List.mem_of_getElem? (l := tables_1) (i := 49) rfl)
  have w_50 := hw _ (List.mem_of_getElem? (l := tables_1) (i := 50) rfl)
  have w_51 := hw _ (List.mem_of_getElem? (l := tables_1) (i := 51) rfl)
  have w_64 := hw _ (List.mem_of_getElem? (l := tables_1) (i := 64) rfl)
  have w_65 := hw _ (List.mem_of_getElem? (l := tables_1) (i := 65) rfl)
  have w_66 := hw _ (List.mem_of_getElem? (l := tables_1) (i := 66) rfl)
  show own_G p.tables e below (fun o U' => ∃ v L, o = .returned v ∧ (own_law_Q Z p0 p1 cs h0 n0) v U'.heap L ∧ ReturnedEndW s o U' L 40 1216) (s₁.setTop (entryFrame m #[(.int p0), (.int p1)] maxLocals))
  refine own_go (B := s₁.setTop (mkF m 0 #[iv p0, iv p1, .unset, .unset, .unset, .unset, .unset, .unset, .unset, .unset, .unset, .unset, .unset, .unset, .unset, .unset, .unset, .unset] [])) (fun t k => castTop (own_law_ef m p0 p1) k) ?_
  have K0 := Keep.refl h0 []
  refine own_go (B := (s₁.setTop (mkF m 1 #[iv p0, iv p1, .unset, .unset, .unset, .unset, .unset, .unset, .unset, .unset, .unset, .unset, .unset, .unset, .unset, .unset, .unset, .unset] [(.int p0)]))) (fun t k => XS.iloadN X0.here hx rfl (hb hby at_0) rfl k) ?_
  have lc1 := X0.ldcInt hx hown (v := (65535 : Int32)) (mvT hZ w_0) (g := (mkF m 1 #[iv p0, iv p1, .unset, .unset, .unset, .unset, .unset, .unset, .unset, .unset, .unset, .unset, .unset, .unset, .unset, .unset, .unset, .unset] [(.int p0)])) rfl (hb hby at_1)
  refine own_go (B := (s₁.setTop (mkF m 3 #[iv p0, iv p1, .unset, .unset, .unset, .unset, .unset, .unset, .unset, .unset, .unset, .unset, .unset, .unset, .unset, .unset, .unset, .unset] [(.int (65535 : Int32)), (.int p0)]))) lc1 ?_
  refine own_go (B := (s₁.setTop (mkF m 4 #[iv p0, iv p1, .unset, .unset, .unset, .unset, .unset, .unset, .unset, .unset, .unset, .unset, .unset, .unset, .unset, .unset, .unset, .unset] [(.int (p0 &&& (65535 : Int32)))]))) (fun t k => XS.iand (x := p0) (y := (65535 : Int32)) X0.here hx rfl (hb hby at_3) rfl k) ?_
  refine own_go (B := (s₁.setTop (mkF m 5 #[iv p0, iv p1, .unset, .unset, .unset, .unset, .unset, .unset, .unset, .unset, .unset, .unset, .unset, .unset, .unset, .unset, .unset, .unset] [(.int ((p0 &&& (65535 : Int32)).toUInt32.toUInt16.toUInt32.toInt32))]))) (fun t k => XS.i2c X0.here hx rfl (hb hby at_4) rfl k) ?_
  obtain ⟨z5, hz5⟩ : ∃ z : Int32, z = ((p0 &&& (65535 : Int32)).toUInt32.toUInt16.toUInt32.toInt32) := ⟨_, rfl⟩
  rw [← hz5]
  refine own_go (B := (s₁.setTop (mkF m 6 #[iv p0, iv p1, iv z5, .unset, .unset, .unset, .unset, .unset, .unset, .unset, .unset, .unset, .unset, .unset, .unset, .unset, .unset, .unset] []))) (fun t k => XS.istoreN X0.here hx rfl (hb hby at_5) rfl (l' := #[iv p0, iv p1, iv z5, .unset, .unset, .unset, .unset, .unset, .unset, .unset, .unset, .unset, .unset, .unset, .unset, .unset, .unset, .unset]) rfl k) ?_
  have hn_z5 : nar .char z5 = z5 := by rw [hz5]; exact own_i2c _
  refine own_go (B := (s₁.setTop (mkF m 7 #[iv p0, iv p1, iv z5, .unset, .unset, .unset, .unset, .unset, .unset, .unset, .unset, .unset, .unset, .unset, .unset, .unset, .unset, .unset] [(.int p0)]))) (fun t k => XS.iloadN X0.here hx rfl (hb hby at_6) rfl k) ?_
  refine own_go (B := (s₁.setTop (mkF m 9 #[iv p0, iv p1, iv z5, .unset, .unset, .unset, .unset, .unset, .unset, .unset, .unset, .unset, .unset, .unset, .unset, .unset, .unset, .unset] [(.int (16 : Int32)), (.int p0)]))) (fun t k => own_bipush (v := (16 : Int32)) X0.here hx rfl (hb hby at_7) (by decide) k) ?_
  refine own_go (B := (s₁.setTop (mkF m 10 #[iv p0, iv p1, iv z5, .unset, .unset, .unset, .unset, .unset, .unset, .unset, .unset, .unset, .unset, .unset, .unset, .unset, .unset, .unset] [(.int ((p0.toUInt32 >>> ((16 : Int32) &&& 31).toUInt32).toInt32))]))) (fun t k => XS.iushr (x := p0) (y := (16 : Int32)) X0.here hx rfl (hb hby at_9) rfl k) ?_
  refine own_go (B := (s₁.setTop (mkF m 11 #[iv p0, iv p1, iv z5, .unset, .unset, .unset, .unset, .unset, .unset, .unset, .unset, .unset, .unset, .unset, .unset, .unset, .unset, .unset] [(.int (((p0.toUInt32 >>> ((16 : Int32) &&& 31).toUInt32).toInt32).toUInt32.toUInt16.toUInt32.toInt32))]))) (fun t k => XS.i2c X0.here hx rfl (hb hby at_10) rfl k) ?_
  obtain ⟨z11, hz11⟩ : ∃ z : Int32, z = (((p0.toUInt32 >>> ((16 : Int32) &&& 31).toUInt32).toInt32).toUInt32.toUInt16.toUInt32.toInt32) := ⟨_, rfl⟩
  rw [← hz11]
  refine own_go (B := (s₁.setTop (mkF m 12 #[iv p0, iv p1, iv z5, iv z11, .unset, .unset, .unset, .unset, .unset, .unset, .unset, .unset, .unset, .unset, .unset, .unset, .unset, .unset] []))) (fun t k => XS.istoreN X0.here hx rfl (hb hby at_11) rfl (l' := #[iv p0, iv p1, iv z5, iv z11, .unset, .unset, .unset, .unset, .unset, .unset, .unset, .unset, .unset, .unset, .unset, .unset, .unset, .unset]) rfl k) ?_
  have hn_z11 : nar .char z11 = z11 := by rw [hz11]; exact own_i2c _
  refine own_go (B := (s₁.setTop (mkF m 13 #[iv p0, iv p1, iv z5, iv z11, .unset, .unset, .unset, .unset, .unset, .unset, .unset, .unset, .unset, .unset, .unset, .unset, .unset, .unset] [(.int p1)]))) (fun t k => XS.iloadN X0.here hx rfl (hb hby at_12) rfl k) ?_
  have lc2 := X0.ldcInt hx hown (v := (65535 : Int32)) (mvT hZ w_0) (g := (mkF m 13 #[iv p0, iv p1, iv z5, iv z11, .unset, .unset, .unset, .unset, .unset, .unset, .unset, .unset, .unset, .unset, .unset, .unset, .unset, .unset] [(.int p1)])) rfl (hb hby at_13)
  refine own_go (B := (s₁.setTop (mkF m 15 #[iv p0, iv p1, iv z5, iv z11, .unset, .unset, .unset, .unset, .unset, .unset, .unset, .unset, .unset, .unset, .unset, .unset, .unset, .unset] [(.int (65535 : Int32)), (.int p1)]))) lc2 ?_
  refine own_go (B := (s₁.setTop (mkF m 16 #[iv p0, iv p1, iv z5, iv z11, .unset, .unset, .unset, .unset, .unset, .unset, .unset, .unset, .unset, .unset, .unset, .unset, .unset, .unset] [(.int (p1 &&& (65535 : Int32)))]))) (fun t k => XS.iand (x := p1) (y := (65535 : Int32)) X0.here hx rfl (hb hby at_15) rfl k) ?_
  refine own_go (B := (s₁.setTop (mkF m 17 #[iv p0, iv p1, iv z5, iv z11, .unset, .unset, .unset, .unset, .unset, .unset, .unset, .unset, .unset, .unset, .unset, .unset, .unset, .unset] [(.int ((p1 &&& (65535 : Int32)).toUInt32.toUInt16.toUInt32.toInt32))]))) (fun t k => XS.i2c X0.here hx rfl (hb hby at_16) rfl k) ?_
  obtain ⟨z17, hz17⟩ : ∃ z : Int32, z = ((p1 &&& (65535 : Int32)).toUInt32.toUInt16.toUInt32.toInt32) := ⟨_, rfl⟩
  rw [← hz17]
  refine own_go (B := (s₁.setTop (mkF m 19 #[iv p0, iv p1, iv z5, iv z11, iv z17, .unset, .unset, .unset, .unset, .unset, .unset, .unset, .unset, .unset, .unset, .unset, .unset, .unset] []))) (fun t k => XS.istore X0.here hx rfl (hb hby at_17) rfl (l' := #[iv p0, iv p1, iv z5, iv z11, iv z17, .unset, .unset, .unset, .unset, .unset, .unset, .unset, .unset, .unset, .unset, .unset, .unset, .unset]) rfl k) ?_
  have hn_z17 : nar .char z17 = z17 := by rw [hz17]; exact own_i2c _
  refine own_go (B := (s₁.setTop (mkF m 20 #[iv p0, iv p1, iv z5, iv z11, iv z17, .unset, .unset, .unset, .unset, .unset, .unset, .unset, .unset, .unset, .unset, .unset, .unset, .unset] [(.int p1)]))) (fun t k => XS.iloadN X0.here hx rfl (hb hby at_19) rfl k) ?_
  refine own_go (B := (s₁.setTop (mkF m 22 #[iv p0, iv p1, iv z5, iv z11, iv z17, .unset, .unset, .unset, .unset, .unset, .unset, .unset, .unset, .unset, .unset, .unset, .unset, .unset] [(.int (16 : Int32)), (.int p1)]))) (fun t k => own_bipush (v := (16 : Int32)) X0.here hx rfl (hb hby at_20) (by decide) k) ?_
  refine own_go (B := (s₁.setTop (mkF m 23 #[iv p0, iv p1, iv z5, iv z11, iv z17, .unset, .unset, .unset, .unset, .unset, .unset, .unset, .unset, .unset, .unset, .unset, .unset, .unset] [(.int ((p1.toUInt32 >>> ((16 : Int32) &&& 31).toUInt32).toInt32))]))) (fun t k => XS.iushr (x := p1) (y := (16 : Int32)) X0.here hx rfl (hb hby at_22) rfl k) ?_
  refine own_go (B := (s₁.setTop (mkF m 24 #[iv p0, iv p1, iv z5, iv z11, iv z17, .unset, .unset, .unset, .unset, .unset, .unset, .unset, .unset, .unset, .unset, .unset, .unset, .unset] [(.int (((p1.toUInt32 >>> ((16 : Int32) &&& 31).toUInt32).toInt32).toUInt32.toUInt16.toUInt32.toInt32))]))) (fun t k => XS.i2c X0.here hx rfl (hb hby at_23) rfl k) ?_
  obtain ⟨z24, hz24⟩ : ∃ z : Int32, z = (((p1.toUInt32 >>> ((16 : Int32) &&& 31).toUInt32).toInt32).toUInt32.toUInt16.toUInt32.toInt32) := ⟨_, rfl⟩
  rw [← hz24]
  refine own_go (B := (s₁.setTop (mkF m 26 #[iv p0, iv p1, iv z5, iv z11, iv z17, iv z24, .unset, .unset, .unset, .unset, .unset, .unset, .unset, .unset, .unset, .unset, .unset, .unset] []))) (fun t k => XS.istore X0.here hx rfl (hb hby at_24) rfl (l' := #[iv p0, iv p1, iv z5, iv z11, iv z17, iv z24, .unset, .unset, .unset, .unset, .unset, .unset, .unset, .unset, .unset, .unset, .unset, .unset]) rfl k) ?_
  have hn_z24 : nar .char z24 = z24 := by rw [hz24]; exact own_i2c _
  obtain ⟨T3, h3, X3, e3, E3, A3, D3, U3, st3⟩ := newO X0 hx hZ hown w_1 w_2 w_3 e0 (g := (mkF m 26 #[iv p0, iv p1, iv z5, iv z11, iv z17, iv z24, .unset, .unset, .unset, .unset, .unset, .unset, .unset, .unset, .unset, .unset, .unset, .unset] [])) rfl (hb hby at_26) (own_b rfl) (own_b rfl)
  obtain ⟨a3, ga3⟩ : ∃ z, z = h0.size := ⟨_, rfl⟩
  rw [← ga3] at A3 D3 U3 st3
  refine own_go (B := (T3.setTop (mkF m 29 #[iv p0, iv p1, iv z5, iv z11, iv z17, iv z24, .unset, .unset, .unset, .unset, .unset, .unset, .unset, .unset, .unset, .unset, .unset, .unset] [(.ref a3)]))) st3 ?_
  have Z4 : 0 ≤ h3.size := Nat.le_trans hk0 E3.1
  have Z5 : n0 ≤ h3.size := Nat.le_trans Z0 E3.1
  have K6 := Keep.ext K0 E3
  have H7 := CHv.ext E3 hPx
  have F8 := Sta.ext E3 hcS
  have F9 := Sta.ext E3 hSa
  have F10 := Sta.ext E3 hSh
  have F11 := Sta.ext E3 hSl
  have gn3 : n0 ≤ a3 := Nat.le_trans Z0 (Nat.le_of_eq ga3.symm)
  have Sf3 := own_sfnew E3 hPx ga3
  have F12 : Fld Z h3 a3 "java/lang/String" "value" "[B" .null := D3 (Or.inr w_17) (ty := (.array .byte)) (by decide)
  have F13 : Fld Z h3 a3 "java/lang/String" "coder" "B" (.int (0 : Int32)) := D3 (Or.inr w_18) (ty := .byte) (by decide)
  refine own_go (B := (T3.setTop (mkF m 30 #[iv p0, iv p1, iv z5, iv z11, iv z17, iv z24, .unset, .unset, .unset, .unset, .unset, .unset, .unset, .unset, .unset, .unset, .unset, .unset] [(.ref a3), (.ref a3)]))) (fun t k => XS.dup X3.here hx rfl (hb hby at_29) rfl rfl k) ?_
  refine own_go (B := (T3.setTop (mkF m 31 #[iv p0, iv p1, iv z5, iv z11, iv z17, iv z24, .unset, .unset, .unset, .unset, .unset, .unset, .unset, .unset, .unset, .unset, .unset, .unset] [(.int (0 : Int32)), (.ref a3), (.ref a3)]))) (fun t k => own_iconst (v := (0 : Int32)) X3.here hx rfl (hb hby at_30) (by decide) k) ?_
  obtain ⟨T14, h14, c14, X14, e14, E14, A14, st14⟩ := newP X3 hx hZ (aty := .char) w_4 e3 (g := (mkF m 31 #[iv p0, iv p1, iv z5, iv z11, iv z17, iv z24, .unset, .unset, .unset, .unset, .unset, .unset, .unset, .unset, .unset, .unset, .unset, .unset] [(.int (0 : Int32)), (.ref a3), (.ref a3)])) rfl (hb hby at_31) rfl (by decide) (cap := 0) (by decide) (by decide) (own_b rfl) (own_b rfl)
  obtain ⟨a14, ga14⟩ : ∃ z, z = h3.size := ⟨_, rfl⟩
  rw [← ga14] at A14 st14
  refine own_go (B := (T14.setTop (mkF m 33 #[iv p0, iv p1, iv z5, iv z11, iv z17, iv z24, .unset, .unset, .unset, .unset, .unset, .unset, .unset, .unset, .unset, .unset, .unset, .unset] [(.ref a14), (.ref a3), (.ref a3)]))) st14 ?_
  have Z15 : 0 ≤ h14.size := Nat.le_trans Z4 E14.1
  have Z16 : n0 ≤ h14.size := Nat.le_trans Z5 E14.1
  have K17 := Keep.ext K6 E14
  have H18 := CHv.ext E14 H7
  have F19 := Sta.ext E14 F8
  have F20 := Sta.ext E14 F9
  have F21 := Sta.ext E14 F10
  have F22 := Sta.ext E14 F11
  have F23 := Exa.ext E14 A3
  have H24 := Safe.ext E14 H7 Sf3
  have F25 := Fld.ext E14 F12
  have F26 := Fld.ext E14 F13
  have gn14 : n0 ≤ a14 := Nat.le_trans Z5 (Nat.le_of_eq ga14.symm)
  have ne14_a3 : a14 ≠ a3 := fun q => absurd (A3.lt) (by rw [← q, ga14]; exact Nat.lt_irrefl _)
  have V14 : own_Ar Z h14 a14 .char [] := own_Ar_new A14 (N := 0) (by decide) rfl
  obtain ⟨_, _, ⟨T27, L27, k27, n27⟩, -, X27, hs27, hg27, ⟨Lc27, hQ27, l27, yy27, zz27⟩, st27⟩ := X14.specialBackS hx (y := own_y16) rfl hown (mvT hZ w_5) (mvT hZ w_6) (mvT hZ w_7) (by decide) (own_backOfSP (P' := fun vm => CHv Z own_EL vm h14 ∧ Safe Z own_EL vm h14 a3) (W := 1) (own_i1_0 l Z a0 hw [] a3 a14 h14 n0 Z16 F23 gn3 F25 F26 V14) hZ w_7 w_3 (by decide) (by decide) (fun Y => own_chx Y hZ (own_EW w_15) H18 F23.lt H24)) (g := (mkF m 33 #[iv p0, iv p1, iv z5, iv z11, iv z17, iv z24, .unset, .unset, .unset, .unset, .unset, .unset, .unset, .unset, .unset, .unset, .unset, .unset] [(.ref a14), (.ref a3), (.ref a3)])) rfl (by rw [hml]; rfl) (Steps.refl _) (a := a3) (argsL := [(.ref a14)]) (rest := [(.ref a3)]) (lenOf own_pd14 rfl) rfl (by show 2 * 0 + _ ≤ _; exact own_b rfl) (hb hby at_33) (fun _ _ => ⟨rfl, e14, (own_b rfl : 2 + 4 ≤ _), (own_b rfl : 4 + 8 ≤ _)⟩)
  dsimp only [Pt.U, Pt.locs, Pt.cells, Pt.slots] at X27 l27 yy27 zz27 st27 hQ27 hs27 hg27
  obtain ⟨b27, Lb27, cd27, rfl, Nq27, K27, Ex27, gb27, gc27, gv27, gs27⟩ := hQ27
  obtain ⟨L27, X27, N27⟩ := own_absC (K := 6) (K' := 12) X27 l27 yy27 zz27 N0 Nq27
  have X27 : Stand p l e room_1 (s.setVm T27.vm) m #[(.int p0), (.int p1)] below meth c T27 L27 6 12 := X27
  have hS27 := foldS hS0 (T := T14) (by rw [e14]; exact Z15) hs27 hg27
  have hZ27 : Z.Warmed39 (s.setVm T27.vm).vm := State.Warmed39.trans (t := s.setVm s.vm) hZ hs27.1
  have ho27 : (s.setVm T27.vm).vm.findClass "com/example/uni_lock/unilock/RequestWordBytesPinLaw" = some m.cls := by rw [show (s.setVm T27.vm).vm = T27.vm from rfl, hs27.1.alike.findClass]; exact hown
  have F28 : n0 ≤ T27.heap.size := Nat.le_trans Z16 K27.1
  have F29 := Keep.trans K17 K27 (allS (Or.inr (Nat.le_trans K0.1 (Nat.le_of_eq ga3.symm))) all0)
  have F31 := own_sta_keep F19 K27 (nsS (Exa.nostat F23) ns0)
  have F32 := own_sta_keep F20 K27 (nsS (Exa.nostat F23) ns0)
  have F33 := own_sta_keep F21 K27 (nsS (Exa.nostat F23) ns0)
  have F34 := own_sta_keep F22 K27 (nsS (Exa.nostat F23) ns0)
  have F35 := Exa.keep F23 K27
  have hk27 : T27.heap.size ≤ T27.heap.size := Nat.le_refl _
  refine own_tr (B := (T27.setTop (mkF m 36 #[iv p0, iv p1, iv z5, iv z11, iv z17, iv z24, .unset, .unset, .unset, .unset, .unset, .unset, .unset, .unset, .unset, .unset, .unset, .unset] [(.ref a3)]))) st27 ?_
  refine own_go (B := (T27.setTop (mkF m 38 #[iv p0, iv p1, iv z5, iv z11, iv z17, iv z24, rv a3, .unset, .unset, .unset, .unset, .unset, .unset, .unset, .unset, .unset, .unset, .unset] []))) (fun t k => XS.astore X27.here hx rfl (hb hby at_36) rfl rfl (l' := #[iv p0, iv p1, iv z5, iv z11, iv z17, iv z24, rv a3, .unset, .unset, .unset, .unset, .unset, .unset, .unset, .unset, .unset, .unset, .unset]) rfl k) ?_
  refine own_go (B := (T27.setTop (mkF m 40 #[iv p0, iv p1, iv z5, iv z11, iv z17, iv z24, rv a3, .unset, .unset, .unset, .unset, .unset, .unset, .unset, .unset, .unset, .unset, .unset] [(.int z24)]))) (fun t k => XS.iload X27.here hx rfl (hb hby at_38) rfl k) ?_
  obtain ⟨_, _, ⟨T39, L39, k39, n39⟩, -, X39, ⟨Lc39, hQ39, l39, yy39, zz39⟩, st39⟩ := Jvm.LawKit.callS X27 hx (y := own_y17) ho27 (mvT hZ27 w_23) (mvT hZ27 w_24) (mvT hZ27 w_3) (mvT hZ27 w_25) (by decide) (backOf (W := 0) (own_vo l Z a0 hw [] z24 cs T27.heap n0 F28 F31 hcs F32 F33 F34) hZ27 w_25 w_3 (by decide) (by decide)) (g := (mkF m 40 #[iv p0, iv p1, iv z5, iv z11, iv z17, iv z24, rv a3, .unset, .unset, .unset, .unset, .unset, .unset, .unset, .unset, .unset, .unset, .unset] [(.int z24)])) rfl (by rw [hml]; rfl) (argsL := [(.int z24)]) (rest := []) (lenOf own_pd15 rfl) rfl (by show 2 * 0 + _ ≤ _; exact own_b rfl) (hb hby at_40) (fun _ _ => ⟨rfl, rfl, (own_b rfl : 6 + 2 ≤ _), (own_b rfl : 12 + 6 ≤ _)⟩)
  dsimp only [Pt.U, Pt.locs, Pt.cells, Pt.slots] at X39 l39 yy39 zz39 st39 hQ39
  obtain ⟨a39, b39, Lb39, cd39, rfl, Nq39, K39, Ex39, gb39, gc39, gv39, gs39⟩ := hQ39
  obtain ⟨L39, X39, N39⟩ := own_absC (K := 8) (K' := 18) X39 l39 yy39 zz39 N27 Nq39
  have F40 : n0 ≤ T39.heap.size := Nat.le_trans F28 K39.1
  have F41 := Keep.trans F29 K39 all0
  have F42 := own_sta_keep F31 K39 ns0
  have F43 := own_sta_keep F32 K39 ns0
  have F44 := own_sta_keep F33 K39 ns0
  have F45 := own_sta_keep F34 K39 ns0
  have F46 := Exa.keep Ex27 K39
  have F47 := Fld.keep gb27 K39 nin0
  have F48 := Fld.keep gc27 K39 nin0
  have F49 := own_Ar_keep gv27 K39 nin0
  have F50 : T27.heap.size ≤ T39.heap.size := Nat.le_trans hk27 K39.1
  refine own_go (B := (T39.setTop (mkF m 43 #[iv p0, iv p1, iv z5, iv z11, iv z17, iv z24, rv a3, .unset, .unset, .unset, .unset, .unset, .unset, .unset, .unset, .unset, .unset, .unset] [(.ref a39)]))) st39 ?_
  refine own_go (B := (T39.setTop (mkF m 45 #[iv p0, iv p1, iv z5, iv z11, iv z17, iv z24, rv a3, rv a39, .unset, .unset, .unset, .unset, .unset, .unset, .unset, .unset, .unset, .unset] []))) (fun t k => XS.astore X39.here hx rfl (hb hby at_43) rfl rfl (l' := #[iv p0, iv p1, iv z5, iv z11, iv z17, iv z24, rv a3, rv a39, .unset, .unset, .unset, .unset, .unset, .unset, .unset, .unset, .unset, .unset]) rfl k) ?_
  obtain ⟨T51, h51, X51, e51, E51, A51, D51, U51, st51⟩ := newO X39 hx hZ27 ho27 w_1 w_2 w_3 rfl (g := (mkF m 45 #[iv p0, iv p1, iv z5, iv z11, iv z17, iv z24, rv a3, rv a39, .unset, .unset, .unset, .unset, .unset, .unset, .unset, .unset, .unset, .unset] [])) rfl (hb hby at_45) (own_b rfl) (own_b rfl)
  obtain ⟨a51, ga51⟩ : ∃ z, z = T39.heap.size := ⟨_, rfl⟩
  rw [← ga51] at A51 D51 U51 st51
  refine own_go (B := (T51.setTop (mkF m 48 #[iv p0, iv p1, iv z5, iv z11, iv z17, iv z24, rv a3, rv a39, .unset, .unset, .unset, .unset, .unset, .unset, .unset, .unset, .unset, .unset] [(.ref a51)]))) st51 ?_
  have Z52 : n0 ≤ h51.size := Nat.le_trans F40 E51.1
  have K53 := Keep.ext F41 E51
  have F54 := Sta.ext E51 F42
  have F55 := Sta.ext E51 F43
  have F56 := Sta.ext E51 F44
  have F57 := Sta.ext E51 F45
  have F58 := Exa.ext E51 F46
  have F59 := Fld.ext E51 F47
  have F60 := Fld.ext E51 F48
  have V61 := own_Ar_ext F49 E51
  have Z62 : T27.heap.size ≤ h51.size := Nat.le_trans F50 E51.1
  have F63 := Exa.ext E51 Ex39
  have F64 := Fld.ext E51 gb39
  have F65 := Fld.ext E51 gc39
  have V66 := own_Ar_ext gv39 E51
  have gn51 : n0 ≤ a51 := Nat.le_trans F40 (Nat.le_of_eq ga51.symm)
  have ne51_a3 : a51 ≠ a3 := fun q => absurd (F46.lt) (by rw [← q, ga51]; exact Nat.lt_irrefl _)
  have ne51_b27 : a51 ≠ b27 := fun q => absurd (own_Ar_lt F49) (by rw [← q, ga51]; exact Nat.lt_irrefl _)
  have ne51_a39 : a51 ≠ a39 := fun q => absurd (Ex39.lt) (by rw [← q, ga51]; exact Nat.lt_irrefl _)
  have ne51_b39 : a51 ≠ b39 := fun q => absurd (own_Ar_lt gv39) (by rw [← q, ga51]; exact Nat.lt_irrefl _)
  have F67 : Fld Z h51 a51 "java/lang/String" "value" "[B" .null := D51 (Or.inr w_17) (ty := (.array .byte)) (by decide)
  have F68 : Fld Z h51 a51 "java/lang/String" "coder" "B" (.int (0 : Int32)) := D51 (Or.inr w_18) (ty := .byte) (by decide)
  refine own_go (B := (T51.setTop (mkF m 49 #[iv p0, iv p1, iv z5, iv z11, iv z17, iv z24, rv a3, rv a39, .unset, .unset, .unset, .unset, .unset, .unset, .unset, .unset, .unset, .unset] [(.ref a51), (.ref a51)]))) (fun t k => XS.dup X51.here hx rfl (hb hby at_48) rfl rfl k) ?_
  refine own_go (B := (T51.setTop (mkF m 50 #[iv p0, iv p1, iv z5, iv z11, iv z17, iv z24, rv a3, rv a39, .unset, .unset, .unset, .unset, .unset, .unset, .unset, .unset, .unset, .unset] [(.int (2 : Int32)), (.ref a51), (.ref a51)]))) (fun t k => own_iconst (v := (2 : Int32)) X51.here hx rfl (hb hby at_49) (by decide) k) ?_
  obtain ⟨T69, h69, c69, X69, e69, E69, A69, st69⟩ := newP X51 hx hZ27 (aty := .char) w_4 e51 (g := (mkF m 50 #[iv p0, iv p1, iv z5, iv z11, iv z17, iv z24, rv a3, rv a39, .unset, .unset, .unset, .unset, .unset, .unset, .unset, .unset, .unset, .unset] [(.int (2 : Int32)), (.ref a51), (.ref a51)])) rfl (hb hby at_50) rfl (by decide) (cap := 2) (by decide) (by decide) (own_b rfl) (own_b rfl)
  obtain ⟨a69, ga69⟩ : ∃ z, z = h51.size := ⟨_, rfl⟩
  rw [← ga69] at A69 st69
  refine own_go (B := (T69.setTop (mkF m 52 #[iv p0, iv p1, iv z5, iv z11, iv z17, iv z24, rv a3, rv a39, .unset, .unset, .unset, .unset, .unset, .unset, .unset, .unset, .unset, .unset] [(.ref a69), (.ref a51), (.ref a51)]))) st69 ?_
  have Z70 : n0 ≤ h69.size := Nat.le_trans Z52 E69.1
  have K71 := Keep.ext K53 E69
  have F72 := Sta.ext E69 F54
  have F73 := Sta.ext E69 F55
  have F74 := Sta.ext E69 F56
  have F75 := Sta.ext E69 F57
  have F76 := Exa.ext E69 F58
  have F77 := Fld.ext E69 F59
  have F78 := Fld.ext E69 F60
  have V79 := own_Ar_ext V61 E69
  have Z80 : T27.heap.size ≤ h69.size := Nat.le_trans Z62 E69.1
  have F81 := Exa.ext E69 F63
  have F82 := Fld.ext E69 F64
  have F83 := Fld.ext E69 F65
  have V84 := own_Ar_ext V66 E69
  have F85 := Exa.ext E69 A51
  have F86 := Fld.ext E69 F67
  have F87 := Fld.ext E69 F68
  have gn69 : n0 ≤ a69 := Nat.le_trans Z52 (Nat.le_of_eq ga69.symm)
  have ne69_a3 : a69 ≠ a3 := fun q => absurd (F58.lt) (by rw [← q, ga69]; exact Nat.lt_irrefl _)
  have ne69_b27 : a69 ≠ b27 := fun q => absurd (own_Ar_lt V61) (by rw [← q, ga69]; exact Nat.lt_irrefl _)
  have ne69_a39 : a69 ≠ a39 := fun q => absurd (F63.lt) (by rw [← q, ga69]; exact Nat.lt_irrefl _)
  have ne69_b39 : a69 ≠ b39 := fun q => absurd (own_Ar_lt V66) (by rw [← q, ga69]; exact Nat.lt_irrefl _)
  have ne69_a51 : a69 ≠ a51 := fun q => absurd (A51.lt) (by rw [← q, ga69]; exact Nat.lt_irrefl _)
  have V69 : own_Ar Z h69 a69 .char [(.int (0 : Int32)), (.int (0 : Int32))] := own_Ar_new A69 (N := 2) (by decide) rfl
  refine own_go (B := (T69.setTop (mkF m 53 #[iv p0, iv p1, iv z5, iv z11, iv z17, iv z24, rv a3, rv a39, .unset, .unset, .unset, .unset, .unset, .unset, .unset, .unset, .unset, .unset] [(.ref a69), (.ref a69), (.ref a51), (.ref a51)]))) (fun t k => XS.dup X69.here hx rfl (hb hby at_52) rfl rfl k) ?_
  refine own_go (B := (T69.setTop (mkF m 54 #[iv p0, iv p1, iv z5, iv z11, iv z17, iv z24, rv a3, rv a39, .unset, .unset, .unset, .unset, .unset, .unset, .unset, .unset, .unset, .unset] [(.int (0 : Int32)), (.ref a69), (.ref a69), (.ref a51), (.ref a51)]))) (fun t k => own_iconst (v := (0 : Int32)) X69.here hx rfl (hb hby at_53) (by decide) k) ?_
  refine own_go (B := (T69.setTop (mkF m 55 #[iv p0, iv p1, iv z5, iv z11, iv z17, iv z24, rv a3, rv a39, .unset, .unset, .unset, .unset, .unset, .unset, .unset, .unset, .unset, .unset] [(.int z11), (.int (0 : Int32)), (.ref a69), (.ref a69), (.ref a51), (.ref a51)]))) (fun t k => XS.iloadN X69.here hx rfl (hb hby at_54) rfl k) ?_
  obtain ⟨T88, h88, X88, e88, W88, V88, st88⟩ := own_stC X69 hx hZ27 e69 V69 (i := 0) (by decide) (by decide) (Nat.lt_of_lt_of_eq (by decide : 0 < 2) rfl) hn_z11 (L' := [(.int z11), (.int (0 : Int32))]) rfl (g := (mkF m 55 #[iv p0, iv p1, iv z5, iv z11, iv z17, iv z24, rv a3, rv a39, .unset, .unset, .unset, .unset, .unset, .unset, .unset, .unset, .unset, .unset] [(.int z11), (.int (0 : Int32)), (.ref a69), (.ref a69), (.ref a51), (.ref a51)])) rfl rfl (hb hby at_55)
  refine own_go (B := (T88.setTop (mkF m 56 #[iv p0, iv p1, iv z5, iv z11, iv z17, iv z24, rv a3, rv a39, .unset, .unset, .unset, .unset, .unset, .unset, .unset, .unset, .unset, .unset] [(.ref a69), (.ref a51), (.ref a51)]))) st88 ?_
  obtain ⟨L88, X88, N88⟩ := own_abs X88 (Fr.snoc X88 N39 gn69)
  have F89 : n0 ≤ h88.size := by rw [W88.size]; exact Z70
  have F90 := Keep.wr K71 W88 (Or.inr (Nat.le_trans K53.1 (Nat.le_of_eq ga69.symm)))
  have F91 := Sta.wr W88 F72
  have F92 := Sta.wr W88 F73
  have F93 := Sta.wr W88 F74
  have F94 := Sta.wr W88 F75
  have F95 := Exa.wr W88 F76
  have F96 := Fld.other W88 F77 (Or.inl (Ne.symm ne69_a3))
  have F97 := Fld.other W88 F78 (Or.inl (Ne.symm ne69_a3))
  have F98 := own_Ar_other V79 W88 (Ne.symm ne69_b27)
  have F99 : T27.heap.size ≤ h88.size := by rw [W88.size]; exact Z80
  have F100 := Exa.wr W88 F81
  have F101 := Fld.other W88 F82 (Or.inl (Ne.symm ne69_a39))
  have F102 := Fld.other W88 F83 (Or.inl (Ne.symm ne69_a39))
  have F103 := own_Ar_other V84 W88 (Ne.symm ne69_b39)
  have F104 := Exa.wr W88 F85
  have F105 := Fld.other W88 F86 (Or.inl (Ne.symm ne69_a51))
  have F106 := Fld.other W88 F87 (Or.inl (Ne.symm ne69_a51))
  refine own_go (B := (T88.setTop (mkF m 57 #[iv p0, iv p1, iv z5, iv z11, iv z17, iv z24, rv a3, rv a39, .unset, .unset, .unset, .unset, .unset, .unset, .unset, .unset, .unset, .unset] [(.ref a69), (.ref a69), (.ref a51), (.ref a51)]))) (fun t k => XS.dup X88.here hx rfl (hb hby at_56) rfl rfl k) ?_
  refine own_go (B := (T88.setTop (mkF m 58 #[iv p0, iv p1, iv z5, iv z11, iv z17, iv z24, rv a3, rv a39, .unset, .unset, .unset, .unset, .unset, .unset, .unset, .unset, .unset, .unset] [(.int (1 : Int32)), (.ref a69), (.ref a69), (.ref a51), (.ref a51)]))) (fun t k => own_iconst (v := (1 : Int32)) X88.here hx rfl (hb hby at_57) (by decide) k) ?_
  refine own_go (B := (T88.setTop (mkF m 60 #[iv p0, iv p1, iv z5, iv z11, iv z17, iv z24, rv a3, rv a39, .unset, .unset, .unset, .unset, .unset, .unset, .unset, .unset, .unset, .unset] [(.int z17), (.int (1 : Int32)), (.ref a69), (.ref a69), (.ref a51), (.ref a51)]))) (fun t k => XS.iload X88.here hx rfl (hb hby at_58) rfl k) ?_
  obtain ⟨T108, h108, X108, e108, W108, V108, st108⟩ := own_stC X88 hx hZ27 e88 V88 (i := 1) (by decide) (by decide) (Nat.lt_of_lt_of_eq (by decide : 1 < 2) rfl) hn_z17 (L' := [(.int z11), (.int z17)]) rfl (g := (mkF m 60 #[iv p0, iv p1, iv z5, iv z11, iv z17, iv z24, rv a3, rv a39, .unset, .unset, .unset, .unset, .unset, .unset, .unset, .unset, .unset, .unset] [(.int z17), (.int (1 : Int32)), (.ref a69), (.ref a69), (.ref a51), (.ref a51)])) rfl rfl (hb hby at_60)
  refine own_go (B := (T108.setTop (mkF m 61 #[iv p0, iv p1, iv z5, iv z11, iv z17, iv z24, rv a3, rv a39, .unset, .unset, .unset, .unset, .unset, .unset, .unset, .unset, .unset, .unset] [(.ref a69), (.ref a51), (.ref a51)]))) st108 ?_
  obtain ⟨L108, X108, N108⟩ := own_abs X108 (Fr.snoc X108 N88 gn69)
  have F109 : n0 ≤ h108.size := by rw [W108.size]; exact F89
  have F110 := Keep.wr F90 W108 (Or.inr (Nat.le_trans K53.1 (Nat.le_of_eq ga69.symm)))
  have F111 := Sta.wr W108 F91
  have F112 := Sta.wr W108 F92
  have F113 := Sta.wr W108 F93
  have F114 := Sta.wr W108 F94
  have F115 := Exa.wr W108 F95
  have F116 := Fld.other W108 F96 (Or.inl (Ne.symm ne69_a3))
  have F117 := Fld.other W108 F97 (Or.inl (Ne.symm ne69_a3))
  have F118 := own_Ar_other F98 W108 (Ne.symm ne69_b27)
  have F119 : T27.heap.size ≤ h108.size := by rw [W108.size]; exact F99
  have F120 := Exa.wr W108 F100
  have F121 := Fld.other W108 F101 (Or.inl (Ne.symm ne69_a39))
  have F122 := Fld.other W108 F102 (Or.inl (Ne.symm ne69_a39))
  have F123 := own_Ar_other F103 W108 (Ne.symm ne69_b39)
  have F124 := Exa.wr W108 F104
  have F125 := Fld.other W108 F105 (Or.inl (Ne.symm ne69_a51))
  have F126 := Fld.other W108 F106 (Or.inl (Ne.symm ne69_a51))
  obtain ⟨_, _, ⟨T128, L128, k128, n128⟩, -, X128, ⟨Lc128, hQ128, l128, yy128, zz128⟩, st128⟩ := X108.specialBack hx (y := own_y16) rfl ho27 (mvT hZ27 w_5) (mvT hZ27 w_6) (mvT hZ27 w_7) (by decide) (backOf (W := 1) (own_i1_2 l Z a0 hw [] a51 a69 z11 z17 cs h108 n0 F109 F124 gn51 F125 F126 V108 hn_z11 hn_z17 F111 hcs F112 F113 F114) hZ27 w_7 w_3 (by decide) (by decide)) (g := (mkF m 61 #[iv p0, iv p1, iv z5, iv z11, iv z17, iv z24, rv a3, rv a39, .unset, .unset, .unset, .unset, .unset, .unset, .unset, .unset, .unset, .unset] [(.ref a69), (.ref a51), (.ref a51)])) rfl (by rw [hml]; rfl) (Steps.refl _) (a := a51) (argsL := [(.ref a69)]) (rest := [(.ref a51)]) (lenOf own_pd14 rfl) rfl (by show 2 * 0 + _ ≤ _; exact own_b rfl) (hb hby at_61) (fun _ _ => ⟨rfl, e108, (own_b rfl : 10 + 2 ≤ _), (own_b rfl : 24 + 6 ≤ _)⟩)
  dsimp only [Pt.U, Pt.locs, Pt.cells, Pt.slots] at X128 l128 yy128 zz128 st128 hQ128
  obtain ⟨b128, Lb128, cd128, rfl, Nq128, K128, Ex128, gb128, gc128, gv128, gs128⟩ := hQ128
  obtain ⟨L128, X128, N128⟩ := own_absC (K := 12) (K' := 30) X128 l128 yy128 zz128 N108 Nq128
  have F129 : n0 ≤ T128.heap.size := Nat.le_trans F109 K128.1
  have F130 := Keep.trans F110 K128 (allS (Or.inr (Nat.le_trans F41.1 (Nat.le_of_eq ga51.symm))) all0)
  have F131 := own_sta_keep F111 K128 (nsS (Exa.nostat F124) ns0)
  have F132 := own_sta_keep F112 K128 (nsS (Exa.nostat F124) ns0)
  have F133 := own_sta_keep F113 K128 (nsS (Exa.nostat F124) ns0)
  have F134 := own_sta_keep F114 K128 (nsS (Exa.nostat F124) ns0)
  have F135 := Exa.keep F115 K128
  have F136 := Fld.keep F116 K128 (ninS (Ne.symm ne51_a3) nin0)
  have F137 := Fld.keep F117 K128 (ninS (Ne.symm ne51_a3) nin0)
  have F138 := own_Ar_keep F118 K128 (ninS (Ne.symm ne51_b27) nin0)
  have F139 : T27.heap.size ≤ T128.heap.size := Nat.le_trans F119 K128.1
  have F140 := Exa.keep F120 K128
  have F141 := Fld.keep F121 K128 (ninS (Ne.symm ne51_a39) nin0)
  have F142 := Fld.keep F122 K128 (ninS (Ne.symm ne51_a39) nin0)
  have F143 := own_Ar_keep F123 K128 (ninS (Ne.symm ne51_b39) nin0)
  have F144 := Exa.keep F124 K128
  refine own_tr (B := (T128.setTop (mkF m 64 #[iv p0, iv p1, iv z5, iv z11, iv z17, iv z24, rv a3, rv a39, .unset, .unset, .unset, .unset, .unset, .unset, .unset, .unset, .unset, .unset] [(.ref a51)]))) st128 ?_
  refine own_go (B := (T128.setTop (mkF m 66 #[iv p0, iv p1, iv z5, iv z11, iv z17, iv z24, rv a3, rv a39, rv a51, .unset, .unset, .unset, .unset, .unset, .unset, .unset, .unset, .unset] []))) (fun t k => XS.astore X128.here hx rfl (hb hby at_64) rfl rfl (l' := #[iv p0, iv p1, iv z5, iv z11, iv z17, iv z24, rv a3, rv a39, rv a51, .unset, .unset, .unset, .unset, .unset, .unset, .unset, .unset, .unset]) rfl k) ?_
  obtain ⟨T147, h147, X147, e147, E147, A147, D147, U147, st147⟩ := newO X128 hx hZ27 ho27 w_1 w_2 w_3 rfl (g := (mkF m 66 #[iv p0, iv p1, iv z5, iv z11, iv z17, iv z24, rv a3, rv a39, rv a51, .unset, .unset, .unset, .unset, .unset, .unset, .unset, .unset, .unset] [])) rfl (hb hby at_66) (own_b rfl) (own_b rfl)
  obtain ⟨a147, ga147⟩ : ∃ z, z = T128.heap.size := ⟨_, rfl⟩
  rw [← ga147] at A147 D147 U147 st147
  refine own_go (B := (T147.setTop (mkF m 69 #[iv p0, iv p1, iv z5, iv z11, iv z17, iv z24, rv a3, rv a39, rv a51, .unset, .unset, .unset, .unset, .unset, .unset, .unset, .unset, .unset] [(.ref a147)]))) st147 ?_
  have Z148 : n0 ≤ h147.size := Nat.le_trans F129 E147.1
  have K149 := Keep.ext F130 E147
  have F150 := Sta.ext E147 F131
  have F151 := Sta.ext E147 F132
  have F152 := Sta.ext E147 F133
  have F153 := Sta.ext E147 F134
  have F154 := Exa.ext E147 F135
  have F155 := Fld.ext E147 F136
  have F156 := Fld.ext E147 F137
  have V157 := own_Ar_ext F138 E147
  have Z158 : T27.heap.size ≤ h147.size := Nat.le_trans F139 E147.1
  have F159 := Exa.ext E147 F140
  have F160 := Fld.ext E147 F141
  have F161 := Fld.ext E147 F142
  have V162 := own_Ar_ext F143 E147
  have F163 := Exa.ext E147 Ex128
  have F164 := Fld.ext E147 gb128
  have F165 := Fld.ext E147 gc128
  have V166 := own_Ar_ext gv128 E147
  have gn147 : n0 ≤ a147 := Nat.le_trans F129 (Nat.le_of_eq ga147.symm)
  have ne147_a3 : a147 ≠ a3 := fun q => absurd (F135.lt) (by rw [← q, ga147]; exact Nat.lt_irrefl _)
  have ne147_b27 : a147 ≠ b27 := fun q => absurd (own_Ar_lt F138) (by rw [← q, ga147]; exact Nat.lt_irrefl _)
  have ne147_a39 : a147 ≠ a39 := fun q => absurd (F140.lt) (by rw [← q, ga147]; exact Nat.lt_irrefl _)
  have ne147_b39 : a147 ≠ b39 := fun q => absurd (own_Ar_lt F143) (by rw [← q, ga147]; exact Nat.lt_irrefl _)
  have ne147_a51 : a147 ≠ a51 := fun q => absurd (Ex128.lt) (by rw [← q, ga147]; exact Nat.lt_irrefl _)
  have ne147_b128 : a147 ≠ b128 := fun q => absurd (own_Ar_lt gv128) (by rw [← q, ga147]; exact Nat.lt_irrefl _)
  have F167 : Fld Z h147 a147 "java/lang/String" "value" "[B" .null := D147 (Or.inr w_17) (ty := (.array .byte)) (by decide)
  have F168 : Fld Z h147 a147 "java/lang/String" "coder" "B" (.int (0 : Int32)) := D147 (Or.inr w_18) (ty := .byte) (by decide)
  refine own_go (B := (T147.setTop (mkF m 70 #[iv p0, iv p1, iv z5, iv z11, iv z17, iv z24, rv a3, rv a39, rv a51, .unset, .unset, .unset, .unset, .unset, .unset, .unset, .unset, .unset] [(.ref a147), (.ref a147)]))) (fun t k => XS.dup X147.here hx rfl (hb hby at_69) rfl rfl k) ?_
  refine own_go (B := (T147.setTop (mkF m 71 #[iv p0, iv p1, iv z5, iv z11, iv z17, iv z24, rv a3, rv a39, rv a51, .unset, .unset, .unset, .unset, .unset, .unset, .unset, .unset, .unset] [(.int (3 : Int32)), (.ref a147), (.ref a147)]))) (fun t k => own_iconst (v := (3 : Int32)) X147.here hx rfl (hb hby at_70) (by decide) k) ?_
  obtain ⟨T169, h169, c169, X169, e169, E169, A169, st169⟩ := newP X147 hx hZ27 (aty := .char) w_4 e147 (g := (mkF m 71 #[iv p0, iv p1, iv z5, iv z11, iv z17, iv z24, rv a3, rv a39, rv a51, .unset, .unset, .unset, .unset, .unset, .unset, .unset, .unset, .unset] [(.int (3 : Int32)), (.ref a147), (.ref a147)])) rfl (hb hby at_71) rfl (by decide) (cap := 3) (by decide) (by decide) (own_b rfl) (own_b rfl)
  obtain ⟨a169, ga169⟩ : ∃ z, z = h147.size := ⟨_, rfl⟩
  rw [← ga169] at A169 st169
  refine own_go (B := (T169.setTop (mkF m 73 #[iv p0, iv p1, iv z5, iv z11, iv z17, iv z24, rv a3, rv a39, rv a51, .unset, .unset, .unset, .unset, .unset, .unset, .unset, .unset, .unset] [(.ref a169), (.ref a147), (.ref a147)]))) st169 ?_
  have Z170 : n0 ≤ h169.size := Nat.le_trans Z148 E169.1
  have K171 := Keep.ext K149 E169
  have F172 := Sta.ext E169 F150
  have F173 := Sta.ext E169 F151
  have F174 := Sta.ext E169 F152
  have F175 := Sta.ext E169 F153
  have F176 := Exa.ext E169 F154
  have F177 := Fld.ext E169 F155
  have F178 := Fld.ext E169 F156
  have V179 := own_Ar_ext V157 E169
  have Z180 : T27.heap.size ≤ h169.size := Nat.le_trans Z158 E169.1
  have F181 := Exa.ext E169 F159
  have F182 := Fld.ext E169 F160
  have F183 := Fld.ext E169 F161
  have V184 := own_Ar_ext V162 E169
  have F185 := Exa.ext E169 F163
  have F186 := Fld.ext E169 F164
  have F187 := Fld.ext E169 F165
  have V188 := own_Ar_ext V166 E169
  have F189 := Exa.ext E169 A147
  have F190 := Fld.ext E169 F167
  have F191 := Fld.ext E169 F168
  have gn169 : n0 ≤ a169 := Nat.le_trans Z148 (Nat.le_of_eq ga169.symm)
  have ne169_a3 : a169 ≠ a3 := fun q => absurd (F154.lt) (by rw [← q, ga169]; exact Nat.lt_irrefl _)
  have ne169_b27 : a169 ≠ b27 := fun q => absurd (own_Ar_lt V157) (by rw [← q, ga169]; exact Nat.lt_irrefl _)
  have ne169_a39 : a169 ≠ a39 := fun q => absurd (F159.lt) (by rw [← q, ga169]; exact Nat.lt_irrefl _)
  have ne169_b39 : a169 ≠ b39 := fun q => absurd (own_Ar_lt V162) (by rw [← q, ga169]; exact Nat.lt_irrefl _)
  have ne169_a51 : a169 ≠ a51 := fun q => absurd (F163.lt) (by rw [← q, ga169]; exact Nat.lt_irrefl _)
  have ne169_b128 : a169 ≠ b128 := fun q => absurd (own_Ar_lt V166) (by rw [← q, ga169]; exact Nat.lt_irrefl _)
  have ne169_a147 : a169 ≠ a147 := fun q => absurd (A147.lt) (by rw [← q, ga169]; exact Nat.lt_irrefl _)
  have V169 : own_Ar Z h169 a169 .char [(.int (0 : Int32)), (.int (0 : Int32)), (.int (0 : Int32))] := own_Ar_new A169 (N := 3) (by decide) rfl
  refine own_go (B := (T169.setTop (mkF m 74 #[iv p0, iv p1, iv z5, iv z11, iv z17, iv z24, rv a3, rv a39, rv a51, .unset, .unset, .unset, .unset, .unset, .unset, .unset, .unset, .unset] [(.ref a169), (.ref a169), (.ref a147), (.ref a147)]))) (fun t k => XS.dup X169.here hx rfl (hb hby at_73) rfl rfl k) ?_
  refine own_go (B := (T169.setTop (mkF m 75 #[iv p0, iv p1, iv z5, iv z11, iv z17, iv z24, rv a3, rv a39, rv a51, .unset, .unset, .unset, .unset, .unset, .unset, .unset, .unset, .unset] [(.int (0 : Int32)), (.ref a169), (.ref a169), (.ref a147), (.ref a147)]))) (fun t k => own_iconst (v := (0 : Int32)) X169.here hx rfl (hb hby at_74) (by decide) k) ?_
  refine own_go (B := (T169.setTop (mkF m 76 #[iv p0, iv p1, iv z5, iv z11, iv z17, iv z24, rv a3, rv a39, rv a51, .unset, .unset, .unset, .unset, .unset, .unset, .unset, .unset, .unset] [(.int z5), (.int (0 : Int32)), (.ref a169), (.ref a169), (.ref a147), (.ref a147)]))) (fun t k => XS.iloadN X169.here hx rfl (hb hby at_75) rfl k) ?_
  obtain ⟨T192, h192, X192, e192, W192, V192, st192⟩ := own_stC X169 hx hZ27 e169 V169 (i := 0) (by decide) (by decide) (Nat.lt_of_lt_of_eq (by decide : 0 < 3) rfl) hn_z5 (L' := [(.int z5), (.int (0 : Int32)), (.int (0 : Int32))]) rfl (g := (mkF m 76 #[iv p0, iv p1, iv z5, iv z11, iv z17, iv z24, rv a3, rv a39, rv a51, .unset, .unset, .unset, .unset, .unset, .unset, .unset, .unset, .unset] [(.int z5), (.int (0 : Int32)), (.ref a169), (.ref a169), (.ref a147), (.ref a147)])) rfl rfl (hb hby at_76)
  refine own_go (B := (T192.setTop (mkF m 77 #[iv p0, iv p1, iv z5, iv z11, iv z17, iv z24, rv a3, rv a39, rv a51, .unset, .unset, .unset, .unset, .unset, .unset, .unset, .unset, .unset] [(.ref a169), (.ref a147), (.ref a147)]))) st192 ?_
  obtain ⟨L192, X192, N192⟩ := own_abs X192 (Fr.snoc X192 N128 gn169)
  have F193 : n0 ≤ h192.size := by rw [W192.size]; exact Z170
  have F194 := Keep.wr K171 W192 (Or.inr (Nat.le_trans K149.1 (Nat.le_of_eq ga169.symm)))
  have F195 := Sta.wr W192 F172
  have F196 := Sta.wr W192 F173
  have F197 := Sta.wr W192 F174
  have F198 := Sta.wr W192 F175
  have F199 := Exa.wr W192 F176
  have F200 := Fld.other W192 F177 (Or.inl (Ne.symm ne169_a3))
  have F201 := Fld.other W192 F178 (Or.inl (Ne.symm ne169_a3))
  have F202 := own_Ar_other V179 W192 (Ne.symm ne169_b27)
  have F203 : T27.heap.size ≤ h192.size := by rw [W192.size]; exact Z180
  have F204 := Exa.wr W192 F181
  have F205 := Fld.other W192 F182 (Or.inl (Ne.symm ne169_a39))
  have F206 := Fld.other W192 F183 (Or.inl (Ne.symm ne169_a39))
  have F207 := own_Ar_other V184 W192 (Ne.symm ne169_b39)
  have F208 := Exa.wr W192 F185
  have F209 := Fld.other W192 F186 (Or.inl (Ne.symm ne169_a51))
  have F210 := Fld.other W192 F187 (Or.inl (Ne.symm ne169_a51))
  have F211 := own_Ar_other V188 W192 (Ne.symm ne169_b128)
  have F212 := Exa.wr W192 F189
  have F213 := Fld.other W192 F190 (Or.inl (Ne.symm ne169_a147))
  have F214 := Fld.other W192 F191 (Or.inl (Ne.symm ne169_a147))
  refine own_go (B := (T192.setTop (mkF m 78 #[iv p0, iv p1, iv z5, iv z11, iv z17, iv z24, rv a3, rv a39, rv a51, .unset, .unset, .unset, .unset, .unset, .unset, .unset, .unset, .unset] [(.ref a169), (.ref a169), (.ref a147), (.ref a147)]))) (fun t k => XS.dup X192.here hx rfl (hb hby at_77) rfl rfl k) ?_
  refine own_go (B := (T192.setTop (mkF m 79 #[iv p0, iv p1, iv z5, iv z11, iv z17, iv z24, rv a3, rv a39, rv a51, .unset, .unset, .unset, .unset, .unset, .unset, .unset, .unset, .unset] [(.int (1 : Int32)), (.ref a169), (.ref a169), (.ref a147), (.ref a147)]))) (fun t k => own_iconst (v := (1 : Int32)) X192.here hx rfl (hb hby at_78) (by decide) k) ?_
  refine own_go (B := (T192.setTop (mkF m 80 #[iv p0, iv p1, iv z5, iv z11, iv z17, iv z24, rv a3, rv a39, rv a51, .unset, .unset, .unset, .unset, .unset, .unset, .unset, .unset, .unset] [(.int z11), (.int (1 : Int32)), (.ref a169), (.ref a169), (.ref a147), (.ref a147)]))) (fun t k => XS.iloadN X192.here hx rfl (hb hby at_79) rfl k) ?_
  obtain ⟨T216, h216, X216, e216, W216, V216, st216⟩ := own_stC X192 hx hZ27 e192 V192 (i := 1) (by decide) (by decide) (Nat.lt_of_lt_of_eq (by decide : 1 < 3) rfl) hn_z11 (L' := [(.int z5), (.int z11), (.int (0 : Int32))]) rfl (g := (mkF m 80 #[iv p0, iv p1, iv z5, iv z11, iv z17, iv z24, rv a3, rv a39, rv a51, .unset, .unset, .unset, .unset, .unset, .unset, .unset, .unset, .unset] [(.int z11), (.int (1 : Int32)), (.ref a169), (.ref a169), (.ref a147), (.ref a147)])) rfl rfl (hb hby at_80)
  refine own_go (B := (T216.setTop (mkF m 81 #[iv p0, iv p1, iv z5, iv z11, iv z17, iv z24, rv a3, rv a39, rv a51, .unset, .unset, .unset, .unset, .unset, .unset, .unset, .unset, .unset] [(.ref a169), (.ref a147), (.ref a147)]))) st216 ?_
  obtain ⟨L216, X216, N216⟩ := own_abs X216 (Fr.snoc X216 N192 gn169)
  have F217 : n0 ≤ h216.size := by rw [W216.size]; exact F193
  have F218 := Keep.wr F194 W216 (Or.inr (Nat.le_trans K149.1 (Nat.le_of_eq ga169.symm)))
  have F219 := Sta.wr W216 F195
  have F220 := Sta.wr W216 F196
  have F221 := Sta.wr W216 F197
  have F222 := Sta.wr W216 F198
  have F223 := Exa.wr W216 F199
  have F224 := Fld.other W216 F200 (Or.inl (Ne.symm ne169_a3))
  have F225 := Fld.other W216 F201 (Or.inl (Ne.symm ne169_a3))
  have F226 := own_Ar_other F202 W216 (Ne.symm ne169_b27)
  have F227 : T27.heap.size ≤ h216.size := by rw [W216.size]; exact F203
  have F228 := Exa.wr W216 F204
  have F229 := Fld.other W216 F205 (Or.inl (Ne.symm ne169_a39))
  have F230 := Fld.other W216 F206 (Or.inl (Ne.symm ne169_a39))
  have F231 := own_Ar_other F207 W216 (Ne.symm ne169_b39)
  have F232 := Exa.wr W216 F208
  have F233 := Fld.other W216 F209 (Or.inl (Ne.symm ne169_a51))
  have F234 := Fld.other W216 F210 (Or.inl (Ne.symm ne169_a51))
  have F235 := own_Ar_other F211 W216 (Ne.symm ne169_b128)
  have F236 := Exa.wr W216 F212
  have F237 := Fld.other W216 F213 (Or.inl (Ne.symm ne169_a147))
  have F238 := Fld.other W216 F214 (Or.inl (Ne.symm ne169_a147))
  refine own_go (B := (T216.setTop (mkF m 82 #[iv p0, iv p1, iv z5, iv z11, iv z17, iv z24, rv a3, rv a39, rv a51, .unset, .unset, .unset, .unset, .unset, .unset, .unset, .unset, .unset] [(.ref a169), (.ref a169), (.ref a147), (.ref a147)]))) (fun t k => XS.dup X216.here hx rfl (hb hby at_81) rfl rfl k) ?_
  refine own_go (B := (T216.setTop (mkF m 83 #[iv p0, iv p1, iv z5, iv z11, iv z17, iv z24, rv a3, rv a39, rv a51, .unset, .unset, .unset, .unset, .unset, .unset, .unset, .unset, .unset] [(.int (2 : Int32)), (.ref a169), (.ref a169), (.ref a147), (.ref a147)]))) (fun t k => own_iconst (v := (2 : Int32)) X216.here hx rfl (hb hby at_82) (by decide) k) ?_
  refine own_go (B := (T216.setTop (mkF m 85 #[iv p0, iv p1, iv z5, iv z11, iv z17, iv z24, rv a3, rv a39, rv a51, .unset, .unset, .unset, .unset, .unset, .unset, .unset, .unset, .unset] [(.int z17), (.int (2 : Int32)), (.ref a169), (.ref a169), (.ref a147), (.ref a147)]))) (fun t k => XS.iload X216.here hx rfl (hb hby at_83) rfl k) ?_
  obtain ⟨T240, h240, X240, e240, W240, V240, st240⟩ := own_stC X216 hx hZ27 e216 V216 (i := 2) (by decide) (by decide) (Nat.lt_of_lt_of_eq (by decide : 2 < 3) rfl) hn_z17 (L' := [(.int z5), (.int z11), (.int z17)]) rfl (g := (mkF m 85 #[iv p0, iv p1, iv z5, iv z11, iv z17, iv z24, rv a3, rv a39, rv a51, .unset, .unset, .unset, .unset, .unset, .unset, .unset, .unset, .unset] [(.int z17), (.int (2 : Int32)), (.ref a169), (.ref a169), (.ref a147), (.ref a147)])) rfl rfl (hb hby at_85)
  refine own_go (B := (T240.setTop (mkF m 86 #[iv p0, iv p1, iv z5, iv z11, iv z17, iv z24, rv a3, rv a39, rv a51, .unset, .unset, .unset, .unset, .unset, .unset, .unset, .unset, .unset] [(.ref a169), (.ref a147), (.ref a147)]))) st240 ?_
  obtain ⟨L240, X240, N240⟩ := own_abs X240 (Fr.snoc X240 N216 gn169)
  have F241 : n0 ≤ h240.size := by rw [W240.size]; exact F217
  have F242 := Keep.wr F218 W240 (Or.inr (Nat.le_trans K149.1 (Nat.le_of_eq ga169.symm)))
  have F243 := Sta.wr W240 F219
  have F244 := Sta.wr W240 F220
  have F245 := Sta.wr W240 F221
  have F246 := Sta.wr W240 F222
  have F247 := Exa.wr W240 F223
  have F248 := Fld.other W240 F224 (Or.inl (Ne.symm ne169_a3))
  have F249 := Fld.other W240 F225 (Or.inl (Ne.symm ne169_a3))
  have F250 := own_Ar_other F226 W240 (Ne.symm ne169_b27)
  have F251 : T27.heap.size ≤ h240.size := by rw [W240.size]; exact F227
  have F252 := Exa.wr W240 F228
  have F253 := Fld.other W240 F229 (Or.inl (Ne.symm ne169_a39))
  have F254 := Fld.other W240 F230 (Or.inl (Ne.symm ne169_a39))
  have F255 := own_Ar_other F231 W240 (Ne.symm ne169_b39)
  have F256 := Exa.wr W240 F232
  have F257 := Fld.other W240 F233 (Or.inl (Ne.symm ne169_a51))
  have F258 := Fld.other W240 F234 (Or.inl (Ne.symm ne169_a51))
  have F259 := own_Ar_other F235 W240 (Ne.symm ne169_b128)
  have F260 := Exa.wr W240 F236
  have F261 := Fld.other W240 F237 (Or.inl (Ne.symm ne169_a147))
  have F262 := Fld.other W240 F238 (Or.inl (Ne.symm ne169_a147))
  obtain ⟨_, _, ⟨T264, L264, k264, n264⟩, -, X264, ⟨Lc264, hQ264, l264, yy264, zz264⟩, st264⟩ := X240.specialBack hx (y := own_y16) rfl ho27 (mvT hZ27 w_5) (mvT hZ27 w_6) (mvT hZ27 w_7) (by decide) (backOf (W := 1) (own_i1_3 l Z a0 hw [] a147 a169 z5 z11 z17 cs h240 n0 F241 F260 gn147 F261 F262 V240 hn_z5 hn_z11 hn_z17 F243 hcs F244 F245 F246) hZ27 w_7 w_3 (by decide) (by decide)) (g := (mkF m 86 #[iv p0, iv p1, iv z5, iv z11, iv z17, iv z24, rv a3, rv a39, rv a51, .unset, .unset, .unset, .unset, .unset, .unset, .unset, .unset, .unset] [(.ref a169), (.ref a147), (.ref a147)])) rfl (by rw [hml]; rfl) (Steps.refl _) (a := a147) (argsL := [(.ref a169)]) (rest := [(.ref a147)]) (lenOf own_pd14 rfl) rfl (by show 2 * 0 + _ ≤ _; exact own_b rfl) (hb hby at_86) (fun _ _ => ⟨rfl, e240, (own_b rfl : 14 + 2 ≤ _), (own_b rfl : 37 + 9 ≤ _)⟩)
  dsimp only [Pt.U, Pt.locs, Pt.cells, Pt.slots] at X264 l264 yy264 zz264 st264 hQ264
  obtain ⟨b264, Lb264, cd264, rfl, Nq264, K264, Ex264, gb264, gc264, gv264, gs264⟩ := hQ264
  obtain ⟨L264, X264, N264⟩ := own_absC (K := 16) (K' := 46) X264 l264 yy264 zz264 N240 Nq264
  have F265 : n0 ≤ T264.heap.size := Nat.le_trans F241 K264.1
  have F266 := Keep.trans F242 K264 (allS (Or.inr (Nat.le_trans F130.1 (Nat.le_of_eq ga147.symm))) all0)
  have F267 := own_sta_keep F243 K264 (nsS (Exa.nostat F260) ns0)
  have F268 := own_sta_keep F244 K264 (nsS (Exa.nostat F260) ns0)
  have F269 := own_sta_keep F245 K264 (nsS (Exa.nostat F260) ns0)
  have F270 := own_sta_keep F246 K264 (nsS (Exa.nostat F260) ns0)
  have F271 := Exa.keep F247 K264
  have F272 := Fld.keep F248 K264 (ninS (Ne.symm ne147_a3) nin0)
  have F273 := Fld.keep F249 K264 (ninS (Ne.symm ne147_a3) nin0)
  have F274 := own_Ar_keep F250 K264 (ninS (Ne.symm ne147_b27) nin0)
  have F275 : T27.heap.size ≤ T264.heap.size := Nat.le_trans F251 K264.1
  have F276 := Exa.keep F252 K264
  have F277 := Fld.keep F253 K264 (ninS (Ne.symm ne147_a39) nin0)
  have F278 := Fld.keep F254 K264 (ninS (Ne.symm ne147_a39) nin0)
  have F279 := own_Ar_keep F255 K264 (ninS (Ne.symm ne147_b39) nin0)
  have F280 := Exa.keep F256 K264
  have F281 := Fld.keep F257 K264 (ninS (Ne.symm ne147_a51) nin0)
  have F282 := Fld.keep F258 K264 (ninS (Ne.symm ne147_a51) nin0)
  have F283 := own_Ar_keep F259 K264 (ninS (Ne.symm ne147_b128) nin0)
  have F284 := Exa.keep F260 K264
  refine own_tr (B := (T264.setTop (mkF m 89 #[iv p0, iv p1, iv z5, iv z11, iv z17, iv z24, rv a3, rv a39, rv a51, .unset, .unset, .unset, .unset, .unset, .unset, .unset, .unset, .unset] [(.ref a147)]))) st264 ?_
  refine own_go (B := (T264.setTop (mkF m 91 #[iv p0, iv p1, iv z5, iv z11, iv z17, iv z24, rv a3, rv a39, rv a51, rv a147, .unset, .unset, .unset, .unset, .unset, .unset, .unset, .unset] []))) (fun t k => XS.astore X264.here hx rfl (hb hby at_89) rfl rfl (l' := #[iv p0, iv p1, iv z5, iv z11, iv z17, iv z24, rv a3, rv a39, rv a51, rv a147, .unset, .unset, .unset, .unset, .unset, .unset, .unset, .unset]) rfl k) ?_
  refine own_go (B := (T264.setTop (mkF m 93 #[iv p0, iv p1, iv z5, iv z11, iv z17, iv z24, rv a3, rv a39, rv a51, rv a147, .unset, .unset, .unset, .unset, .unset, .unset, .unset, .unset] [(.ref a3)]))) (fun t k => XS.aload X264.here hx rfl (hb hby at_91) rfl rfl k) ?_
  obtain ⟨_, _, ⟨T287, L287, k287, n287⟩, -, X287, ⟨Lc287, hQ287, l287, yy287, zz287⟩, st287⟩ := Jvm.LawKit.callS X264 hx (y := own_y18) ho27 (mvT hZ27 w_48) (mvT hZ27 w_49) (mvT hZ27 w_50) (mvT hZ27 w_51) (by decide) (backOf (W := 0) (own_wb l Z a0 hw [] a3 cs cd27 (0 : Int32) b27 Lb27 T264.heap n0 F267 hcs F271 F272 F273 F274 gs27) hZ27 w_51 w_50 (by decide) (by decide)) (g := (mkF m 93 #[iv p0, iv p1, iv z5, iv z11, iv z17, iv z24, rv a3, rv a39, rv a51, rv a147, .unset, .unset, .unset, .unset, .unset, .unset, .unset, .unset] [(.ref a3)])) rfl (by rw [hml]; rfl) (argsL := [(.ref a3)]) (rest := []) (lenOf own_pd16 rfl) rfl (by show 2 * 0 + _ ≤ _; exact own_b rfl) (hb hby at_93) (fun _ _ => ⟨rfl, rfl, (own_b rfl : 16 + 0 ≤ _), (own_b rfl : 46 + 0 ≤ _)⟩)
  dsimp only [Pt.U, Pt.locs, Pt.cells, Pt.slots] at X287 l287 yy287 zz287 st287 hQ287
  obtain ⟨rfl, Nq287, eq287⟩ := hQ287
  obtain ⟨L287, X287, N287⟩ := own_absC (K := 16) (K' := 46) X287 l287 yy287 zz287 N264 Nq287
  have e287 : T287.heap = T264.heap := eq287
  refine own_go (B := (T287.setTop (mkF m 96 #[iv p0, iv p1, iv z5, iv z11, iv z17, iv z24, rv a3, rv a39, rv a51, rv a147, .unset, .unset, .unset, .unset, .unset, .unset, .unset, .unset] [(.long ((48 : Int64) + ((2 : Int64) * ((0 : Int32).toInt64))))]))) st287 ?_
  rw [show ((48 : Int64) + ((2 : Int64) * ((0 : Int32).toInt64))) = (48 : Int64) from by decide]
  refine own_go (B := (T287.setTop (mkF m 98 #[iv p0, iv p1, iv z5, iv z11, iv z17, iv z24, rv a3, rv a39, rv a51, rv a147, .val (.long (48 : Int64)), .second, .unset, .unset, .unset, .unset, .unset, .unset] []))) (fun t k => XS.lstore X287.here hx rfl (hb hby at_96) rfl (l' := #[iv p0, iv p1, iv z5, iv z11, iv z17, iv z24, rv a3, rv a39, rv a51, rv a147, .val (.long (48 : Int64)), .second, .unset, .unset, .unset, .unset, .unset, .unset]) rfl k) ?_
  refine own_go (B := (T287.setTop (mkF m 100 #[iv p0, iv p1, iv z5, iv z11, iv z17, iv z24, rv a3, rv a39, rv a51, rv a147, .val (.long (48 : Int64)), .second, .unset, .unset, .unset, .unset, .unset, .unset] [(.ref a39)]))) (fun t k => XS.aload X287.here hx rfl (hb hby at_98) rfl rfl k) ?_
  obtain ⟨_, _, ⟨T288, L288, k288, n288⟩, -, X288, ⟨Lc288, hQ288, l288, yy288, zz288⟩, st288⟩ := Jvm.LawKit.callS X287 hx (y := own_y18) ho27 (mvT hZ27 w_48) (mvT hZ27 w_49) (mvT hZ27 w_50) (mvT hZ27 w_51) (by decide) (backOf (W := 0) (own_wb l Z a0 hw [] a39 cs cd39 (1 : Int32) b39 Lb39 T264.heap n0 F267 hcs F276 F277 F278 F279 gs39) hZ27 w_51 w_50 (by decide) (by decide)) (g := (mkF m 100 #[iv p0, iv p1, iv z5, iv z11, iv z17, iv z24, rv a3, rv a39, rv a51, rv a147, .val (.long (48 : Int64)), .second, .unset, .unset, .unset, .unset, .unset, .unset] [(.ref a39)])) rfl (by rw [hml]; rfl) (argsL := [(.ref a39)]) (rest := []) (lenOf own_pd16 rfl) rfl (by show 2 * 0 + _ ≤ _; exact own_b rfl) (hb hby at_100) (fun _ _ => ⟨rfl, e287, (own_b rfl : 16 + 0 ≤ _), (own_b rfl : 46 + 0 ≤ _)⟩)
  dsimp only [Pt.U, Pt.locs, Pt.cells, Pt.slots] at X288 l288 yy288 zz288 st288 hQ288
  obtain ⟨rfl, Nq288, eq288⟩ := hQ288
  obtain ⟨L288, X288, N288⟩ := own_absC (K := 16) (K' := 46) X288 l288 yy288 zz288 N287 Nq288
  have e288 : T288.heap = T264.heap := eq288
  refine own_go (B := (T288.setTop (mkF m 103 #[iv p0, iv p1, iv z5, iv z11, iv z17, iv z24, rv a3, rv a39, rv a51, rv a147, .val (.long (48 : Int64)), .second, .unset, .unset, .unset, .unset, .unset, .unset] [(.long ((48 : Int64) + ((2 : Int64) * ((1 : Int32).toInt64))))]))) st288 ?_
  rw [show ((48 : Int64) + ((2 : Int64) * ((1 : Int32).toInt64))) = (50 : Int64) from by decide]
  refine own_go (B := (T288.setTop (mkF m 105 #[iv p0, iv p1, iv z5, iv z11, iv z17, iv z24, rv a3, rv a39, rv a51, rv a147, .val (.long (48 : Int64)), .second, .val (.long (50 : Int64)), .second, .unset, .unset, .unset, .unset] []))) (fun t k => XS.lstore X288.here hx rfl (hb hby at_103) rfl (l' := #[iv p0, iv p1, iv z5, iv z11, iv z17, iv z24, rv a3, rv a39, rv a51, rv a147, .val (.long (48 : Int64)), .second, .val (.long (50 : Int64)), .second, .unset, .unset, .unset, .unset]) rfl k) ?_
  refine own_go (B := (T288.setTop (mkF m 107 #[iv p0, iv p1, iv z5, iv z11, iv z17, iv z24, rv a3, rv a39, rv a51, rv a147, .val (.long (48 : Int64)), .second, .val (.long (50 : Int64)), .second, .unset, .unset, .unset, .unset] [(.ref a51)]))) (fun t k => XS.aload X288.here hx rfl (hb hby at_105) rfl rfl k) ?_
  obtain ⟨_, _, ⟨T289, L289, k289, n289⟩, -, X289, ⟨Lc289, hQ289, l289, yy289, zz289⟩, st289⟩ := Jvm.LawKit.callS X288 hx (y := own_y18) ho27 (mvT hZ27 w_48) (mvT hZ27 w_49) (mvT hZ27 w_50) (mvT hZ27 w_51) (by decide) (backOf (W := 0) (own_wb l Z a0 hw [] a51 cs cd128 (2 : Int32) b128 Lb128 T264.heap n0 F267 hcs F280 F281 F282 F283 gs128) hZ27 w_51 w_50 (by decide) (by decide)) (g := (mkF m 107 #[iv p0, iv p1, iv z5, iv z11, iv z17, iv z24, rv a3, rv a39, rv a51, rv a147, .val (.long (48 : Int64)), .second, .val (.long (50 : Int64)), .second, .unset, .unset, .unset, .unset] [(.ref a51)])) rfl (by rw [hml]; rfl) (argsL := [(.ref a51)]) (rest := []) (lenOf own_pd16 rfl) rfl (by show 2 * 0 + _ ≤ _; exact own_b rfl) (hb hby at_107) (fun _ _ => ⟨rfl, e288, (own_b rfl : 16 + 0 ≤ _), (own_b rfl : 46 + 0 ≤ _)⟩)
  dsimp only [Pt.U, Pt.locs, Pt.cells, Pt.slots] at X289 l289 yy289 zz289 st289 hQ289
  obtain ⟨rfl, Nq289, eq289⟩ := hQ289
  obtain ⟨L289, X289, N289⟩ := own_absC (K := 16) (K' := 46) X289 l289 yy289 zz289 N288 Nq289
  have e289 : T289.heap = T264.heap := eq289
  refine own_go (B := (T289.setTop (mkF m 110 #[iv p0, iv p1, iv z5, iv z11, iv z17, iv z24, rv a3, rv a39, rv a51, rv a147, .val (.long (48 : Int64)), .second, .val (.long (50 : Int64)), .second, .unset, .unset, .unset, .unset] [(.long ((48 : Int64) + ((2 : Int64) * ((2 : Int32).toInt64))))]))) st289 ?_
  rw [show ((48 : Int64) + ((2 : Int64) * ((2 : Int32).toInt64))) = (52 : Int64) from by decide]
  refine own_go (B := (T289.setTop (mkF m 112 #[iv p0, iv p1, iv z5, iv z11, iv z17, iv z24, rv a3, rv a39, rv a51, rv a147, .val (.long (48 : Int64)), .second, .val (.long (50 : Int64)), .second, .val (.long (52 : Int64)), .second, .unset, .unset] []))) (fun t k => XS.lstore X289.here hx rfl (hb hby at_110) rfl (l' := #[iv p0, iv p1, iv z5, iv z11, iv z17, iv z24, rv a3, rv a39, rv a51, rv a147, .val (.long (48 : Int64)), .second, .val (.long (50 : Int64)), .second, .val (.long (52 : Int64)), .second, .unset, .unset]) rfl k) ?_
  refine own_go (B := (T289.setTop (mkF m 114 #[iv p0, iv p1, iv z5, iv z11, iv z17, iv z24, rv a3, rv a39, rv a51, rv a147, .val (.long (48 : Int64)), .second, .val (.long (50 : Int64)), .second, .val (.long (52 : Int64)), .second, .unset, .unset] [(.ref a147)]))) (fun t k => XS.aload X289.here hx rfl (hb hby at_112) rfl rfl k) ?_
  obtain ⟨_, _, ⟨T290, L290, k290, n290⟩, -, X290, ⟨Lc290, hQ290, l290, yy290, zz290⟩, st290⟩ := Jvm.LawKit.callS X289 hx (y := own_y18) ho27 (mvT hZ27 w_48) (mvT hZ27 w_49) (mvT hZ27 w_50) (mvT hZ27 w_51) (by decide) (backOf (W := 0) (own_wb l Z a0 hw [] a147 cs cd264 (3 : Int32) b264 Lb264 T264.heap n0 F267 hcs Ex264 gb264 gc264 gv264 gs264) hZ27 w_51 w_50 (by decide) (by decide)) (g := (mkF m 114 #[iv p0, iv p1, iv z5, iv z11, iv z17, iv z24, rv a3, rv a39, rv a51, rv a147, .val (.long (48 : Int64)), .second, .val (.long (50 : Int64)), .second, .val (.long (52 : Int64)), .second, .unset, .unset] [(.ref a147)])) rfl (by rw [hml]; rfl) (argsL := [(.ref a147)]) (rest := []) (lenOf own_pd16 rfl) rfl (by show 2 * 0 + _ ≤ _; exact own_b rfl) (hb hby at_114) (fun _ _ => ⟨rfl, e289, (own_b rfl : 16 + 0 ≤ _), (own_b rfl : 46 + 0 ≤ _)⟩)
  dsimp only [Pt.U, Pt.locs, Pt.cells, Pt.slots] at X290 l290 yy290 zz290 st290 hQ290
  obtain ⟨rfl, Nq290, eq290⟩ := hQ290
  obtain ⟨L290, X290, N290⟩ := own_absC (K := 16) (K' := 46) X290 l290 yy290 zz290 N289 Nq290
  have e290 : T290.heap = T264.heap := eq290
  refine own_go (B := (T290.setTop (mkF m 117 #[iv p0, iv p1, iv z5, iv z11, iv z17, iv z24, rv a3, rv a39, rv a51, rv a147, .val (.long (48 : Int64)), .second, .val (.long (50 : Int64)), .second, .val (.long (52 : Int64)), .second, .unset, .unset] [(.long ((48 : Int64) + ((2 : Int64) * ((3 : Int32).toInt64))))]))) st290 ?_
  rw [show ((48 : Int64) + ((2 : Int64) * ((3 : Int32).toInt64))) = (54 : Int64) from by decide]
  refine own_go (B := (T290.setTop (mkF m 119 #[iv p0, iv p1, iv z5, iv z11, iv z17, iv z24, rv a3, rv a39, rv a51, rv a147, .val (.long (48 : Int64)), .second, .val (.long (50 : Int64)), .second, .val (.long (52 : Int64)), .second, .val (.long (54 : Int64)), .second] []))) (fun t k => XS.lstore X290.here hx rfl (hb hby at_117) rfl (l' := #[iv p0, iv p1, iv z5, iv z11, iv z17, iv z24, rv a3, rv a39, rv a51, rv a147, .val (.long (48 : Int64)), .second, .val (.long (50 : Int64)), .second, .val (.long (52 : Int64)), .second, .val (.long (54 : Int64)), .second]) rfl k) ?_
  refine own_go (B := (T290.setTop (mkF m 121 #[iv p0, iv p1, iv z5, iv z11, iv z17, iv z24, rv a3, rv a39, rv a51, rv a147, .val (.long (48 : Int64)), .second, .val (.long (50 : Int64)), .second, .val (.long (52 : Int64)), .second, .val (.long (54 : Int64)), .second] [(.long (48 : Int64))]))) (fun t k => XS.lload X290.here hx rfl (hb hby at_119) rfl k) ?_
  refine own_go (B := (T290.setTop (mkF m 122 #[iv p0, iv p1, iv z5, iv z11, iv z17, iv z24, rv a3, rv a39, rv a51, rv a147, .val (.long (48 : Int64)), .second, .val (.long (50 : Int64)), .second, .val (.long (52 : Int64)), .second, .val (.long (54 : Int64)), .second] [(.long (0 : Int64)), (.long (48 : Int64))]))) (fun t k => XS.lconst X290.here hx rfl (hb hby at_121) k) ?_
  refine own_go (B := (T290.setTop (mkF m 123 #[iv p0, iv p1, iv z5, iv z11, iv z17, iv z24, rv a3, rv a39, rv a51, rv a147, .val (.long (48 : Int64)), .second, .val (.long (50 : Int64)), .second, .val (.long (52 : Int64)), .second, .val (.long (54 : Int64)), .second] [(.int (lcmpW (48 : Int64) (0 : Int64)))]))) (fun t k => XS.lcmp (x := (48 : Int64)) (y := (0 : Int64)) X290.here hx rfl (hb hby at_122) rfl k) ?_
  have hc123 : (0 : Int64) < (48 : Int64) := (by decide)
  refine own_lifN X290 hx (hb hby at_123) (pn := 126) rfl hc123 ?_
  refine own_go (B := (T290.setTop (mkF m 128 #[iv p0, iv p1, iv z5, iv z11, iv z17, iv z24, rv a3, rv a39, rv a51, rv a147, .val (.long (48 : Int64)), .second, .val (.long (50 : Int64)), .second, .val (.long (52 : Int64)), .second, .val (.long (54 : Int64)), .second] [(.long (50 : Int64))]))) (fun t k => XS.lload X290.here hx rfl (hb hby at_126) rfl k) ?_
  refine own_go (B := (T290.setTop (mkF m 130 #[iv p0, iv p1, iv z5, iv z11, iv z17, iv z24, rv a3, rv a39, rv a51, rv a147, .val (.long (48 : Int64)), .second, .val (.long (50 : Int64)), .second, .val (.long (52 : Int64)), .second, .val (.long (54 : Int64)), .second] [(.long (48 : Int64)), (.long (50 : Int64))]))) (fun t k => XS.lload X290.here hx rfl (hb hby at_128) rfl k) ?_
  have lc291 := X290.ldc2Long hx ho27 (v := (2 : Int64)) (mvT hZ27 w_64) (g := (mkF m 130 #[iv p0, iv p1, iv z5, iv z11, iv z17, iv z24, rv a3, rv a39, rv a51, rv a147, .val (.long (48 : Int64)), .second, .val (.long (50 : Int64)), .second, .val (.long (52 : Int64)), .second, .val (.long (54 : Int64)), .second] [(.long (48 : Int64)), (.long (50 : Int64))])) rfl (hb hby at_130)
  refine own_go (B := (T290.setTop (mkF m 133 #[iv p0, iv p1, iv z5, iv z11, iv z17, iv z24, rv a3, rv a39, rv a51, rv a147, .val (.long (48 : Int64)), .second, .val (.long (50 : Int64)), .second, .val (.long (52 : Int64)), .second, .val (.long (54 : Int64)), .second] [(.long (2 : Int64)), (.long (48 : Int64)), (.long (50 : Int64))]))) lc291 ?_
  refine own_go (B := (T290.setTop (mkF m 134 #[iv p0, iv p1, iv z5, iv z11, iv z17, iv z24, rv a3, rv a39, rv a51, rv a147, .val (.long (48 : Int64)), .second, .val (.long (50 : Int64)), .second, .val (.long (52 : Int64)), .second, .val (.long (54 : Int64)), .second] [(.long ((48 : Int64) + (2 : Int64))), (.long (50 : Int64))]))) (fun t k => XS.ladd (x := (48 : Int64)) (y := (2 : Int64)) X290.here hx rfl (hb hby at_133) rfl k) ?_
  rw [show ((48 : Int64) + (2 : Int64)) = (50 : Int64) from by decide]
  refine own_go (B := (T290.setTop (mkF m 135 #[iv p0, iv p1, iv z5, iv z11, iv z17, iv z24, rv a3, rv a39, rv a51, rv a147, .val (.long (48 : Int64)), .second, .val (.long (50 : Int64)), .second, .val (.long (52 : Int64)), .second, .val (.long (54 : Int64)), .second] [(.int (lcmpW (50 : Int64) (50 : Int64)))]))) (fun t k => XS.lcmp (x := (50 : Int64)) (y := (50 : Int64)) X290.here hx rfl (hb hby at_134) rfl k) ?_
  have hc135 : (50 : Int64) = (50 : Int64) := (by decide)
  refine own_lifN X290 hx (hb hby at_135) (pn := 138) rfl hc135 ?_
  refine own_go (B := (T290.setTop (mkF m 140 #[iv p0, iv p1, iv z5, iv z11, iv z17, iv z24, rv a3, rv a39, rv a51, rv a147, .val (.long (48 : Int64)), .second, .val (.long (50 : Int64)), .second, .val (.long (52 : Int64)), .second, .val (.long (54 : Int64)), .second] [(.long (52 : Int64))]))) (fun t k => XS.lload X290.here hx rfl (hb hby at_138) rfl k) ?_
  refine own_go (B := (T290.setTop (mkF m 142 #[iv p0, iv p1, iv z5, iv z11, iv z17, iv z24, rv a3, rv a39, rv a51, rv a147, .val (.long (48 : Int64)), .second, .val (.long (50 : Int64)), .second, .val (.long (52 : Int64)), .second, .val (.long (54 : Int64)), .second] [(.long (48 : Int64)), (.long (52 : Int64))]))) (fun t k => XS.lload X290.here hx rfl (hb hby at_140) rfl k) ?_
  have lc292 := X290.ldc2Long hx ho27 (v := (4 : Int64)) (mvT hZ27 w_65) (g := (mkF m 142 #[iv p0, iv p1, iv z5, iv z11, iv z17, iv z24, rv a3, rv a39, rv a51, rv a147, .val (.long (48 : Int64)), .second, .val (.long (50 : Int64)), .second, .val (.long (52 : Int64)), .second, .val (.long (54 : Int64)), .second] [(.long (48 : Int64)), (.long (52 : Int64))])) rfl (hb hby at_142)
  refine own_go (B := (T290.setTop (mkF m 145 #[iv p0, iv p1, iv z5, iv z11, iv z17, iv z24, rv a3, rv a39, rv a51, rv a147, .val (.long (48 : Int64)), .second, .val (.long (50 : Int64)), .second, .val (.long (52 : Int64)), .second, .val (.long (54 : Int64)), .second] [(.long (4 : Int64)), (.long (48 : Int64)), (.long (52 : Int64))]))) lc292 ?_
  refine own_go (B := (T290.setTop (mkF m 146 #[iv p0, iv p1, iv z5, iv z11, iv z17, iv z24, rv a3, rv a39, rv a51, rv a147, .val (.long (48 : Int64)), .second, .val (.long (50 : Int64)), .second, .val (.long (52 : Int64)), .second, .val (.long (54 : Int64)), .second] [(.long ((48 : Int64) + (4 : Int64))), (.long (52 : Int64))]))) (fun t k => XS.ladd (x := (48 : Int64)) (y := (4 : Int64)) X290.here hx rfl (hb hby at_145) rfl k) ?_
  rw [show ((48 : Int64) + (4 : Int64)) = (52 : Int64) from by decide]
  refine own_go (B := (T290.setTop (mkF m 147 #[iv p0, iv p1, iv z5, iv z11, iv z17, iv z24, rv a3, rv a39, rv a51, rv a147, .val (.long (48 : Int64)), .second, .val (.long (50 : Int64)), .second, .val (.long (52 : Int64)), .second, .val (.long (54 : Int64)), .second] [(.int (lcmpW (52 : Int64) (52 : Int64)))]))) (fun t k => XS.lcmp (x := (52 : Int64)) (y := (52 : Int64)) X290.here hx rfl (hb hby at_146) rfl k) ?_
  have hc147 : (52 : Int64) = (52 : Int64) := (by decide)
  refine own_lifN X290 hx (hb hby at_147) (pn := 150) rfl hc147 ?_
  refine own_go (B := (T290.setTop (mkF m 152 #[iv p0, iv p1, iv z5, iv z11, iv z17, iv z24, rv a3, rv a39, rv a51, rv a147, .val (.long (48 : Int64)), .second, .val (.long (50 : Int64)), .second, .val (.long (52 : Int64)), .second, .val (.long (54 : Int64)), .second] [(.long (54 : Int64))]))) (fun t k => XS.lload X290.here hx rfl (hb hby at_150) rfl k) ?_
  refine own_go (B := (T290.setTop (mkF m 154 #[iv p0, iv p1, iv z5, iv z11, iv z17, iv z24, rv a3, rv a39, rv a51, rv a147, .val (.long (48 : Int64)), .second, .val (.long (50 : Int64)), .second, .val (.long (52 : Int64)), .second, .val (.long (54 : Int64)), .second] [(.long (48 : Int64)), (.long (54 : Int64))]))) (fun t k => XS.lload X290.here hx rfl (hb hby at_152) rfl k) ?_
  have lc293 := X290.ldc2Long hx ho27 (v := (6 : Int64)) (mvT hZ27 w_66) (g := (mkF m 154 #[iv p0, iv p1, iv z5, iv z11, iv z17, iv z24, rv a3, rv a39, rv a51, rv a147, .val (.long (48 : Int64)), .second, .val (.long (50 : Int64)), .second, .val (.long (52 : Int64)), .second, .val (.long (54 : Int64)), .second] [(.long (48 : Int64)), (.long (54 : Int64))])) rfl (hb hby at_154)
  refine own_go (B := (T290.setTop (mkF m 157 #[iv p0, iv p1, iv z5, iv z11, iv z17, iv z24, rv a3, rv a39, rv a51, rv a147, .val (.long (48 : Int64)), .second, .val (.long (50 : Int64)), .second, .val (.long (52 : Int64)), .second, .val (.long (54 : Int64)), .second] [(.long (6 : Int64)), (.long (48 : Int64)), (.long (54 : Int64))]))) lc293 ?_
  refine own_go (B := (T290.setTop (mkF m 158 #[iv p0, iv p1, iv z5, iv z11, iv z17, iv z24, rv a3, rv a39, rv a51, rv a147, .val (.long (48 : Int64)), .second, .val (.long (50 : Int64)), .second, .val (.long (52 : Int64)), .second, .val (.long (54 : Int64)), .second] [(.long ((48 : Int64) + (6 : Int64))), (.long (54 : Int64))]))) (fun t k => XS.ladd (x := (48 : Int64)) (y := (6 : Int64)) X290.here hx rfl (hb hby at_157) rfl k) ?_
  rw [show ((48 : Int64) + (6 : Int64)) = (54 : Int64) from by decide]
  refine own_go (B := (T290.setTop (mkF m 159 #[iv p0, iv p1, iv z5, iv z11, iv z17, iv z24, rv a3, rv a39, rv a51, rv a147, .val (.long (48 : Int64)), .second, .val (.long (50 : Int64)), .second, .val (.long (52 : Int64)), .second, .val (.long (54 : Int64)), .second] [(.int (lcmpW (54 : Int64) (54 : Int64)))]))) (fun t k => XS.lcmp (x := (54 : Int64)) (y := (54 : Int64)) X290.here hx rfl (hb hby at_158) rfl k) ?_
  have hc159 : (54 : Int64) = (54 : Int64) := (by decide)
  refine own_lifN X290 hx (hb hby at_159) (pn := 162) rfl hc159 ?_
  refine own_go (B := (T290.setTop (mkF m 163 #[iv p0, iv p1, iv z5, iv z11, iv z17, iv z24, rv a3, rv a39, rv a51, rv a147, .val (.long (48 : Int64)), .second, .val (.long (50 : Int64)), .second, .val (.long (52 : Int64)), .second, .val (.long (54 : Int64)), .second] [(.int (1 : Int32))]))) (fun t k => own_iconst (v := (1 : Int32)) X290.here hx rfl (hb hby at_162) (by decide) k) ?_
  refine own_go (B := (T290.setTop (mkF m 167 #[iv p0, iv p1, iv z5, iv z11, iv z17, iv z24, rv a3, rv a39, rv a51, rv a147, .val (.long (48 : Int64)), .second, .val (.long (50 : Int64)), .second, .val (.long (52 : Int64)), .second, .val (.long (54 : Int64)), .second] [(.int (1 : Int32))]))) (fun t k => XS.goto X290.here hx rfl (pc0 := 163) (pc' := 167) rfl (hb hby at_163) (by decide) (by decide) k) ?_
  exact own_retWZ X290 hx hlk hS27 (by rw [e290]; exact F275) Bd.returns (hb hby at_167) (by decide) (own_b rfl) (own_b rfl) (Q := (own_law_Q Z p0 p1 cs h0 n0)) ⟨rfl, N290⟩

set_option maxRecDepth 65536 in
set_option maxHeartbeats 40000000 in
theorem own_comes {Post : Tables → Env → Array Value → State → Outcome → State → Prop} (hpost : ∀ tb e args s v u, (limb_1_1.after args s (.returned v) u = true ∧ limb_1_2.after args s (.returned v) u = true ∧ True) → ReturnedEndW s (.returned v) u (Jvm.fieldLocs frame_1_writes args s ++ Jvm.arrayLocs frame_1_arrays args s ++ Jvm.staticLocs frame_1_statics s) 40 1216 → Post tb e args s (.returned v) u) :
    ArmFor flags0 classFile x code maxLocals ret World_1 tables_1 room_1 Calls_1 rest_1 Pre_1 Post := by
  intro l hfl _ _ p e ha hc hk s m args below hf hA hF happ hP
  obtain ⟨hcalls, hrest, hpre⟩ := hP
  obtain ⟨-, -, -, hnamed, -, -, -, hat⟩ := (Spec.applies_iff hf).mp happ
  obtain ⟨hg, hn⟩ := and_e (Cond.before_iff.mp (show (Jvm.Cond.and given_1 narrow_1).before args s = true from hpre))
  obtain ⟨g0, r0⟩ := and_e hg
  obtain ⟨g1, r1⟩ := and_e r0
  obtain ⟨w0, w1, rfl⟩ : ∃ w0 w1 : Value, args = #[w0, w1] := by
    have hs : args.size = 2 := by simpa [Cond.value, given_1] using g0
    obtain ⟨L⟩ := args
    match L, hs with
    | [w0, w1], _ => exact ⟨w0, w1, rfl⟩
  have hw := fun d (hd : d ∈ tables_1) => atoms_spec (ws := Jvm.Cond.code x code maxLocals ret :: tables_1) hat d (List.mem_cons_of_mem _ hd)
  have hfit : Fit s := fun {y c} hc i hi => by
    obtain ⟨ha, rfl⟩ := Array.getElem?_eq_some_iff.mp hc
    have q := List.all_eq_true.mp ((Array.all_eq_true_iff_forall_mem.mp hF) _ (Array.getElem_mem ha)) i (List.mem_range.mpr hi)
    simpa [Array.getElem?_eq_getElem hi] using q
  obtain ⟨i0, e0⟩ := is_v g1
  obtain rfl : w0 = (.int i0) := Option.some.inj e0
  obtain ⟨i1, e1⟩ := is_v r1
  obtain rfl : w1 = (.int i1) := Option.some.inj e1
  have w_2 := hw _ (List.mem_of_getElem? (l := tables_1) (i := 2) rfl)
  have w_15 := hw _ (List.mem_of_getElem? (l := tables_1) (i := 15) rfl)
  have w_16 := hw _ (List.mem_of_getElem? (l := tables_1) (i := 16) rfl)
  obtain ⟨hsets, hown0⟩ := atoms_of _ (rest_1_c_eq ▸ (show rest_1_c.before _ s = true from hrest))
  have hs0 := hsets _ (List.mem_of_getElem? (i := 0) rfl)
  have hs1 := hsets _ (List.mem_of_getElem? (i := 1) rfl)
  have hs2 := hsets _ (List.mem_of_getElem? (i := 2) rfl)
  have hs10 := hsets _ (List.mem_of_getElem? (i := 10) rfl)
  have hs11 := hsets _ (List.mem_of_getElem? (i := 11) rfl)
  have hs12 := hsets _ (List.mem_of_getElem? (i := 12) rfl)
  have hs13 := hsets _ (List.mem_of_getElem? (i := 13) rfl)
  have hs14 := hsets _ (List.mem_of_getElem? (i := 14) rfl)
  have hs15 := hsets _ (List.mem_of_getElem? (i := 15) rfl)
  have hs16 := hsets _ (List.mem_of_getElem? (i := 16) rfl)
  have hs17 := hsets _ (List.mem_of_getElem? (i := 17) rfl)
  have hs18 := hsets _ (List.mem_of_getElem? (i := 18) rfl)
  obtain ⟨cs, evc⟩ := is_v (Cond.before_iff.mp hs1)
  have hcS : Sta s s.heap "java/lang/String" "COMPACT_STRINGS" "Z" (.int cs) := Sta.start evc (Or.inl hs0)
  have hcs : ¬ cs = (0 : Int32) := by
    rintro rfl
    have q := Cond.before_iff.mp hs2
    simp [Jvm.Cond.value, evc, Term.int_eval] at q
  have hSa : Sta s s.heap "java/lang/StringUTF16" "$assertionsDisabled" "Z" (.int (1 : Int32)) := Sta.start (own_eqint (Cond.before_iff.mp hs12)) (Or.inl hs11)
  have hSh : Sta s s.heap "java/lang/StringUTF16" "HI_BYTE_SHIFT" "I" (.int (0 : Int32)) := Sta.start (own_eqint (Cond.before_iff.mp hs15)) (Or.inl hs14)
  have hSl : Sta s s.heap "java/lang/StringUTF16" "LO_BYTE_SHIFT" "I" (.int (8 : Int32)) := Sta.start (own_eqint (Cond.before_iff.mp hs18)) (Or.inl hs17)
  have hCH : CHv s own_EL s.vm s.heap := CHv.start (own_EW w_15) (fun p hp => hcalls.1 p hp) hs2 w_16 w_2
  obtain ⟨n, o, h1, h2, h3, _, L, rfl, ⟨rfl, N⟩, hq⟩ := own_law l s _ hw tables_1 i0 i1 cs s.heap s.heap.size (Nat.le_refl _) hcS hcs hSa hSh hSl p e ha hc hk s m _ below hf ((Spec.applies_iff_loose hf).mp happ).1 ⟨rfl, State.Warmed39.refl s, rfl, hCH⟩ trivial
  refine ⟨n, _, h1, h2, h3, hpost _ _ _ _ _ _ ⟨Cond.after_iff.mpr rfl, Cond.after_iff.mpr (eq_i res_at (Term.int_eval (1)) rfl), trivial⟩ ⟨hq.1, hq.2.1, hq.2.2.1, (hq.2.2.2.sift fun y hy => Or.inr (N y hy)).mono (by decide) (by decide)⟩⟩
theorem main_1_1 : Claimed_1_1 := own_comes fun _ _ _ _ _ _ h hF => ⟨h.1, hF⟩
theorem main_1_2 : Claimed_1_2 := own_comes fun _ _ _ _ _ _ h hF => ⟨h.2.1, hF⟩
end Jvm.Pilot.@@N@@
namespace Jvm.Pilot.@@N@@
open Jvm Jvm.ClassFile Sem Op Lib Jvm.Free Jvm.Stand Jvm.Pilot.@@N@@.Jvm.D
/-! MADE BY PROGRAM (witnessworld.py) out of the Statement's table words and the real class files: 21 classes; the members and pool entries that the words name. The judged class is class 1, her method 1. -/
namespace start1
open Jvm.ClassFile
def u (s : String) : CpInfo := .utf8 (stringToUtf16 s)
/-- a pool by its gaps: so many unusable entries, then the entry; so many at the end -/
def gap : Nat → List CpInfo → List CpInfo
  | 0, r => r
  | n + 1, r => .unusable :: gap n r
def poolList (es : List (Nat × CpInfo)) (last : Nat) : List CpInfo := es.foldr (fun e r => gap e.1 (e.2 :: r)) (gap last [])
def pool (es : List (Nat × CpInfo)) (last : Nat) : Array CpInfo := ⟨poolList es last⟩
def fileOf (pool : Array CpInfo) (this : Nat) (attrs : Array Attribute := #[]) (ms : Array MethodInfo := #[]) (fl : Nat := 33) (sup : Nat := 0) (ifs : Array Nat := #[]) (fds : Array FieldInfo := #[]) : ClassFile where
  minorVersion := 0
  majorVersion := 65
  constantPool := pool
  accessFlags := fl
  thisClass := this
  superClass := sup
  interfaces := ifs
  fields := fds
  methods := ms
  attributes := attrs
def plain (name : String) (sup : Option ClassId) : Class where
  name := name
  kind := .ordinary
  loader := none
  accessFlags := 33
  super := sup
  interfaces := #[]
  cf := none
  fields := #[]
  methods := #[]
  instanceTypes := #[]
  staticTypes := #[]
  resolved := #[]
  callSites := []
  init := .initialized
  statics := none
  mirror := none

def pool0 : Array CpInfo := pool [(5, u "<init>"), (0, u "()V"), (1, .class_ 10), (1, u "java/lang/Object")] 113

def k0c0 : Code := { maxStack := 0, maxLocals := 1, code := object_method_1_code, exceptionTable := #[], attributes := #[] }
def k0m0 : Method := { name := "<init>", desc := "()V", sig := { parameters := [], returnType := none }, accessFlags := 1, code := some k0c0 }
/-- java/lang/Object -/
def k0 : Class := { plain "java/lang/Object" none with
  accessFlags := 33
  interfaces := #[]
  cf := some (fileOf pool0 8 #[] #[{ accessFlags := 1, nameIndex := 5, descriptorIndex := 6, attributes := #[] }] 33 0 #[] #[])
  fields := #[]
  methods := #[k0m0]
  instanceTypes := #[]
  staticTypes := #[]
  resolved := Array.replicate 124 none
  statics := none }

def pool1 : Array CpInfo := pool [(2, .class_ 4), (1, u "java/lang/Object"), (0, u "<init>"), (0, u "()V"), (0, .integer 65535), (0, .class_ 9), (0, u "java/lang/String"), (0, .methodref 8 11), (0, .nameAndType 5 12), (0, u "([C)V"), (0, .methodref 8 14), (0, .nameAndType 15 16), (0, u "valueOf"), (0, u "(C)Ljava/lang/String;"), (0, .methodref 18 19), (0, .class_ 20), (0, .nameAndType 21 22), (0, u "com/example/uni_lock/unilock/Request"), (0, u "wordBytes"), (0, u "(Ljava/lang/String;)J"), (0, .long 2), (1, .long 4), (1, .long 6), (1, .class_ 30), (0, u "com/example/uni_lock/unilock/RequestWordBytesPinLaw"), (2, u "law"), (0, u "(II)Z")] 3

def k1m0 : Method := { name := "<init>", desc := "()V", sig := { parameters := [], returnType := none }, accessFlags := 1, code := none }
def k1c1 : Code := { maxStack := 6, maxLocals := 18, code := code, exceptionTable := #[], attributes := #[] }
def k1m1 : Method := { name := "law", desc := "(II)Z", sig := { parameters := [.int, .int], returnType := some .boolean }, accessFlags := 9, code := some k1c1 }
/-- com/example/uni_lock/unilock/RequestWordBytesPinLaw -/
def k1 : Class := { plain "com/example/uni_lock/unilock/RequestWordBytesPinLaw" (some 0) with
  accessFlags := 49
  interfaces := #[]
  cf := some (fileOf pool1 29 #[] #[{ accessFlags := 1, nameIndex := 5, descriptorIndex := 6, attributes := #[] }, { accessFlags := 9, nameIndex := 33, descriptorIndex := 34, attributes := #[] }] 49 2 #[] #[])
  fields := #[]
  methods := #[k1m0, k1m1]
  instanceTypes := #[]
  staticTypes := #[]
  resolved := Array.replicate 38 none
  statics := none }

def pool2 : Array CpInfo := pool [(1, .class_ 2), (0, u "java/io/Serializable"), (0, .class_ 4), (0, u "java/lang/Object")] 2

/-- java/io/Serializable -/
def k2 : Class := { plain "java/io/Serializable" (some 0) with
  accessFlags := 1537
  interfaces := #[]
  cf := some (fileOf pool2 1 #[] #[] 1537 3 #[] #[])
  fields := #[]
  methods := #[]
  instanceTypes := #[]
  staticTypes := #[]
  resolved := Array.replicate 7 none
  statics := none }

def pool3 : Array CpInfo := pool [(1, .class_ 2), (0, u "java/lang/Comparable"), (0, .class_ 4), (0, u "java/lang/Object")] 7

/-- java/lang/Comparable -/
def k3 : Class := { plain "java/lang/Comparable" (some 0) with
  accessFlags := 1537
  interfaces := #[]
  cf := some (fileOf pool3 1 #[] #[] 1537 3 #[] #[])
  fields := #[]
  methods := #[]
  instanceTypes := #[]
  staticTypes := #[]
  resolved := Array.replicate 12 none
  statics := none }

def pool4 : Array CpInfo := pool [(2, .class_ 4), (1, u "java/lang/CharSequence"), (42, .class_ 48), (0, u "java/lang/CharSequence$1CodePointIterator"), (10, .class_ 60), (0, u "java/lang/CharSequence$1CharIterator"), (5, .class_ 67), (0, u "java/lang/Object")] 63

/-- java/lang/CharSequence -/
def k4 : Class := { plain "java/lang/CharSequence" (some 0) with
  accessFlags := 1537
  interfaces := #[]
  cf := some (fileOf pool4 2 #[.nestMembers #[47, 59]] #[] 1537 66 #[] #[])
  fields := #[]
  methods := #[]
  instanceTypes := #[]
  staticTypes := #[]
  resolved := Array.replicate 131 none
  statics := none }

def pool5 : Array CpInfo := pool [(1, .class_ 2), (0, u "java/lang/constant/Constable"), (0, .class_ 4), (0, u "java/lang/Object")] 6

/-- java/lang/constant/Constable -/
def k5 : Class := { plain "java/lang/constant/Constable" (some 0) with
  accessFlags := 1537
  interfaces := #[]
  cf := some (fileOf pool5 1 #[] #[] 1537 3 #[] #[])
  fields := #[]
  methods := #[]
  instanceTypes := #[]
  staticTypes := #[]
  resolved := Array.replicate 11 none
  statics := none }

def pool6 : Array CpInfo := pool [(1, .class_ 2), (0, u "java/lang/constant/ConstantDesc"), (0, .class_ 4), (0, u "java/lang/Object")] 32

/-- java/lang/constant/ConstantDesc -/
def k6 : Class := { plain "java/lang/constant/ConstantDesc" (some 0) with
  accessFlags := 1537
  interfaces := #[]
  cf := some (fileOf pool6 1 #[] #[] 1537 3 #[] #[])
  fields := #[]
  methods := #[]
  instanceTypes := #[]
  staticTypes := #[]
  resolved := Array.replicate 37 none
  statics := none }

def pool7 : Array CpInfo := pool [(1, .methodref 2 3), (0, .class_ 4), (0, .nameAndType 5 6), (0, u "java/lang/Object"), (0, u "<init>"), (0, u "()V"), (0, .string 8), (0, u ""), (0, .fieldref 10 11), (0, .class_ 12), (0, .nameAndType 13 14), (0, u "java/lang/String"), (0, u "value"), (0, u "[B"), (0, .fieldref 10 16), (0, .nameAndType 17 18), (0, u "coder"), (0, u "B"), (2, u "hash"), (0, u "I"), (2, u "hashIsZero"), (0, u "Z"), (0, .methodref 10 28), (0, .nameAndType 5 29), (0, u "([CIILjava/lang/Void;)V"), (8, .fieldref 10 39), (0, .nameAndType 40 26), (0, u "COMPACT_STRINGS"), (1, .class_ 44), (1, u "java/lang/StringUTF16"), (0, u "compress"), (1, .methodref 42 48), (0, .nameAndType 49 50), (0, u "coderFromArrayLen"), (0, u "([BI)B"), (2, u "toBytes"), (53, .class_ 109), (1, u "java/lang/StringLatin1"), (67, .methodref 42 178), (0, .nameAndType 45 179), (0, u "([CII)[B"), (29, .methodref 10 210), (0, .nameAndType 5 211), (0, u "([BB)V"), (122, u "()I"), (0, .methodref 10 336), (0, .nameAndType 17 337), (0, u "()B"), (31, u "(C)Z"), (137, u "length"), (67, .class_ 576), (0, u "java/lang/CharSequence"), (22, u "CASE_INSENSITIVE_ORDER"), (0, u "Ljava/util/Comparator;"), (181, u "valueOf"), (0, u "(C)Ljava/lang/String;"), (226, u "([C)V"), (4, .methodref 107 1016), (0, .nameAndType 1017 369), (0, u "canEncode"), (0, .methodref 107 1019), (0, .nameAndType 53 1020), (0, u "(C)[B"), (0, .methodref 42 1019), (79, u "serialPersistentFields"), (0, u "[Ljava/io/ObjectStreamField;"), (0, .class_ 1104), (0, u "java/lang/String$CaseInsensitiveComparator"), (1, .class_ 1107), (0, u "java/io/Serializable"), (0, .class_ 1109), (0, u "java/lang/Comparable"), (0, .class_ 1111), (0, u "java/lang/constant/Constable"), (0, .class_ 1113), (0, u "java/lang/constant/ConstantDesc"), (2, u "serialVersionUID"), (0, u "J"), (3, u "REPL"), (0, u "C"), (2, u "LATIN1"), (1, u "UTF16")] 323

def k7m0 : Method := { name := "<init>", desc := "()V", sig := { parameters := [], returnType := none }, accessFlags := 1, code := none }
def k7c1 : Code := { maxStack := 5, maxLocals := 2, code := jdk_42_method_3_code, exceptionTable := #[], attributes := #[] }
def k7m1 : Method := { name := "<init>", desc := "([C)V", sig := { parameters := [(.array .char)], returnType := none }, accessFlags := 1, code := some k7c1 }
def k7c2 : Code := { maxStack := 2, maxLocals := 1, code := jdk_42_method_54_code, exceptionTable := #[], attributes := #[] }
def k7m2 : Method := { name := "length", desc := "()I", sig := { parameters := [], returnType := some .int }, accessFlags := 1, code := some k7c2 }
def k7c3 : Code := { maxStack := 4, maxLocals := 1, code := jdk_42_method_139_code, exceptionTable := #[], attributes := #[] }
def k7m3 : Method := { name := "valueOf", desc := "(C)Ljava/lang/String;", sig := { parameters := [.char], returnType := some (.object "java/lang/String") }, accessFlags := 9, code := some k7c3 }
def k7c4 : Code := { maxStack := 4, maxLocals := 6, code := jdk_42_method_149_code, exceptionTable := #[], attributes := #[] }
def k7m4 : Method := { name := "<init>", desc := "([CIILjava/lang/Void;)V", sig := { parameters := [(.array .char), .int, .int, (.object "java/lang/Void")], returnType := none }, accessFlags := 2, code := some k7c4 }
def k7c5 : Code := { maxStack := 2, maxLocals := 3, code := jdk_42_method_151_code, exceptionTable := #[], attributes := #[] }
def k7m5 : Method := { name := "<init>", desc := "([BB)V", sig := { parameters := [(.array .byte), .byte], returnType := none }, accessFlags := 0, code := some k7c5 }
def k7c6 : Code := { maxStack := 1, maxLocals := 1, code := jdk_42_method_152_code, exceptionTable := #[], attributes := #[] }
def k7m6 : Method := { name := "coder", desc := "()B", sig := { parameters := [], returnType := some .byte }, accessFlags := 0, code := some k7c6 }
/-- java/lang/String -/
def k7 : Class := { plain "java/lang/String" (some 0) with
  accessFlags := 49
  interfaces := #[2, 3, 4, 5, 6]
  cf := some (fileOf pool7 10 #[.nestMembers #[1103]] #[{ accessFlags := 1, nameIndex := 5, descriptorIndex := 6, attributes := #[] }, { accessFlags := 1, nameIndex := 5, descriptorIndex := 1010, attributes := #[] }, { accessFlags := 1, nameIndex := 507, descriptorIndex := 334, attributes := #[] }, { accessFlags := 9, nameIndex := 782, descriptorIndex := 783, attributes := #[] }, { accessFlags := 2, nameIndex := 5, descriptorIndex := 29, attributes := #[] }, { accessFlags := 0, nameIndex := 5, descriptorIndex := 211, attributes := #[] }, { accessFlags := 0, nameIndex := 17, descriptorIndex := 337, attributes := #[] }] 49 2 #[1106, 1108, 575, 1110, 1112] #[{ accessFlags := 18, nameIndex := 13, descriptorIndex := 14, attributes := #[] }, { accessFlags := 18, nameIndex := 17, descriptorIndex := 18, attributes := #[] }, { accessFlags := 2, nameIndex := 21, descriptorIndex := 22, attributes := #[] }, { accessFlags := 2, nameIndex := 25, descriptorIndex := 26, attributes := #[] }, { accessFlags := 26, nameIndex := 1116, descriptorIndex := 1117, attributes := #[] }, { accessFlags := 24, nameIndex := 40, descriptorIndex := 26, attributes := #[] }, { accessFlags := 26, nameIndex := 1101, descriptorIndex := 1102, attributes := #[] }, { accessFlags := 26, nameIndex := 1121, descriptorIndex := 1122, attributes := #[] }, { accessFlags := 25, nameIndex := 599, descriptorIndex := 600, attributes := #[] }, { accessFlags := 24, nameIndex := 1125, descriptorIndex := 18, attributes := #[] }, { accessFlags := 24, nameIndex := 1127, descriptorIndex := 18, attributes := #[] }])
  fields := #[{ name := "value", type := (.array .byte), accessFlags := 18, slot := 0, constantValue := 0 }, { name := "coder", type := .byte, accessFlags := 18, slot := 1, constantValue := 0 }, { name := "hash", type := .int, accessFlags := 2, slot := 2, constantValue := 0 }, { name := "hashIsZero", type := .boolean, accessFlags := 2, slot := 3, constantValue := 0 }, { name := "serialVersionUID", type := .long, accessFlags := 26, slot := 0, constantValue := 0 }, { name := "COMPACT_STRINGS", type := .boolean, accessFlags := 24, slot := 1, constantValue := 0 }, { name := "serialPersistentFields", type := (.array (.object "java/io/ObjectStreamField")), accessFlags := 26, slot := 2, constantValue := 0 }, { name := "REPL", type := .char, accessFlags := 26, slot := 3, constantValue := 0 }, { name := "CASE_INSENSITIVE_ORDER", type := (.object "java/util/Comparator"), accessFlags := 25, slot := 4, constantValue := 0 }, { name := "LATIN1", type := .byte, accessFlags := 24, slot := 5, constantValue := 0 }, { name := "UTF16", type := .byte, accessFlags := 24, slot := 6, constantValue := 0 }]
  methods := #[k7m0, k7m1, k7m2, k7m3, k7m4, k7m5, k7m6]
  instanceTypes := #[(.array .byte), .byte, .int, .boolean]
  staticTypes := #[.long, .boolean, (.array (.object "java/io/ObjectStreamField")), .char, (.object "java/util/Comparator"), .byte, .byte]
  resolved := Array.replicate 1451 none
  statics := some 0 }

def pool8 : Array CpInfo := pool [(4, .class_ 6), (1, u "java/lang/Object"), (0, u "<init>"), (0, u "()V"), (5, .class_ 16), (1, u "java/lang/StringLatin1"), (73, u "canEncode"), (14, u "(C)Z"), (15, u "$assertionsDisabled"), (0, u "Z"), (98, .class_ 223), (1, u "java/lang/StringLatin1$LinesSpliterator"), (156, u "toBytes"), (1, u "(C)[B"), (7, .class_ 391), (0, u "java/lang/StringLatin1$CharsSpliterator")] 3

def k8m0 : Method := { name := "<init>", desc := "()V", sig := { parameters := [], returnType := none }, accessFlags := 0, code := none }
def k8c1 : Code := { maxStack := 2, maxLocals := 1, code := jdk_43_method_3_code, exceptionTable := #[], attributes := #[] }
def k8m1 : Method := { name := "canEncode", desc := "(C)Z", sig := { parameters := [.char], returnType := some .boolean }, accessFlags := 9, code := some k8c1 }
def k8c2 : Code := { maxStack := 4, maxLocals := 1, code := jdk_43_method_46_code, exceptionTable := #[], attributes := #[] }
def k8m2 : Method := { name := "toBytes", desc := "(C)[B", sig := { parameters := [.char], returnType := some (.array .byte) }, accessFlags := 9, code := some k8c2 }
/-- java/lang/StringLatin1 -/
def k8 : Class := { plain "java/lang/StringLatin1" (some 0) with
  accessFlags := 48
  interfaces := #[]
  cf := some (fileOf pool8 14 #[.nestMembers #[390, 221]] #[{ accessFlags := 0, nameIndex := 7, descriptorIndex := 8, attributes := #[] }, { accessFlags := 9, nameIndex := 90, descriptorIndex := 105, attributes := #[] }, { accessFlags := 9, nameIndex := 380, descriptorIndex := 382, attributes := #[] }] 48 4 #[] #[{ accessFlags := 4120, nameIndex := 121, descriptorIndex := 122, attributes := #[] }])
  fields := #[{ name := "$assertionsDisabled", type := .boolean, accessFlags := 4120, slot := 0, constantValue := 0 }]
  methods := #[k8m0, k8m1, k8m2]
  instanceTypes := #[]
  staticTypes := #[.boolean]
  resolved := Array.replicate 395 none
  statics := none }

def pool9 : Array CpInfo := pool [(6, .class_ 8), (1, u "java/lang/Object"), (0, u "<init>"), (0, u "()V"), (0, .methodref 12 13), (0, .class_ 14), (0, .nameAndType 15 16), (0, u "java/lang/StringUTF16"), (0, u "newBytesLength"), (0, u "(I)I"), (3, .integer 1073741823), (23, .fieldref 12 45), (0, .nameAndType 46 47), (0, u "$assertionsDisabled"), (0, u "Z"), (11, .fieldref 12 60), (0, .nameAndType 61 62), (0, u "HI_BYTE_SHIFT"), (0, u "I"), (0, .fieldref 12 64), (0, .nameAndType 65 62), (0, u "LO_BYTE_SHIFT"), (5, .methodref 12 72), (0, .nameAndType 73 74), (0, u "getChar"), (0, u "([BI)C"), (32, .methodref 12 108), (0, .nameAndType 109 110), (0, u "newBytesFor"), (0, u "(I)[B"), (0, .methodref 12 112), (0, .nameAndType 113 114), (0, u "putChar"), (0, u "([BII)V"), (0, .methodref 12 116), (0, .nameAndType 117 118), (0, u "compress"), (0, u "([CI[BII)I"), (0, .methodref 12 120), (0, .nameAndType 121 122), (0, u "toBytes"), (0, u "([CII)[B"), (138, u "coderFromArrayLen"), (0, u "([BI)B"), (106, .class_ 371), (1, u "java/lang/StringUTF16$LinesSpliterator"), (58, u "MAX_LENGTH"), (44, u "(C)[B"), (151, .class_ 628), (0, u "java/lang/StringUTF16$CodePointsSpliterator"), (0, .class_ 630), (0, u "java/lang/StringUTF16$CharsSpliterator")] 4

def k9m0 : Method := { name := "<init>", desc := "()V", sig := { parameters := [], returnType := none }, accessFlags := 0, code := none }
def k9c1 : Code := { maxStack := 1, maxLocals := 1, code := jdk_52_method_2_code, exceptionTable := #[], attributes := #[] }
def k9m1 : Method := { name := "newBytesFor", desc := "(I)[B", sig := { parameters := [.int], returnType := some (.array .byte) }, accessFlags := 9, code := some k9c1 }
def k9c2 : Code := { maxStack := 4, maxLocals := 1, code := jdk_52_method_3_code, exceptionTable := #[], attributes := #[] }
def k9m2 : Method := { name := "newBytesLength", desc := "(I)I", sig := { parameters := [.int], returnType := some .int }, accessFlags := 9, code := some k9c2 }
def k9c3 : Code := { maxStack := 4, maxLocals := 3, code := jdk_52_method_4_code, exceptionTable := #[], attributes := #[] }
def k9m3 : Method := { name := "putChar", desc := "([BII)V", sig := { parameters := [(.array .byte), .int, .int], returnType := none }, accessFlags := 8, code := some k9c3 }
def k9c4 : Code := { maxStack := 3, maxLocals := 2, code := jdk_52_method_5_code, exceptionTable := #[], attributes := #[] }
def k9m4 : Method := { name := "getChar", desc := "([BI)C", sig := { parameters := [(.array .byte), .int], returnType := some .char }, accessFlags := 8, code := some k9c4 }
def k9c5 : Code := { maxStack := 4, maxLocals := 5, code := jdk_52_method_14_code, exceptionTable := #[], attributes := #[] }
def k9m5 : Method := { name := "toBytes", desc := "([CII)[B", sig := { parameters := [(.array .char), .int, .int], returnType := some (.array .byte) }, accessFlags := 9, code := some k9c5 }
def k9c6 : Code := { maxStack := 2, maxLocals := 2, code := jdk_52_method_15_code, exceptionTable := #[], attributes := #[] }
def k9m6 : Method := { name := "coderFromArrayLen", desc := "([BI)B", sig := { parameters := [(.array .byte), .int], returnType := some .byte }, accessFlags := 8, code := some k9c6 }
def k9c7 : Code := { maxStack := 5, maxLocals := 6, code := jdk_52_method_16_code, exceptionTable := #[], attributes := #[] }
def k9m7 : Method := { name := "compress", desc := "([CII)[B", sig := { parameters := [(.array .char), .int, .int], returnType := some (.array .byte) }, accessFlags := 9, code := some k9c7 }
def k9c8 : Code := { maxStack := 3, maxLocals := 7, code := jdk_52_method_21_code, exceptionTable := #[], attributes := #[] }
def k9m8 : Method := { name := "compress", desc := "([CI[BII)I", sig := { parameters := [(.array .char), .int, (.array .byte), .int, .int], returnType := some .int }, accessFlags := 9, code := some k9c8 }
def k9c9 : Code := { maxStack := 3, maxLocals := 2, code := jdk_52_method_24_code, exceptionTable := #[], attributes := #[] }
def k9m9 : Method := { name := "toBytes", desc := "(C)[B", sig := { parameters := [.char], returnType := some (.array .byte) }, accessFlags := 9, code := some k9c9 }
/-- java/lang/StringUTF16 -/
def k9 : Class := { plain "java/lang/StringUTF16" (some 0) with
  accessFlags := 48
  interfaces := #[]
  cf := some (fileOf pool9 12 #[.nestMembers #[627, 629, 369]] #[{ accessFlags := 0, nameIndex := 9, descriptorIndex := 10, attributes := #[] }, { accessFlags := 9, nameIndex := 109, descriptorIndex := 110, attributes := #[] }, { accessFlags := 9, nameIndex := 15, descriptorIndex := 16, attributes := #[] }, { accessFlags := 8, nameIndex := 113, descriptorIndex := 114, attributes := #[] }, { accessFlags := 8, nameIndex := 73, descriptorIndex := 74, attributes := #[] }, { accessFlags := 9, nameIndex := 121, descriptorIndex := 122, attributes := #[] }, { accessFlags := 8, nameIndex := 261, descriptorIndex := 262, attributes := #[] }, { accessFlags := 9, nameIndex := 117, descriptorIndex := 122, attributes := #[] }, { accessFlags := 9, nameIndex := 117, descriptorIndex := 118, attributes := #[] }, { accessFlags := 9, nameIndex := 121, descriptorIndex := 475, attributes := #[] }] 48 6 #[] #[{ accessFlags := 26, nameIndex := 61, descriptorIndex := 62, attributes := #[] }, { accessFlags := 26, nameIndex := 65, descriptorIndex := 62, attributes := #[] }, { accessFlags := 24, nameIndex := 430, descriptorIndex := 62, attributes := #[] }, { accessFlags := 4120, nameIndex := 46, descriptorIndex := 47, attributes := #[] }])
  fields := #[{ name := "HI_BYTE_SHIFT", type := .int, accessFlags := 26, slot := 0, constantValue := 0 }, { name := "LO_BYTE_SHIFT", type := .int, accessFlags := 26, slot := 1, constantValue := 0 }, { name := "MAX_LENGTH", type := .int, accessFlags := 24, slot := 2, constantValue := 0 }, { name := "$assertionsDisabled", type := .boolean, accessFlags := 4120, slot := 3, constantValue := 0 }]
  methods := #[k9m0, k9m1, k9m2, k9m3, k9m4, k9m5, k9m6, k9m7, k9m8, k9m9]
  instanceTypes := #[]
  staticTypes := #[.int, .int, .int, .boolean]
  resolved := Array.replicate 635 none
  statics := some 1 }

def pool10 : Array CpInfo := pool [(2, .class_ 4), (1, u "java/lang/Object"), (0, u "<init>"), (0, u "()V"), (0, .class_ 8), (0, u "java/lang/Record")] 13

def k10m0 : Method := { name := "<init>", desc := "()V", sig := { parameters := [], returnType := none }, accessFlags := 4, code := none }
/-- java/lang/Record -/
def k10 : Class := { plain "java/lang/Record" (some 0) with
  accessFlags := 1057
  interfaces := #[]
  cf := some (fileOf pool10 7 #[] #[{ accessFlags := 4, nameIndex := 5, descriptorIndex := 6, attributes := #[] }] 1057 2 #[] #[])
  fields := #[]
  methods := #[k10m0]
  instanceTypes := #[]
  staticTypes := #[]
  resolved := Array.replicate 22 none
  statics := none }

def pool11 : Array CpInfo := pool [(2, .class_ 4), (1, u "java/lang/Record"), (3, .class_ 10), (1, u "com/example/uni_lock/unilock/Request"), (0, u "words"), (0, u "Ljava/util/List;"), (2, u "refusal"), (0, u "Ljava/lang/String;"), (9, .long 48), (1, .long 2), (1, .methodref 31 32), (0, .class_ 33), (0, .nameAndType 34 35), (0, u "java/lang/String"), (0, u "length"), (0, u "()I"), (18, u "wordBytes"), (0, u "(Ljava/lang/String;)J"), (14, u "REQUEST_BYTES"), (0, u "J"), (1, u "WORD_BYTES")] 35

def k11c0 : Code := { maxStack := 6, maxLocals := 1, code := prog_13_method_4_code, exceptionTable := #[], attributes := #[] }
def k11m0 : Method := { name := "wordBytes", desc := "(Ljava/lang/String;)J", sig := { parameters := [(.object "java/lang/String")], returnType := some .long }, accessFlags := 8, code := some k11c0 }
/-- com/example/uni_lock/unilock/Request -/
def k11 : Class := { plain "com/example/uni_lock/unilock/Request" (some 10) with
  accessFlags := 48
  interfaces := #[]
  cf := some (fileOf pool11 8 #[] #[{ accessFlags := 8, nameIndex := 54, descriptorIndex := 55, attributes := #[] }] 48 2 #[] #[{ accessFlags := 18, nameIndex := 11, descriptorIndex := 12, attributes := #[] }, { accessFlags := 18, nameIndex := 15, descriptorIndex := 16, attributes := #[] }, { accessFlags := 26, nameIndex := 70, descriptorIndex := 71, attributes := #[] }, { accessFlags := 26, nameIndex := 73, descriptorIndex := 71, attributes := #[] }])
  fields := #[{ name := "words", type := (.object "java/util/List"), accessFlags := 18, slot := 0, constantValue := 0 }, { name := "refusal", type := (.object "java/lang/String"), accessFlags := 18, slot := 1, constantValue := 0 }, { name := "REQUEST_BYTES", type := .long, accessFlags := 26, slot := 0, constantValue := 0 }, { name := "WORD_BYTES", type := .long, accessFlags := 26, slot := 1, constantValue := 0 }]
  methods := #[k11m0]
  instanceTypes := #[(.object "java/util/List"), (.object "java/lang/String")]
  staticTypes := #[.long, .long]
  resolved := Array.replicate 109 none
  statics := none }

def pool12 : Array CpInfo := pool [(2, .class_ 4), (1, u "java/lang/Object"), (0, u "<init>"), (0, u "()V"), (17, .class_ 26), (1, u "jdk/internal/util/Preconditions"), (28, .class_ 56), (0, u "jdk/internal/util/Preconditions$4"), (57, .class_ 115), (0, u "jdk/internal/util/Preconditions$1"), (7, u "SIOOBE_FORMATTER"), (0, u "Ljava/util/function/BiFunction;"), (0, .class_ 126), (0, u "jdk/internal/util/Preconditions$2"), (3, u "AIOOBE_FORMATTER"), (0, .class_ 132), (0, u "jdk/internal/util/Preconditions$3"), (3, u "IOOBE_FORMATTER")] 57

def k12m0 : Method := { name := "<init>", desc := "()V", sig := { parameters := [], returnType := none }, accessFlags := 1, code := none }
/-- jdk/internal/util/Preconditions -/
def k12 : Class := { plain "jdk/internal/util/Preconditions" (some 0) with
  accessFlags := 33
  interfaces := #[]
  cf := some (fileOf pool12 24 #[.nestMembers #[55, 131, 125, 114]] #[{ accessFlags := 1, nameIndex := 5, descriptorIndex := 6, attributes := #[] }] 33 2 #[] #[{ accessFlags := 25, nameIndex := 123, descriptorIndex := 124, attributes := #[] }, { accessFlags := 25, nameIndex := 130, descriptorIndex := 124, attributes := #[] }, { accessFlags := 25, nameIndex := 136, descriptorIndex := 124, attributes := #[] }])
  fields := #[{ name := "SIOOBE_FORMATTER", type := (.object "java/util/function/BiFunction"), accessFlags := 25, slot := 0, constantValue := 0 }, { name := "AIOOBE_FORMATTER", type := (.object "java/util/function/BiFunction"), accessFlags := 25, slot := 1, constantValue := 0 }, { name := "IOOBE_FORMATTER", type := (.object "java/util/function/BiFunction"), accessFlags := 25, slot := 2, constantValue := 0 }]
  methods := #[k12m0]
  instanceTypes := #[]
  staticTypes := #[(.object "java/util/function/BiFunction"), (.object "java/util/function/BiFunction"), (.object "java/util/function/BiFunction")]
  resolved := Array.replicate 194 none
  statics := some 2 }

def pool13 : Array CpInfo := pool [(9, u "<init>"), (6, .class_ 18), (1, u "java/lang/Object"), (0, u "()V"), (1, .class_ 23), (1, u "jdk/internal/util/ArraysSupport"), (0, u "LOG2_ARRAY_LONG_INDEX_SCALE"), (0, u "I"), (2, u "U"), (0, u "Ljdk/internal/misc/Unsafe;"), (8, u "BIG_ENDIAN"), (0, u "Z"), (8, u "LOG2_BYTE_BIT_SIZE"), (4, u "LOG2_ARRAY_INT_INDEX_SCALE"), (54, u "JLA"), (0, u "Ljdk/internal/access/JavaLangAccess;"), (11, u "LOG2_ARRAY_BOOLEAN_INDEX_SCALE"), (9, u "LOG2_ARRAY_BYTE_INDEX_SCALE"), (5, u "LOG2_ARRAY_CHAR_INDEX_SCALE"), (5, u "LOG2_ARRAY_SHORT_INDEX_SCALE"), (18, u "LOG2_ARRAY_FLOAT_INDEX_SCALE"), (24, u "LOG2_ARRAY_DOUBLE_INDEX_SCALE"), (89, u "T_BOOLEAN"), (2, u "T_CHAR"), (1, u "T_FLOAT"), (1, u "T_DOUBLE"), (1, u "T_BYTE"), (1, u "T_SHORT"), (1, u "T_INT"), (1, u "T_LONG"), (1, u "SOFT_MAX_ARRAY_LENGTH")] 83

def k13m0 : Method := { name := "<init>", desc := "()V", sig := { parameters := [], returnType := none }, accessFlags := 2, code := none }
/-- jdk/internal/util/ArraysSupport -/
def k13 : Class := { plain "jdk/internal/util/ArraysSupport" (some 0) with
  accessFlags := 33
  interfaces := #[]
  cf := some (fileOf pool13 21 #[] #[{ accessFlags := 2, nameIndex := 9, descriptorIndex := 19, attributes := #[] }] 33 16 #[] #[{ accessFlags := 24, nameIndex := 28, descriptorIndex := 29, attributes := #[] }, { accessFlags := 26, nameIndex := 38, descriptorIndex := 39, attributes := #[] }, { accessFlags := 25, nameIndex := 121, descriptorIndex := 25, attributes := #[] }, { accessFlags := 25, nameIndex := 131, descriptorIndex := 25, attributes := #[] }, { accessFlags := 25, nameIndex := 137, descriptorIndex := 25, attributes := #[] }, { accessFlags := 25, nameIndex := 143, descriptorIndex := 25, attributes := #[] }, { accessFlags := 25, nameIndex := 53, descriptorIndex := 25, attributes := #[] }, { accessFlags := 25, nameIndex := 24, descriptorIndex := 25, attributes := #[] }, { accessFlags := 25, nameIndex := 162, descriptorIndex := 25, attributes := #[] }, { accessFlags := 25, nameIndex := 187, descriptorIndex := 25, attributes := #[] }, { accessFlags := 26, nameIndex := 48, descriptorIndex := 25, attributes := #[] }, { accessFlags := 25, nameIndex := 277, descriptorIndex := 25, attributes := #[] }, { accessFlags := 25, nameIndex := 280, descriptorIndex := 25, attributes := #[] }, { accessFlags := 25, nameIndex := 282, descriptorIndex := 25, attributes := #[] }, { accessFlags := 25, nameIndex := 284, descriptorIndex := 25, attributes := #[] }, { accessFlags := 25, nameIndex := 286, descriptorIndex := 25, attributes := #[] }, { accessFlags := 25, nameIndex := 288, descriptorIndex := 25, attributes := #[] }, { accessFlags := 25, nameIndex := 290, descriptorIndex := 25, attributes := #[] }, { accessFlags := 25, nameIndex := 292, descriptorIndex := 25, attributes := #[] }, { accessFlags := 26, nameIndex := 108, descriptorIndex := 109, attributes := #[] }, { accessFlags := 25, nameIndex := 294, descriptorIndex := 25, attributes := #[] }])
  fields := #[{ name := "U", type := (.object "jdk/internal/misc/Unsafe"), accessFlags := 24, slot := 0, constantValue := 0 }, { name := "BIG_ENDIAN", type := .boolean, accessFlags := 26, slot := 1, constantValue := 0 }, { name := "LOG2_ARRAY_BOOLEAN_INDEX_SCALE", type := .int, accessFlags := 25, slot := 2, constantValue := 0 }, { name := "LOG2_ARRAY_BYTE_INDEX_SCALE", type := .int, accessFlags := 25, slot := 3, constantValue := 0 }, { name := "LOG2_ARRAY_CHAR_INDEX_SCALE", type := .int, accessFlags := 25, slot := 4, constantValue := 0 }, { name := "LOG2_ARRAY_SHORT_INDEX_SCALE", type := .int, accessFlags := 25, slot := 5, constantValue := 0 }, { name := "LOG2_ARRAY_INT_INDEX_SCALE", type := .int, accessFlags := 25, slot := 6, constantValue := 0 }, { name := "LOG2_ARRAY_LONG_INDEX_SCALE", type := .int, accessFlags := 25, slot := 7, constantValue := 0 }, { name := "LOG2_ARRAY_FLOAT_INDEX_SCALE", type := .int, accessFlags := 25, slot := 8, constantValue := 0 }, { name := "LOG2_ARRAY_DOUBLE_INDEX_SCALE", type := .int, accessFlags := 25, slot := 9, constantValue := 0 }, { name := "LOG2_BYTE_BIT_SIZE", type := .int, accessFlags := 26, slot := 10, constantValue := 0 }, { name := "T_BOOLEAN", type := .int, accessFlags := 25, slot := 11, constantValue := 0 }, { name := "T_CHAR", type := .int, accessFlags := 25, slot := 12, constantValue := 0 }, { name := "T_FLOAT", type := .int, accessFlags := 25, slot := 13, constantValue := 0 }, { name := "T_DOUBLE", type := .int, accessFlags := 25, slot := 14, constantValue := 0 }, { name := "T_BYTE", type := .int, accessFlags := 25, slot := 15, constantValue := 0 }, { name := "T_SHORT", type := .int, accessFlags := 25, slot := 16, constantValue := 0 }, { name := "T_INT", type := .int, accessFlags := 25, slot := 17, constantValue := 0 }, { name := "T_LONG", type := .int, accessFlags := 25, slot := 18, constantValue := 0 }, { name := "JLA", type := (.object "jdk/internal/access/JavaLangAccess"), accessFlags := 26, slot := 19, constantValue := 0 }, { name := "SOFT_MAX_ARRAY_LENGTH", type := .int, accessFlags := 25, slot := 20, constantValue := 0 }]
  methods := #[k13m0]
  instanceTypes := #[]
  staticTypes := #[(.object "jdk/internal/misc/Unsafe"), .boolean, .int, .int, .int, .int, .int, .int, .int, .int, .int, .int, .int, .int, .int, .int, .int, .int, .int, (.object "jdk/internal/access/JavaLangAccess"), .int]
  resolved := Array.replicate 378 none
  statics := none }

def pool14 : Array CpInfo := pool [(1, u "java/lang/Cloneable"), (0, .class_ 1), (0, u "java/lang/Object"), (0, .class_ 3)] 3

/-- java/lang/Cloneable -/
def k14 : Class := { plain "java/lang/Cloneable" (some 0) with
  accessFlags := 1537
  interfaces := #[]
  cf := some (fileOf pool14 2 #[] #[] 1537 4 #[] #[])
  fields := #[]
  methods := #[]
  instanceTypes := #[]
  staticTypes := #[]
  resolved := Array.replicate 8 none
  statics := none }

/-- the primitive byte -/
def k15 : Class := { plain "byte" none with kind := .primitive 'B', accessFlags := 0x411 }
/-- [B -/
def k16 : Class := { plain "[B" (some 0) with kind := .array 15 .byte, interfaces := #[14, 2], accessFlags := 1041 }

/-- the primitive char -/
def k17 : Class := { plain "char" none with kind := .primitive 'C', accessFlags := 0x411 }
/-- [C -/
def k18 : Class := { plain "[C" (some 0) with kind := .array 17 .char, interfaces := #[14, 2], accessFlags := 1041 }

/-- the primitive int -/
def k19 : Class := { plain "int" none with kind := .primitive 'I', accessFlags := 0x411 }
/-- [I -/
def k20 : Class := { plain "[I" (some 0) with kind := .array 19 .int, interfaces := #[14, 2], accessFlags := 1041 }

def heap : Heap := #[{ cls := 7, slots := #[.long 0, .int 1, .null, .int 0, .null, .int 0, .int 0], vm := .statics 7 },
  { cls := 9, slots := #[.int 0, .int 8, .int 0, .int 1], vm := .statics 9 },
  { cls := 12, slots := #[.null, .null, .null], vm := .statics 12 }]
def classes : Array Class := #[k0, k1, k2, k3, k4, k5, k6, k7, k8, k9, k10, k11, k12, k13, k14, k15, k16, k17, k18, k19, k20]
def interned : List (Array UInt16 × Addr) := []
def slotsUsed : Nat := 14
def theMethod : MethodId := ⟨1, 1⟩
def args0 : Array Value := #[.int 5, .int 300]
def aboutOver (below : List Frame) : State where
  vm := { classes := classes, interned := interned.toArray }
  heap := heap
  slotsUsed := slotsUsed
  threads := #[{ frames := .invoking theMethod args0 :: below }]
def below0 : List Frame := [.native { method := ⟨0, 0⟩, args := #[] }]
def about1 : State := aboutOver below0
def p0 : Program := .bare "" "" ""
def e0 : Env := launch0.env 0 0 0
theorem w_frames : about1.frames = Frame.invoking theMethod args0 :: below0 := rfl
set_option maxRecDepth 65536 in
theorem w_args : argsFit about1.vm theMethod args0 = true := by decide +kernel
set_option maxRecDepth 65536 in
theorem w_heap : heapFits about1 = true := by decide +kernel
set_option maxRecDepth 65536 in
theorem w_runnable : about1.curStatus? = some .runnable := by decide +kernel
set_option maxRecDepth 65536 in
theorem w_alone : about1.alone = true := by decide +kernel
set_option maxRecDepth 65536 in
theorem w_named : about1.methodNamed? x = some theMethod := by decide +kernel
set_option maxRecDepth 65536 in
theorem w_hears : about1.hears theMethod below0 = true := by decide +kernel
set_option maxRecDepth 65536 in
theorem w_ripe : about1.ripe theMethod args0 below0 = true := by decide +kernel
theorem w_running : about1.status = .running := rfl
set_option maxRecDepth 65536 in
theorem w_room : about1.hasRoom e0.platform room_1 = true :=
  launch0.hasRoom_least _ room_1 (by decide +kernel) (by decide +kernel) (by decide +kernel) (by decide +kernel) (by decide +kernel) (by decide +kernel)
theorem allAtoms_all (ts : List Jvm.Cond) (a : Array Jvm.Value) (st : Jvm.State) : (allAtoms ts).before a st = ts.all (fun c => c.before a st) := by
  induction ts with
  | nil => rfl
  | cons c t ih =>
    show (Jvm.Cond.and c (allAtoms t)).before a st = _
    rw [Jvm.Cond.before_and, ih, List.all_cons]
def words1 : List Jvm.Cond := Jvm.Cond.code x code maxLocals ret :: tables_1
/-- a 'code' word, met by the world's own term for the bytes: nothing is compared byte by byte -/
theorem code_word {y : MethodName} {bytes : ByteArray} {mx : Nat} {rt : Option FieldType} {a : Array Value} {s : State} {m : MethodId} {meth : Method} {c : Code} (h1 : s.methodNamed? y = some m) (h2 : s.vm.method? m = some meth) (h3 : meth.code = some c) (h4 : c.code = bytes)
    (h5 : (c.maxLocals == mx && c.exceptionTable.isEmpty && decide (c.maxStack ≤ mostOperands) && decide (meth.sig.returnType = rt) && !meth.locks && decide (parseMethodDescriptor y.desc = some meth.sig)) = true) : (Jvm.Cond.code y bytes mx rt).before a s = true := by
  simp only [Bool.and_eq_true, beq_iff_eq, Bool.not_eq_true', decide_eq_true_eq] at h5
  obtain ⟨⟨⟨⟨⟨g1, g2⟩, g3⟩, g4⟩, g5⟩, g6⟩ := h5
  simp [Cond.before, Cond.holds, Cond.value, h1, h2, h3, h4, g1, g2, g3, g4, g5, g6]
def isCode : Jvm.Cond → Bool
  | .code _ _ _ _ => true
  | _ => false
theorem all_split {L : List Jvm.Cond} {P : Jvm.Cond → Bool} (h1 : L.all (fun c => isCode c || P c) = true) (h2 : ∀ c ∈ L.filter isCode, P c = true) : L.all P = true := by
  refine List.all_eq_true.mpr fun c hc => ?_
  have h := List.all_eq_true.mp h1 c hc
  rcases Bool.eq_false_or_eq_true (isCode c) with hi | hi
  · exact h2 c (List.mem_filter.mpr ⟨hc, hi⟩)
  · simpa [hi] using h
set_option maxRecDepth 65536 in
theorem w_c0 : (Jvm.Cond.code x code maxLocals ret).before args0 about1 = true := code_word (m := ⟨1, 1⟩) (meth := k1m1) (c := k1c1) (by decide +kernel) rfl rfl rfl (by decide +kernel)
set_option maxRecDepth 65536 in
theorem w_c1 : (Jvm.Cond.code ({ cls := "java/lang/String", name := "<init>", desc := "([C)V" } : Jvm.MethodName) jdk_42_method_3_code (2 : Nat) (Option.none : Option Jvm.ClassFile.FieldType)).before args0 about1 = true := code_word (m := ⟨7, 1⟩) (meth := k7m1) (c := k7c1) (by decide +kernel) rfl rfl rfl (by decide +kernel)
set_option maxRecDepth 65536 in
theorem w_c2 : (Jvm.Cond.code ({ cls := "java/lang/String", name := "<init>", desc := "([CIILjava/lang/Void;)V" } : Jvm.MethodName) jdk_42_method_149_code (6 : Nat) (Option.none : Option Jvm.ClassFile.FieldType)).before args0 about1 = true := code_word (m := ⟨7, 4⟩) (meth := k7m4) (c := k7c4) (by decide +kernel) rfl rfl rfl (by decide +kernel)
set_option maxRecDepth 65536 in
theorem w_c3 : (Jvm.Cond.code ({ cls := "java/lang/Object", name := "<init>", desc := "()V" } : Jvm.MethodName) object_method_1_code (1 : Nat) (Option.none : Option Jvm.ClassFile.FieldType)).before args0 about1 = true := code_word (m := ⟨0, 0⟩) (meth := k0m0) (c := k0c0) (by decide +kernel) rfl rfl rfl (by decide +kernel)
set_option maxRecDepth 65536 in
theorem w_c4 : (Jvm.Cond.code ({ cls := "java/lang/String", name := "valueOf", desc := "(C)Ljava/lang/String;" } : Jvm.MethodName) jdk_42_method_139_code (1 : Nat) (Option.some (Jvm.ClassFile.FieldType.object "java/lang/String"))).before args0 about1 = true := code_word (m := ⟨7, 3⟩) (meth := k7m3) (c := k7c3) (by decide +kernel) rfl rfl rfl (by decide +kernel)
set_option maxRecDepth 65536 in
theorem w_c5 : (Jvm.Cond.code ({ cls := "java/lang/StringLatin1", name := "canEncode", desc := "(C)Z" } : Jvm.MethodName) jdk_43_method_3_code (1 : Nat) (Option.some Jvm.ClassFile.FieldType.boolean)).before args0 about1 = true := code_word (m := ⟨8, 1⟩) (meth := k8m1) (c := k8c1) (by decide +kernel) rfl rfl rfl (by decide +kernel)
set_option maxRecDepth 65536 in
theorem w_c6 : (Jvm.Cond.code ({ cls := "java/lang/StringLatin1", name := "toBytes", desc := "(C)[B" } : Jvm.MethodName) jdk_43_method_46_code (1 : Nat) (Option.some (Jvm.ClassFile.FieldType.array Jvm.ClassFile.FieldType.byte))).before args0 about1 = true := code_word (m := ⟨8, 2⟩) (meth := k8m2) (c := k8c2) (by decide +kernel) rfl rfl rfl (by decide +kernel)
set_option maxRecDepth 65536 in
theorem w_c7 : (Jvm.Cond.code ({ cls := "java/lang/String", name := "<init>", desc := "([BB)V" } : Jvm.MethodName) jdk_42_method_151_code (3 : Nat) (Option.none : Option Jvm.ClassFile.FieldType)).before args0 about1 = true := code_word (m := ⟨7, 5⟩) (meth := k7m5) (c := k7c5) (by decide +kernel) rfl rfl rfl (by decide +kernel)
set_option maxRecDepth 65536 in
theorem w_c8 : (Jvm.Cond.code ({ cls := "java/lang/StringUTF16", name := "compress", desc := "([CII)[B" } : Jvm.MethodName) jdk_52_method_16_code (6 : Nat) (Option.some (Jvm.ClassFile.FieldType.array Jvm.ClassFile.FieldType.byte))).before args0 about1 = true := code_word (m := ⟨9, 7⟩) (meth := k9m7) (c := k9c7) (by decide +kernel) rfl rfl rfl (by decide +kernel)
set_option maxRecDepth 65536 in
theorem w_c9 : (Jvm.Cond.code ({ cls := "java/lang/StringUTF16", name := "compress", desc := "([CI[BII)I" } : Jvm.MethodName) jdk_52_method_21_code (7 : Nat) (Option.some Jvm.ClassFile.FieldType.int)).before args0 about1 = true := code_word (m := ⟨9, 8⟩) (meth := k9m8) (c := k9c8) (by decide +kernel) rfl rfl rfl (by decide +kernel)
set_option maxRecDepth 65536 in
theorem w_c10 : (Jvm.Cond.code ({ cls := "java/lang/StringUTF16", name := "coderFromArrayLen", desc := "([BI)B" } : Jvm.MethodName) jdk_52_method_15_code (2 : Nat) (Option.some Jvm.ClassFile.FieldType.byte)).before args0 about1 = true := code_word (m := ⟨9, 6⟩) (meth := k9m6) (c := k9c6) (by decide +kernel) rfl rfl rfl (by decide +kernel)
set_option maxRecDepth 65536 in
theorem w_c11 : (Jvm.Cond.code ({ cls := "com/example/uni_lock/unilock/Request", name := "wordBytes", desc := "(Ljava/lang/String;)J" } : Jvm.MethodName) prog_13_method_4_code (1 : Nat) (Option.some Jvm.ClassFile.FieldType.long)).before args0 about1 = true := code_word (m := ⟨11, 0⟩) (meth := k11m0) (c := k11c0) (by decide +kernel) rfl rfl rfl (by decide +kernel)
set_option maxRecDepth 65536 in
theorem w_c12 : (Jvm.Cond.code ({ cls := "java/lang/String", name := "length", desc := "()I" } : Jvm.MethodName) jdk_42_method_54_code (1 : Nat) (Option.some Jvm.ClassFile.FieldType.int)).before args0 about1 = true := code_word (m := ⟨7, 2⟩) (meth := k7m2) (c := k7c2) (by decide +kernel) rfl rfl rfl (by decide +kernel)
set_option maxRecDepth 65536 in
theorem w_c13 : (Jvm.Cond.code ({ cls := "java/lang/String", name := "coder", desc := "()B" } : Jvm.MethodName) jdk_42_method_152_code (1 : Nat) (Option.some Jvm.ClassFile.FieldType.byte)).before args0 about1 = true := code_word (m := ⟨7, 6⟩) (meth := k7m6) (c := k7c6) (by decide +kernel) rfl rfl rfl (by decide +kernel)
set_option maxRecDepth 65536 in
theorem w_c14 : (Jvm.Cond.code ({ cls := "java/lang/StringUTF16", name := "toBytes", desc := "(C)[B" } : Jvm.MethodName) jdk_52_method_24_code (2 : Nat) (Option.some (Jvm.ClassFile.FieldType.array Jvm.ClassFile.FieldType.byte))).before args0 about1 = true := code_word (m := ⟨9, 9⟩) (meth := k9m9) (c := k9c9) (by decide +kernel) rfl rfl rfl (by decide +kernel)
set_option maxRecDepth 65536 in
theorem w_c15 : (Jvm.Cond.code ({ cls := "java/lang/StringUTF16", name := "putChar", desc := "([BII)V" } : Jvm.MethodName) jdk_52_method_4_code (3 : Nat) (Option.none : Option Jvm.ClassFile.FieldType)).before args0 about1 = true := code_word (m := ⟨9, 3⟩) (meth := k9m3) (c := k9c3) (by decide +kernel) rfl rfl rfl (by decide +kernel)
set_option maxRecDepth 65536 in
theorem w_c16 : (Jvm.Cond.code ({ cls := "java/lang/StringUTF16", name := "toBytes", desc := "([CII)[B" } : Jvm.MethodName) jdk_52_method_14_code (5 : Nat) (Option.some (Jvm.ClassFile.FieldType.array Jvm.ClassFile.FieldType.byte))).before args0 about1 = true := code_word (m := ⟨9, 5⟩) (meth := k9m5) (c := k9c5) (by decide +kernel) rfl rfl rfl (by decide +kernel)
set_option maxRecDepth 65536 in
theorem w_c17 : (Jvm.Cond.code ({ cls := "java/lang/StringUTF16", name := "newBytesFor", desc := "(I)[B" } : Jvm.MethodName) jdk_52_method_2_code (1 : Nat) (Option.some (Jvm.ClassFile.FieldType.array Jvm.ClassFile.FieldType.byte))).before args0 about1 = true := code_word (m := ⟨9, 1⟩) (meth := k9m1) (c := k9c1) (by decide +kernel) rfl rfl rfl (by decide +kernel)
set_option maxRecDepth 65536 in
theorem w_c18 : (Jvm.Cond.code ({ cls := "java/lang/StringUTF16", name := "newBytesLength", desc := "(I)I" } : Jvm.MethodName) jdk_52_method_3_code (1 : Nat) (Option.some Jvm.ClassFile.FieldType.int)).before args0 about1 = true := code_word (m := ⟨9, 2⟩) (meth := k9m2) (c := k9c2) (by decide +kernel) rfl rfl rfl (by decide +kernel)
set_option maxRecDepth 65536 in
theorem w_c19 : (Jvm.Cond.code ({ cls := "java/lang/StringUTF16", name := "getChar", desc := "([BI)C" } : Jvm.MethodName) jdk_52_method_5_code (2 : Nat) (Option.some Jvm.ClassFile.FieldType.char)).before args0 about1 = true := code_word (m := ⟨9, 4⟩) (meth := k9m4) (c := k9c4) (by decide +kernel) rfl rfl rfl (by decide +kernel)
def codes1 : List Jvm.Cond := [Jvm.Cond.code x code maxLocals ret, Jvm.Cond.code ({ cls := "java/lang/String", name := "<init>", desc := "([C)V" } : Jvm.MethodName) jdk_42_method_3_code (2 : Nat) (Option.none : Option Jvm.ClassFile.FieldType), Jvm.Cond.code ({ cls := "java/lang/String", name := "<init>", desc := "([CIILjava/lang/Void;)V" } : Jvm.MethodName) jdk_42_method_149_code (6 : Nat) (Option.none : Option Jvm.ClassFile.FieldType), Jvm.Cond.code ({ cls := "java/lang/Object", name := "<init>", desc := "()V" } : Jvm.MethodName) object_method_1_code (1 : Nat) (Option.none : Option Jvm.ClassFile.FieldType), Jvm.Cond.code ({ cls := "java/lang/String", name := "valueOf", desc := "(C)Ljava/lang/String;" } : Jvm.MethodName) jdk_42_method_139_code (1 : Nat) (Option.some (Jvm.ClassFile.FieldType.object "java/lang/String")), Jvm.Cond.code ({ cls := "java/lang/StringLatin1", name := "canEncode", desc := "(C)Z" } : Jvm.MethodName) jdk_43_method_3_code (1 : Nat) (Option.some Jvm.ClassFile.FieldType.boolean), Jvm.Cond.code ({ cls := "java/lang/StringLatin1", name := "toBytes", desc := "(C)[B" } : Jvm.MethodName) jdk_43_method_46_code (1 : Nat) (Option.some (Jvm.ClassFile.FieldType.array Jvm.ClassFile.FieldType.byte)), Jvm.Cond.code ({ cls := "java/lang/String", name := "<init>", desc := "([BB)V" } : Jvm.MethodName) jdk_42_method_151_code (3 : Nat) (Option.none : Option Jvm.ClassFile.FieldType), Jvm.Cond.code ({ cls := "java/lang/StringUTF16", name := "compress", desc := "([CII)[B" } : Jvm.MethodName) jdk_52_method_16_code (6 : Nat) (Option.some (Jvm.ClassFile.FieldType.array Jvm.ClassFile.FieldType.byte)), Jvm.Cond.code ({ cls := "java/lang/StringUTF16", name := "compress", desc := "([CI[BII)I" } : Jvm.MethodName) jdk_52_method_21_code (7 : Nat) (Option.some Jvm.ClassFile.FieldType.int), Jvm.Cond.code ({ cls := "java/lang/StringUTF16", name := "coderFromArrayLen", desc := "([BI)B" } : Jvm.MethodName) jdk_52_method_15_code (2 : Nat) (Option.some Jvm.ClassFile.FieldType.byte), Jvm.Cond.code ({ cls := "com/example/uni_lock/unilock/Request", name := "wordBytes", desc := "(Ljava/lang/String;)J" } : Jvm.MethodName) prog_13_method_4_code (1 : Nat) (Option.some Jvm.ClassFile.FieldType.long), Jvm.Cond.code ({ cls := "java/lang/String", name := "length", desc := "()I" } : Jvm.MethodName) jdk_42_method_54_code (1 : Nat) (Option.some Jvm.ClassFile.FieldType.int), Jvm.Cond.code ({ cls := "java/lang/String", name := "coder", desc := "()B" } : Jvm.MethodName) jdk_42_method_152_code (1 : Nat) (Option.some Jvm.ClassFile.FieldType.byte), Jvm.Cond.code ({ cls := "java/lang/StringUTF16", name := "toBytes", desc := "(C)[B" } : Jvm.MethodName) jdk_52_method_24_code (2 : Nat) (Option.some (Jvm.ClassFile.FieldType.array Jvm.ClassFile.FieldType.byte)), Jvm.Cond.code ({ cls := "java/lang/StringUTF16", name := "putChar", desc := "([BII)V" } : Jvm.MethodName) jdk_52_method_4_code (3 : Nat) (Option.none : Option Jvm.ClassFile.FieldType), Jvm.Cond.code ({ cls := "java/lang/StringUTF16", name := "toBytes", desc := "([CII)[B" } : Jvm.MethodName) jdk_52_method_14_code (5 : Nat) (Option.some (Jvm.ClassFile.FieldType.array Jvm.ClassFile.FieldType.byte)), Jvm.Cond.code ({ cls := "java/lang/StringUTF16", name := "newBytesFor", desc := "(I)[B" } : Jvm.MethodName) jdk_52_method_2_code (1 : Nat) (Option.some (Jvm.ClassFile.FieldType.array Jvm.ClassFile.FieldType.byte)), Jvm.Cond.code ({ cls := "java/lang/StringUTF16", name := "newBytesLength", desc := "(I)I" } : Jvm.MethodName) jdk_52_method_3_code (1 : Nat) (Option.some Jvm.ClassFile.FieldType.int), Jvm.Cond.code ({ cls := "java/lang/StringUTF16", name := "getChar", desc := "([BI)C" } : Jvm.MethodName) jdk_52_method_5_code (2 : Nat) (Option.some Jvm.ClassFile.FieldType.char)]
set_option maxRecDepth 65536 in
theorem codes_eq : words1.filter isCode = codes1 := rfl
theorem w_codes : ∀ c ∈ words1.filter isCode, c.before args0 about1 = true := by
  rw [codes_eq]
  intro c hc
  simp only [codes1, List.mem_cons, List.not_mem_nil, or_false] at hc
  rcases hc with rfl | rfl | rfl | rfl | rfl | rfl | rfl | rfl | rfl | rfl | rfl | rfl | rfl | rfl | rfl | rfl | rfl | rfl | rfl | rfl
  · exact w_c0
  · exact w_c1
  · exact w_c2
  · exact w_c3
  · exact w_c4
  · exact w_c5
  · exact w_c6
  · exact w_c7
  · exact w_c8
  · exact w_c9
  · exact w_c10
  · exact w_c11
  · exact w_c12
  · exact w_c13
  · exact w_c14
  · exact w_c15
  · exact w_c16
  · exact w_c17
  · exact w_c18
  · exact w_c19
set_option maxRecDepth 65536 in
theorem w_t1 : (words1.take 24).all (fun c => isCode c || c.before args0 about1) = true := by decide +kernel
set_option maxRecDepth 65536 in
theorem w_t2 : ((words1.drop 24).take 24).all (fun c => isCode c || c.before args0 about1) = true := by decide +kernel
set_option maxRecDepth 65536 in
theorem w_t3 : (((words1.drop 24).drop 24).take 24).all (fun c => isCode c || c.before args0 about1) = true := by decide +kernel
set_option maxRecDepth 65536 in
theorem w_t4 : (((words1.drop 24).drop 24).drop 24).all (fun c => isCode c || c.before args0 about1) = true := by decide +kernel
theorem w_tables : (allAtoms (Jvm.Cond.code x code maxLocals ret :: tables_1)).before args0 about1 = true := by
  rw [allAtoms_all]
  show words1.all (fun c => c.before args0 about1) = true
  refine all_split ?_ w_codes
  rw [← List.take_append_drop 24 words1, List.all_append, w_t1, ← List.take_append_drop 24 (words1.drop 24), List.all_append, w_t2, ← List.take_append_drop 24 ((words1.drop 24).drop 24), List.all_append, w_t3, w_t4]
  rfl
set_option maxRecDepth 65536 in
theorem w_rest : rest_1_c.before args0 about1 = true := by decide +kernel
set_option maxRecDepth 65536 in
theorem w_case : (Jvm.Cond.and given_1 narrow_1).before args0 about1 = true := by decide +kernel
set_option maxRecDepth 65536 in
theorem w_consts : constsHeld consts_1 about1 := Jvm.Lit.constsHeldB_iff.mp (by decide +kernel)
theorem w_applies : (headSpec (Jvm.Cond.code x code maxLocals ret :: tables_1) room_1).applies x e0.platform about1 = true :=
  (Spec.applies_iff w_frames).mpr ⟨w_running, w_runnable, w_alone, w_named, w_hears, w_ripe, w_room, w_tables⟩
theorem atStart : AtStart classFile x code maxLocals ret World_1 tables_1 room_1 Calls_1 rest_1 Pre_1 launch0 p0 e0 about1 theMethod args0 below0 :=
  ⟨lists_1, trivial, launch0.admits_env _ _ _, launch0.least_env, fairChoices_fair.cas, fairChoices_fair.clock, w_frames, w_args, w_heap, w_applies, ⟨w_consts, trivial⟩, w_rest, w_case⟩
end start1
theorem witness_1 : WitnessClaimed_1 := ⟨start1.p0, start1.e0, start1.about1, start1.theMethod, start1.args0, start1.below0, start1.atStart⟩
end Jvm.Pilot.@@N@@
