import JvmDerived
import JvmDerived.Pilot.@@N@@Statement
import JvmDerived.Pilot.@@N@@Code
set_option linter.unusedVariables false
set_option linter.unusedSimpArgs false
namespace Jvm.Pilot.@@N@@
open Jvm Jvm.ClassFile Sem Op Lib Jvm.Free Jvm.Stand Jvm.LawKit Jvm.RoadKit Bundle Jvm.Pilot.@@N@@.Jvm.D
/-! own layer: the walk goes forward; own_G S: from S the body ends as F says -/
def own_G (tb : Tables) (e : Env) (below : List Frame) (F : Outcome → State → Prop) (S : State) : Prop :=
  ∃ s₂ o, Steps tb e below S s₂ ∧ s₂.status = .running ∧ Ended s₂ below o ∧ F o s₂
theorem own_go {tb : Tables} {e : Env} {below : List Frame} {F : Outcome → State → Prop} {A B : State} (st : ∀ t, Steps tb e below B t → Steps tb e below A t) (h : own_G tb e below F B) : own_G tb e below F A := by
  obtain ⟨t, o, h1, h2⟩ := h
  exact ⟨t, o, st t h1, h2⟩
theorem own_tr {tb : Tables} {e : Env} {below : List Frame} {F : Outcome → State → Prop} {A B : State} (st : Steps tb e below A B) (h : own_G tb e below F B) : own_G tb e below F A := own_go (fun _ k => st.trans k) h
theorem own_b {n k : Nat} (h : Nat.ble n k = true) : n ≤ k := Nat.le_of_ble_eq_true h
def own_yes {α : Type} [LT α] : ClassFile.Cond → α → α → Prop
  | .eq, x, y => x = y
  | .ne, x, y => ¬ x = y
  | .lt, x, y => x < y
  | .ge, x, y => ¬ x < y
  | .gt, x, y => y < x
  | .le, x, y => ¬ y < x
def own_no {α : Type} [LT α] : ClassFile.Cond → α → α → Prop
  | .eq, x, y => ¬ x = y
  | .ne, x, y => x = y
  | .lt, x, y => ¬ x < y
  | .ge, x, y => x < y
  | .gt, x, y => ¬ y < x
  | .le, x, y => y < x
theorem own_hy {cd : ClassFile.Cond} {x y : Int32} (h : own_yes cd x y) : if_icmp.holds cd x y = true := by
  cases cd
  · exact (teq h).1
  · exact (feq h).2
  · exact (tlt h).1
  · exact (flt h).2.1
  · exact (tlt h).2.2.1
  · exact (flt h).2.2.2
theorem own_hn {cd : ClassFile.Cond} {x y : Int32} (h : own_no cd x y) : if_icmp.holds cd x y = false := by
  cases cd
  · exact (feq h).1
  · exact (teq h).2
  · exact (flt h).1
  · exact (tlt h).2.1
  · exact (flt h).2.2.1
  · exact (tlt h).2.2.2
theorem own_yn {cd : ClassFile.Cond} {x y : Int32} : own_yes cd x y ∨ own_no cd x y := by
  cases cd
  · exact Classical.em _
  · exact (Classical.em _).symm
  · exact Classical.em _
  · exact (Classical.em _).symm
  · exact Classical.em _
  · exact (Classical.em _).symm
theorem own_ynL {cd : ClassFile.Cond} {x y : Int64} : own_yes cd x y ∨ own_no cd x y := by
  cases cd
  · exact Classical.em _
  · exact (Classical.em _).symm
  · exact Classical.em _
  · exact (Classical.em _).symm
  · exact Classical.em _
  · exact (Classical.em _).symm
theorem own_hyL {cd : ClassFile.Cond} {x y : Int64} (h : own_yes cd x y) : ifCond.holds cd (lcmpW x y) = true := by
  rw [if0]
  refine own_hy ?_
  cases cd
  · exact (lw_eq x y).mpr h
  · exact fun q => h ((lw_eq x y).mp q)
  · exact (lw_lt x y).mpr h
  · exact fun q => h ((lw_lt x y).mp q)
  · exact (lw_gt x y).mpr h
  · exact fun q => h ((lw_gt x y).mp q)
theorem own_hnL {cd : ClassFile.Cond} {x y : Int64} (h : own_no cd x y) : ifCond.holds cd (lcmpW x y) = false := by
  rw [if0]
  refine own_hn ?_
  cases cd
  · exact fun q => h ((lw_eq x y).mp q)
  · exact (lw_eq x y).mpr h
  · exact fun q => h ((lw_lt x y).mp q)
  · exact (lw_lt x y).mpr h
  · exact fun q => h ((lw_gt x y).mp q)
  · exact (lw_gt x y).mpr h
section Own
variable {p : Program} {l : Launch} {e : Env} {R : Room} {s : State} {m : MethodId} {args : Array Value} {below : List Frame} {meth : Method} {c : Code} {T : State} {locs : List Loc} {cells slots : Nat} {F : Outcome → State → Prop}
theorem own_abs {n0 : Nat} (X : Stand p l e R s m args below meth c T locs cells slots) (N : Fr n0 locs) : ∃ L, Stand p l e R s m args below meth c T L cells slots ∧ Fr n0 L := ⟨locs, X, N⟩
theorem own_absC {n0 K K' : Nat} {L Lc : List Loc} {k n : Nat} (X : Stand p l e R s m args below meth c T L k n) (hl : L = locs ++ Lc) (hk : k = K) (hn : n = K') (N : Fr n0 locs) (N' : Fr n0 Lc) : ∃ L, Stand p l e R s m args below meth c T L K K' ∧ Fr n0 L := by
  subst hk hn
  exact ⟨L, X, by rw [hl]; exact Fr.app N N'⟩
theorem own_icmpY (X : Stand p l e R s m args below meth c T locs cells slots) (hx : p.tables.exec = Jvm.exec) {cd : ClassFile.Cond} {x y : Int32} {o : Int} {pc pc' : Nat} {Ls : Array Slot} {rest : List Value} (hd : decode c.code pc = .ok (.if_icmp cd o, 3)) (ho : 0 ≤ (pc : Int) + o) (hp : ((pc : Int) + o).toNat = pc')
    (hc : own_yes cd x y) (h1 : own_G p.tables e below F (T.setTop (mkF m pc' Ls rest))) : own_G p.tables e below F (T.setTop (mkF m pc Ls (.int y :: .int x :: rest))) :=
  own_go (fun _ k => XS.icmpYes X.here hx rfl (pc0 := pc) (pc' := pc') rfl hd rfl (own_hy hc) ho hp k) h1
theorem own_icmpN (X : Stand p l e R s m args below meth c T locs cells slots) (hx : p.tables.exec = Jvm.exec) {cd : ClassFile.Cond} {x y : Int32} {o : Int} {pc pn : Nat} {Ls : Array Slot} {rest : List Value} (hd : decode c.code pc = .ok (.if_icmp cd o, 3)) (hq : pc + 3 = pn)
    (hc : own_no cd x y) (h1 : own_G p.tables e below F (T.setTop (mkF m pn Ls rest))) : own_G p.tables e below F (T.setTop (mkF m pc Ls (.int y :: .int x :: rest))) := by
  subst hq
  exact own_go (fun _ k => XS.icmpNo X.here hx rfl hd rfl (own_hn hc) k) h1
theorem own_icmp (X : Stand p l e R s m args below meth c T locs cells slots) (hx : p.tables.exec = Jvm.exec) {cd : ClassFile.Cond} {x y : Int32} {o : Int} {pc pc' pn : Nat} {Ls : Array Slot} {rest : List Value} (hd : decode c.code pc = .ok (.if_icmp cd o, 3)) (ho : 0 ≤ (pc : Int) + o) (hp : ((pc : Int) + o).toNat = pc') (hq : pc + 3 = pn)
    (h1 : own_yes cd x y → own_G p.tables e below F (T.setTop (mkF m pc' Ls rest))) (h2 : own_no cd x y → own_G p.tables e below F (T.setTop (mkF m pn Ls rest))) : own_G p.tables e below F (T.setTop (mkF m pc Ls (.int y :: .int x :: rest))) :=
  own_yn.elim (fun q => own_icmpY X hx hd ho hp q (h1 q)) (fun q => own_icmpN X hx hd hq q (h2 q))
theorem own_ifY (X : Stand p l e R s m args below meth c T locs cells slots) (hx : p.tables.exec = Jvm.exec) {cd : ClassFile.Cond} {x : Int32} {o : Int} {pc pc' : Nat} {Ls : Array Slot} {rest : List Value} (hd : decode c.code pc = .ok (.ifCond cd o, 3)) (ho : 0 ≤ (pc : Int) + o) (hp : ((pc : Int) + o).toNat = pc')
    (hc : own_yes cd x 0) (h1 : own_G p.tables e below F (T.setTop (mkF m pc' Ls rest))) : own_G p.tables e below F (T.setTop (mkF m pc Ls (.int x :: rest))) :=
  own_go (fun _ k => XS.ifYes X.here hx rfl (pc0 := pc) (pc' := pc') rfl hd rfl ((if0 cd x).trans (own_hy hc)) ho hp k) h1
theorem own_ifN (X : Stand p l e R s m args below meth c T locs cells slots) (hx : p.tables.exec = Jvm.exec) {cd : ClassFile.Cond} {x : Int32} {o : Int} {pc pn : Nat} {Ls : Array Slot} {rest : List Value} (hd : decode c.code pc = .ok (.ifCond cd o, 3)) (hq : pc + 3 = pn)
    (hc : own_no cd x 0) (h1 : own_G p.tables e below F (T.setTop (mkF m pn Ls rest))) : own_G p.tables e below F (T.setTop (mkF m pc Ls (.int x :: rest))) := by
  subst hq
  exact own_go (fun _ k => XS.ifNo X.here hx rfl hd rfl ((if0 cd x).trans (own_hn hc)) k) h1
theorem own_if (X : Stand p l e R s m args below meth c T locs cells slots) (hx : p.tables.exec = Jvm.exec) {cd : ClassFile.Cond} {x : Int32} {o : Int} {pc pc' pn : Nat} {Ls : Array Slot} {rest : List Value} (hd : decode c.code pc = .ok (.ifCond cd o, 3)) (ho : 0 ≤ (pc : Int) + o) (hp : ((pc : Int) + o).toNat = pc') (hq : pc + 3 = pn)
    (h1 : own_yes cd x 0 → own_G p.tables e below F (T.setTop (mkF m pc' Ls rest))) (h2 : own_no cd x 0 → own_G p.tables e below F (T.setTop (mkF m pn Ls rest))) : own_G p.tables e below F (T.setTop (mkF m pc Ls (.int x :: rest))) :=
  own_yn.elim (fun q => own_ifY X hx hd ho hp q (h1 q)) (fun q => own_ifN X hx hd hq q (h2 q))
theorem own_lifY (X : Stand p l e R s m args below meth c T locs cells slots) (hx : p.tables.exec = Jvm.exec) {cd : ClassFile.Cond} {x y : Int64} {o : Int} {pc pc' : Nat} {Ls : Array Slot} {rest : List Value} (hd : decode c.code pc = .ok (.ifCond cd o, 3)) (ho : 0 ≤ (pc : Int) + o) (hp : ((pc : Int) + o).toNat = pc')
    (hc : own_yes cd x y) (h1 : own_G p.tables e below F (T.setTop (mkF m pc' Ls rest))) : own_G p.tables e below F (T.setTop (mkF m pc Ls (.int (lcmpW x y) :: rest))) :=
  own_go (fun _ k => XS.ifYes X.here hx rfl (pc0 := pc) (pc' := pc') rfl hd rfl (own_hyL hc) ho hp k) h1
theorem own_lifN (X : Stand p l e R s m args below meth c T locs cells slots) (hx : p.tables.exec = Jvm.exec) {cd : ClassFile.Cond} {x y : Int64} {o : Int} {pc pn : Nat} {Ls : Array Slot} {rest : List Value} (hd : decode c.code pc = .ok (.ifCond cd o, 3)) (hq : pc + 3 = pn)
    (hc : own_no cd x y) (h1 : own_G p.tables e below F (T.setTop (mkF m pn Ls rest))) : own_G p.tables e below F (T.setTop (mkF m pc Ls (.int (lcmpW x y) :: rest))) := by
  subst hq
  exact own_go (fun _ k => XS.ifNo X.here hx rfl hd rfl (own_hnL hc) k) h1
theorem own_lif (X : Stand p l e R s m args below meth c T locs cells slots) (hx : p.tables.exec = Jvm.exec) {cd : ClassFile.Cond} {x y : Int64} {o : Int} {pc pc' pn : Nat} {Ls : Array Slot} {rest : List Value} (hd : decode c.code pc = .ok (.ifCond cd o, 3)) (ho : 0 ≤ (pc : Int) + o) (hp : ((pc : Int) + o).toNat = pc') (hq : pc + 3 = pn)
    (h1 : own_yes cd x y → own_G p.tables e below F (T.setTop (mkF m pc' Ls rest))) (h2 : own_no cd x y → own_G p.tables e below F (T.setTop (mkF m pn Ls rest))) : own_G p.tables e below F (T.setTop (mkF m pc Ls (.int (lcmpW x y) :: rest))) :=
  own_ynL.elim (fun q => own_lifY X hx hd ho hp q (h1 q)) (fun q => own_lifN X hx hd hq q (h2 q))
theorem own_ret (X : Stand p l e R s m args below meth c T locs cells slots) (hx : p.tables.exec = Jvm.exec) (hlk : meth.locks = false) {K N pc : Nat} {Ls : Array Slot} {w : Value} {t : FieldType} {i : Instr} {rest : List Value} {Q : Option Value → Heap → List Loc → Prop} (hret : meth.sig.returnType = some t) (hn : narrow t w = w)
    (hi : (i = .ireturn ∧ (t = .int ∨ t = .boolean ∨ t = .byte ∨ t = .char ∨ t = .short) ∧ ∃ z, w = .int z) ∨ (i = .lreturn ∧ t = .long ∧ ∃ z, w = .long z) ∨ (i = .dreturn ∧ t = .double ∧ ∃ z, w = .double z) ∨ (i = .freturn ∧ t = .float ∧ ∃ z, w = .float z) ∨ (i = .areturn ∧ t.isReference = true ∧ w.isRef = true))
    (hd : decode c.code pc = .ok (i, 1)) (hK : cells ≤ K) (hN : slots ≤ N) (hQ : Q (some w) T.heap locs) :
    own_G p.tables e below (fun o U' => ∃ v L, o = .returned v ∧ Q v U'.heap L ∧ FrameEnd s o U' L K N) (T.setTop (mkF m pc Ls (w :: rest))) := by
  obtain ⟨fs, hr, hrun, hended, hW, hsame⟩ := X.leave (v := some w) (fun h => by rw [hret] at h; cases h) hlk
  exact ⟨_, _, retOut X hx hret hn hi hd hr, hrun, hended, _, _, rfl, hQ, ⟨_, rfl⟩, hW, hsame.mono hK hN⟩
theorem own_retI (X : Stand p l e R s m args below meth c T locs cells slots) (hx : p.tables.exec = Jvm.exec) (hlk : meth.locks = false) {K N pc : Nat} {Ls : Array Slot} {z : Int32} {rest : List Value} {Q : Option Value → Heap → List Loc → Prop} (hret : meth.sig.returnType = some .int)
    (hd : decode c.code pc = .ok (.ireturn, 1)) (hK : cells ≤ K) (hN : slots ≤ N) (hQ : Q (some (.int z)) T.heap locs) :
    own_G p.tables e below (fun o U' => ∃ v L, o = .returned v ∧ Q v U'.heap L ∧ FrameEnd s o U' L K N) (T.setTop (mkF m pc Ls (.int z :: rest))) :=
  own_ret X hx hlk hret rfl (Or.inl ⟨rfl, Or.inl rfl, z, rfl⟩) hd hK hN hQ
theorem own_retZ (X : Stand p l e R s m args below meth c T locs cells slots) (hx : p.tables.exec = Jvm.exec) (hlk : meth.locks = false) {K N pc : Nat} {Ls : Array Slot} {z : Int32} {rest : List Value} {Q : Option Value → Heap → List Loc → Prop} (hret : meth.sig.returnType = some .boolean)
    (hd : decode c.code pc = .ok (.ireturn, 1)) (hz : z = 0 ∨ z = 1) (hK : cells ≤ K) (hN : slots ≤ N) (hQ : Q (some (.int z)) T.heap locs) :
    own_G p.tables e below (fun o U' => ∃ v L, o = .returned v ∧ Q v U'.heap L ∧ FrameEnd s o U' L K N) (T.setTop (mkF m pc Ls (.int z :: rest))) :=
  own_ret X hx hlk hret (by rcases hz with rfl | rfl <;> rfl) (Or.inl ⟨rfl, Or.inr (Or.inl rfl), z, rfl⟩) hd hK hN hQ
theorem own_retL (X : Stand p l e R s m args below meth c T locs cells slots) (hx : p.tables.exec = Jvm.exec) (hlk : meth.locks = false) {K N pc : Nat} {Ls : Array Slot} {z : Int64} {rest : List Value} {Q : Option Value → Heap → List Loc → Prop} (hret : meth.sig.returnType = some .long)
    (hd : decode c.code pc = .ok (.lreturn, 1)) (hK : cells ≤ K) (hN : slots ≤ N) (hQ : Q (some (.long z)) T.heap locs) :
    own_G p.tables e below (fun o U' => ∃ v L, o = .returned v ∧ Q v U'.heap L ∧ FrameEnd s o U' L K N) (T.setTop (mkF m pc Ls (.long z :: rest))) :=
  own_ret X hx hlk hret rfl (Or.inr (Or.inl ⟨rfl, rfl, z, rfl⟩)) hd hK hN hQ
theorem own_retA (X : Stand p l e R s m args below meth c T locs cells slots) (hx : p.tables.exec = Jvm.exec) (hlk : meth.locks = false) {K N pc : Nat} {Ls : Array Slot} {w : Value} {t : FieldType} {rest : List Value} {Q : Option Value → Heap → List Loc → Prop} (hret : meth.sig.returnType = some t) (ht : t.isReference = true) (hw : w.isRef = true)
    (hd : decode c.code pc = .ok (.areturn, 1)) (hK : cells ≤ K) (hN : slots ≤ N) (hQ : Q (some w) T.heap locs) :
    own_G p.tables e below (fun o U' => ∃ v L, o = .returned v ∧ Q v U'.heap L ∧ FrameEnd s o U' L K N) (T.setTop (mkF m pc Ls (w :: rest))) :=
  own_ret X hx hlk hret (by cases t <;> first | (cases ht; done) | (rcases ref_cases hw with rfl | ⟨z, rfl⟩ <;> rfl)) (Or.inr (Or.inr (Or.inr (Or.inr ⟨rfl, ht, hw⟩)))) hd hK hN hQ
theorem own_retV (X : Stand p l e R s m args below meth c T locs cells slots) (hx : p.tables.exec = Jvm.exec) (hlk : meth.locks = false) {K N pc : Nat} {Ls : Array Slot} {Q : Option Value → Heap → List Loc → Prop} (hret : meth.sig.returnType = none)
    (hd : decode c.code pc = .ok (.return_, 1)) (hK : cells ≤ K) (hN : slots ≤ N) (hQ : Q none T.heap locs) :
    own_G p.tables e below (fun o U' => ∃ v L, o = .returned v ∧ Q v U'.heap L ∧ FrameEnd s o U' L K N) (T.setTop (mkF m pc Ls [])) := by
  obtain ⟨fs, hr, hrun, hended, hW, hsame⟩ := X.leave (v := none) (fun _ => rfl) hlk
  exact ⟨_, _, X.returnOut hx hret hd hr, hrun, hended, _, _, rfl, hQ, ⟨_, rfl⟩, hW, hsame.mono hK hN⟩
theorem own_acmpVE (X : Stand p l e R s m args below meth c T locs cells slots) (hx : p.tables.exec = Jvm.exec) {cd : ACond} {x y : Value} (h1 : x.isRef = true) (h2 : y.isRef = true) {o : Int} {pc pc' : Nat} {Ls : Array Slot} {rest : List Value} (hd : decode c.code pc = .ok (.if_acmp cd o, 3)) (ho : 0 ≤ (pc : Int) + o) (hp : pc' = if acV cd true = true then ((pc : Int) + o).toNat else pc + 3)
    (hc : x = y) (k : own_G p.tables e below F (T.setTop (mkF m pc' Ls rest))) : own_G p.tables e below F (T.setTop (mkF m pc Ls (y :: x :: rest))) :=
  own_go (fun _ q => RoadKit.acmp X hx rfl h1 h2 (pc0 := pc) (pc' := pc') (same := true) rfl hd rfl (by simp [hc]) ho hp q) k
theorem own_acmpVD (X : Stand p l e R s m args below meth c T locs cells slots) (hx : p.tables.exec = Jvm.exec) {cd : ACond} {x y : Value} (h1 : x.isRef = true) (h2 : y.isRef = true) {o : Int} {pc pc' : Nat} {Ls : Array Slot} {rest : List Value} (hd : decode c.code pc = .ok (.if_acmp cd o, 3)) (ho : 0 ≤ (pc : Int) + o) (hp : pc' = if acV cd false = true then ((pc : Int) + o).toNat else pc + 3)
    (hc : ¬ x = y) (k : own_G p.tables e below F (T.setTop (mkF m pc' Ls rest))) : own_G p.tables e below F (T.setTop (mkF m pc Ls (y :: x :: rest))) :=
  own_go (fun _ q => RoadKit.acmp X hx rfl h1 h2 (pc0 := pc) (pc' := pc') (same := false) rfl hd rfl (by simp [hc]) ho hp q) k
theorem own_acmpAE (X : Stand p l e R s m args below meth c T locs cells slots) (hx : p.tables.exec = Jvm.exec) {cd : ACond} {x y : Addr} {o : Int} {pc pc' : Nat} {Ls : Array Slot} {rest : List Value} (hd : decode c.code pc = .ok (.if_acmp cd o, 3)) (ho : 0 ≤ (pc : Int) + o) (hp : pc' = if acV cd true = true then ((pc : Int) + o).toNat else pc + 3)
    (hc : x = y) (k : own_G p.tables e below F (T.setTop (mkF m pc' Ls rest))) : own_G p.tables e below F (T.setTop (mkF m pc Ls (.ref y :: .ref x :: rest))) :=
  own_acmpVE X hx rfl rfl hd ho hp (by rw [hc]) k
theorem own_acmpAD (X : Stand p l e R s m args below meth c T locs cells slots) (hx : p.tables.exec = Jvm.exec) {cd : ACond} {x y : Addr} {o : Int} {pc pc' : Nat} {Ls : Array Slot} {rest : List Value} (hd : decode c.code pc = .ok (.if_acmp cd o, 3)) (ho : 0 ≤ (pc : Int) + o) (hp : pc' = if acV cd false = true then ((pc : Int) + o).toNat else pc + 3)
    (hc : ¬ x = y) (k : own_G p.tables e below F (T.setTop (mkF m pc' Ls rest))) : own_G p.tables e below F (T.setTop (mkF m pc Ls (.ref y :: .ref x :: rest))) :=
  own_acmpVD X hx rfl rfl hd ho hp (fun q => hc (by cases q; rfl)) k
end Own
theorem own_cat1 {v : Value} (h : v.isRef = true) : v.category = 1 := by cases v <;> first | (cases h; done) | rfl
theorem own_sta_keep {Z : State} {h h' : Heap} {C n d : String} {v : Value} {ws : List Addr} (F : Sta Z h C n d v) (K : Keep h h' ws) (q : ∀ x ∈ ws, ∀ c : Cell, h[x]? = some c → c.vm.isStatics = false) : Sta Z h' C n d v := by
  obtain ⟨cf, i, k, f, st, cell, h1, h2, h3, h4, h5, h6, h7⟩ := F
  exact ⟨cf, i, k, f, st, cell, h1, h2, h3, h4, K.2.1 _ _ h5 (fun z => by rw [q _ z _ h5] at h6; cases h6), h6, h7⟩
theorem own_eqint {t : Term} {n : Int32} {args : Array Value} {s : State} (h : (Jvm.Cond.eq t (Term.int n)).value args s none s [] = some true) : t.eval args s none [] s = some (.int n) := by
  have hb : (Term.int n).eval args s none [] s = some (.int n) := Term.int_eval n
  simp only [Jvm.Cond.value, hb] at h
  cases ht : t.eval args s none [] s with
  | none => simp [ht] at h
  | some v => cases v <;> simp [ht] at h ⊢; exact h
theorem own_iconst {tb : Tables} [Ours tb] {e : Env} {below : List Frame} {T target : State} {m : MethodId} {c : Code} {g : JFrame} {v : Int32} (h : At T m c below) (hx : tb.exec = Jvm.exec) (hg : g.method = m) {i : Int} (hd : decode c.code g.pc = .ok (.iconst i, 1)) (hv : Int32.ofInt i = v)
    (hr : Steps tb e below (T.setTop { g with pc := g.pc + 1, stack := .int v :: g.stack }) target) : Steps tb e below (T.setTop g) target := by
  subst hv
  exact XS.iconst h hx hg hd hr
theorem own_bipush {tb : Tables} [Ours tb] {e : Env} {below : List Frame} {T target : State} {m : MethodId} {c : Code} {g : JFrame} {v : Int32} (h : At T m c below) (hx : tb.exec = Jvm.exec) (hg : g.method = m) {i : Int} (hd : decode c.code g.pc = .ok (.bipush i, 2)) (hv : (Int8.ofInt i).toInt32 = v)
    (hr : Steps tb e below (T.setTop { g with pc := g.pc + 2, stack := .int v :: g.stack }) target) : Steps tb e below (T.setTop g) target := by
  subst hv
  exact XS.bipush h hx hg hd hr
theorem own_sipush {tb : Tables} [Ours tb] {e : Env} {below : List Frame} {T target : State} {m : MethodId} {c : Code} {g : JFrame} {v : Int32} (h : At T m c below) (hx : tb.exec = Jvm.exec) (hg : g.method = m) {i : Int} (hd : decode c.code g.pc = .ok (.sipush i, 3)) (hv : (Int16.ofInt i).toInt32 = v)
    (hr : Steps tb e below (T.setTop { g with pc := g.pc + 3, stack := .int v :: g.stack }) target) : Steps tb e below (T.setTop g) target := by
  subst hv
  exact XS.sipush h hx hg hd hr
/-! own layer: arrays by their whole list of values -/
def own_Ar (Z : State) (h : Heap) (a : Addr) (ty : FieldType) (L : List Value) : Prop := ∃ c : Cell, Arr Z h a c ty ∧ c.slots.toList = L
section OwnArr
variable {Z : State} {h h' : Heap} {a b : Addr} {ty : FieldType} {L : List Value}
theorem own_Ar_new {cA : ClassId} {n : Int32} {N : Nat} (A : Arr Z h a (newA cA ty n) ty) (hN : n.toNatClampNeg = N) (hL : List.replicate N (defaultValue ty) = L) : own_Ar Z h a ty L := ⟨_, A, by rw [← hL, ← hN]; simp [newA]⟩
theorem own_Ar_ext (F : own_Ar Z h a ty L) (E : Ext h h') : own_Ar Z h' a ty L := by obtain ⟨c, A, r⟩ := F; exact ⟨c, A.ext E, r⟩
theorem own_Ar_other {sl : Nat} {v : Value} (F : own_Ar Z h b ty L) (W : Wr h h' a sl v) (q : b ≠ a) : own_Ar Z h' b ty L := by obtain ⟨c, A, r⟩ := F; exact ⟨c, A.other W q, r⟩
theorem own_Ar_keep {ws : List Addr} (F : own_Ar Z h a ty L) (K : Keep h h' ws) (q : a ∉ ws) : own_Ar Z h' a ty L := by obtain ⟨c, A, r⟩ := F; exact ⟨c, ⟨K.2.1 a c A.1 q, A.2⟩, r⟩
theorem own_Ar_lt (F : own_Ar Z h a ty L) : a < h.size := by obtain ⟨c, A, -⟩ := F; exact A.lt
theorem own_Ar_same {i : Nat} {v : Value} {L' : List Value} (F : own_Ar Z h a ty L) (W : Wr h h' a i v) (hL : L.set i v = L') : own_Ar Z h' a ty L' := by
  obtain ⟨c, A, r⟩ := F
  refine ⟨_, A.same W, ?_⟩
  rw [← hL, ← r]
  simp [Cell.setSlot]
theorem own_Ar_ne {C : String} {k : Nat} {a0 : Array Value} (E : Exa Z h b C) (wi : (Jvm.Cond.instantiable C k).before a0 Z = true) (F : own_Ar Z h a ty L) : b ≠ a := by obtain ⟨c, A, -⟩ := F; exact ne_arr E wi A
theorem own_in_of {c : Cell} {j : Int32} (r : c.slots.toList = L) (hj : ¬ j < 0) (hl : j.toNatClampNeg < L.length) : ¬ (j < 0 ∨ c.slots.size ≤ j.toNatClampNeg) := by
  have e : c.slots.size = L.length := by rw [← r]; simp
  rw [e]
  exact fun q => q.elim hj (fun z => absurd hl (Nat.not_lt.mpr z))
theorem own_at_of {c : Cell} {i : Nat} {v : Value} (r : c.slots.toList = L) (hv : L[i]? = some v) : c.slots[i]? = some v := by
  rw [← hv, ← r]; simp
theorem own_lt_of {i : Nat} {v : Value} (hv : L[i]? = some v) : i < L.length := (List.getElem?_eq_some_iff.mp hv).1
variable {p : Program} {l : Launch} {e : Env} {R : Room} {s : State} {m : MethodId} {args : Array Value} {below : List Frame} {meth : Method} {c : Code} {T : State} {locs : List Loc} {cells slots : Nat}
theorem own_stI (X : Stand p l e R s m args below meth c T locs cells slots) (hx : p.tables.exec = Jvm.exec) (hZ : Z.Warmed39 s.vm) (eT : T.heap = h) (F : own_Ar Z h a .int L) {j x : Int32} {i : Nat} (hi : j.toNatClampNeg = i) (hj : ¬ j < 0) (hl : i < L.length) {L' : List Value} (hL : L.set i (.int x) = L')
    {g : JFrame} (hg : g.method = m) {rest : List Value} (hs : g.stack = .int x :: .int j :: .ref a :: rest) (hd : decode c.code g.pc = .ok (.iastore, 1)) :
    ∃ T' h', Stand p l e R s m args below meth c T' (locs ++ [⟨a, i⟩]) cells slots ∧ T'.heap = h' ∧ Wr h h' a i (.int x) ∧ own_Ar Z h' a .int L' ∧ ∀ target, Steps p.tables e below (T'.setTop { g with pc := g.pc + 1, stack := rest }) target → Steps p.tables e below (T.setTop g) target := by
  subst hi
  obtain ⟨cl, A, r⟩ := F
  obtain ⟨T', h', X', e', W, st⟩ := stI X hx hZ eT A (own_in_of r hj hl) hg hs hd
  exact ⟨T', h', X', e', W, own_Ar_same ⟨cl, A, r⟩ W hL, st⟩
theorem own_ldI (X : Stand p l e R s m args below meth c T locs cells slots) (hx : p.tables.exec = Jvm.exec) (hZ : Z.Warmed39 s.vm) (eT : T.heap = h) (F : own_Ar Z h a .int L) {j : Int32} {v : Value} (hj : ¬ j < 0) (hv : L[j.toNatClampNeg]? = some v)
    {g : JFrame} (hg : g.method = m) {rest : List Value} (hs : g.stack = .int j :: .ref a :: rest) (hd : decode c.code g.pc = .ok (.iaload, 1)) :
    ∀ target, Steps p.tables e below (T.setTop { g with pc := g.pc + 1, stack := v :: rest }) target → Steps p.tables e below (T.setTop g) target := by
  obtain ⟨cl, A, r⟩ := F
  exact X.iaload hx (by rw [eT]; exact A.1) (State.isArrayOf_alike hZ.alike A.2.1) A.2.2 (own_in_of r hj (own_lt_of hv)) (own_at_of r hv) hg hs hd
theorem own_ldB (X : Stand p l e R s m args below meth c T locs cells slots) (hx : p.tables.exec = Jvm.exec) (hZ : Z.Warmed39 s.vm) (eT : T.heap = h) (F : own_Ar Z h a .byte L) {j : Int32} {v : Value} (hj : ¬ j < 0) (hv : L[j.toNatClampNeg]? = some v)
    {g : JFrame} (hg : g.method = m) {rest : List Value} (hs : g.stack = .int j :: .ref a :: rest) (hd : decode c.code g.pc = .ok (.baload, 1)) :
    ∀ target, Steps p.tables e below (T.setTop { g with pc := g.pc + 1, stack := v :: rest }) target → Steps p.tables e below (T.setTop g) target := by
  obtain ⟨cl, A, r⟩ := F
  exact X.baloadBytes hx (by rw [eT]; exact A.1) (State.isArrayOf_alike hZ.alike A.2.1) A.2.2 (own_in_of r hj (own_lt_of hv)) (own_at_of r hv) hg hs hd
theorem own_ldR (X : Stand p l e R s m args below meth c T locs cells slots) (hx : p.tables.exec = Jvm.exec) (hZ : Z.Warmed39 s.vm) (eT : T.heap = h) (F : own_Ar Z h a ty L) (hty : ty.isReference = true) {j : Int32} {v : Value} (hj : ¬ j < 0) (hv : L[j.toNatClampNeg]? = some v)
    {g : JFrame} (hg : g.method = m) {rest : List Value} (hs : g.stack = .int j :: .ref a :: rest) (hd : decode c.code g.pc = .ok (.aaload, 1)) :
    ∀ target, Steps p.tables e below (T.setTop { g with pc := g.pc + 1, stack := v :: rest }) target → Steps p.tables e below (T.setTop g) target := by
  obtain ⟨cl, A, r⟩ := F
  exact X.aaload hx (by rw [eT]; exact A.1) (State.isArrayOf_alike hZ.alike A.2.1) hty A.2.2 (own_in_of r hj (own_lt_of hv)) (own_at_of r hv) hg hs hd
theorem own_alen (X : Stand p l e R s m args below meth c T locs cells slots) (hx : p.tables.exec = Jvm.exec) (hZ : Z.Warmed39 s.vm) (eT : T.heap = h) (F : own_Ar Z h a ty L) {n : Int32} (hn : L.length.toInt32 = n)
    {g : JFrame} (hg : g.method = m) {rest : List Value} (hs : g.stack = .ref a :: rest) (hd : decode c.code g.pc = .ok (.arraylength, 1)) :
    ∀ target, Steps p.tables e below (T.setTop { g with pc := g.pc + 1, stack := .int n :: rest }) target → Steps p.tables e below (T.setTop g) target := by
  obtain ⟨cl, A, r⟩ := F
  have q : cl.slots.size.toInt32 = n := by rw [← hn, ← r]; simp
  rw [← q]
  exact fun t k => X.arraylength hx (by rw [eT]; exact A.1) (State.isArrayOf_alike hZ.alike A.2.1) hg hs hd t k
end OwnArr
/-! own layer: arrays of references -/
def own_Ao (Z : State) (h : Heap) (a : Addr) (C : String) (L : List Value) : Prop := ∃ c : Cell, Arr Z h a c (.object C) ∧ Ovr Z c.cls C ∧ c.slots.toList = L
section OwnArrO
variable {Z : State} {h h' : Heap} {a b : Addr} {C : String} {L : List Value}
theorem own_Ao_new {cA : ClassId} {n : Int32} (A : Arr Z h a (newA cA (.object C) n) (.object C)) (O : Ovr Z cA C) : own_Ao Z h a C (List.replicate n.toNatClampNeg .null) := ⟨_, A, O, by simp [newA, defaultValue]⟩
theorem own_Ao_ar (F : own_Ao Z h a C L) : own_Ar Z h a (.object C) L := by obtain ⟨c, A, -, r⟩ := F; exact ⟨c, A, r⟩
theorem own_Ao_ext (F : own_Ao Z h a C L) (E : Ext h h') : own_Ao Z h' a C L := by obtain ⟨c, A, r⟩ := F; exact ⟨c, A.ext E, r⟩
theorem own_Ao_other {sl : Nat} {v : Value} (F : own_Ao Z h b C L) (W : Wr h h' a sl v) (q : b ≠ a) : own_Ao Z h' b C L := by obtain ⟨c, A, r⟩ := F; exact ⟨c, A.other W q, r⟩
theorem own_Ao_keep {ws : List Addr} (F : own_Ao Z h a C L) (K : Keep h h' ws) (q : a ∉ ws) : own_Ao Z h' a C L := by obtain ⟨c, A, r⟩ := F; exact ⟨c, ⟨K.2.1 a c A.1 q, A.2⟩, r⟩
theorem own_Ao_lt (F : own_Ao Z h a C L) : a < h.size := by obtain ⟨c, A, -⟩ := F; exact A.lt
theorem own_Ao_same {i : Nat} {v : Value} (F : own_Ao Z h a C L) (W : Wr h h' a i v) : own_Ao Z h' a C (L.set i v) := by
  obtain ⟨c, A, O, r⟩ := F
  refine ⟨_, A.same W, O, ?_⟩
  rw [← r]
  simp [Cell.setSlot]
variable {p : Program} {l : Launch} {e : Env} {R : Room} {s : State} {m : MethodId} {args : Array Value} {below : List Frame} {meth : Method} {c : Code} {T : State} {locs : List Loc} {cells slots : Nat}
theorem own_stR (X : Stand p l e R s m args below meth c T locs cells slots) (hx : p.tables.exec = Jvm.exec) (hZ : Z.Warmed39 s.vm) (eT : T.heap = h) (F : own_Ao Z h a C L) {j : Int32} {v : Value} (hv : v = .null ∨ ∃ y, v = .ref y ∧ Ins Z h y C true) (hj : ¬ j < 0) (hl : j.toNatClampNeg < L.length)
    {g : JFrame} (hg : g.method = m) {rest : List Value} (hs : g.stack = v :: .int j :: .ref a :: rest) (hd : decode c.code g.pc = .ok (.aastore, 1)) :
    ∃ T' h', Stand p l e R s m args below meth c T' (locs ++ [⟨a, j.toNatClampNeg⟩]) cells slots ∧ T'.heap = h' ∧ Wr h h' a j.toNatClampNeg v ∧ own_Ao Z h' a C (L.set j.toNatClampNeg v) ∧ ∀ target, Steps p.tables e below (T'.setTop { g with pc := g.pc + 1, stack := rest }) target → Steps p.tables e below (T.setTop g) target := by
  obtain ⟨cl, A, O, r⟩ := F
  have S : Sto Z h a v := by
    rcases hv with rfl | ⟨y, rfl, I⟩
    · exact Or.inl rfl
    · exact Sto.of A O I
  obtain ⟨T', h', X', e', W, st⟩ := stR X hx hZ eT A (own_in_of r hj hl) rfl S hg hs hd
  exact ⟨T', h', X', e', W, own_Ao_same ⟨cl, A, O, r⟩ W, st⟩
end OwnArrO
/-! own layer: a bundle of boxed ints -/
def own_Bn (Z : State) (h : Heap) (l : List (Addr × Int32)) : Prop := ∀ x ∈ l, Exa Z h x.1 "java/lang/Integer" ∧ Fld Z h x.1 "java/lang/Integer" "value" "I" (.int x.2)
theorem own_Bn_keep {Z : State} {h h' : Heap} {l : List (Addr × Int32)} {ws : List Addr} (B : own_Bn Z h l) (K : Keep h h' ws) (q : ∀ x ∈ l, x.1 ∉ ws) : own_Bn Z h' l := fun x hx => ⟨(B x hx).1.keep K, (B x hx).2.keep K (q x hx)⟩
theorem own_Bn_exa {Z : State} {h : Heap} {l : List (Addr × Int32)} {a : Addr} {v : Int32} (B : own_Bn Z h l) (q : (a, v) ∈ l) : Exa Z h a "java/lang/Integer" := (B _ q).1
theorem own_Bn_fld {Z : State} {h : Heap} {l : List (Addr × Int32)} {a : Addr} {v : Int32} (B : own_Bn Z h l) (q : (a, v) ∈ l) : Fld Z h a "java/lang/Integer" "value" "I" (.int v) := (B _ q).2
theorem own_Bn_nil (Z : State) (h : Heap) : own_Bn Z h [] := fun _ q => nomatch q
theorem own_Bn_cons {Z : State} {h : Heap} {l : List (Addr × Int32)} {a : Addr} {v : Int32} (E : Exa Z h a "java/lang/Integer") (F : Fld Z h a "java/lang/Integer" "value" "I" (.int v)) (B : own_Bn Z h l) : own_Bn Z h ((a, v) :: l) := fun x hx => by
  rcases List.mem_cons.mp hx with rfl | q
  · exact ⟨E, F⟩
  · exact B x q
theorem own_lenL {L : List Value} {n : Nat} {z : Int32} (h : L.length = n) (h2 : n.toInt32 = z) : L.length.toInt32 = z := by rw [h]; exact h2
abbrev own_y1 : MethodName := ⟨"java/lang/Number", "<init>", "()V"⟩
abbrev own_y2 : MethodName := ⟨"java/lang/Integer", "<init>", "(I)V"⟩
abbrev own_y3 : MethodName := ⟨"java/lang/Integer", "intValue", "()I"⟩
abbrev own_y4 : MethodName := ⟨"java/lang/Integer", "valueOf", "(I)Ljava/lang/Integer;"⟩
abbrev own_y5 : MethodName := ⟨"com/example/pagemason/pagemason/core/Spares", "<init>", "(I)V"⟩
abbrev own_y6 : MethodName := ⟨"com/example/pagemason/pagemason/core/Spares", "take", "()Ljava/lang/Object;"⟩
abbrev own_y7 : MethodName := ⟨"com/example/pagemason/pagemason/core/SparesTakePinLaw", "same", "(Ljava/lang/Integer;Ljava/lang/Integer;)Z"⟩
abbrev own_y8 : MethodName := ⟨"java/lang/Math", "max", "(II)I"⟩
abbrev own_y9 : MethodName := ⟨"com/example/pagemason/pagemason/core/Spares", "keep", "(Ljava/lang/Object;)V"⟩
abbrev own_y10 : MethodName := ⟨"java/lang/Math", "min", "(II)I"⟩
theorem own_pd1 : parseMethodDescriptor "()V" = some ⟨[], none⟩ := by decide +kernel
theorem own_pd2 : parseMethodDescriptor "(I)V" = some ⟨[.int], none⟩ := by decide +kernel
theorem own_pd3 : parseMethodDescriptor "()I" = some ⟨[], (some .int)⟩ := by decide +kernel
theorem own_pd4 : parseMethodDescriptor "(I)Ljava/lang/Integer;" = some ⟨[.int], (some (.object "java/lang/Integer"))⟩ := by decide +kernel
theorem own_pd5 : parseMethodDescriptor "()Ljava/lang/Object;" = some ⟨[], (some (.object "java/lang/Object"))⟩ := by decide +kernel
theorem own_pd6 : parseMethodDescriptor "(Ljava/lang/Integer;Ljava/lang/Integer;)Z" = some ⟨[(.object "java/lang/Integer"), (.object "java/lang/Integer")], (some .boolean)⟩ := by decide +kernel
theorem own_pd7 : parseMethodDescriptor "(II)I" = some ⟨[.int, .int], (some .int)⟩ := by decide +kernel
theorem own_pd8 : parseMethodDescriptor "(Ljava/lang/Object;)V" = some ⟨[(.object "java/lang/Object")], none⟩ := by decide +kernel

def own_min (x y : Int32) : Int32 := if y < x then y else x
def own_max (x y : Int32) : Int32 := if x < y then y else x
theorem own_min_spec (x y : Int32) : (own_min x y).toInt = min x.toInt y.toInt := by
  unfold own_min
  split
  · rename_i h; rw [Int32.lt_iff_toInt_lt] at h; omega
  · rename_i h; rw [Int32.lt_iff_toInt_lt] at h; omega
theorem own_max_spec (x y : Int32) : (own_max x y).toInt = max x.toInt y.toInt := by
  unfold own_max
  split
  · rename_i h; rw [Int32.lt_iff_toInt_lt] at h; omega
  · rename_i h; rw [Int32.lt_iff_toInt_lt] at h; omega

def own_Cache (Z : State) (h : Heap) (ca : Addr) : Prop := ∃ L, own_Ar Z h ca (.object "java/lang/Integer") L ∧ ∀ j : Int32, ¬ j < (-128 : Int32) → ¬ (127 : Int32) < j → ∃ y, L[(j + (128 : Int32)).toNatClampNeg]? = some (.ref y) ∧ Exa Z h y "java/lang/Integer" ∧ Fld Z h y "java/lang/Integer" "value" "I" (.int j)
theorem own_Cache_keep {Z : State} {h h' : Heap} {ca : Addr} (F : own_Cache Z h ca) (K : Keep h h' []) : own_Cache Z h' ca := by
  obtain ⟨L, A, H⟩ := F
  refine ⟨L, own_Ar_keep A K nin0, fun j q1 q2 => ?_⟩
  obtain ⟨y, y1, y2, y3⟩ := H j q1 q2
  exact ⟨y, y1, y2.keep K, y3.keep K nin0⟩
theorem own_j128 {j : Int32} (q1 : ¬ j < (-128 : Int32)) (q2 : ¬ (127 : Int32) < j) : ¬ (j + (128 : Int32)) < 0 := by
  have a := c_iadd j (128 : Int32)
  have r := rng32 (j + (128 : Int32))
  have e0 : (0 : Int32).toInt = 0 := by decide
  have e1 : (128 : Int32).toInt = 128 := by decide
  have e2 : (-128 : Int32).toInt = -128 := by decide
  have e3 : (127 : Int32).toInt = 127 := by decide
  rw [Int32.lt_iff_toInt_lt] at *
  omega
theorem own_len {s : State} {args : Array Value} {t : Term} {a : Addr} {cl : Cell} {n : Int32} (ht : t.eval args s none [] s = some (.ref a)) (ha : s.arrayAt? a = some cl) (h : (Term.length t).eval args s none [] s = some (.int n)) : cl.slots.size < 2 ^ 31 ∧ cl.slots.size.toInt32 = n := by
  by_cases hl : cl.slots.size < 2 ^ 31
  · rw [len_f ht ha hl] at h
    exact ⟨hl, by cases h; rfl⟩
  · simp [Term.eval, ht, ha, hl] at h
theorem own_sub128 {s : State} {args : Array Value} {j : Int32} (nn : ¬ j < 0) : (Term.sub (Term.index (0 : Nat)) (Term.int (128 : Int32))).eval args s none [j.toNatClampNeg] s = some (.int (j - (128 : Int32))) := by
  simp [Term.eval]
  exact (back32 nn).1
theorem own_cache_of {s : State} {args : Array Value} {ca : Addr} (hf : Fit s) (ev : (Term.static "java/lang/Integer$IntegerCache" "cache" "[Ljava/lang/Integer;").eval args s none [] s = some (.ref ca))
    (h4 : (Jvm.Cond.arrayOf (Term.static "java/lang/Integer$IntegerCache" "cache" "[Ljava/lang/Integer;") (FieldType.object "java/lang/Integer")).value args s none s [] = some true)
    (h6 : (Jvm.Cond.eq (Term.length (Term.static "java/lang/Integer$IntegerCache" "cache" "[Ljava/lang/Integer;")) (Term.int (256 : Int32))).value args s none s [] = some true)
    (h7 : (Jvm.Cond.all (Term.static "java/lang/Integer$IntegerCache" "cache" "[Ljava/lang/Integer;") (Jvm.Cond.and (Jvm.Cond.exactly (Term.elem (Term.static "java/lang/Integer$IntegerCache" "cache" "[Ljava/lang/Integer;") (Term.index (0 : Nat))) "java/lang/Integer") (Jvm.Cond.eq (Term.field (Term.elem (Term.static "java/lang/Integer$IntegerCache" "cache" "[Ljava/lang/Integer;") (Term.index (0 : Nat))) "java/lang/Integer" "value" "I") (Term.sub (Term.index (0 : Nat)) (Term.int (128 : Int32)))))).value args s none s [] = some true) : own_Cache s s.heap ca := by
  obtain ⟨cl, A⟩ := Arr.start ev h4
  obtain ⟨z1, z2⟩ := own_len ev (A.fin (Vm.Alike.refl _)) (own_eqint h6)
  have B := Bxs.start (val := fun j => .int (j - (128 : Int32))) (fun _ => ev) A z1 z2 (by decide) h7 (fun X j nn q => eqv_i (own_sub128 nn) q)
  refine ⟨cl.slots.toList, ⟨cl, A, rfl⟩, fun j q1 q2 => ?_⟩
  have hj := own_j128 q1 q2
  have hk : (j + (128 : Int32)).toNatClampNeg < 256 := by
    have a := c_iadd j (128 : Int32)
    have r := rng32 (j + (128 : Int32))
    have w := nat_of hj
    have e0 : (0 : Int32).toInt = 0 := by decide
    have e1 : (128 : Int32).toInt = 128 := by decide
    have e2 : (-128 : Int32).toInt = -128 := by decide
    have e3 : (127 : Int32).toInt = 127 := by decide
    rw [Int32.lt_iff_toInt_lt] at *
    omega
  have hs : cl.slots.size = 256 := B.2.1
  obtain ⟨y, y1, y2, y3⟩ := B.2.2.2 (j + (128 : Int32)) (fun z => z.elim hj (fun u => absurd hk (by rw [hs] at u; exact Nat.not_lt.mpr u)))
  refine ⟨y, by rw [← y1]; simp, y2, ?_⟩
  have e : j + (128 : Int32) - (128 : Int32) = j := by simp
  have y3' : Fld s s.heap y "java/lang/Integer" "value" "I" (.int (j + (128 : Int32) - (128 : Int32))) := y3
  rw [e] at y3'
  exact y3'

theorem own_b3 {p z : Int32} (h : z = (p &&& (3 : Int32))) : ¬ z < 0 ∧ z.toNatClampNeg ≤ 3 := by
  have m := c_mask p (3 : Int32) 2 (by decide) (by decide)
  rw [← h] at m
  have e0 : (0 : Int32).toInt = 0 := by decide
  have q : ¬ z < 0 := by rw [Int32.lt_iff_toInt_lt]; omega
  have w := nat_of q
  exact ⟨q, by omega⟩
theorem own_c4 {p z : Int32} (h : z = (p &&& (3 : Int32))) : z = (0 : Int32) ∨ z = (1 : Int32) ∨ z = (2 : Int32) ∨ z = (3 : Int32) := by
  have m := c_mask p (3 : Int32) 2 (by decide) (by decide)
  rw [← h] at m
  have e0 : (0 : Int32).toInt = 0 := by decide
  have e1 : (1 : Int32).toInt = 1 := by decide
  have e2 : (2 : Int32).toInt = 2 := by decide
  have e3 : (3 : Int32).toInt = 3 := by decide
  rw [← Int32.toInt_inj, ← Int32.toInt_inj, ← Int32.toInt_inj, ← Int32.toInt_inj]
  omega
theorem own_c5 {p z : Int32} (h : z = ((((p.toUInt32 >>> ((2 : Int32) &&& 31).toUInt32).toInt32) &&& (7 : Int32)) % (5 : Int32))) : z = (0 : Int32) ∨ z = (1 : Int32) ∨ z = (2 : Int32) ∨ z = (3 : Int32) ∨ z = (4 : Int32) := by
  have m := c_mask ((p.toUInt32 >>> ((2 : Int32) &&& 31).toUInt32).toInt32) (7 : Int32) 3 (by decide) (by decide)
  have r := (c_irem (((p.toUInt32 >>> ((2 : Int32) &&& 31).toUInt32).toInt32) &&& (7 : Int32)) (5 : Int32) 5 (by decide)).1 (by omega)
  rw [← h] at r
  have e0 : (0 : Int32).toInt = 0 := by decide
  have e1 : (1 : Int32).toInt = 1 := by decide
  have e2 : (2 : Int32).toInt = 2 := by decide
  have e3 : (3 : Int32).toInt = 3 := by decide
  have e4 : (4 : Int32).toInt = 4 := by decide
  rw [← Int32.toInt_inj, ← Int32.toInt_inj, ← Int32.toInt_inj, ← Int32.toInt_inj, ← Int32.toInt_inj]
  omega
theorem own_v0 {v a : Int32} (h : a = 0) : v = v + a := by rw [h, Int32.add_zero]
theorem own_vi {v a i : Int32} (h : a = i) : v + i = v + a := by rw [h]

theorem own_num_d0 : decode jdk_18_method_1_code 0 = .ok (.aload_n 0, 1) := by decide +kernel
theorem own_num_d1 : decode jdk_18_method_1_code 1 = .ok (.invokespecial 1, 3) := by decide +kernel
theorem own_num_d4 : decode jdk_18_method_1_code 4 = .ok (.return_, 1) := by decide +kernel
theorem own_num_pn : plainName "java/lang/Number" = true := by first | (simp [plainName, overriddenIn]; done) | decide +kernel
theorem own_num_ef (m : MethodId) (ra : Addr) : entryFrame m #[(.ref ra)] 1 = mkF m 0 #[rv ra] [] := by first | (simp [entryFrame, mkF, argsToLocals, Value.category]; done) | rfl
def own_num_Q (Z : State) (ra : Addr) (h0 : Heap) (n0 : Nat) (v : Option Value) (h : Heap) (L : List Loc) : Prop := v = none ∧ Fr n0 L ∧ h = h0
set_option maxRecDepth 65536 in
set_option maxHeartbeats 40000000 in
theorem own_num (l : Launch) (Z : State) (a0 : Array Value) (hw : ∀ d ∈ tables_1, d.before a0 Z = true) (ws : List Jvm.Cond) (ra : Addr) (h0 : Heap) (n0 : Nat) :
    MetFree l own_y1 (head1 (Jvm.Cond.code own_y1 jdk_18_method_1_code 1 none :: ws) ({ frames := 1, cells := 0, slots := 0, locals := 12 } : Room)) (fun a U => a = #[(.ref ra)] ∧ Z.Warmed39 U.vm ∧ U.heap = h0) (fun _ _ _ _ _ => True) (fun _ U o U' => ∃ v L, o = .returned v ∧ (own_num_Q Z ra h0 n0) v U'.heap L ∧ FrameEnd U o U' L ({ frames := 1, cells := 0, slots := 0, locals := 12 } : Room).cells ({ frames := 1, cells := 0, slots := 0, locals := 12 } : Room).slots) := by
  refine MetFree.of_bodySF (plainFor_of_name own_num_pn) hisR ?_
  intro p e s m args below meth c s₁ Bd hml0 hP hK
  obtain ⟨rfl, hZ, hh⟩ := hP
  have hx := Bd.exec
  have hby := Bd.bytes
  have hml : c.maxLocals = 1 := hml0
  have hown : s.vm.findClass "java/lang/Number" = some m.cls := findClass_of_methodNamed Bd.named
  have hnm := (name_of_methodNamed Bd.named Bd.method).1
  have hlk : meth.locks = false := Bd.notSynchronized
  have X0 : Stand p l e ({ frames := 1, cells := 0, slots := 0, locals := 12 } : Room) s m #[(.ref ra)] below meth c s₁ [] 0 0 := Stand.of_body Bd
  have e0 : s₁.heap = h0 := by rw [← hh, Bd.state]; rfl
  have N0 := Fr.nil n0
  have w_17 := hw _ (List.mem_of_getElem? (l := tables_1) (i := 17) rfl)
  have w_18 := hw _ (List.mem_of_getElem? (l := tables_1) (i := 18) rfl)
  have w_57 := hw _ (List.mem_of_getElem? (l := tables_1) (i := 57) rfl)
  show own_G p.tables e below (fun o U' => ∃ v L, o = .returned v ∧ (own_num_Q Z ra h0 n0) v U'.heap L ∧ FrameEnd s o U' L ({ frames := 1, cells := 0, slots := 0, locals := 12 } : Room).cells ({ frames := 1, cells := 0, slots := 0, locals := 12 } : Room).slots) (s₁.setTop (entryFrame m #[(.ref ra)] 1))
  refine own_go (B := s₁.setTop (mkF m 0 #[rv ra] [])) (fun t k => castTop (own_num_ef m ra) k) ?_
  refine own_go (B := (s₁.setTop (mkF m 1 #[rv ra] [(.ref ra)]))) (fun t k => XS.aloadN X0.here hx rfl (hb hby own_num_d0) rfl rfl k) ?_
  obtain ⟨T1, X1, e1, st1⟩ := initO X0 hx hZ hown w_57 w_17 w_18 e0 (g := (mkF m 1 #[rv ra] [(.ref ra)])) rfl (by rw [hml]; rfl) rfl (hb hby own_num_d1) (by decide) (W := 0) (by show 2 * 0 + _ ≤ _; exact own_b rfl) (by decide)
  refine own_go (B := (T1.setTop (mkF m 4 #[rv ra] []))) st1 ?_
  exact own_retV X1 hx hlk Bd.returns (hb hby own_num_d4) (own_b rfl) (own_b rfl) (Q := (own_num_Q Z ra h0 n0)) ⟨rfl, N0, e1⟩

theorem own_ict_d0 : decode jdk_33_method_23_code 0 = .ok (.aload_n 0, 1) := by decide +kernel
theorem own_ict_d1 : decode jdk_33_method_23_code 1 = .ok (.invokespecial 202, 3) := by decide +kernel
theorem own_ict_d4 : decode jdk_33_method_23_code 4 = .ok (.aload_n 0, 1) := by decide +kernel
theorem own_ict_d5 : decode jdk_33_method_23_code 5 = .ok (.iload_n 1, 1) := by decide +kernel
theorem own_ict_d6 : decode jdk_33_method_23_code 6 = .ok (.putfield 205, 3) := by decide +kernel
theorem own_ict_d9 : decode jdk_33_method_23_code 9 = .ok (.return_, 1) := by decide +kernel
theorem own_ict_pn : plainName "java/lang/Integer" = true := by first | (simp [plainName, overriddenIn]; done) | decide +kernel
theorem own_ict_ef (m : MethodId) (th : Addr) (pv : Int32) : entryFrame m #[(.ref th), (.int pv)] 2 = mkF m 0 #[rv th, iv pv] [] := by first | (simp [entryFrame, mkF, argsToLocals, Value.category]; done) | rfl
def own_ict_Q (Z : State) (th : Addr) (pv : Int32) (h0 : Heap) (n0 : Nat) (v : Option Value) (h : Heap) (L : List Loc) : Prop := v = none ∧ Fr n0 L ∧ Keep h0 h [th] ∧ Exa Z h th "java/lang/Integer" ∧ Fld Z h th "java/lang/Integer" "value" "I" (.int pv)
set_option maxRecDepth 65536 in
set_option maxHeartbeats 40000000 in
theorem own_ict (l : Launch) (Z : State) (a0 : Array Value) (hw : ∀ d ∈ tables_1, d.before a0 Z = true) (ws : List Jvm.Cond) (th : Addr) (pv : Int32) (h0 : Heap) (n0 : Nat) (Z0 : n0 ≤ h0.size) (E0 : Exa Z h0 th "java/lang/Integer") (g0 : n0 ≤ th) (F9000 : Fld Z h0 th "java/lang/Integer" "value" "I" (.int (0 : Int32))) :
    MetFree l own_y2 (head1 (Jvm.Cond.code own_y2 jdk_33_method_23_code 2 none :: ws) ({ frames := 2, cells := 0, slots := 0, locals := 24 } : Room)) (fun a U => a = #[(.ref th), (.int pv)] ∧ Z.Warmed39 U.vm ∧ U.heap = h0) (fun _ _ _ _ _ => True) (fun _ U o U' => ∃ v L, o = .returned v ∧ (own_ict_Q Z th pv h0 n0) v U'.heap L ∧ FrameEnd U o U' L ({ frames := 2, cells := 0, slots := 0, locals := 24 } : Room).cells ({ frames := 2, cells := 0, slots := 0, locals := 24 } : Room).slots) := by
  refine MetFree.of_bodySF (plainFor_of_name own_ict_pn) hisR ?_
  intro p e s m args below meth c s₁ Bd hml0 hP hK
  obtain ⟨rfl, hZ, hh⟩ := hP
  have hx := Bd.exec
  have hby := Bd.bytes
  have hml : c.maxLocals = 2 := hml0
  have hown : s.vm.findClass "java/lang/Integer" = some m.cls := findClass_of_methodNamed Bd.named
  have hnm := (name_of_methodNamed Bd.named Bd.method).1
  have hlk : meth.locks = false := Bd.notSynchronized
  have X0 : Stand p l e ({ frames := 2, cells := 0, slots := 0, locals := 24 } : Room) s m #[(.ref th), (.int pv)] below meth c s₁ [] 0 0 := Stand.of_body Bd
  have e0 : s₁.heap = h0 := by rw [← hh, Bd.state]; rfl
  have N0 := Fr.nil n0
  have w_47 := hw _ (List.mem_of_getElem? (l := tables_1) (i := 47) rfl)
  have w_51 := hw _ (List.mem_of_getElem? (l := tables_1) (i := 51) rfl)
  have w_52 := hw _ (List.mem_of_getElem? (l := tables_1) (i := 52) rfl)
  have w_55 := hw _ (List.mem_of_getElem? (l := tables_1) (i := 55) rfl)
  have w_56 := hw _ (List.mem_of_getElem? (l := tables_1) (i := 56) rfl)
  have w_58 := hw _ (List.mem_of_getElem? (l := tables_1) (i := 58) rfl)
  have w_59 := hw _ (List.mem_of_getElem? (l := tables_1) (i := 59) rfl)
  show own_G p.tables e below (fun o U' => ∃ v L, o = .returned v ∧ (own_ict_Q Z th pv h0 n0) v U'.heap L ∧ FrameEnd s o U' L ({ frames := 2, cells := 0, slots := 0, locals := 24 } : Room).cells ({ frames := 2, cells := 0, slots := 0, locals := 24 } : Room).slots) (s₁.setTop (entryFrame m #[(.ref th), (.int pv)] 2))
  refine own_go (B := s₁.setTop (mkF m 0 #[rv th, iv pv] [])) (fun t k => castTop (own_ict_ef m th pv) k) ?_
  have K0 := Keep.refl h0 [th]
  refine own_go (B := (s₁.setTop (mkF m 1 #[rv th, iv pv] [(.ref th)]))) (fun t k => XS.aloadN X0.here hx rfl (hb hby own_ict_d0) rfl rfl k) ?_
  obtain ⟨_, _, ⟨T1, L1, k1, n1⟩, -, X1, ⟨Lc1, hQ1, l1, y1, z1⟩, st1⟩ := X0.specialBack hx (y := own_y1) rfl hown (mvT hZ w_51) (mvT hZ w_52) (mvT hZ w_56) (by decide) (backOf (W := 0) (own_num l Z a0 hw [] th h0 n0) hZ w_56 w_55 (by decide) (by decide)) (g := (mkF m 1 #[rv th, iv pv] [(.ref th)])) rfl (by rw [hml]; rfl) (Steps.refl _) (a := th) (argsL := []) (rest := []) (lenOf own_pd1 rfl) rfl (by show 2 * 0 + _ ≤ _; exact own_b rfl) (hb hby own_ict_d1) (fun _ _ => ⟨rfl, e0, (own_b rfl : 0 + 0 ≤ _), (own_b rfl : 0 + 0 ≤ _)⟩)
  dsimp only [Pt.U, Pt.locs, Pt.cells, Pt.slots] at X1 l1 y1 z1 st1 hQ1
  obtain ⟨rfl, Nq1, eq1⟩ := hQ1
  obtain ⟨L1, X1, N1⟩ := own_absC (K := 0) (K' := 0) X1 l1 y1 z1 N0 Nq1
  have e1 : T1.heap = h0 := eq1
  refine own_tr (B := (T1.setTop (mkF m 4 #[rv th, iv pv] []))) st1 ?_
  refine own_go (B := (T1.setTop (mkF m 5 #[rv th, iv pv] [(.ref th)]))) (fun t k => XS.aloadN X1.here hx rfl (hb hby own_ict_d4) rfl rfl k) ?_
  refine own_go (B := (T1.setTop (mkF m 6 #[rv th, iv pv] [(.int pv), (.ref th)]))) (fun t k => XS.iloadN X1.here hx rfl (hb hby own_ict_d5) rfl k) ?_
  obtain ⟨T2, h2, X2, e2, W2, st2⟩ := putF X1 hx hZ hown (host := "") (Or.inl w_58) Via.refl e1 F9000 E0 (Or.inr ⟨w_59, rfl, hnm⟩) w_47 (ty := .int) (by decide) rfl rfl (g := (mkF m 6 #[rv th, iv pv] [(.int pv), (.ref th)])) rfl rfl (hb hby own_ict_d6)
  refine own_go (B := (T2.setTop (mkF m 9 #[rv th, iv pv] []))) st2 ?_
  obtain ⟨L2, X2, N2⟩ := own_abs X2 (Fr.snoc X2 N1 g0)
  have F3 : n0 ≤ h2.size := by rw [W2.size]; exact Z0
  have F4 := Exa.wr W2 E0
  have F5 := Keep.wr K0 W2 (Or.inl (List.mem_of_getElem? (i := 0) rfl))
  have F6 := Fld.same W2 F9000
  exact own_retV X2 hx hlk Bd.returns (hb hby own_ict_d9) (own_b rfl) (own_b rfl) (Q := (own_ict_Q Z th pv h0 n0)) (by rw [e2]; exact ⟨rfl, N2, F5, F4, F6⟩)

theorem own_vo_d0 : decode jdk_33_method_22_code 0 = .ok (.iload_n 0, 1) := by decide +kernel
theorem own_vo_d1 : decode jdk_33_method_22_code 1 = .ok (.bipush (-128), 2) := by decide +kernel
theorem own_vo_d3 : decode jdk_33_method_22_code 3 = .ok (.if_icmp .lt 20, 3) := by decide +kernel
theorem own_vo_d6 : decode jdk_33_method_22_code 6 = .ok (.iload_n 0, 1) := by decide +kernel
theorem own_vo_d7 : decode jdk_33_method_22_code 7 = .ok (.getstatic 191, 3) := by decide +kernel
theorem own_vo_d10 : decode jdk_33_method_22_code 10 = .ok (.if_icmp .gt 13, 3) := by decide +kernel
theorem own_vo_d13 : decode jdk_33_method_22_code 13 = .ok (.getstatic 195, 3) := by decide +kernel
theorem own_vo_d16 : decode jdk_33_method_22_code 16 = .ok (.iload_n 0, 1) := by decide +kernel
theorem own_vo_d17 : decode jdk_33_method_22_code 17 = .ok (.sipush 128, 3) := by decide +kernel
theorem own_vo_d20 : decode jdk_33_method_22_code 20 = .ok (.iadd, 1) := by decide +kernel
theorem own_vo_d21 : decode jdk_33_method_22_code 21 = .ok (.aaload, 1) := by decide +kernel
theorem own_vo_d22 : decode jdk_33_method_22_code 22 = .ok (.areturn, 1) := by decide +kernel
theorem own_vo_d23 : decode jdk_33_method_22_code 23 = .ok (.new 1, 3) := by decide +kernel
theorem own_vo_d26 : decode jdk_33_method_22_code 26 = .ok (.dup, 1) := by decide +kernel
theorem own_vo_d27 : decode jdk_33_method_22_code 27 = .ok (.iload_n 0, 1) := by decide +kernel
theorem own_vo_d28 : decode jdk_33_method_22_code 28 = .ok (.invokespecial 199, 3) := by decide +kernel
theorem own_vo_d31 : decode jdk_33_method_22_code 31 = .ok (.areturn, 1) := by decide +kernel
theorem own_vo_pn : plainName "java/lang/Integer" = true := by first | (simp [plainName, overriddenIn]; done) | decide +kernel
theorem own_vo_ef (m : MethodId) (pi : Int32) : entryFrame m #[(.int pi)] 1 = mkF m 0 #[iv pi] [] := by first | (simp [entryFrame, mkF, argsToLocals, Value.category]; done) | rfl
def own_vo_Q (Z : State) (pi : Int32) (ca : Addr) (h0 : Heap) (n0 : Nat) (v : Option Value) (h : Heap) (L : List Loc) : Prop := ∃ a, v = some (.ref a) ∧ Fr n0 L ∧ Keep h0 h [] ∧ Exa Z h a "java/lang/Integer" ∧ Fld Z h a "java/lang/Integer" "value" "I" (.int pi)
set_option maxRecDepth 65536 in
set_option maxHeartbeats 40000000 in
theorem own_vo (l : Launch) (Z : State) (a0 : Array Value) (hw : ∀ d ∈ tables_1, d.before a0 Z = true) (ws : List Jvm.Cond) (pi : Int32) (ca : Addr) (h0 : Heap) (n0 : Nat) (Z0 : n0 ≤ h0.size) (S1 : Sta Z h0 "java/lang/Integer$IntegerCache" "high" "I" (.int (127 : Int32))) (S2 : Sta Z h0 "java/lang/Integer$IntegerCache" "cache" "[Ljava/lang/Integer;" (.ref ca)) (hC : own_Cache Z h0 ca) :
    MetFree l own_y4 (head1 (Jvm.Cond.code own_y4 jdk_33_method_22_code 1 (some (.object "java/lang/Integer")) :: ws) ({ frames := 3, cells := 1, slots := 1, locals := 38 } : Room)) (fun a U => a = #[(.int pi)] ∧ Z.Warmed39 U.vm ∧ U.heap = h0) (fun _ _ _ _ _ => True) (fun _ U o U' => ∃ v L, o = .returned v ∧ (own_vo_Q Z pi ca h0 n0) v U'.heap L ∧ FrameEnd U o U' L ({ frames := 3, cells := 1, slots := 1, locals := 38 } : Room).cells ({ frames := 3, cells := 1, slots := 1, locals := 38 } : Room).slots) := by
  refine MetFree.of_bodySF (plainFor_of_name own_vo_pn) hisR ?_
  intro p e s m args below meth c s₁ Bd hml0 hP hK
  obtain ⟨rfl, hZ, hh⟩ := hP
  have hx := Bd.exec
  have hby := Bd.bytes
  have hml : c.maxLocals = 1 := hml0
  have hown : s.vm.findClass "java/lang/Integer" = some m.cls := findClass_of_methodNamed Bd.named
  have hnm := (name_of_methodNamed Bd.named Bd.method).1
  have hlk : meth.locks = false := Bd.notSynchronized
  have X0 : Stand p l e ({ frames := 3, cells := 1, slots := 1, locals := 38 } : Room) s m #[(.int pi)] below meth c s₁ [] 0 0 := Stand.of_body Bd
  have e0 : s₁.heap = h0 := by rw [← hh, Bd.state]; rfl
  have N0 := Fr.nil n0
  have w_2 := hw _ (List.mem_of_getElem? (l := tables_1) (i := 2) rfl)
  have w_4 := hw _ (List.mem_of_getElem? (l := tables_1) (i := 4) rfl)
  have w_6 := hw _ (List.mem_of_getElem? (l := tables_1) (i := 6) rfl)
  have w_46 := hw _ (List.mem_of_getElem? (l := tables_1) (i := 46) rfl)
  have w_47 := hw _ (List.mem_of_getElem? (l := tables_1) (i := 47) rfl)
  have w_48 := hw _ (List.mem_of_getElem? (l := tables_1) (i := 48) rfl)
  have w_49 := hw _ (List.mem_of_getElem? (l := tables_1) (i := 49) rfl)
  have w_50 := hw _ (List.mem_of_getElem? (l := tables_1) (i := 50) rfl)
  have w_59 := hw _ (List.mem_of_getElem? (l := tables_1) (i := 59) rfl)
  show own_G p.tables e below (fun o U' => ∃ v L, o = .returned v ∧ (own_vo_Q Z pi ca h0 n0) v U'.heap L ∧ FrameEnd s o U' L ({ frames := 3, cells := 1, slots := 1, locals := 38 } : Room).cells ({ frames := 3, cells := 1, slots := 1, locals := 38 } : Room).slots) (s₁.setTop (entryFrame m #[(.int pi)] 1))
  refine own_go (B := s₁.setTop (mkF m 0 #[iv pi] [])) (fun t k => castTop (own_vo_ef m pi) k) ?_
  have K0 := Keep.refl h0 []
  obtain ⟨Lc, hCA, hCL⟩ := hC
  refine own_go (B := (s₁.setTop (mkF m 1 #[iv pi] [(.int pi)]))) (fun t k => XS.iloadN X0.here hx rfl (hb hby own_vo_d0) rfl k) ?_
  refine own_go (B := (s₁.setTop (mkF m 3 #[iv pi] [(.int (-128 : Int32)), (.int pi)]))) (fun t k => own_bipush (v := (-128 : Int32)) X0.here hx rfl (hb hby own_vo_d1) (by decide) k) ?_
  refine own_icmp X0 hx (hb hby own_vo_d3) (pc' := 23) (pn := 6) (by decide) (by decide) rfl (fun (hc3 : pi < (-128 : Int32)) => ?_) (fun (hc3 : ¬ pi < (-128 : Int32)) => ?_)
  · obtain ⟨T1, h1, X1, e1, E1, A1, D1, U1, st1⟩ := newO X0 hx hZ hown w_46 w_47 w_2 e0 (g := (mkF m 23 #[iv pi] [])) rfl (hb hby own_vo_d23) (own_b rfl) (own_b rfl)
    obtain ⟨a1, ga1⟩ : ∃ z, z = h0.size := ⟨_, rfl⟩
    rw [← ga1] at A1 D1 U1 st1
    refine own_go (B := (T1.setTop (mkF m 26 #[iv pi] [(.ref a1)]))) st1 ?_
    have Z2 : n0 ≤ h1.size := Nat.le_trans Z0 E1.1
    have K3 := Keep.ext K0 E1
    have gn1 : n0 ≤ a1 := Nat.le_trans Z0 (Nat.le_of_eq ga1.symm)
    have F4 : Fld Z h1 a1 "java/lang/Integer" "value" "I" (.int (0 : Int32)) := D1 (Or.inr w_59) (ty := .int) (by decide)
    refine own_go (B := (T1.setTop (mkF m 27 #[iv pi] [(.ref a1), (.ref a1)]))) (fun t k => XS.dup X1.here hx rfl (hb hby own_vo_d26) rfl rfl k) ?_
    refine own_go (B := (T1.setTop (mkF m 28 #[iv pi] [(.int pi), (.ref a1), (.ref a1)]))) (fun t k => XS.iloadN X1.here hx rfl (hb hby own_vo_d27) rfl k) ?_
    obtain ⟨_, _, ⟨T5, L5, k5, n5⟩, -, X5, ⟨Lc5, hQ5, l5, y5, z5⟩, st5⟩ := X1.specialBack hx (y := own_y2) rfl hown (mvT hZ w_48) (mvT hZ w_49) (mvT hZ w_50) (by decide) (backOf (W := 1) (own_ict l Z a0 hw [] a1 pi h1 n0 Z2 A1 gn1 F4) hZ w_50 w_2 (by decide) (by decide)) (g := (mkF m 28 #[iv pi] [(.int pi), (.ref a1), (.ref a1)])) rfl (by rw [hml]; rfl) (Steps.refl _) (a := a1) (argsL := [(.int pi)]) (rest := [(.ref a1)]) (lenOf own_pd2 rfl) rfl (by show 2 * 0 + _ ≤ _; exact own_b rfl) (hb hby own_vo_d28) (fun _ _ => ⟨rfl, e1, (own_b rfl : 1 + 0 ≤ _), (own_b rfl : 1 + 0 ≤ _)⟩)
    dsimp only [Pt.U, Pt.locs, Pt.cells, Pt.slots] at X5 l5 y5 z5 st5 hQ5
    obtain ⟨rfl, Nq5, K5, Ex5, g0_5⟩ := hQ5
    obtain ⟨L5, X5, N5⟩ := own_absC (K := 1) (K' := 1) X5 l5 y5 z5 N0 Nq5
    have F6 : n0 ≤ T5.heap.size := Nat.le_trans Z2 K5.1
    have F7 := Keep.trans K3 K5 (allS (Or.inr (Nat.le_trans K0.1 (Nat.le_of_eq ga1.symm))) all0)
    have F8 := Exa.keep A1 K5
    refine own_tr (B := (T5.setTop (mkF m 31 #[iv pi] [(.ref a1)]))) st5 ?_
    exact own_retA X5 hx hlk Bd.returns rfl rfl (hb hby own_vo_d31) (own_b rfl) (own_b rfl) (Q := (own_vo_Q Z pi ca h0 n0)) ⟨a1, rfl, N5, F7, Ex5, g0_5⟩
  · refine own_go (B := (s₁.setTop (mkF m 7 #[iv pi] [(.int pi)]))) (fun t k => XS.iloadN X0.here hx rfl (hb hby own_vo_d6) rfl k) ?_
    obtain ⟨T10, X10, e10, st10⟩ := getS X0 hx hZ hown (host := "") w_4 Via.refl e0 S1 (g := (mkF m 7 #[iv pi] [(.int pi)])) rfl (hb hby own_vo_d7)
    refine own_go (B := (T10.setTop (mkF m 10 #[iv pi] [(.int (127 : Int32)), (.int pi)]))) st10 ?_
    refine own_icmp X10 hx (hb hby own_vo_d10) (pc' := 23) (pn := 13) (by decide) (by decide) rfl (fun (hc10 : (127 : Int32) < pi) => ?_) (fun (hc10 : ¬ (127 : Int32) < pi) => ?_)
    · obtain ⟨T11, h11, X11, e11, E11, A11, D11, U11, st11⟩ := newO X10 hx hZ hown w_46 w_47 w_2 e10 (g := (mkF m 23 #[iv pi] [])) rfl (hb hby own_vo_d23) (own_b rfl) (own_b rfl)
      obtain ⟨a11, ga11⟩ : ∃ z, z = h0.size := ⟨_, rfl⟩
      rw [← ga11] at A11 D11 U11 st11
      refine own_go (B := (T11.setTop (mkF m 26 #[iv pi] [(.ref a11)]))) st11 ?_
      have Z12 : n0 ≤ h11.size := Nat.le_trans Z0 E11.1
      have K13 := Keep.ext K0 E11
      have gn11 : n0 ≤ a11 := Nat.le_trans Z0 (Nat.le_of_eq ga11.symm)
      have F14 : Fld Z h11 a11 "java/lang/Integer" "value" "I" (.int (0 : Int32)) := D11 (Or.inr w_59) (ty := .int) (by decide)
      refine own_go (B := (T11.setTop (mkF m 27 #[iv pi] [(.ref a11), (.ref a11)]))) (fun t k => XS.dup X11.here hx rfl (hb hby own_vo_d26) rfl rfl k) ?_
      refine own_go (B := (T11.setTop (mkF m 28 #[iv pi] [(.int pi), (.ref a11), (.ref a11)]))) (fun t k => XS.iloadN X11.here hx rfl (hb hby own_vo_d27) rfl k) ?_
      obtain ⟨_, _, ⟨T15, L15, k15, n15⟩, -, X15, ⟨Lc15, hQ15, l15, y15, z15⟩, st15⟩ := X11.specialBack hx (y := own_y2) rfl hown (mvT hZ w_48) (mvT hZ w_49) (mvT hZ w_50) (by decide) (backOf (W := 1) (own_ict l Z a0 hw [] a11 pi h11 n0 Z12 A11 gn11 F14) hZ w_50 w_2 (by decide) (by decide)) (g := (mkF m 28 #[iv pi] [(.int pi), (.ref a11), (.ref a11)])) rfl (by rw [hml]; rfl) (Steps.refl _) (a := a11) (argsL := [(.int pi)]) (rest := [(.ref a11)]) (lenOf own_pd2 rfl) rfl (by show 2 * 0 + _ ≤ _; exact own_b rfl) (hb hby own_vo_d28) (fun _ _ => ⟨rfl, e11, (own_b rfl : 1 + 0 ≤ _), (own_b rfl : 1 + 0 ≤ _)⟩)
      dsimp only [Pt.U, Pt.locs, Pt.cells, Pt.slots] at X15 l15 y15 z15 st15 hQ15
      obtain ⟨rfl, Nq15, K15, Ex15, g0_15⟩ := hQ15
      obtain ⟨L15, X15, N15⟩ := own_absC (K := 1) (K' := 1) X15 l15 y15 z15 N0 Nq15
      have F16 : n0 ≤ T15.heap.size := Nat.le_trans Z12 K15.1
      have F17 := Keep.trans K13 K15 (allS (Or.inr (Nat.le_trans K0.1 (Nat.le_of_eq ga11.symm))) all0)
      have F18 := Exa.keep A11 K15
      refine own_tr (B := (T15.setTop (mkF m 31 #[iv pi] [(.ref a11)]))) st15 ?_
      exact own_retA X15 hx hlk Bd.returns rfl rfl (hb hby own_vo_d31) (own_b rfl) (own_b rfl) (Q := (own_vo_Q Z pi ca h0 n0)) ⟨a11, rfl, N15, F17, Ex15, g0_15⟩
    · obtain ⟨T20, X20, e20, st20⟩ := getS X10 hx hZ hown (host := "") w_6 Via.refl e10 S2 (g := (mkF m 13 #[iv pi] [])) rfl (hb hby own_vo_d13)
      refine own_go (B := (T20.setTop (mkF m 16 #[iv pi] [(.ref ca)]))) st20 ?_
      refine own_go (B := (T20.setTop (mkF m 17 #[iv pi] [(.int pi), (.ref ca)]))) (fun t k => XS.iloadN X20.here hx rfl (hb hby own_vo_d16) rfl k) ?_
      refine own_go (B := (T20.setTop (mkF m 20 #[iv pi] [(.int (128 : Int32)), (.int pi), (.ref ca)]))) (fun t k => own_sipush (v := (128 : Int32)) X20.here hx rfl (hb hby own_vo_d17) (by decide) k) ?_
      refine own_go (B := (T20.setTop (mkF m 21 #[iv pi] [(.int (pi + (128 : Int32))), (.ref ca)]))) (fun t k => XS.iadd (x := pi) (y := (128 : Int32)) X20.here hx rfl (hb hby own_vo_d20) rfl k) ?_
      obtain ⟨y, hy1, hy2, hy3⟩ := hCL _ hc3 hc10
      refine own_go (B := (T20.setTop (mkF m 22 #[iv pi] [(.ref y)]))) (own_ldR X20 hx hZ e20 hCA rfl (v := (.ref y)) (own_j128 hc3 hc10) hy1 (g := (mkF m 21 #[iv pi] [(.int (pi + (128 : Int32))), (.ref ca)])) rfl rfl (hb hby own_vo_d21)) ?_
      exact own_retA X20 hx hlk Bd.returns rfl rfl (hb hby own_vo_d22) (own_b rfl) (own_b rfl) (Q := (own_vo_Q Z pi ca h0 n0)) (by rw [e20]; exact ⟨y, rfl, N0, K0, hy2, hy3⟩)

theorem own_sct_d0 : decode prog_71_method_1_code 0 = .ok (.aload_n 0, 1) := by decide +kernel
theorem own_sct_d1 : decode prog_71_method_1_code 1 = .ok (.invokespecial 1, 3) := by decide +kernel
theorem own_sct_d4 : decode prog_71_method_1_code 4 = .ok (.aload_n 0, 1) := by decide +kernel
theorem own_sct_d5 : decode prog_71_method_1_code 5 = .ok (.iload_n 1, 1) := by decide +kernel
theorem own_sct_d6 : decode prog_71_method_1_code 6 = .ok (.anewarray 2, 3) := by decide +kernel
theorem own_sct_d9 : decode prog_71_method_1_code 9 = .ok (.putfield 7, 3) := by decide +kernel
theorem own_sct_d12 : decode prog_71_method_1_code 12 = .ok (.return_, 1) := by decide +kernel
theorem own_sct_pn : plainName "com/example/pagemason/pagemason/core/Spares" = true := by first | (simp [plainName, overriddenIn]; done) | decide +kernel
theorem own_sct_ef (m : MethodId) (th : Addr) (pn : Int32) : entryFrame m #[(.ref th), (.int pn)] 2 = mkF m 0 #[rv th, iv pn] [] := by first | (simp [entryFrame, mkF, argsToLocals, Value.category]; done) | rfl
def own_sct_Q (Z : State) (th : Addr) (pn : Int32) (h0 : Heap) (n0 : Nat) (v : Option Value) (h : Heap) (L : List Loc) : Prop := v = none ∧ Fr n0 L ∧ Keep h0 h [th] ∧ Exa Z h th "com/example/pagemason/pagemason/core/Spares" ∧ ∃ ar, h0.size ≤ ar ∧ Fld Z h th "com/example/pagemason/pagemason/core/Spares" "kept" "[Ljava/lang/Object;" (.ref ar) ∧ Fld Z h th "com/example/pagemason/pagemason/core/Spares" "count" "I" (.int (0 : Int32)) ∧ own_Ao Z h ar "java/lang/Object" (List.replicate pn.toNatClampNeg .null)
set_option maxRecDepth 65536 in
set_option maxHeartbeats 40000000 in
theorem own_sct (l : Launch) (Z : State) (a0 : Array Value) (hw : ∀ d ∈ tables_1, d.before a0 Z = true) (ws : List Jvm.Cond) (th : Addr) (pn : Int32) (h0 : Heap) (n0 : Nat) (Z0 : n0 ≤ h0.size) (E0 : Exa Z h0 th "com/example/pagemason/pagemason/core/Spares") (g0 : n0 ≤ th) (F9000 : Fld Z h0 th "com/example/pagemason/pagemason/core/Spares" "kept" "[Ljava/lang/Object;" .null) (F9001 : Fld Z h0 th "com/example/pagemason/pagemason/core/Spares" "count" "I" (.int (0 : Int32))) (q1 : ¬ pn < 0) (q2 : pn.toNatClampNeg ≤ 3) :
    MetFree l own_y5 (head1 (Jvm.Cond.code own_y5 prog_71_method_1_code 2 none :: ws) ({ frames := 1, cells := 1, slots := 3, locals := 12 } : Room)) (fun a U => a = #[(.ref th), (.int pn)] ∧ Z.Warmed39 U.vm ∧ U.heap = h0) (fun _ _ _ _ _ => True) (fun _ U o U' => ∃ v L, o = .returned v ∧ (own_sct_Q Z th pn h0 n0) v U'.heap L ∧ FrameEnd U o U' L ({ frames := 1, cells := 1, slots := 3, locals := 12 } : Room).cells ({ frames := 1, cells := 1, slots := 3, locals := 12 } : Room).slots) := by
  refine MetFree.of_bodySF (plainFor_of_name own_sct_pn) hisR ?_
  intro p e s m args below meth c s₁ Bd hml0 hP hK
  obtain ⟨rfl, hZ, hh⟩ := hP
  have hx := Bd.exec
  have hby := Bd.bytes
  have hml : c.maxLocals = 2 := hml0
  have hown : s.vm.findClass "com/example/pagemason/pagemason/core/Spares" = some m.cls := findClass_of_methodNamed Bd.named
  have hnm := (name_of_methodNamed Bd.named Bd.method).1
  have hlk : meth.locks = false := Bd.notSynchronized
  have X0 : Stand p l e ({ frames := 1, cells := 1, slots := 3, locals := 12 } : Room) s m #[(.ref th), (.int pn)] below meth c s₁ [] 0 0 := Stand.of_body Bd
  have e0 : s₁.heap = h0 := by rw [← hh, Bd.state]; rfl
  have N0 := Fr.nil n0
  have w_11 := hw _ (List.mem_of_getElem? (l := tables_1) (i := 11) rfl)
  have w_16 := hw _ (List.mem_of_getElem? (l := tables_1) (i := 16) rfl)
  have w_17 := hw _ (List.mem_of_getElem? (l := tables_1) (i := 17) rfl)
  have w_18 := hw _ (List.mem_of_getElem? (l := tables_1) (i := 18) rfl)
  have w_19 := hw _ (List.mem_of_getElem? (l := tables_1) (i := 19) rfl)
  have w_20 := hw _ (List.mem_of_getElem? (l := tables_1) (i := 20) rfl)
  have w_21 := hw _ (List.mem_of_getElem? (l := tables_1) (i := 21) rfl)
  have w_22 := hw _ (List.mem_of_getElem? (l := tables_1) (i := 22) rfl)
  have w_33 := hw _ (List.mem_of_getElem? (l := tables_1) (i := 33) rfl)
  show own_G p.tables e below (fun o U' => ∃ v L, o = .returned v ∧ (own_sct_Q Z th pn h0 n0) v U'.heap L ∧ FrameEnd s o U' L ({ frames := 1, cells := 1, slots := 3, locals := 12 } : Room).cells ({ frames := 1, cells := 1, slots := 3, locals := 12 } : Room).slots) (s₁.setTop (entryFrame m #[(.ref th), (.int pn)] 2))
  refine own_go (B := s₁.setTop (mkF m 0 #[rv th, iv pn] [])) (fun t k => castTop (own_sct_ef m th pn) k) ?_
  have K0 := Keep.refl h0 [th]
  refine own_go (B := (s₁.setTop (mkF m 1 #[rv th, iv pn] [(.ref th)]))) (fun t k => XS.aloadN X0.here hx rfl (hb hby own_sct_d0) rfl rfl k) ?_
  obtain ⟨T1, X1, e1, st1⟩ := initO X0 hx hZ hown w_16 w_17 w_18 e0 (g := (mkF m 1 #[rv th, iv pn] [(.ref th)])) rfl (by rw [hml]; rfl) rfl (hb hby own_sct_d1) (by decide) (W := 0) (by show 2 * 0 + _ ≤ _; exact own_b rfl) (by decide)
  refine own_go (B := (T1.setTop (mkF m 4 #[rv th, iv pn] []))) st1 ?_
  refine own_go (B := (T1.setTop (mkF m 5 #[rv th, iv pn] [(.ref th)]))) (fun t k => XS.aloadN X1.here hx rfl (hb hby own_sct_d4) rfl rfl k) ?_
  refine own_go (B := (T1.setTop (mkF m 6 #[rv th, iv pn] [(.int pn), (.ref th)]))) (fun t k => XS.iloadN X1.here hx rfl (hb hby own_sct_d5) rfl k) ?_
  obtain ⟨T2, h2, c2, X2, e2, E2, A2, O2, st2⟩ := newR X1 hx hZ hown w_19 w_20 e1 (g := (mkF m 6 #[rv th, iv pn] [(.int pn), (.ref th)])) rfl (hb hby own_sct_d6) rfl q1 (cap := 3) q2 (by decide) (own_b rfl) (own_b rfl)
  obtain ⟨a2, ga2⟩ : ∃ z, z = h0.size := ⟨_, rfl⟩
  rw [← ga2] at A2 st2
  refine own_go (B := (T2.setTop (mkF m 9 #[rv th, iv pn] [(.ref a2), (.ref th)]))) st2 ?_
  have Z3 : n0 ≤ h2.size := Nat.le_trans Z0 E2.1
  have F4 := Exa.ext E2 E0
  have K5 := Keep.ext K0 E2
  have F6 := Fld.ext E2 F9000
  have F7 := Fld.ext E2 F9001
  have gn2 : n0 ≤ a2 := Nat.le_trans Z0 (Nat.le_of_eq ga2.symm)
  have ne2_th : a2 ≠ th := fun q => absurd (E0.lt) (by rw [← q, ga2]; exact Nat.lt_irrefl _)
  have V2 := own_Ao_new A2 O2
  obtain ⟨T8, h8, X8, e8, W8, st8⟩ := putF X2 hx hZ hown (host := "") (Or.inl w_21) Via.refl e2 F6 F4 (Or.inr ⟨w_22, rfl, hnm⟩) w_11 (ty := (.array (.object "java/lang/Object"))) (by decide) rfl rfl (g := (mkF m 9 #[rv th, iv pn] [(.ref a2), (.ref th)])) rfl rfl (hb hby own_sct_d9)
  refine own_go (B := (T8.setTop (mkF m 12 #[rv th, iv pn] []))) st8 ?_
  obtain ⟨L8, X8, N8⟩ := own_abs X8 (Fr.snoc X8 N0 g0)
  have F9 : n0 ≤ h8.size := by rw [W8.size]; exact Z3
  have F10 := Exa.wr W8 F4
  have F11 := Keep.wr K5 W8 (Or.inl (List.mem_of_getElem? (i := 0) rfl))
  have F12 := Fld.same W8 F6
  have F13 := Fld.other W8 F7 (Or.inr (slot_ne (t := .int) (t' := (.array (.object "java/lang/Object"))) (Or.inl w_33) (Or.inr w_22) (by decide) (by decide) (by decide)))
  have F14 := own_Ao_other V2 W8 ne2_th
  exact own_retV X8 hx hlk Bd.returns (hb hby own_sct_d12) (own_b rfl) (own_b rfl) (Q := (own_sct_Q Z th pn h0 n0)) (by rw [e8]; exact ⟨rfl, N8, F11, F10, a2, Nat.le_of_eq ga2.symm, F12, F13, F14⟩)

theorem own_kfull_d0 : decode prog_71_method_2_code 0 = .ok (.aload_n 0, 1) := by decide +kernel
theorem own_kfull_d1 : decode prog_71_method_2_code 1 = .ok (.getfield 13, 3) := by decide +kernel
theorem own_kfull_d4 : decode prog_71_method_2_code 4 = .ok (.aload_n 0, 1) := by decide +kernel
theorem own_kfull_d5 : decode prog_71_method_2_code 5 = .ok (.getfield 7, 3) := by decide +kernel
theorem own_kfull_d8 : decode prog_71_method_2_code 8 = .ok (.arraylength, 1) := by decide +kernel
theorem own_kfull_d9 : decode prog_71_method_2_code 9 = .ok (.if_icmp .ge 20, 3) := by decide +kernel
theorem own_kfull_d29 : decode prog_71_method_2_code 29 = .ok (.return_, 1) := by decide +kernel
theorem own_kfull_pn : plainName "com/example/pagemason/pagemason/core/Spares" = true := by first | (simp [plainName, overriddenIn]; done) | decide +kernel
theorem own_kfull_ef (m : MethodId) (th : Addr) (xx : Addr) : entryFrame m #[(.ref th), (.ref xx)] 2 = mkF m 0 #[rv th, rv xx] [] := by first | (simp [entryFrame, mkF, argsToLocals, Value.category]; done) | rfl
def own_kfull_Q (Z : State) (th : Addr) (xx : Addr) (ar : Addr) (cn ln : Int32) (Lv : List Value) (h0 : Heap) (n0 : Nat) (v : Option Value) (h : Heap) (L : List Loc) : Prop := v = none ∧ Fr n0 L ∧ h = h0
set_option maxRecDepth 65536 in
set_option maxHeartbeats 40000000 in
theorem own_kfull (l : Launch) (Z : State) (a0 : Array Value) (hw : ∀ d ∈ tables_1, d.before a0 Z = true) (ws : List Jvm.Cond) (th : Addr) (xx : Addr) (ar : Addr) (cn ln : Int32) (Lv : List Value) (h0 : Heap) (n0 : Nat) (E0 : Exa Z h0 th "com/example/pagemason/pagemason/core/Spares") (F9000 : Fld Z h0 th "com/example/pagemason/pagemason/core/Spares" "kept" "[Ljava/lang/Object;" (.ref ar)) (F9001 : Fld Z h0 th "com/example/pagemason/pagemason/core/Spares" "count" "I" (.int cn)) (V0 : own_Ao Z h0 ar "java/lang/Object" Lv) (hln : Lv.length.toInt32 = ln) (q1 : ¬ cn < ln) :
    MetFree l own_y9 (head1 (Jvm.Cond.code own_y9 prog_71_method_2_code 2 none :: ws) ({ frames := 0, cells := 0, slots := 0, locals := 0 } : Room)) (fun a U => a = #[(.ref th), (.ref xx)] ∧ Z.Warmed39 U.vm ∧ U.heap = h0) (fun _ _ _ _ _ => True) (fun _ U o U' => ∃ v L, o = .returned v ∧ (own_kfull_Q Z th xx ar cn ln Lv h0 n0) v U'.heap L ∧ FrameEnd U o U' L ({ frames := 0, cells := 0, slots := 0, locals := 0 } : Room).cells ({ frames := 0, cells := 0, slots := 0, locals := 0 } : Room).slots) := by
  refine MetFree.of_bodySF (plainFor_of_name own_kfull_pn) hisR ?_
  intro p e s m args below meth c s₁ Bd hml0 hP hK
  obtain ⟨rfl, hZ, hh⟩ := hP
  have hx := Bd.exec
  have hby := Bd.bytes
  have hml : c.maxLocals = 2 := hml0
  have hown : s.vm.findClass "com/example/pagemason/pagemason/core/Spares" = some m.cls := findClass_of_methodNamed Bd.named
  have hnm := (name_of_methodNamed Bd.named Bd.method).1
  have hlk : meth.locks = false := Bd.notSynchronized
  have X0 : Stand p l e ({ frames := 0, cells := 0, slots := 0, locals := 0 } : Room) s m #[(.ref th), (.ref xx)] below meth c s₁ [] 0 0 := Stand.of_body Bd
  have e0 : s₁.heap = h0 := by rw [← hh, Bd.state]; rfl
  have N0 := Fr.nil n0
  have w_21 := hw _ (List.mem_of_getElem? (l := tables_1) (i := 21) rfl)
  have w_32 := hw _ (List.mem_of_getElem? (l := tables_1) (i := 32) rfl)
  show own_G p.tables e below (fun o U' => ∃ v L, o = .returned v ∧ (own_kfull_Q Z th xx ar cn ln Lv h0 n0) v U'.heap L ∧ FrameEnd s o U' L ({ frames := 0, cells := 0, slots := 0, locals := 0 } : Room).cells ({ frames := 0, cells := 0, slots := 0, locals := 0 } : Room).slots) (s₁.setTop (entryFrame m #[(.ref th), (.ref xx)] 2))
  refine own_go (B := s₁.setTop (mkF m 0 #[rv th, rv xx] [])) (fun t k => castTop (own_kfull_ef m th xx) k) ?_
  refine own_go (B := (s₁.setTop (mkF m 1 #[rv th, rv xx] [(.ref th)]))) (fun t k => XS.aloadN X0.here hx rfl (hb hby own_kfull_d0) rfl rfl k) ?_
  obtain ⟨T1, X1, e1, st1⟩ := getF X0 hx hZ hown (host := "") (Or.inl w_32) Via.refl e0 F9001 (g := (mkF m 1 #[rv th, rv xx] [(.ref th)])) rfl rfl (hb hby own_kfull_d1)
  refine own_go (B := (T1.setTop (mkF m 4 #[rv th, rv xx] [(.int cn)]))) st1 ?_
  refine own_go (B := (T1.setTop (mkF m 5 #[rv th, rv xx] [(.ref th), (.int cn)]))) (fun t k => XS.aloadN X1.here hx rfl (hb hby own_kfull_d4) rfl rfl k) ?_
  obtain ⟨T2, X2, e2, st2⟩ := getF X1 hx hZ hown (host := "") (Or.inl w_21) Via.refl e1 F9000 (g := (mkF m 5 #[rv th, rv xx] [(.ref th), (.int cn)])) rfl rfl (hb hby own_kfull_d5)
  refine own_go (B := (T2.setTop (mkF m 8 #[rv th, rv xx] [(.ref ar), (.int cn)]))) st2 ?_
  refine own_go (B := (T2.setTop (mkF m 9 #[rv th, rv xx] [(.int ln), (.int cn)]))) (own_alen X2 hx hZ e2 (own_Ao_ar V0) (n := ln) hln (g := (mkF m 8 #[rv th, rv xx] [(.ref ar), (.int cn)])) rfl rfl (hb hby own_kfull_d8)) ?_
  have hc9 : ¬ cn < ln := q1
  refine own_icmpY X2 hx (hb hby own_kfull_d9) (pc' := 29) (by decide) (by decide) hc9 ?_
  exact own_retV X2 hx hlk Bd.returns (hb hby own_kfull_d29) (own_b rfl) (own_b rfl) (Q := (own_kfull_Q Z th xx ar cn ln Lv h0 n0)) ⟨rfl, N0, e2⟩

theorem own_kone_d0 : decode prog_71_method_2_code 0 = .ok (.aload_n 0, 1) := by decide +kernel
theorem own_kone_d1 : decode prog_71_method_2_code 1 = .ok (.getfield 13, 3) := by decide +kernel
theorem own_kone_d4 : decode prog_71_method_2_code 4 = .ok (.aload_n 0, 1) := by decide +kernel
theorem own_kone_d5 : decode prog_71_method_2_code 5 = .ok (.getfield 7, 3) := by decide +kernel
theorem own_kone_d8 : decode prog_71_method_2_code 8 = .ok (.arraylength, 1) := by decide +kernel
theorem own_kone_d9 : decode prog_71_method_2_code 9 = .ok (.if_icmp .ge 20, 3) := by decide +kernel
theorem own_kone_d12 : decode prog_71_method_2_code 12 = .ok (.aload_n 0, 1) := by decide +kernel
theorem own_kone_d13 : decode prog_71_method_2_code 13 = .ok (.getfield 7, 3) := by decide +kernel
theorem own_kone_d16 : decode prog_71_method_2_code 16 = .ok (.aload_n 0, 1) := by decide +kernel
theorem own_kone_d17 : decode prog_71_method_2_code 17 = .ok (.dup, 1) := by decide +kernel
theorem own_kone_d18 : decode prog_71_method_2_code 18 = .ok (.getfield 13, 3) := by decide +kernel
theorem own_kone_d21 : decode prog_71_method_2_code 21 = .ok (.dup_x1, 1) := by decide +kernel
theorem own_kone_d22 : decode prog_71_method_2_code 22 = .ok (.iconst 1, 1) := by decide +kernel
theorem own_kone_d23 : decode prog_71_method_2_code 23 = .ok (.iadd, 1) := by decide +kernel
theorem own_kone_d24 : decode prog_71_method_2_code 24 = .ok (.putfield 13, 3) := by decide +kernel
theorem own_kone_d27 : decode prog_71_method_2_code 27 = .ok (.aload_n 1, 1) := by decide +kernel
theorem own_kone_d28 : decode prog_71_method_2_code 28 = .ok (.aastore, 1) := by decide +kernel
theorem own_kone_d29 : decode prog_71_method_2_code 29 = .ok (.return_, 1) := by decide +kernel
theorem own_kone_pn : plainName "com/example/pagemason/pagemason/core/Spares" = true := by first | (simp [plainName, overriddenIn]; done) | decide +kernel
theorem own_kone_ef (m : MethodId) (th : Addr) (xx : Addr) : entryFrame m #[(.ref th), (.ref xx)] 2 = mkF m 0 #[rv th, rv xx] [] := by first | (simp [entryFrame, mkF, argsToLocals, Value.category]; done) | rfl
def own_kone_Q (Z : State) (th : Addr) (xx : Addr) (ar : Addr) (cn ln c1 : Int32) (Lv L2 : List Value) (h0 : Heap) (n0 : Nat) (v : Option Value) (h : Heap) (L : List Loc) : Prop := v = none ∧ Fr n0 L ∧ Keep h0 h [th, ar] ∧ Exa Z h th "com/example/pagemason/pagemason/core/Spares" ∧ Fld Z h th "com/example/pagemason/pagemason/core/Spares" "kept" "[Ljava/lang/Object;" (.ref ar) ∧ Fld Z h th "com/example/pagemason/pagemason/core/Spares" "count" "I" (.int c1) ∧ own_Ao Z h ar "java/lang/Object" L2
set_option maxRecDepth 65536 in
set_option maxHeartbeats 40000000 in
theorem own_kone (l : Launch) (Z : State) (a0 : Array Value) (hw : ∀ d ∈ tables_1, d.before a0 Z = true) (ws : List Jvm.Cond) (th : Addr) (xx : Addr) (ar : Addr) (cn ln c1 : Int32) (Lv L2 : List Value) (h0 : Heap) (n0 : Nat) (E0 : Exa Z h0 th "com/example/pagemason/pagemason/core/Spares") (F9000 : Fld Z h0 th "com/example/pagemason/pagemason/core/Spares" "kept" "[Ljava/lang/Object;" (.ref ar)) (F9001 : Fld Z h0 th "com/example/pagemason/pagemason/core/Spares" "count" "I" (.int cn)) (V0 : own_Ao Z h0 ar "java/lang/Object" Lv) (Z0 : n0 ≤ h0.size) (g0 : n0 ≤ th) (g1 : n0 ≤ ar) (nz : ar ≠ th) (hln : Lv.length.toInt32 = ln) (q1 : cn < ln) (q2 : ¬ cn < 0) (q3 : cn.toNatClampNeg < Lv.length) (hc1 : cn + (1 : Int32) = c1) (hI : Ins Z h0 xx "java/lang/Object" true) (hL : Lv.set cn.toNatClampNeg (.ref xx) = L2) :
    MetFree l own_y9 (head1 (Jvm.Cond.code own_y9 prog_71_method_2_code 2 none :: ws) ({ frames := 0, cells := 0, slots := 0, locals := 0 } : Room)) (fun a U => a = #[(.ref th), (.ref xx)] ∧ Z.Warmed39 U.vm ∧ U.heap = h0) (fun _ _ _ _ _ => True) (fun _ U o U' => ∃ v L, o = .returned v ∧ (own_kone_Q Z th xx ar cn ln c1 Lv L2 h0 n0) v U'.heap L ∧ FrameEnd U o U' L ({ frames := 0, cells := 0, slots := 0, locals := 0 } : Room).cells ({ frames := 0, cells := 0, slots := 0, locals := 0 } : Room).slots) := by
  refine MetFree.of_bodySF (plainFor_of_name own_kone_pn) hisR ?_
  intro p e s m args below meth c s₁ Bd hml0 hP hK
  obtain ⟨rfl, hZ, hh⟩ := hP
  have hx := Bd.exec
  have hby := Bd.bytes
  have hml : c.maxLocals = 2 := hml0
  have hown : s.vm.findClass "com/example/pagemason/pagemason/core/Spares" = some m.cls := findClass_of_methodNamed Bd.named
  have hnm := (name_of_methodNamed Bd.named Bd.method).1
  have hlk : meth.locks = false := Bd.notSynchronized
  have X0 : Stand p l e ({ frames := 0, cells := 0, slots := 0, locals := 0 } : Room) s m #[(.ref th), (.ref xx)] below meth c s₁ [] 0 0 := Stand.of_body Bd
  have e0 : s₁.heap = h0 := by rw [← hh, Bd.state]; rfl
  have N0 := Fr.nil n0
  have w_11 := hw _ (List.mem_of_getElem? (l := tables_1) (i := 11) rfl)
  have w_21 := hw _ (List.mem_of_getElem? (l := tables_1) (i := 21) rfl)
  have w_22 := hw _ (List.mem_of_getElem? (l := tables_1) (i := 22) rfl)
  have w_32 := hw _ (List.mem_of_getElem? (l := tables_1) (i := 32) rfl)
  have w_33 := hw _ (List.mem_of_getElem? (l := tables_1) (i := 33) rfl)
  show own_G p.tables e below (fun o U' => ∃ v L, o = .returned v ∧ (own_kone_Q Z th xx ar cn ln c1 Lv L2 h0 n0) v U'.heap L ∧ FrameEnd s o U' L ({ frames := 0, cells := 0, slots := 0, locals := 0 } : Room).cells ({ frames := 0, cells := 0, slots := 0, locals := 0 } : Room).slots) (s₁.setTop (entryFrame m #[(.ref th), (.ref xx)] 2))
  refine own_go (B := s₁.setTop (mkF m 0 #[rv th, rv xx] [])) (fun t k => castTop (own_kone_ef m th xx) k) ?_
  have K0 := Keep.refl h0 [th, ar]
  refine own_go (B := (s₁.setTop (mkF m 1 #[rv th, rv xx] [(.ref th)]))) (fun t k => XS.aloadN X0.here hx rfl (hb hby own_kone_d0) rfl rfl k) ?_
  obtain ⟨T1, X1, e1, st1⟩ := getF X0 hx hZ hown (host := "") (Or.inl w_32) Via.refl e0 F9001 (g := (mkF m 1 #[rv th, rv xx] [(.ref th)])) rfl rfl (hb hby own_kone_d1)
  refine own_go (B := (T1.setTop (mkF m 4 #[rv th, rv xx] [(.int cn)]))) st1 ?_
  refine own_go (B := (T1.setTop (mkF m 5 #[rv th, rv xx] [(.ref th), (.int cn)]))) (fun t k => XS.aloadN X1.here hx rfl (hb hby own_kone_d4) rfl rfl k) ?_
  obtain ⟨T2, X2, e2, st2⟩ := getF X1 hx hZ hown (host := "") (Or.inl w_21) Via.refl e1 F9000 (g := (mkF m 5 #[rv th, rv xx] [(.ref th), (.int cn)])) rfl rfl (hb hby own_kone_d5)
  refine own_go (B := (T2.setTop (mkF m 8 #[rv th, rv xx] [(.ref ar), (.int cn)]))) st2 ?_
  refine own_go (B := (T2.setTop (mkF m 9 #[rv th, rv xx] [(.int ln), (.int cn)]))) (own_alen X2 hx hZ e2 (own_Ao_ar V0) (n := ln) hln (g := (mkF m 8 #[rv th, rv xx] [(.ref ar), (.int cn)])) rfl rfl (hb hby own_kone_d8)) ?_
  have hc9 : cn < ln := q1
  refine own_icmpN X2 hx (hb hby own_kone_d9) (pn := 12) rfl hc9 ?_
  refine own_go (B := (T2.setTop (mkF m 13 #[rv th, rv xx] [(.ref th)]))) (fun t k => XS.aloadN X2.here hx rfl (hb hby own_kone_d12) rfl rfl k) ?_
  obtain ⟨T3, X3, e3, st3⟩ := getF X2 hx hZ hown (host := "") (Or.inl w_21) Via.refl e2 F9000 (g := (mkF m 13 #[rv th, rv xx] [(.ref th)])) rfl rfl (hb hby own_kone_d13)
  refine own_go (B := (T3.setTop (mkF m 16 #[rv th, rv xx] [(.ref ar)]))) st3 ?_
  refine own_go (B := (T3.setTop (mkF m 17 #[rv th, rv xx] [(.ref th), (.ref ar)]))) (fun t k => XS.aloadN X3.here hx rfl (hb hby own_kone_d16) rfl rfl k) ?_
  refine own_go (B := (T3.setTop (mkF m 18 #[rv th, rv xx] [(.ref th), (.ref th), (.ref ar)]))) (fun t k => XS.dup X3.here hx rfl (hb hby own_kone_d17) rfl rfl k) ?_
  obtain ⟨T4, X4, e4, st4⟩ := getF X3 hx hZ hown (host := "") (Or.inl w_32) Via.refl e3 F9001 (g := (mkF m 18 #[rv th, rv xx] [(.ref th), (.ref th), (.ref ar)])) rfl rfl (hb hby own_kone_d18)
  refine own_go (B := (T4.setTop (mkF m 21 #[rv th, rv xx] [(.int cn), (.ref th), (.ref ar)]))) st4 ?_
  refine own_go (B := (T4.setTop (mkF m 22 #[rv th, rv xx] [(.int cn), (.ref th), (.int cn), (.ref ar)]))) (fun t k => XS.dupX1 X4.here hx rfl (hb hby own_kone_d21) rfl rfl rfl k) ?_
  refine own_go (B := (T4.setTop (mkF m 23 #[rv th, rv xx] [(.int (1 : Int32)), (.int cn), (.ref th), (.int cn), (.ref ar)]))) (fun t k => own_iconst (v := (1 : Int32)) X4.here hx rfl (hb hby own_kone_d22) (by decide) k) ?_
  refine own_go (B := (T4.setTop (mkF m 24 #[rv th, rv xx] [(.int (cn + (1 : Int32))), (.ref th), (.int cn), (.ref ar)]))) (fun t k => XS.iadd (x := cn) (y := (1 : Int32)) X4.here hx rfl (hb hby own_kone_d23) rfl k) ?_
  rw [hc1]
  obtain ⟨T5, h5, X5, e5, W5, st5⟩ := putF X4 hx hZ hown (host := "") (Or.inl w_32) Via.refl e4 F9001 E0 (Or.inl w_33) w_11 (ty := .int) (by decide) rfl rfl (g := (mkF m 24 #[rv th, rv xx] [(.int c1), (.ref th), (.int cn), (.ref ar)])) rfl rfl (hb hby own_kone_d24)
  refine own_go (B := (T5.setTop (mkF m 27 #[rv th, rv xx] [(.int cn), (.ref ar)]))) st5 ?_
  obtain ⟨L5, X5, N5⟩ := own_abs X5 (Fr.snoc X5 N0 g0)
  have F6 := Exa.wr W5 E0
  have F7 := Fld.other W5 F9000 (Or.inr (slot_ne (t := (.array (.object "java/lang/Object"))) (t' := .int) (Or.inr w_22) (Or.inl w_33) (by decide) (by decide) (by decide)))
  have F8 := Fld.same W5 F9001
  have F9 := own_Ao_other V0 W5 nz
  have F10 : n0 ≤ h5.size := by rw [W5.size]; exact Z0
  have F11 := Keep.wr K0 W5 (Or.inl (List.mem_of_getElem? (i := 0) rfl))
  have F12 := Ins.wr W5 hI
  refine own_go (B := (T5.setTop (mkF m 28 #[rv th, rv xx] [(.ref xx), (.int cn), (.ref ar)]))) (fun t k => XS.aloadN X5.here hx rfl (hb hby own_kone_d27) rfl rfl k) ?_
  obtain ⟨T13, h13, X13, e13, W13, V13, st13⟩ := own_stR X5 hx hZ e5 F9 (Or.inr ⟨_, rfl, F12⟩) q2 q3 (g := (mkF m 28 #[rv th, rv xx] [(.ref xx), (.int cn), (.ref ar)])) rfl rfl (hb hby own_kone_d28)
  refine own_go (B := (T13.setTop (mkF m 29 #[rv th, rv xx] []))) st13 ?_
  obtain ⟨L13, X13, N13⟩ := own_abs X13 (Fr.snoc X13 N5 g1)
  have F14 := Exa.wr W13 F6
  have F15 := Fld.other W13 F7 (Or.inl (Ne.symm nz))
  have F16 := Fld.other W13 F8 (Or.inl (Ne.symm nz))
  have F18 : n0 ≤ h13.size := by rw [W13.size]; exact F10
  have F19 := Keep.wr F11 W13 (Or.inl (List.mem_of_getElem? (i := 1) rfl))
  have F20 := Ins.wr W13 F12
  exact own_retV X13 hx hlk Bd.returns (hb hby own_kone_d29) (own_b rfl) (own_b rfl) (Q := (own_kone_Q Z th xx ar cn ln c1 Lv L2 h0 n0)) (by rw [e13]; exact ⟨rfl, N13, F19, F14, F15, F16, hL ▸ V13⟩)

theorem own_tnone_d0 : decode prog_71_method_3_code 0 = .ok (.aload_n 0, 1) := by decide +kernel
theorem own_tnone_d1 : decode prog_71_method_3_code 1 = .ok (.getfield 13, 3) := by decide +kernel
theorem own_tnone_d4 : decode prog_71_method_3_code 4 = .ok (.ifCond .ne 5, 3) := by decide +kernel
theorem own_tnone_d7 : decode prog_71_method_3_code 7 = .ok (.aconst_null, 1) := by decide +kernel
theorem own_tnone_d8 : decode prog_71_method_3_code 8 = .ok (.areturn, 1) := by decide +kernel
theorem own_tnone_pn : plainName "com/example/pagemason/pagemason/core/Spares" = true := by first | (simp [plainName, overriddenIn]; done) | decide +kernel
theorem own_tnone_ef (m : MethodId) (th : Addr) : entryFrame m #[(.ref th)] 2 = mkF m 0 #[rv th, .unset] [] := by first | (simp [entryFrame, mkF, argsToLocals, Value.category]; done) | rfl
def own_tnone_Q (Z : State) (th : Addr) (h0 : Heap) (n0 : Nat) (v : Option Value) (h : Heap) (L : List Loc) : Prop := v = some .null ∧ Fr n0 L ∧ h = h0
set_option maxRecDepth 65536 in
set_option maxHeartbeats 40000000 in
theorem own_tnone (l : Launch) (Z : State) (a0 : Array Value) (hw : ∀ d ∈ tables_1, d.before a0 Z = true) (ws : List Jvm.Cond) (th : Addr) (h0 : Heap) (n0 : Nat) (F9001 : Fld Z h0 th "com/example/pagemason/pagemason/core/Spares" "count" "I" (.int (0 : Int32))) :
    MetFree l own_y6 (head1 (Jvm.Cond.code own_y6 prog_71_method_3_code 2 (some (.object "java/lang/Object")) :: ws) ({ frames := 0, cells := 0, slots := 0, locals := 0 } : Room)) (fun a U => a = #[(.ref th)] ∧ Z.Warmed39 U.vm ∧ U.heap = h0) (fun _ _ _ _ _ => True) (fun _ U o U' => ∃ v L, o = .returned v ∧ (own_tnone_Q Z th h0 n0) v U'.heap L ∧ FrameEnd U o U' L ({ frames := 0, cells := 0, slots := 0, locals := 0 } : Room).cells ({ frames := 0, cells := 0, slots := 0, locals := 0 } : Room).slots) := by
  refine MetFree.of_bodySF (plainFor_of_name own_tnone_pn) hisR ?_
  intro p e s m args below meth c s₁ Bd hml0 hP hK
  obtain ⟨rfl, hZ, hh⟩ := hP
  have hx := Bd.exec
  have hby := Bd.bytes
  have hml : c.maxLocals = 2 := hml0
  have hown : s.vm.findClass "com/example/pagemason/pagemason/core/Spares" = some m.cls := findClass_of_methodNamed Bd.named
  have hnm := (name_of_methodNamed Bd.named Bd.method).1
  have hlk : meth.locks = false := Bd.notSynchronized
  have X0 : Stand p l e ({ frames := 0, cells := 0, slots := 0, locals := 0 } : Room) s m #[(.ref th)] below meth c s₁ [] 0 0 := Stand.of_body Bd
  have e0 : s₁.heap = h0 := by rw [← hh, Bd.state]; rfl
  have N0 := Fr.nil n0
  have w_32 := hw _ (List.mem_of_getElem? (l := tables_1) (i := 32) rfl)
  show own_G p.tables e below (fun o U' => ∃ v L, o = .returned v ∧ (own_tnone_Q Z th h0 n0) v U'.heap L ∧ FrameEnd s o U' L ({ frames := 0, cells := 0, slots := 0, locals := 0 } : Room).cells ({ frames := 0, cells := 0, slots := 0, locals := 0 } : Room).slots) (s₁.setTop (entryFrame m #[(.ref th)] 2))
  refine own_go (B := s₁.setTop (mkF m 0 #[rv th, .unset] [])) (fun t k => castTop (own_tnone_ef m th) k) ?_
  refine own_go (B := (s₁.setTop (mkF m 1 #[rv th, .unset] [(.ref th)]))) (fun t k => XS.aloadN X0.here hx rfl (hb hby own_tnone_d0) rfl rfl k) ?_
  obtain ⟨T1, X1, e1, st1⟩ := getF X0 hx hZ hown (host := "") (Or.inl w_32) Via.refl e0 F9001 (g := (mkF m 1 #[rv th, .unset] [(.ref th)])) rfl rfl (hb hby own_tnone_d1)
  refine own_go (B := (T1.setTop (mkF m 4 #[rv th, .unset] [(.int (0 : Int32))]))) st1 ?_
  have hc4 : (0 : Int32) = (0 : Int32) := (by decide)
  refine own_ifN X1 hx (hb hby own_tnone_d4) (pn := 7) rfl hc4 ?_
  refine own_go (B := (T1.setTop (mkF m 8 #[rv th, .unset] [.null]))) (fun t k => XS.aconstNull X1.here hx rfl (hb hby own_tnone_d7) k) ?_
  exact own_retA X1 hx hlk Bd.returns rfl rfl (hb hby own_tnone_d8) (own_b rfl) (own_b rfl) (Q := (own_tnone_Q Z th h0 n0)) ⟨rfl, N0, e1⟩

theorem own_tone_d0 : decode prog_71_method_3_code 0 = .ok (.aload_n 0, 1) := by decide +kernel
theorem own_tone_d1 : decode prog_71_method_3_code 1 = .ok (.getfield 13, 3) := by decide +kernel
theorem own_tone_d4 : decode prog_71_method_3_code 4 = .ok (.ifCond .ne 5, 3) := by decide +kernel
theorem own_tone_d9 : decode prog_71_method_3_code 9 = .ok (.aload_n 0, 1) := by decide +kernel
theorem own_tone_d10 : decode prog_71_method_3_code 10 = .ok (.getfield 7, 3) := by decide +kernel
theorem own_tone_d13 : decode prog_71_method_3_code 13 = .ok (.aload_n 0, 1) := by decide +kernel
theorem own_tone_d14 : decode prog_71_method_3_code 14 = .ok (.dup, 1) := by decide +kernel
theorem own_tone_d15 : decode prog_71_method_3_code 15 = .ok (.getfield 13, 3) := by decide +kernel
theorem own_tone_d18 : decode prog_71_method_3_code 18 = .ok (.iconst 1, 1) := by decide +kernel
theorem own_tone_d19 : decode prog_71_method_3_code 19 = .ok (.isub, 1) := by decide +kernel
theorem own_tone_d20 : decode prog_71_method_3_code 20 = .ok (.dup_x1, 1) := by decide +kernel
theorem own_tone_d21 : decode prog_71_method_3_code 21 = .ok (.putfield 13, 3) := by decide +kernel
theorem own_tone_d24 : decode prog_71_method_3_code 24 = .ok (.aaload, 1) := by decide +kernel
theorem own_tone_d25 : decode prog_71_method_3_code 25 = .ok (.astore_n 1, 1) := by decide +kernel
theorem own_tone_d26 : decode prog_71_method_3_code 26 = .ok (.aload_n 0, 1) := by decide +kernel
theorem own_tone_d27 : decode prog_71_method_3_code 27 = .ok (.getfield 7, 3) := by decide +kernel
theorem own_tone_d30 : decode prog_71_method_3_code 30 = .ok (.aload_n 0, 1) := by decide +kernel
theorem own_tone_d31 : decode prog_71_method_3_code 31 = .ok (.getfield 13, 3) := by decide +kernel
theorem own_tone_d34 : decode prog_71_method_3_code 34 = .ok (.aconst_null, 1) := by decide +kernel
theorem own_tone_d35 : decode prog_71_method_3_code 35 = .ok (.aastore, 1) := by decide +kernel
theorem own_tone_d36 : decode prog_71_method_3_code 36 = .ok (.aload_n 1, 1) := by decide +kernel
theorem own_tone_d37 : decode prog_71_method_3_code 37 = .ok (.areturn, 1) := by decide +kernel
theorem own_tone_pn : plainName "com/example/pagemason/pagemason/core/Spares" = true := by first | (simp [plainName, overriddenIn]; done) | decide +kernel
theorem own_tone_ef (m : MethodId) (th : Addr) : entryFrame m #[(.ref th)] 2 = mkF m 0 #[rv th, .unset] [] := by first | (simp [entryFrame, mkF, argsToLocals, Value.category]; done) | rfl
def own_tone_Q (Z : State) (th : Addr) (ar xx : Addr) (cn c1 : Int32) (Lv L2 : List Value) (h0 : Heap) (n0 : Nat) (v : Option Value) (h : Heap) (L : List Loc) : Prop := v = some (.ref xx) ∧ Fr n0 L ∧ Keep h0 h [th, ar] ∧ Exa Z h th "com/example/pagemason/pagemason/core/Spares" ∧ Fld Z h th "com/example/pagemason/pagemason/core/Spares" "kept" "[Ljava/lang/Object;" (.ref ar) ∧ Fld Z h th "com/example/pagemason/pagemason/core/Spares" "count" "I" (.int c1) ∧ own_Ao Z h ar "java/lang/Object" L2
set_option maxRecDepth 65536 in
set_option maxHeartbeats 40000000 in
theorem own_tone (l : Launch) (Z : State) (a0 : Array Value) (hw : ∀ d ∈ tables_1, d.before a0 Z = true) (ws : List Jvm.Cond) (th : Addr) (ar xx : Addr) (cn c1 : Int32) (Lv L2 : List Value) (h0 : Heap) (n0 : Nat) (E0 : Exa Z h0 th "com/example/pagemason/pagemason/core/Spares") (F9000 : Fld Z h0 th "com/example/pagemason/pagemason/core/Spares" "kept" "[Ljava/lang/Object;" (.ref ar)) (F9001 : Fld Z h0 th "com/example/pagemason/pagemason/core/Spares" "count" "I" (.int cn)) (V0 : own_Ao Z h0 ar "java/lang/Object" Lv) (Z0 : n0 ≤ h0.size) (g0 : n0 ≤ th) (g1 : n0 ≤ ar) (nz : ar ≠ th) (q1 : ¬ cn = 0) (hc1 : cn - (1 : Int32) = c1) (q2 : ¬ c1 < 0) (hv : Lv[c1.toNatClampNeg]? = some (.ref xx)) (hL : Lv.set c1.toNatClampNeg .null = L2) :
    MetFree l own_y6 (head1 (Jvm.Cond.code own_y6 prog_71_method_3_code 2 (some (.object "java/lang/Object")) :: ws) ({ frames := 0, cells := 0, slots := 0, locals := 0 } : Room)) (fun a U => a = #[(.ref th)] ∧ Z.Warmed39 U.vm ∧ U.heap = h0) (fun _ _ _ _ _ => True) (fun _ U o U' => ∃ v L, o = .returned v ∧ (own_tone_Q Z th ar xx cn c1 Lv L2 h0 n0) v U'.heap L ∧ FrameEnd U o U' L ({ frames := 0, cells := 0, slots := 0, locals := 0 } : Room).cells ({ frames := 0, cells := 0, slots := 0, locals := 0 } : Room).slots) := by
  refine MetFree.of_bodySF (plainFor_of_name own_tone_pn) hisR ?_
  intro p e s m args below meth c s₁ Bd hml0 hP hK
  obtain ⟨rfl, hZ, hh⟩ := hP
  have hx := Bd.exec
  have hby := Bd.bytes
  have hml : c.maxLocals = 2 := hml0
  have hown : s.vm.findClass "com/example/pagemason/pagemason/core/Spares" = some m.cls := findClass_of_methodNamed Bd.named
  have hnm := (name_of_methodNamed Bd.named Bd.method).1
  have hlk : meth.locks = false := Bd.notSynchronized
  have X0 : Stand p l e ({ frames := 0, cells := 0, slots := 0, locals := 0 } : Room) s m #[(.ref th)] below meth c s₁ [] 0 0 := Stand.of_body Bd
  have e0 : s₁.heap = h0 := by rw [← hh, Bd.state]; rfl
  have N0 := Fr.nil n0
  have w_11 := hw _ (List.mem_of_getElem? (l := tables_1) (i := 11) rfl)
  have w_21 := hw _ (List.mem_of_getElem? (l := tables_1) (i := 21) rfl)
  have w_22 := hw _ (List.mem_of_getElem? (l := tables_1) (i := 22) rfl)
  have w_32 := hw _ (List.mem_of_getElem? (l := tables_1) (i := 32) rfl)
  have w_33 := hw _ (List.mem_of_getElem? (l := tables_1) (i := 33) rfl)
  show own_G p.tables e below (fun o U' => ∃ v L, o = .returned v ∧ (own_tone_Q Z th ar xx cn c1 Lv L2 h0 n0) v U'.heap L ∧ FrameEnd s o U' L ({ frames := 0, cells := 0, slots := 0, locals := 0 } : Room).cells ({ frames := 0, cells := 0, slots := 0, locals := 0 } : Room).slots) (s₁.setTop (entryFrame m #[(.ref th)] 2))
  refine own_go (B := s₁.setTop (mkF m 0 #[rv th, .unset] [])) (fun t k => castTop (own_tone_ef m th) k) ?_
  have K0 := Keep.refl h0 [th, ar]
  refine own_go (B := (s₁.setTop (mkF m 1 #[rv th, .unset] [(.ref th)]))) (fun t k => XS.aloadN X0.here hx rfl (hb hby own_tone_d0) rfl rfl k) ?_
  obtain ⟨T1, X1, e1, st1⟩ := getF X0 hx hZ hown (host := "") (Or.inl w_32) Via.refl e0 F9001 (g := (mkF m 1 #[rv th, .unset] [(.ref th)])) rfl rfl (hb hby own_tone_d1)
  refine own_go (B := (T1.setTop (mkF m 4 #[rv th, .unset] [(.int cn)]))) st1 ?_
  have hc4 : ¬ cn = (0 : Int32) := q1
  refine own_ifY X1 hx (hb hby own_tone_d4) (pc' := 9) (by decide) (by decide) hc4 ?_
  refine own_go (B := (T1.setTop (mkF m 10 #[rv th, .unset] [(.ref th)]))) (fun t k => XS.aloadN X1.here hx rfl (hb hby own_tone_d9) rfl rfl k) ?_
  obtain ⟨T2, X2, e2, st2⟩ := getF X1 hx hZ hown (host := "") (Or.inl w_21) Via.refl e1 F9000 (g := (mkF m 10 #[rv th, .unset] [(.ref th)])) rfl rfl (hb hby own_tone_d10)
  refine own_go (B := (T2.setTop (mkF m 13 #[rv th, .unset] [(.ref ar)]))) st2 ?_
  refine own_go (B := (T2.setTop (mkF m 14 #[rv th, .unset] [(.ref th), (.ref ar)]))) (fun t k => XS.aloadN X2.here hx rfl (hb hby own_tone_d13) rfl rfl k) ?_
  refine own_go (B := (T2.setTop (mkF m 15 #[rv th, .unset] [(.ref th), (.ref th), (.ref ar)]))) (fun t k => XS.dup X2.here hx rfl (hb hby own_tone_d14) rfl rfl k) ?_
  obtain ⟨T3, X3, e3, st3⟩ := getF X2 hx hZ hown (host := "") (Or.inl w_32) Via.refl e2 F9001 (g := (mkF m 15 #[rv th, .unset] [(.ref th), (.ref th), (.ref ar)])) rfl rfl (hb hby own_tone_d15)
  refine own_go (B := (T3.setTop (mkF m 18 #[rv th, .unset] [(.int cn), (.ref th), (.ref ar)]))) st3 ?_
  refine own_go (B := (T3.setTop (mkF m 19 #[rv th, .unset] [(.int (1 : Int32)), (.int cn), (.ref th), (.ref ar)]))) (fun t k => own_iconst (v := (1 : Int32)) X3.here hx rfl (hb hby own_tone_d18) (by decide) k) ?_
  refine own_go (B := (T3.setTop (mkF m 20 #[rv th, .unset] [(.int (cn - (1 : Int32))), (.ref th), (.ref ar)]))) (fun t k => XS.isub (x := cn) (y := (1 : Int32)) X3.here hx rfl (hb hby own_tone_d19) rfl k) ?_
  rw [hc1]
  refine own_go (B := (T3.setTop (mkF m 21 #[rv th, .unset] [(.int c1), (.ref th), (.int c1), (.ref ar)]))) (fun t k => XS.dupX1 X3.here hx rfl (hb hby own_tone_d20) rfl rfl rfl k) ?_
  obtain ⟨T4, h4, X4, e4, W4, st4⟩ := putF X3 hx hZ hown (host := "") (Or.inl w_32) Via.refl e3 F9001 E0 (Or.inl w_33) w_11 (ty := .int) (by decide) rfl rfl (g := (mkF m 21 #[rv th, .unset] [(.int c1), (.ref th), (.int c1), (.ref ar)])) rfl rfl (hb hby own_tone_d21)
  refine own_go (B := (T4.setTop (mkF m 24 #[rv th, .unset] [(.int c1), (.ref ar)]))) st4 ?_
  obtain ⟨L4, X4, N4⟩ := own_abs X4 (Fr.snoc X4 N0 g0)
  have F5 := Exa.wr W4 E0
  have F6 := Fld.other W4 F9000 (Or.inr (slot_ne (t := (.array (.object "java/lang/Object"))) (t' := .int) (Or.inr w_22) (Or.inl w_33) (by decide) (by decide) (by decide)))
  have F7 := Fld.same W4 F9001
  have F8 := own_Ao_other V0 W4 nz
  have F9 : n0 ≤ h4.size := by rw [W4.size]; exact Z0
  have F10 := Keep.wr K0 W4 (Or.inl (List.mem_of_getElem? (i := 0) rfl))
  refine own_go (B := (T4.setTop (mkF m 25 #[rv th, .unset] [(.ref xx)]))) (own_ldR X4 hx hZ e4 (own_Ao_ar F8) rfl (v := (.ref xx)) q2 hv (g := (mkF m 24 #[rv th, .unset] [(.int c1), (.ref ar)])) rfl rfl (hb hby own_tone_d24)) ?_
  refine own_go (B := (T4.setTop (mkF m 26 #[rv th, rv xx] []))) (fun t k => XS.astoreN X4.here hx rfl (hb hby own_tone_d25) rfl rfl (l' := #[rv th, rv xx]) rfl k) ?_
  refine own_go (B := (T4.setTop (mkF m 27 #[rv th, rv xx] [(.ref th)]))) (fun t k => XS.aloadN X4.here hx rfl (hb hby own_tone_d26) rfl rfl k) ?_
  obtain ⟨T11, X11, e11, st11⟩ := getF X4 hx hZ hown (host := "") (Or.inl w_21) Via.refl e4 F6 (g := (mkF m 27 #[rv th, rv xx] [(.ref th)])) rfl rfl (hb hby own_tone_d27)
  refine own_go (B := (T11.setTop (mkF m 30 #[rv th, rv xx] [(.ref ar)]))) st11 ?_
  refine own_go (B := (T11.setTop (mkF m 31 #[rv th, rv xx] [(.ref th), (.ref ar)]))) (fun t k => XS.aloadN X11.here hx rfl (hb hby own_tone_d30) rfl rfl k) ?_
  obtain ⟨T12, X12, e12, st12⟩ := getF X11 hx hZ hown (host := "") (Or.inl w_32) Via.refl e11 F7 (g := (mkF m 31 #[rv th, rv xx] [(.ref th), (.ref ar)])) rfl rfl (hb hby own_tone_d31)
  refine own_go (B := (T12.setTop (mkF m 34 #[rv th, rv xx] [(.int c1), (.ref ar)]))) st12 ?_
  refine own_go (B := (T12.setTop (mkF m 35 #[rv th, rv xx] [.null, (.int c1), (.ref ar)]))) (fun t k => XS.aconstNull X12.here hx rfl (hb hby own_tone_d34) k) ?_
  obtain ⟨T13, h13, X13, e13, W13, V13, st13⟩ := own_stR X12 hx hZ e12 F8 (Or.inl rfl) q2 (own_lt_of hv) (g := (mkF m 35 #[rv th, rv xx] [.null, (.int c1), (.ref ar)])) rfl rfl (hb hby own_tone_d35)
  refine own_go (B := (T13.setTop (mkF m 36 #[rv th, rv xx] []))) st13 ?_
  obtain ⟨L13, X13, N13⟩ := own_abs X13 (Fr.snoc X13 N4 g1)
  have F14 := Exa.wr W13 F5
  have F15 := Fld.other W13 F6 (Or.inl (Ne.symm nz))
  have F16 := Fld.other W13 F7 (Or.inl (Ne.symm nz))
  have F18 : n0 ≤ h13.size := by rw [W13.size]; exact F9
  have F19 := Keep.wr F10 W13 (Or.inl (List.mem_of_getElem? (i := 1) rfl))
  refine own_go (B := (T13.setTop (mkF m 37 #[rv th, rv xx] [(.ref xx)]))) (fun t k => XS.aloadN X13.here hx rfl (hb hby own_tone_d36) rfl rfl k) ?_
  exact own_retA X13 hx hlk Bd.returns rfl rfl (hb hby own_tone_d37) (own_b rfl) (own_b rfl) (Q := (own_tone_Q Z th ar xx cn c1 Lv L2 h0 n0)) (by rw [e13]; exact ⟨rfl, N13, F19, F14, F15, F16, hL ▸ V13⟩)

theorem own_mmin_d0 : decode jdk_29_method_69_code 0 = .ok (.iload_n 0, 1) := by decide +kernel
theorem own_mmin_d1 : decode jdk_29_method_69_code 1 = .ok (.iload_n 1, 1) := by decide +kernel
theorem own_mmin_d2 : decode jdk_29_method_69_code 2 = .ok (.if_icmp .gt 7, 3) := by decide +kernel
theorem own_mmin_d5 : decode jdk_29_method_69_code 5 = .ok (.iload_n 0, 1) := by decide +kernel
theorem own_mmin_d6 : decode jdk_29_method_69_code 6 = .ok (.goto 4, 3) := by decide +kernel
theorem own_mmin_d9 : decode jdk_29_method_69_code 9 = .ok (.iload_n 1, 1) := by decide +kernel
theorem own_mmin_d10 : decode jdk_29_method_69_code 10 = .ok (.ireturn, 1) := by decide +kernel
theorem own_mmin_ef (m : MethodId) (pa : Int32) (pb : Int32) : entryFrame m #[(.int pa), (.int pb)] 2 = mkF m 0 #[iv pa, iv pb] [] := by first | (simp [entryFrame, mkF, argsToLocals, Value.category]; done) | rfl
def own_mmin_Q (Z : State) (pa : Int32) (pb : Int32) (h0 : Heap) (n0 : Nat) (v : Option Value) (h : Heap) (L : List Loc) : Prop := v = some (.int (own_min pa pb)) ∧ Fr n0 L ∧ h = h0
set_option maxRecDepth 65536 in
set_option maxHeartbeats 40000000 in
theorem own_mmin (l : Launch) (Z : State) (a0 : Array Value) (hw : ∀ d ∈ tables_1, d.before a0 Z = true) (ws : List Jvm.Cond) (pa : Int32) (pb : Int32) (h0 : Heap) (n0 : Nat) :
    MetFree l own_y10 (head1 (Jvm.Cond.code own_y10 jdk_29_method_69_code 2 (some .int) :: ws) ({ frames := 0, cells := 0, slots := 0, locals := 0 } : Room)) (fun a U => a = #[(.int pa), (.int pb)] ∧ Z.Warmed39 U.vm ∧ U.heap = h0) (fun _ _ _ _ _ => True) (fun _ U o U' => ∃ v L, o = .returned v ∧ (own_mmin_Q Z pa pb h0 n0) v U'.heap L ∧ FrameEnd U o U' L ({ frames := 0, cells := 0, slots := 0, locals := 0 } : Room).cells ({ frames := 0, cells := 0, slots := 0, locals := 0 } : Room).slots) := by
  refine MetFree.of_bodySF (Jvm.Free.JP.mathPlain rfl (by decide +kernel)) hisR ?_
  intro p e s m args below meth c s₁ Bd hml0 hP hK
  obtain ⟨rfl, hZ, hh⟩ := hP
  have hx := Bd.exec
  have hby := Bd.bytes
  have hml : c.maxLocals = 2 := hml0
  have hown : s.vm.findClass "java/lang/Math" = some m.cls := findClass_of_methodNamed Bd.named
  have hnm := (name_of_methodNamed Bd.named Bd.method).1
  have hlk : meth.locks = false := Bd.notSynchronized
  have X0 : Stand p l e ({ frames := 0, cells := 0, slots := 0, locals := 0 } : Room) s m #[(.int pa), (.int pb)] below meth c s₁ [] 0 0 := Stand.of_body Bd
  have e0 : s₁.heap = h0 := by rw [← hh, Bd.state]; rfl
  have N0 := Fr.nil n0
  show own_G p.tables e below (fun o U' => ∃ v L, o = .returned v ∧ (own_mmin_Q Z pa pb h0 n0) v U'.heap L ∧ FrameEnd s o U' L ({ frames := 0, cells := 0, slots := 0, locals := 0 } : Room).cells ({ frames := 0, cells := 0, slots := 0, locals := 0 } : Room).slots) (s₁.setTop (entryFrame m #[(.int pa), (.int pb)] 2))
  refine own_go (B := s₁.setTop (mkF m 0 #[iv pa, iv pb] [])) (fun t k => castTop (own_mmin_ef m pa pb) k) ?_
  refine own_go (B := (s₁.setTop (mkF m 1 #[iv pa, iv pb] [(.int pa)]))) (fun t k => XS.iloadN X0.here hx rfl (hb hby own_mmin_d0) rfl k) ?_
  refine own_go (B := (s₁.setTop (mkF m 2 #[iv pa, iv pb] [(.int pb), (.int pa)]))) (fun t k => XS.iloadN X0.here hx rfl (hb hby own_mmin_d1) rfl k) ?_
  refine own_icmp X0 hx (hb hby own_mmin_d2) (pc' := 9) (pn := 5) (by decide) (by decide) rfl (fun (hc2 : pb < pa) => ?_) (fun (hc2 : ¬ pb < pa) => ?_)
  · refine own_go (B := (s₁.setTop (mkF m 10 #[iv pa, iv pb] [(.int pb)]))) (fun t k => XS.iloadN X0.here hx rfl (hb hby own_mmin_d9) rfl k) ?_
    exact own_retI X0 hx hlk Bd.returns (hb hby own_mmin_d10) (own_b rfl) (own_b rfl) (Q := (own_mmin_Q Z pa pb h0 n0)) ⟨by rw [own_min, if_pos hc2], N0, e0⟩
  · refine own_go (B := (s₁.setTop (mkF m 6 #[iv pa, iv pb] [(.int pa)]))) (fun t k => XS.iloadN X0.here hx rfl (hb hby own_mmin_d5) rfl k) ?_
    refine own_go (B := (s₁.setTop (mkF m 10 #[iv pa, iv pb] [(.int pa)]))) (fun t k => XS.goto X0.here hx rfl (pc0 := 6) (pc' := 10) rfl (hb hby own_mmin_d6) (by decide) (by decide) k) ?_
    exact own_retI X0 hx hlk Bd.returns (hb hby own_mmin_d10) (own_b rfl) (own_b rfl) (Q := (own_mmin_Q Z pa pb h0 n0)) ⟨by rw [own_min, if_neg hc2], N0, e0⟩

theorem own_mmax_d0 : decode jdk_29_method_65_code 0 = .ok (.iload_n 0, 1) := by decide +kernel
theorem own_mmax_d1 : decode jdk_29_method_65_code 1 = .ok (.iload_n 1, 1) := by decide +kernel
theorem own_mmax_d2 : decode jdk_29_method_65_code 2 = .ok (.if_icmp .lt 7, 3) := by decide +kernel
theorem own_mmax_d5 : decode jdk_29_method_65_code 5 = .ok (.iload_n 0, 1) := by decide +kernel
theorem own_mmax_d6 : decode jdk_29_method_65_code 6 = .ok (.goto 4, 3) := by decide +kernel
theorem own_mmax_d9 : decode jdk_29_method_65_code 9 = .ok (.iload_n 1, 1) := by decide +kernel
theorem own_mmax_d10 : decode jdk_29_method_65_code 10 = .ok (.ireturn, 1) := by decide +kernel
theorem own_mmax_ef (m : MethodId) (pa : Int32) (pb : Int32) : entryFrame m #[(.int pa), (.int pb)] 2 = mkF m 0 #[iv pa, iv pb] [] := by first | (simp [entryFrame, mkF, argsToLocals, Value.category]; done) | rfl
def own_mmax_Q (Z : State) (pa : Int32) (pb : Int32) (h0 : Heap) (n0 : Nat) (v : Option Value) (h : Heap) (L : List Loc) : Prop := v = some (.int (own_max pa pb)) ∧ Fr n0 L ∧ h = h0
set_option maxRecDepth 65536 in
set_option maxHeartbeats 40000000 in
theorem own_mmax (l : Launch) (Z : State) (a0 : Array Value) (hw : ∀ d ∈ tables_1, d.before a0 Z = true) (ws : List Jvm.Cond) (pa : Int32) (pb : Int32) (h0 : Heap) (n0 : Nat) :
    MetFree l own_y8 (head1 (Jvm.Cond.code own_y8 jdk_29_method_65_code 2 (some .int) :: ws) ({ frames := 0, cells := 0, slots := 0, locals := 0 } : Room)) (fun a U => a = #[(.int pa), (.int pb)] ∧ Z.Warmed39 U.vm ∧ U.heap = h0) (fun _ _ _ _ _ => True) (fun _ U o U' => ∃ v L, o = .returned v ∧ (own_mmax_Q Z pa pb h0 n0) v U'.heap L ∧ FrameEnd U o U' L ({ frames := 0, cells := 0, slots := 0, locals := 0 } : Room).cells ({ frames := 0, cells := 0, slots := 0, locals := 0 } : Room).slots) := by
  refine MetFree.of_bodySF (Jvm.Free.JP.mathPlain rfl (by decide +kernel)) hisR ?_
  intro p e s m args below meth c s₁ Bd hml0 hP hK
  obtain ⟨rfl, hZ, hh⟩ := hP
  have hx := Bd.exec
  have hby := Bd.bytes
  have hml : c.maxLocals = 2 := hml0
  have hown : s.vm.findClass "java/lang/Math" = some m.cls := findClass_of_methodNamed Bd.named
  have hnm := (name_of_methodNamed Bd.named Bd.method).1
  have hlk : meth.locks = false := Bd.notSynchronized
  have X0 : Stand p l e ({ frames := 0, cells := 0, slots := 0, locals := 0 } : Room) s m #[(.int pa), (.int pb)] below meth c s₁ [] 0 0 := Stand.of_body Bd
  have e0 : s₁.heap = h0 := by rw [← hh, Bd.state]; rfl
  have N0 := Fr.nil n0
  show own_G p.tables e below (fun o U' => ∃ v L, o = .returned v ∧ (own_mmax_Q Z pa pb h0 n0) v U'.heap L ∧ FrameEnd s o U' L ({ frames := 0, cells := 0, slots := 0, locals := 0 } : Room).cells ({ frames := 0, cells := 0, slots := 0, locals := 0 } : Room).slots) (s₁.setTop (entryFrame m #[(.int pa), (.int pb)] 2))
  refine own_go (B := s₁.setTop (mkF m 0 #[iv pa, iv pb] [])) (fun t k => castTop (own_mmax_ef m pa pb) k) ?_
  refine own_go (B := (s₁.setTop (mkF m 1 #[iv pa, iv pb] [(.int pa)]))) (fun t k => XS.iloadN X0.here hx rfl (hb hby own_mmax_d0) rfl k) ?_
  refine own_go (B := (s₁.setTop (mkF m 2 #[iv pa, iv pb] [(.int pb), (.int pa)]))) (fun t k => XS.iloadN X0.here hx rfl (hb hby own_mmax_d1) rfl k) ?_
  refine own_icmp X0 hx (hb hby own_mmax_d2) (pc' := 9) (pn := 5) (by decide) (by decide) rfl (fun (hc2 : pa < pb) => ?_) (fun (hc2 : ¬ pa < pb) => ?_)
  · refine own_go (B := (s₁.setTop (mkF m 10 #[iv pa, iv pb] [(.int pb)]))) (fun t k => XS.iloadN X0.here hx rfl (hb hby own_mmax_d9) rfl k) ?_
    exact own_retI X0 hx hlk Bd.returns (hb hby own_mmax_d10) (own_b rfl) (own_b rfl) (Q := (own_mmax_Q Z pa pb h0 n0)) ⟨by rw [own_max, if_pos hc2], N0, e0⟩
  · refine own_go (B := (s₁.setTop (mkF m 6 #[iv pa, iv pb] [(.int pa)]))) (fun t k => XS.iloadN X0.here hx rfl (hb hby own_mmax_d5) rfl k) ?_
    refine own_go (B := (s₁.setTop (mkF m 10 #[iv pa, iv pb] [(.int pa)]))) (fun t k => XS.goto X0.here hx rfl (pc0 := 6) (pc' := 10) rfl (hb hby own_mmax_d6) (by decide) (by decide) k) ?_
    exact own_retI X0 hx hlk Bd.returns (hb hby own_mmax_d10) (own_b rfl) (own_b rfl) (Q := (own_mmax_Q Z pa pb h0 n0)) ⟨by rw [own_max, if_neg hc2], N0, e0⟩

theorem own_iv_d0 : decode jdk_33_method_27_code 0 = .ok (.aload_n 0, 1) := by decide +kernel
theorem own_iv_d1 : decode jdk_33_method_27_code 1 = .ok (.getfield 205, 3) := by decide +kernel
theorem own_iv_d4 : decode jdk_33_method_27_code 4 = .ok (.ireturn, 1) := by decide +kernel
theorem own_iv_pn : plainName "java/lang/Integer" = true := by first | (simp [plainName, overriddenIn]; done) | decide +kernel
theorem own_iv_ef (m : MethodId) (th : Addr) : entryFrame m #[(.ref th)] 1 = mkF m 0 #[rv th] [] := by first | (simp [entryFrame, mkF, argsToLocals, Value.category]; done) | rfl
def own_iv_Q (Z : State) (th : Addr) (vv : Int32) (h0 : Heap) (n0 : Nat) (v : Option Value) (h : Heap) (L : List Loc) : Prop := v = some (.int vv) ∧ Fr n0 L ∧ h = h0
set_option maxRecDepth 65536 in
set_option maxHeartbeats 40000000 in
theorem own_iv (l : Launch) (Z : State) (a0 : Array Value) (hw : ∀ d ∈ tables_1, d.before a0 Z = true) (ws : List Jvm.Cond) (th : Addr) (vv : Int32) (h0 : Heap) (n0 : Nat) (F1 : Fld Z h0 th "java/lang/Integer" "value" "I" (.int vv)) :
    MetFree l own_y3 (head1 (Jvm.Cond.code own_y3 jdk_33_method_27_code 1 (some .int) :: ws) ({ frames := 0, cells := 0, slots := 0, locals := 0 } : Room)) (fun a U => a = #[(.ref th)] ∧ Z.Warmed39 U.vm ∧ U.heap = h0) (fun _ _ _ _ _ => True) (fun _ U o U' => ∃ v L, o = .returned v ∧ (own_iv_Q Z th vv h0 n0) v U'.heap L ∧ FrameEnd U o U' L ({ frames := 0, cells := 0, slots := 0, locals := 0 } : Room).cells ({ frames := 0, cells := 0, slots := 0, locals := 0 } : Room).slots) := by
  refine MetFree.of_bodySF (plainFor_of_name own_iv_pn) hisR ?_
  intro p e s m args below meth c s₁ Bd hml0 hP hK
  obtain ⟨rfl, hZ, hh⟩ := hP
  have hx := Bd.exec
  have hby := Bd.bytes
  have hml : c.maxLocals = 1 := hml0
  have hown : s.vm.findClass "java/lang/Integer" = some m.cls := findClass_of_methodNamed Bd.named
  have hnm := (name_of_methodNamed Bd.named Bd.method).1
  have hlk : meth.locks = false := Bd.notSynchronized
  have X0 : Stand p l e ({ frames := 0, cells := 0, slots := 0, locals := 0 } : Room) s m #[(.ref th)] below meth c s₁ [] 0 0 := Stand.of_body Bd
  have e0 : s₁.heap = h0 := by rw [← hh, Bd.state]; rfl
  have N0 := Fr.nil n0
  have w_58 := hw _ (List.mem_of_getElem? (l := tables_1) (i := 58) rfl)
  show own_G p.tables e below (fun o U' => ∃ v L, o = .returned v ∧ (own_iv_Q Z th vv h0 n0) v U'.heap L ∧ FrameEnd s o U' L ({ frames := 0, cells := 0, slots := 0, locals := 0 } : Room).cells ({ frames := 0, cells := 0, slots := 0, locals := 0 } : Room).slots) (s₁.setTop (entryFrame m #[(.ref th)] 1))
  refine own_go (B := s₁.setTop (mkF m 0 #[rv th] [])) (fun t k => castTop (own_iv_ef m th) k) ?_
  refine own_go (B := (s₁.setTop (mkF m 1 #[rv th] [(.ref th)]))) (fun t k => XS.aloadN X0.here hx rfl (hb hby own_iv_d0) rfl rfl k) ?_
  obtain ⟨T1, X1, e1, st1⟩ := getF X0 hx hZ hown (host := "") (Or.inl w_58) Via.refl e0 F1 (g := (mkF m 1 #[rv th] [(.ref th)])) rfl rfl (hb hby own_iv_d1)
  refine own_go (B := (T1.setTop (mkF m 4 #[rv th] [(.int vv)]))) st1 ?_
  exact own_retI X1 hx hlk Bd.returns (hb hby own_iv_d4) (own_b rfl) (own_b rfl) (Q := (own_iv_Q Z th vv h0 n0)) ⟨rfl, N0, e1⟩

theorem own_same0_d0 : decode method_2_code 0 = .ok (.aload_n 1, 1) := by decide +kernel
theorem own_same0_d1 : decode method_2_code 1 = .ok (.ifnonnull 13, 3) := by decide +kernel
theorem own_same0_d4 : decode method_2_code 4 = .ok (.aload_n 0, 1) := by decide +kernel
theorem own_same0_d5 : decode method_2_code 5 = .ok (.ifnonnull 7, 3) := by decide +kernel
theorem own_same0_d8 : decode method_2_code 8 = .ok (.iconst 1, 1) := by decide +kernel
theorem own_same0_d9 : decode method_2_code 9 = .ok (.goto 4, 3) := by decide +kernel
theorem own_same0_d13 : decode method_2_code 13 = .ok (.ireturn, 1) := by decide +kernel
theorem own_same0_pn : plainName "com/example/pagemason/pagemason/core/SparesTakePinLaw" = true := by first | (simp [plainName, overriddenIn]; done) | decide +kernel
theorem own_same0_ef (m : MethodId) : entryFrame m #[.null, .null] 2 = mkF m 0 #[.val .null, .val .null] [] := by first | (simp [entryFrame, mkF, argsToLocals, Value.category]; done) | rfl
def own_same0_Q (Z : State) (h0 : Heap) (n0 : Nat) (v : Option Value) (h : Heap) (L : List Loc) : Prop := v = some (.int 1) ∧ Fr n0 L ∧ h = h0
set_option maxRecDepth 65536 in
set_option maxHeartbeats 40000000 in
theorem own_same0 (l : Launch) (Z : State) (a0 : Array Value) (hw : ∀ d ∈ tables_1, d.before a0 Z = true) (ws : List Jvm.Cond) (h0 : Heap) (n0 : Nat) :
    MetFree l own_y7 (head1 (Jvm.Cond.code own_y7 method_2_code 2 (some .boolean) :: ws) ({ frames := 0, cells := 0, slots := 0, locals := 0 } : Room)) (fun a U => a = #[.null, .null] ∧ Z.Warmed39 U.vm ∧ U.heap = h0) (fun _ _ _ _ _ => True) (fun _ U o U' => ∃ v L, o = .returned v ∧ (own_same0_Q Z h0 n0) v U'.heap L ∧ FrameEnd U o U' L ({ frames := 0, cells := 0, slots := 0, locals := 0 } : Room).cells ({ frames := 0, cells := 0, slots := 0, locals := 0 } : Room).slots) := by
  refine MetFree.of_bodySF (plainFor_of_name own_same0_pn) hisR ?_
  intro p e s m args below meth c s₁ Bd hml0 hP hK
  obtain ⟨rfl, hZ, hh⟩ := hP
  have hx := Bd.exec
  have hby := Bd.bytes
  have hml : c.maxLocals = 2 := hml0
  have hown : s.vm.findClass "com/example/pagemason/pagemason/core/SparesTakePinLaw" = some m.cls := findClass_of_methodNamed Bd.named
  have hnm := (name_of_methodNamed Bd.named Bd.method).1
  have hlk : meth.locks = false := Bd.notSynchronized
  have X0 : Stand p l e ({ frames := 0, cells := 0, slots := 0, locals := 0 } : Room) s m #[.null, .null] below meth c s₁ [] 0 0 := Stand.of_body Bd
  have e0 : s₁.heap = h0 := by rw [← hh, Bd.state]; rfl
  have N0 := Fr.nil n0
  show own_G p.tables e below (fun o U' => ∃ v L, o = .returned v ∧ (own_same0_Q Z h0 n0) v U'.heap L ∧ FrameEnd s o U' L ({ frames := 0, cells := 0, slots := 0, locals := 0 } : Room).cells ({ frames := 0, cells := 0, slots := 0, locals := 0 } : Room).slots) (s₁.setTop (entryFrame m #[.null, .null] 2))
  refine own_go (B := s₁.setTop (mkF m 0 #[.val .null, .val .null] [])) (fun t k => castTop (own_same0_ef m) k) ?_
  refine own_go (B := (s₁.setTop (mkF m 1 #[.val .null, .val .null] [.null]))) (fun t k => XS.aloadN X0.here hx rfl (hb hby own_same0_d0) rfl rfl k) ?_
  refine own_go (B := (s₁.setTop (mkF m 4 #[.val .null, .val .null] []))) (fun t k => XS.ifnonnullNo X0.here hx rfl (hb hby own_same0_d1) rfl k) ?_
  refine own_go (B := (s₁.setTop (mkF m 5 #[.val .null, .val .null] [.null]))) (fun t k => XS.aloadN X0.here hx rfl (hb hby own_same0_d4) rfl rfl k) ?_
  refine own_go (B := (s₁.setTop (mkF m 8 #[.val .null, .val .null] []))) (fun t k => XS.ifnonnullNo X0.here hx rfl (hb hby own_same0_d5) rfl k) ?_
  refine own_go (B := (s₁.setTop (mkF m 9 #[.val .null, .val .null] [(.int (1 : Int32))]))) (fun t k => own_iconst (v := (1 : Int32)) X0.here hx rfl (hb hby own_same0_d8) (by decide) k) ?_
  refine own_go (B := (s₁.setTop (mkF m 13 #[.val .null, .val .null] [(.int (1 : Int32))]))) (fun t k => XS.goto X0.here hx rfl (pc0 := 9) (pc' := 13) rfl (hb hby own_same0_d9) (by decide) (by decide) k) ?_
  exact own_retZ X0 hx hlk Bd.returns (hb hby own_same0_d13) (by decide) (own_b rfl) (own_b rfl) (Q := (own_same0_Q Z h0 n0)) ⟨rfl, N0, e0⟩

theorem own_same1_d0 : decode method_2_code 0 = .ok (.aload_n 1, 1) := by decide +kernel
theorem own_same1_d1 : decode method_2_code 1 = .ok (.ifnonnull 13, 3) := by decide +kernel
theorem own_same1_d14 : decode method_2_code 14 = .ok (.aload_n 0, 1) := by decide +kernel
theorem own_same1_d15 : decode method_2_code 15 = .ok (.ifnull 18, 3) := by decide +kernel
theorem own_same1_d18 : decode method_2_code 18 = .ok (.aload_n 0, 1) := by decide +kernel
theorem own_same1_d19 : decode method_2_code 19 = .ok (.invokevirtual 7, 3) := by decide +kernel
theorem own_same1_d22 : decode method_2_code 22 = .ok (.aload_n 1, 1) := by decide +kernel
theorem own_same1_d23 : decode method_2_code 23 = .ok (.invokevirtual 7, 3) := by decide +kernel
theorem own_same1_d26 : decode method_2_code 26 = .ok (.if_icmp .ne 7, 3) := by decide +kernel
theorem own_same1_d29 : decode method_2_code 29 = .ok (.iconst 1, 1) := by decide +kernel
theorem own_same1_d30 : decode method_2_code 30 = .ok (.goto 4, 3) := by decide +kernel
theorem own_same1_d34 : decode method_2_code 34 = .ok (.ireturn, 1) := by decide +kernel
theorem own_same1_pn : plainName "com/example/pagemason/pagemason/core/SparesTakePinLaw" = true := by first | (simp [plainName, overriddenIn]; done) | decide +kernel
theorem own_same1_ef (m : MethodId) (gt : Addr) (wt : Addr) : entryFrame m #[(.ref gt), (.ref wt)] 2 = mkF m 0 #[rv gt, rv wt] [] := by first | (simp [entryFrame, mkF, argsToLocals, Value.category]; done) | rfl
def own_same1_Q (Z : State) (gt : Addr) (wt : Addr) (vv : Int32) (h0 : Heap) (n0 : Nat) (v : Option Value) (h : Heap) (L : List Loc) : Prop := v = some (.int 1) ∧ Fr n0 L ∧ h = h0
set_option maxRecDepth 65536 in
set_option maxHeartbeats 40000000 in
theorem own_same1 (l : Launch) (Z : State) (a0 : Array Value) (hw : ∀ d ∈ tables_1, d.before a0 Z = true) (ws : List Jvm.Cond) (gt : Addr) (wt : Addr) (vv : Int32) (h0 : Heap) (n0 : Nat) (E1 : Exa Z h0 gt "java/lang/Integer") (F1 : Fld Z h0 gt "java/lang/Integer" "value" "I" (.int vv)) (E2 : Exa Z h0 wt "java/lang/Integer") (F2 : Fld Z h0 wt "java/lang/Integer" "value" "I" (.int vv)) :
    MetFree l own_y7 (head1 (Jvm.Cond.code own_y7 method_2_code 2 (some .boolean) :: ws) ({ frames := 1, cells := 0, slots := 0, locals := 13 } : Room)) (fun a U => a = #[(.ref gt), (.ref wt)] ∧ Z.Warmed39 U.vm ∧ U.heap = h0) (fun _ _ _ _ _ => True) (fun _ U o U' => ∃ v L, o = .returned v ∧ (own_same1_Q Z gt wt vv h0 n0) v U'.heap L ∧ FrameEnd U o U' L ({ frames := 1, cells := 0, slots := 0, locals := 13 } : Room).cells ({ frames := 1, cells := 0, slots := 0, locals := 13 } : Room).slots) := by
  refine MetFree.of_bodySF (plainFor_of_name own_same1_pn) hisR ?_
  intro p e s m args below meth c s₁ Bd hml0 hP hK
  obtain ⟨rfl, hZ, hh⟩ := hP
  have hx := Bd.exec
  have hby := Bd.bytes
  have hml : c.maxLocals = 2 := hml0
  have hown : s.vm.findClass "com/example/pagemason/pagemason/core/SparesTakePinLaw" = some m.cls := findClass_of_methodNamed Bd.named
  have hnm := (name_of_methodNamed Bd.named Bd.method).1
  have hlk : meth.locks = false := Bd.notSynchronized
  have X0 : Stand p l e ({ frames := 1, cells := 0, slots := 0, locals := 13 } : Room) s m #[(.ref gt), (.ref wt)] below meth c s₁ [] 0 0 := Stand.of_body Bd
  have e0 : s₁.heap = h0 := by rw [← hh, Bd.state]; rfl
  have N0 := Fr.nil n0
  have w_2 := hw _ (List.mem_of_getElem? (l := tables_1) (i := 2) rfl)
  have w_61 := hw _ (List.mem_of_getElem? (l := tables_1) (i := 61) rfl)
  have w_62 := hw _ (List.mem_of_getElem? (l := tables_1) (i := 62) rfl)
  have w_63 := hw _ (List.mem_of_getElem? (l := tables_1) (i := 63) rfl)
  have w_64 := hw _ (List.mem_of_getElem? (l := tables_1) (i := 64) rfl)
  have w_65 := hw _ (List.mem_of_getElem? (l := tables_1) (i := 65) rfl)
  show own_G p.tables e below (fun o U' => ∃ v L, o = .returned v ∧ (own_same1_Q Z gt wt vv h0 n0) v U'.heap L ∧ FrameEnd s o U' L ({ frames := 1, cells := 0, slots := 0, locals := 13 } : Room).cells ({ frames := 1, cells := 0, slots := 0, locals := 13 } : Room).slots) (s₁.setTop (entryFrame m #[(.ref gt), (.ref wt)] 2))
  refine own_go (B := s₁.setTop (mkF m 0 #[rv gt, rv wt] [])) (fun t k => castTop (own_same1_ef m gt wt) k) ?_
  refine own_go (B := (s₁.setTop (mkF m 1 #[rv gt, rv wt] [(.ref wt)]))) (fun t k => XS.aloadN X0.here hx rfl (hb hby own_same1_d0) rfl rfl k) ?_
  refine own_go (B := (s₁.setTop (mkF m 14 #[rv gt, rv wt] []))) (fun t k => XS.ifnonnullYes X0.here hx rfl (pc0 := 1) (pc' := 14) rfl (hb hby own_same1_d1) rfl (by decide) (by decide) k) ?_
  refine own_go (B := (s₁.setTop (mkF m 15 #[rv gt, rv wt] [(.ref gt)]))) (fun t k => XS.aloadN X0.here hx rfl (hb hby own_same1_d14) rfl rfl k) ?_
  refine own_go (B := (s₁.setTop (mkF m 18 #[rv gt, rv wt] []))) (fun t k => XS.ifnullNo X0.here hx rfl (hb hby own_same1_d15) rfl k) ?_
  refine own_go (B := (s₁.setTop (mkF m 19 #[rv gt, rv wt] [(.ref gt)]))) (fun t k => XS.aloadN X0.here hx rfl (hb hby own_same1_d18) rfl rfl k) ?_
  obtain ⟨cq11, kq11, qa11, qb11, qc11⟩ := isOf hZ e0 E1
  obtain ⟨_, _, ⟨T11, L11, k11, n11⟩, -, X11, ⟨Lc11, hQ11, l11, y11, z11⟩, st11⟩ := X0.virtualBack hx (y := own_y3) (z := own_y3) hown (mvT hZ w_61) (mvT hZ w_62) (notFace_of_selects (args := #[]) (mvT hZ w_64)) (mvT hZ w_64) (mvT hZ w_63) (by decide) (backOf (W := 0) (own_iv l Z a0 hw [] gt vv h0 n0 F1) hZ w_65 w_2 (by decide) (by decide)) qa11 qc11 (g := (mkF m 19 #[rv gt, rv wt] [(.ref gt)])) rfl (by rw [hml]; rfl) (Steps.refl _) (argsL := []) (rest := []) (lenOf own_pd3 rfl) rfl (by show 2 * 0 + _ ≤ _; exact own_b rfl) (hb hby own_same1_d19) (fun _ _ => ⟨rfl, e0, (own_b rfl : 0 + 0 ≤ _), (own_b rfl : 0 + 0 ≤ _)⟩)
  dsimp only [Pt.U, Pt.locs, Pt.cells, Pt.slots] at X11 l11 y11 z11 st11 hQ11
  obtain ⟨rfl, Nq11, eq11⟩ := hQ11
  obtain ⟨L11, X11, N11⟩ := own_absC (K := 0) (K' := 0) X11 l11 y11 z11 N0 Nq11
  have e11 : T11.heap = h0 := eq11
  refine own_tr (B := (T11.setTop (mkF m 22 #[rv gt, rv wt] [(.int vv)]))) st11 ?_
  refine own_go (B := (T11.setTop (mkF m 23 #[rv gt, rv wt] [(.ref wt), (.int vv)]))) (fun t k => XS.aloadN X11.here hx rfl (hb hby own_same1_d22) rfl rfl k) ?_
  obtain ⟨cq12, kq12, qa12, qb12, qc12⟩ := isOf hZ e11 E2
  obtain ⟨_, _, ⟨T12, L12, k12, n12⟩, -, X12, ⟨Lc12, hQ12, l12, y12, z12⟩, st12⟩ := X11.virtualBack hx (y := own_y3) (z := own_y3) hown (mvT hZ w_61) (mvT hZ w_62) (notFace_of_selects (args := #[]) (mvT hZ w_64)) (mvT hZ w_64) (mvT hZ w_63) (by decide) (backOf (W := 1) (own_iv l Z a0 hw [] wt vv h0 n0 F2) hZ w_65 w_2 (by decide) (by decide)) qa12 qc12 (g := (mkF m 23 #[rv gt, rv wt] [(.ref wt), (.int vv)])) rfl (by rw [hml]; rfl) (Steps.refl _) (argsL := []) (rest := [(.int vv)]) (lenOf own_pd3 rfl) rfl (by show 2 * 0 + _ ≤ _; exact own_b rfl) (hb hby own_same1_d23) (fun _ _ => ⟨rfl, e11, (own_b rfl : 0 + 0 ≤ _), (own_b rfl : 0 + 0 ≤ _)⟩)
  dsimp only [Pt.U, Pt.locs, Pt.cells, Pt.slots] at X12 l12 y12 z12 st12 hQ12
  obtain ⟨rfl, Nq12, eq12⟩ := hQ12
  obtain ⟨L12, X12, N12⟩ := own_absC (K := 0) (K' := 0) X12 l12 y12 z12 N11 Nq12
  have e12 : T12.heap = h0 := eq12
  refine own_tr (B := (T12.setTop (mkF m 26 #[rv gt, rv wt] [(.int vv), (.int vv)]))) st12 ?_
  have hc26 : vv = vv := rfl
  refine own_icmpN X12 hx (hb hby own_same1_d26) (pn := 29) rfl hc26 ?_
  refine own_go (B := (T12.setTop (mkF m 30 #[rv gt, rv wt] [(.int (1 : Int32))]))) (fun t k => own_iconst (v := (1 : Int32)) X12.here hx rfl (hb hby own_same1_d29) (by decide) k) ?_
  refine own_go (B := (T12.setTop (mkF m 34 #[rv gt, rv wt] [(.int (1 : Int32))]))) (fun t k => XS.goto X12.here hx rfl (pc0 := 30) (pc' := 34) rfl (hb hby own_same1_d30) (by decide) (by decide) k) ?_
  exact own_retZ X12 hx hlk Bd.returns (hb hby own_same1_d34) (by decide) (own_b rfl) (own_b rfl) (Q := (own_same1_Q Z gt wt vv h0 n0)) ⟨rfl, N12, e12⟩

theorem own_law_pn : plainName "com/example/pagemason/pagemason/core/SparesTakePinLaw" = true := by first | (simp [plainName, overriddenIn]; done) | decide +kernel
theorem own_law_ef (m : MethodId) (p0 : Int32) (p1 : Int32) (p2 : Int32) (p3 : Int32) (p4 : Int32) (p5 : Int32) : entryFrame m #[(.int p0), (.int p1), (.int p2), (.int p3), (.int p4), (.int p5)] maxLocals = mkF m 0 #[iv p0, iv p1, iv p2, iv p3, iv p4, iv p5, .unset, .unset, .unset, .unset, .unset, .unset, .unset, .unset, .unset, .unset, .unset, .unset, .unset, .unset, .unset, .unset, .unset, .unset, .unset] [] := by first | (simp [entryFrame, mkF, argsToLocals, Value.category, maxLocals]; done) | rfl
def own_law_Q (Z : State) (p0 : Int32) (p1 : Int32) (p2 : Int32) (p3 : Int32) (p4 : Int32) (p5 : Int32) (ca : Addr) (h0 : Heap) (n0 : Nat) (v : Option Value) (h : Heap) (L : List Loc) : Prop := v = some (.int 1) ∧ Fr n0 L
set_option maxRecDepth 65536 in
set_option maxHeartbeats 40000000 in
theorem own_law (l : Launch) (Z : State) (a0 : Array Value) (hw : ∀ d ∈ tables_1, d.before a0 Z = true) (ws : List Jvm.Cond) (p0 : Int32) (p1 : Int32) (p2 : Int32) (p3 : Int32) (p4 : Int32) (p5 : Int32) (ca : Addr) (h0 : Heap) (n0 : Nat) (Z0 : n0 ≤ h0.size) (hS1 : Sta Z h0 "java/lang/Integer$IntegerCache" "high" "I" (.int (127 : Int32))) (hS2 : Sta Z h0 "java/lang/Integer$IntegerCache" "cache" "[Ljava/lang/Integer;" (.ref ca)) (hC : own_Cache Z h0 ca) :
    MetFree l x (head1 (Jvm.Cond.code x code maxLocals ret :: ws) room_1) (fun a U => a = #[(.int p0), (.int p1), (.int p2), (.int p3), (.int p4), (.int p5)] ∧ Z.Warmed39 U.vm ∧ U.heap = h0) (fun _ _ _ _ _ => True) (fun _ U o U' => ∃ v L, o = .returned v ∧ (own_law_Q Z p0 p1 p2 p3 p4 p5 ca h0 n0) v U'.heap L ∧ FrameEnd U o U' L 24 128) := by
  refine MetFree.of_bodySF (plainFor_of_name own_law_pn) hisR ?_
  intro p e s m args below meth c s₁ Bd hml0 hP hK
  obtain ⟨rfl, hZ, hh⟩ := hP
  have hx := Bd.exec
  have hby := Bd.bytes
  have hml : c.maxLocals = 25 := hml0
  have hown : s.vm.findClass "com/example/pagemason/pagemason/core/SparesTakePinLaw" = some m.cls := findClass_of_methodNamed Bd.named
  have hnm := (name_of_methodNamed Bd.named Bd.method).1
  have hlk : meth.locks = false := Bd.notSynchronized
  have X0 : Stand p l e room_1 s m #[(.int p0), (.int p1), (.int p2), (.int p3), (.int p4), (.int p5)] below meth c s₁ [] 0 0 := Stand.of_body Bd
  have e0 : s₁.heap = h0 := by rw [← hh, Bd.state]; rfl
  have N0 := Fr.nil n0
  have w_0 := hw _ (List.mem_of_getElem? (l := tables_1) (i := 0) rfl)
  have w_1 := hw _ (List.mem_of_getElem? (l := tables_1) (i := 1) rfl)
  have w_2 := hw _ (List.mem_of_getElem? (l := tables_1) (i := 2) rfl)
  have w_3 := hw _ (List.mem_of_getElem? (l := tables_1) (i := 3) rfl)
  have w_7 := hw _ (List.mem_of_getElem? (l := tables_1) (i := 7) rfl)
  have w_8 := hw _ (List.mem_of_getElem? (l := tables_1) (i := 8) rfl)
  have w_9 := hw _ (List.mem_of_getElem? (l := tables_1) (i := 9) rfl)
  have w_10 := hw _ (List.mem_of_getElem? (l := tables_1) (i := 10) rfl)
  have w_11 := hw _ (List.mem_of_getElem? (l := tables_1) (i := 11) rfl)
  have w_12 := hw _ (List.mem_of_getElem? (l := tables_1) (i := 12) rfl)
  have w_13 := hw _ (List.mem_of_getElem? (l := tables_1) (i := 13) rfl)
  have w_14 := hw _ (List.mem_of_getElem? (l := tables_1) (i := 14) rfl)
  have w_15 := hw _ (List.mem_of_getElem? (l := tables_1) (i := 15) rfl)
  have w_22 := hw _ (List.mem_of_getElem? (l := tables_1) (i := 22) rfl)
  have w_23 := hw _ (List.mem_of_getElem? (l := tables_1) (i := 23) rfl)
  have w_24 := hw _ (List.mem_of_getElem? (l := tables_1) (i := 24) rfl)
  have w_25 := hw _ (List.mem_of_getElem? (l := tables_1) (i := 25) rfl)
  have w_26 := hw _ (List.mem_of_getElem? (l := tables_1) (i := 26) rfl)
  have w_27 := hw _ (List.mem_of_getElem? (l := tables_1) (i := 27) rfl)
  have w_28 := hw _ (List.mem_of_getElem? (l := tables_1) (i := 28) rfl)
  have w_29 := hw _ (List.mem_of_getElem? (l := tables_1) (i := 29) rfl)
  have w_30 := hw _ (List.mem_of_getElem? (l := tables_1) (i := 30) rfl)
  have w_31 := hw _ (List.mem_of_getElem? (l := tables_1) (i := 31) rfl)
  have w_33 := hw _ (List.mem_of_getElem? (l := tables_1) (i := 33) rfl)
  have w_34 := hw _ (List.mem_of_getElem? (l := tables_1) (i := 34) rfl)
  have w_35 := hw _ (List.mem_of_getElem? (l := tables_1) (i := 35) rfl)
  have w_36 := hw _ (List.mem_of_getElem? (l := tables_1) (i := 36) rfl)
  have w_37 := hw _ (List.mem_of_getElem? (l := tables_1) (i := 37) rfl)
  have w_38 := hw _ (List.mem_of_getElem? (l := tables_1) (i := 38) rfl)
  have w_39 := hw _ (List.mem_of_getElem? (l := tables_1) (i := 39) rfl)
  have w_40 := hw _ (List.mem_of_getElem? (l := tables_1) (i := 40) rfl)
  have w_41 := hw _ (List.mem_of_getElem? (l := tables_1) (i := 41) rfl)
  have w_42 := hw _ (List.mem_of_getElem? (l := tables_1) (i := 42) rfl)
  have w_43 := hw _ (List.mem_of_getElem? (l := tables_1) (i := 43) rfl)
  have w_44 := hw _ (List.mem_of_getElem? (l := tables_1) (i := 44) rfl)
  have w_45 := hw _ (List.mem_of_getElem? (l := tables_1) (i := 45) rfl)
  have w_60 := hw _ (List.mem_of_getElem? (l := tables_1) (i := 60) rfl)
  show own_G p.tables e below (fun o U' => ∃ v L, o = .returned v ∧ (own_law_Q Z p0 p1 p2 p3 p4 p5 ca h0 n0) v U'.heap L ∧ FrameEnd s o U' L 24 128) (s₁.setTop (entryFrame m #[(.int p0), (.int p1), (.int p2), (.int p3), (.int p4), (.int p5)] maxLocals))
  refine own_go (B := s₁.setTop (mkF m 0 #[iv p0, iv p1, iv p2, iv p3, iv p4, iv p5, .unset, .unset, .unset, .unset, .unset, .unset, .unset, .unset, .unset, .unset, .unset, .unset, .unset, .unset, .unset, .unset, .unset, .unset, .unset] [])) (fun t k => castTop (own_law_ef m p0 p1 p2 p3 p4 p5) k) ?_
  have K0 := Keep.refl h0 []
  refine own_go (B := (s₁.setTop (mkF m 1 #[iv p0, iv p1, iv p2, iv p3, iv p4, iv p5, .unset, .unset, .unset, .unset, .unset, .unset, .unset, .unset, .unset, .unset, .unset, .unset, .unset, .unset, .unset, .unset, .unset, .unset, .unset] [(.int p0)]))) (fun t k => XS.iloadN X0.here hx rfl (hb hby at_0) rfl k) ?_
  refine own_go (B := (s₁.setTop (mkF m 2 #[iv p0, iv p1, iv p2, iv p3, iv p4, iv p5, .unset, .unset, .unset, .unset, .unset, .unset, .unset, .unset, .unset, .unset, .unset, .unset, .unset, .unset, .unset, .unset, .unset, .unset, .unset] [(.int (3 : Int32)), (.int p0)]))) (fun t k => own_iconst (v := (3 : Int32)) X0.here hx rfl (hb hby at_1) (by decide) k) ?_
  refine own_go (B := (s₁.setTop (mkF m 3 #[iv p0, iv p1, iv p2, iv p3, iv p4, iv p5, .unset, .unset, .unset, .unset, .unset, .unset, .unset, .unset, .unset, .unset, .unset, .unset, .unset, .unset, .unset, .unset, .unset, .unset, .unset] [(.int (p0 &&& (3 : Int32)))]))) (fun t k => XS.iand (x := p0) (y := (3 : Int32)) X0.here hx rfl (hb hby at_2) rfl k) ?_
  obtain ⟨z3, hz3⟩ : ∃ z : Int32, z = (p0 &&& (3 : Int32)) := ⟨_, rfl⟩
  rw [← hz3]
  refine own_go (B := (s₁.setTop (mkF m 5 #[iv p0, iv p1, iv p2, iv p3, iv p4, iv p5, iv z3, .unset, .unset, .unset, .unset, .unset, .unset, .unset, .unset, .unset, .unset, .unset, .unset, .unset, .unset, .unset, .unset, .unset, .unset] []))) (fun t k => XS.istore X0.here hx rfl (hb hby at_3) rfl (l' := #[iv p0, iv p1, iv p2, iv p3, iv p4, iv p5, iv z3, .unset, .unset, .unset, .unset, .unset, .unset, .unset, .unset, .unset, .unset, .unset, .unset, .unset, .unset, .unset, .unset, .unset, .unset]) rfl k) ?_
  refine own_go (B := (s₁.setTop (mkF m 6 #[iv p0, iv p1, iv p2, iv p3, iv p4, iv p5, iv z3, .unset, .unset, .unset, .unset, .unset, .unset, .unset, .unset, .unset, .unset, .unset, .unset, .unset, .unset, .unset, .unset, .unset, .unset] [(.int p0)]))) (fun t k => XS.iloadN X0.here hx rfl (hb hby at_5) rfl k) ?_
  refine own_go (B := (s₁.setTop (mkF m 7 #[iv p0, iv p1, iv p2, iv p3, iv p4, iv p5, iv z3, .unset, .unset, .unset, .unset, .unset, .unset, .unset, .unset, .unset, .unset, .unset, .unset, .unset, .unset, .unset, .unset, .unset, .unset] [(.int (2 : Int32)), (.int p0)]))) (fun t k => own_iconst (v := (2 : Int32)) X0.here hx rfl (hb hby at_6) (by decide) k) ?_
  refine own_go (B := (s₁.setTop (mkF m 8 #[iv p0, iv p1, iv p2, iv p3, iv p4, iv p5, iv z3, .unset, .unset, .unset, .unset, .unset, .unset, .unset, .unset, .unset, .unset, .unset, .unset, .unset, .unset, .unset, .unset, .unset, .unset] [(.int ((p0.toUInt32 >>> ((2 : Int32) &&& 31).toUInt32).toInt32))]))) (fun t k => XS.iushr (x := p0) (y := (2 : Int32)) X0.here hx rfl (hb hby at_7) rfl k) ?_
  refine own_go (B := (s₁.setTop (mkF m 10 #[iv p0, iv p1, iv p2, iv p3, iv p4, iv p5, iv z3, .unset, .unset, .unset, .unset, .unset, .unset, .unset, .unset, .unset, .unset, .unset, .unset, .unset, .unset, .unset, .unset, .unset, .unset] [(.int (7 : Int32)), (.int ((p0.toUInt32 >>> ((2 : Int32) &&& 31).toUInt32).toInt32))]))) (fun t k => own_bipush (v := (7 : Int32)) X0.here hx rfl (hb hby at_8) (by decide) k) ?_
  refine own_go (B := (s₁.setTop (mkF m 11 #[iv p0, iv p1, iv p2, iv p3, iv p4, iv p5, iv z3, .unset, .unset, .unset, .unset, .unset, .unset, .unset, .unset, .unset, .unset, .unset, .unset, .unset, .unset, .unset, .unset, .unset, .unset] [(.int (((p0.toUInt32 >>> ((2 : Int32) &&& 31).toUInt32).toInt32) &&& (7 : Int32)))]))) (fun t k => XS.iand (x := ((p0.toUInt32 >>> ((2 : Int32) &&& 31).toUInt32).toInt32)) (y := (7 : Int32)) X0.here hx rfl (hb hby at_10) rfl k) ?_
  refine own_go (B := (s₁.setTop (mkF m 12 #[iv p0, iv p1, iv p2, iv p3, iv p4, iv p5, iv z3, .unset, .unset, .unset, .unset, .unset, .unset, .unset, .unset, .unset, .unset, .unset, .unset, .unset, .unset, .unset, .unset, .unset, .unset] [(.int (5 : Int32)), (.int (((p0.toUInt32 >>> ((2 : Int32) &&& 31).toUInt32).toInt32) &&& (7 : Int32)))]))) (fun t k => own_iconst (v := (5 : Int32)) X0.here hx rfl (hb hby at_11) (by decide) k) ?_
  refine own_go (B := (s₁.setTop (mkF m 13 #[iv p0, iv p1, iv p2, iv p3, iv p4, iv p5, iv z3, .unset, .unset, .unset, .unset, .unset, .unset, .unset, .unset, .unset, .unset, .unset, .unset, .unset, .unset, .unset, .unset, .unset, .unset] [(.int ((((p0.toUInt32 >>> ((2 : Int32) &&& 31).toUInt32).toInt32) &&& (7 : Int32)) % (5 : Int32)))]))) (fun t k => iremM (x := (((p0.toUInt32 >>> ((2 : Int32) &&& 31).toUInt32).toInt32) &&& (7 : Int32))) (y := (5 : Int32)) X0 hx rfl (hb hby at_12) rfl (by decide) k) ?_
  obtain ⟨z13, hz13⟩ : ∃ z : Int32, z = ((((p0.toUInt32 >>> ((2 : Int32) &&& 31).toUInt32).toInt32) &&& (7 : Int32)) % (5 : Int32)) := ⟨_, rfl⟩
  rw [← hz13]
  refine own_go (B := (s₁.setTop (mkF m 15 #[iv p0, iv p1, iv p2, iv p3, iv p4, iv p5, iv z3, iv z13, .unset, .unset, .unset, .unset, .unset, .unset, .unset, .unset, .unset, .unset, .unset, .unset, .unset, .unset, .unset, .unset, .unset] []))) (fun t k => XS.istore X0.here hx rfl (hb hby at_13) rfl (l' := #[iv p0, iv p1, iv p2, iv p3, iv p4, iv p5, iv z3, iv z13, .unset, .unset, .unset, .unset, .unset, .unset, .unset, .unset, .unset, .unset, .unset, .unset, .unset, .unset, .unset, .unset, .unset]) rfl k) ?_
  refine own_go (B := (s₁.setTop (mkF m 16 #[iv p0, iv p1, iv p2, iv p3, iv p4, iv p5, iv z3, iv z13, .unset, .unset, .unset, .unset, .unset, .unset, .unset, .unset, .unset, .unset, .unset, .unset, .unset, .unset, .unset, .unset, .unset] [(.int p1)]))) (fun t k => XS.iloadN X0.here hx rfl (hb hby at_15) rfl k) ?_
  obtain ⟨_, _, ⟨T1, L1, k1, n1⟩, -, X1, ⟨Lc1, hQ1, l1, y1, z1⟩, st1⟩ := Jvm.LawKit.callS X0 hx (y := own_y4) hown (mvT hZ w_0) (mvT hZ w_1) (mvT hZ w_2) (mvT hZ w_3) (by decide) (backOf (W := 0) (own_vo l Z a0 hw [] p1 ca h0 n0 Z0 (own_sta_keep hS1 K0 (fun _ q => nomatch q)) (own_sta_keep hS2 K0 (fun _ q => nomatch q)) (own_Cache_keep hC K0)) hZ w_3 w_2 (by decide) (by decide)) (g := (mkF m 16 #[iv p0, iv p1, iv p2, iv p3, iv p4, iv p5, iv z3, iv z13, .unset, .unset, .unset, .unset, .unset, .unset, .unset, .unset, .unset, .unset, .unset, .unset, .unset, .unset, .unset, .unset, .unset] [(.int p1)])) rfl (by rw [hml]; rfl) (argsL := [(.int p1)]) (rest := []) (lenOf own_pd4 rfl) rfl (by show 2 * 0 + _ ≤ _; exact own_b rfl) (hb hby at_16) (fun _ _ => ⟨rfl, e0, (own_b rfl : 0 + 1 ≤ _), (own_b rfl : 0 + 1 ≤ _)⟩)
  dsimp only [Pt.U, Pt.locs, Pt.cells, Pt.slots] at X1 l1 y1 z1 st1 hQ1
  obtain ⟨a1, rfl, Nq1, K1, Ex1, gv1⟩ := hQ1
  obtain ⟨L1, X1, N1⟩ := own_absC (K := 1) (K' := 1) X1 l1 y1 z1 N0 Nq1
  have F2 : n0 ≤ T1.heap.size := Nat.le_trans Z0 K1.1
  have F3 := Keep.trans K0 K1 all0
  refine own_go (B := (T1.setTop (mkF m 19 #[iv p0, iv p1, iv p2, iv p3, iv p4, iv p5, iv z3, iv z13, .unset, .unset, .unset, .unset, .unset, .unset, .unset, .unset, .unset, .unset, .unset, .unset, .unset, .unset, .unset, .unset, .unset] [(.ref a1)]))) st1 ?_
  refine own_go (B := (T1.setTop (mkF m 21 #[iv p0, iv p1, iv p2, iv p3, iv p4, iv p5, iv z3, iv z13, rv a1, .unset, .unset, .unset, .unset, .unset, .unset, .unset, .unset, .unset, .unset, .unset, .unset, .unset, .unset, .unset, .unset] []))) (fun t k => XS.astore X1.here hx rfl (hb hby at_19) rfl rfl (l' := #[iv p0, iv p1, iv p2, iv p3, iv p4, iv p5, iv z3, iv z13, rv a1, .unset, .unset, .unset, .unset, .unset, .unset, .unset, .unset, .unset, .unset, .unset, .unset, .unset, .unset, .unset, .unset]) rfl k) ?_
  refine own_go (B := (T1.setTop (mkF m 22 #[iv p0, iv p1, iv p2, iv p3, iv p4, iv p5, iv z3, iv z13, rv a1, .unset, .unset, .unset, .unset, .unset, .unset, .unset, .unset, .unset, .unset, .unset, .unset, .unset, .unset, .unset, .unset] [(.int p2)]))) (fun t k => XS.iloadN X1.here hx rfl (hb hby at_21) rfl k) ?_
  obtain ⟨_, _, ⟨T4, L4, k4, n4⟩, -, X4, ⟨Lc4, hQ4, l4, y4, z4⟩, st4⟩ := Jvm.LawKit.callS X1 hx (y := own_y4) hown (mvT hZ w_0) (mvT hZ w_1) (mvT hZ w_2) (mvT hZ w_3) (by decide) (backOf (W := 0) (own_vo l Z a0 hw [] p2 ca T1.heap n0 F2 (own_sta_keep hS1 F3 (fun _ q => nomatch q)) (own_sta_keep hS2 F3 (fun _ q => nomatch q)) (own_Cache_keep hC F3)) hZ w_3 w_2 (by decide) (by decide)) (g := (mkF m 22 #[iv p0, iv p1, iv p2, iv p3, iv p4, iv p5, iv z3, iv z13, rv a1, .unset, .unset, .unset, .unset, .unset, .unset, .unset, .unset, .unset, .unset, .unset, .unset, .unset, .unset, .unset, .unset] [(.int p2)])) rfl (by rw [hml]; rfl) (argsL := [(.int p2)]) (rest := []) (lenOf own_pd4 rfl) rfl (by show 2 * 0 + _ ≤ _; exact own_b rfl) (hb hby at_22) (fun _ _ => ⟨rfl, rfl, (own_b rfl : 1 + 1 ≤ _), (own_b rfl : 1 + 1 ≤ _)⟩)
  dsimp only [Pt.U, Pt.locs, Pt.cells, Pt.slots] at X4 l4 y4 z4 st4 hQ4
  obtain ⟨a4, rfl, Nq4, K4, Ex4, gv4⟩ := hQ4
  obtain ⟨L4, X4, N4⟩ := own_absC (K := 2) (K' := 2) X4 l4 y4 z4 N1 Nq4
  have F5 : n0 ≤ T4.heap.size := Nat.le_trans F2 K4.1
  have F6 := Keep.trans F3 K4 all0
  have F7 := Exa.keep Ex1 K4
  have F8 := Fld.keep gv1 K4 nin0
  refine own_go (B := (T4.setTop (mkF m 25 #[iv p0, iv p1, iv p2, iv p3, iv p4, iv p5, iv z3, iv z13, rv a1, .unset, .unset, .unset, .unset, .unset, .unset, .unset, .unset, .unset, .unset, .unset, .unset, .unset, .unset, .unset, .unset] [(.ref a4)]))) st4 ?_
  refine own_go (B := (T4.setTop (mkF m 27 #[iv p0, iv p1, iv p2, iv p3, iv p4, iv p5, iv z3, iv z13, rv a1, rv a4, .unset, .unset, .unset, .unset, .unset, .unset, .unset, .unset, .unset, .unset, .unset, .unset, .unset, .unset, .unset] []))) (fun t k => XS.astore X4.here hx rfl (hb hby at_25) rfl rfl (l' := #[iv p0, iv p1, iv p2, iv p3, iv p4, iv p5, iv z3, iv z13, rv a1, rv a4, .unset, .unset, .unset, .unset, .unset, .unset, .unset, .unset, .unset, .unset, .unset, .unset, .unset, .unset, .unset]) rfl k) ?_
  refine own_go (B := (T4.setTop (mkF m 28 #[iv p0, iv p1, iv p2, iv p3, iv p4, iv p5, iv z3, iv z13, rv a1, rv a4, .unset, .unset, .unset, .unset, .unset, .unset, .unset, .unset, .unset, .unset, .unset, .unset, .unset, .unset, .unset] [(.int p3)]))) (fun t k => XS.iloadN X4.here hx rfl (hb hby at_27) rfl k) ?_
  obtain ⟨_, _, ⟨T9, L9, k9, n9⟩, -, X9, ⟨Lc9, hQ9, l9, y9, z9⟩, st9⟩ := Jvm.LawKit.callS X4 hx (y := own_y4) hown (mvT hZ w_0) (mvT hZ w_1) (mvT hZ w_2) (mvT hZ w_3) (by decide) (backOf (W := 0) (own_vo l Z a0 hw [] p3 ca T4.heap n0 F5 (own_sta_keep hS1 F6 (fun _ q => nomatch q)) (own_sta_keep hS2 F6 (fun _ q => nomatch q)) (own_Cache_keep hC F6)) hZ w_3 w_2 (by decide) (by decide)) (g := (mkF m 28 #[iv p0, iv p1, iv p2, iv p3, iv p4, iv p5, iv z3, iv z13, rv a1, rv a4, .unset, .unset, .unset, .unset, .unset, .unset, .unset, .unset, .unset, .unset, .unset, .unset, .unset, .unset, .unset] [(.int p3)])) rfl (by rw [hml]; rfl) (argsL := [(.int p3)]) (rest := []) (lenOf own_pd4 rfl) rfl (by show 2 * 0 + _ ≤ _; exact own_b rfl) (hb hby at_28) (fun _ _ => ⟨rfl, rfl, (own_b rfl : 2 + 1 ≤ _), (own_b rfl : 2 + 1 ≤ _)⟩)
  dsimp only [Pt.U, Pt.locs, Pt.cells, Pt.slots] at X9 l9 y9 z9 st9 hQ9
  obtain ⟨a9, rfl, Nq9, K9, Ex9, gv9⟩ := hQ9
  obtain ⟨L9, X9, N9⟩ := own_absC (K := 3) (K' := 3) X9 l9 y9 z9 N4 Nq9
  have F10 : n0 ≤ T9.heap.size := Nat.le_trans F5 K9.1
  have F11 := Keep.trans F6 K9 all0
  have F12 := Exa.keep F7 K9
  have F13 := Fld.keep F8 K9 nin0
  have F14 := Exa.keep Ex4 K9
  have F15 := Fld.keep gv4 K9 nin0
  refine own_go (B := (T9.setTop (mkF m 31 #[iv p0, iv p1, iv p2, iv p3, iv p4, iv p5, iv z3, iv z13, rv a1, rv a4, .unset, .unset, .unset, .unset, .unset, .unset, .unset, .unset, .unset, .unset, .unset, .unset, .unset, .unset, .unset] [(.ref a9)]))) st9 ?_
  refine own_go (B := (T9.setTop (mkF m 33 #[iv p0, iv p1, iv p2, iv p3, iv p4, iv p5, iv z3, iv z13, rv a1, rv a4, rv a9, .unset, .unset, .unset, .unset, .unset, .unset, .unset, .unset, .unset, .unset, .unset, .unset, .unset, .unset] []))) (fun t k => XS.astore X9.here hx rfl (hb hby at_31) rfl rfl (l' := #[iv p0, iv p1, iv p2, iv p3, iv p4, iv p5, iv z3, iv z13, rv a1, rv a4, rv a9, .unset, .unset, .unset, .unset, .unset, .unset, .unset, .unset, .unset, .unset, .unset, .unset, .unset, .unset]) rfl k) ?_
  refine own_go (B := (T9.setTop (mkF m 35 #[iv p0, iv p1, iv p2, iv p3, iv p4, iv p5, iv z3, iv z13, rv a1, rv a4, rv a9, .unset, .unset, .unset, .unset, .unset, .unset, .unset, .unset, .unset, .unset, .unset, .unset, .unset, .unset] [(.int p4)]))) (fun t k => XS.iload X9.here hx rfl (hb hby at_33) rfl k) ?_
  obtain ⟨_, _, ⟨T16, L16, k16, n16⟩, -, X16, ⟨Lc16, hQ16, l16, y16, z16⟩, st16⟩ := Jvm.LawKit.callS X9 hx (y := own_y4) hown (mvT hZ w_0) (mvT hZ w_1) (mvT hZ w_2) (mvT hZ w_3) (by decide) (backOf (W := 0) (own_vo l Z a0 hw [] p4 ca T9.heap n0 F10 (own_sta_keep hS1 F11 (fun _ q => nomatch q)) (own_sta_keep hS2 F11 (fun _ q => nomatch q)) (own_Cache_keep hC F11)) hZ w_3 w_2 (by decide) (by decide)) (g := (mkF m 35 #[iv p0, iv p1, iv p2, iv p3, iv p4, iv p5, iv z3, iv z13, rv a1, rv a4, rv a9, .unset, .unset, .unset, .unset, .unset, .unset, .unset, .unset, .unset, .unset, .unset, .unset, .unset, .unset] [(.int p4)])) rfl (by rw [hml]; rfl) (argsL := [(.int p4)]) (rest := []) (lenOf own_pd4 rfl) rfl (by show 2 * 0 + _ ≤ _; exact own_b rfl) (hb hby at_35) (fun _ _ => ⟨rfl, rfl, (own_b rfl : 3 + 1 ≤ _), (own_b rfl : 3 + 1 ≤ _)⟩)
  dsimp only [Pt.U, Pt.locs, Pt.cells, Pt.slots] at X16 l16 y16 z16 st16 hQ16
  obtain ⟨a16, rfl, Nq16, K16, Ex16, gv16⟩ := hQ16
  obtain ⟨L16, X16, N16⟩ := own_absC (K := 4) (K' := 4) X16 l16 y16 z16 N9 Nq16
  have F17 : n0 ≤ T16.heap.size := Nat.le_trans F10 K16.1
  have F18 := Keep.trans F11 K16 all0
  have F19 := Exa.keep F12 K16
  have F20 := Fld.keep F13 K16 nin0
  have F21 := Exa.keep F14 K16
  have F22 := Fld.keep F15 K16 nin0
  have F23 := Exa.keep Ex9 K16
  have F24 := Fld.keep gv9 K16 nin0
  refine own_go (B := (T16.setTop (mkF m 38 #[iv p0, iv p1, iv p2, iv p3, iv p4, iv p5, iv z3, iv z13, rv a1, rv a4, rv a9, .unset, .unset, .unset, .unset, .unset, .unset, .unset, .unset, .unset, .unset, .unset, .unset, .unset, .unset] [(.ref a16)]))) st16 ?_
  refine own_go (B := (T16.setTop (mkF m 40 #[iv p0, iv p1, iv p2, iv p3, iv p4, iv p5, iv z3, iv z13, rv a1, rv a4, rv a9, rv a16, .unset, .unset, .unset, .unset, .unset, .unset, .unset, .unset, .unset, .unset, .unset, .unset, .unset] []))) (fun t k => XS.astore X16.here hx rfl (hb hby at_38) rfl rfl (l' := #[iv p0, iv p1, iv p2, iv p3, iv p4, iv p5, iv z3, iv z13, rv a1, rv a4, rv a9, rv a16, .unset, .unset, .unset, .unset, .unset, .unset, .unset, .unset, .unset, .unset, .unset, .unset, .unset]) rfl k) ?_
  refine own_go (B := (T16.setTop (mkF m 42 #[iv p0, iv p1, iv p2, iv p3, iv p4, iv p5, iv z3, iv z13, rv a1, rv a4, rv a9, rv a16, .unset, .unset, .unset, .unset, .unset, .unset, .unset, .unset, .unset, .unset, .unset, .unset, .unset] [(.int p5)]))) (fun t k => XS.iload X16.here hx rfl (hb hby at_40) rfl k) ?_
  obtain ⟨_, _, ⟨T25, L25, k25, n25⟩, -, X25, ⟨Lc25, hQ25, l25, y25, z25⟩, st25⟩ := Jvm.LawKit.callS X16 hx (y := own_y4) hown (mvT hZ w_0) (mvT hZ w_1) (mvT hZ w_2) (mvT hZ w_3) (by decide) (backOf (W := 0) (own_vo l Z a0 hw [] p5 ca T16.heap n0 F17 (own_sta_keep hS1 F18 (fun _ q => nomatch q)) (own_sta_keep hS2 F18 (fun _ q => nomatch q)) (own_Cache_keep hC F18)) hZ w_3 w_2 (by decide) (by decide)) (g := (mkF m 42 #[iv p0, iv p1, iv p2, iv p3, iv p4, iv p5, iv z3, iv z13, rv a1, rv a4, rv a9, rv a16, .unset, .unset, .unset, .unset, .unset, .unset, .unset, .unset, .unset, .unset, .unset, .unset, .unset] [(.int p5)])) rfl (by rw [hml]; rfl) (argsL := [(.int p5)]) (rest := []) (lenOf own_pd4 rfl) rfl (by show 2 * 0 + _ ≤ _; exact own_b rfl) (hb hby at_42) (fun _ _ => ⟨rfl, rfl, (own_b rfl : 4 + 1 ≤ _), (own_b rfl : 4 + 1 ≤ _)⟩)
  dsimp only [Pt.U, Pt.locs, Pt.cells, Pt.slots] at X25 l25 y25 z25 st25 hQ25
  obtain ⟨a25, rfl, Nq25, K25, Ex25, gv25⟩ := hQ25
  obtain ⟨L25, X25, N25⟩ := own_absC (K := 5) (K' := 5) X25 l25 y25 z25 N16 Nq25
  have F26 : n0 ≤ T25.heap.size := Nat.le_trans F17 K25.1
  have F27 := Keep.trans F18 K25 all0
  have F28 := Exa.keep F19 K25
  have F29 := Fld.keep F20 K25 nin0
  have F30 := Exa.keep F21 K25
  have F31 := Fld.keep F22 K25 nin0
  have F32 := Exa.keep F23 K25
  have F33 := Fld.keep F24 K25 nin0
  have F34 := Exa.keep Ex16 K25
  have F35 := Fld.keep gv16 K25 nin0
  refine own_go (B := (T25.setTop (mkF m 45 #[iv p0, iv p1, iv p2, iv p3, iv p4, iv p5, iv z3, iv z13, rv a1, rv a4, rv a9, rv a16, .unset, .unset, .unset, .unset, .unset, .unset, .unset, .unset, .unset, .unset, .unset, .unset, .unset] [(.ref a25)]))) st25 ?_
  refine own_go (B := (T25.setTop (mkF m 47 #[iv p0, iv p1, iv p2, iv p3, iv p4, iv p5, iv z3, iv z13, rv a1, rv a4, rv a9, rv a16, rv a25, .unset, .unset, .unset, .unset, .unset, .unset, .unset, .unset, .unset, .unset, .unset, .unset] []))) (fun t k => XS.astore X25.here hx rfl (hb hby at_45) rfl rfl (l' := #[iv p0, iv p1, iv p2, iv p3, iv p4, iv p5, iv z3, iv z13, rv a1, rv a4, rv a9, rv a16, rv a25, .unset, .unset, .unset, .unset, .unset, .unset, .unset, .unset, .unset, .unset, .unset, .unset]) rfl k) ?_
  refine own_go (B := (T25.setTop (mkF m 48 #[iv p0, iv p1, iv p2, iv p3, iv p4, iv p5, iv z3, iv z13, rv a1, rv a4, rv a9, rv a16, rv a25, .unset, .unset, .unset, .unset, .unset, .unset, .unset, .unset, .unset, .unset, .unset, .unset] [(.int (4 : Int32))]))) (fun t k => own_iconst (v := (4 : Int32)) X25.here hx rfl (hb hby at_47) (by decide) k) ?_
  obtain ⟨T36, h36, c36, X36, e36, E36, A36, O36, st36⟩ := newR X25 hx hZ hown w_7 w_8 rfl (g := (mkF m 48 #[iv p0, iv p1, iv p2, iv p3, iv p4, iv p5, iv z3, iv z13, rv a1, rv a4, rv a9, rv a16, rv a25, .unset, .unset, .unset, .unset, .unset, .unset, .unset, .unset, .unset, .unset, .unset, .unset] [(.int (4 : Int32))])) rfl (hb hby at_48) rfl (by decide) (cap := 4) (by decide) (by decide) (own_b rfl) (own_b rfl)
  obtain ⟨a36, ga36⟩ : ∃ z, z = T25.heap.size := ⟨_, rfl⟩
  rw [← ga36] at A36 st36
  refine own_go (B := (T36.setTop (mkF m 51 #[iv p0, iv p1, iv p2, iv p3, iv p4, iv p5, iv z3, iv z13, rv a1, rv a4, rv a9, rv a16, rv a25, .unset, .unset, .unset, .unset, .unset, .unset, .unset, .unset, .unset, .unset, .unset, .unset] [(.ref a36)]))) st36 ?_
  have Z37 : n0 ≤ h36.size := Nat.le_trans F26 E36.1
  have K38 := Keep.ext F27 E36
  have F39 := Exa.ext E36 F28
  have F40 := Fld.ext E36 F29
  have F41 := Exa.ext E36 F30
  have F42 := Fld.ext E36 F31
  have F43 := Exa.ext E36 F32
  have F44 := Fld.ext E36 F33
  have F45 := Exa.ext E36 F34
  have F46 := Fld.ext E36 F35
  have F47 := Exa.ext E36 Ex25
  have F48 := Fld.ext E36 gv25
  have gn36 : n0 ≤ a36 := Nat.le_trans F26 (Nat.le_of_eq ga36.symm)
  have ne36_a1 : a36 ≠ a1 := fun q => absurd (F28.lt) (by rw [← q, ga36]; exact Nat.lt_irrefl _)
  have ne36_a4 : a36 ≠ a4 := fun q => absurd (F30.lt) (by rw [← q, ga36]; exact Nat.lt_irrefl _)
  have ne36_a9 : a36 ≠ a9 := fun q => absurd (F32.lt) (by rw [← q, ga36]; exact Nat.lt_irrefl _)
  have ne36_a16 : a36 ≠ a16 := fun q => absurd (F34.lt) (by rw [← q, ga36]; exact Nat.lt_irrefl _)
  have ne36_a25 : a36 ≠ a25 := fun q => absurd (Ex25.lt) (by rw [← q, ga36]; exact Nat.lt_irrefl _)
  have V36 := own_Ao_new A36 O36
  refine own_go (B := (T36.setTop (mkF m 52 #[iv p0, iv p1, iv p2, iv p3, iv p4, iv p5, iv z3, iv z13, rv a1, rv a4, rv a9, rv a16, rv a25, .unset, .unset, .unset, .unset, .unset, .unset, .unset, .unset, .unset, .unset, .unset, .unset] [(.ref a36), (.ref a36)]))) (fun t k => XS.dup X36.here hx rfl (hb hby at_51) rfl rfl k) ?_
  refine own_go (B := (T36.setTop (mkF m 53 #[iv p0, iv p1, iv p2, iv p3, iv p4, iv p5, iv z3, iv z13, rv a1, rv a4, rv a9, rv a16, rv a25, .unset, .unset, .unset, .unset, .unset, .unset, .unset, .unset, .unset, .unset, .unset, .unset] [(.int (0 : Int32)), (.ref a36), (.ref a36)]))) (fun t k => own_iconst (v := (0 : Int32)) X36.here hx rfl (hb hby at_52) (by decide) k) ?_
  refine own_go (B := (T36.setTop (mkF m 55 #[iv p0, iv p1, iv p2, iv p3, iv p4, iv p5, iv z3, iv z13, rv a1, rv a4, rv a9, rv a16, rv a25, .unset, .unset, .unset, .unset, .unset, .unset, .unset, .unset, .unset, .unset, .unset, .unset] [(.ref a1), (.int (0 : Int32)), (.ref a36), (.ref a36)]))) (fun t k => XS.aload X36.here hx rfl (hb hby at_53) rfl rfl k) ?_
  obtain ⟨T49, h49, X49, e49, W49, V49, st49⟩ := own_stR X36 hx hZ e36 V36 (Or.inr ⟨_, rfl, Ins.of_exa F39 w_9⟩) (by decide) (Nat.lt_of_lt_of_eq (by decide : _ < 4) (by simp)) (g := (mkF m 55 #[iv p0, iv p1, iv p2, iv p3, iv p4, iv p5, iv z3, iv z13, rv a1, rv a4, rv a9, rv a16, rv a25, .unset, .unset, .unset, .unset, .unset, .unset, .unset, .unset, .unset, .unset, .unset, .unset] [(.ref a1), (.int (0 : Int32)), (.ref a36), (.ref a36)])) rfl rfl (hb hby at_55)
  refine own_go (B := (T49.setTop (mkF m 56 #[iv p0, iv p1, iv p2, iv p3, iv p4, iv p5, iv z3, iv z13, rv a1, rv a4, rv a9, rv a16, rv a25, .unset, .unset, .unset, .unset, .unset, .unset, .unset, .unset, .unset, .unset, .unset, .unset] [(.ref a36)]))) st49 ?_
  obtain ⟨L49, X49, N49⟩ := own_abs X49 (Fr.snoc X49 N25 gn36)
  have F50 : n0 ≤ h49.size := by rw [W49.size]; exact Z37
  have F51 := Keep.wr K38 W49 (Or.inr (Nat.le_trans F27.1 (Nat.le_of_eq ga36.symm)))
  have F52 := Exa.wr W49 F39
  have F53 := Fld.other W49 F40 (Or.inl (Ne.symm ne36_a1))
  have F54 := Exa.wr W49 F41
  have F55 := Fld.other W49 F42 (Or.inl (Ne.symm ne36_a4))
  have F56 := Exa.wr W49 F43
  have F57 := Fld.other W49 F44 (Or.inl (Ne.symm ne36_a9))
  have F58 := Exa.wr W49 F45
  have F59 := Fld.other W49 F46 (Or.inl (Ne.symm ne36_a16))
  have F60 := Exa.wr W49 F47
  have F61 := Fld.other W49 F48 (Or.inl (Ne.symm ne36_a25))
  refine own_go (B := (T49.setTop (mkF m 57 #[iv p0, iv p1, iv p2, iv p3, iv p4, iv p5, iv z3, iv z13, rv a1, rv a4, rv a9, rv a16, rv a25, .unset, .unset, .unset, .unset, .unset, .unset, .unset, .unset, .unset, .unset, .unset, .unset] [(.ref a36), (.ref a36)]))) (fun t k => XS.dup X49.here hx rfl (hb hby at_56) rfl rfl k) ?_
  refine own_go (B := (T49.setTop (mkF m 58 #[iv p0, iv p1, iv p2, iv p3, iv p4, iv p5, iv z3, iv z13, rv a1, rv a4, rv a9, rv a16, rv a25, .unset, .unset, .unset, .unset, .unset, .unset, .unset, .unset, .unset, .unset, .unset, .unset] [(.int (1 : Int32)), (.ref a36), (.ref a36)]))) (fun t k => own_iconst (v := (1 : Int32)) X49.here hx rfl (hb hby at_57) (by decide) k) ?_
  refine own_go (B := (T49.setTop (mkF m 60 #[iv p0, iv p1, iv p2, iv p3, iv p4, iv p5, iv z3, iv z13, rv a1, rv a4, rv a9, rv a16, rv a25, .unset, .unset, .unset, .unset, .unset, .unset, .unset, .unset, .unset, .unset, .unset, .unset] [(.ref a4), (.int (1 : Int32)), (.ref a36), (.ref a36)]))) (fun t k => XS.aload X49.here hx rfl (hb hby at_58) rfl rfl k) ?_
  obtain ⟨T63, h63, X63, e63, W63, V63, st63⟩ := own_stR X49 hx hZ e49 V49 (Or.inr ⟨_, rfl, Ins.of_exa F54 w_9⟩) (by decide) (Nat.lt_of_lt_of_eq (by decide : _ < 4) (by simp)) (g := (mkF m 60 #[iv p0, iv p1, iv p2, iv p3, iv p4, iv p5, iv z3, iv z13, rv a1, rv a4, rv a9, rv a16, rv a25, .unset, .unset, .unset, .unset, .unset, .unset, .unset, .unset, .unset, .unset, .unset, .unset] [(.ref a4), (.int (1 : Int32)), (.ref a36), (.ref a36)])) rfl rfl (hb hby at_60)
  refine own_go (B := (T63.setTop (mkF m 61 #[iv p0, iv p1, iv p2, iv p3, iv p4, iv p5, iv z3, iv z13, rv a1, rv a4, rv a9, rv a16, rv a25, .unset, .unset, .unset, .unset, .unset, .unset, .unset, .unset, .unset, .unset, .unset, .unset] [(.ref a36)]))) st63 ?_
  obtain ⟨L63, X63, N63⟩ := own_abs X63 (Fr.snoc X63 N49 gn36)
  have F64 : n0 ≤ h63.size := by rw [W63.size]; exact F50
  have F65 := Keep.wr F51 W63 (Or.inr (Nat.le_trans F27.1 (Nat.le_of_eq ga36.symm)))
  have F66 := Exa.wr W63 F52
  have F67 := Fld.other W63 F53 (Or.inl (Ne.symm ne36_a1))
  have F68 := Exa.wr W63 F54
  have F69 := Fld.other W63 F55 (Or.inl (Ne.symm ne36_a4))
  have F70 := Exa.wr W63 F56
  have F71 := Fld.other W63 F57 (Or.inl (Ne.symm ne36_a9))
  have F72 := Exa.wr W63 F58
  have F73 := Fld.other W63 F59 (Or.inl (Ne.symm ne36_a16))
  have F74 := Exa.wr W63 F60
  have F75 := Fld.other W63 F61 (Or.inl (Ne.symm ne36_a25))
  refine own_go (B := (T63.setTop (mkF m 62 #[iv p0, iv p1, iv p2, iv p3, iv p4, iv p5, iv z3, iv z13, rv a1, rv a4, rv a9, rv a16, rv a25, .unset, .unset, .unset, .unset, .unset, .unset, .unset, .unset, .unset, .unset, .unset, .unset] [(.ref a36), (.ref a36)]))) (fun t k => XS.dup X63.here hx rfl (hb hby at_61) rfl rfl k) ?_
  refine own_go (B := (T63.setTop (mkF m 63 #[iv p0, iv p1, iv p2, iv p3, iv p4, iv p5, iv z3, iv z13, rv a1, rv a4, rv a9, rv a16, rv a25, .unset, .unset, .unset, .unset, .unset, .unset, .unset, .unset, .unset, .unset, .unset, .unset] [(.int (2 : Int32)), (.ref a36), (.ref a36)]))) (fun t k => own_iconst (v := (2 : Int32)) X63.here hx rfl (hb hby at_62) (by decide) k) ?_
  refine own_go (B := (T63.setTop (mkF m 65 #[iv p0, iv p1, iv p2, iv p3, iv p4, iv p5, iv z3, iv z13, rv a1, rv a4, rv a9, rv a16, rv a25, .unset, .unset, .unset, .unset, .unset, .unset, .unset, .unset, .unset, .unset, .unset, .unset] [(.ref a9), (.int (2 : Int32)), (.ref a36), (.ref a36)]))) (fun t k => XS.aload X63.here hx rfl (hb hby at_63) rfl rfl k) ?_
  obtain ⟨T77, h77, X77, e77, W77, V77, st77⟩ := own_stR X63 hx hZ e63 V63 (Or.inr ⟨_, rfl, Ins.of_exa F70 w_9⟩) (by decide) (Nat.lt_of_lt_of_eq (by decide : _ < 4) (by simp)) (g := (mkF m 65 #[iv p0, iv p1, iv p2, iv p3, iv p4, iv p5, iv z3, iv z13, rv a1, rv a4, rv a9, rv a16, rv a25, .unset, .unset, .unset, .unset, .unset, .unset, .unset, .unset, .unset, .unset, .unset, .unset] [(.ref a9), (.int (2 : Int32)), (.ref a36), (.ref a36)])) rfl rfl (hb hby at_65)
  refine own_go (B := (T77.setTop (mkF m 66 #[iv p0, iv p1, iv p2, iv p3, iv p4, iv p5, iv z3, iv z13, rv a1, rv a4, rv a9, rv a16, rv a25, .unset, .unset, .unset, .unset, .unset, .unset, .unset, .unset, .unset, .unset, .unset, .unset] [(.ref a36)]))) st77 ?_
  obtain ⟨L77, X77, N77⟩ := own_abs X77 (Fr.snoc X77 N63 gn36)
  have F78 : n0 ≤ h77.size := by rw [W77.size]; exact F64
  have F79 := Keep.wr F65 W77 (Or.inr (Nat.le_trans F27.1 (Nat.le_of_eq ga36.symm)))
  have F80 := Exa.wr W77 F66
  have F81 := Fld.other W77 F67 (Or.inl (Ne.symm ne36_a1))
  have F82 := Exa.wr W77 F68
  have F83 := Fld.other W77 F69 (Or.inl (Ne.symm ne36_a4))
  have F84 := Exa.wr W77 F70
  have F85 := Fld.other W77 F71 (Or.inl (Ne.symm ne36_a9))
  have F86 := Exa.wr W77 F72
  have F87 := Fld.other W77 F73 (Or.inl (Ne.symm ne36_a16))
  have F88 := Exa.wr W77 F74
  have F89 := Fld.other W77 F75 (Or.inl (Ne.symm ne36_a25))
  refine own_go (B := (T77.setTop (mkF m 67 #[iv p0, iv p1, iv p2, iv p3, iv p4, iv p5, iv z3, iv z13, rv a1, rv a4, rv a9, rv a16, rv a25, .unset, .unset, .unset, .unset, .unset, .unset, .unset, .unset, .unset, .unset, .unset, .unset] [(.ref a36), (.ref a36)]))) (fun t k => XS.dup X77.here hx rfl (hb hby at_66) rfl rfl k) ?_
  refine own_go (B := (T77.setTop (mkF m 68 #[iv p0, iv p1, iv p2, iv p3, iv p4, iv p5, iv z3, iv z13, rv a1, rv a4, rv a9, rv a16, rv a25, .unset, .unset, .unset, .unset, .unset, .unset, .unset, .unset, .unset, .unset, .unset, .unset] [(.int (3 : Int32)), (.ref a36), (.ref a36)]))) (fun t k => own_iconst (v := (3 : Int32)) X77.here hx rfl (hb hby at_67) (by decide) k) ?_
  refine own_go (B := (T77.setTop (mkF m 70 #[iv p0, iv p1, iv p2, iv p3, iv p4, iv p5, iv z3, iv z13, rv a1, rv a4, rv a9, rv a16, rv a25, .unset, .unset, .unset, .unset, .unset, .unset, .unset, .unset, .unset, .unset, .unset, .unset] [(.ref a16), (.int (3 : Int32)), (.ref a36), (.ref a36)]))) (fun t k => XS.aload X77.here hx rfl (hb hby at_68) rfl rfl k) ?_
  obtain ⟨T91, h91, X91, e91, W91, V91, st91⟩ := own_stR X77 hx hZ e77 V77 (Or.inr ⟨_, rfl, Ins.of_exa F86 w_9⟩) (by decide) (Nat.lt_of_lt_of_eq (by decide : _ < 4) (by simp)) (g := (mkF m 70 #[iv p0, iv p1, iv p2, iv p3, iv p4, iv p5, iv z3, iv z13, rv a1, rv a4, rv a9, rv a16, rv a25, .unset, .unset, .unset, .unset, .unset, .unset, .unset, .unset, .unset, .unset, .unset, .unset] [(.ref a16), (.int (3 : Int32)), (.ref a36), (.ref a36)])) rfl rfl (hb hby at_70)
  refine own_go (B := (T91.setTop (mkF m 71 #[iv p0, iv p1, iv p2, iv p3, iv p4, iv p5, iv z3, iv z13, rv a1, rv a4, rv a9, rv a16, rv a25, .unset, .unset, .unset, .unset, .unset, .unset, .unset, .unset, .unset, .unset, .unset, .unset] [(.ref a36)]))) st91 ?_
  obtain ⟨L91, X91, N91⟩ := own_abs X91 (Fr.snoc X91 N77 gn36)
  have F92 : n0 ≤ h91.size := by rw [W91.size]; exact F78
  have F93 := Keep.wr F79 W91 (Or.inr (Nat.le_trans F27.1 (Nat.le_of_eq ga36.symm)))
  have F94 := Exa.wr W91 F80
  have F95 := Fld.other W91 F81 (Or.inl (Ne.symm ne36_a1))
  have F96 := Exa.wr W91 F82
  have F97 := Fld.other W91 F83 (Or.inl (Ne.symm ne36_a4))
  have F98 := Exa.wr W91 F84
  have F99 := Fld.other W91 F85 (Or.inl (Ne.symm ne36_a9))
  have F100 := Exa.wr W91 F86
  have F101 := Fld.other W91 F87 (Or.inl (Ne.symm ne36_a16))
  have F102 := Exa.wr W91 F88
  have F103 := Fld.other W91 F89 (Or.inl (Ne.symm ne36_a25))
  have Vw : own_Ao Z h91 a36 "java/lang/Integer" [(.ref a1), (.ref a4), (.ref a9), (.ref a16)] := V91
  refine own_go (B := (T91.setTop (mkF m 73 #[iv p0, iv p1, iv p2, iv p3, iv p4, iv p5, iv z3, iv z13, rv a1, rv a4, rv a9, rv a16, rv a25, rv a36, .unset, .unset, .unset, .unset, .unset, .unset, .unset, .unset, .unset, .unset, .unset] []))) (fun t k => XS.astore X91.here hx rfl (hb hby at_71) rfl rfl (l' := #[iv p0, iv p1, iv p2, iv p3, iv p4, iv p5, iv z3, iv z13, rv a1, rv a4, rv a9, rv a16, rv a25, rv a36, .unset, .unset, .unset, .unset, .unset, .unset, .unset, .unset, .unset, .unset, .unset]) rfl k) ?_
  obtain ⟨T105, h105, X105, e105, E105, A105, D105, U105, st105⟩ := newO X91 hx hZ hown w_10 w_11 w_12 e91 (g := (mkF m 73 #[iv p0, iv p1, iv p2, iv p3, iv p4, iv p5, iv z3, iv z13, rv a1, rv a4, rv a9, rv a16, rv a25, rv a36, .unset, .unset, .unset, .unset, .unset, .unset, .unset, .unset, .unset, .unset, .unset] [])) rfl (hb hby at_73) (own_b rfl) (own_b rfl)
  obtain ⟨a105, ga105⟩ : ∃ z, z = h91.size := ⟨_, rfl⟩
  rw [← ga105] at A105 D105 U105 st105
  refine own_go (B := (T105.setTop (mkF m 76 #[iv p0, iv p1, iv p2, iv p3, iv p4, iv p5, iv z3, iv z13, rv a1, rv a4, rv a9, rv a16, rv a25, rv a36, .unset, .unset, .unset, .unset, .unset, .unset, .unset, .unset, .unset, .unset, .unset] [(.ref a105)]))) st105 ?_
  have Z106 : n0 ≤ h105.size := Nat.le_trans F92 E105.1
  have K107 := Keep.ext F93 E105
  have F108 := Exa.ext E105 F94
  have F109 := Fld.ext E105 F95
  have F110 := Exa.ext E105 F96
  have F111 := Fld.ext E105 F97
  have F112 := Exa.ext E105 F98
  have F113 := Fld.ext E105 F99
  have F114 := Exa.ext E105 F100
  have F115 := Fld.ext E105 F101
  have F116 := Exa.ext E105 F102
  have F117 := Fld.ext E105 F103
  have V118 := own_Ao_ext Vw E105
  have gn105 : n0 ≤ a105 := Nat.le_trans F92 (Nat.le_of_eq ga105.symm)
  have ne105_a1 : a105 ≠ a1 := fun q => absurd (F94.lt) (by rw [← q, ga105]; exact Nat.lt_irrefl _)
  have ne105_a4 : a105 ≠ a4 := fun q => absurd (F96.lt) (by rw [← q, ga105]; exact Nat.lt_irrefl _)
  have ne105_a9 : a105 ≠ a9 := fun q => absurd (F98.lt) (by rw [← q, ga105]; exact Nat.lt_irrefl _)
  have ne105_a16 : a105 ≠ a16 := fun q => absurd (F100.lt) (by rw [← q, ga105]; exact Nat.lt_irrefl _)
  have ne105_a25 : a105 ≠ a25 := fun q => absurd (F102.lt) (by rw [← q, ga105]; exact Nat.lt_irrefl _)
  have ne105_a36 : a105 ≠ a36 := fun q => absurd (own_Ao_lt Vw) (by rw [← q, ga105]; exact Nat.lt_irrefl _)
  have F119 : Fld Z h105 a105 "com/example/pagemason/pagemason/core/Spares" "kept" "[Ljava/lang/Object;" .null := D105 (Or.inr w_22) (ty := (.array (.object "java/lang/Object"))) (by decide)
  have F120 : Fld Z h105 a105 "com/example/pagemason/pagemason/core/Spares" "count" "I" (.int (0 : Int32)) := D105 (Or.inl w_33) (ty := .int) (by decide)
  refine own_go (B := (T105.setTop (mkF m 77 #[iv p0, iv p1, iv p2, iv p3, iv p4, iv p5, iv z3, iv z13, rv a1, rv a4, rv a9, rv a16, rv a25, rv a36, .unset, .unset, .unset, .unset, .unset, .unset, .unset, .unset, .unset, .unset, .unset] [(.ref a105), (.ref a105)]))) (fun t k => XS.dup X105.here hx rfl (hb hby at_76) rfl rfl k) ?_
  refine own_go (B := (T105.setTop (mkF m 79 #[iv p0, iv p1, iv p2, iv p3, iv p4, iv p5, iv z3, iv z13, rv a1, rv a4, rv a9, rv a16, rv a25, rv a36, .unset, .unset, .unset, .unset, .unset, .unset, .unset, .unset, .unset, .unset, .unset] [(.int z3), (.ref a105), (.ref a105)]))) (fun t k => XS.iload X105.here hx rfl (hb hby at_77) rfl k) ?_
  obtain ⟨hb1, hb2⟩ := own_b3 hz3
  obtain ⟨_, _, ⟨T121, L121, k121, n121⟩, -, X121, ⟨Lc121, hQ121, l121, y121, z121⟩, st121⟩ := X105.specialBack hx (y := own_y5) rfl hown (mvT hZ w_13) (mvT hZ w_14) (mvT hZ w_15) (by decide) (backOf (W := 1) (own_sct l Z a0 hw [] a105 z3 h105 n0 Z106 A105 gn105 F119 F120 hb1 hb2) hZ w_15 w_12 (by decide) (by decide)) (g := (mkF m 79 #[iv p0, iv p1, iv p2, iv p3, iv p4, iv p5, iv z3, iv z13, rv a1, rv a4, rv a9, rv a16, rv a25, rv a36, .unset, .unset, .unset, .unset, .unset, .unset, .unset, .unset, .unset, .unset, .unset] [(.int z3), (.ref a105), (.ref a105)])) rfl (by rw [hml]; rfl) (Steps.refl _) (a := a105) (argsL := [(.int z3)]) (rest := [(.ref a105)]) (lenOf own_pd2 rfl) rfl (by show 2 * 0 + _ ≤ _; exact own_b rfl) (hb hby at_79) (fun _ _ => ⟨rfl, e105, (own_b rfl : 7 + 1 ≤ _), (own_b rfl : 11 + 3 ≤ _)⟩)
  dsimp only [Pt.U, Pt.locs, Pt.cells, Pt.slots] at X121 l121 y121 z121 st121 hQ121
  obtain ⟨rfl, Nq121, K121, Ex121, ar121, gz121, gk121, gc121, gv121⟩ := hQ121
  obtain ⟨L121, X121, N121⟩ := own_absC (K := 8) (K' := 14) X121 l121 y121 z121 N91 Nq121
  have gn_ar121 : n0 ≤ ar121 := Nat.le_trans Z106 gz121
  have ne_ar121_a1 : ar121 ≠ a1 := fun q => absurd F108.lt (by rw [← q]; exact Nat.not_lt.mpr gz121)
  have ne_ar121_a4 : ar121 ≠ a4 := fun q => absurd F110.lt (by rw [← q]; exact Nat.not_lt.mpr gz121)
  have ne_ar121_a9 : ar121 ≠ a9 := fun q => absurd F112.lt (by rw [← q]; exact Nat.not_lt.mpr gz121)
  have ne_ar121_a16 : ar121 ≠ a16 := fun q => absurd F114.lt (by rw [← q]; exact Nat.not_lt.mpr gz121)
  have ne_ar121_a25 : ar121 ≠ a25 := fun q => absurd F116.lt (by rw [← q]; exact Nat.not_lt.mpr gz121)
  have ne_ar121_a36 : ar121 ≠ a36 := fun q => absurd (own_Ao_lt V118) (by rw [← q]; exact Nat.not_lt.mpr gz121)
  have ne_ar121_a105 : ar121 ≠ a105 := fun q => absurd A105.lt (by rw [← q]; exact Nat.not_lt.mpr gz121)
  have F122 : n0 ≤ T121.heap.size := Nat.le_trans Z106 K121.1
  have F123 := Keep.trans K107 K121 (allS (Or.inr (Nat.le_trans F93.1 (Nat.le_of_eq ga105.symm))) all0)
  have F124 := Exa.keep F108 K121
  have F125 := Fld.keep F109 K121 (ninS (Ne.symm ne105_a1) nin0)
  have F126 := Exa.keep F110 K121
  have F127 := Fld.keep F111 K121 (ninS (Ne.symm ne105_a4) nin0)
  have F128 := Exa.keep F112 K121
  have F129 := Fld.keep F113 K121 (ninS (Ne.symm ne105_a9) nin0)
  have F130 := Exa.keep F114 K121
  have F131 := Fld.keep F115 K121 (ninS (Ne.symm ne105_a16) nin0)
  have F132 := Exa.keep F116 K121
  have F133 := Fld.keep F117 K121 (ninS (Ne.symm ne105_a25) nin0)
  have F134 := own_Ao_keep V118 K121 (ninS (Ne.symm ne105_a36) nin0)
  have F135 := Exa.keep A105 K121
  refine own_tr (B := (T121.setTop (mkF m 82 #[iv p0, iv p1, iv p2, iv p3, iv p4, iv p5, iv z3, iv z13, rv a1, rv a4, rv a9, rv a16, rv a25, rv a36, .unset, .unset, .unset, .unset, .unset, .unset, .unset, .unset, .unset, .unset, .unset] [(.ref a105)]))) st121 ?_
  refine own_go (B := (T121.setTop (mkF m 84 #[iv p0, iv p1, iv p2, iv p3, iv p4, iv p5, iv z3, iv z13, rv a1, rv a4, rv a9, rv a16, rv a25, rv a36, rv a105, .unset, .unset, .unset, .unset, .unset, .unset, .unset, .unset, .unset, .unset] []))) (fun t k => XS.astore X121.here hx rfl (hb hby at_82) rfl rfl (l' := #[iv p0, iv p1, iv p2, iv p3, iv p4, iv p5, iv z3, iv z13, rv a1, rv a4, rv a9, rv a16, rv a25, rv a36, rv a105, .unset, .unset, .unset, .unset, .unset, .unset, .unset, .unset, .unset, .unset]) rfl k) ?_
  have BB : own_Bn Z T121.heap [(a1, p1), (a4, p2), (a9, p3), (a16, p4), (a25, p5)] := own_Bn_cons F124 F125 (own_Bn_cons F126 F127 (own_Bn_cons F128 F129 (own_Bn_cons F130 F131 (own_Bn_cons F132 F133 (own_Bn_nil Z _)))))
  have hbq : ∀ x ∈ ([(a1, p1), (a4, p2), (a9, p3), (a16, p4), (a25, p5)] : List (Addr × Int32)), x.1 ∉ [a105, ar121] := by
    intro x hx
    simp only [List.mem_cons, List.not_mem_nil, or_false] at hx
    rcases hx with rfl | rfl | rfl | rfl | rfl
    · exact ninS (Ne.symm ne105_a1) (ninS (Ne.symm ne_ar121_a1) nin0)
    · exact ninS (Ne.symm ne105_a4) (ninS (Ne.symm ne_ar121_a4) nin0)
    · exact ninS (Ne.symm ne105_a9) (ninS (Ne.symm ne_ar121_a9) nin0)
    · exact ninS (Ne.symm ne105_a16) (ninS (Ne.symm ne_ar121_a16) nin0)
    · exact ninS (Ne.symm ne105_a25) (ninS (Ne.symm ne_ar121_a25) nin0)
  rcases own_c4 hz3 with rfl | rfl | rfl | rfl
  · have Vb : own_Ao Z T121.heap ar121 "java/lang/Object" [] := by have q := gv121; rw [show (0 : Int32).toNatClampNeg = 0 from by decide] at q; exact q
    have J0 : ∀ (T138 : State) (L138 : List Loc) (h138 : Heap) (X138 : Stand p l e room_1 s m #[(.int p0), (.int p1), (.int p2), (.int p3), (.int p4), (.int p5)] below meth c T138 L138 8 14) (e138 : T138.heap = h138) (N138 : Fr n0 L138) (F138_0 : n0 ≤ h138.size) (F138_1 : Keep h0 h138 []) (F138_2 : own_Ao Z h138 a36 "java/lang/Integer" [(.ref a1), (.ref a4), (.ref a9), (.ref a16)]) (F138_3 : Exa Z h138 a105 "com/example/pagemason/pagemason/core/Spares") (F138_4 : Fld Z h138 a105 "com/example/pagemason/pagemason/core/Spares" "kept" "[Ljava/lang/Object;" (.ref ar121)) (F138_5 : Fld Z h138 a105 "com/example/pagemason/pagemason/core/Spares" "count" "I" (.int (0 : Int32))) (F138_6 : own_Ao Z h138 ar121 "java/lang/Object" []) (F138_7 : own_Bn Z h138 [(a1, p1), (a4, p2), (a9, p3), (a16, p4), (a25, p5)]) (kk : Int32), own_G p.tables e below (fun o U' => ∃ v L, o = .returned v ∧ (own_law_Q Z p0 p1 p2 p3 p4 p5 ca h0 n0) v U'.heap L ∧ FrameEnd s o U' L 24 128) (T138.setTop (mkF m 144 #[iv p0, iv p1, iv p2, iv p3, iv p4, iv p5, iv (0 : Int32), iv kk, rv a1, rv a4, rv a9, rv a16, rv a25, rv a36, rv a105, iv (0 : Int32), .unset, .unset, .unset, .unset, .unset, .unset, .unset, .unset, .unset] [])) := by
      intro T138 L138 h138 X138 e138 N138 F138_0 F138_1 F138_2 F138_3 F138_4 F138_5 F138_6 F138_7 kk
      refine own_go (B := (T138.setTop (mkF m 146 #[iv p0, iv p1, iv p2, iv p3, iv p4, iv p5, iv (0 : Int32), iv kk, rv a1, rv a4, rv a9, rv a16, rv a25, rv a36, rv a105, iv (0 : Int32), .unset, .unset, .unset, .unset, .unset, .unset, .unset, .unset, .unset] [(.ref a105)]))) (fun t k => XS.aload X138.here hx rfl (hb hby at_144) rfl rfl k) ?_
      obtain ⟨cq139, kq139, qa139, qb139, qc139⟩ := isOf hZ e138 F138_3
      obtain ⟨_, _, ⟨T139, L139, k139, n139⟩, -, X139, ⟨Lc139, hQ139, l139, y139, z139⟩, st139⟩ := X138.virtualBack hx (y := own_y6) (z := own_y6) hown (mvT hZ w_27) (mvT hZ w_28) (notFace_of_selects (args := #[]) (mvT hZ w_30)) (mvT hZ w_30) (mvT hZ w_29) (by decide) (backOf (W := 0) (own_tnone l Z a0 hw [] a105 h138 n0 F138_5) hZ w_31 w_12 (by decide) (by decide)) qa139 qc139 (g := (mkF m 146 #[iv p0, iv p1, iv p2, iv p3, iv p4, iv p5, iv (0 : Int32), iv kk, rv a1, rv a4, rv a9, rv a16, rv a25, rv a36, rv a105, iv (0 : Int32), .unset, .unset, .unset, .unset, .unset, .unset, .unset, .unset, .unset] [(.ref a105)])) rfl (by rw [hml]; rfl) (Steps.refl _) (argsL := []) (rest := []) (lenOf own_pd5 rfl) rfl (by show 2 * 0 + _ ≤ _; exact own_b rfl) (hb hby at_146) (fun _ _ => ⟨rfl, e138, (own_b rfl : 8 + 0 ≤ _), (own_b rfl : 14 + 0 ≤ _)⟩)
      dsimp only [Pt.U, Pt.locs, Pt.cells, Pt.slots] at X139 l139 y139 z139 st139 hQ139
      obtain ⟨rfl, Nq139, eq139⟩ := hQ139
      obtain ⟨L139, X139, N139⟩ := own_absC (K := 8) (K' := 14) X139 l139 y139 z139 N138 Nq139
      have e139 : T139.heap = h138 := eq139
      refine own_tr (B := (T139.setTop (mkF m 149 #[iv p0, iv p1, iv p2, iv p3, iv p4, iv p5, iv (0 : Int32), iv kk, rv a1, rv a4, rv a9, rv a16, rv a25, rv a36, rv a105, iv (0 : Int32), .unset, .unset, .unset, .unset, .unset, .unset, .unset, .unset, .unset] [.null]))) st139 ?_
      refine own_go (B := (T139.setTop (mkF m 152 #[iv p0, iv p1, iv p2, iv p3, iv p4, iv p5, iv (0 : Int32), iv kk, rv a1, rv a4, rv a9, rv a16, rv a25, rv a36, rv a105, iv (0 : Int32), .unset, .unset, .unset, .unset, .unset, .unset, .unset, .unset, .unset] [.null]))) (X139.checkcastNull hx (g := (mkF m 149 #[iv p0, iv p1, iv p2, iv p3, iv p4, iv p5, iv (0 : Int32), iv kk, rv a1, rv a4, rv a9, rv a16, rv a25, rv a36, rv a105, iv (0 : Int32), .unset, .unset, .unset, .unset, .unset, .unset, .unset, .unset, .unset] [.null])) rfl rfl (hb hby at_149)) ?_
      refine own_go (B := (T139.setTop (mkF m 154 #[iv p0, iv p1, iv p2, iv p3, iv p4, iv p5, iv (0 : Int32), iv kk, rv a1, rv a4, rv a9, rv a16, rv a25, rv a36, rv a105, iv (0 : Int32), .val .null, .unset, .unset, .unset, .unset, .unset, .unset, .unset, .unset] []))) (fun t k => XS.astore X139.here hx rfl (hb hby at_152) rfl rfl (l' := #[iv p0, iv p1, iv p2, iv p3, iv p4, iv p5, iv (0 : Int32), iv kk, rv a1, rv a4, rv a9, rv a16, rv a25, rv a36, rv a105, iv (0 : Int32), .val .null, .unset, .unset, .unset, .unset, .unset, .unset, .unset, .unset]) rfl k) ?_
      refine own_go (B := (T139.setTop (mkF m 156 #[iv p0, iv p1, iv p2, iv p3, iv p4, iv p5, iv (0 : Int32), iv kk, rv a1, rv a4, rv a9, rv a16, rv a25, rv a36, rv a105, iv (0 : Int32), .val .null, .unset, .unset, .unset, .unset, .unset, .unset, .unset, .unset] [(.int (0 : Int32))]))) (fun t k => XS.iload X139.here hx rfl (hb hby at_154) rfl k) ?_
      refine own_go (B := (T139.setTop (mkF m 157 #[iv p0, iv p1, iv p2, iv p3, iv p4, iv p5, iv (0 : Int32), iv kk, rv a1, rv a4, rv a9, rv a16, rv a25, rv a36, rv a105, iv (0 : Int32), .val .null, .unset, .unset, .unset, .unset, .unset, .unset, .unset, .unset] [(.int (1 : Int32)), (.int (0 : Int32))]))) (fun t k => own_iconst (v := (1 : Int32)) X139.here hx rfl (hb hby at_156) (by decide) k) ?_
      have hc157 : (0 : Int32) < (1 : Int32) := (by decide)
      refine own_icmpY X139 hx (hb hby at_157) (pc' := 170) (by decide) (by decide) hc157 ?_
      refine own_go (B := (T139.setTop (mkF m 171 #[iv p0, iv p1, iv p2, iv p3, iv p4, iv p5, iv (0 : Int32), iv kk, rv a1, rv a4, rv a9, rv a16, rv a25, rv a36, rv a105, iv (0 : Int32), .val .null, .unset, .unset, .unset, .unset, .unset, .unset, .unset, .unset] [.null]))) (fun t k => XS.aconstNull X139.here hx rfl (hb hby at_170) k) ?_
      refine own_go (B := (T139.setTop (mkF m 173 #[iv p0, iv p1, iv p2, iv p3, iv p4, iv p5, iv (0 : Int32), iv kk, rv a1, rv a4, rv a9, rv a16, rv a25, rv a36, rv a105, iv (0 : Int32), .val .null, .val .null, .unset, .unset, .unset, .unset, .unset, .unset, .unset] []))) (fun t k => XS.astore X139.here hx rfl (hb hby at_171) rfl rfl (l' := #[iv p0, iv p1, iv p2, iv p3, iv p4, iv p5, iv (0 : Int32), iv kk, rv a1, rv a4, rv a9, rv a16, rv a25, rv a36, rv a105, iv (0 : Int32), .val .null, .val .null, .unset, .unset, .unset, .unset, .unset, .unset, .unset]) rfl k) ?_
      refine own_go (B := (T139.setTop (mkF m 175 #[iv p0, iv p1, iv p2, iv p3, iv p4, iv p5, iv (0 : Int32), iv kk, rv a1, rv a4, rv a9, rv a16, rv a25, rv a36, rv a105, iv (0 : Int32), .val .null, .val .null, .unset, .unset, .unset, .unset, .unset, .unset, .unset] [.null]))) (fun t k => XS.aload X139.here hx rfl (hb hby at_173) rfl rfl k) ?_
      refine own_go (B := (T139.setTop (mkF m 177 #[iv p0, iv p1, iv p2, iv p3, iv p4, iv p5, iv (0 : Int32), iv kk, rv a1, rv a4, rv a9, rv a16, rv a25, rv a36, rv a105, iv (0 : Int32), .val .null, .val .null, .unset, .unset, .unset, .unset, .unset, .unset, .unset] [.null, .null]))) (fun t k => XS.aload X139.here hx rfl (hb hby at_175) rfl rfl k) ?_
      obtain ⟨_, _, ⟨T141, L141, k141, n141⟩, -, X141, ⟨Lc141, hQ141, l141, y141, z141⟩, st141⟩ := Jvm.LawKit.callS X139 hx (y := own_y7) hown (mvT hZ w_34) (mvT hZ w_35) (mvT hZ w_36) (mvT hZ w_37) (by decide) (backOf (W := 0) (own_same0 l Z a0 hw [] h138 n0) hZ w_37 w_36 (by decide) (by decide)) (g := (mkF m 177 #[iv p0, iv p1, iv p2, iv p3, iv p4, iv p5, iv (0 : Int32), iv kk, rv a1, rv a4, rv a9, rv a16, rv a25, rv a36, rv a105, iv (0 : Int32), .val .null, .val .null, .unset, .unset, .unset, .unset, .unset, .unset, .unset] [.null, .null])) rfl (by rw [hml]; rfl) (argsL := [.null, .null]) (rest := []) (lenOf own_pd6 rfl) rfl (by show 2 * 0 + _ ≤ _; exact own_b rfl) (hb hby at_177) (fun _ _ => ⟨rfl, e139, (own_b rfl : 8 + 0 ≤ _), (own_b rfl : 14 + 0 ≤ _)⟩)
      dsimp only [Pt.U, Pt.locs, Pt.cells, Pt.slots] at X141 l141 y141 z141 st141 hQ141
      obtain ⟨rfl, Nq141, eq141⟩ := hQ141
      obtain ⟨L141, X141, N141⟩ := own_absC (K := 8) (K' := 14) X141 l141 y141 z141 N139 Nq141
      have e141 : T141.heap = h138 := eq141
      refine own_go (B := (T141.setTop (mkF m 180 #[iv p0, iv p1, iv p2, iv p3, iv p4, iv p5, iv (0 : Int32), iv kk, rv a1, rv a4, rv a9, rv a16, rv a25, rv a36, rv a105, iv (0 : Int32), .val .null, .val .null, .unset, .unset, .unset, .unset, .unset, .unset, .unset] [(.int (1 : Int32))]))) st141 ?_
      have hc180 : ¬ (1 : Int32) = (0 : Int32) := (by decide)
      refine own_ifY X141 hx (hb hby at_180) (pc' := 185) (by decide) (by decide) hc180 ?_
      refine own_go (B := (T141.setTop (mkF m 187 #[iv p0, iv p1, iv p2, iv p3, iv p4, iv p5, iv (0 : Int32), iv kk, rv a1, rv a4, rv a9, rv a16, rv a25, rv a36, rv a105, iv (0 : Int32), .val .null, .val .null, .unset, .unset, .unset, .unset, .unset, .unset, .unset] [(.ref a105)]))) (fun t k => XS.aload X141.here hx rfl (hb hby at_185) rfl rfl k) ?_
      obtain ⟨cq142, kq142, qa142, qb142, qc142⟩ := isOf hZ e141 F138_3
      obtain ⟨_, _, ⟨T142, L142, k142, n142⟩, -, X142, ⟨Lc142, hQ142, l142, y142, z142⟩, st142⟩ := X141.virtualBack hx (y := own_y6) (z := own_y6) hown (mvT hZ w_27) (mvT hZ w_28) (notFace_of_selects (args := #[]) (mvT hZ w_30)) (mvT hZ w_30) (mvT hZ w_29) (by decide) (backOf (W := 0) (own_tnone l Z a0 hw [] a105 h138 n0 F138_5) hZ w_31 w_12 (by decide) (by decide)) qa142 qc142 (g := (mkF m 187 #[iv p0, iv p1, iv p2, iv p3, iv p4, iv p5, iv (0 : Int32), iv kk, rv a1, rv a4, rv a9, rv a16, rv a25, rv a36, rv a105, iv (0 : Int32), .val .null, .val .null, .unset, .unset, .unset, .unset, .unset, .unset, .unset] [(.ref a105)])) rfl (by rw [hml]; rfl) (Steps.refl _) (argsL := []) (rest := []) (lenOf own_pd5 rfl) rfl (by show 2 * 0 + _ ≤ _; exact own_b rfl) (hb hby at_187) (fun _ _ => ⟨rfl, e141, (own_b rfl : 8 + 0 ≤ _), (own_b rfl : 14 + 0 ≤ _)⟩)
      dsimp only [Pt.U, Pt.locs, Pt.cells, Pt.slots] at X142 l142 y142 z142 st142 hQ142
      obtain ⟨rfl, Nq142, eq142⟩ := hQ142
      obtain ⟨L142, X142, N142⟩ := own_absC (K := 8) (K' := 14) X142 l142 y142 z142 N141 Nq142
      have e142 : T142.heap = h138 := eq142
      refine own_tr (B := (T142.setTop (mkF m 190 #[iv p0, iv p1, iv p2, iv p3, iv p4, iv p5, iv (0 : Int32), iv kk, rv a1, rv a4, rv a9, rv a16, rv a25, rv a36, rv a105, iv (0 : Int32), .val .null, .val .null, .unset, .unset, .unset, .unset, .unset, .unset, .unset] [.null]))) st142 ?_
      refine own_go (B := (T142.setTop (mkF m 193 #[iv p0, iv p1, iv p2, iv p3, iv p4, iv p5, iv (0 : Int32), iv kk, rv a1, rv a4, rv a9, rv a16, rv a25, rv a36, rv a105, iv (0 : Int32), .val .null, .val .null, .unset, .unset, .unset, .unset, .unset, .unset, .unset] [.null]))) (X142.checkcastNull hx (g := (mkF m 190 #[iv p0, iv p1, iv p2, iv p3, iv p4, iv p5, iv (0 : Int32), iv kk, rv a1, rv a4, rv a9, rv a16, rv a25, rv a36, rv a105, iv (0 : Int32), .val .null, .val .null, .unset, .unset, .unset, .unset, .unset, .unset, .unset] [.null])) rfl rfl (hb hby at_190)) ?_
      refine own_go (B := (T142.setTop (mkF m 195 #[iv p0, iv p1, iv p2, iv p3, iv p4, iv p5, iv (0 : Int32), iv kk, rv a1, rv a4, rv a9, rv a16, rv a25, rv a36, rv a105, iv (0 : Int32), .val .null, .val .null, .val .null, .unset, .unset, .unset, .unset, .unset, .unset] []))) (fun t k => XS.astore X142.here hx rfl (hb hby at_193) rfl rfl (l' := #[iv p0, iv p1, iv p2, iv p3, iv p4, iv p5, iv (0 : Int32), iv kk, rv a1, rv a4, rv a9, rv a16, rv a25, rv a36, rv a105, iv (0 : Int32), .val .null, .val .null, .val .null, .unset, .unset, .unset, .unset, .unset, .unset]) rfl k) ?_
      refine own_go (B := (T142.setTop (mkF m 197 #[iv p0, iv p1, iv p2, iv p3, iv p4, iv p5, iv (0 : Int32), iv kk, rv a1, rv a4, rv a9, rv a16, rv a25, rv a36, rv a105, iv (0 : Int32), .val .null, .val .null, .val .null, .unset, .unset, .unset, .unset, .unset, .unset] [(.int (0 : Int32))]))) (fun t k => XS.iload X142.here hx rfl (hb hby at_195) rfl k) ?_
      refine own_go (B := (T142.setTop (mkF m 198 #[iv p0, iv p1, iv p2, iv p3, iv p4, iv p5, iv (0 : Int32), iv kk, rv a1, rv a4, rv a9, rv a16, rv a25, rv a36, rv a105, iv (0 : Int32), .val .null, .val .null, .val .null, .unset, .unset, .unset, .unset, .unset, .unset] [(.int (2 : Int32)), (.int (0 : Int32))]))) (fun t k => own_iconst (v := (2 : Int32)) X142.here hx rfl (hb hby at_197) (by decide) k) ?_
      have hc198 : (0 : Int32) < (2 : Int32) := (by decide)
      refine own_icmpY X142 hx (hb hby at_198) (pc' := 211) (by decide) (by decide) hc198 ?_
      refine own_go (B := (T142.setTop (mkF m 212 #[iv p0, iv p1, iv p2, iv p3, iv p4, iv p5, iv (0 : Int32), iv kk, rv a1, rv a4, rv a9, rv a16, rv a25, rv a36, rv a105, iv (0 : Int32), .val .null, .val .null, .val .null, .unset, .unset, .unset, .unset, .unset, .unset] [.null]))) (fun t k => XS.aconstNull X142.here hx rfl (hb hby at_211) k) ?_
      refine own_go (B := (T142.setTop (mkF m 214 #[iv p0, iv p1, iv p2, iv p3, iv p4, iv p5, iv (0 : Int32), iv kk, rv a1, rv a4, rv a9, rv a16, rv a25, rv a36, rv a105, iv (0 : Int32), .val .null, .val .null, .val .null, .val .null, .unset, .unset, .unset, .unset, .unset] []))) (fun t k => XS.astore X142.here hx rfl (hb hby at_212) rfl rfl (l' := #[iv p0, iv p1, iv p2, iv p3, iv p4, iv p5, iv (0 : Int32), iv kk, rv a1, rv a4, rv a9, rv a16, rv a25, rv a36, rv a105, iv (0 : Int32), .val .null, .val .null, .val .null, .val .null, .unset, .unset, .unset, .unset, .unset]) rfl k) ?_
      refine own_go (B := (T142.setTop (mkF m 216 #[iv p0, iv p1, iv p2, iv p3, iv p4, iv p5, iv (0 : Int32), iv kk, rv a1, rv a4, rv a9, rv a16, rv a25, rv a36, rv a105, iv (0 : Int32), .val .null, .val .null, .val .null, .val .null, .unset, .unset, .unset, .unset, .unset] [.null]))) (fun t k => XS.aload X142.here hx rfl (hb hby at_214) rfl rfl k) ?_
      refine own_go (B := (T142.setTop (mkF m 218 #[iv p0, iv p1, iv p2, iv p3, iv p4, iv p5, iv (0 : Int32), iv kk, rv a1, rv a4, rv a9, rv a16, rv a25, rv a36, rv a105, iv (0 : Int32), .val .null, .val .null, .val .null, .val .null, .unset, .unset, .unset, .unset, .unset] [.null, .null]))) (fun t k => XS.aload X142.here hx rfl (hb hby at_216) rfl rfl k) ?_
      obtain ⟨_, _, ⟨T144, L144, k144, n144⟩, -, X144, ⟨Lc144, hQ144, l144, y144, z144⟩, st144⟩ := Jvm.LawKit.callS X142 hx (y := own_y7) hown (mvT hZ w_34) (mvT hZ w_35) (mvT hZ w_36) (mvT hZ w_37) (by decide) (backOf (W := 0) (own_same0 l Z a0 hw [] h138 n0) hZ w_37 w_36 (by decide) (by decide)) (g := (mkF m 218 #[iv p0, iv p1, iv p2, iv p3, iv p4, iv p5, iv (0 : Int32), iv kk, rv a1, rv a4, rv a9, rv a16, rv a25, rv a36, rv a105, iv (0 : Int32), .val .null, .val .null, .val .null, .val .null, .unset, .unset, .unset, .unset, .unset] [.null, .null])) rfl (by rw [hml]; rfl) (argsL := [.null, .null]) (rest := []) (lenOf own_pd6 rfl) rfl (by show 2 * 0 + _ ≤ _; exact own_b rfl) (hb hby at_218) (fun _ _ => ⟨rfl, e142, (own_b rfl : 8 + 0 ≤ _), (own_b rfl : 14 + 0 ≤ _)⟩)
      dsimp only [Pt.U, Pt.locs, Pt.cells, Pt.slots] at X144 l144 y144 z144 st144 hQ144
      obtain ⟨rfl, Nq144, eq144⟩ := hQ144
      obtain ⟨L144, X144, N144⟩ := own_absC (K := 8) (K' := 14) X144 l144 y144 z144 N142 Nq144
      have e144 : T144.heap = h138 := eq144
      refine own_go (B := (T144.setTop (mkF m 221 #[iv p0, iv p1, iv p2, iv p3, iv p4, iv p5, iv (0 : Int32), iv kk, rv a1, rv a4, rv a9, rv a16, rv a25, rv a36, rv a105, iv (0 : Int32), .val .null, .val .null, .val .null, .val .null, .unset, .unset, .unset, .unset, .unset] [(.int (1 : Int32))]))) st144 ?_
      have hc221 : ¬ (1 : Int32) = (0 : Int32) := (by decide)
      refine own_ifY X144 hx (hb hby at_221) (pc' := 226) (by decide) (by decide) hc221 ?_
      refine own_go (B := (T144.setTop (mkF m 228 #[iv p0, iv p1, iv p2, iv p3, iv p4, iv p5, iv (0 : Int32), iv kk, rv a1, rv a4, rv a9, rv a16, rv a25, rv a36, rv a105, iv (0 : Int32), .val .null, .val .null, .val .null, .val .null, .unset, .unset, .unset, .unset, .unset] [(.int (0 : Int32))]))) (fun t k => XS.iload X144.here hx rfl (hb hby at_226) rfl k) ?_
      refine own_go (B := (T144.setTop (mkF m 229 #[iv p0, iv p1, iv p2, iv p3, iv p4, iv p5, iv (0 : Int32), iv kk, rv a1, rv a4, rv a9, rv a16, rv a25, rv a36, rv a105, iv (0 : Int32), .val .null, .val .null, .val .null, .val .null, .unset, .unset, .unset, .unset, .unset] [(.int (2 : Int32)), (.int (0 : Int32))]))) (fun t k => own_iconst (v := (2 : Int32)) X144.here hx rfl (hb hby at_228) (by decide) k) ?_
      refine own_go (B := (T144.setTop (mkF m 230 #[iv p0, iv p1, iv p2, iv p3, iv p4, iv p5, iv (0 : Int32), iv kk, rv a1, rv a4, rv a9, rv a16, rv a25, rv a36, rv a105, iv (0 : Int32), .val .null, .val .null, .val .null, .val .null, .unset, .unset, .unset, .unset, .unset] [(.int ((0 : Int32) - (2 : Int32)))]))) (fun t k => XS.isub (x := (0 : Int32)) (y := (2 : Int32)) X144.here hx rfl (hb hby at_229) rfl k) ?_
      rw [show ((0 : Int32) - (2 : Int32)) = (-2 : Int32) from by decide]
      refine own_go (B := (T144.setTop (mkF m 231 #[iv p0, iv p1, iv p2, iv p3, iv p4, iv p5, iv (0 : Int32), iv kk, rv a1, rv a4, rv a9, rv a16, rv a25, rv a36, rv a105, iv (0 : Int32), .val .null, .val .null, .val .null, .val .null, .unset, .unset, .unset, .unset, .unset] [(.int (0 : Int32)), (.int (-2 : Int32))]))) (fun t k => own_iconst (v := (0 : Int32)) X144.here hx rfl (hb hby at_230) (by decide) k) ?_
      obtain ⟨_, _, ⟨T145, L145, k145, n145⟩, -, X145, ⟨Lc145, hQ145, l145, y145, z145⟩, st145⟩ := Jvm.LawKit.callS X144 hx (y := own_y8) hown (mvT hZ w_38) (mvT hZ w_39) (mvT hZ w_25) (mvT hZ w_40) (by decide) (backOf (W := 0) (own_mmax l Z a0 hw [] (-2 : Int32) (0 : Int32) h138 n0) hZ w_40 w_25 (by decide) (by decide)) (g := (mkF m 231 #[iv p0, iv p1, iv p2, iv p3, iv p4, iv p5, iv (0 : Int32), iv kk, rv a1, rv a4, rv a9, rv a16, rv a25, rv a36, rv a105, iv (0 : Int32), .val .null, .val .null, .val .null, .val .null, .unset, .unset, .unset, .unset, .unset] [(.int (0 : Int32)), (.int (-2 : Int32))])) rfl (by rw [hml]; rfl) (argsL := [(.int (-2 : Int32)), (.int (0 : Int32))]) (rest := []) (lenOf own_pd7 rfl) rfl (by show 2 * 0 + _ ≤ _; exact own_b rfl) (hb hby at_231) (fun _ _ => ⟨rfl, e144, (own_b rfl : 8 + 0 ≤ _), (own_b rfl : 14 + 0 ≤ _)⟩)
      dsimp only [Pt.U, Pt.locs, Pt.cells, Pt.slots] at X145 l145 y145 z145 st145 hQ145
      obtain ⟨rfl, Nq145, eq145⟩ := hQ145
      obtain ⟨L145, X145, N145⟩ := own_absC (K := 8) (K' := 14) X145 l145 y145 z145 N144 Nq145
      have e145 : T145.heap = h138 := eq145
      refine own_go (B := (T145.setTop (mkF m 234 #[iv p0, iv p1, iv p2, iv p3, iv p4, iv p5, iv (0 : Int32), iv kk, rv a1, rv a4, rv a9, rv a16, rv a25, rv a36, rv a105, iv (0 : Int32), .val .null, .val .null, .val .null, .val .null, .unset, .unset, .unset, .unset, .unset] [(.int (own_max (-2 : Int32) (0 : Int32)))]))) st145 ?_
      rw [show own_max (-2 : Int32) (0 : Int32) = (0 : Int32) from by decide]
      refine own_go (B := (T145.setTop (mkF m 236 #[iv p0, iv p1, iv p2, iv p3, iv p4, iv p5, iv (0 : Int32), iv kk, rv a1, rv a4, rv a9, rv a16, rv a25, rv a36, rv a105, iv (0 : Int32), .val .null, .val .null, .val .null, .val .null, iv (0 : Int32), .unset, .unset, .unset, .unset] []))) (fun t k => XS.istore X145.here hx rfl (hb hby at_234) rfl (l' := #[iv p0, iv p1, iv p2, iv p3, iv p4, iv p5, iv (0 : Int32), iv kk, rv a1, rv a4, rv a9, rv a16, rv a25, rv a36, rv a105, iv (0 : Int32), .val .null, .val .null, .val .null, .val .null, iv (0 : Int32), .unset, .unset, .unset, .unset]) rfl k) ?_
      refine own_go (B := (T145.setTop (mkF m 238 #[iv p0, iv p1, iv p2, iv p3, iv p4, iv p5, iv (0 : Int32), iv kk, rv a1, rv a4, rv a9, rv a16, rv a25, rv a36, rv a105, iv (0 : Int32), .val .null, .val .null, .val .null, .val .null, iv (0 : Int32), .unset, .unset, .unset, .unset] [(.ref a105)]))) (fun t k => XS.aload X145.here hx rfl (hb hby at_236) rfl rfl k) ?_
      refine own_go (B := (T145.setTop (mkF m 240 #[iv p0, iv p1, iv p2, iv p3, iv p4, iv p5, iv (0 : Int32), iv kk, rv a1, rv a4, rv a9, rv a16, rv a25, rv a36, rv a105, iv (0 : Int32), .val .null, .val .null, .val .null, .val .null, iv (0 : Int32), .unset, .unset, .unset, .unset] [(.ref a25), (.ref a105)]))) (fun t k => XS.aload X145.here hx rfl (hb hby at_238) rfl rfl k) ?_
      obtain ⟨cq146, kq146, qa146, qb146, qc146⟩ := isOf hZ e145 F138_3
      obtain ⟨_, _, ⟨T146, L146, k146, n146⟩, -, X146, ⟨Lc146, hQ146, l146, y146, z146⟩, st146⟩ := X145.virtualBack hx (y := own_y9) (z := own_y9) hown (mvT hZ w_41) (mvT hZ w_42) (notFace_of_selects (args := #[]) (mvT hZ w_44)) (mvT hZ w_44) (mvT hZ w_43) (by decide) (backOf (W := 0) (own_kfull l Z a0 hw [] a105 a25 ar121 (0 : Int32) (0 : Int32) [] h138 n0 F138_3 F138_4 F138_5 F138_6 (own_lenL (n := 0) rfl (by decide)) (by decide)) hZ w_45 w_12 (by decide) (by decide)) qa146 qc146 (g := (mkF m 240 #[iv p0, iv p1, iv p2, iv p3, iv p4, iv p5, iv (0 : Int32), iv kk, rv a1, rv a4, rv a9, rv a16, rv a25, rv a36, rv a105, iv (0 : Int32), .val .null, .val .null, .val .null, .val .null, iv (0 : Int32), .unset, .unset, .unset, .unset] [(.ref a25), (.ref a105)])) rfl (by rw [hml]; rfl) (Steps.refl _) (argsL := [(.ref a25)]) (rest := []) (lenOf own_pd8 rfl) rfl (by show 2 * 0 + _ ≤ _; exact own_b rfl) (hb hby at_240) (fun _ _ => ⟨rfl, e145, (own_b rfl : 8 + 0 ≤ _), (own_b rfl : 14 + 0 ≤ _)⟩)
      dsimp only [Pt.U, Pt.locs, Pt.cells, Pt.slots] at X146 l146 y146 z146 st146 hQ146
      obtain ⟨rfl, Nq146, eq146⟩ := hQ146
      obtain ⟨L146, X146, N146⟩ := own_absC (K := 8) (K' := 14) X146 l146 y146 z146 N145 Nq146
      have e146 : T146.heap = h138 := eq146
      refine own_tr (B := (T146.setTop (mkF m 243 #[iv p0, iv p1, iv p2, iv p3, iv p4, iv p5, iv (0 : Int32), iv kk, rv a1, rv a4, rv a9, rv a16, rv a25, rv a36, rv a105, iv (0 : Int32), .val .null, .val .null, .val .null, .val .null, iv (0 : Int32), .unset, .unset, .unset, .unset] []))) st146 ?_
      refine own_go (B := (T146.setTop (mkF m 245 #[iv p0, iv p1, iv p2, iv p3, iv p4, iv p5, iv (0 : Int32), iv kk, rv a1, rv a4, rv a9, rv a16, rv a25, rv a36, rv a105, iv (0 : Int32), .val .null, .val .null, .val .null, .val .null, iv (0 : Int32), .unset, .unset, .unset, .unset] [(.ref a105)]))) (fun t k => XS.aload X146.here hx rfl (hb hby at_243) rfl rfl k) ?_
      obtain ⟨cq147, kq147, qa147, qb147, qc147⟩ := isOf hZ e146 F138_3
      obtain ⟨_, _, ⟨T147, L147, k147, n147⟩, -, X147, ⟨Lc147, hQ147, l147, y147, z147⟩, st147⟩ := X146.virtualBack hx (y := own_y6) (z := own_y6) hown (mvT hZ w_27) (mvT hZ w_28) (notFace_of_selects (args := #[]) (mvT hZ w_30)) (mvT hZ w_30) (mvT hZ w_29) (by decide) (backOf (W := 0) (own_tnone l Z a0 hw [] a105 h138 n0 F138_5) hZ w_31 w_12 (by decide) (by decide)) qa147 qc147 (g := (mkF m 245 #[iv p0, iv p1, iv p2, iv p3, iv p4, iv p5, iv (0 : Int32), iv kk, rv a1, rv a4, rv a9, rv a16, rv a25, rv a36, rv a105, iv (0 : Int32), .val .null, .val .null, .val .null, .val .null, iv (0 : Int32), .unset, .unset, .unset, .unset] [(.ref a105)])) rfl (by rw [hml]; rfl) (Steps.refl _) (argsL := []) (rest := []) (lenOf own_pd5 rfl) rfl (by show 2 * 0 + _ ≤ _; exact own_b rfl) (hb hby at_245) (fun _ _ => ⟨rfl, e146, (own_b rfl : 8 + 0 ≤ _), (own_b rfl : 14 + 0 ≤ _)⟩)
      dsimp only [Pt.U, Pt.locs, Pt.cells, Pt.slots] at X147 l147 y147 z147 st147 hQ147
      obtain ⟨rfl, Nq147, eq147⟩ := hQ147
      obtain ⟨L147, X147, N147⟩ := own_absC (K := 8) (K' := 14) X147 l147 y147 z147 N146 Nq147
      have e147 : T147.heap = h138 := eq147
      refine own_tr (B := (T147.setTop (mkF m 248 #[iv p0, iv p1, iv p2, iv p3, iv p4, iv p5, iv (0 : Int32), iv kk, rv a1, rv a4, rv a9, rv a16, rv a25, rv a36, rv a105, iv (0 : Int32), .val .null, .val .null, .val .null, .val .null, iv (0 : Int32), .unset, .unset, .unset, .unset] [.null]))) st147 ?_
      refine own_go (B := (T147.setTop (mkF m 251 #[iv p0, iv p1, iv p2, iv p3, iv p4, iv p5, iv (0 : Int32), iv kk, rv a1, rv a4, rv a9, rv a16, rv a25, rv a36, rv a105, iv (0 : Int32), .val .null, .val .null, .val .null, .val .null, iv (0 : Int32), .unset, .unset, .unset, .unset] [.null]))) (X147.checkcastNull hx (g := (mkF m 248 #[iv p0, iv p1, iv p2, iv p3, iv p4, iv p5, iv (0 : Int32), iv kk, rv a1, rv a4, rv a9, rv a16, rv a25, rv a36, rv a105, iv (0 : Int32), .val .null, .val .null, .val .null, .val .null, iv (0 : Int32), .unset, .unset, .unset, .unset] [.null])) rfl rfl (hb hby at_248)) ?_
      refine own_go (B := (T147.setTop (mkF m 253 #[iv p0, iv p1, iv p2, iv p3, iv p4, iv p5, iv (0 : Int32), iv kk, rv a1, rv a4, rv a9, rv a16, rv a25, rv a36, rv a105, iv (0 : Int32), .val .null, .val .null, .val .null, .val .null, iv (0 : Int32), .val .null, .unset, .unset, .unset] []))) (fun t k => XS.astore X147.here hx rfl (hb hby at_251) rfl rfl (l' := #[iv p0, iv p1, iv p2, iv p3, iv p4, iv p5, iv (0 : Int32), iv kk, rv a1, rv a4, rv a9, rv a16, rv a25, rv a36, rv a105, iv (0 : Int32), .val .null, .val .null, .val .null, .val .null, iv (0 : Int32), .val .null, .unset, .unset, .unset]) rfl k) ?_
      refine own_go (B := (T147.setTop (mkF m 255 #[iv p0, iv p1, iv p2, iv p3, iv p4, iv p5, iv (0 : Int32), iv kk, rv a1, rv a4, rv a9, rv a16, rv a25, rv a36, rv a105, iv (0 : Int32), .val .null, .val .null, .val .null, .val .null, iv (0 : Int32), .val .null, .unset, .unset, .unset] [(.int (0 : Int32))]))) (fun t k => XS.iload X147.here hx rfl (hb hby at_253) rfl k) ?_
      have hc255 : ¬ (0 : Int32) < (0 : Int32) := (by decide)
      refine own_ifY X147 hx (hb hby at_255) (pc' := 263) (by decide) (by decide) hc255 ?_
      refine own_go (B := (T147.setTop (mkF m 264 #[iv p0, iv p1, iv p2, iv p3, iv p4, iv p5, iv (0 : Int32), iv kk, rv a1, rv a4, rv a9, rv a16, rv a25, rv a36, rv a105, iv (0 : Int32), .val .null, .val .null, .val .null, .val .null, iv (0 : Int32), .val .null, .unset, .unset, .unset] [.null]))) (fun t k => XS.aconstNull X147.here hx rfl (hb hby at_263) k) ?_
      refine own_go (B := (T147.setTop (mkF m 266 #[iv p0, iv p1, iv p2, iv p3, iv p4, iv p5, iv (0 : Int32), iv kk, rv a1, rv a4, rv a9, rv a16, rv a25, rv a36, rv a105, iv (0 : Int32), .val .null, .val .null, .val .null, .val .null, iv (0 : Int32), .val .null, .val .null, .unset, .unset] []))) (fun t k => XS.astore X147.here hx rfl (hb hby at_264) rfl rfl (l' := #[iv p0, iv p1, iv p2, iv p3, iv p4, iv p5, iv (0 : Int32), iv kk, rv a1, rv a4, rv a9, rv a16, rv a25, rv a36, rv a105, iv (0 : Int32), .val .null, .val .null, .val .null, .val .null, iv (0 : Int32), .val .null, .val .null, .unset, .unset]) rfl k) ?_
      refine own_go (B := (T147.setTop (mkF m 268 #[iv p0, iv p1, iv p2, iv p3, iv p4, iv p5, iv (0 : Int32), iv kk, rv a1, rv a4, rv a9, rv a16, rv a25, rv a36, rv a105, iv (0 : Int32), .val .null, .val .null, .val .null, .val .null, iv (0 : Int32), .val .null, .val .null, .unset, .unset] [.null]))) (fun t k => XS.aload X147.here hx rfl (hb hby at_266) rfl rfl k) ?_
      refine own_go (B := (T147.setTop (mkF m 270 #[iv p0, iv p1, iv p2, iv p3, iv p4, iv p5, iv (0 : Int32), iv kk, rv a1, rv a4, rv a9, rv a16, rv a25, rv a36, rv a105, iv (0 : Int32), .val .null, .val .null, .val .null, .val .null, iv (0 : Int32), .val .null, .val .null, .unset, .unset] [.null, .null]))) (fun t k => XS.aload X147.here hx rfl (hb hby at_268) rfl rfl k) ?_
      obtain ⟨_, _, ⟨T149, L149, k149, n149⟩, -, X149, ⟨Lc149, hQ149, l149, y149, z149⟩, st149⟩ := Jvm.LawKit.callS X147 hx (y := own_y7) hown (mvT hZ w_34) (mvT hZ w_35) (mvT hZ w_36) (mvT hZ w_37) (by decide) (backOf (W := 0) (own_same0 l Z a0 hw [] h138 n0) hZ w_37 w_36 (by decide) (by decide)) (g := (mkF m 270 #[iv p0, iv p1, iv p2, iv p3, iv p4, iv p5, iv (0 : Int32), iv kk, rv a1, rv a4, rv a9, rv a16, rv a25, rv a36, rv a105, iv (0 : Int32), .val .null, .val .null, .val .null, .val .null, iv (0 : Int32), .val .null, .val .null, .unset, .unset] [.null, .null])) rfl (by rw [hml]; rfl) (argsL := [.null, .null]) (rest := []) (lenOf own_pd6 rfl) rfl (by show 2 * 0 + _ ≤ _; exact own_b rfl) (hb hby at_270) (fun _ _ => ⟨rfl, e147, (own_b rfl : 8 + 0 ≤ _), (own_b rfl : 14 + 0 ≤ _)⟩)
      dsimp only [Pt.U, Pt.locs, Pt.cells, Pt.slots] at X149 l149 y149 z149 st149 hQ149
      obtain ⟨rfl, Nq149, eq149⟩ := hQ149
      obtain ⟨L149, X149, N149⟩ := own_absC (K := 8) (K' := 14) X149 l149 y149 z149 N147 Nq149
      have e149 : T149.heap = h138 := eq149
      refine own_go (B := (T149.setTop (mkF m 273 #[iv p0, iv p1, iv p2, iv p3, iv p4, iv p5, iv (0 : Int32), iv kk, rv a1, rv a4, rv a9, rv a16, rv a25, rv a36, rv a105, iv (0 : Int32), .val .null, .val .null, .val .null, .val .null, iv (0 : Int32), .val .null, .val .null, .unset, .unset] [(.int (1 : Int32))]))) st149 ?_
      have hc273 : ¬ (1 : Int32) = (0 : Int32) := (by decide)
      refine own_ifY X149 hx (hb hby at_273) (pc' := 278) (by decide) (by decide) hc273 ?_
      refine own_go (B := (T149.setTop (mkF m 280 #[iv p0, iv p1, iv p2, iv p3, iv p4, iv p5, iv (0 : Int32), iv kk, rv a1, rv a4, rv a9, rv a16, rv a25, rv a36, rv a105, iv (0 : Int32), .val .null, .val .null, .val .null, .val .null, iv (0 : Int32), .val .null, .val .null, .unset, .unset] [(.ref a105)]))) (fun t k => XS.aload X149.here hx rfl (hb hby at_278) rfl rfl k) ?_
      obtain ⟨cq150, kq150, qa150, qb150, qc150⟩ := isOf hZ e149 F138_3
      obtain ⟨_, _, ⟨T150, L150, k150, n150⟩, -, X150, ⟨Lc150, hQ150, l150, y150, z150⟩, st150⟩ := X149.virtualBack hx (y := own_y6) (z := own_y6) hown (mvT hZ w_27) (mvT hZ w_28) (notFace_of_selects (args := #[]) (mvT hZ w_30)) (mvT hZ w_30) (mvT hZ w_29) (by decide) (backOf (W := 0) (own_tnone l Z a0 hw [] a105 h138 n0 F138_5) hZ w_31 w_12 (by decide) (by decide)) qa150 qc150 (g := (mkF m 280 #[iv p0, iv p1, iv p2, iv p3, iv p4, iv p5, iv (0 : Int32), iv kk, rv a1, rv a4, rv a9, rv a16, rv a25, rv a36, rv a105, iv (0 : Int32), .val .null, .val .null, .val .null, .val .null, iv (0 : Int32), .val .null, .val .null, .unset, .unset] [(.ref a105)])) rfl (by rw [hml]; rfl) (Steps.refl _) (argsL := []) (rest := []) (lenOf own_pd5 rfl) rfl (by show 2 * 0 + _ ≤ _; exact own_b rfl) (hb hby at_280) (fun _ _ => ⟨rfl, e149, (own_b rfl : 8 + 0 ≤ _), (own_b rfl : 14 + 0 ≤ _)⟩)
      dsimp only [Pt.U, Pt.locs, Pt.cells, Pt.slots] at X150 l150 y150 z150 st150 hQ150
      obtain ⟨rfl, Nq150, eq150⟩ := hQ150
      obtain ⟨L150, X150, N150⟩ := own_absC (K := 8) (K' := 14) X150 l150 y150 z150 N149 Nq150
      have e150 : T150.heap = h138 := eq150
      refine own_tr (B := (T150.setTop (mkF m 283 #[iv p0, iv p1, iv p2, iv p3, iv p4, iv p5, iv (0 : Int32), iv kk, rv a1, rv a4, rv a9, rv a16, rv a25, rv a36, rv a105, iv (0 : Int32), .val .null, .val .null, .val .null, .val .null, iv (0 : Int32), .val .null, .val .null, .unset, .unset] [.null]))) st150 ?_
      refine own_go (B := (T150.setTop (mkF m 286 #[iv p0, iv p1, iv p2, iv p3, iv p4, iv p5, iv (0 : Int32), iv kk, rv a1, rv a4, rv a9, rv a16, rv a25, rv a36, rv a105, iv (0 : Int32), .val .null, .val .null, .val .null, .val .null, iv (0 : Int32), .val .null, .val .null, .unset, .unset] [.null]))) (X150.checkcastNull hx (g := (mkF m 283 #[iv p0, iv p1, iv p2, iv p3, iv p4, iv p5, iv (0 : Int32), iv kk, rv a1, rv a4, rv a9, rv a16, rv a25, rv a36, rv a105, iv (0 : Int32), .val .null, .val .null, .val .null, .val .null, iv (0 : Int32), .val .null, .val .null, .unset, .unset] [.null])) rfl rfl (hb hby at_283)) ?_
      refine own_go (B := (T150.setTop (mkF m 288 #[iv p0, iv p1, iv p2, iv p3, iv p4, iv p5, iv (0 : Int32), iv kk, rv a1, rv a4, rv a9, rv a16, rv a25, rv a36, rv a105, iv (0 : Int32), .val .null, .val .null, .val .null, .val .null, iv (0 : Int32), .val .null, .val .null, .val .null, .unset] []))) (fun t k => XS.astore X150.here hx rfl (hb hby at_286) rfl rfl (l' := #[iv p0, iv p1, iv p2, iv p3, iv p4, iv p5, iv (0 : Int32), iv kk, rv a1, rv a4, rv a9, rv a16, rv a25, rv a36, rv a105, iv (0 : Int32), .val .null, .val .null, .val .null, .val .null, iv (0 : Int32), .val .null, .val .null, .val .null, .unset]) rfl k) ?_
      refine own_go (B := (T150.setTop (mkF m 290 #[iv p0, iv p1, iv p2, iv p3, iv p4, iv p5, iv (0 : Int32), iv kk, rv a1, rv a4, rv a9, rv a16, rv a25, rv a36, rv a105, iv (0 : Int32), .val .null, .val .null, .val .null, .val .null, iv (0 : Int32), .val .null, .val .null, .val .null, .unset] [(.int (0 : Int32))]))) (fun t k => XS.iload X150.here hx rfl (hb hby at_288) rfl k) ?_
      refine own_go (B := (T150.setTop (mkF m 291 #[iv p0, iv p1, iv p2, iv p3, iv p4, iv p5, iv (0 : Int32), iv kk, rv a1, rv a4, rv a9, rv a16, rv a25, rv a36, rv a105, iv (0 : Int32), .val .null, .val .null, .val .null, .val .null, iv (0 : Int32), .val .null, .val .null, .val .null, .unset] [(.int (1 : Int32)), (.int (0 : Int32))]))) (fun t k => own_iconst (v := (1 : Int32)) X150.here hx rfl (hb hby at_290) (by decide) k) ?_
      have hc291 : (0 : Int32) < (1 : Int32) := (by decide)
      refine own_icmpY X150 hx (hb hby at_291) (pc' := 304) (by decide) (by decide) hc291 ?_
      refine own_go (B := (T150.setTop (mkF m 305 #[iv p0, iv p1, iv p2, iv p3, iv p4, iv p5, iv (0 : Int32), iv kk, rv a1, rv a4, rv a9, rv a16, rv a25, rv a36, rv a105, iv (0 : Int32), .val .null, .val .null, .val .null, .val .null, iv (0 : Int32), .val .null, .val .null, .val .null, .unset] [.null]))) (fun t k => XS.aconstNull X150.here hx rfl (hb hby at_304) k) ?_
      refine own_go (B := (T150.setTop (mkF m 307 #[iv p0, iv p1, iv p2, iv p3, iv p4, iv p5, iv (0 : Int32), iv kk, rv a1, rv a4, rv a9, rv a16, rv a25, rv a36, rv a105, iv (0 : Int32), .val .null, .val .null, .val .null, .val .null, iv (0 : Int32), .val .null, .val .null, .val .null, .val .null] []))) (fun t k => XS.astore X150.here hx rfl (hb hby at_305) rfl rfl (l' := #[iv p0, iv p1, iv p2, iv p3, iv p4, iv p5, iv (0 : Int32), iv kk, rv a1, rv a4, rv a9, rv a16, rv a25, rv a36, rv a105, iv (0 : Int32), .val .null, .val .null, .val .null, .val .null, iv (0 : Int32), .val .null, .val .null, .val .null, .val .null]) rfl k) ?_
      refine own_go (B := (T150.setTop (mkF m 309 #[iv p0, iv p1, iv p2, iv p3, iv p4, iv p5, iv (0 : Int32), iv kk, rv a1, rv a4, rv a9, rv a16, rv a25, rv a36, rv a105, iv (0 : Int32), .val .null, .val .null, .val .null, .val .null, iv (0 : Int32), .val .null, .val .null, .val .null, .val .null] [.null]))) (fun t k => XS.aload X150.here hx rfl (hb hby at_307) rfl rfl k) ?_
      refine own_go (B := (T150.setTop (mkF m 311 #[iv p0, iv p1, iv p2, iv p3, iv p4, iv p5, iv (0 : Int32), iv kk, rv a1, rv a4, rv a9, rv a16, rv a25, rv a36, rv a105, iv (0 : Int32), .val .null, .val .null, .val .null, .val .null, iv (0 : Int32), .val .null, .val .null, .val .null, .val .null] [.null, .null]))) (fun t k => XS.aload X150.here hx rfl (hb hby at_309) rfl rfl k) ?_
      obtain ⟨_, _, ⟨T152, L152, k152, n152⟩, -, X152, ⟨Lc152, hQ152, l152, y152, z152⟩, st152⟩ := Jvm.LawKit.callS X150 hx (y := own_y7) hown (mvT hZ w_34) (mvT hZ w_35) (mvT hZ w_36) (mvT hZ w_37) (by decide) (backOf (W := 0) (own_same0 l Z a0 hw [] h138 n0) hZ w_37 w_36 (by decide) (by decide)) (g := (mkF m 311 #[iv p0, iv p1, iv p2, iv p3, iv p4, iv p5, iv (0 : Int32), iv kk, rv a1, rv a4, rv a9, rv a16, rv a25, rv a36, rv a105, iv (0 : Int32), .val .null, .val .null, .val .null, .val .null, iv (0 : Int32), .val .null, .val .null, .val .null, .val .null] [.null, .null])) rfl (by rw [hml]; rfl) (argsL := [.null, .null]) (rest := []) (lenOf own_pd6 rfl) rfl (by show 2 * 0 + _ ≤ _; exact own_b rfl) (hb hby at_311) (fun _ _ => ⟨rfl, e150, (own_b rfl : 8 + 0 ≤ _), (own_b rfl : 14 + 0 ≤ _)⟩)
      dsimp only [Pt.U, Pt.locs, Pt.cells, Pt.slots] at X152 l152 y152 z152 st152 hQ152
      obtain ⟨rfl, Nq152, eq152⟩ := hQ152
      obtain ⟨L152, X152, N152⟩ := own_absC (K := 8) (K' := 14) X152 l152 y152 z152 N150 Nq152
      have e152 : T152.heap = h138 := eq152
      refine own_go (B := (T152.setTop (mkF m 314 #[iv p0, iv p1, iv p2, iv p3, iv p4, iv p5, iv (0 : Int32), iv kk, rv a1, rv a4, rv a9, rv a16, rv a25, rv a36, rv a105, iv (0 : Int32), .val .null, .val .null, .val .null, .val .null, iv (0 : Int32), .val .null, .val .null, .val .null, .val .null] [(.int (1 : Int32))]))) st152 ?_
      exact own_retZ X152 hx hlk Bd.returns (hb hby at_314) (by decide) (own_b rfl) (own_b rfl) (Q := (own_law_Q Z p0 p1 p2 p3 p4 p5 ca h0 n0)) ⟨rfl, N152⟩
    rcases own_c5 hz13 with rfl | rfl | rfl | rfl | rfl
    · refine own_go (B := (T121.setTop (mkF m 86 #[iv p0, iv p1, iv p2, iv p3, iv p4, iv p5, iv (0 : Int32), iv (0 : Int32), rv a1, rv a4, rv a9, rv a16, rv a25, rv a36, rv a105, .unset, .unset, .unset, .unset, .unset, .unset, .unset, .unset, .unset, .unset] [(.int (0 : Int32))]))) (fun t k => XS.iload X121.here hx rfl (hb hby at_84) rfl k) ?_
      have hc86 : ¬ (0 : Int32) < (0 : Int32) := (by decide)
      refine own_ifY X121 hx (hb hby at_86) (pc' := 96) (by decide) (by decide) hc86 ?_
      refine own_go (B := (T121.setTop (mkF m 98 #[iv p0, iv p1, iv p2, iv p3, iv p4, iv p5, iv (0 : Int32), iv (0 : Int32), rv a1, rv a4, rv a9, rv a16, rv a25, rv a36, rv a105, .unset, .unset, .unset, .unset, .unset, .unset, .unset, .unset, .unset, .unset] [(.int (0 : Int32))]))) (fun t k => XS.iload X121.here hx rfl (hb hby at_96) rfl k) ?_
      refine own_go (B := (T121.setTop (mkF m 99 #[iv p0, iv p1, iv p2, iv p3, iv p4, iv p5, iv (0 : Int32), iv (0 : Int32), rv a1, rv a4, rv a9, rv a16, rv a25, rv a36, rv a105, .unset, .unset, .unset, .unset, .unset, .unset, .unset, .unset, .unset, .unset] [(.int (1 : Int32)), (.int (0 : Int32))]))) (fun t k => own_iconst (v := (1 : Int32)) X121.here hx rfl (hb hby at_98) (by decide) k) ?_
      have hc99 : ¬ (1 : Int32) < (0 : Int32) := (by decide)
      refine own_icmpY X121 hx (hb hby at_99) (pc' := 109) (by decide) (by decide) hc99 ?_
      refine own_go (B := (T121.setTop (mkF m 111 #[iv p0, iv p1, iv p2, iv p3, iv p4, iv p5, iv (0 : Int32), iv (0 : Int32), rv a1, rv a4, rv a9, rv a16, rv a25, rv a36, rv a105, .unset, .unset, .unset, .unset, .unset, .unset, .unset, .unset, .unset, .unset] [(.int (0 : Int32))]))) (fun t k => XS.iload X121.here hx rfl (hb hby at_109) rfl k) ?_
      refine own_go (B := (T121.setTop (mkF m 112 #[iv p0, iv p1, iv p2, iv p3, iv p4, iv p5, iv (0 : Int32), iv (0 : Int32), rv a1, rv a4, rv a9, rv a16, rv a25, rv a36, rv a105, .unset, .unset, .unset, .unset, .unset, .unset, .unset, .unset, .unset, .unset] [(.int (2 : Int32)), (.int (0 : Int32))]))) (fun t k => own_iconst (v := (2 : Int32)) X121.here hx rfl (hb hby at_111) (by decide) k) ?_
      have hc112 : ¬ (2 : Int32) < (0 : Int32) := (by decide)
      refine own_icmpY X121 hx (hb hby at_112) (pc' := 122) (by decide) (by decide) hc112 ?_
      refine own_go (B := (T121.setTop (mkF m 124 #[iv p0, iv p1, iv p2, iv p3, iv p4, iv p5, iv (0 : Int32), iv (0 : Int32), rv a1, rv a4, rv a9, rv a16, rv a25, rv a36, rv a105, .unset, .unset, .unset, .unset, .unset, .unset, .unset, .unset, .unset, .unset] [(.int (0 : Int32))]))) (fun t k => XS.iload X121.here hx rfl (hb hby at_122) rfl k) ?_
      refine own_go (B := (T121.setTop (mkF m 125 #[iv p0, iv p1, iv p2, iv p3, iv p4, iv p5, iv (0 : Int32), iv (0 : Int32), rv a1, rv a4, rv a9, rv a16, rv a25, rv a36, rv a105, .unset, .unset, .unset, .unset, .unset, .unset, .unset, .unset, .unset, .unset] [(.int (3 : Int32)), (.int (0 : Int32))]))) (fun t k => own_iconst (v := (3 : Int32)) X121.here hx rfl (hb hby at_124) (by decide) k) ?_
      have hc125 : ¬ (3 : Int32) < (0 : Int32) := (by decide)
      refine own_icmpY X121 hx (hb hby at_125) (pc' := 135) (by decide) (by decide) hc125 ?_
      refine own_go (B := (T121.setTop (mkF m 137 #[iv p0, iv p1, iv p2, iv p3, iv p4, iv p5, iv (0 : Int32), iv (0 : Int32), rv a1, rv a4, rv a9, rv a16, rv a25, rv a36, rv a105, .unset, .unset, .unset, .unset, .unset, .unset, .unset, .unset, .unset, .unset] [(.int (0 : Int32))]))) (fun t k => XS.iload X121.here hx rfl (hb hby at_135) rfl k) ?_
      refine own_go (B := (T121.setTop (mkF m 139 #[iv p0, iv p1, iv p2, iv p3, iv p4, iv p5, iv (0 : Int32), iv (0 : Int32), rv a1, rv a4, rv a9, rv a16, rv a25, rv a36, rv a105, .unset, .unset, .unset, .unset, .unset, .unset, .unset, .unset, .unset, .unset] [(.int (0 : Int32)), (.int (0 : Int32))]))) (fun t k => XS.iload X121.here hx rfl (hb hby at_137) rfl k) ?_
      obtain ⟨_, _, ⟨T153, L153, k153, n153⟩, -, X153, ⟨Lc153, hQ153, l153, y153, z153⟩, st153⟩ := Jvm.LawKit.callS X121 hx (y := own_y10) hown (mvT hZ w_23) (mvT hZ w_24) (mvT hZ w_25) (mvT hZ w_26) (by decide) (backOf (W := 0) (own_mmin l Z a0 hw [] (0 : Int32) (0 : Int32) T121.heap n0) hZ w_26 w_25 (by decide) (by decide)) (g := (mkF m 139 #[iv p0, iv p1, iv p2, iv p3, iv p4, iv p5, iv (0 : Int32), iv (0 : Int32), rv a1, rv a4, rv a9, rv a16, rv a25, rv a36, rv a105, .unset, .unset, .unset, .unset, .unset, .unset, .unset, .unset, .unset, .unset] [(.int (0 : Int32)), (.int (0 : Int32))])) rfl (by rw [hml]; rfl) (argsL := [(.int (0 : Int32)), (.int (0 : Int32))]) (rest := []) (lenOf own_pd7 rfl) rfl (by show 2 * 0 + _ ≤ _; exact own_b rfl) (hb hby at_139) (fun _ _ => ⟨rfl, rfl, (own_b rfl : 8 + 0 ≤ _), (own_b rfl : 14 + 0 ≤ _)⟩)
      dsimp only [Pt.U, Pt.locs, Pt.cells, Pt.slots] at X153 l153 y153 z153 st153 hQ153
      obtain ⟨rfl, Nq153, eq153⟩ := hQ153
      obtain ⟨L153, X153, N153⟩ := own_absC (K := 8) (K' := 14) X153 l153 y153 z153 N121 Nq153
      have e153 : T153.heap = T121.heap := eq153
      refine own_go (B := (T153.setTop (mkF m 142 #[iv p0, iv p1, iv p2, iv p3, iv p4, iv p5, iv (0 : Int32), iv (0 : Int32), rv a1, rv a4, rv a9, rv a16, rv a25, rv a36, rv a105, .unset, .unset, .unset, .unset, .unset, .unset, .unset, .unset, .unset, .unset] [(.int (own_min (0 : Int32) (0 : Int32)))]))) st153 ?_
      rw [show own_min (0 : Int32) (0 : Int32) = (0 : Int32) from by decide]
      refine own_go (B := (T153.setTop (mkF m 144 #[iv p0, iv p1, iv p2, iv p3, iv p4, iv p5, iv (0 : Int32), iv (0 : Int32), rv a1, rv a4, rv a9, rv a16, rv a25, rv a36, rv a105, iv (0 : Int32), .unset, .unset, .unset, .unset, .unset, .unset, .unset, .unset, .unset] []))) (fun t k => XS.istore X153.here hx rfl (hb hby at_142) rfl (l' := #[iv p0, iv p1, iv p2, iv p3, iv p4, iv p5, iv (0 : Int32), iv (0 : Int32), rv a1, rv a4, rv a9, rv a16, rv a25, rv a36, rv a105, iv (0 : Int32), .unset, .unset, .unset, .unset, .unset, .unset, .unset, .unset, .unset]) rfl k) ?_
      exact J0 T153 _ T121.heap X153 e153 N153 F122 F123 F134 Ex121 gk121 gc121 Vb BB _
    · refine own_go (B := (T121.setTop (mkF m 86 #[iv p0, iv p1, iv p2, iv p3, iv p4, iv p5, iv (0 : Int32), iv (1 : Int32), rv a1, rv a4, rv a9, rv a16, rv a25, rv a36, rv a105, .unset, .unset, .unset, .unset, .unset, .unset, .unset, .unset, .unset, .unset] [(.int (1 : Int32))]))) (fun t k => XS.iload X121.here hx rfl (hb hby at_84) rfl k) ?_
      have hc86 : (0 : Int32) < (1 : Int32) := (by decide)
      refine own_ifN X121 hx (hb hby at_86) (pn := 89) rfl hc86 ?_
      refine own_go (B := (T121.setTop (mkF m 91 #[iv p0, iv p1, iv p2, iv p3, iv p4, iv p5, iv (0 : Int32), iv (1 : Int32), rv a1, rv a4, rv a9, rv a16, rv a25, rv a36, rv a105, .unset, .unset, .unset, .unset, .unset, .unset, .unset, .unset, .unset, .unset] [(.ref a105)]))) (fun t k => XS.aload X121.here hx rfl (hb hby at_89) rfl rfl k) ?_
      refine own_go (B := (T121.setTop (mkF m 93 #[iv p0, iv p1, iv p2, iv p3, iv p4, iv p5, iv (0 : Int32), iv (1 : Int32), rv a1, rv a4, rv a9, rv a16, rv a25, rv a36, rv a105, .unset, .unset, .unset, .unset, .unset, .unset, .unset, .unset, .unset, .unset] [(.ref a1), (.ref a105)]))) (fun t k => XS.aload X121.here hx rfl (hb hby at_91) rfl rfl k) ?_
      obtain ⟨cq154, kq154, qa154, qb154, qc154⟩ := isOf hZ rfl Ex121
      obtain ⟨_, _, ⟨T154, L154, k154, n154⟩, -, X154, ⟨Lc154, hQ154, l154, y154, z154⟩, st154⟩ := X121.virtualBack hx (y := own_y9) (z := own_y9) hown (mvT hZ w_41) (mvT hZ w_42) (notFace_of_selects (args := #[]) (mvT hZ w_44)) (mvT hZ w_44) (mvT hZ w_43) (by decide) (backOf (W := 0) (own_kfull l Z a0 hw [] a105 a1 ar121 (0 : Int32) (0 : Int32) [] T121.heap n0 Ex121 gk121 gc121 Vb (own_lenL (n := 0) rfl (by decide)) (by decide)) hZ w_45 w_12 (by decide) (by decide)) qa154 qc154 (g := (mkF m 93 #[iv p0, iv p1, iv p2, iv p3, iv p4, iv p5, iv (0 : Int32), iv (1 : Int32), rv a1, rv a4, rv a9, rv a16, rv a25, rv a36, rv a105, .unset, .unset, .unset, .unset, .unset, .unset, .unset, .unset, .unset, .unset] [(.ref a1), (.ref a105)])) rfl (by rw [hml]; rfl) (Steps.refl _) (argsL := [(.ref a1)]) (rest := []) (lenOf own_pd8 rfl) rfl (by show 2 * 0 + _ ≤ _; exact own_b rfl) (hb hby at_93) (fun _ _ => ⟨rfl, rfl, (own_b rfl : 8 + 0 ≤ _), (own_b rfl : 14 + 0 ≤ _)⟩)
      dsimp only [Pt.U, Pt.locs, Pt.cells, Pt.slots] at X154 l154 y154 z154 st154 hQ154
      obtain ⟨rfl, Nq154, eq154⟩ := hQ154
      obtain ⟨L154, X154, N154⟩ := own_absC (K := 8) (K' := 14) X154 l154 y154 z154 N121 Nq154
      have e154 : T154.heap = T121.heap := eq154
      refine own_tr (B := (T154.setTop (mkF m 96 #[iv p0, iv p1, iv p2, iv p3, iv p4, iv p5, iv (0 : Int32), iv (1 : Int32), rv a1, rv a4, rv a9, rv a16, rv a25, rv a36, rv a105, .unset, .unset, .unset, .unset, .unset, .unset, .unset, .unset, .unset, .unset] []))) st154 ?_
      refine own_go (B := (T154.setTop (mkF m 98 #[iv p0, iv p1, iv p2, iv p3, iv p4, iv p5, iv (0 : Int32), iv (1 : Int32), rv a1, rv a4, rv a9, rv a16, rv a25, rv a36, rv a105, .unset, .unset, .unset, .unset, .unset, .unset, .unset, .unset, .unset, .unset] [(.int (1 : Int32))]))) (fun t k => XS.iload X154.here hx rfl (hb hby at_96) rfl k) ?_
      refine own_go (B := (T154.setTop (mkF m 99 #[iv p0, iv p1, iv p2, iv p3, iv p4, iv p5, iv (0 : Int32), iv (1 : Int32), rv a1, rv a4, rv a9, rv a16, rv a25, rv a36, rv a105, .unset, .unset, .unset, .unset, .unset, .unset, .unset, .unset, .unset, .unset] [(.int (1 : Int32)), (.int (1 : Int32))]))) (fun t k => own_iconst (v := (1 : Int32)) X154.here hx rfl (hb hby at_98) (by decide) k) ?_
      have hc99 : ¬ (1 : Int32) < (1 : Int32) := (by decide)
      refine own_icmpY X154 hx (hb hby at_99) (pc' := 109) (by decide) (by decide) hc99 ?_
      refine own_go (B := (T154.setTop (mkF m 111 #[iv p0, iv p1, iv p2, iv p3, iv p4, iv p5, iv (0 : Int32), iv (1 : Int32), rv a1, rv a4, rv a9, rv a16, rv a25, rv a36, rv a105, .unset, .unset, .unset, .unset, .unset, .unset, .unset, .unset, .unset, .unset] [(.int (1 : Int32))]))) (fun t k => XS.iload X154.here hx rfl (hb hby at_109) rfl k) ?_
      refine own_go (B := (T154.setTop (mkF m 112 #[iv p0, iv p1, iv p2, iv p3, iv p4, iv p5, iv (0 : Int32), iv (1 : Int32), rv a1, rv a4, rv a9, rv a16, rv a25, rv a36, rv a105, .unset, .unset, .unset, .unset, .unset, .unset, .unset, .unset, .unset, .unset] [(.int (2 : Int32)), (.int (1 : Int32))]))) (fun t k => own_iconst (v := (2 : Int32)) X154.here hx rfl (hb hby at_111) (by decide) k) ?_
      have hc112 : ¬ (2 : Int32) < (1 : Int32) := (by decide)
      refine own_icmpY X154 hx (hb hby at_112) (pc' := 122) (by decide) (by decide) hc112 ?_
      refine own_go (B := (T154.setTop (mkF m 124 #[iv p0, iv p1, iv p2, iv p3, iv p4, iv p5, iv (0 : Int32), iv (1 : Int32), rv a1, rv a4, rv a9, rv a16, rv a25, rv a36, rv a105, .unset, .unset, .unset, .unset, .unset, .unset, .unset, .unset, .unset, .unset] [(.int (1 : Int32))]))) (fun t k => XS.iload X154.here hx rfl (hb hby at_122) rfl k) ?_
      refine own_go (B := (T154.setTop (mkF m 125 #[iv p0, iv p1, iv p2, iv p3, iv p4, iv p5, iv (0 : Int32), iv (1 : Int32), rv a1, rv a4, rv a9, rv a16, rv a25, rv a36, rv a105, .unset, .unset, .unset, .unset, .unset, .unset, .unset, .unset, .unset, .unset] [(.int (3 : Int32)), (.int (1 : Int32))]))) (fun t k => own_iconst (v := (3 : Int32)) X154.here hx rfl (hb hby at_124) (by decide) k) ?_
      have hc125 : ¬ (3 : Int32) < (1 : Int32) := (by decide)
      refine own_icmpY X154 hx (hb hby at_125) (pc' := 135) (by decide) (by decide) hc125 ?_
      refine own_go (B := (T154.setTop (mkF m 137 #[iv p0, iv p1, iv p2, iv p3, iv p4, iv p5, iv (0 : Int32), iv (1 : Int32), rv a1, rv a4, rv a9, rv a16, rv a25, rv a36, rv a105, .unset, .unset, .unset, .unset, .unset, .unset, .unset, .unset, .unset, .unset] [(.int (1 : Int32))]))) (fun t k => XS.iload X154.here hx rfl (hb hby at_135) rfl k) ?_
      refine own_go (B := (T154.setTop (mkF m 139 #[iv p0, iv p1, iv p2, iv p3, iv p4, iv p5, iv (0 : Int32), iv (1 : Int32), rv a1, rv a4, rv a9, rv a16, rv a25, rv a36, rv a105, .unset, .unset, .unset, .unset, .unset, .unset, .unset, .unset, .unset, .unset] [(.int (0 : Int32)), (.int (1 : Int32))]))) (fun t k => XS.iload X154.here hx rfl (hb hby at_137) rfl k) ?_
      obtain ⟨_, _, ⟨T155, L155, k155, n155⟩, -, X155, ⟨Lc155, hQ155, l155, y155, z155⟩, st155⟩ := Jvm.LawKit.callS X154 hx (y := own_y10) hown (mvT hZ w_23) (mvT hZ w_24) (mvT hZ w_25) (mvT hZ w_26) (by decide) (backOf (W := 0) (own_mmin l Z a0 hw [] (1 : Int32) (0 : Int32) T121.heap n0) hZ w_26 w_25 (by decide) (by decide)) (g := (mkF m 139 #[iv p0, iv p1, iv p2, iv p3, iv p4, iv p5, iv (0 : Int32), iv (1 : Int32), rv a1, rv a4, rv a9, rv a16, rv a25, rv a36, rv a105, .unset, .unset, .unset, .unset, .unset, .unset, .unset, .unset, .unset, .unset] [(.int (0 : Int32)), (.int (1 : Int32))])) rfl (by rw [hml]; rfl) (argsL := [(.int (1 : Int32)), (.int (0 : Int32))]) (rest := []) (lenOf own_pd7 rfl) rfl (by show 2 * 0 + _ ≤ _; exact own_b rfl) (hb hby at_139) (fun _ _ => ⟨rfl, e154, (own_b rfl : 8 + 0 ≤ _), (own_b rfl : 14 + 0 ≤ _)⟩)
      dsimp only [Pt.U, Pt.locs, Pt.cells, Pt.slots] at X155 l155 y155 z155 st155 hQ155
      obtain ⟨rfl, Nq155, eq155⟩ := hQ155
      obtain ⟨L155, X155, N155⟩ := own_absC (K := 8) (K' := 14) X155 l155 y155 z155 N154 Nq155
      have e155 : T155.heap = T121.heap := eq155
      refine own_go (B := (T155.setTop (mkF m 142 #[iv p0, iv p1, iv p2, iv p3, iv p4, iv p5, iv (0 : Int32), iv (1 : Int32), rv a1, rv a4, rv a9, rv a16, rv a25, rv a36, rv a105, .unset, .unset, .unset, .unset, .unset, .unset, .unset, .unset, .unset, .unset] [(.int (own_min (1 : Int32) (0 : Int32)))]))) st155 ?_
      rw [show own_min (1 : Int32) (0 : Int32) = (0 : Int32) from by decide]
      refine own_go (B := (T155.setTop (mkF m 144 #[iv p0, iv p1, iv p2, iv p3, iv p4, iv p5, iv (0 : Int32), iv (1 : Int32), rv a1, rv a4, rv a9, rv a16, rv a25, rv a36, rv a105, iv (0 : Int32), .unset, .unset, .unset, .unset, .unset, .unset, .unset, .unset, .unset] []))) (fun t k => XS.istore X155.here hx rfl (hb hby at_142) rfl (l' := #[iv p0, iv p1, iv p2, iv p3, iv p4, iv p5, iv (0 : Int32), iv (1 : Int32), rv a1, rv a4, rv a9, rv a16, rv a25, rv a36, rv a105, iv (0 : Int32), .unset, .unset, .unset, .unset, .unset, .unset, .unset, .unset, .unset]) rfl k) ?_
      exact J0 T155 _ T121.heap X155 e155 N155 F122 F123 F134 Ex121 gk121 gc121 Vb BB _
    · refine own_go (B := (T121.setTop (mkF m 86 #[iv p0, iv p1, iv p2, iv p3, iv p4, iv p5, iv (0 : Int32), iv (2 : Int32), rv a1, rv a4, rv a9, rv a16, rv a25, rv a36, rv a105, .unset, .unset, .unset, .unset, .unset, .unset, .unset, .unset, .unset, .unset] [(.int (2 : Int32))]))) (fun t k => XS.iload X121.here hx rfl (hb hby at_84) rfl k) ?_
      have hc86 : (0 : Int32) < (2 : Int32) := (by decide)
      refine own_ifN X121 hx (hb hby at_86) (pn := 89) rfl hc86 ?_
      refine own_go (B := (T121.setTop (mkF m 91 #[iv p0, iv p1, iv p2, iv p3, iv p4, iv p5, iv (0 : Int32), iv (2 : Int32), rv a1, rv a4, rv a9, rv a16, rv a25, rv a36, rv a105, .unset, .unset, .unset, .unset, .unset, .unset, .unset, .unset, .unset, .unset] [(.ref a105)]))) (fun t k => XS.aload X121.here hx rfl (hb hby at_89) rfl rfl k) ?_
      refine own_go (B := (T121.setTop (mkF m 93 #[iv p0, iv p1, iv p2, iv p3, iv p4, iv p5, iv (0 : Int32), iv (2 : Int32), rv a1, rv a4, rv a9, rv a16, rv a25, rv a36, rv a105, .unset, .unset, .unset, .unset, .unset, .unset, .unset, .unset, .unset, .unset] [(.ref a1), (.ref a105)]))) (fun t k => XS.aload X121.here hx rfl (hb hby at_91) rfl rfl k) ?_
      obtain ⟨cq156, kq156, qa156, qb156, qc156⟩ := isOf hZ rfl Ex121
      obtain ⟨_, _, ⟨T156, L156, k156, n156⟩, -, X156, ⟨Lc156, hQ156, l156, y156, z156⟩, st156⟩ := X121.virtualBack hx (y := own_y9) (z := own_y9) hown (mvT hZ w_41) (mvT hZ w_42) (notFace_of_selects (args := #[]) (mvT hZ w_44)) (mvT hZ w_44) (mvT hZ w_43) (by decide) (backOf (W := 0) (own_kfull l Z a0 hw [] a105 a1 ar121 (0 : Int32) (0 : Int32) [] T121.heap n0 Ex121 gk121 gc121 Vb (own_lenL (n := 0) rfl (by decide)) (by decide)) hZ w_45 w_12 (by decide) (by decide)) qa156 qc156 (g := (mkF m 93 #[iv p0, iv p1, iv p2, iv p3, iv p4, iv p5, iv (0 : Int32), iv (2 : Int32), rv a1, rv a4, rv a9, rv a16, rv a25, rv a36, rv a105, .unset, .unset, .unset, .unset, .unset, .unset, .unset, .unset, .unset, .unset] [(.ref a1), (.ref a105)])) rfl (by rw [hml]; rfl) (Steps.refl _) (argsL := [(.ref a1)]) (rest := []) (lenOf own_pd8 rfl) rfl (by show 2 * 0 + _ ≤ _; exact own_b rfl) (hb hby at_93) (fun _ _ => ⟨rfl, rfl, (own_b rfl : 8 + 0 ≤ _), (own_b rfl : 14 + 0 ≤ _)⟩)
      dsimp only [Pt.U, Pt.locs, Pt.cells, Pt.slots] at X156 l156 y156 z156 st156 hQ156
      obtain ⟨rfl, Nq156, eq156⟩ := hQ156
      obtain ⟨L156, X156, N156⟩ := own_absC (K := 8) (K' := 14) X156 l156 y156 z156 N121 Nq156
      have e156 : T156.heap = T121.heap := eq156
      refine own_tr (B := (T156.setTop (mkF m 96 #[iv p0, iv p1, iv p2, iv p3, iv p4, iv p5, iv (0 : Int32), iv (2 : Int32), rv a1, rv a4, rv a9, rv a16, rv a25, rv a36, rv a105, .unset, .unset, .unset, .unset, .unset, .unset, .unset, .unset, .unset, .unset] []))) st156 ?_
      refine own_go (B := (T156.setTop (mkF m 98 #[iv p0, iv p1, iv p2, iv p3, iv p4, iv p5, iv (0 : Int32), iv (2 : Int32), rv a1, rv a4, rv a9, rv a16, rv a25, rv a36, rv a105, .unset, .unset, .unset, .unset, .unset, .unset, .unset, .unset, .unset, .unset] [(.int (2 : Int32))]))) (fun t k => XS.iload X156.here hx rfl (hb hby at_96) rfl k) ?_
      refine own_go (B := (T156.setTop (mkF m 99 #[iv p0, iv p1, iv p2, iv p3, iv p4, iv p5, iv (0 : Int32), iv (2 : Int32), rv a1, rv a4, rv a9, rv a16, rv a25, rv a36, rv a105, .unset, .unset, .unset, .unset, .unset, .unset, .unset, .unset, .unset, .unset] [(.int (1 : Int32)), (.int (2 : Int32))]))) (fun t k => own_iconst (v := (1 : Int32)) X156.here hx rfl (hb hby at_98) (by decide) k) ?_
      have hc99 : (1 : Int32) < (2 : Int32) := (by decide)
      refine own_icmpN X156 hx (hb hby at_99) (pn := 102) rfl hc99 ?_
      refine own_go (B := (T156.setTop (mkF m 104 #[iv p0, iv p1, iv p2, iv p3, iv p4, iv p5, iv (0 : Int32), iv (2 : Int32), rv a1, rv a4, rv a9, rv a16, rv a25, rv a36, rv a105, .unset, .unset, .unset, .unset, .unset, .unset, .unset, .unset, .unset, .unset] [(.ref a105)]))) (fun t k => XS.aload X156.here hx rfl (hb hby at_102) rfl rfl k) ?_
      refine own_go (B := (T156.setTop (mkF m 106 #[iv p0, iv p1, iv p2, iv p3, iv p4, iv p5, iv (0 : Int32), iv (2 : Int32), rv a1, rv a4, rv a9, rv a16, rv a25, rv a36, rv a105, .unset, .unset, .unset, .unset, .unset, .unset, .unset, .unset, .unset, .unset] [(.ref a4), (.ref a105)]))) (fun t k => XS.aload X156.here hx rfl (hb hby at_104) rfl rfl k) ?_
      obtain ⟨cq157, kq157, qa157, qb157, qc157⟩ := isOf hZ e156 Ex121
      obtain ⟨_, _, ⟨T157, L157, k157, n157⟩, -, X157, ⟨Lc157, hQ157, l157, y157, z157⟩, st157⟩ := X156.virtualBack hx (y := own_y9) (z := own_y9) hown (mvT hZ w_41) (mvT hZ w_42) (notFace_of_selects (args := #[]) (mvT hZ w_44)) (mvT hZ w_44) (mvT hZ w_43) (by decide) (backOf (W := 0) (own_kfull l Z a0 hw [] a105 a4 ar121 (0 : Int32) (0 : Int32) [] T121.heap n0 Ex121 gk121 gc121 Vb (own_lenL (n := 0) rfl (by decide)) (by decide)) hZ w_45 w_12 (by decide) (by decide)) qa157 qc157 (g := (mkF m 106 #[iv p0, iv p1, iv p2, iv p3, iv p4, iv p5, iv (0 : Int32), iv (2 : Int32), rv a1, rv a4, rv a9, rv a16, rv a25, rv a36, rv a105, .unset, .unset, .unset, .unset, .unset, .unset, .unset, .unset, .unset, .unset] [(.ref a4), (.ref a105)])) rfl (by rw [hml]; rfl) (Steps.refl _) (argsL := [(.ref a4)]) (rest := []) (lenOf own_pd8 rfl) rfl (by show 2 * 0 + _ ≤ _; exact own_b rfl) (hb hby at_106) (fun _ _ => ⟨rfl, e156, (own_b rfl : 8 + 0 ≤ _), (own_b rfl : 14 + 0 ≤ _)⟩)
      dsimp only [Pt.U, Pt.locs, Pt.cells, Pt.slots] at X157 l157 y157 z157 st157 hQ157
      obtain ⟨rfl, Nq157, eq157⟩ := hQ157
      obtain ⟨L157, X157, N157⟩ := own_absC (K := 8) (K' := 14) X157 l157 y157 z157 N156 Nq157
      have e157 : T157.heap = T121.heap := eq157
      refine own_tr (B := (T157.setTop (mkF m 109 #[iv p0, iv p1, iv p2, iv p3, iv p4, iv p5, iv (0 : Int32), iv (2 : Int32), rv a1, rv a4, rv a9, rv a16, rv a25, rv a36, rv a105, .unset, .unset, .unset, .unset, .unset, .unset, .unset, .unset, .unset, .unset] []))) st157 ?_
      refine own_go (B := (T157.setTop (mkF m 111 #[iv p0, iv p1, iv p2, iv p3, iv p4, iv p5, iv (0 : Int32), iv (2 : Int32), rv a1, rv a4, rv a9, rv a16, rv a25, rv a36, rv a105, .unset, .unset, .unset, .unset, .unset, .unset, .unset, .unset, .unset, .unset] [(.int (2 : Int32))]))) (fun t k => XS.iload X157.here hx rfl (hb hby at_109) rfl k) ?_
      refine own_go (B := (T157.setTop (mkF m 112 #[iv p0, iv p1, iv p2, iv p3, iv p4, iv p5, iv (0 : Int32), iv (2 : Int32), rv a1, rv a4, rv a9, rv a16, rv a25, rv a36, rv a105, .unset, .unset, .unset, .unset, .unset, .unset, .unset, .unset, .unset, .unset] [(.int (2 : Int32)), (.int (2 : Int32))]))) (fun t k => own_iconst (v := (2 : Int32)) X157.here hx rfl (hb hby at_111) (by decide) k) ?_
      have hc112 : ¬ (2 : Int32) < (2 : Int32) := (by decide)
      refine own_icmpY X157 hx (hb hby at_112) (pc' := 122) (by decide) (by decide) hc112 ?_
      refine own_go (B := (T157.setTop (mkF m 124 #[iv p0, iv p1, iv p2, iv p3, iv p4, iv p5, iv (0 : Int32), iv (2 : Int32), rv a1, rv a4, rv a9, rv a16, rv a25, rv a36, rv a105, .unset, .unset, .unset, .unset, .unset, .unset, .unset, .unset, .unset, .unset] [(.int (2 : Int32))]))) (fun t k => XS.iload X157.here hx rfl (hb hby at_122) rfl k) ?_
      refine own_go (B := (T157.setTop (mkF m 125 #[iv p0, iv p1, iv p2, iv p3, iv p4, iv p5, iv (0 : Int32), iv (2 : Int32), rv a1, rv a4, rv a9, rv a16, rv a25, rv a36, rv a105, .unset, .unset, .unset, .unset, .unset, .unset, .unset, .unset, .unset, .unset] [(.int (3 : Int32)), (.int (2 : Int32))]))) (fun t k => own_iconst (v := (3 : Int32)) X157.here hx rfl (hb hby at_124) (by decide) k) ?_
      have hc125 : ¬ (3 : Int32) < (2 : Int32) := (by decide)
      refine own_icmpY X157 hx (hb hby at_125) (pc' := 135) (by decide) (by decide) hc125 ?_
      refine own_go (B := (T157.setTop (mkF m 137 #[iv p0, iv p1, iv p2, iv p3, iv p4, iv p5, iv (0 : Int32), iv (2 : Int32), rv a1, rv a4, rv a9, rv a16, rv a25, rv a36, rv a105, .unset, .unset, .unset, .unset, .unset, .unset, .unset, .unset, .unset, .unset] [(.int (2 : Int32))]))) (fun t k => XS.iload X157.here hx rfl (hb hby at_135) rfl k) ?_
      refine own_go (B := (T157.setTop (mkF m 139 #[iv p0, iv p1, iv p2, iv p3, iv p4, iv p5, iv (0 : Int32), iv (2 : Int32), rv a1, rv a4, rv a9, rv a16, rv a25, rv a36, rv a105, .unset, .unset, .unset, .unset, .unset, .unset, .unset, .unset, .unset, .unset] [(.int (0 : Int32)), (.int (2 : Int32))]))) (fun t k => XS.iload X157.here hx rfl (hb hby at_137) rfl k) ?_
      obtain ⟨_, _, ⟨T158, L158, k158, n158⟩, -, X158, ⟨Lc158, hQ158, l158, y158, z158⟩, st158⟩ := Jvm.LawKit.callS X157 hx (y := own_y10) hown (mvT hZ w_23) (mvT hZ w_24) (mvT hZ w_25) (mvT hZ w_26) (by decide) (backOf (W := 0) (own_mmin l Z a0 hw [] (2 : Int32) (0 : Int32) T121.heap n0) hZ w_26 w_25 (by decide) (by decide)) (g := (mkF m 139 #[iv p0, iv p1, iv p2, iv p3, iv p4, iv p5, iv (0 : Int32), iv (2 : Int32), rv a1, rv a4, rv a9, rv a16, rv a25, rv a36, rv a105, .unset, .unset, .unset, .unset, .unset, .unset, .unset, .unset, .unset, .unset] [(.int (0 : Int32)), (.int (2 : Int32))])) rfl (by rw [hml]; rfl) (argsL := [(.int (2 : Int32)), (.int (0 : Int32))]) (rest := []) (lenOf own_pd7 rfl) rfl (by show 2 * 0 + _ ≤ _; exact own_b rfl) (hb hby at_139) (fun _ _ => ⟨rfl, e157, (own_b rfl : 8 + 0 ≤ _), (own_b rfl : 14 + 0 ≤ _)⟩)
      dsimp only [Pt.U, Pt.locs, Pt.cells, Pt.slots] at X158 l158 y158 z158 st158 hQ158
      obtain ⟨rfl, Nq158, eq158⟩ := hQ158
      obtain ⟨L158, X158, N158⟩ := own_absC (K := 8) (K' := 14) X158 l158 y158 z158 N157 Nq158
      have e158 : T158.heap = T121.heap := eq158
      refine own_go (B := (T158.setTop (mkF m 142 #[iv p0, iv p1, iv p2, iv p3, iv p4, iv p5, iv (0 : Int32), iv (2 : Int32), rv a1, rv a4, rv a9, rv a16, rv a25, rv a36, rv a105, .unset, .unset, .unset, .unset, .unset, .unset, .unset, .unset, .unset, .unset] [(.int (own_min (2 : Int32) (0 : Int32)))]))) st158 ?_
      rw [show own_min (2 : Int32) (0 : Int32) = (0 : Int32) from by decide]
      refine own_go (B := (T158.setTop (mkF m 144 #[iv p0, iv p1, iv p2, iv p3, iv p4, iv p5, iv (0 : Int32), iv (2 : Int32), rv a1, rv a4, rv a9, rv a16, rv a25, rv a36, rv a105, iv (0 : Int32), .unset, .unset, .unset, .unset, .unset, .unset, .unset, .unset, .unset] []))) (fun t k => XS.istore X158.here hx rfl (hb hby at_142) rfl (l' := #[iv p0, iv p1, iv p2, iv p3, iv p4, iv p5, iv (0 : Int32), iv (2 : Int32), rv a1, rv a4, rv a9, rv a16, rv a25, rv a36, rv a105, iv (0 : Int32), .unset, .unset, .unset, .unset, .unset, .unset, .unset, .unset, .unset]) rfl k) ?_
      exact J0 T158 _ T121.heap X158 e158 N158 F122 F123 F134 Ex121 gk121 gc121 Vb BB _
    · refine own_go (B := (T121.setTop (mkF m 86 #[iv p0, iv p1, iv p2, iv p3, iv p4, iv p5, iv (0 : Int32), iv (3 : Int32), rv a1, rv a4, rv a9, rv a16, rv a25, rv a36, rv a105, .unset, .unset, .unset, .unset, .unset, .unset, .unset, .unset, .unset, .unset] [(.int (3 : Int32))]))) (fun t k => XS.iload X121.here hx rfl (hb hby at_84) rfl k) ?_
      have hc86 : (0 : Int32) < (3 : Int32) := (by decide)
      refine own_ifN X121 hx (hb hby at_86) (pn := 89) rfl hc86 ?_
      refine own_go (B := (T121.setTop (mkF m 91 #[iv p0, iv p1, iv p2, iv p3, iv p4, iv p5, iv (0 : Int32), iv (3 : Int32), rv a1, rv a4, rv a9, rv a16, rv a25, rv a36, rv a105, .unset, .unset, .unset, .unset, .unset, .unset, .unset, .unset, .unset, .unset] [(.ref a105)]))) (fun t k => XS.aload X121.here hx rfl (hb hby at_89) rfl rfl k) ?_
      refine own_go (B := (T121.setTop (mkF m 93 #[iv p0, iv p1, iv p2, iv p3, iv p4, iv p5, iv (0 : Int32), iv (3 : Int32), rv a1, rv a4, rv a9, rv a16, rv a25, rv a36, rv a105, .unset, .unset, .unset, .unset, .unset, .unset, .unset, .unset, .unset, .unset] [(.ref a1), (.ref a105)]))) (fun t k => XS.aload X121.here hx rfl (hb hby at_91) rfl rfl k) ?_
      obtain ⟨cq159, kq159, qa159, qb159, qc159⟩ := isOf hZ rfl Ex121
      obtain ⟨_, _, ⟨T159, L159, k159, n159⟩, -, X159, ⟨Lc159, hQ159, l159, y159, z159⟩, st159⟩ := X121.virtualBack hx (y := own_y9) (z := own_y9) hown (mvT hZ w_41) (mvT hZ w_42) (notFace_of_selects (args := #[]) (mvT hZ w_44)) (mvT hZ w_44) (mvT hZ w_43) (by decide) (backOf (W := 0) (own_kfull l Z a0 hw [] a105 a1 ar121 (0 : Int32) (0 : Int32) [] T121.heap n0 Ex121 gk121 gc121 Vb (own_lenL (n := 0) rfl (by decide)) (by decide)) hZ w_45 w_12 (by decide) (by decide)) qa159 qc159 (g := (mkF m 93 #[iv p0, iv p1, iv p2, iv p3, iv p4, iv p5, iv (0 : Int32), iv (3 : Int32), rv a1, rv a4, rv a9, rv a16, rv a25, rv a36, rv a105, .unset, .unset, .unset, .unset, .unset, .unset, .unset, .unset, .unset, .unset] [(.ref a1), (.ref a105)])) rfl (by rw [hml]; rfl) (Steps.refl _) (argsL := [(.ref a1)]) (rest := []) (lenOf own_pd8 rfl) rfl (by show 2 * 0 + _ ≤ _; exact own_b rfl) (hb hby at_93) (fun _ _ => ⟨rfl, rfl, (own_b rfl : 8 + 0 ≤ _), (own_b rfl : 14 + 0 ≤ _)⟩)
      dsimp only [Pt.U, Pt.locs, Pt.cells, Pt.slots] at X159 l159 y159 z159 st159 hQ159
      obtain ⟨rfl, Nq159, eq159⟩ := hQ159
      obtain ⟨L159, X159, N159⟩ := own_absC (K := 8) (K' := 14) X159 l159 y159 z159 N121 Nq159
      have e159 : T159.heap = T121.heap := eq159
      refine own_tr (B := (T159.setTop (mkF m 96 #[iv p0, iv p1, iv p2, iv p3, iv p4, iv p5, iv (0 : Int32), iv (3 : Int32), rv a1, rv a4, rv a9, rv a16, rv a25, rv a36, rv a105, .unset, .unset, .unset, .unset, .unset, .unset, .unset, .unset, .unset, .unset] []))) st159 ?_
      refine own_go (B := (T159.setTop (mkF m 98 #[iv p0, iv p1, iv p2, iv p3, iv p4, iv p5, iv (0 : Int32), iv (3 : Int32), rv a1, rv a4, rv a9, rv a16, rv a25, rv a36, rv a105, .unset, .unset, .unset, .unset, .unset, .unset, .unset, .unset, .unset, .unset] [(.int (3 : Int32))]))) (fun t k => XS.iload X159.here hx rfl (hb hby at_96) rfl k) ?_
      refine own_go (B := (T159.setTop (mkF m 99 #[iv p0, iv p1, iv p2, iv p3, iv p4, iv p5, iv (0 : Int32), iv (3 : Int32), rv a1, rv a4, rv a9, rv a16, rv a25, rv a36, rv a105, .unset, .unset, .unset, .unset, .unset, .unset, .unset, .unset, .unset, .unset] [(.int (1 : Int32)), (.int (3 : Int32))]))) (fun t k => own_iconst (v := (1 : Int32)) X159.here hx rfl (hb hby at_98) (by decide) k) ?_
      have hc99 : (1 : Int32) < (3 : Int32) := (by decide)
      refine own_icmpN X159 hx (hb hby at_99) (pn := 102) rfl hc99 ?_
      refine own_go (B := (T159.setTop (mkF m 104 #[iv p0, iv p1, iv p2, iv p3, iv p4, iv p5, iv (0 : Int32), iv (3 : Int32), rv a1, rv a4, rv a9, rv a16, rv a25, rv a36, rv a105, .unset, .unset, .unset, .unset, .unset, .unset, .unset, .unset, .unset, .unset] [(.ref a105)]))) (fun t k => XS.aload X159.here hx rfl (hb hby at_102) rfl rfl k) ?_
      refine own_go (B := (T159.setTop (mkF m 106 #[iv p0, iv p1, iv p2, iv p3, iv p4, iv p5, iv (0 : Int32), iv (3 : Int32), rv a1, rv a4, rv a9, rv a16, rv a25, rv a36, rv a105, .unset, .unset, .unset, .unset, .unset, .unset, .unset, .unset, .unset, .unset] [(.ref a4), (.ref a105)]))) (fun t k => XS.aload X159.here hx rfl (hb hby at_104) rfl rfl k) ?_
      obtain ⟨cq160, kq160, qa160, qb160, qc160⟩ := isOf hZ e159 Ex121
      obtain ⟨_, _, ⟨T160, L160, k160, n160⟩, -, X160, ⟨Lc160, hQ160, l160, y160, z160⟩, st160⟩ := X159.virtualBack hx (y := own_y9) (z := own_y9) hown (mvT hZ w_41) (mvT hZ w_42) (notFace_of_selects (args := #[]) (mvT hZ w_44)) (mvT hZ w_44) (mvT hZ w_43) (by decide) (backOf (W := 0) (own_kfull l Z a0 hw [] a105 a4 ar121 (0 : Int32) (0 : Int32) [] T121.heap n0 Ex121 gk121 gc121 Vb (own_lenL (n := 0) rfl (by decide)) (by decide)) hZ w_45 w_12 (by decide) (by decide)) qa160 qc160 (g := (mkF m 106 #[iv p0, iv p1, iv p2, iv p3, iv p4, iv p5, iv (0 : Int32), iv (3 : Int32), rv a1, rv a4, rv a9, rv a16, rv a25, rv a36, rv a105, .unset, .unset, .unset, .unset, .unset, .unset, .unset, .unset, .unset, .unset] [(.ref a4), (.ref a105)])) rfl (by rw [hml]; rfl) (Steps.refl _) (argsL := [(.ref a4)]) (rest := []) (lenOf own_pd8 rfl) rfl (by show 2 * 0 + _ ≤ _; exact own_b rfl) (hb hby at_106) (fun _ _ => ⟨rfl, e159, (own_b rfl : 8 + 0 ≤ _), (own_b rfl : 14 + 0 ≤ _)⟩)
      dsimp only [Pt.U, Pt.locs, Pt.cells, Pt.slots] at X160 l160 y160 z160 st160 hQ160
      obtain ⟨rfl, Nq160, eq160⟩ := hQ160
      obtain ⟨L160, X160, N160⟩ := own_absC (K := 8) (K' := 14) X160 l160 y160 z160 N159 Nq160
      have e160 : T160.heap = T121.heap := eq160
      refine own_tr (B := (T160.setTop (mkF m 109 #[iv p0, iv p1, iv p2, iv p3, iv p4, iv p5, iv (0 : Int32), iv (3 : Int32), rv a1, rv a4, rv a9, rv a16, rv a25, rv a36, rv a105, .unset, .unset, .unset, .unset, .unset, .unset, .unset, .unset, .unset, .unset] []))) st160 ?_
      refine own_go (B := (T160.setTop (mkF m 111 #[iv p0, iv p1, iv p2, iv p3, iv p4, iv p5, iv (0 : Int32), iv (3 : Int32), rv a1, rv a4, rv a9, rv a16, rv a25, rv a36, rv a105, .unset, .unset, .unset, .unset, .unset, .unset, .unset, .unset, .unset, .unset] [(.int (3 : Int32))]))) (fun t k => XS.iload X160.here hx rfl (hb hby at_109) rfl k) ?_
      refine own_go (B := (T160.setTop (mkF m 112 #[iv p0, iv p1, iv p2, iv p3, iv p4, iv p5, iv (0 : Int32), iv (3 : Int32), rv a1, rv a4, rv a9, rv a16, rv a25, rv a36, rv a105, .unset, .unset, .unset, .unset, .unset, .unset, .unset, .unset, .unset, .unset] [(.int (2 : Int32)), (.int (3 : Int32))]))) (fun t k => own_iconst (v := (2 : Int32)) X160.here hx rfl (hb hby at_111) (by decide) k) ?_
      have hc112 : (2 : Int32) < (3 : Int32) := (by decide)
      refine own_icmpN X160 hx (hb hby at_112) (pn := 115) rfl hc112 ?_
      refine own_go (B := (T160.setTop (mkF m 117 #[iv p0, iv p1, iv p2, iv p3, iv p4, iv p5, iv (0 : Int32), iv (3 : Int32), rv a1, rv a4, rv a9, rv a16, rv a25, rv a36, rv a105, .unset, .unset, .unset, .unset, .unset, .unset, .unset, .unset, .unset, .unset] [(.ref a105)]))) (fun t k => XS.aload X160.here hx rfl (hb hby at_115) rfl rfl k) ?_
      refine own_go (B := (T160.setTop (mkF m 119 #[iv p0, iv p1, iv p2, iv p3, iv p4, iv p5, iv (0 : Int32), iv (3 : Int32), rv a1, rv a4, rv a9, rv a16, rv a25, rv a36, rv a105, .unset, .unset, .unset, .unset, .unset, .unset, .unset, .unset, .unset, .unset] [(.ref a9), (.ref a105)]))) (fun t k => XS.aload X160.here hx rfl (hb hby at_117) rfl rfl k) ?_
      obtain ⟨cq161, kq161, qa161, qb161, qc161⟩ := isOf hZ e160 Ex121
      obtain ⟨_, _, ⟨T161, L161, k161, n161⟩, -, X161, ⟨Lc161, hQ161, l161, y161, z161⟩, st161⟩ := X160.virtualBack hx (y := own_y9) (z := own_y9) hown (mvT hZ w_41) (mvT hZ w_42) (notFace_of_selects (args := #[]) (mvT hZ w_44)) (mvT hZ w_44) (mvT hZ w_43) (by decide) (backOf (W := 0) (own_kfull l Z a0 hw [] a105 a9 ar121 (0 : Int32) (0 : Int32) [] T121.heap n0 Ex121 gk121 gc121 Vb (own_lenL (n := 0) rfl (by decide)) (by decide)) hZ w_45 w_12 (by decide) (by decide)) qa161 qc161 (g := (mkF m 119 #[iv p0, iv p1, iv p2, iv p3, iv p4, iv p5, iv (0 : Int32), iv (3 : Int32), rv a1, rv a4, rv a9, rv a16, rv a25, rv a36, rv a105, .unset, .unset, .unset, .unset, .unset, .unset, .unset, .unset, .unset, .unset] [(.ref a9), (.ref a105)])) rfl (by rw [hml]; rfl) (Steps.refl _) (argsL := [(.ref a9)]) (rest := []) (lenOf own_pd8 rfl) rfl (by show 2 * 0 + _ ≤ _; exact own_b rfl) (hb hby at_119) (fun _ _ => ⟨rfl, e160, (own_b rfl : 8 + 0 ≤ _), (own_b rfl : 14 + 0 ≤ _)⟩)
      dsimp only [Pt.U, Pt.locs, Pt.cells, Pt.slots] at X161 l161 y161 z161 st161 hQ161
      obtain ⟨rfl, Nq161, eq161⟩ := hQ161
      obtain ⟨L161, X161, N161⟩ := own_absC (K := 8) (K' := 14) X161 l161 y161 z161 N160 Nq161
      have e161 : T161.heap = T121.heap := eq161
      refine own_tr (B := (T161.setTop (mkF m 122 #[iv p0, iv p1, iv p2, iv p3, iv p4, iv p5, iv (0 : Int32), iv (3 : Int32), rv a1, rv a4, rv a9, rv a16, rv a25, rv a36, rv a105, .unset, .unset, .unset, .unset, .unset, .unset, .unset, .unset, .unset, .unset] []))) st161 ?_
      refine own_go (B := (T161.setTop (mkF m 124 #[iv p0, iv p1, iv p2, iv p3, iv p4, iv p5, iv (0 : Int32), iv (3 : Int32), rv a1, rv a4, rv a9, rv a16, rv a25, rv a36, rv a105, .unset, .unset, .unset, .unset, .unset, .unset, .unset, .unset, .unset, .unset] [(.int (3 : Int32))]))) (fun t k => XS.iload X161.here hx rfl (hb hby at_122) rfl k) ?_
      refine own_go (B := (T161.setTop (mkF m 125 #[iv p0, iv p1, iv p2, iv p3, iv p4, iv p5, iv (0 : Int32), iv (3 : Int32), rv a1, rv a4, rv a9, rv a16, rv a25, rv a36, rv a105, .unset, .unset, .unset, .unset, .unset, .unset, .unset, .unset, .unset, .unset] [(.int (3 : Int32)), (.int (3 : Int32))]))) (fun t k => own_iconst (v := (3 : Int32)) X161.here hx rfl (hb hby at_124) (by decide) k) ?_
      have hc125 : ¬ (3 : Int32) < (3 : Int32) := (by decide)
      refine own_icmpY X161 hx (hb hby at_125) (pc' := 135) (by decide) (by decide) hc125 ?_
      refine own_go (B := (T161.setTop (mkF m 137 #[iv p0, iv p1, iv p2, iv p3, iv p4, iv p5, iv (0 : Int32), iv (3 : Int32), rv a1, rv a4, rv a9, rv a16, rv a25, rv a36, rv a105, .unset, .unset, .unset, .unset, .unset, .unset, .unset, .unset, .unset, .unset] [(.int (3 : Int32))]))) (fun t k => XS.iload X161.here hx rfl (hb hby at_135) rfl k) ?_
      refine own_go (B := (T161.setTop (mkF m 139 #[iv p0, iv p1, iv p2, iv p3, iv p4, iv p5, iv (0 : Int32), iv (3 : Int32), rv a1, rv a4, rv a9, rv a16, rv a25, rv a36, rv a105, .unset, .unset, .unset, .unset, .unset, .unset, .unset, .unset, .unset, .unset] [(.int (0 : Int32)), (.int (3 : Int32))]))) (fun t k => XS.iload X161.here hx rfl (hb hby at_137) rfl k) ?_
      obtain ⟨_, _, ⟨T162, L162, k162, n162⟩, -, X162, ⟨Lc162, hQ162, l162, y162, z162⟩, st162⟩ := Jvm.LawKit.callS X161 hx (y := own_y10) hown (mvT hZ w_23) (mvT hZ w_24) (mvT hZ w_25) (mvT hZ w_26) (by decide) (backOf (W := 0) (own_mmin l Z a0 hw [] (3 : Int32) (0 : Int32) T121.heap n0) hZ w_26 w_25 (by decide) (by decide)) (g := (mkF m 139 #[iv p0, iv p1, iv p2, iv p3, iv p4, iv p5, iv (0 : Int32), iv (3 : Int32), rv a1, rv a4, rv a9, rv a16, rv a25, rv a36, rv a105, .unset, .unset, .unset, .unset, .unset, .unset, .unset, .unset, .unset, .unset] [(.int (0 : Int32)), (.int (3 : Int32))])) rfl (by rw [hml]; rfl) (argsL := [(.int (3 : Int32)), (.int (0 : Int32))]) (rest := []) (lenOf own_pd7 rfl) rfl (by show 2 * 0 + _ ≤ _; exact own_b rfl) (hb hby at_139) (fun _ _ => ⟨rfl, e161, (own_b rfl : 8 + 0 ≤ _), (own_b rfl : 14 + 0 ≤ _)⟩)
      dsimp only [Pt.U, Pt.locs, Pt.cells, Pt.slots] at X162 l162 y162 z162 st162 hQ162
      obtain ⟨rfl, Nq162, eq162⟩ := hQ162
      obtain ⟨L162, X162, N162⟩ := own_absC (K := 8) (K' := 14) X162 l162 y162 z162 N161 Nq162
      have e162 : T162.heap = T121.heap := eq162
      refine own_go (B := (T162.setTop (mkF m 142 #[iv p0, iv p1, iv p2, iv p3, iv p4, iv p5, iv (0 : Int32), iv (3 : Int32), rv a1, rv a4, rv a9, rv a16, rv a25, rv a36, rv a105, .unset, .unset, .unset, .unset, .unset, .unset, .unset, .unset, .unset, .unset] [(.int (own_min (3 : Int32) (0 : Int32)))]))) st162 ?_
      rw [show own_min (3 : Int32) (0 : Int32) = (0 : Int32) from by decide]
      refine own_go (B := (T162.setTop (mkF m 144 #[iv p0, iv p1, iv p2, iv p3, iv p4, iv p5, iv (0 : Int32), iv (3 : Int32), rv a1, rv a4, rv a9, rv a16, rv a25, rv a36, rv a105, iv (0 : Int32), .unset, .unset, .unset, .unset, .unset, .unset, .unset, .unset, .unset] []))) (fun t k => XS.istore X162.here hx rfl (hb hby at_142) rfl (l' := #[iv p0, iv p1, iv p2, iv p3, iv p4, iv p5, iv (0 : Int32), iv (3 : Int32), rv a1, rv a4, rv a9, rv a16, rv a25, rv a36, rv a105, iv (0 : Int32), .unset, .unset, .unset, .unset, .unset, .unset, .unset, .unset, .unset]) rfl k) ?_
      exact J0 T162 _ T121.heap X162 e162 N162 F122 F123 F134 Ex121 gk121 gc121 Vb BB _
    · refine own_go (B := (T121.setTop (mkF m 86 #[iv p0, iv p1, iv p2, iv p3, iv p4, iv p5, iv (0 : Int32), iv (4 : Int32), rv a1, rv a4, rv a9, rv a16, rv a25, rv a36, rv a105, .unset, .unset, .unset, .unset, .unset, .unset, .unset, .unset, .unset, .unset] [(.int (4 : Int32))]))) (fun t k => XS.iload X121.here hx rfl (hb hby at_84) rfl k) ?_
      have hc86 : (0 : Int32) < (4 : Int32) := (by decide)
      refine own_ifN X121 hx (hb hby at_86) (pn := 89) rfl hc86 ?_
      refine own_go (B := (T121.setTop (mkF m 91 #[iv p0, iv p1, iv p2, iv p3, iv p4, iv p5, iv (0 : Int32), iv (4 : Int32), rv a1, rv a4, rv a9, rv a16, rv a25, rv a36, rv a105, .unset, .unset, .unset, .unset, .unset, .unset, .unset, .unset, .unset, .unset] [(.ref a105)]))) (fun t k => XS.aload X121.here hx rfl (hb hby at_89) rfl rfl k) ?_
      refine own_go (B := (T121.setTop (mkF m 93 #[iv p0, iv p1, iv p2, iv p3, iv p4, iv p5, iv (0 : Int32), iv (4 : Int32), rv a1, rv a4, rv a9, rv a16, rv a25, rv a36, rv a105, .unset, .unset, .unset, .unset, .unset, .unset, .unset, .unset, .unset, .unset] [(.ref a1), (.ref a105)]))) (fun t k => XS.aload X121.here hx rfl (hb hby at_91) rfl rfl k) ?_
      obtain ⟨cq163, kq163, qa163, qb163, qc163⟩ := isOf hZ rfl Ex121
      obtain ⟨_, _, ⟨T163, L163, k163, n163⟩, -, X163, ⟨Lc163, hQ163, l163, y163, z163⟩, st163⟩ := X121.virtualBack hx (y := own_y9) (z := own_y9) hown (mvT hZ w_41) (mvT hZ w_42) (notFace_of_selects (args := #[]) (mvT hZ w_44)) (mvT hZ w_44) (mvT hZ w_43) (by decide) (backOf (W := 0) (own_kfull l Z a0 hw [] a105 a1 ar121 (0 : Int32) (0 : Int32) [] T121.heap n0 Ex121 gk121 gc121 Vb (own_lenL (n := 0) rfl (by decide)) (by decide)) hZ w_45 w_12 (by decide) (by decide)) qa163 qc163 (g := (mkF m 93 #[iv p0, iv p1, iv p2, iv p3, iv p4, iv p5, iv (0 : Int32), iv (4 : Int32), rv a1, rv a4, rv a9, rv a16, rv a25, rv a36, rv a105, .unset, .unset, .unset, .unset, .unset, .unset, .unset, .unset, .unset, .unset] [(.ref a1), (.ref a105)])) rfl (by rw [hml]; rfl) (Steps.refl _) (argsL := [(.ref a1)]) (rest := []) (lenOf own_pd8 rfl) rfl (by show 2 * 0 + _ ≤ _; exact own_b rfl) (hb hby at_93) (fun _ _ => ⟨rfl, rfl, (own_b rfl : 8 + 0 ≤ _), (own_b rfl : 14 + 0 ≤ _)⟩)
      dsimp only [Pt.U, Pt.locs, Pt.cells, Pt.slots] at X163 l163 y163 z163 st163 hQ163
      obtain ⟨rfl, Nq163, eq163⟩ := hQ163
      obtain ⟨L163, X163, N163⟩ := own_absC (K := 8) (K' := 14) X163 l163 y163 z163 N121 Nq163
      have e163 : T163.heap = T121.heap := eq163
      refine own_tr (B := (T163.setTop (mkF m 96 #[iv p0, iv p1, iv p2, iv p3, iv p4, iv p5, iv (0 : Int32), iv (4 : Int32), rv a1, rv a4, rv a9, rv a16, rv a25, rv a36, rv a105, .unset, .unset, .unset, .unset, .unset, .unset, .unset, .unset, .unset, .unset] []))) st163 ?_
      refine own_go (B := (T163.setTop (mkF m 98 #[iv p0, iv p1, iv p2, iv p3, iv p4, iv p5, iv (0 : Int32), iv (4 : Int32), rv a1, rv a4, rv a9, rv a16, rv a25, rv a36, rv a105, .unset, .unset, .unset, .unset, .unset, .unset, .unset, .unset, .unset, .unset] [(.int (4 : Int32))]))) (fun t k => XS.iload X163.here hx rfl (hb hby at_96) rfl k) ?_
      refine own_go (B := (T163.setTop (mkF m 99 #[iv p0, iv p1, iv p2, iv p3, iv p4, iv p5, iv (0 : Int32), iv (4 : Int32), rv a1, rv a4, rv a9, rv a16, rv a25, rv a36, rv a105, .unset, .unset, .unset, .unset, .unset, .unset, .unset, .unset, .unset, .unset] [(.int (1 : Int32)), (.int (4 : Int32))]))) (fun t k => own_iconst (v := (1 : Int32)) X163.here hx rfl (hb hby at_98) (by decide) k) ?_
      have hc99 : (1 : Int32) < (4 : Int32) := (by decide)
      refine own_icmpN X163 hx (hb hby at_99) (pn := 102) rfl hc99 ?_
      refine own_go (B := (T163.setTop (mkF m 104 #[iv p0, iv p1, iv p2, iv p3, iv p4, iv p5, iv (0 : Int32), iv (4 : Int32), rv a1, rv a4, rv a9, rv a16, rv a25, rv a36, rv a105, .unset, .unset, .unset, .unset, .unset, .unset, .unset, .unset, .unset, .unset] [(.ref a105)]))) (fun t k => XS.aload X163.here hx rfl (hb hby at_102) rfl rfl k) ?_
      refine own_go (B := (T163.setTop (mkF m 106 #[iv p0, iv p1, iv p2, iv p3, iv p4, iv p5, iv (0 : Int32), iv (4 : Int32), rv a1, rv a4, rv a9, rv a16, rv a25, rv a36, rv a105, .unset, .unset, .unset, .unset, .unset, .unset, .unset, .unset, .unset, .unset] [(.ref a4), (.ref a105)]))) (fun t k => XS.aload X163.here hx rfl (hb hby at_104) rfl rfl k) ?_
      obtain ⟨cq164, kq164, qa164, qb164, qc164⟩ := isOf hZ e163 Ex121
      obtain ⟨_, _, ⟨T164, L164, k164, n164⟩, -, X164, ⟨Lc164, hQ164, l164, y164, z164⟩, st164⟩ := X163.virtualBack hx (y := own_y9) (z := own_y9) hown (mvT hZ w_41) (mvT hZ w_42) (notFace_of_selects (args := #[]) (mvT hZ w_44)) (mvT hZ w_44) (mvT hZ w_43) (by decide) (backOf (W := 0) (own_kfull l Z a0 hw [] a105 a4 ar121 (0 : Int32) (0 : Int32) [] T121.heap n0 Ex121 gk121 gc121 Vb (own_lenL (n := 0) rfl (by decide)) (by decide)) hZ w_45 w_12 (by decide) (by decide)) qa164 qc164 (g := (mkF m 106 #[iv p0, iv p1, iv p2, iv p3, iv p4, iv p5, iv (0 : Int32), iv (4 : Int32), rv a1, rv a4, rv a9, rv a16, rv a25, rv a36, rv a105, .unset, .unset, .unset, .unset, .unset, .unset, .unset, .unset, .unset, .unset] [(.ref a4), (.ref a105)])) rfl (by rw [hml]; rfl) (Steps.refl _) (argsL := [(.ref a4)]) (rest := []) (lenOf own_pd8 rfl) rfl (by show 2 * 0 + _ ≤ _; exact own_b rfl) (hb hby at_106) (fun _ _ => ⟨rfl, e163, (own_b rfl : 8 + 0 ≤ _), (own_b rfl : 14 + 0 ≤ _)⟩)
      dsimp only [Pt.U, Pt.locs, Pt.cells, Pt.slots] at X164 l164 y164 z164 st164 hQ164
      obtain ⟨rfl, Nq164, eq164⟩ := hQ164
      obtain ⟨L164, X164, N164⟩ := own_absC (K := 8) (K' := 14) X164 l164 y164 z164 N163 Nq164
      have e164 : T164.heap = T121.heap := eq164
      refine own_tr (B := (T164.setTop (mkF m 109 #[iv p0, iv p1, iv p2, iv p3, iv p4, iv p5, iv (0 : Int32), iv (4 : Int32), rv a1, rv a4, rv a9, rv a16, rv a25, rv a36, rv a105, .unset, .unset, .unset, .unset, .unset, .unset, .unset, .unset, .unset, .unset] []))) st164 ?_
      refine own_go (B := (T164.setTop (mkF m 111 #[iv p0, iv p1, iv p2, iv p3, iv p4, iv p5, iv (0 : Int32), iv (4 : Int32), rv a1, rv a4, rv a9, rv a16, rv a25, rv a36, rv a105, .unset, .unset, .unset, .unset, .unset, .unset, .unset, .unset, .unset, .unset] [(.int (4 : Int32))]))) (fun t k => XS.iload X164.here hx rfl (hb hby at_109) rfl k) ?_
      refine own_go (B := (T164.setTop (mkF m 112 #[iv p0, iv p1, iv p2, iv p3, iv p4, iv p5, iv (0 : Int32), iv (4 : Int32), rv a1, rv a4, rv a9, rv a16, rv a25, rv a36, rv a105, .unset, .unset, .unset, .unset, .unset, .unset, .unset, .unset, .unset, .unset] [(.int (2 : Int32)), (.int (4 : Int32))]))) (fun t k => own_iconst (v := (2 : Int32)) X164.here hx rfl (hb hby at_111) (by decide) k) ?_
      have hc112 : (2 : Int32) < (4 : Int32) := (by decide)
      refine own_icmpN X164 hx (hb hby at_112) (pn := 115) rfl hc112 ?_
      refine own_go (B := (T164.setTop (mkF m 117 #[iv p0, iv p1, iv p2, iv p3, iv p4, iv p5, iv (0 : Int32), iv (4 : Int32), rv a1, rv a4, rv a9, rv a16, rv a25, rv a36, rv a105, .unset, .unset, .unset, .unset, .unset, .unset, .unset, .unset, .unset, .unset] [(.ref a105)]))) (fun t k => XS.aload X164.here hx rfl (hb hby at_115) rfl rfl k) ?_
      refine own_go (B := (T164.setTop (mkF m 119 #[iv p0, iv p1, iv p2, iv p3, iv p4, iv p5, iv (0 : Int32), iv (4 : Int32), rv a1, rv a4, rv a9, rv a16, rv a25, rv a36, rv a105, .unset, .unset, .unset, .unset, .unset, .unset, .unset, .unset, .unset, .unset] [(.ref a9), (.ref a105)]))) (fun t k => XS.aload X164.here hx rfl (hb hby at_117) rfl rfl k) ?_
      obtain ⟨cq165, kq165, qa165, qb165, qc165⟩ := isOf hZ e164 Ex121
      obtain ⟨_, _, ⟨T165, L165, k165, n165⟩, -, X165, ⟨Lc165, hQ165, l165, y165, z165⟩, st165⟩ := X164.virtualBack hx (y := own_y9) (z := own_y9) hown (mvT hZ w_41) (mvT hZ w_42) (notFace_of_selects (args := #[]) (mvT hZ w_44)) (mvT hZ w_44) (mvT hZ w_43) (by decide) (backOf (W := 0) (own_kfull l Z a0 hw [] a105 a9 ar121 (0 : Int32) (0 : Int32) [] T121.heap n0 Ex121 gk121 gc121 Vb (own_lenL (n := 0) rfl (by decide)) (by decide)) hZ w_45 w_12 (by decide) (by decide)) qa165 qc165 (g := (mkF m 119 #[iv p0, iv p1, iv p2, iv p3, iv p4, iv p5, iv (0 : Int32), iv (4 : Int32), rv a1, rv a4, rv a9, rv a16, rv a25, rv a36, rv a105, .unset, .unset, .unset, .unset, .unset, .unset, .unset, .unset, .unset, .unset] [(.ref a9), (.ref a105)])) rfl (by rw [hml]; rfl) (Steps.refl _) (argsL := [(.ref a9)]) (rest := []) (lenOf own_pd8 rfl) rfl (by show 2 * 0 + _ ≤ _; exact own_b rfl) (hb hby at_119) (fun _ _ => ⟨rfl, e164, (own_b rfl : 8 + 0 ≤ _), (own_b rfl : 14 + 0 ≤ _)⟩)
      dsimp only [Pt.U, Pt.locs, Pt.cells, Pt.slots] at X165 l165 y165 z165 st165 hQ165
      obtain ⟨rfl, Nq165, eq165⟩ := hQ165
      obtain ⟨L165, X165, N165⟩ := own_absC (K := 8) (K' := 14) X165 l165 y165 z165 N164 Nq165
      have e165 : T165.heap = T121.heap := eq165
      refine own_tr (B := (T165.setTop (mkF m 122 #[iv p0, iv p1, iv p2, iv p3, iv p4, iv p5, iv (0 : Int32), iv (4 : Int32), rv a1, rv a4, rv a9, rv a16, rv a25, rv a36, rv a105, .unset, .unset, .unset, .unset, .unset, .unset, .unset, .unset, .unset, .unset] []))) st165 ?_
      refine own_go (B := (T165.setTop (mkF m 124 #[iv p0, iv p1, iv p2, iv p3, iv p4, iv p5, iv (0 : Int32), iv (4 : Int32), rv a1, rv a4, rv a9, rv a16, rv a25, rv a36, rv a105, .unset, .unset, .unset, .unset, .unset, .unset, .unset, .unset, .unset, .unset] [(.int (4 : Int32))]))) (fun t k => XS.iload X165.here hx rfl (hb hby at_122) rfl k) ?_
      refine own_go (B := (T165.setTop (mkF m 125 #[iv p0, iv p1, iv p2, iv p3, iv p4, iv p5, iv (0 : Int32), iv (4 : Int32), rv a1, rv a4, rv a9, rv a16, rv a25, rv a36, rv a105, .unset, .unset, .unset, .unset, .unset, .unset, .unset, .unset, .unset, .unset] [(.int (3 : Int32)), (.int (4 : Int32))]))) (fun t k => own_iconst (v := (3 : Int32)) X165.here hx rfl (hb hby at_124) (by decide) k) ?_
      have hc125 : (3 : Int32) < (4 : Int32) := (by decide)
      refine own_icmpN X165 hx (hb hby at_125) (pn := 128) rfl hc125 ?_
      refine own_go (B := (T165.setTop (mkF m 130 #[iv p0, iv p1, iv p2, iv p3, iv p4, iv p5, iv (0 : Int32), iv (4 : Int32), rv a1, rv a4, rv a9, rv a16, rv a25, rv a36, rv a105, .unset, .unset, .unset, .unset, .unset, .unset, .unset, .unset, .unset, .unset] [(.ref a105)]))) (fun t k => XS.aload X165.here hx rfl (hb hby at_128) rfl rfl k) ?_
      refine own_go (B := (T165.setTop (mkF m 132 #[iv p0, iv p1, iv p2, iv p3, iv p4, iv p5, iv (0 : Int32), iv (4 : Int32), rv a1, rv a4, rv a9, rv a16, rv a25, rv a36, rv a105, .unset, .unset, .unset, .unset, .unset, .unset, .unset, .unset, .unset, .unset] [(.ref a16), (.ref a105)]))) (fun t k => XS.aload X165.here hx rfl (hb hby at_130) rfl rfl k) ?_
      obtain ⟨cq166, kq166, qa166, qb166, qc166⟩ := isOf hZ e165 Ex121
      obtain ⟨_, _, ⟨T166, L166, k166, n166⟩, -, X166, ⟨Lc166, hQ166, l166, y166, z166⟩, st166⟩ := X165.virtualBack hx (y := own_y9) (z := own_y9) hown (mvT hZ w_41) (mvT hZ w_42) (notFace_of_selects (args := #[]) (mvT hZ w_44)) (mvT hZ w_44) (mvT hZ w_43) (by decide) (backOf (W := 0) (own_kfull l Z a0 hw [] a105 a16 ar121 (0 : Int32) (0 : Int32) [] T121.heap n0 Ex121 gk121 gc121 Vb (own_lenL (n := 0) rfl (by decide)) (by decide)) hZ w_45 w_12 (by decide) (by decide)) qa166 qc166 (g := (mkF m 132 #[iv p0, iv p1, iv p2, iv p3, iv p4, iv p5, iv (0 : Int32), iv (4 : Int32), rv a1, rv a4, rv a9, rv a16, rv a25, rv a36, rv a105, .unset, .unset, .unset, .unset, .unset, .unset, .unset, .unset, .unset, .unset] [(.ref a16), (.ref a105)])) rfl (by rw [hml]; rfl) (Steps.refl _) (argsL := [(.ref a16)]) (rest := []) (lenOf own_pd8 rfl) rfl (by show 2 * 0 + _ ≤ _; exact own_b rfl) (hb hby at_132) (fun _ _ => ⟨rfl, e165, (own_b rfl : 8 + 0 ≤ _), (own_b rfl : 14 + 0 ≤ _)⟩)
      dsimp only [Pt.U, Pt.locs, Pt.cells, Pt.slots] at X166 l166 y166 z166 st166 hQ166
      obtain ⟨rfl, Nq166, eq166⟩ := hQ166
      obtain ⟨L166, X166, N166⟩ := own_absC (K := 8) (K' := 14) X166 l166 y166 z166 N165 Nq166
      have e166 : T166.heap = T121.heap := eq166
      refine own_tr (B := (T166.setTop (mkF m 135 #[iv p0, iv p1, iv p2, iv p3, iv p4, iv p5, iv (0 : Int32), iv (4 : Int32), rv a1, rv a4, rv a9, rv a16, rv a25, rv a36, rv a105, .unset, .unset, .unset, .unset, .unset, .unset, .unset, .unset, .unset, .unset] []))) st166 ?_
      refine own_go (B := (T166.setTop (mkF m 137 #[iv p0, iv p1, iv p2, iv p3, iv p4, iv p5, iv (0 : Int32), iv (4 : Int32), rv a1, rv a4, rv a9, rv a16, rv a25, rv a36, rv a105, .unset, .unset, .unset, .unset, .unset, .unset, .unset, .unset, .unset, .unset] [(.int (4 : Int32))]))) (fun t k => XS.iload X166.here hx rfl (hb hby at_135) rfl k) ?_
      refine own_go (B := (T166.setTop (mkF m 139 #[iv p0, iv p1, iv p2, iv p3, iv p4, iv p5, iv (0 : Int32), iv (4 : Int32), rv a1, rv a4, rv a9, rv a16, rv a25, rv a36, rv a105, .unset, .unset, .unset, .unset, .unset, .unset, .unset, .unset, .unset, .unset] [(.int (0 : Int32)), (.int (4 : Int32))]))) (fun t k => XS.iload X166.here hx rfl (hb hby at_137) rfl k) ?_
      obtain ⟨_, _, ⟨T167, L167, k167, n167⟩, -, X167, ⟨Lc167, hQ167, l167, y167, z167⟩, st167⟩ := Jvm.LawKit.callS X166 hx (y := own_y10) hown (mvT hZ w_23) (mvT hZ w_24) (mvT hZ w_25) (mvT hZ w_26) (by decide) (backOf (W := 0) (own_mmin l Z a0 hw [] (4 : Int32) (0 : Int32) T121.heap n0) hZ w_26 w_25 (by decide) (by decide)) (g := (mkF m 139 #[iv p0, iv p1, iv p2, iv p3, iv p4, iv p5, iv (0 : Int32), iv (4 : Int32), rv a1, rv a4, rv a9, rv a16, rv a25, rv a36, rv a105, .unset, .unset, .unset, .unset, .unset, .unset, .unset, .unset, .unset, .unset] [(.int (0 : Int32)), (.int (4 : Int32))])) rfl (by rw [hml]; rfl) (argsL := [(.int (4 : Int32)), (.int (0 : Int32))]) (rest := []) (lenOf own_pd7 rfl) rfl (by show 2 * 0 + _ ≤ _; exact own_b rfl) (hb hby at_139) (fun _ _ => ⟨rfl, e166, (own_b rfl : 8 + 0 ≤ _), (own_b rfl : 14 + 0 ≤ _)⟩)
      dsimp only [Pt.U, Pt.locs, Pt.cells, Pt.slots] at X167 l167 y167 z167 st167 hQ167
      obtain ⟨rfl, Nq167, eq167⟩ := hQ167
      obtain ⟨L167, X167, N167⟩ := own_absC (K := 8) (K' := 14) X167 l167 y167 z167 N166 Nq167
      have e167 : T167.heap = T121.heap := eq167
      refine own_go (B := (T167.setTop (mkF m 142 #[iv p0, iv p1, iv p2, iv p3, iv p4, iv p5, iv (0 : Int32), iv (4 : Int32), rv a1, rv a4, rv a9, rv a16, rv a25, rv a36, rv a105, .unset, .unset, .unset, .unset, .unset, .unset, .unset, .unset, .unset, .unset] [(.int (own_min (4 : Int32) (0 : Int32)))]))) st167 ?_
      rw [show own_min (4 : Int32) (0 : Int32) = (0 : Int32) from by decide]
      refine own_go (B := (T167.setTop (mkF m 144 #[iv p0, iv p1, iv p2, iv p3, iv p4, iv p5, iv (0 : Int32), iv (4 : Int32), rv a1, rv a4, rv a9, rv a16, rv a25, rv a36, rv a105, iv (0 : Int32), .unset, .unset, .unset, .unset, .unset, .unset, .unset, .unset, .unset] []))) (fun t k => XS.istore X167.here hx rfl (hb hby at_142) rfl (l' := #[iv p0, iv p1, iv p2, iv p3, iv p4, iv p5, iv (0 : Int32), iv (4 : Int32), rv a1, rv a4, rv a9, rv a16, rv a25, rv a36, rv a105, iv (0 : Int32), .unset, .unset, .unset, .unset, .unset, .unset, .unset, .unset, .unset]) rfl k) ?_
      exact J0 T167 _ T121.heap X167 e167 N167 F122 F123 F134 Ex121 gk121 gc121 Vb BB _
  · have Vb : own_Ao Z T121.heap ar121 "java/lang/Object" [.null] := by have q := gv121; rw [show (1 : Int32).toNatClampNeg = 1 from by decide] at q; exact q
    have J0 : ∀ (T168 : State) (L168 : List Loc) (h168 : Heap) (X168 : Stand p l e room_1 s m #[(.int p0), (.int p1), (.int p2), (.int p3), (.int p4), (.int p5)] below meth c T168 L168 8 14) (e168 : T168.heap = h168) (N168 : Fr n0 L168) (F168_0 : n0 ≤ h168.size) (F168_1 : Keep h0 h168 []) (F168_2 : own_Ao Z h168 a36 "java/lang/Integer" [(.ref a1), (.ref a4), (.ref a9), (.ref a16)]) (F168_3 : Exa Z h168 a105 "com/example/pagemason/pagemason/core/Spares") (F168_4 : Fld Z h168 a105 "com/example/pagemason/pagemason/core/Spares" "kept" "[Ljava/lang/Object;" (.ref ar121)) (F168_5 : Fld Z h168 a105 "com/example/pagemason/pagemason/core/Spares" "count" "I" (.int (0 : Int32))) (F168_6 : own_Ao Z h168 ar121 "java/lang/Object" [.null]) (F168_7 : own_Bn Z h168 [(a1, p1), (a4, p2), (a9, p3), (a16, p4), (a25, p5)]) (kk : Int32), own_G p.tables e below (fun o U' => ∃ v L, o = .returned v ∧ (own_law_Q Z p0 p1 p2 p3 p4 p5 ca h0 n0) v U'.heap L ∧ FrameEnd s o U' L 24 128) (T168.setTop (mkF m 144 #[iv p0, iv p1, iv p2, iv p3, iv p4, iv p5, iv (1 : Int32), iv kk, rv a1, rv a4, rv a9, rv a16, rv a25, rv a36, rv a105, iv (0 : Int32), .unset, .unset, .unset, .unset, .unset, .unset, .unset, .unset, .unset] [])) := by
      intro T168 L168 h168 X168 e168 N168 F168_0 F168_1 F168_2 F168_3 F168_4 F168_5 F168_6 F168_7 kk
      refine own_go (B := (T168.setTop (mkF m 146 #[iv p0, iv p1, iv p2, iv p3, iv p4, iv p5, iv (1 : Int32), iv kk, rv a1, rv a4, rv a9, rv a16, rv a25, rv a36, rv a105, iv (0 : Int32), .unset, .unset, .unset, .unset, .unset, .unset, .unset, .unset, .unset] [(.ref a105)]))) (fun t k => XS.aload X168.here hx rfl (hb hby at_144) rfl rfl k) ?_
      obtain ⟨cq169, kq169, qa169, qb169, qc169⟩ := isOf hZ e168 F168_3
      obtain ⟨_, _, ⟨T169, L169, k169, n169⟩, -, X169, ⟨Lc169, hQ169, l169, y169, z169⟩, st169⟩ := X168.virtualBack hx (y := own_y6) (z := own_y6) hown (mvT hZ w_27) (mvT hZ w_28) (notFace_of_selects (args := #[]) (mvT hZ w_30)) (mvT hZ w_30) (mvT hZ w_29) (by decide) (backOf (W := 0) (own_tnone l Z a0 hw [] a105 h168 n0 F168_5) hZ w_31 w_12 (by decide) (by decide)) qa169 qc169 (g := (mkF m 146 #[iv p0, iv p1, iv p2, iv p3, iv p4, iv p5, iv (1 : Int32), iv kk, rv a1, rv a4, rv a9, rv a16, rv a25, rv a36, rv a105, iv (0 : Int32), .unset, .unset, .unset, .unset, .unset, .unset, .unset, .unset, .unset] [(.ref a105)])) rfl (by rw [hml]; rfl) (Steps.refl _) (argsL := []) (rest := []) (lenOf own_pd5 rfl) rfl (by show 2 * 0 + _ ≤ _; exact own_b rfl) (hb hby at_146) (fun _ _ => ⟨rfl, e168, (own_b rfl : 8 + 0 ≤ _), (own_b rfl : 14 + 0 ≤ _)⟩)
      dsimp only [Pt.U, Pt.locs, Pt.cells, Pt.slots] at X169 l169 y169 z169 st169 hQ169
      obtain ⟨rfl, Nq169, eq169⟩ := hQ169
      obtain ⟨L169, X169, N169⟩ := own_absC (K := 8) (K' := 14) X169 l169 y169 z169 N168 Nq169
      have e169 : T169.heap = h168 := eq169
      refine own_tr (B := (T169.setTop (mkF m 149 #[iv p0, iv p1, iv p2, iv p3, iv p4, iv p5, iv (1 : Int32), iv kk, rv a1, rv a4, rv a9, rv a16, rv a25, rv a36, rv a105, iv (0 : Int32), .unset, .unset, .unset, .unset, .unset, .unset, .unset, .unset, .unset] [.null]))) st169 ?_
      refine own_go (B := (T169.setTop (mkF m 152 #[iv p0, iv p1, iv p2, iv p3, iv p4, iv p5, iv (1 : Int32), iv kk, rv a1, rv a4, rv a9, rv a16, rv a25, rv a36, rv a105, iv (0 : Int32), .unset, .unset, .unset, .unset, .unset, .unset, .unset, .unset, .unset] [.null]))) (X169.checkcastNull hx (g := (mkF m 149 #[iv p0, iv p1, iv p2, iv p3, iv p4, iv p5, iv (1 : Int32), iv kk, rv a1, rv a4, rv a9, rv a16, rv a25, rv a36, rv a105, iv (0 : Int32), .unset, .unset, .unset, .unset, .unset, .unset, .unset, .unset, .unset] [.null])) rfl rfl (hb hby at_149)) ?_
      refine own_go (B := (T169.setTop (mkF m 154 #[iv p0, iv p1, iv p2, iv p3, iv p4, iv p5, iv (1 : Int32), iv kk, rv a1, rv a4, rv a9, rv a16, rv a25, rv a36, rv a105, iv (0 : Int32), .val .null, .unset, .unset, .unset, .unset, .unset, .unset, .unset, .unset] []))) (fun t k => XS.astore X169.here hx rfl (hb hby at_152) rfl rfl (l' := #[iv p0, iv p1, iv p2, iv p3, iv p4, iv p5, iv (1 : Int32), iv kk, rv a1, rv a4, rv a9, rv a16, rv a25, rv a36, rv a105, iv (0 : Int32), .val .null, .unset, .unset, .unset, .unset, .unset, .unset, .unset, .unset]) rfl k) ?_
      refine own_go (B := (T169.setTop (mkF m 156 #[iv p0, iv p1, iv p2, iv p3, iv p4, iv p5, iv (1 : Int32), iv kk, rv a1, rv a4, rv a9, rv a16, rv a25, rv a36, rv a105, iv (0 : Int32), .val .null, .unset, .unset, .unset, .unset, .unset, .unset, .unset, .unset] [(.int (0 : Int32))]))) (fun t k => XS.iload X169.here hx rfl (hb hby at_154) rfl k) ?_
      refine own_go (B := (T169.setTop (mkF m 157 #[iv p0, iv p1, iv p2, iv p3, iv p4, iv p5, iv (1 : Int32), iv kk, rv a1, rv a4, rv a9, rv a16, rv a25, rv a36, rv a105, iv (0 : Int32), .val .null, .unset, .unset, .unset, .unset, .unset, .unset, .unset, .unset] [(.int (1 : Int32)), (.int (0 : Int32))]))) (fun t k => own_iconst (v := (1 : Int32)) X169.here hx rfl (hb hby at_156) (by decide) k) ?_
      have hc157 : (0 : Int32) < (1 : Int32) := (by decide)
      refine own_icmpY X169 hx (hb hby at_157) (pc' := 170) (by decide) (by decide) hc157 ?_
      refine own_go (B := (T169.setTop (mkF m 171 #[iv p0, iv p1, iv p2, iv p3, iv p4, iv p5, iv (1 : Int32), iv kk, rv a1, rv a4, rv a9, rv a16, rv a25, rv a36, rv a105, iv (0 : Int32), .val .null, .unset, .unset, .unset, .unset, .unset, .unset, .unset, .unset] [.null]))) (fun t k => XS.aconstNull X169.here hx rfl (hb hby at_170) k) ?_
      refine own_go (B := (T169.setTop (mkF m 173 #[iv p0, iv p1, iv p2, iv p3, iv p4, iv p5, iv (1 : Int32), iv kk, rv a1, rv a4, rv a9, rv a16, rv a25, rv a36, rv a105, iv (0 : Int32), .val .null, .val .null, .unset, .unset, .unset, .unset, .unset, .unset, .unset] []))) (fun t k => XS.astore X169.here hx rfl (hb hby at_171) rfl rfl (l' := #[iv p0, iv p1, iv p2, iv p3, iv p4, iv p5, iv (1 : Int32), iv kk, rv a1, rv a4, rv a9, rv a16, rv a25, rv a36, rv a105, iv (0 : Int32), .val .null, .val .null, .unset, .unset, .unset, .unset, .unset, .unset, .unset]) rfl k) ?_
      refine own_go (B := (T169.setTop (mkF m 175 #[iv p0, iv p1, iv p2, iv p3, iv p4, iv p5, iv (1 : Int32), iv kk, rv a1, rv a4, rv a9, rv a16, rv a25, rv a36, rv a105, iv (0 : Int32), .val .null, .val .null, .unset, .unset, .unset, .unset, .unset, .unset, .unset] [.null]))) (fun t k => XS.aload X169.here hx rfl (hb hby at_173) rfl rfl k) ?_
      refine own_go (B := (T169.setTop (mkF m 177 #[iv p0, iv p1, iv p2, iv p3, iv p4, iv p5, iv (1 : Int32), iv kk, rv a1, rv a4, rv a9, rv a16, rv a25, rv a36, rv a105, iv (0 : Int32), .val .null, .val .null, .unset, .unset, .unset, .unset, .unset, .unset, .unset] [.null, .null]))) (fun t k => XS.aload X169.here hx rfl (hb hby at_175) rfl rfl k) ?_
      obtain ⟨_, _, ⟨T171, L171, k171, n171⟩, -, X171, ⟨Lc171, hQ171, l171, y171, z171⟩, st171⟩ := Jvm.LawKit.callS X169 hx (y := own_y7) hown (mvT hZ w_34) (mvT hZ w_35) (mvT hZ w_36) (mvT hZ w_37) (by decide) (backOf (W := 0) (own_same0 l Z a0 hw [] h168 n0) hZ w_37 w_36 (by decide) (by decide)) (g := (mkF m 177 #[iv p0, iv p1, iv p2, iv p3, iv p4, iv p5, iv (1 : Int32), iv kk, rv a1, rv a4, rv a9, rv a16, rv a25, rv a36, rv a105, iv (0 : Int32), .val .null, .val .null, .unset, .unset, .unset, .unset, .unset, .unset, .unset] [.null, .null])) rfl (by rw [hml]; rfl) (argsL := [.null, .null]) (rest := []) (lenOf own_pd6 rfl) rfl (by show 2 * 0 + _ ≤ _; exact own_b rfl) (hb hby at_177) (fun _ _ => ⟨rfl, e169, (own_b rfl : 8 + 0 ≤ _), (own_b rfl : 14 + 0 ≤ _)⟩)
      dsimp only [Pt.U, Pt.locs, Pt.cells, Pt.slots] at X171 l171 y171 z171 st171 hQ171
      obtain ⟨rfl, Nq171, eq171⟩ := hQ171
      obtain ⟨L171, X171, N171⟩ := own_absC (K := 8) (K' := 14) X171 l171 y171 z171 N169 Nq171
      have e171 : T171.heap = h168 := eq171
      refine own_go (B := (T171.setTop (mkF m 180 #[iv p0, iv p1, iv p2, iv p3, iv p4, iv p5, iv (1 : Int32), iv kk, rv a1, rv a4, rv a9, rv a16, rv a25, rv a36, rv a105, iv (0 : Int32), .val .null, .val .null, .unset, .unset, .unset, .unset, .unset, .unset, .unset] [(.int (1 : Int32))]))) st171 ?_
      have hc180 : ¬ (1 : Int32) = (0 : Int32) := (by decide)
      refine own_ifY X171 hx (hb hby at_180) (pc' := 185) (by decide) (by decide) hc180 ?_
      refine own_go (B := (T171.setTop (mkF m 187 #[iv p0, iv p1, iv p2, iv p3, iv p4, iv p5, iv (1 : Int32), iv kk, rv a1, rv a4, rv a9, rv a16, rv a25, rv a36, rv a105, iv (0 : Int32), .val .null, .val .null, .unset, .unset, .unset, .unset, .unset, .unset, .unset] [(.ref a105)]))) (fun t k => XS.aload X171.here hx rfl (hb hby at_185) rfl rfl k) ?_
      obtain ⟨cq172, kq172, qa172, qb172, qc172⟩ := isOf hZ e171 F168_3
      obtain ⟨_, _, ⟨T172, L172, k172, n172⟩, -, X172, ⟨Lc172, hQ172, l172, y172, z172⟩, st172⟩ := X171.virtualBack hx (y := own_y6) (z := own_y6) hown (mvT hZ w_27) (mvT hZ w_28) (notFace_of_selects (args := #[]) (mvT hZ w_30)) (mvT hZ w_30) (mvT hZ w_29) (by decide) (backOf (W := 0) (own_tnone l Z a0 hw [] a105 h168 n0 F168_5) hZ w_31 w_12 (by decide) (by decide)) qa172 qc172 (g := (mkF m 187 #[iv p0, iv p1, iv p2, iv p3, iv p4, iv p5, iv (1 : Int32), iv kk, rv a1, rv a4, rv a9, rv a16, rv a25, rv a36, rv a105, iv (0 : Int32), .val .null, .val .null, .unset, .unset, .unset, .unset, .unset, .unset, .unset] [(.ref a105)])) rfl (by rw [hml]; rfl) (Steps.refl _) (argsL := []) (rest := []) (lenOf own_pd5 rfl) rfl (by show 2 * 0 + _ ≤ _; exact own_b rfl) (hb hby at_187) (fun _ _ => ⟨rfl, e171, (own_b rfl : 8 + 0 ≤ _), (own_b rfl : 14 + 0 ≤ _)⟩)
      dsimp only [Pt.U, Pt.locs, Pt.cells, Pt.slots] at X172 l172 y172 z172 st172 hQ172
      obtain ⟨rfl, Nq172, eq172⟩ := hQ172
      obtain ⟨L172, X172, N172⟩ := own_absC (K := 8) (K' := 14) X172 l172 y172 z172 N171 Nq172
      have e172 : T172.heap = h168 := eq172
      refine own_tr (B := (T172.setTop (mkF m 190 #[iv p0, iv p1, iv p2, iv p3, iv p4, iv p5, iv (1 : Int32), iv kk, rv a1, rv a4, rv a9, rv a16, rv a25, rv a36, rv a105, iv (0 : Int32), .val .null, .val .null, .unset, .unset, .unset, .unset, .unset, .unset, .unset] [.null]))) st172 ?_
      refine own_go (B := (T172.setTop (mkF m 193 #[iv p0, iv p1, iv p2, iv p3, iv p4, iv p5, iv (1 : Int32), iv kk, rv a1, rv a4, rv a9, rv a16, rv a25, rv a36, rv a105, iv (0 : Int32), .val .null, .val .null, .unset, .unset, .unset, .unset, .unset, .unset, .unset] [.null]))) (X172.checkcastNull hx (g := (mkF m 190 #[iv p0, iv p1, iv p2, iv p3, iv p4, iv p5, iv (1 : Int32), iv kk, rv a1, rv a4, rv a9, rv a16, rv a25, rv a36, rv a105, iv (0 : Int32), .val .null, .val .null, .unset, .unset, .unset, .unset, .unset, .unset, .unset] [.null])) rfl rfl (hb hby at_190)) ?_
      refine own_go (B := (T172.setTop (mkF m 195 #[iv p0, iv p1, iv p2, iv p3, iv p4, iv p5, iv (1 : Int32), iv kk, rv a1, rv a4, rv a9, rv a16, rv a25, rv a36, rv a105, iv (0 : Int32), .val .null, .val .null, .val .null, .unset, .unset, .unset, .unset, .unset, .unset] []))) (fun t k => XS.astore X172.here hx rfl (hb hby at_193) rfl rfl (l' := #[iv p0, iv p1, iv p2, iv p3, iv p4, iv p5, iv (1 : Int32), iv kk, rv a1, rv a4, rv a9, rv a16, rv a25, rv a36, rv a105, iv (0 : Int32), .val .null, .val .null, .val .null, .unset, .unset, .unset, .unset, .unset, .unset]) rfl k) ?_
      refine own_go (B := (T172.setTop (mkF m 197 #[iv p0, iv p1, iv p2, iv p3, iv p4, iv p5, iv (1 : Int32), iv kk, rv a1, rv a4, rv a9, rv a16, rv a25, rv a36, rv a105, iv (0 : Int32), .val .null, .val .null, .val .null, .unset, .unset, .unset, .unset, .unset, .unset] [(.int (0 : Int32))]))) (fun t k => XS.iload X172.here hx rfl (hb hby at_195) rfl k) ?_
      refine own_go (B := (T172.setTop (mkF m 198 #[iv p0, iv p1, iv p2, iv p3, iv p4, iv p5, iv (1 : Int32), iv kk, rv a1, rv a4, rv a9, rv a16, rv a25, rv a36, rv a105, iv (0 : Int32), .val .null, .val .null, .val .null, .unset, .unset, .unset, .unset, .unset, .unset] [(.int (2 : Int32)), (.int (0 : Int32))]))) (fun t k => own_iconst (v := (2 : Int32)) X172.here hx rfl (hb hby at_197) (by decide) k) ?_
      have hc198 : (0 : Int32) < (2 : Int32) := (by decide)
      refine own_icmpY X172 hx (hb hby at_198) (pc' := 211) (by decide) (by decide) hc198 ?_
      refine own_go (B := (T172.setTop (mkF m 212 #[iv p0, iv p1, iv p2, iv p3, iv p4, iv p5, iv (1 : Int32), iv kk, rv a1, rv a4, rv a9, rv a16, rv a25, rv a36, rv a105, iv (0 : Int32), .val .null, .val .null, .val .null, .unset, .unset, .unset, .unset, .unset, .unset] [.null]))) (fun t k => XS.aconstNull X172.here hx rfl (hb hby at_211) k) ?_
      refine own_go (B := (T172.setTop (mkF m 214 #[iv p0, iv p1, iv p2, iv p3, iv p4, iv p5, iv (1 : Int32), iv kk, rv a1, rv a4, rv a9, rv a16, rv a25, rv a36, rv a105, iv (0 : Int32), .val .null, .val .null, .val .null, .val .null, .unset, .unset, .unset, .unset, .unset] []))) (fun t k => XS.astore X172.here hx rfl (hb hby at_212) rfl rfl (l' := #[iv p0, iv p1, iv p2, iv p3, iv p4, iv p5, iv (1 : Int32), iv kk, rv a1, rv a4, rv a9, rv a16, rv a25, rv a36, rv a105, iv (0 : Int32), .val .null, .val .null, .val .null, .val .null, .unset, .unset, .unset, .unset, .unset]) rfl k) ?_
      refine own_go (B := (T172.setTop (mkF m 216 #[iv p0, iv p1, iv p2, iv p3, iv p4, iv p5, iv (1 : Int32), iv kk, rv a1, rv a4, rv a9, rv a16, rv a25, rv a36, rv a105, iv (0 : Int32), .val .null, .val .null, .val .null, .val .null, .unset, .unset, .unset, .unset, .unset] [.null]))) (fun t k => XS.aload X172.here hx rfl (hb hby at_214) rfl rfl k) ?_
      refine own_go (B := (T172.setTop (mkF m 218 #[iv p0, iv p1, iv p2, iv p3, iv p4, iv p5, iv (1 : Int32), iv kk, rv a1, rv a4, rv a9, rv a16, rv a25, rv a36, rv a105, iv (0 : Int32), .val .null, .val .null, .val .null, .val .null, .unset, .unset, .unset, .unset, .unset] [.null, .null]))) (fun t k => XS.aload X172.here hx rfl (hb hby at_216) rfl rfl k) ?_
      obtain ⟨_, _, ⟨T174, L174, k174, n174⟩, -, X174, ⟨Lc174, hQ174, l174, y174, z174⟩, st174⟩ := Jvm.LawKit.callS X172 hx (y := own_y7) hown (mvT hZ w_34) (mvT hZ w_35) (mvT hZ w_36) (mvT hZ w_37) (by decide) (backOf (W := 0) (own_same0 l Z a0 hw [] h168 n0) hZ w_37 w_36 (by decide) (by decide)) (g := (mkF m 218 #[iv p0, iv p1, iv p2, iv p3, iv p4, iv p5, iv (1 : Int32), iv kk, rv a1, rv a4, rv a9, rv a16, rv a25, rv a36, rv a105, iv (0 : Int32), .val .null, .val .null, .val .null, .val .null, .unset, .unset, .unset, .unset, .unset] [.null, .null])) rfl (by rw [hml]; rfl) (argsL := [.null, .null]) (rest := []) (lenOf own_pd6 rfl) rfl (by show 2 * 0 + _ ≤ _; exact own_b rfl) (hb hby at_218) (fun _ _ => ⟨rfl, e172, (own_b rfl : 8 + 0 ≤ _), (own_b rfl : 14 + 0 ≤ _)⟩)
      dsimp only [Pt.U, Pt.locs, Pt.cells, Pt.slots] at X174 l174 y174 z174 st174 hQ174
      obtain ⟨rfl, Nq174, eq174⟩ := hQ174
      obtain ⟨L174, X174, N174⟩ := own_absC (K := 8) (K' := 14) X174 l174 y174 z174 N172 Nq174
      have e174 : T174.heap = h168 := eq174
      refine own_go (B := (T174.setTop (mkF m 221 #[iv p0, iv p1, iv p2, iv p3, iv p4, iv p5, iv (1 : Int32), iv kk, rv a1, rv a4, rv a9, rv a16, rv a25, rv a36, rv a105, iv (0 : Int32), .val .null, .val .null, .val .null, .val .null, .unset, .unset, .unset, .unset, .unset] [(.int (1 : Int32))]))) st174 ?_
      have hc221 : ¬ (1 : Int32) = (0 : Int32) := (by decide)
      refine own_ifY X174 hx (hb hby at_221) (pc' := 226) (by decide) (by decide) hc221 ?_
      refine own_go (B := (T174.setTop (mkF m 228 #[iv p0, iv p1, iv p2, iv p3, iv p4, iv p5, iv (1 : Int32), iv kk, rv a1, rv a4, rv a9, rv a16, rv a25, rv a36, rv a105, iv (0 : Int32), .val .null, .val .null, .val .null, .val .null, .unset, .unset, .unset, .unset, .unset] [(.int (0 : Int32))]))) (fun t k => XS.iload X174.here hx rfl (hb hby at_226) rfl k) ?_
      refine own_go (B := (T174.setTop (mkF m 229 #[iv p0, iv p1, iv p2, iv p3, iv p4, iv p5, iv (1 : Int32), iv kk, rv a1, rv a4, rv a9, rv a16, rv a25, rv a36, rv a105, iv (0 : Int32), .val .null, .val .null, .val .null, .val .null, .unset, .unset, .unset, .unset, .unset] [(.int (2 : Int32)), (.int (0 : Int32))]))) (fun t k => own_iconst (v := (2 : Int32)) X174.here hx rfl (hb hby at_228) (by decide) k) ?_
      refine own_go (B := (T174.setTop (mkF m 230 #[iv p0, iv p1, iv p2, iv p3, iv p4, iv p5, iv (1 : Int32), iv kk, rv a1, rv a4, rv a9, rv a16, rv a25, rv a36, rv a105, iv (0 : Int32), .val .null, .val .null, .val .null, .val .null, .unset, .unset, .unset, .unset, .unset] [(.int ((0 : Int32) - (2 : Int32)))]))) (fun t k => XS.isub (x := (0 : Int32)) (y := (2 : Int32)) X174.here hx rfl (hb hby at_229) rfl k) ?_
      rw [show ((0 : Int32) - (2 : Int32)) = (-2 : Int32) from by decide]
      refine own_go (B := (T174.setTop (mkF m 231 #[iv p0, iv p1, iv p2, iv p3, iv p4, iv p5, iv (1 : Int32), iv kk, rv a1, rv a4, rv a9, rv a16, rv a25, rv a36, rv a105, iv (0 : Int32), .val .null, .val .null, .val .null, .val .null, .unset, .unset, .unset, .unset, .unset] [(.int (0 : Int32)), (.int (-2 : Int32))]))) (fun t k => own_iconst (v := (0 : Int32)) X174.here hx rfl (hb hby at_230) (by decide) k) ?_
      obtain ⟨_, _, ⟨T175, L175, k175, n175⟩, -, X175, ⟨Lc175, hQ175, l175, y175, z175⟩, st175⟩ := Jvm.LawKit.callS X174 hx (y := own_y8) hown (mvT hZ w_38) (mvT hZ w_39) (mvT hZ w_25) (mvT hZ w_40) (by decide) (backOf (W := 0) (own_mmax l Z a0 hw [] (-2 : Int32) (0 : Int32) h168 n0) hZ w_40 w_25 (by decide) (by decide)) (g := (mkF m 231 #[iv p0, iv p1, iv p2, iv p3, iv p4, iv p5, iv (1 : Int32), iv kk, rv a1, rv a4, rv a9, rv a16, rv a25, rv a36, rv a105, iv (0 : Int32), .val .null, .val .null, .val .null, .val .null, .unset, .unset, .unset, .unset, .unset] [(.int (0 : Int32)), (.int (-2 : Int32))])) rfl (by rw [hml]; rfl) (argsL := [(.int (-2 : Int32)), (.int (0 : Int32))]) (rest := []) (lenOf own_pd7 rfl) rfl (by show 2 * 0 + _ ≤ _; exact own_b rfl) (hb hby at_231) (fun _ _ => ⟨rfl, e174, (own_b rfl : 8 + 0 ≤ _), (own_b rfl : 14 + 0 ≤ _)⟩)
      dsimp only [Pt.U, Pt.locs, Pt.cells, Pt.slots] at X175 l175 y175 z175 st175 hQ175
      obtain ⟨rfl, Nq175, eq175⟩ := hQ175
      obtain ⟨L175, X175, N175⟩ := own_absC (K := 8) (K' := 14) X175 l175 y175 z175 N174 Nq175
      have e175 : T175.heap = h168 := eq175
      refine own_go (B := (T175.setTop (mkF m 234 #[iv p0, iv p1, iv p2, iv p3, iv p4, iv p5, iv (1 : Int32), iv kk, rv a1, rv a4, rv a9, rv a16, rv a25, rv a36, rv a105, iv (0 : Int32), .val .null, .val .null, .val .null, .val .null, .unset, .unset, .unset, .unset, .unset] [(.int (own_max (-2 : Int32) (0 : Int32)))]))) st175 ?_
      rw [show own_max (-2 : Int32) (0 : Int32) = (0 : Int32) from by decide]
      refine own_go (B := (T175.setTop (mkF m 236 #[iv p0, iv p1, iv p2, iv p3, iv p4, iv p5, iv (1 : Int32), iv kk, rv a1, rv a4, rv a9, rv a16, rv a25, rv a36, rv a105, iv (0 : Int32), .val .null, .val .null, .val .null, .val .null, iv (0 : Int32), .unset, .unset, .unset, .unset] []))) (fun t k => XS.istore X175.here hx rfl (hb hby at_234) rfl (l' := #[iv p0, iv p1, iv p2, iv p3, iv p4, iv p5, iv (1 : Int32), iv kk, rv a1, rv a4, rv a9, rv a16, rv a25, rv a36, rv a105, iv (0 : Int32), .val .null, .val .null, .val .null, .val .null, iv (0 : Int32), .unset, .unset, .unset, .unset]) rfl k) ?_
      refine own_go (B := (T175.setTop (mkF m 238 #[iv p0, iv p1, iv p2, iv p3, iv p4, iv p5, iv (1 : Int32), iv kk, rv a1, rv a4, rv a9, rv a16, rv a25, rv a36, rv a105, iv (0 : Int32), .val .null, .val .null, .val .null, .val .null, iv (0 : Int32), .unset, .unset, .unset, .unset] [(.ref a105)]))) (fun t k => XS.aload X175.here hx rfl (hb hby at_236) rfl rfl k) ?_
      refine own_go (B := (T175.setTop (mkF m 240 #[iv p0, iv p1, iv p2, iv p3, iv p4, iv p5, iv (1 : Int32), iv kk, rv a1, rv a4, rv a9, rv a16, rv a25, rv a36, rv a105, iv (0 : Int32), .val .null, .val .null, .val .null, .val .null, iv (0 : Int32), .unset, .unset, .unset, .unset] [(.ref a25), (.ref a105)]))) (fun t k => XS.aload X175.here hx rfl (hb hby at_238) rfl rfl k) ?_
      obtain ⟨cq176, kq176, qa176, qb176, qc176⟩ := isOf hZ e175 F168_3
      obtain ⟨_, _, ⟨T176, L176, k176, n176⟩, -, X176, ⟨Lc176, hQ176, l176, y176, z176⟩, st176⟩ := X175.virtualBack hx (y := own_y9) (z := own_y9) hown (mvT hZ w_41) (mvT hZ w_42) (notFace_of_selects (args := #[]) (mvT hZ w_44)) (mvT hZ w_44) (mvT hZ w_43) (by decide) (backOf (W := 0) (own_kone l Z a0 hw [] a105 a25 ar121 (0 : Int32) (1 : Int32) (1 : Int32) [.null] [(.ref a25)] h168 n0 F168_3 F168_4 F168_5 F168_6 F168_0 gn105 gn_ar121 ne_ar121_a105 (own_lenL (n := 1) rfl (by decide)) (by decide) (by decide) (Nat.lt_of_lt_of_eq (by decide : _ < 1) rfl) (by decide) (Ins.of_exa (own_Bn_exa F168_7 (List.mem_of_getElem? (i := 4) rfl)) w_60) rfl) hZ w_45 w_12 (by decide) (by decide)) qa176 qc176 (g := (mkF m 240 #[iv p0, iv p1, iv p2, iv p3, iv p4, iv p5, iv (1 : Int32), iv kk, rv a1, rv a4, rv a9, rv a16, rv a25, rv a36, rv a105, iv (0 : Int32), .val .null, .val .null, .val .null, .val .null, iv (0 : Int32), .unset, .unset, .unset, .unset] [(.ref a25), (.ref a105)])) rfl (by rw [hml]; rfl) (Steps.refl _) (argsL := [(.ref a25)]) (rest := []) (lenOf own_pd8 rfl) rfl (by show 2 * 0 + _ ≤ _; exact own_b rfl) (hb hby at_240) (fun _ _ => ⟨rfl, e175, (own_b rfl : 8 + 0 ≤ _), (own_b rfl : 14 + 0 ≤ _)⟩)
      dsimp only [Pt.U, Pt.locs, Pt.cells, Pt.slots] at X176 l176 y176 z176 st176 hQ176
      obtain ⟨rfl, Nq176, K176, Ex176, gk176, gc176, gv176⟩ := hQ176
      obtain ⟨L176, X176, N176⟩ := own_absC (K := 8) (K' := 14) X176 l176 y176 z176 N175 Nq176
      have F177 : n0 ≤ T176.heap.size := Nat.le_trans F168_0 K176.1
      have F178 := Keep.trans F168_1 K176 (allS (Or.inr (Nat.le_trans F93.1 (Nat.le_of_eq ga105.symm))) (allS (Or.inr (Nat.le_trans K107.1 gz121)) all0))
      have F179 := own_Ao_keep F168_2 K176 (ninS (Ne.symm ne105_a36) (ninS (Ne.symm ne_ar121_a36) nin0))
      have F180 := Exa.keep F168_3 K176
      have F184 := own_Bn_keep F168_7 K176 hbq
      refine own_tr (B := (T176.setTop (mkF m 243 #[iv p0, iv p1, iv p2, iv p3, iv p4, iv p5, iv (1 : Int32), iv kk, rv a1, rv a4, rv a9, rv a16, rv a25, rv a36, rv a105, iv (0 : Int32), .val .null, .val .null, .val .null, .val .null, iv (0 : Int32), .unset, .unset, .unset, .unset] []))) st176 ?_
      refine own_go (B := (T176.setTop (mkF m 245 #[iv p0, iv p1, iv p2, iv p3, iv p4, iv p5, iv (1 : Int32), iv kk, rv a1, rv a4, rv a9, rv a16, rv a25, rv a36, rv a105, iv (0 : Int32), .val .null, .val .null, .val .null, .val .null, iv (0 : Int32), .unset, .unset, .unset, .unset] [(.ref a105)]))) (fun t k => XS.aload X176.here hx rfl (hb hby at_243) rfl rfl k) ?_
      obtain ⟨cq185, kq185, qa185, qb185, qc185⟩ := isOf hZ rfl Ex176
      obtain ⟨_, _, ⟨T185, L185, k185, n185⟩, -, X185, ⟨Lc185, hQ185, l185, y185, z185⟩, st185⟩ := X176.virtualBack hx (y := own_y6) (z := own_y6) hown (mvT hZ w_27) (mvT hZ w_28) (notFace_of_selects (args := #[]) (mvT hZ w_30)) (mvT hZ w_30) (mvT hZ w_29) (by decide) (backOf (W := 0) (own_tone l Z a0 hw [] a105 ar121 a25 (1 : Int32) (0 : Int32) [(.ref a25)] [.null] T176.heap n0 Ex176 gk176 gc176 gv176 F177 gn105 gn_ar121 ne_ar121_a105 (by decide) (by decide) (by decide) rfl rfl) hZ w_31 w_12 (by decide) (by decide)) qa185 qc185 (g := (mkF m 245 #[iv p0, iv p1, iv p2, iv p3, iv p4, iv p5, iv (1 : Int32), iv kk, rv a1, rv a4, rv a9, rv a16, rv a25, rv a36, rv a105, iv (0 : Int32), .val .null, .val .null, .val .null, .val .null, iv (0 : Int32), .unset, .unset, .unset, .unset] [(.ref a105)])) rfl (by rw [hml]; rfl) (Steps.refl _) (argsL := []) (rest := []) (lenOf own_pd5 rfl) rfl (by show 2 * 0 + _ ≤ _; exact own_b rfl) (hb hby at_245) (fun _ _ => ⟨rfl, rfl, (own_b rfl : 8 + 0 ≤ _), (own_b rfl : 14 + 0 ≤ _)⟩)
      dsimp only [Pt.U, Pt.locs, Pt.cells, Pt.slots] at X185 l185 y185 z185 st185 hQ185
      obtain ⟨rfl, Nq185, K185, Ex185, gk185, gc185, gv185⟩ := hQ185
      obtain ⟨L185, X185, N185⟩ := own_absC (K := 8) (K' := 14) X185 l185 y185 z185 N176 Nq185
      have F186 : n0 ≤ T185.heap.size := Nat.le_trans F177 K185.1
      have F187 := Keep.trans F178 K185 (allS (Or.inr (Nat.le_trans F93.1 (Nat.le_of_eq ga105.symm))) (allS (Or.inr (Nat.le_trans K107.1 gz121)) all0))
      have F188 := own_Ao_keep F179 K185 (ninS (Ne.symm ne105_a36) (ninS (Ne.symm ne_ar121_a36) nin0))
      have F189 := Exa.keep Ex176 K185
      have F190 := own_Bn_keep F184 K185 hbq
      refine own_tr (B := (T185.setTop (mkF m 248 #[iv p0, iv p1, iv p2, iv p3, iv p4, iv p5, iv (1 : Int32), iv kk, rv a1, rv a4, rv a9, rv a16, rv a25, rv a36, rv a105, iv (0 : Int32), .val .null, .val .null, .val .null, .val .null, iv (0 : Int32), .unset, .unset, .unset, .unset] [(.ref a25)]))) st185 ?_
      obtain ⟨T194, X194, e194, st194⟩ := castY X185 hx hZ hown w_7 rfl (Ins.of_exa (own_Bn_exa F190 (List.mem_of_getElem? (i := 4) rfl)) w_9) (g := (mkF m 248 #[iv p0, iv p1, iv p2, iv p3, iv p4, iv p5, iv (1 : Int32), iv kk, rv a1, rv a4, rv a9, rv a16, rv a25, rv a36, rv a105, iv (0 : Int32), .val .null, .val .null, .val .null, .val .null, iv (0 : Int32), .unset, .unset, .unset, .unset] [(.ref a25)])) rfl rfl (hb hby at_248)
      refine own_go (B := (T194.setTop (mkF m 251 #[iv p0, iv p1, iv p2, iv p3, iv p4, iv p5, iv (1 : Int32), iv kk, rv a1, rv a4, rv a9, rv a16, rv a25, rv a36, rv a105, iv (0 : Int32), .val .null, .val .null, .val .null, .val .null, iv (0 : Int32), .unset, .unset, .unset, .unset] [(.ref a25)]))) st194 ?_
      refine own_go (B := (T194.setTop (mkF m 253 #[iv p0, iv p1, iv p2, iv p3, iv p4, iv p5, iv (1 : Int32), iv kk, rv a1, rv a4, rv a9, rv a16, rv a25, rv a36, rv a105, iv (0 : Int32), .val .null, .val .null, .val .null, .val .null, iv (0 : Int32), rv a25, .unset, .unset, .unset] []))) (fun t k => XS.astore X194.here hx rfl (hb hby at_251) rfl rfl (l' := #[iv p0, iv p1, iv p2, iv p3, iv p4, iv p5, iv (1 : Int32), iv kk, rv a1, rv a4, rv a9, rv a16, rv a25, rv a36, rv a105, iv (0 : Int32), .val .null, .val .null, .val .null, .val .null, iv (0 : Int32), rv a25, .unset, .unset, .unset]) rfl k) ?_
      refine own_go (B := (T194.setTop (mkF m 255 #[iv p0, iv p1, iv p2, iv p3, iv p4, iv p5, iv (1 : Int32), iv kk, rv a1, rv a4, rv a9, rv a16, rv a25, rv a36, rv a105, iv (0 : Int32), .val .null, .val .null, .val .null, .val .null, iv (0 : Int32), rv a25, .unset, .unset, .unset] [(.int (1 : Int32))]))) (fun t k => XS.iload X194.here hx rfl (hb hby at_253) rfl k) ?_
      have hc255 : (0 : Int32) < (1 : Int32) := (by decide)
      refine own_ifN X194 hx (hb hby at_255) (pn := 258) rfl hc255 ?_
      refine own_go (B := (T194.setTop (mkF m 260 #[iv p0, iv p1, iv p2, iv p3, iv p4, iv p5, iv (1 : Int32), iv kk, rv a1, rv a4, rv a9, rv a16, rv a25, rv a36, rv a105, iv (0 : Int32), .val .null, .val .null, .val .null, .val .null, iv (0 : Int32), rv a25, .unset, .unset, .unset] [(.ref a25)]))) (fun t k => XS.aload X194.here hx rfl (hb hby at_258) rfl rfl k) ?_
      refine own_go (B := (T194.setTop (mkF m 264 #[iv p0, iv p1, iv p2, iv p3, iv p4, iv p5, iv (1 : Int32), iv kk, rv a1, rv a4, rv a9, rv a16, rv a25, rv a36, rv a105, iv (0 : Int32), .val .null, .val .null, .val .null, .val .null, iv (0 : Int32), rv a25, .unset, .unset, .unset] [(.ref a25)]))) (fun t k => XS.goto X194.here hx rfl (pc0 := 260) (pc' := 264) rfl (hb hby at_260) (by decide) (by decide) k) ?_
      refine own_go (B := (T194.setTop (mkF m 266 #[iv p0, iv p1, iv p2, iv p3, iv p4, iv p5, iv (1 : Int32), iv kk, rv a1, rv a4, rv a9, rv a16, rv a25, rv a36, rv a105, iv (0 : Int32), .val .null, .val .null, .val .null, .val .null, iv (0 : Int32), rv a25, rv a25, .unset, .unset] []))) (fun t k => XS.astore X194.here hx rfl (hb hby at_264) rfl rfl (l' := #[iv p0, iv p1, iv p2, iv p3, iv p4, iv p5, iv (1 : Int32), iv kk, rv a1, rv a4, rv a9, rv a16, rv a25, rv a36, rv a105, iv (0 : Int32), .val .null, .val .null, .val .null, .val .null, iv (0 : Int32), rv a25, rv a25, .unset, .unset]) rfl k) ?_
      refine own_go (B := (T194.setTop (mkF m 268 #[iv p0, iv p1, iv p2, iv p3, iv p4, iv p5, iv (1 : Int32), iv kk, rv a1, rv a4, rv a9, rv a16, rv a25, rv a36, rv a105, iv (0 : Int32), .val .null, .val .null, .val .null, .val .null, iv (0 : Int32), rv a25, rv a25, .unset, .unset] [(.ref a25)]))) (fun t k => XS.aload X194.here hx rfl (hb hby at_266) rfl rfl k) ?_
      refine own_go (B := (T194.setTop (mkF m 270 #[iv p0, iv p1, iv p2, iv p3, iv p4, iv p5, iv (1 : Int32), iv kk, rv a1, rv a4, rv a9, rv a16, rv a25, rv a36, rv a105, iv (0 : Int32), .val .null, .val .null, .val .null, .val .null, iv (0 : Int32), rv a25, rv a25, .unset, .unset] [(.ref a25), (.ref a25)]))) (fun t k => XS.aload X194.here hx rfl (hb hby at_268) rfl rfl k) ?_
      obtain ⟨_, _, ⟨T195, L195, k195, n195⟩, -, X195, ⟨Lc195, hQ195, l195, y195, z195⟩, st195⟩ := Jvm.LawKit.callS X194 hx (y := own_y7) hown (mvT hZ w_34) (mvT hZ w_35) (mvT hZ w_36) (mvT hZ w_37) (by decide) (backOf (W := 0) (own_same1 l Z a0 hw [] a25 a25 p5 T185.heap n0 (own_Bn_exa F190 (List.mem_of_getElem? (i := 4) rfl)) (own_Bn_fld F190 (List.mem_of_getElem? (i := 4) rfl)) (own_Bn_exa F190 (List.mem_of_getElem? (i := 4) rfl)) (own_Bn_fld F190 (List.mem_of_getElem? (i := 4) rfl))) hZ w_37 w_36 (by decide) (by decide)) (g := (mkF m 270 #[iv p0, iv p1, iv p2, iv p3, iv p4, iv p5, iv (1 : Int32), iv kk, rv a1, rv a4, rv a9, rv a16, rv a25, rv a36, rv a105, iv (0 : Int32), .val .null, .val .null, .val .null, .val .null, iv (0 : Int32), rv a25, rv a25, .unset, .unset] [(.ref a25), (.ref a25)])) rfl (by rw [hml]; rfl) (argsL := [(.ref a25), (.ref a25)]) (rest := []) (lenOf own_pd6 rfl) rfl (by show 2 * 0 + _ ≤ _; exact own_b rfl) (hb hby at_270) (fun _ _ => ⟨rfl, e194, (own_b rfl : 8 + 0 ≤ _), (own_b rfl : 14 + 0 ≤ _)⟩)
      dsimp only [Pt.U, Pt.locs, Pt.cells, Pt.slots] at X195 l195 y195 z195 st195 hQ195
      obtain ⟨rfl, Nq195, eq195⟩ := hQ195
      obtain ⟨L195, X195, N195⟩ := own_absC (K := 8) (K' := 14) X195 l195 y195 z195 N185 Nq195
      have e195 : T195.heap = T185.heap := eq195
      refine own_go (B := (T195.setTop (mkF m 273 #[iv p0, iv p1, iv p2, iv p3, iv p4, iv p5, iv (1 : Int32), iv kk, rv a1, rv a4, rv a9, rv a16, rv a25, rv a36, rv a105, iv (0 : Int32), .val .null, .val .null, .val .null, .val .null, iv (0 : Int32), rv a25, rv a25, .unset, .unset] [(.int (1 : Int32))]))) st195 ?_
      have hc273 : ¬ (1 : Int32) = (0 : Int32) := (by decide)
      refine own_ifY X195 hx (hb hby at_273) (pc' := 278) (by decide) (by decide) hc273 ?_
      refine own_go (B := (T195.setTop (mkF m 280 #[iv p0, iv p1, iv p2, iv p3, iv p4, iv p5, iv (1 : Int32), iv kk, rv a1, rv a4, rv a9, rv a16, rv a25, rv a36, rv a105, iv (0 : Int32), .val .null, .val .null, .val .null, .val .null, iv (0 : Int32), rv a25, rv a25, .unset, .unset] [(.ref a105)]))) (fun t k => XS.aload X195.here hx rfl (hb hby at_278) rfl rfl k) ?_
      obtain ⟨cq196, kq196, qa196, qb196, qc196⟩ := isOf hZ e195 Ex185
      obtain ⟨_, _, ⟨T196, L196, k196, n196⟩, -, X196, ⟨Lc196, hQ196, l196, y196, z196⟩, st196⟩ := X195.virtualBack hx (y := own_y6) (z := own_y6) hown (mvT hZ w_27) (mvT hZ w_28) (notFace_of_selects (args := #[]) (mvT hZ w_30)) (mvT hZ w_30) (mvT hZ w_29) (by decide) (backOf (W := 0) (own_tnone l Z a0 hw [] a105 T185.heap n0 gc185) hZ w_31 w_12 (by decide) (by decide)) qa196 qc196 (g := (mkF m 280 #[iv p0, iv p1, iv p2, iv p3, iv p4, iv p5, iv (1 : Int32), iv kk, rv a1, rv a4, rv a9, rv a16, rv a25, rv a36, rv a105, iv (0 : Int32), .val .null, .val .null, .val .null, .val .null, iv (0 : Int32), rv a25, rv a25, .unset, .unset] [(.ref a105)])) rfl (by rw [hml]; rfl) (Steps.refl _) (argsL := []) (rest := []) (lenOf own_pd5 rfl) rfl (by show 2 * 0 + _ ≤ _; exact own_b rfl) (hb hby at_280) (fun _ _ => ⟨rfl, e195, (own_b rfl : 8 + 0 ≤ _), (own_b rfl : 14 + 0 ≤ _)⟩)
      dsimp only [Pt.U, Pt.locs, Pt.cells, Pt.slots] at X196 l196 y196 z196 st196 hQ196
      obtain ⟨rfl, Nq196, eq196⟩ := hQ196
      obtain ⟨L196, X196, N196⟩ := own_absC (K := 8) (K' := 14) X196 l196 y196 z196 N195 Nq196
      have e196 : T196.heap = T185.heap := eq196
      refine own_tr (B := (T196.setTop (mkF m 283 #[iv p0, iv p1, iv p2, iv p3, iv p4, iv p5, iv (1 : Int32), iv kk, rv a1, rv a4, rv a9, rv a16, rv a25, rv a36, rv a105, iv (0 : Int32), .val .null, .val .null, .val .null, .val .null, iv (0 : Int32), rv a25, rv a25, .unset, .unset] [.null]))) st196 ?_
      refine own_go (B := (T196.setTop (mkF m 286 #[iv p0, iv p1, iv p2, iv p3, iv p4, iv p5, iv (1 : Int32), iv kk, rv a1, rv a4, rv a9, rv a16, rv a25, rv a36, rv a105, iv (0 : Int32), .val .null, .val .null, .val .null, .val .null, iv (0 : Int32), rv a25, rv a25, .unset, .unset] [.null]))) (X196.checkcastNull hx (g := (mkF m 283 #[iv p0, iv p1, iv p2, iv p3, iv p4, iv p5, iv (1 : Int32), iv kk, rv a1, rv a4, rv a9, rv a16, rv a25, rv a36, rv a105, iv (0 : Int32), .val .null, .val .null, .val .null, .val .null, iv (0 : Int32), rv a25, rv a25, .unset, .unset] [.null])) rfl rfl (hb hby at_283)) ?_
      refine own_go (B := (T196.setTop (mkF m 288 #[iv p0, iv p1, iv p2, iv p3, iv p4, iv p5, iv (1 : Int32), iv kk, rv a1, rv a4, rv a9, rv a16, rv a25, rv a36, rv a105, iv (0 : Int32), .val .null, .val .null, .val .null, .val .null, iv (0 : Int32), rv a25, rv a25, .val .null, .unset] []))) (fun t k => XS.astore X196.here hx rfl (hb hby at_286) rfl rfl (l' := #[iv p0, iv p1, iv p2, iv p3, iv p4, iv p5, iv (1 : Int32), iv kk, rv a1, rv a4, rv a9, rv a16, rv a25, rv a36, rv a105, iv (0 : Int32), .val .null, .val .null, .val .null, .val .null, iv (0 : Int32), rv a25, rv a25, .val .null, .unset]) rfl k) ?_
      refine own_go (B := (T196.setTop (mkF m 290 #[iv p0, iv p1, iv p2, iv p3, iv p4, iv p5, iv (1 : Int32), iv kk, rv a1, rv a4, rv a9, rv a16, rv a25, rv a36, rv a105, iv (0 : Int32), .val .null, .val .null, .val .null, .val .null, iv (0 : Int32), rv a25, rv a25, .val .null, .unset] [(.int (0 : Int32))]))) (fun t k => XS.iload X196.here hx rfl (hb hby at_288) rfl k) ?_
      refine own_go (B := (T196.setTop (mkF m 291 #[iv p0, iv p1, iv p2, iv p3, iv p4, iv p5, iv (1 : Int32), iv kk, rv a1, rv a4, rv a9, rv a16, rv a25, rv a36, rv a105, iv (0 : Int32), .val .null, .val .null, .val .null, .val .null, iv (0 : Int32), rv a25, rv a25, .val .null, .unset] [(.int (1 : Int32)), (.int (0 : Int32))]))) (fun t k => own_iconst (v := (1 : Int32)) X196.here hx rfl (hb hby at_290) (by decide) k) ?_
      have hc291 : (0 : Int32) < (1 : Int32) := (by decide)
      refine own_icmpY X196 hx (hb hby at_291) (pc' := 304) (by decide) (by decide) hc291 ?_
      refine own_go (B := (T196.setTop (mkF m 305 #[iv p0, iv p1, iv p2, iv p3, iv p4, iv p5, iv (1 : Int32), iv kk, rv a1, rv a4, rv a9, rv a16, rv a25, rv a36, rv a105, iv (0 : Int32), .val .null, .val .null, .val .null, .val .null, iv (0 : Int32), rv a25, rv a25, .val .null, .unset] [.null]))) (fun t k => XS.aconstNull X196.here hx rfl (hb hby at_304) k) ?_
      refine own_go (B := (T196.setTop (mkF m 307 #[iv p0, iv p1, iv p2, iv p3, iv p4, iv p5, iv (1 : Int32), iv kk, rv a1, rv a4, rv a9, rv a16, rv a25, rv a36, rv a105, iv (0 : Int32), .val .null, .val .null, .val .null, .val .null, iv (0 : Int32), rv a25, rv a25, .val .null, .val .null] []))) (fun t k => XS.astore X196.here hx rfl (hb hby at_305) rfl rfl (l' := #[iv p0, iv p1, iv p2, iv p3, iv p4, iv p5, iv (1 : Int32), iv kk, rv a1, rv a4, rv a9, rv a16, rv a25, rv a36, rv a105, iv (0 : Int32), .val .null, .val .null, .val .null, .val .null, iv (0 : Int32), rv a25, rv a25, .val .null, .val .null]) rfl k) ?_
      refine own_go (B := (T196.setTop (mkF m 309 #[iv p0, iv p1, iv p2, iv p3, iv p4, iv p5, iv (1 : Int32), iv kk, rv a1, rv a4, rv a9, rv a16, rv a25, rv a36, rv a105, iv (0 : Int32), .val .null, .val .null, .val .null, .val .null, iv (0 : Int32), rv a25, rv a25, .val .null, .val .null] [.null]))) (fun t k => XS.aload X196.here hx rfl (hb hby at_307) rfl rfl k) ?_
      refine own_go (B := (T196.setTop (mkF m 311 #[iv p0, iv p1, iv p2, iv p3, iv p4, iv p5, iv (1 : Int32), iv kk, rv a1, rv a4, rv a9, rv a16, rv a25, rv a36, rv a105, iv (0 : Int32), .val .null, .val .null, .val .null, .val .null, iv (0 : Int32), rv a25, rv a25, .val .null, .val .null] [.null, .null]))) (fun t k => XS.aload X196.here hx rfl (hb hby at_309) rfl rfl k) ?_
      obtain ⟨_, _, ⟨T198, L198, k198, n198⟩, -, X198, ⟨Lc198, hQ198, l198, y198, z198⟩, st198⟩ := Jvm.LawKit.callS X196 hx (y := own_y7) hown (mvT hZ w_34) (mvT hZ w_35) (mvT hZ w_36) (mvT hZ w_37) (by decide) (backOf (W := 0) (own_same0 l Z a0 hw [] T185.heap n0) hZ w_37 w_36 (by decide) (by decide)) (g := (mkF m 311 #[iv p0, iv p1, iv p2, iv p3, iv p4, iv p5, iv (1 : Int32), iv kk, rv a1, rv a4, rv a9, rv a16, rv a25, rv a36, rv a105, iv (0 : Int32), .val .null, .val .null, .val .null, .val .null, iv (0 : Int32), rv a25, rv a25, .val .null, .val .null] [.null, .null])) rfl (by rw [hml]; rfl) (argsL := [.null, .null]) (rest := []) (lenOf own_pd6 rfl) rfl (by show 2 * 0 + _ ≤ _; exact own_b rfl) (hb hby at_311) (fun _ _ => ⟨rfl, e196, (own_b rfl : 8 + 0 ≤ _), (own_b rfl : 14 + 0 ≤ _)⟩)
      dsimp only [Pt.U, Pt.locs, Pt.cells, Pt.slots] at X198 l198 y198 z198 st198 hQ198
      obtain ⟨rfl, Nq198, eq198⟩ := hQ198
      obtain ⟨L198, X198, N198⟩ := own_absC (K := 8) (K' := 14) X198 l198 y198 z198 N196 Nq198
      have e198 : T198.heap = T185.heap := eq198
      refine own_go (B := (T198.setTop (mkF m 314 #[iv p0, iv p1, iv p2, iv p3, iv p4, iv p5, iv (1 : Int32), iv kk, rv a1, rv a4, rv a9, rv a16, rv a25, rv a36, rv a105, iv (0 : Int32), .val .null, .val .null, .val .null, .val .null, iv (0 : Int32), rv a25, rv a25, .val .null, .val .null] [(.int (1 : Int32))]))) st198 ?_
      exact own_retZ X198 hx hlk Bd.returns (hb hby at_314) (by decide) (own_b rfl) (own_b rfl) (Q := (own_law_Q Z p0 p1 p2 p3 p4 p5 ca h0 n0)) ⟨rfl, N198⟩
    have J1 : ∀ (T199 : State) (L199 : List Loc) (h199 : Heap) (X199 : Stand p l e room_1 s m #[(.int p0), (.int p1), (.int p2), (.int p3), (.int p4), (.int p5)] below meth c T199 L199 8 14) (e199 : T199.heap = h199) (N199 : Fr n0 L199) (F199_0 : n0 ≤ h199.size) (F199_1 : Keep h0 h199 []) (F199_2 : own_Ao Z h199 a36 "java/lang/Integer" [(.ref a1), (.ref a4), (.ref a9), (.ref a16)]) (F199_3 : Exa Z h199 a105 "com/example/pagemason/pagemason/core/Spares") (F199_4 : Fld Z h199 a105 "com/example/pagemason/pagemason/core/Spares" "kept" "[Ljava/lang/Object;" (.ref ar121)) (F199_5 : Fld Z h199 a105 "com/example/pagemason/pagemason/core/Spares" "count" "I" (.int (1 : Int32))) (F199_6 : own_Ao Z h199 ar121 "java/lang/Object" [(.ref a1)]) (F199_7 : own_Bn Z h199 [(a1, p1), (a4, p2), (a9, p3), (a16, p4), (a25, p5)]) (kk : Int32), own_G p.tables e below (fun o U' => ∃ v L, o = .returned v ∧ (own_law_Q Z p0 p1 p2 p3 p4 p5 ca h0 n0) v U'.heap L ∧ FrameEnd s o U' L 24 128) (T199.setTop (mkF m 144 #[iv p0, iv p1, iv p2, iv p3, iv p4, iv p5, iv (1 : Int32), iv kk, rv a1, rv a4, rv a9, rv a16, rv a25, rv a36, rv a105, iv (1 : Int32), .unset, .unset, .unset, .unset, .unset, .unset, .unset, .unset, .unset] [])) := by
      intro T199 L199 h199 X199 e199 N199 F199_0 F199_1 F199_2 F199_3 F199_4 F199_5 F199_6 F199_7 kk
      refine own_go (B := (T199.setTop (mkF m 146 #[iv p0, iv p1, iv p2, iv p3, iv p4, iv p5, iv (1 : Int32), iv kk, rv a1, rv a4, rv a9, rv a16, rv a25, rv a36, rv a105, iv (1 : Int32), .unset, .unset, .unset, .unset, .unset, .unset, .unset, .unset, .unset] [(.ref a105)]))) (fun t k => XS.aload X199.here hx rfl (hb hby at_144) rfl rfl k) ?_
      obtain ⟨cq200, kq200, qa200, qb200, qc200⟩ := isOf hZ e199 F199_3
      obtain ⟨_, _, ⟨T200, L200, k200, n200⟩, -, X200, ⟨Lc200, hQ200, l200, y200, z200⟩, st200⟩ := X199.virtualBack hx (y := own_y6) (z := own_y6) hown (mvT hZ w_27) (mvT hZ w_28) (notFace_of_selects (args := #[]) (mvT hZ w_30)) (mvT hZ w_30) (mvT hZ w_29) (by decide) (backOf (W := 0) (own_tone l Z a0 hw [] a105 ar121 a1 (1 : Int32) (0 : Int32) [(.ref a1)] [.null] h199 n0 F199_3 F199_4 F199_5 F199_6 F199_0 gn105 gn_ar121 ne_ar121_a105 (by decide) (by decide) (by decide) rfl rfl) hZ w_31 w_12 (by decide) (by decide)) qa200 qc200 (g := (mkF m 146 #[iv p0, iv p1, iv p2, iv p3, iv p4, iv p5, iv (1 : Int32), iv kk, rv a1, rv a4, rv a9, rv a16, rv a25, rv a36, rv a105, iv (1 : Int32), .unset, .unset, .unset, .unset, .unset, .unset, .unset, .unset, .unset] [(.ref a105)])) rfl (by rw [hml]; rfl) (Steps.refl _) (argsL := []) (rest := []) (lenOf own_pd5 rfl) rfl (by show 2 * 0 + _ ≤ _; exact own_b rfl) (hb hby at_146) (fun _ _ => ⟨rfl, e199, (own_b rfl : 8 + 0 ≤ _), (own_b rfl : 14 + 0 ≤ _)⟩)
      dsimp only [Pt.U, Pt.locs, Pt.cells, Pt.slots] at X200 l200 y200 z200 st200 hQ200
      obtain ⟨rfl, Nq200, K200, Ex200, gk200, gc200, gv200⟩ := hQ200
      obtain ⟨L200, X200, N200⟩ := own_absC (K := 8) (K' := 14) X200 l200 y200 z200 N199 Nq200
      have F201 : n0 ≤ T200.heap.size := Nat.le_trans F199_0 K200.1
      have F202 := Keep.trans F199_1 K200 (allS (Or.inr (Nat.le_trans F93.1 (Nat.le_of_eq ga105.symm))) (allS (Or.inr (Nat.le_trans K107.1 gz121)) all0))
      have F203 := own_Ao_keep F199_2 K200 (ninS (Ne.symm ne105_a36) (ninS (Ne.symm ne_ar121_a36) nin0))
      have F204 := Exa.keep F199_3 K200
      have F208 := own_Bn_keep F199_7 K200 hbq
      refine own_tr (B := (T200.setTop (mkF m 149 #[iv p0, iv p1, iv p2, iv p3, iv p4, iv p5, iv (1 : Int32), iv kk, rv a1, rv a4, rv a9, rv a16, rv a25, rv a36, rv a105, iv (1 : Int32), .unset, .unset, .unset, .unset, .unset, .unset, .unset, .unset, .unset] [(.ref a1)]))) st200 ?_
      obtain ⟨T209, X209, e209, st209⟩ := castY X200 hx hZ hown w_7 rfl (Ins.of_exa (own_Bn_exa F208 (List.mem_of_getElem? (i := 0) rfl)) w_9) (g := (mkF m 149 #[iv p0, iv p1, iv p2, iv p3, iv p4, iv p5, iv (1 : Int32), iv kk, rv a1, rv a4, rv a9, rv a16, rv a25, rv a36, rv a105, iv (1 : Int32), .unset, .unset, .unset, .unset, .unset, .unset, .unset, .unset, .unset] [(.ref a1)])) rfl rfl (hb hby at_149)
      refine own_go (B := (T209.setTop (mkF m 152 #[iv p0, iv p1, iv p2, iv p3, iv p4, iv p5, iv (1 : Int32), iv kk, rv a1, rv a4, rv a9, rv a16, rv a25, rv a36, rv a105, iv (1 : Int32), .unset, .unset, .unset, .unset, .unset, .unset, .unset, .unset, .unset] [(.ref a1)]))) st209 ?_
      refine own_go (B := (T209.setTop (mkF m 154 #[iv p0, iv p1, iv p2, iv p3, iv p4, iv p5, iv (1 : Int32), iv kk, rv a1, rv a4, rv a9, rv a16, rv a25, rv a36, rv a105, iv (1 : Int32), rv a1, .unset, .unset, .unset, .unset, .unset, .unset, .unset, .unset] []))) (fun t k => XS.astore X209.here hx rfl (hb hby at_152) rfl rfl (l' := #[iv p0, iv p1, iv p2, iv p3, iv p4, iv p5, iv (1 : Int32), iv kk, rv a1, rv a4, rv a9, rv a16, rv a25, rv a36, rv a105, iv (1 : Int32), rv a1, .unset, .unset, .unset, .unset, .unset, .unset, .unset, .unset]) rfl k) ?_
      refine own_go (B := (T209.setTop (mkF m 156 #[iv p0, iv p1, iv p2, iv p3, iv p4, iv p5, iv (1 : Int32), iv kk, rv a1, rv a4, rv a9, rv a16, rv a25, rv a36, rv a105, iv (1 : Int32), rv a1, .unset, .unset, .unset, .unset, .unset, .unset, .unset, .unset] [(.int (1 : Int32))]))) (fun t k => XS.iload X209.here hx rfl (hb hby at_154) rfl k) ?_
      refine own_go (B := (T209.setTop (mkF m 157 #[iv p0, iv p1, iv p2, iv p3, iv p4, iv p5, iv (1 : Int32), iv kk, rv a1, rv a4, rv a9, rv a16, rv a25, rv a36, rv a105, iv (1 : Int32), rv a1, .unset, .unset, .unset, .unset, .unset, .unset, .unset, .unset] [(.int (1 : Int32)), (.int (1 : Int32))]))) (fun t k => own_iconst (v := (1 : Int32)) X209.here hx rfl (hb hby at_156) (by decide) k) ?_
      have hc157 : ¬ (1 : Int32) < (1 : Int32) := (by decide)
      refine own_icmpN X209 hx (hb hby at_157) (pn := 160) rfl hc157 ?_
      refine own_go (B := (T209.setTop (mkF m 162 #[iv p0, iv p1, iv p2, iv p3, iv p4, iv p5, iv (1 : Int32), iv kk, rv a1, rv a4, rv a9, rv a16, rv a25, rv a36, rv a105, iv (1 : Int32), rv a1, .unset, .unset, .unset, .unset, .unset, .unset, .unset, .unset] [(.ref a36)]))) (fun t k => XS.aload X209.here hx rfl (hb hby at_160) rfl rfl k) ?_
      refine own_go (B := (T209.setTop (mkF m 164 #[iv p0, iv p1, iv p2, iv p3, iv p4, iv p5, iv (1 : Int32), iv kk, rv a1, rv a4, rv a9, rv a16, rv a25, rv a36, rv a105, iv (1 : Int32), rv a1, .unset, .unset, .unset, .unset, .unset, .unset, .unset, .unset] [(.int (1 : Int32)), (.ref a36)]))) (fun t k => XS.iload X209.here hx rfl (hb hby at_162) rfl k) ?_
      refine own_go (B := (T209.setTop (mkF m 165 #[iv p0, iv p1, iv p2, iv p3, iv p4, iv p5, iv (1 : Int32), iv kk, rv a1, rv a4, rv a9, rv a16, rv a25, rv a36, rv a105, iv (1 : Int32), rv a1, .unset, .unset, .unset, .unset, .unset, .unset, .unset, .unset] [(.int (1 : Int32)), (.int (1 : Int32)), (.ref a36)]))) (fun t k => own_iconst (v := (1 : Int32)) X209.here hx rfl (hb hby at_164) (by decide) k) ?_
      refine own_go (B := (T209.setTop (mkF m 166 #[iv p0, iv p1, iv p2, iv p3, iv p4, iv p5, iv (1 : Int32), iv kk, rv a1, rv a4, rv a9, rv a16, rv a25, rv a36, rv a105, iv (1 : Int32), rv a1, .unset, .unset, .unset, .unset, .unset, .unset, .unset, .unset] [(.int ((1 : Int32) - (1 : Int32))), (.ref a36)]))) (fun t k => XS.isub (x := (1 : Int32)) (y := (1 : Int32)) X209.here hx rfl (hb hby at_165) rfl k) ?_
      rw [show ((1 : Int32) - (1 : Int32)) = (0 : Int32) from by decide]
      refine own_go (B := (T209.setTop (mkF m 167 #[iv p0, iv p1, iv p2, iv p3, iv p4, iv p5, iv (1 : Int32), iv kk, rv a1, rv a4, rv a9, rv a16, rv a25, rv a36, rv a105, iv (1 : Int32), rv a1, .unset, .unset, .unset, .unset, .unset, .unset, .unset, .unset] [(.ref a1)]))) (own_ldR X209 hx hZ e209 (own_Ao_ar F203) rfl (v := (.ref a1)) (by decide) rfl (g := (mkF m 166 #[iv p0, iv p1, iv p2, iv p3, iv p4, iv p5, iv (1 : Int32), iv kk, rv a1, rv a4, rv a9, rv a16, rv a25, rv a36, rv a105, iv (1 : Int32), rv a1, .unset, .unset, .unset, .unset, .unset, .unset, .unset, .unset] [(.int (0 : Int32)), (.ref a36)])) rfl rfl (hb hby at_166)) ?_
      refine own_go (B := (T209.setTop (mkF m 171 #[iv p0, iv p1, iv p2, iv p3, iv p4, iv p5, iv (1 : Int32), iv kk, rv a1, rv a4, rv a9, rv a16, rv a25, rv a36, rv a105, iv (1 : Int32), rv a1, .unset, .unset, .unset, .unset, .unset, .unset, .unset, .unset] [(.ref a1)]))) (fun t k => XS.goto X209.here hx rfl (pc0 := 167) (pc' := 171) rfl (hb hby at_167) (by decide) (by decide) k) ?_
      refine own_go (B := (T209.setTop (mkF m 173 #[iv p0, iv p1, iv p2, iv p3, iv p4, iv p5, iv (1 : Int32), iv kk, rv a1, rv a4, rv a9, rv a16, rv a25, rv a36, rv a105, iv (1 : Int32), rv a1, rv a1, .unset, .unset, .unset, .unset, .unset, .unset, .unset] []))) (fun t k => XS.astore X209.here hx rfl (hb hby at_171) rfl rfl (l' := #[iv p0, iv p1, iv p2, iv p3, iv p4, iv p5, iv (1 : Int32), iv kk, rv a1, rv a4, rv a9, rv a16, rv a25, rv a36, rv a105, iv (1 : Int32), rv a1, rv a1, .unset, .unset, .unset, .unset, .unset, .unset, .unset]) rfl k) ?_
      refine own_go (B := (T209.setTop (mkF m 175 #[iv p0, iv p1, iv p2, iv p3, iv p4, iv p5, iv (1 : Int32), iv kk, rv a1, rv a4, rv a9, rv a16, rv a25, rv a36, rv a105, iv (1 : Int32), rv a1, rv a1, .unset, .unset, .unset, .unset, .unset, .unset, .unset] [(.ref a1)]))) (fun t k => XS.aload X209.here hx rfl (hb hby at_173) rfl rfl k) ?_
      refine own_go (B := (T209.setTop (mkF m 177 #[iv p0, iv p1, iv p2, iv p3, iv p4, iv p5, iv (1 : Int32), iv kk, rv a1, rv a4, rv a9, rv a16, rv a25, rv a36, rv a105, iv (1 : Int32), rv a1, rv a1, .unset, .unset, .unset, .unset, .unset, .unset, .unset] [(.ref a1), (.ref a1)]))) (fun t k => XS.aload X209.here hx rfl (hb hby at_175) rfl rfl k) ?_
      obtain ⟨_, _, ⟨T210, L210, k210, n210⟩, -, X210, ⟨Lc210, hQ210, l210, y210, z210⟩, st210⟩ := Jvm.LawKit.callS X209 hx (y := own_y7) hown (mvT hZ w_34) (mvT hZ w_35) (mvT hZ w_36) (mvT hZ w_37) (by decide) (backOf (W := 0) (own_same1 l Z a0 hw [] a1 a1 p1 T200.heap n0 (own_Bn_exa F208 (List.mem_of_getElem? (i := 0) rfl)) (own_Bn_fld F208 (List.mem_of_getElem? (i := 0) rfl)) (own_Bn_exa F208 (List.mem_of_getElem? (i := 0) rfl)) (own_Bn_fld F208 (List.mem_of_getElem? (i := 0) rfl))) hZ w_37 w_36 (by decide) (by decide)) (g := (mkF m 177 #[iv p0, iv p1, iv p2, iv p3, iv p4, iv p5, iv (1 : Int32), iv kk, rv a1, rv a4, rv a9, rv a16, rv a25, rv a36, rv a105, iv (1 : Int32), rv a1, rv a1, .unset, .unset, .unset, .unset, .unset, .unset, .unset] [(.ref a1), (.ref a1)])) rfl (by rw [hml]; rfl) (argsL := [(.ref a1), (.ref a1)]) (rest := []) (lenOf own_pd6 rfl) rfl (by show 2 * 0 + _ ≤ _; exact own_b rfl) (hb hby at_177) (fun _ _ => ⟨rfl, e209, (own_b rfl : 8 + 0 ≤ _), (own_b rfl : 14 + 0 ≤ _)⟩)
      dsimp only [Pt.U, Pt.locs, Pt.cells, Pt.slots] at X210 l210 y210 z210 st210 hQ210
      obtain ⟨rfl, Nq210, eq210⟩ := hQ210
      obtain ⟨L210, X210, N210⟩ := own_absC (K := 8) (K' := 14) X210 l210 y210 z210 N200 Nq210
      have e210 : T210.heap = T200.heap := eq210
      refine own_go (B := (T210.setTop (mkF m 180 #[iv p0, iv p1, iv p2, iv p3, iv p4, iv p5, iv (1 : Int32), iv kk, rv a1, rv a4, rv a9, rv a16, rv a25, rv a36, rv a105, iv (1 : Int32), rv a1, rv a1, .unset, .unset, .unset, .unset, .unset, .unset, .unset] [(.int (1 : Int32))]))) st210 ?_
      have hc180 : ¬ (1 : Int32) = (0 : Int32) := (by decide)
      refine own_ifY X210 hx (hb hby at_180) (pc' := 185) (by decide) (by decide) hc180 ?_
      refine own_go (B := (T210.setTop (mkF m 187 #[iv p0, iv p1, iv p2, iv p3, iv p4, iv p5, iv (1 : Int32), iv kk, rv a1, rv a4, rv a9, rv a16, rv a25, rv a36, rv a105, iv (1 : Int32), rv a1, rv a1, .unset, .unset, .unset, .unset, .unset, .unset, .unset] [(.ref a105)]))) (fun t k => XS.aload X210.here hx rfl (hb hby at_185) rfl rfl k) ?_
      obtain ⟨cq211, kq211, qa211, qb211, qc211⟩ := isOf hZ e210 Ex200
      obtain ⟨_, _, ⟨T211, L211, k211, n211⟩, -, X211, ⟨Lc211, hQ211, l211, y211, z211⟩, st211⟩ := X210.virtualBack hx (y := own_y6) (z := own_y6) hown (mvT hZ w_27) (mvT hZ w_28) (notFace_of_selects (args := #[]) (mvT hZ w_30)) (mvT hZ w_30) (mvT hZ w_29) (by decide) (backOf (W := 0) (own_tnone l Z a0 hw [] a105 T200.heap n0 gc200) hZ w_31 w_12 (by decide) (by decide)) qa211 qc211 (g := (mkF m 187 #[iv p0, iv p1, iv p2, iv p3, iv p4, iv p5, iv (1 : Int32), iv kk, rv a1, rv a4, rv a9, rv a16, rv a25, rv a36, rv a105, iv (1 : Int32), rv a1, rv a1, .unset, .unset, .unset, .unset, .unset, .unset, .unset] [(.ref a105)])) rfl (by rw [hml]; rfl) (Steps.refl _) (argsL := []) (rest := []) (lenOf own_pd5 rfl) rfl (by show 2 * 0 + _ ≤ _; exact own_b rfl) (hb hby at_187) (fun _ _ => ⟨rfl, e210, (own_b rfl : 8 + 0 ≤ _), (own_b rfl : 14 + 0 ≤ _)⟩)
      dsimp only [Pt.U, Pt.locs, Pt.cells, Pt.slots] at X211 l211 y211 z211 st211 hQ211
      obtain ⟨rfl, Nq211, eq211⟩ := hQ211
      obtain ⟨L211, X211, N211⟩ := own_absC (K := 8) (K' := 14) X211 l211 y211 z211 N210 Nq211
      have e211 : T211.heap = T200.heap := eq211
      refine own_tr (B := (T211.setTop (mkF m 190 #[iv p0, iv p1, iv p2, iv p3, iv p4, iv p5, iv (1 : Int32), iv kk, rv a1, rv a4, rv a9, rv a16, rv a25, rv a36, rv a105, iv (1 : Int32), rv a1, rv a1, .unset, .unset, .unset, .unset, .unset, .unset, .unset] [.null]))) st211 ?_
      refine own_go (B := (T211.setTop (mkF m 193 #[iv p0, iv p1, iv p2, iv p3, iv p4, iv p5, iv (1 : Int32), iv kk, rv a1, rv a4, rv a9, rv a16, rv a25, rv a36, rv a105, iv (1 : Int32), rv a1, rv a1, .unset, .unset, .unset, .unset, .unset, .unset, .unset] [.null]))) (X211.checkcastNull hx (g := (mkF m 190 #[iv p0, iv p1, iv p2, iv p3, iv p4, iv p5, iv (1 : Int32), iv kk, rv a1, rv a4, rv a9, rv a16, rv a25, rv a36, rv a105, iv (1 : Int32), rv a1, rv a1, .unset, .unset, .unset, .unset, .unset, .unset, .unset] [.null])) rfl rfl (hb hby at_190)) ?_
      refine own_go (B := (T211.setTop (mkF m 195 #[iv p0, iv p1, iv p2, iv p3, iv p4, iv p5, iv (1 : Int32), iv kk, rv a1, rv a4, rv a9, rv a16, rv a25, rv a36, rv a105, iv (1 : Int32), rv a1, rv a1, .val .null, .unset, .unset, .unset, .unset, .unset, .unset] []))) (fun t k => XS.astore X211.here hx rfl (hb hby at_193) rfl rfl (l' := #[iv p0, iv p1, iv p2, iv p3, iv p4, iv p5, iv (1 : Int32), iv kk, rv a1, rv a4, rv a9, rv a16, rv a25, rv a36, rv a105, iv (1 : Int32), rv a1, rv a1, .val .null, .unset, .unset, .unset, .unset, .unset, .unset]) rfl k) ?_
      refine own_go (B := (T211.setTop (mkF m 197 #[iv p0, iv p1, iv p2, iv p3, iv p4, iv p5, iv (1 : Int32), iv kk, rv a1, rv a4, rv a9, rv a16, rv a25, rv a36, rv a105, iv (1 : Int32), rv a1, rv a1, .val .null, .unset, .unset, .unset, .unset, .unset, .unset] [(.int (1 : Int32))]))) (fun t k => XS.iload X211.here hx rfl (hb hby at_195) rfl k) ?_
      refine own_go (B := (T211.setTop (mkF m 198 #[iv p0, iv p1, iv p2, iv p3, iv p4, iv p5, iv (1 : Int32), iv kk, rv a1, rv a4, rv a9, rv a16, rv a25, rv a36, rv a105, iv (1 : Int32), rv a1, rv a1, .val .null, .unset, .unset, .unset, .unset, .unset, .unset] [(.int (2 : Int32)), (.int (1 : Int32))]))) (fun t k => own_iconst (v := (2 : Int32)) X211.here hx rfl (hb hby at_197) (by decide) k) ?_
      have hc198 : (1 : Int32) < (2 : Int32) := (by decide)
      refine own_icmpY X211 hx (hb hby at_198) (pc' := 211) (by decide) (by decide) hc198 ?_
      refine own_go (B := (T211.setTop (mkF m 212 #[iv p0, iv p1, iv p2, iv p3, iv p4, iv p5, iv (1 : Int32), iv kk, rv a1, rv a4, rv a9, rv a16, rv a25, rv a36, rv a105, iv (1 : Int32), rv a1, rv a1, .val .null, .unset, .unset, .unset, .unset, .unset, .unset] [.null]))) (fun t k => XS.aconstNull X211.here hx rfl (hb hby at_211) k) ?_
      refine own_go (B := (T211.setTop (mkF m 214 #[iv p0, iv p1, iv p2, iv p3, iv p4, iv p5, iv (1 : Int32), iv kk, rv a1, rv a4, rv a9, rv a16, rv a25, rv a36, rv a105, iv (1 : Int32), rv a1, rv a1, .val .null, .val .null, .unset, .unset, .unset, .unset, .unset] []))) (fun t k => XS.astore X211.here hx rfl (hb hby at_212) rfl rfl (l' := #[iv p0, iv p1, iv p2, iv p3, iv p4, iv p5, iv (1 : Int32), iv kk, rv a1, rv a4, rv a9, rv a16, rv a25, rv a36, rv a105, iv (1 : Int32), rv a1, rv a1, .val .null, .val .null, .unset, .unset, .unset, .unset, .unset]) rfl k) ?_
      refine own_go (B := (T211.setTop (mkF m 216 #[iv p0, iv p1, iv p2, iv p3, iv p4, iv p5, iv (1 : Int32), iv kk, rv a1, rv a4, rv a9, rv a16, rv a25, rv a36, rv a105, iv (1 : Int32), rv a1, rv a1, .val .null, .val .null, .unset, .unset, .unset, .unset, .unset] [.null]))) (fun t k => XS.aload X211.here hx rfl (hb hby at_214) rfl rfl k) ?_
      refine own_go (B := (T211.setTop (mkF m 218 #[iv p0, iv p1, iv p2, iv p3, iv p4, iv p5, iv (1 : Int32), iv kk, rv a1, rv a4, rv a9, rv a16, rv a25, rv a36, rv a105, iv (1 : Int32), rv a1, rv a1, .val .null, .val .null, .unset, .unset, .unset, .unset, .unset] [.null, .null]))) (fun t k => XS.aload X211.here hx rfl (hb hby at_216) rfl rfl k) ?_
      obtain ⟨_, _, ⟨T213, L213, k213, n213⟩, -, X213, ⟨Lc213, hQ213, l213, y213, z213⟩, st213⟩ := Jvm.LawKit.callS X211 hx (y := own_y7) hown (mvT hZ w_34) (mvT hZ w_35) (mvT hZ w_36) (mvT hZ w_37) (by decide) (backOf (W := 0) (own_same0 l Z a0 hw [] T200.heap n0) hZ w_37 w_36 (by decide) (by decide)) (g := (mkF m 218 #[iv p0, iv p1, iv p2, iv p3, iv p4, iv p5, iv (1 : Int32), iv kk, rv a1, rv a4, rv a9, rv a16, rv a25, rv a36, rv a105, iv (1 : Int32), rv a1, rv a1, .val .null, .val .null, .unset, .unset, .unset, .unset, .unset] [.null, .null])) rfl (by rw [hml]; rfl) (argsL := [.null, .null]) (rest := []) (lenOf own_pd6 rfl) rfl (by show 2 * 0 + _ ≤ _; exact own_b rfl) (hb hby at_218) (fun _ _ => ⟨rfl, e211, (own_b rfl : 8 + 0 ≤ _), (own_b rfl : 14 + 0 ≤ _)⟩)
      dsimp only [Pt.U, Pt.locs, Pt.cells, Pt.slots] at X213 l213 y213 z213 st213 hQ213
      obtain ⟨rfl, Nq213, eq213⟩ := hQ213
      obtain ⟨L213, X213, N213⟩ := own_absC (K := 8) (K' := 14) X213 l213 y213 z213 N211 Nq213
      have e213 : T213.heap = T200.heap := eq213
      refine own_go (B := (T213.setTop (mkF m 221 #[iv p0, iv p1, iv p2, iv p3, iv p4, iv p5, iv (1 : Int32), iv kk, rv a1, rv a4, rv a9, rv a16, rv a25, rv a36, rv a105, iv (1 : Int32), rv a1, rv a1, .val .null, .val .null, .unset, .unset, .unset, .unset, .unset] [(.int (1 : Int32))]))) st213 ?_
      have hc221 : ¬ (1 : Int32) = (0 : Int32) := (by decide)
      refine own_ifY X213 hx (hb hby at_221) (pc' := 226) (by decide) (by decide) hc221 ?_
      refine own_go (B := (T213.setTop (mkF m 228 #[iv p0, iv p1, iv p2, iv p3, iv p4, iv p5, iv (1 : Int32), iv kk, rv a1, rv a4, rv a9, rv a16, rv a25, rv a36, rv a105, iv (1 : Int32), rv a1, rv a1, .val .null, .val .null, .unset, .unset, .unset, .unset, .unset] [(.int (1 : Int32))]))) (fun t k => XS.iload X213.here hx rfl (hb hby at_226) rfl k) ?_
      refine own_go (B := (T213.setTop (mkF m 229 #[iv p0, iv p1, iv p2, iv p3, iv p4, iv p5, iv (1 : Int32), iv kk, rv a1, rv a4, rv a9, rv a16, rv a25, rv a36, rv a105, iv (1 : Int32), rv a1, rv a1, .val .null, .val .null, .unset, .unset, .unset, .unset, .unset] [(.int (2 : Int32)), (.int (1 : Int32))]))) (fun t k => own_iconst (v := (2 : Int32)) X213.here hx rfl (hb hby at_228) (by decide) k) ?_
      refine own_go (B := (T213.setTop (mkF m 230 #[iv p0, iv p1, iv p2, iv p3, iv p4, iv p5, iv (1 : Int32), iv kk, rv a1, rv a4, rv a9, rv a16, rv a25, rv a36, rv a105, iv (1 : Int32), rv a1, rv a1, .val .null, .val .null, .unset, .unset, .unset, .unset, .unset] [(.int ((1 : Int32) - (2 : Int32)))]))) (fun t k => XS.isub (x := (1 : Int32)) (y := (2 : Int32)) X213.here hx rfl (hb hby at_229) rfl k) ?_
      rw [show ((1 : Int32) - (2 : Int32)) = (-1 : Int32) from by decide]
      refine own_go (B := (T213.setTop (mkF m 231 #[iv p0, iv p1, iv p2, iv p3, iv p4, iv p5, iv (1 : Int32), iv kk, rv a1, rv a4, rv a9, rv a16, rv a25, rv a36, rv a105, iv (1 : Int32), rv a1, rv a1, .val .null, .val .null, .unset, .unset, .unset, .unset, .unset] [(.int (0 : Int32)), (.int (-1 : Int32))]))) (fun t k => own_iconst (v := (0 : Int32)) X213.here hx rfl (hb hby at_230) (by decide) k) ?_
      obtain ⟨_, _, ⟨T214, L214, k214, n214⟩, -, X214, ⟨Lc214, hQ214, l214, y214, z214⟩, st214⟩ := Jvm.LawKit.callS X213 hx (y := own_y8) hown (mvT hZ w_38) (mvT hZ w_39) (mvT hZ w_25) (mvT hZ w_40) (by decide) (backOf (W := 0) (own_mmax l Z a0 hw [] (-1 : Int32) (0 : Int32) T200.heap n0) hZ w_40 w_25 (by decide) (by decide)) (g := (mkF m 231 #[iv p0, iv p1, iv p2, iv p3, iv p4, iv p5, iv (1 : Int32), iv kk, rv a1, rv a4, rv a9, rv a16, rv a25, rv a36, rv a105, iv (1 : Int32), rv a1, rv a1, .val .null, .val .null, .unset, .unset, .unset, .unset, .unset] [(.int (0 : Int32)), (.int (-1 : Int32))])) rfl (by rw [hml]; rfl) (argsL := [(.int (-1 : Int32)), (.int (0 : Int32))]) (rest := []) (lenOf own_pd7 rfl) rfl (by show 2 * 0 + _ ≤ _; exact own_b rfl) (hb hby at_231) (fun _ _ => ⟨rfl, e213, (own_b rfl : 8 + 0 ≤ _), (own_b rfl : 14 + 0 ≤ _)⟩)
      dsimp only [Pt.U, Pt.locs, Pt.cells, Pt.slots] at X214 l214 y214 z214 st214 hQ214
      obtain ⟨rfl, Nq214, eq214⟩ := hQ214
      obtain ⟨L214, X214, N214⟩ := own_absC (K := 8) (K' := 14) X214 l214 y214 z214 N213 Nq214
      have e214 : T214.heap = T200.heap := eq214
      refine own_go (B := (T214.setTop (mkF m 234 #[iv p0, iv p1, iv p2, iv p3, iv p4, iv p5, iv (1 : Int32), iv kk, rv a1, rv a4, rv a9, rv a16, rv a25, rv a36, rv a105, iv (1 : Int32), rv a1, rv a1, .val .null, .val .null, .unset, .unset, .unset, .unset, .unset] [(.int (own_max (-1 : Int32) (0 : Int32)))]))) st214 ?_
      rw [show own_max (-1 : Int32) (0 : Int32) = (0 : Int32) from by decide]
      refine own_go (B := (T214.setTop (mkF m 236 #[iv p0, iv p1, iv p2, iv p3, iv p4, iv p5, iv (1 : Int32), iv kk, rv a1, rv a4, rv a9, rv a16, rv a25, rv a36, rv a105, iv (1 : Int32), rv a1, rv a1, .val .null, .val .null, iv (0 : Int32), .unset, .unset, .unset, .unset] []))) (fun t k => XS.istore X214.here hx rfl (hb hby at_234) rfl (l' := #[iv p0, iv p1, iv p2, iv p3, iv p4, iv p5, iv (1 : Int32), iv kk, rv a1, rv a4, rv a9, rv a16, rv a25, rv a36, rv a105, iv (1 : Int32), rv a1, rv a1, .val .null, .val .null, iv (0 : Int32), .unset, .unset, .unset, .unset]) rfl k) ?_
      refine own_go (B := (T214.setTop (mkF m 238 #[iv p0, iv p1, iv p2, iv p3, iv p4, iv p5, iv (1 : Int32), iv kk, rv a1, rv a4, rv a9, rv a16, rv a25, rv a36, rv a105, iv (1 : Int32), rv a1, rv a1, .val .null, .val .null, iv (0 : Int32), .unset, .unset, .unset, .unset] [(.ref a105)]))) (fun t k => XS.aload X214.here hx rfl (hb hby at_236) rfl rfl k) ?_
      refine own_go (B := (T214.setTop (mkF m 240 #[iv p0, iv p1, iv p2, iv p3, iv p4, iv p5, iv (1 : Int32), iv kk, rv a1, rv a4, rv a9, rv a16, rv a25, rv a36, rv a105, iv (1 : Int32), rv a1, rv a1, .val .null, .val .null, iv (0 : Int32), .unset, .unset, .unset, .unset] [(.ref a25), (.ref a105)]))) (fun t k => XS.aload X214.here hx rfl (hb hby at_238) rfl rfl k) ?_
      obtain ⟨cq215, kq215, qa215, qb215, qc215⟩ := isOf hZ e214 Ex200
      obtain ⟨_, _, ⟨T215, L215, k215, n215⟩, -, X215, ⟨Lc215, hQ215, l215, y215, z215⟩, st215⟩ := X214.virtualBack hx (y := own_y9) (z := own_y9) hown (mvT hZ w_41) (mvT hZ w_42) (notFace_of_selects (args := #[]) (mvT hZ w_44)) (mvT hZ w_44) (mvT hZ w_43) (by decide) (backOf (W := 0) (own_kone l Z a0 hw [] a105 a25 ar121 (0 : Int32) (1 : Int32) (1 : Int32) [.null] [(.ref a25)] T200.heap n0 Ex200 gk200 gc200 gv200 F201 gn105 gn_ar121 ne_ar121_a105 (own_lenL (n := 1) rfl (by decide)) (by decide) (by decide) (Nat.lt_of_lt_of_eq (by decide : _ < 1) rfl) (by decide) (Ins.of_exa (own_Bn_exa F208 (List.mem_of_getElem? (i := 4) rfl)) w_60) rfl) hZ w_45 w_12 (by decide) (by decide)) qa215 qc215 (g := (mkF m 240 #[iv p0, iv p1, iv p2, iv p3, iv p4, iv p5, iv (1 : Int32), iv kk, rv a1, rv a4, rv a9, rv a16, rv a25, rv a36, rv a105, iv (1 : Int32), rv a1, rv a1, .val .null, .val .null, iv (0 : Int32), .unset, .unset, .unset, .unset] [(.ref a25), (.ref a105)])) rfl (by rw [hml]; rfl) (Steps.refl _) (argsL := [(.ref a25)]) (rest := []) (lenOf own_pd8 rfl) rfl (by show 2 * 0 + _ ≤ _; exact own_b rfl) (hb hby at_240) (fun _ _ => ⟨rfl, e214, (own_b rfl : 8 + 0 ≤ _), (own_b rfl : 14 + 0 ≤ _)⟩)
      dsimp only [Pt.U, Pt.locs, Pt.cells, Pt.slots] at X215 l215 y215 z215 st215 hQ215
      obtain ⟨rfl, Nq215, K215, Ex215, gk215, gc215, gv215⟩ := hQ215
      obtain ⟨L215, X215, N215⟩ := own_absC (K := 8) (K' := 14) X215 l215 y215 z215 N214 Nq215
      have F216 : n0 ≤ T215.heap.size := Nat.le_trans F201 K215.1
      have F217 := Keep.trans F202 K215 (allS (Or.inr (Nat.le_trans F93.1 (Nat.le_of_eq ga105.symm))) (allS (Or.inr (Nat.le_trans K107.1 gz121)) all0))
      have F218 := own_Ao_keep F203 K215 (ninS (Ne.symm ne105_a36) (ninS (Ne.symm ne_ar121_a36) nin0))
      have F219 := Exa.keep Ex200 K215
      have F220 := own_Bn_keep F208 K215 hbq
      refine own_tr (B := (T215.setTop (mkF m 243 #[iv p0, iv p1, iv p2, iv p3, iv p4, iv p5, iv (1 : Int32), iv kk, rv a1, rv a4, rv a9, rv a16, rv a25, rv a36, rv a105, iv (1 : Int32), rv a1, rv a1, .val .null, .val .null, iv (0 : Int32), .unset, .unset, .unset, .unset] []))) st215 ?_
      refine own_go (B := (T215.setTop (mkF m 245 #[iv p0, iv p1, iv p2, iv p3, iv p4, iv p5, iv (1 : Int32), iv kk, rv a1, rv a4, rv a9, rv a16, rv a25, rv a36, rv a105, iv (1 : Int32), rv a1, rv a1, .val .null, .val .null, iv (0 : Int32), .unset, .unset, .unset, .unset] [(.ref a105)]))) (fun t k => XS.aload X215.here hx rfl (hb hby at_243) rfl rfl k) ?_
      obtain ⟨cq224, kq224, qa224, qb224, qc224⟩ := isOf hZ rfl Ex215
      obtain ⟨_, _, ⟨T224, L224, k224, n224⟩, -, X224, ⟨Lc224, hQ224, l224, y224, z224⟩, st224⟩ := X215.virtualBack hx (y := own_y6) (z := own_y6) hown (mvT hZ w_27) (mvT hZ w_28) (notFace_of_selects (args := #[]) (mvT hZ w_30)) (mvT hZ w_30) (mvT hZ w_29) (by decide) (backOf (W := 0) (own_tone l Z a0 hw [] a105 ar121 a25 (1 : Int32) (0 : Int32) [(.ref a25)] [.null] T215.heap n0 Ex215 gk215 gc215 gv215 F216 gn105 gn_ar121 ne_ar121_a105 (by decide) (by decide) (by decide) rfl rfl) hZ w_31 w_12 (by decide) (by decide)) qa224 qc224 (g := (mkF m 245 #[iv p0, iv p1, iv p2, iv p3, iv p4, iv p5, iv (1 : Int32), iv kk, rv a1, rv a4, rv a9, rv a16, rv a25, rv a36, rv a105, iv (1 : Int32), rv a1, rv a1, .val .null, .val .null, iv (0 : Int32), .unset, .unset, .unset, .unset] [(.ref a105)])) rfl (by rw [hml]; rfl) (Steps.refl _) (argsL := []) (rest := []) (lenOf own_pd5 rfl) rfl (by show 2 * 0 + _ ≤ _; exact own_b rfl) (hb hby at_245) (fun _ _ => ⟨rfl, rfl, (own_b rfl : 8 + 0 ≤ _), (own_b rfl : 14 + 0 ≤ _)⟩)
      dsimp only [Pt.U, Pt.locs, Pt.cells, Pt.slots] at X224 l224 y224 z224 st224 hQ224
      obtain ⟨rfl, Nq224, K224, Ex224, gk224, gc224, gv224⟩ := hQ224
      obtain ⟨L224, X224, N224⟩ := own_absC (K := 8) (K' := 14) X224 l224 y224 z224 N215 Nq224
      have F225 : n0 ≤ T224.heap.size := Nat.le_trans F216 K224.1
      have F226 := Keep.trans F217 K224 (allS (Or.inr (Nat.le_trans F93.1 (Nat.le_of_eq ga105.symm))) (allS (Or.inr (Nat.le_trans K107.1 gz121)) all0))
      have F227 := own_Ao_keep F218 K224 (ninS (Ne.symm ne105_a36) (ninS (Ne.symm ne_ar121_a36) nin0))
      have F228 := Exa.keep Ex215 K224
      have F229 := own_Bn_keep F220 K224 hbq
      refine own_tr (B := (T224.setTop (mkF m 248 #[iv p0, iv p1, iv p2, iv p3, iv p4, iv p5, iv (1 : Int32), iv kk, rv a1, rv a4, rv a9, rv a16, rv a25, rv a36, rv a105, iv (1 : Int32), rv a1, rv a1, .val .null, .val .null, iv (0 : Int32), .unset, .unset, .unset, .unset] [(.ref a25)]))) st224 ?_
      obtain ⟨T233, X233, e233, st233⟩ := castY X224 hx hZ hown w_7 rfl (Ins.of_exa (own_Bn_exa F229 (List.mem_of_getElem? (i := 4) rfl)) w_9) (g := (mkF m 248 #[iv p0, iv p1, iv p2, iv p3, iv p4, iv p5, iv (1 : Int32), iv kk, rv a1, rv a4, rv a9, rv a16, rv a25, rv a36, rv a105, iv (1 : Int32), rv a1, rv a1, .val .null, .val .null, iv (0 : Int32), .unset, .unset, .unset, .unset] [(.ref a25)])) rfl rfl (hb hby at_248)
      refine own_go (B := (T233.setTop (mkF m 251 #[iv p0, iv p1, iv p2, iv p3, iv p4, iv p5, iv (1 : Int32), iv kk, rv a1, rv a4, rv a9, rv a16, rv a25, rv a36, rv a105, iv (1 : Int32), rv a1, rv a1, .val .null, .val .null, iv (0 : Int32), .unset, .unset, .unset, .unset] [(.ref a25)]))) st233 ?_
      refine own_go (B := (T233.setTop (mkF m 253 #[iv p0, iv p1, iv p2, iv p3, iv p4, iv p5, iv (1 : Int32), iv kk, rv a1, rv a4, rv a9, rv a16, rv a25, rv a36, rv a105, iv (1 : Int32), rv a1, rv a1, .val .null, .val .null, iv (0 : Int32), rv a25, .unset, .unset, .unset] []))) (fun t k => XS.astore X233.here hx rfl (hb hby at_251) rfl rfl (l' := #[iv p0, iv p1, iv p2, iv p3, iv p4, iv p5, iv (1 : Int32), iv kk, rv a1, rv a4, rv a9, rv a16, rv a25, rv a36, rv a105, iv (1 : Int32), rv a1, rv a1, .val .null, .val .null, iv (0 : Int32), rv a25, .unset, .unset, .unset]) rfl k) ?_
      refine own_go (B := (T233.setTop (mkF m 255 #[iv p0, iv p1, iv p2, iv p3, iv p4, iv p5, iv (1 : Int32), iv kk, rv a1, rv a4, rv a9, rv a16, rv a25, rv a36, rv a105, iv (1 : Int32), rv a1, rv a1, .val .null, .val .null, iv (0 : Int32), rv a25, .unset, .unset, .unset] [(.int (1 : Int32))]))) (fun t k => XS.iload X233.here hx rfl (hb hby at_253) rfl k) ?_
      have hc255 : (0 : Int32) < (1 : Int32) := (by decide)
      refine own_ifN X233 hx (hb hby at_255) (pn := 258) rfl hc255 ?_
      refine own_go (B := (T233.setTop (mkF m 260 #[iv p0, iv p1, iv p2, iv p3, iv p4, iv p5, iv (1 : Int32), iv kk, rv a1, rv a4, rv a9, rv a16, rv a25, rv a36, rv a105, iv (1 : Int32), rv a1, rv a1, .val .null, .val .null, iv (0 : Int32), rv a25, .unset, .unset, .unset] [(.ref a25)]))) (fun t k => XS.aload X233.here hx rfl (hb hby at_258) rfl rfl k) ?_
      refine own_go (B := (T233.setTop (mkF m 264 #[iv p0, iv p1, iv p2, iv p3, iv p4, iv p5, iv (1 : Int32), iv kk, rv a1, rv a4, rv a9, rv a16, rv a25, rv a36, rv a105, iv (1 : Int32), rv a1, rv a1, .val .null, .val .null, iv (0 : Int32), rv a25, .unset, .unset, .unset] [(.ref a25)]))) (fun t k => XS.goto X233.here hx rfl (pc0 := 260) (pc' := 264) rfl (hb hby at_260) (by decide) (by decide) k) ?_
      refine own_go (B := (T233.setTop (mkF m 266 #[iv p0, iv p1, iv p2, iv p3, iv p4, iv p5, iv (1 : Int32), iv kk, rv a1, rv a4, rv a9, rv a16, rv a25, rv a36, rv a105, iv (1 : Int32), rv a1, rv a1, .val .null, .val .null, iv (0 : Int32), rv a25, rv a25, .unset, .unset] []))) (fun t k => XS.astore X233.here hx rfl (hb hby at_264) rfl rfl (l' := #[iv p0, iv p1, iv p2, iv p3, iv p4, iv p5, iv (1 : Int32), iv kk, rv a1, rv a4, rv a9, rv a16, rv a25, rv a36, rv a105, iv (1 : Int32), rv a1, rv a1, .val .null, .val .null, iv (0 : Int32), rv a25, rv a25, .unset, .unset]) rfl k) ?_
      refine own_go (B := (T233.setTop (mkF m 268 #[iv p0, iv p1, iv p2, iv p3, iv p4, iv p5, iv (1 : Int32), iv kk, rv a1, rv a4, rv a9, rv a16, rv a25, rv a36, rv a105, iv (1 : Int32), rv a1, rv a1, .val .null, .val .null, iv (0 : Int32), rv a25, rv a25, .unset, .unset] [(.ref a25)]))) (fun t k => XS.aload X233.here hx rfl (hb hby at_266) rfl rfl k) ?_
      refine own_go (B := (T233.setTop (mkF m 270 #[iv p0, iv p1, iv p2, iv p3, iv p4, iv p5, iv (1 : Int32), iv kk, rv a1, rv a4, rv a9, rv a16, rv a25, rv a36, rv a105, iv (1 : Int32), rv a1, rv a1, .val .null, .val .null, iv (0 : Int32), rv a25, rv a25, .unset, .unset] [(.ref a25), (.ref a25)]))) (fun t k => XS.aload X233.here hx rfl (hb hby at_268) rfl rfl k) ?_
      obtain ⟨_, _, ⟨T234, L234, k234, n234⟩, -, X234, ⟨Lc234, hQ234, l234, y234, z234⟩, st234⟩ := Jvm.LawKit.callS X233 hx (y := own_y7) hown (mvT hZ w_34) (mvT hZ w_35) (mvT hZ w_36) (mvT hZ w_37) (by decide) (backOf (W := 0) (own_same1 l Z a0 hw [] a25 a25 p5 T224.heap n0 (own_Bn_exa F229 (List.mem_of_getElem? (i := 4) rfl)) (own_Bn_fld F229 (List.mem_of_getElem? (i := 4) rfl)) (own_Bn_exa F229 (List.mem_of_getElem? (i := 4) rfl)) (own_Bn_fld F229 (List.mem_of_getElem? (i := 4) rfl))) hZ w_37 w_36 (by decide) (by decide)) (g := (mkF m 270 #[iv p0, iv p1, iv p2, iv p3, iv p4, iv p5, iv (1 : Int32), iv kk, rv a1, rv a4, rv a9, rv a16, rv a25, rv a36, rv a105, iv (1 : Int32), rv a1, rv a1, .val .null, .val .null, iv (0 : Int32), rv a25, rv a25, .unset, .unset] [(.ref a25), (.ref a25)])) rfl (by rw [hml]; rfl) (argsL := [(.ref a25), (.ref a25)]) (rest := []) (lenOf own_pd6 rfl) rfl (by show 2 * 0 + _ ≤ _; exact own_b rfl) (hb hby at_270) (fun _ _ => ⟨rfl, e233, (own_b rfl : 8 + 0 ≤ _), (own_b rfl : 14 + 0 ≤ _)⟩)
      dsimp only [Pt.U, Pt.locs, Pt.cells, Pt.slots] at X234 l234 y234 z234 st234 hQ234
      obtain ⟨rfl, Nq234, eq234⟩ := hQ234
      obtain ⟨L234, X234, N234⟩ := own_absC (K := 8) (K' := 14) X234 l234 y234 z234 N224 Nq234
      have e234 : T234.heap = T224.heap := eq234
      refine own_go (B := (T234.setTop (mkF m 273 #[iv p0, iv p1, iv p2, iv p3, iv p4, iv p5, iv (1 : Int32), iv kk, rv a1, rv a4, rv a9, rv a16, rv a25, rv a36, rv a105, iv (1 : Int32), rv a1, rv a1, .val .null, .val .null, iv (0 : Int32), rv a25, rv a25, .unset, .unset] [(.int (1 : Int32))]))) st234 ?_
      have hc273 : ¬ (1 : Int32) = (0 : Int32) := (by decide)
      refine own_ifY X234 hx (hb hby at_273) (pc' := 278) (by decide) (by decide) hc273 ?_
      refine own_go (B := (T234.setTop (mkF m 280 #[iv p0, iv p1, iv p2, iv p3, iv p4, iv p5, iv (1 : Int32), iv kk, rv a1, rv a4, rv a9, rv a16, rv a25, rv a36, rv a105, iv (1 : Int32), rv a1, rv a1, .val .null, .val .null, iv (0 : Int32), rv a25, rv a25, .unset, .unset] [(.ref a105)]))) (fun t k => XS.aload X234.here hx rfl (hb hby at_278) rfl rfl k) ?_
      obtain ⟨cq235, kq235, qa235, qb235, qc235⟩ := isOf hZ e234 Ex224
      obtain ⟨_, _, ⟨T235, L235, k235, n235⟩, -, X235, ⟨Lc235, hQ235, l235, y235, z235⟩, st235⟩ := X234.virtualBack hx (y := own_y6) (z := own_y6) hown (mvT hZ w_27) (mvT hZ w_28) (notFace_of_selects (args := #[]) (mvT hZ w_30)) (mvT hZ w_30) (mvT hZ w_29) (by decide) (backOf (W := 0) (own_tnone l Z a0 hw [] a105 T224.heap n0 gc224) hZ w_31 w_12 (by decide) (by decide)) qa235 qc235 (g := (mkF m 280 #[iv p0, iv p1, iv p2, iv p3, iv p4, iv p5, iv (1 : Int32), iv kk, rv a1, rv a4, rv a9, rv a16, rv a25, rv a36, rv a105, iv (1 : Int32), rv a1, rv a1, .val .null, .val .null, iv (0 : Int32), rv a25, rv a25, .unset, .unset] [(.ref a105)])) rfl (by rw [hml]; rfl) (Steps.refl _) (argsL := []) (rest := []) (lenOf own_pd5 rfl) rfl (by show 2 * 0 + _ ≤ _; exact own_b rfl) (hb hby at_280) (fun _ _ => ⟨rfl, e234, (own_b rfl : 8 + 0 ≤ _), (own_b rfl : 14 + 0 ≤ _)⟩)
      dsimp only [Pt.U, Pt.locs, Pt.cells, Pt.slots] at X235 l235 y235 z235 st235 hQ235
      obtain ⟨rfl, Nq235, eq235⟩ := hQ235
      obtain ⟨L235, X235, N235⟩ := own_absC (K := 8) (K' := 14) X235 l235 y235 z235 N234 Nq235
      have e235 : T235.heap = T224.heap := eq235
      refine own_tr (B := (T235.setTop (mkF m 283 #[iv p0, iv p1, iv p2, iv p3, iv p4, iv p5, iv (1 : Int32), iv kk, rv a1, rv a4, rv a9, rv a16, rv a25, rv a36, rv a105, iv (1 : Int32), rv a1, rv a1, .val .null, .val .null, iv (0 : Int32), rv a25, rv a25, .unset, .unset] [.null]))) st235 ?_
      refine own_go (B := (T235.setTop (mkF m 286 #[iv p0, iv p1, iv p2, iv p3, iv p4, iv p5, iv (1 : Int32), iv kk, rv a1, rv a4, rv a9, rv a16, rv a25, rv a36, rv a105, iv (1 : Int32), rv a1, rv a1, .val .null, .val .null, iv (0 : Int32), rv a25, rv a25, .unset, .unset] [.null]))) (X235.checkcastNull hx (g := (mkF m 283 #[iv p0, iv p1, iv p2, iv p3, iv p4, iv p5, iv (1 : Int32), iv kk, rv a1, rv a4, rv a9, rv a16, rv a25, rv a36, rv a105, iv (1 : Int32), rv a1, rv a1, .val .null, .val .null, iv (0 : Int32), rv a25, rv a25, .unset, .unset] [.null])) rfl rfl (hb hby at_283)) ?_
      refine own_go (B := (T235.setTop (mkF m 288 #[iv p0, iv p1, iv p2, iv p3, iv p4, iv p5, iv (1 : Int32), iv kk, rv a1, rv a4, rv a9, rv a16, rv a25, rv a36, rv a105, iv (1 : Int32), rv a1, rv a1, .val .null, .val .null, iv (0 : Int32), rv a25, rv a25, .val .null, .unset] []))) (fun t k => XS.astore X235.here hx rfl (hb hby at_286) rfl rfl (l' := #[iv p0, iv p1, iv p2, iv p3, iv p4, iv p5, iv (1 : Int32), iv kk, rv a1, rv a4, rv a9, rv a16, rv a25, rv a36, rv a105, iv (1 : Int32), rv a1, rv a1, .val .null, .val .null, iv (0 : Int32), rv a25, rv a25, .val .null, .unset]) rfl k) ?_
      refine own_go (B := (T235.setTop (mkF m 290 #[iv p0, iv p1, iv p2, iv p3, iv p4, iv p5, iv (1 : Int32), iv kk, rv a1, rv a4, rv a9, rv a16, rv a25, rv a36, rv a105, iv (1 : Int32), rv a1, rv a1, .val .null, .val .null, iv (0 : Int32), rv a25, rv a25, .val .null, .unset] [(.int (0 : Int32))]))) (fun t k => XS.iload X235.here hx rfl (hb hby at_288) rfl k) ?_
      refine own_go (B := (T235.setTop (mkF m 291 #[iv p0, iv p1, iv p2, iv p3, iv p4, iv p5, iv (1 : Int32), iv kk, rv a1, rv a4, rv a9, rv a16, rv a25, rv a36, rv a105, iv (1 : Int32), rv a1, rv a1, .val .null, .val .null, iv (0 : Int32), rv a25, rv a25, .val .null, .unset] [(.int (1 : Int32)), (.int (0 : Int32))]))) (fun t k => own_iconst (v := (1 : Int32)) X235.here hx rfl (hb hby at_290) (by decide) k) ?_
      have hc291 : (0 : Int32) < (1 : Int32) := (by decide)
      refine own_icmpY X235 hx (hb hby at_291) (pc' := 304) (by decide) (by decide) hc291 ?_
      refine own_go (B := (T235.setTop (mkF m 305 #[iv p0, iv p1, iv p2, iv p3, iv p4, iv p5, iv (1 : Int32), iv kk, rv a1, rv a4, rv a9, rv a16, rv a25, rv a36, rv a105, iv (1 : Int32), rv a1, rv a1, .val .null, .val .null, iv (0 : Int32), rv a25, rv a25, .val .null, .unset] [.null]))) (fun t k => XS.aconstNull X235.here hx rfl (hb hby at_304) k) ?_
      refine own_go (B := (T235.setTop (mkF m 307 #[iv p0, iv p1, iv p2, iv p3, iv p4, iv p5, iv (1 : Int32), iv kk, rv a1, rv a4, rv a9, rv a16, rv a25, rv a36, rv a105, iv (1 : Int32), rv a1, rv a1, .val .null, .val .null, iv (0 : Int32), rv a25, rv a25, .val .null, .val .null] []))) (fun t k => XS.astore X235.here hx rfl (hb hby at_305) rfl rfl (l' := #[iv p0, iv p1, iv p2, iv p3, iv p4, iv p5, iv (1 : Int32), iv kk, rv a1, rv a4, rv a9, rv a16, rv a25, rv a36, rv a105, iv (1 : Int32), rv a1, rv a1, .val .null, .val .null, iv (0 : Int32), rv a25, rv a25, .val .null, .val .null]) rfl k) ?_
      refine own_go (B := (T235.setTop (mkF m 309 #[iv p0, iv p1, iv p2, iv p3, iv p4, iv p5, iv (1 : Int32), iv kk, rv a1, rv a4, rv a9, rv a16, rv a25, rv a36, rv a105, iv (1 : Int32), rv a1, rv a1, .val .null, .val .null, iv (0 : Int32), rv a25, rv a25, .val .null, .val .null] [.null]))) (fun t k => XS.aload X235.here hx rfl (hb hby at_307) rfl rfl k) ?_
      refine own_go (B := (T235.setTop (mkF m 311 #[iv p0, iv p1, iv p2, iv p3, iv p4, iv p5, iv (1 : Int32), iv kk, rv a1, rv a4, rv a9, rv a16, rv a25, rv a36, rv a105, iv (1 : Int32), rv a1, rv a1, .val .null, .val .null, iv (0 : Int32), rv a25, rv a25, .val .null, .val .null] [.null, .null]))) (fun t k => XS.aload X235.here hx rfl (hb hby at_309) rfl rfl k) ?_
      obtain ⟨_, _, ⟨T237, L237, k237, n237⟩, -, X237, ⟨Lc237, hQ237, l237, y237, z237⟩, st237⟩ := Jvm.LawKit.callS X235 hx (y := own_y7) hown (mvT hZ w_34) (mvT hZ w_35) (mvT hZ w_36) (mvT hZ w_37) (by decide) (backOf (W := 0) (own_same0 l Z a0 hw [] T224.heap n0) hZ w_37 w_36 (by decide) (by decide)) (g := (mkF m 311 #[iv p0, iv p1, iv p2, iv p3, iv p4, iv p5, iv (1 : Int32), iv kk, rv a1, rv a4, rv a9, rv a16, rv a25, rv a36, rv a105, iv (1 : Int32), rv a1, rv a1, .val .null, .val .null, iv (0 : Int32), rv a25, rv a25, .val .null, .val .null] [.null, .null])) rfl (by rw [hml]; rfl) (argsL := [.null, .null]) (rest := []) (lenOf own_pd6 rfl) rfl (by show 2 * 0 + _ ≤ _; exact own_b rfl) (hb hby at_311) (fun _ _ => ⟨rfl, e235, (own_b rfl : 8 + 0 ≤ _), (own_b rfl : 14 + 0 ≤ _)⟩)
      dsimp only [Pt.U, Pt.locs, Pt.cells, Pt.slots] at X237 l237 y237 z237 st237 hQ237
      obtain ⟨rfl, Nq237, eq237⟩ := hQ237
      obtain ⟨L237, X237, N237⟩ := own_absC (K := 8) (K' := 14) X237 l237 y237 z237 N235 Nq237
      have e237 : T237.heap = T224.heap := eq237
      refine own_go (B := (T237.setTop (mkF m 314 #[iv p0, iv p1, iv p2, iv p3, iv p4, iv p5, iv (1 : Int32), iv kk, rv a1, rv a4, rv a9, rv a16, rv a25, rv a36, rv a105, iv (1 : Int32), rv a1, rv a1, .val .null, .val .null, iv (0 : Int32), rv a25, rv a25, .val .null, .val .null] [(.int (1 : Int32))]))) st237 ?_
      exact own_retZ X237 hx hlk Bd.returns (hb hby at_314) (by decide) (own_b rfl) (own_b rfl) (Q := (own_law_Q Z p0 p1 p2 p3 p4 p5 ca h0 n0)) ⟨rfl, N237⟩
    rcases own_c5 hz13 with rfl | rfl | rfl | rfl | rfl
    · refine own_go (B := (T121.setTop (mkF m 86 #[iv p0, iv p1, iv p2, iv p3, iv p4, iv p5, iv (1 : Int32), iv (0 : Int32), rv a1, rv a4, rv a9, rv a16, rv a25, rv a36, rv a105, .unset, .unset, .unset, .unset, .unset, .unset, .unset, .unset, .unset, .unset] [(.int (0 : Int32))]))) (fun t k => XS.iload X121.here hx rfl (hb hby at_84) rfl k) ?_
      have hc86 : ¬ (0 : Int32) < (0 : Int32) := (by decide)
      refine own_ifY X121 hx (hb hby at_86) (pc' := 96) (by decide) (by decide) hc86 ?_
      refine own_go (B := (T121.setTop (mkF m 98 #[iv p0, iv p1, iv p2, iv p3, iv p4, iv p5, iv (1 : Int32), iv (0 : Int32), rv a1, rv a4, rv a9, rv a16, rv a25, rv a36, rv a105, .unset, .unset, .unset, .unset, .unset, .unset, .unset, .unset, .unset, .unset] [(.int (0 : Int32))]))) (fun t k => XS.iload X121.here hx rfl (hb hby at_96) rfl k) ?_
      refine own_go (B := (T121.setTop (mkF m 99 #[iv p0, iv p1, iv p2, iv p3, iv p4, iv p5, iv (1 : Int32), iv (0 : Int32), rv a1, rv a4, rv a9, rv a16, rv a25, rv a36, rv a105, .unset, .unset, .unset, .unset, .unset, .unset, .unset, .unset, .unset, .unset] [(.int (1 : Int32)), (.int (0 : Int32))]))) (fun t k => own_iconst (v := (1 : Int32)) X121.here hx rfl (hb hby at_98) (by decide) k) ?_
      have hc99 : ¬ (1 : Int32) < (0 : Int32) := (by decide)
      refine own_icmpY X121 hx (hb hby at_99) (pc' := 109) (by decide) (by decide) hc99 ?_
      refine own_go (B := (T121.setTop (mkF m 111 #[iv p0, iv p1, iv p2, iv p3, iv p4, iv p5, iv (1 : Int32), iv (0 : Int32), rv a1, rv a4, rv a9, rv a16, rv a25, rv a36, rv a105, .unset, .unset, .unset, .unset, .unset, .unset, .unset, .unset, .unset, .unset] [(.int (0 : Int32))]))) (fun t k => XS.iload X121.here hx rfl (hb hby at_109) rfl k) ?_
      refine own_go (B := (T121.setTop (mkF m 112 #[iv p0, iv p1, iv p2, iv p3, iv p4, iv p5, iv (1 : Int32), iv (0 : Int32), rv a1, rv a4, rv a9, rv a16, rv a25, rv a36, rv a105, .unset, .unset, .unset, .unset, .unset, .unset, .unset, .unset, .unset, .unset] [(.int (2 : Int32)), (.int (0 : Int32))]))) (fun t k => own_iconst (v := (2 : Int32)) X121.here hx rfl (hb hby at_111) (by decide) k) ?_
      have hc112 : ¬ (2 : Int32) < (0 : Int32) := (by decide)
      refine own_icmpY X121 hx (hb hby at_112) (pc' := 122) (by decide) (by decide) hc112 ?_
      refine own_go (B := (T121.setTop (mkF m 124 #[iv p0, iv p1, iv p2, iv p3, iv p4, iv p5, iv (1 : Int32), iv (0 : Int32), rv a1, rv a4, rv a9, rv a16, rv a25, rv a36, rv a105, .unset, .unset, .unset, .unset, .unset, .unset, .unset, .unset, .unset, .unset] [(.int (0 : Int32))]))) (fun t k => XS.iload X121.here hx rfl (hb hby at_122) rfl k) ?_
      refine own_go (B := (T121.setTop (mkF m 125 #[iv p0, iv p1, iv p2, iv p3, iv p4, iv p5, iv (1 : Int32), iv (0 : Int32), rv a1, rv a4, rv a9, rv a16, rv a25, rv a36, rv a105, .unset, .unset, .unset, .unset, .unset, .unset, .unset, .unset, .unset, .unset] [(.int (3 : Int32)), (.int (0 : Int32))]))) (fun t k => own_iconst (v := (3 : Int32)) X121.here hx rfl (hb hby at_124) (by decide) k) ?_
      have hc125 : ¬ (3 : Int32) < (0 : Int32) := (by decide)
      refine own_icmpY X121 hx (hb hby at_125) (pc' := 135) (by decide) (by decide) hc125 ?_
      refine own_go (B := (T121.setTop (mkF m 137 #[iv p0, iv p1, iv p2, iv p3, iv p4, iv p5, iv (1 : Int32), iv (0 : Int32), rv a1, rv a4, rv a9, rv a16, rv a25, rv a36, rv a105, .unset, .unset, .unset, .unset, .unset, .unset, .unset, .unset, .unset, .unset] [(.int (0 : Int32))]))) (fun t k => XS.iload X121.here hx rfl (hb hby at_135) rfl k) ?_
      refine own_go (B := (T121.setTop (mkF m 139 #[iv p0, iv p1, iv p2, iv p3, iv p4, iv p5, iv (1 : Int32), iv (0 : Int32), rv a1, rv a4, rv a9, rv a16, rv a25, rv a36, rv a105, .unset, .unset, .unset, .unset, .unset, .unset, .unset, .unset, .unset, .unset] [(.int (1 : Int32)), (.int (0 : Int32))]))) (fun t k => XS.iload X121.here hx rfl (hb hby at_137) rfl k) ?_
      obtain ⟨_, _, ⟨T238, L238, k238, n238⟩, -, X238, ⟨Lc238, hQ238, l238, y238, z238⟩, st238⟩ := Jvm.LawKit.callS X121 hx (y := own_y10) hown (mvT hZ w_23) (mvT hZ w_24) (mvT hZ w_25) (mvT hZ w_26) (by decide) (backOf (W := 0) (own_mmin l Z a0 hw [] (0 : Int32) (1 : Int32) T121.heap n0) hZ w_26 w_25 (by decide) (by decide)) (g := (mkF m 139 #[iv p0, iv p1, iv p2, iv p3, iv p4, iv p5, iv (1 : Int32), iv (0 : Int32), rv a1, rv a4, rv a9, rv a16, rv a25, rv a36, rv a105, .unset, .unset, .unset, .unset, .unset, .unset, .unset, .unset, .unset, .unset] [(.int (1 : Int32)), (.int (0 : Int32))])) rfl (by rw [hml]; rfl) (argsL := [(.int (0 : Int32)), (.int (1 : Int32))]) (rest := []) (lenOf own_pd7 rfl) rfl (by show 2 * 0 + _ ≤ _; exact own_b rfl) (hb hby at_139) (fun _ _ => ⟨rfl, rfl, (own_b rfl : 8 + 0 ≤ _), (own_b rfl : 14 + 0 ≤ _)⟩)
      dsimp only [Pt.U, Pt.locs, Pt.cells, Pt.slots] at X238 l238 y238 z238 st238 hQ238
      obtain ⟨rfl, Nq238, eq238⟩ := hQ238
      obtain ⟨L238, X238, N238⟩ := own_absC (K := 8) (K' := 14) X238 l238 y238 z238 N121 Nq238
      have e238 : T238.heap = T121.heap := eq238
      refine own_go (B := (T238.setTop (mkF m 142 #[iv p0, iv p1, iv p2, iv p3, iv p4, iv p5, iv (1 : Int32), iv (0 : Int32), rv a1, rv a4, rv a9, rv a16, rv a25, rv a36, rv a105, .unset, .unset, .unset, .unset, .unset, .unset, .unset, .unset, .unset, .unset] [(.int (own_min (0 : Int32) (1 : Int32)))]))) st238 ?_
      rw [show own_min (0 : Int32) (1 : Int32) = (0 : Int32) from by decide]
      refine own_go (B := (T238.setTop (mkF m 144 #[iv p0, iv p1, iv p2, iv p3, iv p4, iv p5, iv (1 : Int32), iv (0 : Int32), rv a1, rv a4, rv a9, rv a16, rv a25, rv a36, rv a105, iv (0 : Int32), .unset, .unset, .unset, .unset, .unset, .unset, .unset, .unset, .unset] []))) (fun t k => XS.istore X238.here hx rfl (hb hby at_142) rfl (l' := #[iv p0, iv p1, iv p2, iv p3, iv p4, iv p5, iv (1 : Int32), iv (0 : Int32), rv a1, rv a4, rv a9, rv a16, rv a25, rv a36, rv a105, iv (0 : Int32), .unset, .unset, .unset, .unset, .unset, .unset, .unset, .unset, .unset]) rfl k) ?_
      exact J0 T238 _ T121.heap X238 e238 N238 F122 F123 F134 Ex121 gk121 gc121 Vb BB _
    · refine own_go (B := (T121.setTop (mkF m 86 #[iv p0, iv p1, iv p2, iv p3, iv p4, iv p5, iv (1 : Int32), iv (1 : Int32), rv a1, rv a4, rv a9, rv a16, rv a25, rv a36, rv a105, .unset, .unset, .unset, .unset, .unset, .unset, .unset, .unset, .unset, .unset] [(.int (1 : Int32))]))) (fun t k => XS.iload X121.here hx rfl (hb hby at_84) rfl k) ?_
      have hc86 : (0 : Int32) < (1 : Int32) := (by decide)
      refine own_ifN X121 hx (hb hby at_86) (pn := 89) rfl hc86 ?_
      refine own_go (B := (T121.setTop (mkF m 91 #[iv p0, iv p1, iv p2, iv p3, iv p4, iv p5, iv (1 : Int32), iv (1 : Int32), rv a1, rv a4, rv a9, rv a16, rv a25, rv a36, rv a105, .unset, .unset, .unset, .unset, .unset, .unset, .unset, .unset, .unset, .unset] [(.ref a105)]))) (fun t k => XS.aload X121.here hx rfl (hb hby at_89) rfl rfl k) ?_
      refine own_go (B := (T121.setTop (mkF m 93 #[iv p0, iv p1, iv p2, iv p3, iv p4, iv p5, iv (1 : Int32), iv (1 : Int32), rv a1, rv a4, rv a9, rv a16, rv a25, rv a36, rv a105, .unset, .unset, .unset, .unset, .unset, .unset, .unset, .unset, .unset, .unset] [(.ref a1), (.ref a105)]))) (fun t k => XS.aload X121.here hx rfl (hb hby at_91) rfl rfl k) ?_
      obtain ⟨cq239, kq239, qa239, qb239, qc239⟩ := isOf hZ rfl Ex121
      obtain ⟨_, _, ⟨T239, L239, k239, n239⟩, -, X239, ⟨Lc239, hQ239, l239, y239, z239⟩, st239⟩ := X121.virtualBack hx (y := own_y9) (z := own_y9) hown (mvT hZ w_41) (mvT hZ w_42) (notFace_of_selects (args := #[]) (mvT hZ w_44)) (mvT hZ w_44) (mvT hZ w_43) (by decide) (backOf (W := 0) (own_kone l Z a0 hw [] a105 a1 ar121 (0 : Int32) (1 : Int32) (1 : Int32) [.null] [(.ref a1)] T121.heap n0 Ex121 gk121 gc121 Vb F122 gn105 gn_ar121 ne_ar121_a105 (own_lenL (n := 1) rfl (by decide)) (by decide) (by decide) (Nat.lt_of_lt_of_eq (by decide : _ < 1) rfl) (by decide) (Ins.of_exa (own_Bn_exa BB (List.mem_of_getElem? (i := 0) rfl)) w_60) rfl) hZ w_45 w_12 (by decide) (by decide)) qa239 qc239 (g := (mkF m 93 #[iv p0, iv p1, iv p2, iv p3, iv p4, iv p5, iv (1 : Int32), iv (1 : Int32), rv a1, rv a4, rv a9, rv a16, rv a25, rv a36, rv a105, .unset, .unset, .unset, .unset, .unset, .unset, .unset, .unset, .unset, .unset] [(.ref a1), (.ref a105)])) rfl (by rw [hml]; rfl) (Steps.refl _) (argsL := [(.ref a1)]) (rest := []) (lenOf own_pd8 rfl) rfl (by show 2 * 0 + _ ≤ _; exact own_b rfl) (hb hby at_93) (fun _ _ => ⟨rfl, rfl, (own_b rfl : 8 + 0 ≤ _), (own_b rfl : 14 + 0 ≤ _)⟩)
      dsimp only [Pt.U, Pt.locs, Pt.cells, Pt.slots] at X239 l239 y239 z239 st239 hQ239
      obtain ⟨rfl, Nq239, K239, Ex239, gk239, gc239, gv239⟩ := hQ239
      obtain ⟨L239, X239, N239⟩ := own_absC (K := 8) (K' := 14) X239 l239 y239 z239 N121 Nq239
      have F240 : n0 ≤ T239.heap.size := Nat.le_trans F122 K239.1
      have F241 := Keep.trans F123 K239 (allS (Or.inr (Nat.le_trans F93.1 (Nat.le_of_eq ga105.symm))) (allS (Or.inr (Nat.le_trans K107.1 gz121)) all0))
      have F242 := own_Ao_keep F134 K239 (ninS (Ne.symm ne105_a36) (ninS (Ne.symm ne_ar121_a36) nin0))
      have F243 := Exa.keep Ex121 K239
      have F247 := own_Bn_keep BB K239 hbq
      refine own_tr (B := (T239.setTop (mkF m 96 #[iv p0, iv p1, iv p2, iv p3, iv p4, iv p5, iv (1 : Int32), iv (1 : Int32), rv a1, rv a4, rv a9, rv a16, rv a25, rv a36, rv a105, .unset, .unset, .unset, .unset, .unset, .unset, .unset, .unset, .unset, .unset] []))) st239 ?_
      refine own_go (B := (T239.setTop (mkF m 98 #[iv p0, iv p1, iv p2, iv p3, iv p4, iv p5, iv (1 : Int32), iv (1 : Int32), rv a1, rv a4, rv a9, rv a16, rv a25, rv a36, rv a105, .unset, .unset, .unset, .unset, .unset, .unset, .unset, .unset, .unset, .unset] [(.int (1 : Int32))]))) (fun t k => XS.iload X239.here hx rfl (hb hby at_96) rfl k) ?_
      refine own_go (B := (T239.setTop (mkF m 99 #[iv p0, iv p1, iv p2, iv p3, iv p4, iv p5, iv (1 : Int32), iv (1 : Int32), rv a1, rv a4, rv a9, rv a16, rv a25, rv a36, rv a105, .unset, .unset, .unset, .unset, .unset, .unset, .unset, .unset, .unset, .unset] [(.int (1 : Int32)), (.int (1 : Int32))]))) (fun t k => own_iconst (v := (1 : Int32)) X239.here hx rfl (hb hby at_98) (by decide) k) ?_
      have hc99 : ¬ (1 : Int32) < (1 : Int32) := (by decide)
      refine own_icmpY X239 hx (hb hby at_99) (pc' := 109) (by decide) (by decide) hc99 ?_
      refine own_go (B := (T239.setTop (mkF m 111 #[iv p0, iv p1, iv p2, iv p3, iv p4, iv p5, iv (1 : Int32), iv (1 : Int32), rv a1, rv a4, rv a9, rv a16, rv a25, rv a36, rv a105, .unset, .unset, .unset, .unset, .unset, .unset, .unset, .unset, .unset, .unset] [(.int (1 : Int32))]))) (fun t k => XS.iload X239.here hx rfl (hb hby at_109) rfl k) ?_
      refine own_go (B := (T239.setTop (mkF m 112 #[iv p0, iv p1, iv p2, iv p3, iv p4, iv p5, iv (1 : Int32), iv (1 : Int32), rv a1, rv a4, rv a9, rv a16, rv a25, rv a36, rv a105, .unset, .unset, .unset, .unset, .unset, .unset, .unset, .unset, .unset, .unset] [(.int (2 : Int32)), (.int (1 : Int32))]))) (fun t k => own_iconst (v := (2 : Int32)) X239.here hx rfl (hb hby at_111) (by decide) k) ?_
      have hc112 : ¬ (2 : Int32) < (1 : Int32) := (by decide)
      refine own_icmpY X239 hx (hb hby at_112) (pc' := 122) (by decide) (by decide) hc112 ?_
      refine own_go (B := (T239.setTop (mkF m 124 #[iv p0, iv p1, iv p2, iv p3, iv p4, iv p5, iv (1 : Int32), iv (1 : Int32), rv a1, rv a4, rv a9, rv a16, rv a25, rv a36, rv a105, .unset, .unset, .unset, .unset, .unset, .unset, .unset, .unset, .unset, .unset] [(.int (1 : Int32))]))) (fun t k => XS.iload X239.here hx rfl (hb hby at_122) rfl k) ?_
      refine own_go (B := (T239.setTop (mkF m 125 #[iv p0, iv p1, iv p2, iv p3, iv p4, iv p5, iv (1 : Int32), iv (1 : Int32), rv a1, rv a4, rv a9, rv a16, rv a25, rv a36, rv a105, .unset, .unset, .unset, .unset, .unset, .unset, .unset, .unset, .unset, .unset] [(.int (3 : Int32)), (.int (1 : Int32))]))) (fun t k => own_iconst (v := (3 : Int32)) X239.here hx rfl (hb hby at_124) (by decide) k) ?_
      have hc125 : ¬ (3 : Int32) < (1 : Int32) := (by decide)
      refine own_icmpY X239 hx (hb hby at_125) (pc' := 135) (by decide) (by decide) hc125 ?_
      refine own_go (B := (T239.setTop (mkF m 137 #[iv p0, iv p1, iv p2, iv p3, iv p4, iv p5, iv (1 : Int32), iv (1 : Int32), rv a1, rv a4, rv a9, rv a16, rv a25, rv a36, rv a105, .unset, .unset, .unset, .unset, .unset, .unset, .unset, .unset, .unset, .unset] [(.int (1 : Int32))]))) (fun t k => XS.iload X239.here hx rfl (hb hby at_135) rfl k) ?_
      refine own_go (B := (T239.setTop (mkF m 139 #[iv p0, iv p1, iv p2, iv p3, iv p4, iv p5, iv (1 : Int32), iv (1 : Int32), rv a1, rv a4, rv a9, rv a16, rv a25, rv a36, rv a105, .unset, .unset, .unset, .unset, .unset, .unset, .unset, .unset, .unset, .unset] [(.int (1 : Int32)), (.int (1 : Int32))]))) (fun t k => XS.iload X239.here hx rfl (hb hby at_137) rfl k) ?_
      obtain ⟨_, _, ⟨T248, L248, k248, n248⟩, -, X248, ⟨Lc248, hQ248, l248, y248, z248⟩, st248⟩ := Jvm.LawKit.callS X239 hx (y := own_y10) hown (mvT hZ w_23) (mvT hZ w_24) (mvT hZ w_25) (mvT hZ w_26) (by decide) (backOf (W := 0) (own_mmin l Z a0 hw [] (1 : Int32) (1 : Int32) T239.heap n0) hZ w_26 w_25 (by decide) (by decide)) (g := (mkF m 139 #[iv p0, iv p1, iv p2, iv p3, iv p4, iv p5, iv (1 : Int32), iv (1 : Int32), rv a1, rv a4, rv a9, rv a16, rv a25, rv a36, rv a105, .unset, .unset, .unset, .unset, .unset, .unset, .unset, .unset, .unset, .unset] [(.int (1 : Int32)), (.int (1 : Int32))])) rfl (by rw [hml]; rfl) (argsL := [(.int (1 : Int32)), (.int (1 : Int32))]) (rest := []) (lenOf own_pd7 rfl) rfl (by show 2 * 0 + _ ≤ _; exact own_b rfl) (hb hby at_139) (fun _ _ => ⟨rfl, rfl, (own_b rfl : 8 + 0 ≤ _), (own_b rfl : 14 + 0 ≤ _)⟩)
      dsimp only [Pt.U, Pt.locs, Pt.cells, Pt.slots] at X248 l248 y248 z248 st248 hQ248
      obtain ⟨rfl, Nq248, eq248⟩ := hQ248
      obtain ⟨L248, X248, N248⟩ := own_absC (K := 8) (K' := 14) X248 l248 y248 z248 N239 Nq248
      have e248 : T248.heap = T239.heap := eq248
      refine own_go (B := (T248.setTop (mkF m 142 #[iv p0, iv p1, iv p2, iv p3, iv p4, iv p5, iv (1 : Int32), iv (1 : Int32), rv a1, rv a4, rv a9, rv a16, rv a25, rv a36, rv a105, .unset, .unset, .unset, .unset, .unset, .unset, .unset, .unset, .unset, .unset] [(.int (own_min (1 : Int32) (1 : Int32)))]))) st248 ?_
      rw [show own_min (1 : Int32) (1 : Int32) = (1 : Int32) from by decide]
      refine own_go (B := (T248.setTop (mkF m 144 #[iv p0, iv p1, iv p2, iv p3, iv p4, iv p5, iv (1 : Int32), iv (1 : Int32), rv a1, rv a4, rv a9, rv a16, rv a25, rv a36, rv a105, iv (1 : Int32), .unset, .unset, .unset, .unset, .unset, .unset, .unset, .unset, .unset] []))) (fun t k => XS.istore X248.here hx rfl (hb hby at_142) rfl (l' := #[iv p0, iv p1, iv p2, iv p3, iv p4, iv p5, iv (1 : Int32), iv (1 : Int32), rv a1, rv a4, rv a9, rv a16, rv a25, rv a36, rv a105, iv (1 : Int32), .unset, .unset, .unset, .unset, .unset, .unset, .unset, .unset, .unset]) rfl k) ?_
      exact J1 T248 _ T239.heap X248 e248 N248 F240 F241 F242 Ex239 gk239 gc239 gv239 F247 _
    · refine own_go (B := (T121.setTop (mkF m 86 #[iv p0, iv p1, iv p2, iv p3, iv p4, iv p5, iv (1 : Int32), iv (2 : Int32), rv a1, rv a4, rv a9, rv a16, rv a25, rv a36, rv a105, .unset, .unset, .unset, .unset, .unset, .unset, .unset, .unset, .unset, .unset] [(.int (2 : Int32))]))) (fun t k => XS.iload X121.here hx rfl (hb hby at_84) rfl k) ?_
      have hc86 : (0 : Int32) < (2 : Int32) := (by decide)
      refine own_ifN X121 hx (hb hby at_86) (pn := 89) rfl hc86 ?_
      refine own_go (B := (T121.setTop (mkF m 91 #[iv p0, iv p1, iv p2, iv p3, iv p4, iv p5, iv (1 : Int32), iv (2 : Int32), rv a1, rv a4, rv a9, rv a16, rv a25, rv a36, rv a105, .unset, .unset, .unset, .unset, .unset, .unset, .unset, .unset, .unset, .unset] [(.ref a105)]))) (fun t k => XS.aload X121.here hx rfl (hb hby at_89) rfl rfl k) ?_
      refine own_go (B := (T121.setTop (mkF m 93 #[iv p0, iv p1, iv p2, iv p3, iv p4, iv p5, iv (1 : Int32), iv (2 : Int32), rv a1, rv a4, rv a9, rv a16, rv a25, rv a36, rv a105, .unset, .unset, .unset, .unset, .unset, .unset, .unset, .unset, .unset, .unset] [(.ref a1), (.ref a105)]))) (fun t k => XS.aload X121.here hx rfl (hb hby at_91) rfl rfl k) ?_
      obtain ⟨cq249, kq249, qa249, qb249, qc249⟩ := isOf hZ rfl Ex121
      obtain ⟨_, _, ⟨T249, L249, k249, n249⟩, -, X249, ⟨Lc249, hQ249, l249, y249, z249⟩, st249⟩ := X121.virtualBack hx (y := own_y9) (z := own_y9) hown (mvT hZ w_41) (mvT hZ w_42) (notFace_of_selects (args := #[]) (mvT hZ w_44)) (mvT hZ w_44) (mvT hZ w_43) (by decide) (backOf (W := 0) (own_kone l Z a0 hw [] a105 a1 ar121 (0 : Int32) (1 : Int32) (1 : Int32) [.null] [(.ref a1)] T121.heap n0 Ex121 gk121 gc121 Vb F122 gn105 gn_ar121 ne_ar121_a105 (own_lenL (n := 1) rfl (by decide)) (by decide) (by decide) (Nat.lt_of_lt_of_eq (by decide : _ < 1) rfl) (by decide) (Ins.of_exa (own_Bn_exa BB (List.mem_of_getElem? (i := 0) rfl)) w_60) rfl) hZ w_45 w_12 (by decide) (by decide)) qa249 qc249 (g := (mkF m 93 #[iv p0, iv p1, iv p2, iv p3, iv p4, iv p5, iv (1 : Int32), iv (2 : Int32), rv a1, rv a4, rv a9, rv a16, rv a25, rv a36, rv a105, .unset, .unset, .unset, .unset, .unset, .unset, .unset, .unset, .unset, .unset] [(.ref a1), (.ref a105)])) rfl (by rw [hml]; rfl) (Steps.refl _) (argsL := [(.ref a1)]) (rest := []) (lenOf own_pd8 rfl) rfl (by show 2 * 0 + _ ≤ _; exact own_b rfl) (hb hby at_93) (fun _ _ => ⟨rfl, rfl, (own_b rfl : 8 + 0 ≤ _), (own_b rfl : 14 + 0 ≤ _)⟩)
      dsimp only [Pt.U, Pt.locs, Pt.cells, Pt.slots] at X249 l249 y249 z249 st249 hQ249
      obtain ⟨rfl, Nq249, K249, Ex249, gk249, gc249, gv249⟩ := hQ249
      obtain ⟨L249, X249, N249⟩ := own_absC (K := 8) (K' := 14) X249 l249 y249 z249 N121 Nq249
      have F250 : n0 ≤ T249.heap.size := Nat.le_trans F122 K249.1
      have F251 := Keep.trans F123 K249 (allS (Or.inr (Nat.le_trans F93.1 (Nat.le_of_eq ga105.symm))) (allS (Or.inr (Nat.le_trans K107.1 gz121)) all0))
      have F252 := own_Ao_keep F134 K249 (ninS (Ne.symm ne105_a36) (ninS (Ne.symm ne_ar121_a36) nin0))
      have F253 := Exa.keep Ex121 K249
      have F257 := own_Bn_keep BB K249 hbq
      refine own_tr (B := (T249.setTop (mkF m 96 #[iv p0, iv p1, iv p2, iv p3, iv p4, iv p5, iv (1 : Int32), iv (2 : Int32), rv a1, rv a4, rv a9, rv a16, rv a25, rv a36, rv a105, .unset, .unset, .unset, .unset, .unset, .unset, .unset, .unset, .unset, .unset] []))) st249 ?_
      refine own_go (B := (T249.setTop (mkF m 98 #[iv p0, iv p1, iv p2, iv p3, iv p4, iv p5, iv (1 : Int32), iv (2 : Int32), rv a1, rv a4, rv a9, rv a16, rv a25, rv a36, rv a105, .unset, .unset, .unset, .unset, .unset, .unset, .unset, .unset, .unset, .unset] [(.int (2 : Int32))]))) (fun t k => XS.iload X249.here hx rfl (hb hby at_96) rfl k) ?_
      refine own_go (B := (T249.setTop (mkF m 99 #[iv p0, iv p1, iv p2, iv p3, iv p4, iv p5, iv (1 : Int32), iv (2 : Int32), rv a1, rv a4, rv a9, rv a16, rv a25, rv a36, rv a105, .unset, .unset, .unset, .unset, .unset, .unset, .unset, .unset, .unset, .unset] [(.int (1 : Int32)), (.int (2 : Int32))]))) (fun t k => own_iconst (v := (1 : Int32)) X249.here hx rfl (hb hby at_98) (by decide) k) ?_
      have hc99 : (1 : Int32) < (2 : Int32) := (by decide)
      refine own_icmpN X249 hx (hb hby at_99) (pn := 102) rfl hc99 ?_
      refine own_go (B := (T249.setTop (mkF m 104 #[iv p0, iv p1, iv p2, iv p3, iv p4, iv p5, iv (1 : Int32), iv (2 : Int32), rv a1, rv a4, rv a9, rv a16, rv a25, rv a36, rv a105, .unset, .unset, .unset, .unset, .unset, .unset, .unset, .unset, .unset, .unset] [(.ref a105)]))) (fun t k => XS.aload X249.here hx rfl (hb hby at_102) rfl rfl k) ?_
      refine own_go (B := (T249.setTop (mkF m 106 #[iv p0, iv p1, iv p2, iv p3, iv p4, iv p5, iv (1 : Int32), iv (2 : Int32), rv a1, rv a4, rv a9, rv a16, rv a25, rv a36, rv a105, .unset, .unset, .unset, .unset, .unset, .unset, .unset, .unset, .unset, .unset] [(.ref a4), (.ref a105)]))) (fun t k => XS.aload X249.here hx rfl (hb hby at_104) rfl rfl k) ?_
      obtain ⟨cq258, kq258, qa258, qb258, qc258⟩ := isOf hZ rfl Ex249
      obtain ⟨_, _, ⟨T258, L258, k258, n258⟩, -, X258, ⟨Lc258, hQ258, l258, y258, z258⟩, st258⟩ := X249.virtualBack hx (y := own_y9) (z := own_y9) hown (mvT hZ w_41) (mvT hZ w_42) (notFace_of_selects (args := #[]) (mvT hZ w_44)) (mvT hZ w_44) (mvT hZ w_43) (by decide) (backOf (W := 0) (own_kfull l Z a0 hw [] a105 a4 ar121 (1 : Int32) (1 : Int32) [(.ref a1)] T249.heap n0 Ex249 gk249 gc249 gv249 (own_lenL (n := 1) rfl (by decide)) (by decide)) hZ w_45 w_12 (by decide) (by decide)) qa258 qc258 (g := (mkF m 106 #[iv p0, iv p1, iv p2, iv p3, iv p4, iv p5, iv (1 : Int32), iv (2 : Int32), rv a1, rv a4, rv a9, rv a16, rv a25, rv a36, rv a105, .unset, .unset, .unset, .unset, .unset, .unset, .unset, .unset, .unset, .unset] [(.ref a4), (.ref a105)])) rfl (by rw [hml]; rfl) (Steps.refl _) (argsL := [(.ref a4)]) (rest := []) (lenOf own_pd8 rfl) rfl (by show 2 * 0 + _ ≤ _; exact own_b rfl) (hb hby at_106) (fun _ _ => ⟨rfl, rfl, (own_b rfl : 8 + 0 ≤ _), (own_b rfl : 14 + 0 ≤ _)⟩)
      dsimp only [Pt.U, Pt.locs, Pt.cells, Pt.slots] at X258 l258 y258 z258 st258 hQ258
      obtain ⟨rfl, Nq258, eq258⟩ := hQ258
      obtain ⟨L258, X258, N258⟩ := own_absC (K := 8) (K' := 14) X258 l258 y258 z258 N249 Nq258
      have e258 : T258.heap = T249.heap := eq258
      refine own_tr (B := (T258.setTop (mkF m 109 #[iv p0, iv p1, iv p2, iv p3, iv p4, iv p5, iv (1 : Int32), iv (2 : Int32), rv a1, rv a4, rv a9, rv a16, rv a25, rv a36, rv a105, .unset, .unset, .unset, .unset, .unset, .unset, .unset, .unset, .unset, .unset] []))) st258 ?_
      refine own_go (B := (T258.setTop (mkF m 111 #[iv p0, iv p1, iv p2, iv p3, iv p4, iv p5, iv (1 : Int32), iv (2 : Int32), rv a1, rv a4, rv a9, rv a16, rv a25, rv a36, rv a105, .unset, .unset, .unset, .unset, .unset, .unset, .unset, .unset, .unset, .unset] [(.int (2 : Int32))]))) (fun t k => XS.iload X258.here hx rfl (hb hby at_109) rfl k) ?_
      refine own_go (B := (T258.setTop (mkF m 112 #[iv p0, iv p1, iv p2, iv p3, iv p4, iv p5, iv (1 : Int32), iv (2 : Int32), rv a1, rv a4, rv a9, rv a16, rv a25, rv a36, rv a105, .unset, .unset, .unset, .unset, .unset, .unset, .unset, .unset, .unset, .unset] [(.int (2 : Int32)), (.int (2 : Int32))]))) (fun t k => own_iconst (v := (2 : Int32)) X258.here hx rfl (hb hby at_111) (by decide) k) ?_
      have hc112 : ¬ (2 : Int32) < (2 : Int32) := (by decide)
      refine own_icmpY X258 hx (hb hby at_112) (pc' := 122) (by decide) (by decide) hc112 ?_
      refine own_go (B := (T258.setTop (mkF m 124 #[iv p0, iv p1, iv p2, iv p3, iv p4, iv p5, iv (1 : Int32), iv (2 : Int32), rv a1, rv a4, rv a9, rv a16, rv a25, rv a36, rv a105, .unset, .unset, .unset, .unset, .unset, .unset, .unset, .unset, .unset, .unset] [(.int (2 : Int32))]))) (fun t k => XS.iload X258.here hx rfl (hb hby at_122) rfl k) ?_
      refine own_go (B := (T258.setTop (mkF m 125 #[iv p0, iv p1, iv p2, iv p3, iv p4, iv p5, iv (1 : Int32), iv (2 : Int32), rv a1, rv a4, rv a9, rv a16, rv a25, rv a36, rv a105, .unset, .unset, .unset, .unset, .unset, .unset, .unset, .unset, .unset, .unset] [(.int (3 : Int32)), (.int (2 : Int32))]))) (fun t k => own_iconst (v := (3 : Int32)) X258.here hx rfl (hb hby at_124) (by decide) k) ?_
      have hc125 : ¬ (3 : Int32) < (2 : Int32) := (by decide)
      refine own_icmpY X258 hx (hb hby at_125) (pc' := 135) (by decide) (by decide) hc125 ?_
      refine own_go (B := (T258.setTop (mkF m 137 #[iv p0, iv p1, iv p2, iv p3, iv p4, iv p5, iv (1 : Int32), iv (2 : Int32), rv a1, rv a4, rv a9, rv a16, rv a25, rv a36, rv a105, .unset, .unset, .unset, .unset, .unset, .unset, .unset, .unset, .unset, .unset] [(.int (2 : Int32))]))) (fun t k => XS.iload X258.here hx rfl (hb hby at_135) rfl k) ?_
      refine own_go (B := (T258.setTop (mkF m 139 #[iv p0, iv p1, iv p2, iv p3, iv p4, iv p5, iv (1 : Int32), iv (2 : Int32), rv a1, rv a4, rv a9, rv a16, rv a25, rv a36, rv a105, .unset, .unset, .unset, .unset, .unset, .unset, .unset, .unset, .unset, .unset] [(.int (1 : Int32)), (.int (2 : Int32))]))) (fun t k => XS.iload X258.here hx rfl (hb hby at_137) rfl k) ?_
      obtain ⟨_, _, ⟨T259, L259, k259, n259⟩, -, X259, ⟨Lc259, hQ259, l259, y259, z259⟩, st259⟩ := Jvm.LawKit.callS X258 hx (y := own_y10) hown (mvT hZ w_23) (mvT hZ w_24) (mvT hZ w_25) (mvT hZ w_26) (by decide) (backOf (W := 0) (own_mmin l Z a0 hw [] (2 : Int32) (1 : Int32) T249.heap n0) hZ w_26 w_25 (by decide) (by decide)) (g := (mkF m 139 #[iv p0, iv p1, iv p2, iv p3, iv p4, iv p5, iv (1 : Int32), iv (2 : Int32), rv a1, rv a4, rv a9, rv a16, rv a25, rv a36, rv a105, .unset, .unset, .unset, .unset, .unset, .unset, .unset, .unset, .unset, .unset] [(.int (1 : Int32)), (.int (2 : Int32))])) rfl (by rw [hml]; rfl) (argsL := [(.int (2 : Int32)), (.int (1 : Int32))]) (rest := []) (lenOf own_pd7 rfl) rfl (by show 2 * 0 + _ ≤ _; exact own_b rfl) (hb hby at_139) (fun _ _ => ⟨rfl, e258, (own_b rfl : 8 + 0 ≤ _), (own_b rfl : 14 + 0 ≤ _)⟩)
      dsimp only [Pt.U, Pt.locs, Pt.cells, Pt.slots] at X259 l259 y259 z259 st259 hQ259
      obtain ⟨rfl, Nq259, eq259⟩ := hQ259
      obtain ⟨L259, X259, N259⟩ := own_absC (K := 8) (K' := 14) X259 l259 y259 z259 N258 Nq259
      have e259 : T259.heap = T249.heap := eq259
      refine own_go (B := (T259.setTop (mkF m 142 #[iv p0, iv p1, iv p2, iv p3, iv p4, iv p5, iv (1 : Int32), iv (2 : Int32), rv a1, rv a4, rv a9, rv a16, rv a25, rv a36, rv a105, .unset, .unset, .unset, .unset, .unset, .unset, .unset, .unset, .unset, .unset] [(.int (own_min (2 : Int32) (1 : Int32)))]))) st259 ?_
      rw [show own_min (2 : Int32) (1 : Int32) = (1 : Int32) from by decide]
      refine own_go (B := (T259.setTop (mkF m 144 #[iv p0, iv p1, iv p2, iv p3, iv p4, iv p5, iv (1 : Int32), iv (2 : Int32), rv a1, rv a4, rv a9, rv a16, rv a25, rv a36, rv a105, iv (1 : Int32), .unset, .unset, .unset, .unset, .unset, .unset, .unset, .unset, .unset] []))) (fun t k => XS.istore X259.here hx rfl (hb hby at_142) rfl (l' := #[iv p0, iv p1, iv p2, iv p3, iv p4, iv p5, iv (1 : Int32), iv (2 : Int32), rv a1, rv a4, rv a9, rv a16, rv a25, rv a36, rv a105, iv (1 : Int32), .unset, .unset, .unset, .unset, .unset, .unset, .unset, .unset, .unset]) rfl k) ?_
      exact J1 T259 _ T249.heap X259 e259 N259 F250 F251 F252 Ex249 gk249 gc249 gv249 F257 _
    · refine own_go (B := (T121.setTop (mkF m 86 #[iv p0, iv p1, iv p2, iv p3, iv p4, iv p5, iv (1 : Int32), iv (3 : Int32), rv a1, rv a4, rv a9, rv a16, rv a25, rv a36, rv a105, .unset, .unset, .unset, .unset, .unset, .unset, .unset, .unset, .unset, .unset] [(.int (3 : Int32))]))) (fun t k => XS.iload X121.here hx rfl (hb hby at_84) rfl k) ?_
      have hc86 : (0 : Int32) < (3 : Int32) := (by decide)
      refine own_ifN X121 hx (hb hby at_86) (pn := 89) rfl hc86 ?_
      refine own_go (B := (T121.setTop (mkF m 91 #[iv p0, iv p1, iv p2, iv p3, iv p4, iv p5, iv (1 : Int32), iv (3 : Int32), rv a1, rv a4, rv a9, rv a16, rv a25, rv a36, rv a105, .unset, .unset, .unset, .unset, .unset, .unset, .unset, .unset, .unset, .unset] [(.ref a105)]))) (fun t k => XS.aload X121.here hx rfl (hb hby at_89) rfl rfl k) ?_
      refine own_go (B := (T121.setTop (mkF m 93 #[iv p0, iv p1, iv p2, iv p3, iv p4, iv p5, iv (1 : Int32), iv (3 : Int32), rv a1, rv a4, rv a9, rv a16, rv a25, rv a36, rv a105, .unset, .unset, .unset, .unset, .unset, .unset, .unset, .unset, .unset, .unset] [(.ref a1), (.ref a105)]))) (fun t k => XS.aload X121.here hx rfl (hb hby at_91) rfl rfl k) ?_
      obtain ⟨cq260, kq260, qa260, qb260, qc260⟩ := isOf hZ rfl Ex121
      obtain ⟨_, _, ⟨T260, L260, k260, n260⟩, -, X260, ⟨Lc260, hQ260, l260, y260, z260⟩, st260⟩ := X121.virtualBack hx (y := own_y9) (z := own_y9) hown (mvT hZ w_41) (mvT hZ w_42) (notFace_of_selects (args := #[]) (mvT hZ w_44)) (mvT hZ w_44) (mvT hZ w_43) (by decide) (backOf (W := 0) (own_kone l Z a0 hw [] a105 a1 ar121 (0 : Int32) (1 : Int32) (1 : Int32) [.null] [(.ref a1)] T121.heap n0 Ex121 gk121 gc121 Vb F122 gn105 gn_ar121 ne_ar121_a105 (own_lenL (n := 1) rfl (by decide)) (by decide) (by decide) (Nat.lt_of_lt_of_eq (by decide : _ < 1) rfl) (by decide) (Ins.of_exa (own_Bn_exa BB (List.mem_of_getElem? (i := 0) rfl)) w_60) rfl) hZ w_45 w_12 (by decide) (by decide)) qa260 qc260 (g := (mkF m 93 #[iv p0, iv p1, iv p2, iv p3, iv p4, iv p5, iv (1 : Int32), iv (3 : Int32), rv a1, rv a4, rv a9, rv a16, rv a25, rv a36, rv a105, .unset, .unset, .unset, .unset, .unset, .unset, .unset, .unset, .unset, .unset] [(.ref a1), (.ref a105)])) rfl (by rw [hml]; rfl) (Steps.refl _) (argsL := [(.ref a1)]) (rest := []) (lenOf own_pd8 rfl) rfl (by show 2 * 0 + _ ≤ _; exact own_b rfl) (hb hby at_93) (fun _ _ => ⟨rfl, rfl, (own_b rfl : 8 + 0 ≤ _), (own_b rfl : 14 + 0 ≤ _)⟩)
      dsimp only [Pt.U, Pt.locs, Pt.cells, Pt.slots] at X260 l260 y260 z260 st260 hQ260
      obtain ⟨rfl, Nq260, K260, Ex260, gk260, gc260, gv260⟩ := hQ260
      obtain ⟨L260, X260, N260⟩ := own_absC (K := 8) (K' := 14) X260 l260 y260 z260 N121 Nq260
      have F261 : n0 ≤ T260.heap.size := Nat.le_trans F122 K260.1
      have F262 := Keep.trans F123 K260 (allS (Or.inr (Nat.le_trans F93.1 (Nat.le_of_eq ga105.symm))) (allS (Or.inr (Nat.le_trans K107.1 gz121)) all0))
      have F263 := own_Ao_keep F134 K260 (ninS (Ne.symm ne105_a36) (ninS (Ne.symm ne_ar121_a36) nin0))
      have F264 := Exa.keep Ex121 K260
      have F268 := own_Bn_keep BB K260 hbq
      refine own_tr (B := (T260.setTop (mkF m 96 #[iv p0, iv p1, iv p2, iv p3, iv p4, iv p5, iv (1 : Int32), iv (3 : Int32), rv a1, rv a4, rv a9, rv a16, rv a25, rv a36, rv a105, .unset, .unset, .unset, .unset, .unset, .unset, .unset, .unset, .unset, .unset] []))) st260 ?_
      refine own_go (B := (T260.setTop (mkF m 98 #[iv p0, iv p1, iv p2, iv p3, iv p4, iv p5, iv (1 : Int32), iv (3 : Int32), rv a1, rv a4, rv a9, rv a16, rv a25, rv a36, rv a105, .unset, .unset, .unset, .unset, .unset, .unset, .unset, .unset, .unset, .unset] [(.int (3 : Int32))]))) (fun t k => XS.iload X260.here hx rfl (hb hby at_96) rfl k) ?_
      refine own_go (B := (T260.setTop (mkF m 99 #[iv p0, iv p1, iv p2, iv p3, iv p4, iv p5, iv (1 : Int32), iv (3 : Int32), rv a1, rv a4, rv a9, rv a16, rv a25, rv a36, rv a105, .unset, .unset, .unset, .unset, .unset, .unset, .unset, .unset, .unset, .unset] [(.int (1 : Int32)), (.int (3 : Int32))]))) (fun t k => own_iconst (v := (1 : Int32)) X260.here hx rfl (hb hby at_98) (by decide) k) ?_
      have hc99 : (1 : Int32) < (3 : Int32) := (by decide)
      refine own_icmpN X260 hx (hb hby at_99) (pn := 102) rfl hc99 ?_
      refine own_go (B := (T260.setTop (mkF m 104 #[iv p0, iv p1, iv p2, iv p3, iv p4, iv p5, iv (1 : Int32), iv (3 : Int32), rv a1, rv a4, rv a9, rv a16, rv a25, rv a36, rv a105, .unset, .unset, .unset, .unset, .unset, .unset, .unset, .unset, .unset, .unset] [(.ref a105)]))) (fun t k => XS.aload X260.here hx rfl (hb hby at_102) rfl rfl k) ?_
      refine own_go (B := (T260.setTop (mkF m 106 #[iv p0, iv p1, iv p2, iv p3, iv p4, iv p5, iv (1 : Int32), iv (3 : Int32), rv a1, rv a4, rv a9, rv a16, rv a25, rv a36, rv a105, .unset, .unset, .unset, .unset, .unset, .unset, .unset, .unset, .unset, .unset] [(.ref a4), (.ref a105)]))) (fun t k => XS.aload X260.here hx rfl (hb hby at_104) rfl rfl k) ?_
      obtain ⟨cq269, kq269, qa269, qb269, qc269⟩ := isOf hZ rfl Ex260
      obtain ⟨_, _, ⟨T269, L269, k269, n269⟩, -, X269, ⟨Lc269, hQ269, l269, y269, z269⟩, st269⟩ := X260.virtualBack hx (y := own_y9) (z := own_y9) hown (mvT hZ w_41) (mvT hZ w_42) (notFace_of_selects (args := #[]) (mvT hZ w_44)) (mvT hZ w_44) (mvT hZ w_43) (by decide) (backOf (W := 0) (own_kfull l Z a0 hw [] a105 a4 ar121 (1 : Int32) (1 : Int32) [(.ref a1)] T260.heap n0 Ex260 gk260 gc260 gv260 (own_lenL (n := 1) rfl (by decide)) (by decide)) hZ w_45 w_12 (by decide) (by decide)) qa269 qc269 (g := (mkF m 106 #[iv p0, iv p1, iv p2, iv p3, iv p4, iv p5, iv (1 : Int32), iv (3 : Int32), rv a1, rv a4, rv a9, rv a16, rv a25, rv a36, rv a105, .unset, .unset, .unset, .unset, .unset, .unset, .unset, .unset, .unset, .unset] [(.ref a4), (.ref a105)])) rfl (by rw [hml]; rfl) (Steps.refl _) (argsL := [(.ref a4)]) (rest := []) (lenOf own_pd8 rfl) rfl (by show 2 * 0 + _ ≤ _; exact own_b rfl) (hb hby at_106) (fun _ _ => ⟨rfl, rfl, (own_b rfl : 8 + 0 ≤ _), (own_b rfl : 14 + 0 ≤ _)⟩)
      dsimp only [Pt.U, Pt.locs, Pt.cells, Pt.slots] at X269 l269 y269 z269 st269 hQ269
      obtain ⟨rfl, Nq269, eq269⟩ := hQ269
      obtain ⟨L269, X269, N269⟩ := own_absC (K := 8) (K' := 14) X269 l269 y269 z269 N260 Nq269
      have e269 : T269.heap = T260.heap := eq269
      refine own_tr (B := (T269.setTop (mkF m 109 #[iv p0, iv p1, iv p2, iv p3, iv p4, iv p5, iv (1 : Int32), iv (3 : Int32), rv a1, rv a4, rv a9, rv a16, rv a25, rv a36, rv a105, .unset, .unset, .unset, .unset, .unset, .unset, .unset, .unset, .unset, .unset] []))) st269 ?_
      refine own_go (B := (T269.setTop (mkF m 111 #[iv p0, iv p1, iv p2, iv p3, iv p4, iv p5, iv (1 : Int32), iv (3 : Int32), rv a1, rv a4, rv a9, rv a16, rv a25, rv a36, rv a105, .unset, .unset, .unset, .unset, .unset, .unset, .unset, .unset, .unset, .unset] [(.int (3 : Int32))]))) (fun t k => XS.iload X269.here hx rfl (hb hby at_109) rfl k) ?_
      refine own_go (B := (T269.setTop (mkF m 112 #[iv p0, iv p1, iv p2, iv p3, iv p4, iv p5, iv (1 : Int32), iv (3 : Int32), rv a1, rv a4, rv a9, rv a16, rv a25, rv a36, rv a105, .unset, .unset, .unset, .unset, .unset, .unset, .unset, .unset, .unset, .unset] [(.int (2 : Int32)), (.int (3 : Int32))]))) (fun t k => own_iconst (v := (2 : Int32)) X269.here hx rfl (hb hby at_111) (by decide) k) ?_
      have hc112 : (2 : Int32) < (3 : Int32) := (by decide)
      refine own_icmpN X269 hx (hb hby at_112) (pn := 115) rfl hc112 ?_
      refine own_go (B := (T269.setTop (mkF m 117 #[iv p0, iv p1, iv p2, iv p3, iv p4, iv p5, iv (1 : Int32), iv (3 : Int32), rv a1, rv a4, rv a9, rv a16, rv a25, rv a36, rv a105, .unset, .unset, .unset, .unset, .unset, .unset, .unset, .unset, .unset, .unset] [(.ref a105)]))) (fun t k => XS.aload X269.here hx rfl (hb hby at_115) rfl rfl k) ?_
      refine own_go (B := (T269.setTop (mkF m 119 #[iv p0, iv p1, iv p2, iv p3, iv p4, iv p5, iv (1 : Int32), iv (3 : Int32), rv a1, rv a4, rv a9, rv a16, rv a25, rv a36, rv a105, .unset, .unset, .unset, .unset, .unset, .unset, .unset, .unset, .unset, .unset] [(.ref a9), (.ref a105)]))) (fun t k => XS.aload X269.here hx rfl (hb hby at_117) rfl rfl k) ?_
      obtain ⟨cq270, kq270, qa270, qb270, qc270⟩ := isOf hZ e269 Ex260
      obtain ⟨_, _, ⟨T270, L270, k270, n270⟩, -, X270, ⟨Lc270, hQ270, l270, y270, z270⟩, st270⟩ := X269.virtualBack hx (y := own_y9) (z := own_y9) hown (mvT hZ w_41) (mvT hZ w_42) (notFace_of_selects (args := #[]) (mvT hZ w_44)) (mvT hZ w_44) (mvT hZ w_43) (by decide) (backOf (W := 0) (own_kfull l Z a0 hw [] a105 a9 ar121 (1 : Int32) (1 : Int32) [(.ref a1)] T260.heap n0 Ex260 gk260 gc260 gv260 (own_lenL (n := 1) rfl (by decide)) (by decide)) hZ w_45 w_12 (by decide) (by decide)) qa270 qc270 (g := (mkF m 119 #[iv p0, iv p1, iv p2, iv p3, iv p4, iv p5, iv (1 : Int32), iv (3 : Int32), rv a1, rv a4, rv a9, rv a16, rv a25, rv a36, rv a105, .unset, .unset, .unset, .unset, .unset, .unset, .unset, .unset, .unset, .unset] [(.ref a9), (.ref a105)])) rfl (by rw [hml]; rfl) (Steps.refl _) (argsL := [(.ref a9)]) (rest := []) (lenOf own_pd8 rfl) rfl (by show 2 * 0 + _ ≤ _; exact own_b rfl) (hb hby at_119) (fun _ _ => ⟨rfl, e269, (own_b rfl : 8 + 0 ≤ _), (own_b rfl : 14 + 0 ≤ _)⟩)
      dsimp only [Pt.U, Pt.locs, Pt.cells, Pt.slots] at X270 l270 y270 z270 st270 hQ270
      obtain ⟨rfl, Nq270, eq270⟩ := hQ270
      obtain ⟨L270, X270, N270⟩ := own_absC (K := 8) (K' := 14) X270 l270 y270 z270 N269 Nq270
      have e270 : T270.heap = T260.heap := eq270
      refine own_tr (B := (T270.setTop (mkF m 122 #[iv p0, iv p1, iv p2, iv p3, iv p4, iv p5, iv (1 : Int32), iv (3 : Int32), rv a1, rv a4, rv a9, rv a16, rv a25, rv a36, rv a105, .unset, .unset, .unset, .unset, .unset, .unset, .unset, .unset, .unset, .unset] []))) st270 ?_
      refine own_go (B := (T270.setTop (mkF m 124 #[iv p0, iv p1, iv p2, iv p3, iv p4, iv p5, iv (1 : Int32), iv (3 : Int32), rv a1, rv a4, rv a9, rv a16, rv a25, rv a36, rv a105, .unset, .unset, .unset, .unset, .unset, .unset, .unset, .unset, .unset, .unset] [(.int (3 : Int32))]))) (fun t k => XS.iload X270.here hx rfl (hb hby at_122) rfl k) ?_
      refine own_go (B := (T270.setTop (mkF m 125 #[iv p0, iv p1, iv p2, iv p3, iv p4, iv p5, iv (1 : Int32), iv (3 : Int32), rv a1, rv a4, rv a9, rv a16, rv a25, rv a36, rv a105, .unset, .unset, .unset, .unset, .unset, .unset, .unset, .unset, .unset, .unset] [(.int (3 : Int32)), (.int (3 : Int32))]))) (fun t k => own_iconst (v := (3 : Int32)) X270.here hx rfl (hb hby at_124) (by decide) k) ?_
      have hc125 : ¬ (3 : Int32) < (3 : Int32) := (by decide)
      refine own_icmpY X270 hx (hb hby at_125) (pc' := 135) (by decide) (by decide) hc125 ?_
      refine own_go (B := (T270.setTop (mkF m 137 #[iv p0, iv p1, iv p2, iv p3, iv p4, iv p5, iv (1 : Int32), iv (3 : Int32), rv a1, rv a4, rv a9, rv a16, rv a25, rv a36, rv a105, .unset, .unset, .unset, .unset, .unset, .unset, .unset, .unset, .unset, .unset] [(.int (3 : Int32))]))) (fun t k => XS.iload X270.here hx rfl (hb hby at_135) rfl k) ?_
      refine own_go (B := (T270.setTop (mkF m 139 #[iv p0, iv p1, iv p2, iv p3, iv p4, iv p5, iv (1 : Int32), iv (3 : Int32), rv a1, rv a4, rv a9, rv a16, rv a25, rv a36, rv a105, .unset, .unset, .unset, .unset, .unset, .unset, .unset, .unset, .unset, .unset] [(.int (1 : Int32)), (.int (3 : Int32))]))) (fun t k => XS.iload X270.here hx rfl (hb hby at_137) rfl k) ?_
      obtain ⟨_, _, ⟨T271, L271, k271, n271⟩, -, X271, ⟨Lc271, hQ271, l271, y271, z271⟩, st271⟩ := Jvm.LawKit.callS X270 hx (y := own_y10) hown (mvT hZ w_23) (mvT hZ w_24) (mvT hZ w_25) (mvT hZ w_26) (by decide) (backOf (W := 0) (own_mmin l Z a0 hw [] (3 : Int32) (1 : Int32) T260.heap n0) hZ w_26 w_25 (by decide) (by decide)) (g := (mkF m 139 #[iv p0, iv p1, iv p2, iv p3, iv p4, iv p5, iv (1 : Int32), iv (3 : Int32), rv a1, rv a4, rv a9, rv a16, rv a25, rv a36, rv a105, .unset, .unset, .unset, .unset, .unset, .unset, .unset, .unset, .unset, .unset] [(.int (1 : Int32)), (.int (3 : Int32))])) rfl (by rw [hml]; rfl) (argsL := [(.int (3 : Int32)), (.int (1 : Int32))]) (rest := []) (lenOf own_pd7 rfl) rfl (by show 2 * 0 + _ ≤ _; exact own_b rfl) (hb hby at_139) (fun _ _ => ⟨rfl, e270, (own_b rfl : 8 + 0 ≤ _), (own_b rfl : 14 + 0 ≤ _)⟩)
      dsimp only [Pt.U, Pt.locs, Pt.cells, Pt.slots] at X271 l271 y271 z271 st271 hQ271
      obtain ⟨rfl, Nq271, eq271⟩ := hQ271
      obtain ⟨L271, X271, N271⟩ := own_absC (K := 8) (K' := 14) X271 l271 y271 z271 N270 Nq271
      have e271 : T271.heap = T260.heap := eq271
      refine own_go (B := (T271.setTop (mkF m 142 #[iv p0, iv p1, iv p2, iv p3, iv p4, iv p5, iv (1 : Int32), iv (3 : Int32), rv a1, rv a4, rv a9, rv a16, rv a25, rv a36, rv a105, .unset, .unset, .unset, .unset, .unset, .unset, .unset, .unset, .unset, .unset] [(.int (own_min (3 : Int32) (1 : Int32)))]))) st271 ?_
      rw [show own_min (3 : Int32) (1 : Int32) = (1 : Int32) from by decide]
      refine own_go (B := (T271.setTop (mkF m 144 #[iv p0, iv p1, iv p2, iv p3, iv p4, iv p5, iv (1 : Int32), iv (3 : Int32), rv a1, rv a4, rv a9, rv a16, rv a25, rv a36, rv a105, iv (1 : Int32), .unset, .unset, .unset, .unset, .unset, .unset, .unset, .unset, .unset] []))) (fun t k => XS.istore X271.here hx rfl (hb hby at_142) rfl (l' := #[iv p0, iv p1, iv p2, iv p3, iv p4, iv p5, iv (1 : Int32), iv (3 : Int32), rv a1, rv a4, rv a9, rv a16, rv a25, rv a36, rv a105, iv (1 : Int32), .unset, .unset, .unset, .unset, .unset, .unset, .unset, .unset, .unset]) rfl k) ?_
      exact J1 T271 _ T260.heap X271 e271 N271 F261 F262 F263 Ex260 gk260 gc260 gv260 F268 _
    · refine own_go (B := (T121.setTop (mkF m 86 #[iv p0, iv p1, iv p2, iv p3, iv p4, iv p5, iv (1 : Int32), iv (4 : Int32), rv a1, rv a4, rv a9, rv a16, rv a25, rv a36, rv a105, .unset, .unset, .unset, .unset, .unset, .unset, .unset, .unset, .unset, .unset] [(.int (4 : Int32))]))) (fun t k => XS.iload X121.here hx rfl (hb hby at_84) rfl k) ?_
      have hc86 : (0 : Int32) < (4 : Int32) := (by decide)
      refine own_ifN X121 hx (hb hby at_86) (pn := 89) rfl hc86 ?_
      refine own_go (B := (T121.setTop (mkF m 91 #[iv p0, iv p1, iv p2, iv p3, iv p4, iv p5, iv (1 : Int32), iv (4 : Int32), rv a1, rv a4, rv a9, rv a16, rv a25, rv a36, rv a105, .unset, .unset, .unset, .unset, .unset, .unset, .unset, .unset, .unset, .unset] [(.ref a105)]))) (fun t k => XS.aload X121.here hx rfl (hb hby at_89) rfl rfl k) ?_
      refine own_go (B := (T121.setTop (mkF m 93 #[iv p0, iv p1, iv p2, iv p3, iv p4, iv p5, iv (1 : Int32), iv (4 : Int32), rv a1, rv a4, rv a9, rv a16, rv a25, rv a36, rv a105, .unset, .unset, .unset, .unset, .unset, .unset, .unset, .unset, .unset, .unset] [(.ref a1), (.ref a105)]))) (fun t k => XS.aload X121.here hx rfl (hb hby at_91) rfl rfl k) ?_
      obtain ⟨cq272, kq272, qa272, qb272, qc272⟩ := isOf hZ rfl Ex121
      obtain ⟨_, _, ⟨T272, L272, k272, n272⟩, -, X272, ⟨Lc272, hQ272, l272, y272, z272⟩, st272⟩ := X121.virtualBack hx (y := own_y9) (z := own_y9) hown (mvT hZ w_41) (mvT hZ w_42) (notFace_of_selects (args := #[]) (mvT hZ w_44)) (mvT hZ w_44) (mvT hZ w_43) (by decide) (backOf (W := 0) (own_kone l Z a0 hw [] a105 a1 ar121 (0 : Int32) (1 : Int32) (1 : Int32) [.null] [(.ref a1)] T121.heap n0 Ex121 gk121 gc121 Vb F122 gn105 gn_ar121 ne_ar121_a105 (own_lenL (n := 1) rfl (by decide)) (by decide) (by decide) (Nat.lt_of_lt_of_eq (by decide : _ < 1) rfl) (by decide) (Ins.of_exa (own_Bn_exa BB (List.mem_of_getElem? (i := 0) rfl)) w_60) rfl) hZ w_45 w_12 (by decide) (by decide)) qa272 qc272 (g := (mkF m 93 #[iv p0, iv p1, iv p2, iv p3, iv p4, iv p5, iv (1 : Int32), iv (4 : Int32), rv a1, rv a4, rv a9, rv a16, rv a25, rv a36, rv a105, .unset, .unset, .unset, .unset, .unset, .unset, .unset, .unset, .unset, .unset] [(.ref a1), (.ref a105)])) rfl (by rw [hml]; rfl) (Steps.refl _) (argsL := [(.ref a1)]) (rest := []) (lenOf own_pd8 rfl) rfl (by show 2 * 0 + _ ≤ _; exact own_b rfl) (hb hby at_93) (fun _ _ => ⟨rfl, rfl, (own_b rfl : 8 + 0 ≤ _), (own_b rfl : 14 + 0 ≤ _)⟩)
      dsimp only [Pt.U, Pt.locs, Pt.cells, Pt.slots] at X272 l272 y272 z272 st272 hQ272
      obtain ⟨rfl, Nq272, K272, Ex272, gk272, gc272, gv272⟩ := hQ272
      obtain ⟨L272, X272, N272⟩ := own_absC (K := 8) (K' := 14) X272 l272 y272 z272 N121 Nq272
      have F273 : n0 ≤ T272.heap.size := Nat.le_trans F122 K272.1
      have F274 := Keep.trans F123 K272 (allS (Or.inr (Nat.le_trans F93.1 (Nat.le_of_eq ga105.symm))) (allS (Or.inr (Nat.le_trans K107.1 gz121)) all0))
      have F275 := own_Ao_keep F134 K272 (ninS (Ne.symm ne105_a36) (ninS (Ne.symm ne_ar121_a36) nin0))
      have F276 := Exa.keep Ex121 K272
      have F280 := own_Bn_keep BB K272 hbq
      refine own_tr (B := (T272.setTop (mkF m 96 #[iv p0, iv p1, iv p2, iv p3, iv p4, iv p5, iv (1 : Int32), iv (4 : Int32), rv a1, rv a4, rv a9, rv a16, rv a25, rv a36, rv a105, .unset, .unset, .unset, .unset, .unset, .unset, .unset, .unset, .unset, .unset] []))) st272 ?_
      refine own_go (B := (T272.setTop (mkF m 98 #[iv p0, iv p1, iv p2, iv p3, iv p4, iv p5, iv (1 : Int32), iv (4 : Int32), rv a1, rv a4, rv a9, rv a16, rv a25, rv a36, rv a105, .unset, .unset, .unset, .unset, .unset, .unset, .unset, .unset, .unset, .unset] [(.int (4 : Int32))]))) (fun t k => XS.iload X272.here hx rfl (hb hby at_96) rfl k) ?_
      refine own_go (B := (T272.setTop (mkF m 99 #[iv p0, iv p1, iv p2, iv p3, iv p4, iv p5, iv (1 : Int32), iv (4 : Int32), rv a1, rv a4, rv a9, rv a16, rv a25, rv a36, rv a105, .unset, .unset, .unset, .unset, .unset, .unset, .unset, .unset, .unset, .unset] [(.int (1 : Int32)), (.int (4 : Int32))]))) (fun t k => own_iconst (v := (1 : Int32)) X272.here hx rfl (hb hby at_98) (by decide) k) ?_
      have hc99 : (1 : Int32) < (4 : Int32) := (by decide)
      refine own_icmpN X272 hx (hb hby at_99) (pn := 102) rfl hc99 ?_
      refine own_go (B := (T272.setTop (mkF m 104 #[iv p0, iv p1, iv p2, iv p3, iv p4, iv p5, iv (1 : Int32), iv (4 : Int32), rv a1, rv a4, rv a9, rv a16, rv a25, rv a36, rv a105, .unset, .unset, .unset, .unset, .unset, .unset, .unset, .unset, .unset, .unset] [(.ref a105)]))) (fun t k => XS.aload X272.here hx rfl (hb hby at_102) rfl rfl k) ?_
      refine own_go (B := (T272.setTop (mkF m 106 #[iv p0, iv p1, iv p2, iv p3, iv p4, iv p5, iv (1 : Int32), iv (4 : Int32), rv a1, rv a4, rv a9, rv a16, rv a25, rv a36, rv a105, .unset, .unset, .unset, .unset, .unset, .unset, .unset, .unset, .unset, .unset] [(.ref a4), (.ref a105)]))) (fun t k => XS.aload X272.here hx rfl (hb hby at_104) rfl rfl k) ?_
      obtain ⟨cq281, kq281, qa281, qb281, qc281⟩ := isOf hZ rfl Ex272
      obtain ⟨_, _, ⟨T281, L281, k281, n281⟩, -, X281, ⟨Lc281, hQ281, l281, y281, z281⟩, st281⟩ := X272.virtualBack hx (y := own_y9) (z := own_y9) hown (mvT hZ w_41) (mvT hZ w_42) (notFace_of_selects (args := #[]) (mvT hZ w_44)) (mvT hZ w_44) (mvT hZ w_43) (by decide) (backOf (W := 0) (own_kfull l Z a0 hw [] a105 a4 ar121 (1 : Int32) (1 : Int32) [(.ref a1)] T272.heap n0 Ex272 gk272 gc272 gv272 (own_lenL (n := 1) rfl (by decide)) (by decide)) hZ w_45 w_12 (by decide) (by decide)) qa281 qc281 (g := (mkF m 106 #[iv p0, iv p1, iv p2, iv p3, iv p4, iv p5, iv (1 : Int32), iv (4 : Int32), rv a1, rv a4, rv a9, rv a16, rv a25, rv a36, rv a105, .unset, .unset, .unset, .unset, .unset, .unset, .unset, .unset, .unset, .unset] [(.ref a4), (.ref a105)])) rfl (by rw [hml]; rfl) (Steps.refl _) (argsL := [(.ref a4)]) (rest := []) (lenOf own_pd8 rfl) rfl (by show 2 * 0 + _ ≤ _; exact own_b rfl) (hb hby at_106) (fun _ _ => ⟨rfl, rfl, (own_b rfl : 8 + 0 ≤ _), (own_b rfl : 14 + 0 ≤ _)⟩)
      dsimp only [Pt.U, Pt.locs, Pt.cells, Pt.slots] at X281 l281 y281 z281 st281 hQ281
      obtain ⟨rfl, Nq281, eq281⟩ := hQ281
      obtain ⟨L281, X281, N281⟩ := own_absC (K := 8) (K' := 14) X281 l281 y281 z281 N272 Nq281
      have e281 : T281.heap = T272.heap := eq281
      refine own_tr (B := (T281.setTop (mkF m 109 #[iv p0, iv p1, iv p2, iv p3, iv p4, iv p5, iv (1 : Int32), iv (4 : Int32), rv a1, rv a4, rv a9, rv a16, rv a25, rv a36, rv a105, .unset, .unset, .unset, .unset, .unset, .unset, .unset, .unset, .unset, .unset] []))) st281 ?_
      refine own_go (B := (T281.setTop (mkF m 111 #[iv p0, iv p1, iv p2, iv p3, iv p4, iv p5, iv (1 : Int32), iv (4 : Int32), rv a1, rv a4, rv a9, rv a16, rv a25, rv a36, rv a105, .unset, .unset, .unset, .unset, .unset, .unset, .unset, .unset, .unset, .unset] [(.int (4 : Int32))]))) (fun t k => XS.iload X281.here hx rfl (hb hby at_109) rfl k) ?_
      refine own_go (B := (T281.setTop (mkF m 112 #[iv p0, iv p1, iv p2, iv p3, iv p4, iv p5, iv (1 : Int32), iv (4 : Int32), rv a1, rv a4, rv a9, rv a16, rv a25, rv a36, rv a105, .unset, .unset, .unset, .unset, .unset, .unset, .unset, .unset, .unset, .unset] [(.int (2 : Int32)), (.int (4 : Int32))]))) (fun t k => own_iconst (v := (2 : Int32)) X281.here hx rfl (hb hby at_111) (by decide) k) ?_
      have hc112 : (2 : Int32) < (4 : Int32) := (by decide)
      refine own_icmpN X281 hx (hb hby at_112) (pn := 115) rfl hc112 ?_
      refine own_go (B := (T281.setTop (mkF m 117 #[iv p0, iv p1, iv p2, iv p3, iv p4, iv p5, iv (1 : Int32), iv (4 : Int32), rv a1, rv a4, rv a9, rv a16, rv a25, rv a36, rv a105, .unset, .unset, .unset, .unset, .unset, .unset, .unset, .unset, .unset, .unset] [(.ref a105)]))) (fun t k => XS.aload X281.here hx rfl (hb hby at_115) rfl rfl k) ?_
      refine own_go (B := (T281.setTop (mkF m 119 #[iv p0, iv p1, iv p2, iv p3, iv p4, iv p5, iv (1 : Int32), iv (4 : Int32), rv a1, rv a4, rv a9, rv a16, rv a25, rv a36, rv a105, .unset, .unset, .unset, .unset, .unset, .unset, .unset, .unset, .unset, .unset] [(.ref a9), (.ref a105)]))) (fun t k => XS.aload X281.here hx rfl (hb hby at_117) rfl rfl k) ?_
      obtain ⟨cq282, kq282, qa282, qb282, qc282⟩ := isOf hZ e281 Ex272
      obtain ⟨_, _, ⟨T282, L282, k282, n282⟩, -, X282, ⟨Lc282, hQ282, l282, y282, z282⟩, st282⟩ := X281.virtualBack hx (y := own_y9) (z := own_y9) hown (mvT hZ w_41) (mvT hZ w_42) (notFace_of_selects (args := #[]) (mvT hZ w_44)) (mvT hZ w_44) (mvT hZ w_43) (by decide) (backOf (W := 0) (own_kfull l Z a0 hw [] a105 a9 ar121 (1 : Int32) (1 : Int32) [(.ref a1)] T272.heap n0 Ex272 gk272 gc272 gv272 (own_lenL (n := 1) rfl (by decide)) (by decide)) hZ w_45 w_12 (by decide) (by decide)) qa282 qc282 (g := (mkF m 119 #[iv p0, iv p1, iv p2, iv p3, iv p4, iv p5, iv (1 : Int32), iv (4 : Int32), rv a1, rv a4, rv a9, rv a16, rv a25, rv a36, rv a105, .unset, .unset, .unset, .unset, .unset, .unset, .unset, .unset, .unset, .unset] [(.ref a9), (.ref a105)])) rfl (by rw [hml]; rfl) (Steps.refl _) (argsL := [(.ref a9)]) (rest := []) (lenOf own_pd8 rfl) rfl (by show 2 * 0 + _ ≤ _; exact own_b rfl) (hb hby at_119) (fun _ _ => ⟨rfl, e281, (own_b rfl : 8 + 0 ≤ _), (own_b rfl : 14 + 0 ≤ _)⟩)
      dsimp only [Pt.U, Pt.locs, Pt.cells, Pt.slots] at X282 l282 y282 z282 st282 hQ282
      obtain ⟨rfl, Nq282, eq282⟩ := hQ282
      obtain ⟨L282, X282, N282⟩ := own_absC (K := 8) (K' := 14) X282 l282 y282 z282 N281 Nq282
      have e282 : T282.heap = T272.heap := eq282
      refine own_tr (B := (T282.setTop (mkF m 122 #[iv p0, iv p1, iv p2, iv p3, iv p4, iv p5, iv (1 : Int32), iv (4 : Int32), rv a1, rv a4, rv a9, rv a16, rv a25, rv a36, rv a105, .unset, .unset, .unset, .unset, .unset, .unset, .unset, .unset, .unset, .unset] []))) st282 ?_
      refine own_go (B := (T282.setTop (mkF m 124 #[iv p0, iv p1, iv p2, iv p3, iv p4, iv p5, iv (1 : Int32), iv (4 : Int32), rv a1, rv a4, rv a9, rv a16, rv a25, rv a36, rv a105, .unset, .unset, .unset, .unset, .unset, .unset, .unset, .unset, .unset, .unset] [(.int (4 : Int32))]))) (fun t k => XS.iload X282.here hx rfl (hb hby at_122) rfl k) ?_
      refine own_go (B := (T282.setTop (mkF m 125 #[iv p0, iv p1, iv p2, iv p3, iv p4, iv p5, iv (1 : Int32), iv (4 : Int32), rv a1, rv a4, rv a9, rv a16, rv a25, rv a36, rv a105, .unset, .unset, .unset, .unset, .unset, .unset, .unset, .unset, .unset, .unset] [(.int (3 : Int32)), (.int (4 : Int32))]))) (fun t k => own_iconst (v := (3 : Int32)) X282.here hx rfl (hb hby at_124) (by decide) k) ?_
      have hc125 : (3 : Int32) < (4 : Int32) := (by decide)
      refine own_icmpN X282 hx (hb hby at_125) (pn := 128) rfl hc125 ?_
      refine own_go (B := (T282.setTop (mkF m 130 #[iv p0, iv p1, iv p2, iv p3, iv p4, iv p5, iv (1 : Int32), iv (4 : Int32), rv a1, rv a4, rv a9, rv a16, rv a25, rv a36, rv a105, .unset, .unset, .unset, .unset, .unset, .unset, .unset, .unset, .unset, .unset] [(.ref a105)]))) (fun t k => XS.aload X282.here hx rfl (hb hby at_128) rfl rfl k) ?_
      refine own_go (B := (T282.setTop (mkF m 132 #[iv p0, iv p1, iv p2, iv p3, iv p4, iv p5, iv (1 : Int32), iv (4 : Int32), rv a1, rv a4, rv a9, rv a16, rv a25, rv a36, rv a105, .unset, .unset, .unset, .unset, .unset, .unset, .unset, .unset, .unset, .unset] [(.ref a16), (.ref a105)]))) (fun t k => XS.aload X282.here hx rfl (hb hby at_130) rfl rfl k) ?_
      obtain ⟨cq283, kq283, qa283, qb283, qc283⟩ := isOf hZ e282 Ex272
      obtain ⟨_, _, ⟨T283, L283, k283, n283⟩, -, X283, ⟨Lc283, hQ283, l283, y283, z283⟩, st283⟩ := X282.virtualBack hx (y := own_y9) (z := own_y9) hown (mvT hZ w_41) (mvT hZ w_42) (notFace_of_selects (args := #[]) (mvT hZ w_44)) (mvT hZ w_44) (mvT hZ w_43) (by decide) (backOf (W := 0) (own_kfull l Z a0 hw [] a105 a16 ar121 (1 : Int32) (1 : Int32) [(.ref a1)] T272.heap n0 Ex272 gk272 gc272 gv272 (own_lenL (n := 1) rfl (by decide)) (by decide)) hZ w_45 w_12 (by decide) (by decide)) qa283 qc283 (g := (mkF m 132 #[iv p0, iv p1, iv p2, iv p3, iv p4, iv p5, iv (1 : Int32), iv (4 : Int32), rv a1, rv a4, rv a9, rv a16, rv a25, rv a36, rv a105, .unset, .unset, .unset, .unset, .unset, .unset, .unset, .unset, .unset, .unset] [(.ref a16), (.ref a105)])) rfl (by rw [hml]; rfl) (Steps.refl _) (argsL := [(.ref a16)]) (rest := []) (lenOf own_pd8 rfl) rfl (by show 2 * 0 + _ ≤ _; exact own_b rfl) (hb hby at_132) (fun _ _ => ⟨rfl, e282, (own_b rfl : 8 + 0 ≤ _), (own_b rfl : 14 + 0 ≤ _)⟩)
      dsimp only [Pt.U, Pt.locs, Pt.cells, Pt.slots] at X283 l283 y283 z283 st283 hQ283
      obtain ⟨rfl, Nq283, eq283⟩ := hQ283
      obtain ⟨L283, X283, N283⟩ := own_absC (K := 8) (K' := 14) X283 l283 y283 z283 N282 Nq283
      have e283 : T283.heap = T272.heap := eq283
      refine own_tr (B := (T283.setTop (mkF m 135 #[iv p0, iv p1, iv p2, iv p3, iv p4, iv p5, iv (1 : Int32), iv (4 : Int32), rv a1, rv a4, rv a9, rv a16, rv a25, rv a36, rv a105, .unset, .unset, .unset, .unset, .unset, .unset, .unset, .unset, .unset, .unset] []))) st283 ?_
      refine own_go (B := (T283.setTop (mkF m 137 #[iv p0, iv p1, iv p2, iv p3, iv p4, iv p5, iv (1 : Int32), iv (4 : Int32), rv a1, rv a4, rv a9, rv a16, rv a25, rv a36, rv a105, .unset, .unset, .unset, .unset, .unset, .unset, .unset, .unset, .unset, .unset] [(.int (4 : Int32))]))) (fun t k => XS.iload X283.here hx rfl (hb hby at_135) rfl k) ?_
      refine own_go (B := (T283.setTop (mkF m 139 #[iv p0, iv p1, iv p2, iv p3, iv p4, iv p5, iv (1 : Int32), iv (4 : Int32), rv a1, rv a4, rv a9, rv a16, rv a25, rv a36, rv a105, .unset, .unset, .unset, .unset, .unset, .unset, .unset, .unset, .unset, .unset] [(.int (1 : Int32)), (.int (4 : Int32))]))) (fun t k => XS.iload X283.here hx rfl (hb hby at_137) rfl k) ?_
      obtain ⟨_, _, ⟨T284, L284, k284, n284⟩, -, X284, ⟨Lc284, hQ284, l284, y284, z284⟩, st284⟩ := Jvm.LawKit.callS X283 hx (y := own_y10) hown (mvT hZ w_23) (mvT hZ w_24) (mvT hZ w_25) (mvT hZ w_26) (by decide) (backOf (W := 0) (own_mmin l Z a0 hw [] (4 : Int32) (1 : Int32) T272.heap n0) hZ w_26 w_25 (by decide) (by decide)) (g := (mkF m 139 #[iv p0, iv p1, iv p2, iv p3, iv p4, iv p5, iv (1 : Int32), iv (4 : Int32), rv a1, rv a4, rv a9, rv a16, rv a25, rv a36, rv a105, .unset, .unset, .unset, .unset, .unset, .unset, .unset, .unset, .unset, .unset] [(.int (1 : Int32)), (.int (4 : Int32))])) rfl (by rw [hml]; rfl) (argsL := [(.int (4 : Int32)), (.int (1 : Int32))]) (rest := []) (lenOf own_pd7 rfl) rfl (by show 2 * 0 + _ ≤ _; exact own_b rfl) (hb hby at_139) (fun _ _ => ⟨rfl, e283, (own_b rfl : 8 + 0 ≤ _), (own_b rfl : 14 + 0 ≤ _)⟩)
      dsimp only [Pt.U, Pt.locs, Pt.cells, Pt.slots] at X284 l284 y284 z284 st284 hQ284
      obtain ⟨rfl, Nq284, eq284⟩ := hQ284
      obtain ⟨L284, X284, N284⟩ := own_absC (K := 8) (K' := 14) X284 l284 y284 z284 N283 Nq284
      have e284 : T284.heap = T272.heap := eq284
      refine own_go (B := (T284.setTop (mkF m 142 #[iv p0, iv p1, iv p2, iv p3, iv p4, iv p5, iv (1 : Int32), iv (4 : Int32), rv a1, rv a4, rv a9, rv a16, rv a25, rv a36, rv a105, .unset, .unset, .unset, .unset, .unset, .unset, .unset, .unset, .unset, .unset] [(.int (own_min (4 : Int32) (1 : Int32)))]))) st284 ?_
      rw [show own_min (4 : Int32) (1 : Int32) = (1 : Int32) from by decide]
      refine own_go (B := (T284.setTop (mkF m 144 #[iv p0, iv p1, iv p2, iv p3, iv p4, iv p5, iv (1 : Int32), iv (4 : Int32), rv a1, rv a4, rv a9, rv a16, rv a25, rv a36, rv a105, iv (1 : Int32), .unset, .unset, .unset, .unset, .unset, .unset, .unset, .unset, .unset] []))) (fun t k => XS.istore X284.here hx rfl (hb hby at_142) rfl (l' := #[iv p0, iv p1, iv p2, iv p3, iv p4, iv p5, iv (1 : Int32), iv (4 : Int32), rv a1, rv a4, rv a9, rv a16, rv a25, rv a36, rv a105, iv (1 : Int32), .unset, .unset, .unset, .unset, .unset, .unset, .unset, .unset, .unset]) rfl k) ?_
      exact J1 T284 _ T272.heap X284 e284 N284 F273 F274 F275 Ex272 gk272 gc272 gv272 F280 _
  · have Vb : own_Ao Z T121.heap ar121 "java/lang/Object" [.null, .null] := by have q := gv121; rw [show (2 : Int32).toNatClampNeg = 2 from by decide] at q; exact q
    have J0 : ∀ (T285 : State) (L285 : List Loc) (h285 : Heap) (X285 : Stand p l e room_1 s m #[(.int p0), (.int p1), (.int p2), (.int p3), (.int p4), (.int p5)] below meth c T285 L285 8 14) (e285 : T285.heap = h285) (N285 : Fr n0 L285) (F285_0 : n0 ≤ h285.size) (F285_1 : Keep h0 h285 []) (F285_2 : own_Ao Z h285 a36 "java/lang/Integer" [(.ref a1), (.ref a4), (.ref a9), (.ref a16)]) (F285_3 : Exa Z h285 a105 "com/example/pagemason/pagemason/core/Spares") (F285_4 : Fld Z h285 a105 "com/example/pagemason/pagemason/core/Spares" "kept" "[Ljava/lang/Object;" (.ref ar121)) (F285_5 : Fld Z h285 a105 "com/example/pagemason/pagemason/core/Spares" "count" "I" (.int (0 : Int32))) (F285_6 : own_Ao Z h285 ar121 "java/lang/Object" [.null, .null]) (F285_7 : own_Bn Z h285 [(a1, p1), (a4, p2), (a9, p3), (a16, p4), (a25, p5)]) (kk : Int32), own_G p.tables e below (fun o U' => ∃ v L, o = .returned v ∧ (own_law_Q Z p0 p1 p2 p3 p4 p5 ca h0 n0) v U'.heap L ∧ FrameEnd s o U' L 24 128) (T285.setTop (mkF m 144 #[iv p0, iv p1, iv p2, iv p3, iv p4, iv p5, iv (2 : Int32), iv kk, rv a1, rv a4, rv a9, rv a16, rv a25, rv a36, rv a105, iv (0 : Int32), .unset, .unset, .unset, .unset, .unset, .unset, .unset, .unset, .unset] [])) := by
      intro T285 L285 h285 X285 e285 N285 F285_0 F285_1 F285_2 F285_3 F285_4 F285_5 F285_6 F285_7 kk
      refine own_go (B := (T285.setTop (mkF m 146 #[iv p0, iv p1, iv p2, iv p3, iv p4, iv p5, iv (2 : Int32), iv kk, rv a1, rv a4, rv a9, rv a16, rv a25, rv a36, rv a105, iv (0 : Int32), .unset, .unset, .unset, .unset, .unset, .unset, .unset, .unset, .unset] [(.ref a105)]))) (fun t k => XS.aload X285.here hx rfl (hb hby at_144) rfl rfl k) ?_
      obtain ⟨cq286, kq286, qa286, qb286, qc286⟩ := isOf hZ e285 F285_3
      obtain ⟨_, _, ⟨T286, L286, k286, n286⟩, -, X286, ⟨Lc286, hQ286, l286, y286, z286⟩, st286⟩ := X285.virtualBack hx (y := own_y6) (z := own_y6) hown (mvT hZ w_27) (mvT hZ w_28) (notFace_of_selects (args := #[]) (mvT hZ w_30)) (mvT hZ w_30) (mvT hZ w_29) (by decide) (backOf (W := 0) (own_tnone l Z a0 hw [] a105 h285 n0 F285_5) hZ w_31 w_12 (by decide) (by decide)) qa286 qc286 (g := (mkF m 146 #[iv p0, iv p1, iv p2, iv p3, iv p4, iv p5, iv (2 : Int32), iv kk, rv a1, rv a4, rv a9, rv a16, rv a25, rv a36, rv a105, iv (0 : Int32), .unset, .unset, .unset, .unset, .unset, .unset, .unset, .unset, .unset] [(.ref a105)])) rfl (by rw [hml]; rfl) (Steps.refl _) (argsL := []) (rest := []) (lenOf own_pd5 rfl) rfl (by show 2 * 0 + _ ≤ _; exact own_b rfl) (hb hby at_146) (fun _ _ => ⟨rfl, e285, (own_b rfl : 8 + 0 ≤ _), (own_b rfl : 14 + 0 ≤ _)⟩)
      dsimp only [Pt.U, Pt.locs, Pt.cells, Pt.slots] at X286 l286 y286 z286 st286 hQ286
      obtain ⟨rfl, Nq286, eq286⟩ := hQ286
      obtain ⟨L286, X286, N286⟩ := own_absC (K := 8) (K' := 14) X286 l286 y286 z286 N285 Nq286
      have e286 : T286.heap = h285 := eq286
      refine own_tr (B := (T286.setTop (mkF m 149 #[iv p0, iv p1, iv p2, iv p3, iv p4, iv p5, iv (2 : Int32), iv kk, rv a1, rv a4, rv a9, rv a16, rv a25, rv a36, rv a105, iv (0 : Int32), .unset, .unset, .unset, .unset, .unset, .unset, .unset, .unset, .unset] [.null]))) st286 ?_
      refine own_go (B := (T286.setTop (mkF m 152 #[iv p0, iv p1, iv p2, iv p3, iv p4, iv p5, iv (2 : Int32), iv kk, rv a1, rv a4, rv a9, rv a16, rv a25, rv a36, rv a105, iv (0 : Int32), .unset, .unset, .unset, .unset, .unset, .unset, .unset, .unset, .unset] [.null]))) (X286.checkcastNull hx (g := (mkF m 149 #[iv p0, iv p1, iv p2, iv p3, iv p4, iv p5, iv (2 : Int32), iv kk, rv a1, rv a4, rv a9, rv a16, rv a25, rv a36, rv a105, iv (0 : Int32), .unset, .unset, .unset, .unset, .unset, .unset, .unset, .unset, .unset] [.null])) rfl rfl (hb hby at_149)) ?_
      refine own_go (B := (T286.setTop (mkF m 154 #[iv p0, iv p1, iv p2, iv p3, iv p4, iv p5, iv (2 : Int32), iv kk, rv a1, rv a4, rv a9, rv a16, rv a25, rv a36, rv a105, iv (0 : Int32), .val .null, .unset, .unset, .unset, .unset, .unset, .unset, .unset, .unset] []))) (fun t k => XS.astore X286.here hx rfl (hb hby at_152) rfl rfl (l' := #[iv p0, iv p1, iv p2, iv p3, iv p4, iv p5, iv (2 : Int32), iv kk, rv a1, rv a4, rv a9, rv a16, rv a25, rv a36, rv a105, iv (0 : Int32), .val .null, .unset, .unset, .unset, .unset, .unset, .unset, .unset, .unset]) rfl k) ?_
      refine own_go (B := (T286.setTop (mkF m 156 #[iv p0, iv p1, iv p2, iv p3, iv p4, iv p5, iv (2 : Int32), iv kk, rv a1, rv a4, rv a9, rv a16, rv a25, rv a36, rv a105, iv (0 : Int32), .val .null, .unset, .unset, .unset, .unset, .unset, .unset, .unset, .unset] [(.int (0 : Int32))]))) (fun t k => XS.iload X286.here hx rfl (hb hby at_154) rfl k) ?_
      refine own_go (B := (T286.setTop (mkF m 157 #[iv p0, iv p1, iv p2, iv p3, iv p4, iv p5, iv (2 : Int32), iv kk, rv a1, rv a4, rv a9, rv a16, rv a25, rv a36, rv a105, iv (0 : Int32), .val .null, .unset, .unset, .unset, .unset, .unset, .unset, .unset, .unset] [(.int (1 : Int32)), (.int (0 : Int32))]))) (fun t k => own_iconst (v := (1 : Int32)) X286.here hx rfl (hb hby at_156) (by decide) k) ?_
      have hc157 : (0 : Int32) < (1 : Int32) := (by decide)
      refine own_icmpY X286 hx (hb hby at_157) (pc' := 170) (by decide) (by decide) hc157 ?_
      refine own_go (B := (T286.setTop (mkF m 171 #[iv p0, iv p1, iv p2, iv p3, iv p4, iv p5, iv (2 : Int32), iv kk, rv a1, rv a4, rv a9, rv a16, rv a25, rv a36, rv a105, iv (0 : Int32), .val .null, .unset, .unset, .unset, .unset, .unset, .unset, .unset, .unset] [.null]))) (fun t k => XS.aconstNull X286.here hx rfl (hb hby at_170) k) ?_
      refine own_go (B := (T286.setTop (mkF m 173 #[iv p0, iv p1, iv p2, iv p3, iv p4, iv p5, iv (2 : Int32), iv kk, rv a1, rv a4, rv a9, rv a16, rv a25, rv a36, rv a105, iv (0 : Int32), .val .null, .val .null, .unset, .unset, .unset, .unset, .unset, .unset, .unset] []))) (fun t k => XS.astore X286.here hx rfl (hb hby at_171) rfl rfl (l' := #[iv p0, iv p1, iv p2, iv p3, iv p4, iv p5, iv (2 : Int32), iv kk, rv a1, rv a4, rv a9, rv a16, rv a25, rv a36, rv a105, iv (0 : Int32), .val .null, .val .null, .unset, .unset, .unset, .unset, .unset, .unset, .unset]) rfl k) ?_
      refine own_go (B := (T286.setTop (mkF m 175 #[iv p0, iv p1, iv p2, iv p3, iv p4, iv p5, iv (2 : Int32), iv kk, rv a1, rv a4, rv a9, rv a16, rv a25, rv a36, rv a105, iv (0 : Int32), .val .null, .val .null, .unset, .unset, .unset, .unset, .unset, .unset, .unset] [.null]))) (fun t k => XS.aload X286.here hx rfl (hb hby at_173) rfl rfl k) ?_
      refine own_go (B := (T286.setTop (mkF m 177 #[iv p0, iv p1, iv p2, iv p3, iv p4, iv p5, iv (2 : Int32), iv kk, rv a1, rv a4, rv a9, rv a16, rv a25, rv a36, rv a105, iv (0 : Int32), .val .null, .val .null, .unset, .unset, .unset, .unset, .unset, .unset, .unset] [.null, .null]))) (fun t k => XS.aload X286.here hx rfl (hb hby at_175) rfl rfl k) ?_
      obtain ⟨_, _, ⟨T288, L288, k288, n288⟩, -, X288, ⟨Lc288, hQ288, l288, y288, z288⟩, st288⟩ := Jvm.LawKit.callS X286 hx (y := own_y7) hown (mvT hZ w_34) (mvT hZ w_35) (mvT hZ w_36) (mvT hZ w_37) (by decide) (backOf (W := 0) (own_same0 l Z a0 hw [] h285 n0) hZ w_37 w_36 (by decide) (by decide)) (g := (mkF m 177 #[iv p0, iv p1, iv p2, iv p3, iv p4, iv p5, iv (2 : Int32), iv kk, rv a1, rv a4, rv a9, rv a16, rv a25, rv a36, rv a105, iv (0 : Int32), .val .null, .val .null, .unset, .unset, .unset, .unset, .unset, .unset, .unset] [.null, .null])) rfl (by rw [hml]; rfl) (argsL := [.null, .null]) (rest := []) (lenOf own_pd6 rfl) rfl (by show 2 * 0 + _ ≤ _; exact own_b rfl) (hb hby at_177) (fun _ _ => ⟨rfl, e286, (own_b rfl : 8 + 0 ≤ _), (own_b rfl : 14 + 0 ≤ _)⟩)
      dsimp only [Pt.U, Pt.locs, Pt.cells, Pt.slots] at X288 l288 y288 z288 st288 hQ288
      obtain ⟨rfl, Nq288, eq288⟩ := hQ288
      obtain ⟨L288, X288, N288⟩ := own_absC (K := 8) (K' := 14) X288 l288 y288 z288 N286 Nq288
      have e288 : T288.heap = h285 := eq288
      refine own_go (B := (T288.setTop (mkF m 180 #[iv p0, iv p1, iv p2, iv p3, iv p4, iv p5, iv (2 : Int32), iv kk, rv a1, rv a4, rv a9, rv a16, rv a25, rv a36, rv a105, iv (0 : Int32), .val .null, .val .null, .unset, .unset, .unset, .unset, .unset, .unset, .unset] [(.int (1 : Int32))]))) st288 ?_
      have hc180 : ¬ (1 : Int32) = (0 : Int32) := (by decide)
      refine own_ifY X288 hx (hb hby at_180) (pc' := 185) (by decide) (by decide) hc180 ?_
      refine own_go (B := (T288.setTop (mkF m 187 #[iv p0, iv p1, iv p2, iv p3, iv p4, iv p5, iv (2 : Int32), iv kk, rv a1, rv a4, rv a9, rv a16, rv a25, rv a36, rv a105, iv (0 : Int32), .val .null, .val .null, .unset, .unset, .unset, .unset, .unset, .unset, .unset] [(.ref a105)]))) (fun t k => XS.aload X288.here hx rfl (hb hby at_185) rfl rfl k) ?_
      obtain ⟨cq289, kq289, qa289, qb289, qc289⟩ := isOf hZ e288 F285_3
      obtain ⟨_, _, ⟨T289, L289, k289, n289⟩, -, X289, ⟨Lc289, hQ289, l289, y289, z289⟩, st289⟩ := X288.virtualBack hx (y := own_y6) (z := own_y6) hown (mvT hZ w_27) (mvT hZ w_28) (notFace_of_selects (args := #[]) (mvT hZ w_30)) (mvT hZ w_30) (mvT hZ w_29) (by decide) (backOf (W := 0) (own_tnone l Z a0 hw [] a105 h285 n0 F285_5) hZ w_31 w_12 (by decide) (by decide)) qa289 qc289 (g := (mkF m 187 #[iv p0, iv p1, iv p2, iv p3, iv p4, iv p5, iv (2 : Int32), iv kk, rv a1, rv a4, rv a9, rv a16, rv a25, rv a36, rv a105, iv (0 : Int32), .val .null, .val .null, .unset, .unset, .unset, .unset, .unset, .unset, .unset] [(.ref a105)])) rfl (by rw [hml]; rfl) (Steps.refl _) (argsL := []) (rest := []) (lenOf own_pd5 rfl) rfl (by show 2 * 0 + _ ≤ _; exact own_b rfl) (hb hby at_187) (fun _ _ => ⟨rfl, e288, (own_b rfl : 8 + 0 ≤ _), (own_b rfl : 14 + 0 ≤ _)⟩)
      dsimp only [Pt.U, Pt.locs, Pt.cells, Pt.slots] at X289 l289 y289 z289 st289 hQ289
      obtain ⟨rfl, Nq289, eq289⟩ := hQ289
      obtain ⟨L289, X289, N289⟩ := own_absC (K := 8) (K' := 14) X289 l289 y289 z289 N288 Nq289
      have e289 : T289.heap = h285 := eq289
      refine own_tr (B := (T289.setTop (mkF m 190 #[iv p0, iv p1, iv p2, iv p3, iv p4, iv p5, iv (2 : Int32), iv kk, rv a1, rv a4, rv a9, rv a16, rv a25, rv a36, rv a105, iv (0 : Int32), .val .null, .val .null, .unset, .unset, .unset, .unset, .unset, .unset, .unset] [.null]))) st289 ?_
      refine own_go (B := (T289.setTop (mkF m 193 #[iv p0, iv p1, iv p2, iv p3, iv p4, iv p5, iv (2 : Int32), iv kk, rv a1, rv a4, rv a9, rv a16, rv a25, rv a36, rv a105, iv (0 : Int32), .val .null, .val .null, .unset, .unset, .unset, .unset, .unset, .unset, .unset] [.null]))) (X289.checkcastNull hx (g := (mkF m 190 #[iv p0, iv p1, iv p2, iv p3, iv p4, iv p5, iv (2 : Int32), iv kk, rv a1, rv a4, rv a9, rv a16, rv a25, rv a36, rv a105, iv (0 : Int32), .val .null, .val .null, .unset, .unset, .unset, .unset, .unset, .unset, .unset] [.null])) rfl rfl (hb hby at_190)) ?_
      refine own_go (B := (T289.setTop (mkF m 195 #[iv p0, iv p1, iv p2, iv p3, iv p4, iv p5, iv (2 : Int32), iv kk, rv a1, rv a4, rv a9, rv a16, rv a25, rv a36, rv a105, iv (0 : Int32), .val .null, .val .null, .val .null, .unset, .unset, .unset, .unset, .unset, .unset] []))) (fun t k => XS.astore X289.here hx rfl (hb hby at_193) rfl rfl (l' := #[iv p0, iv p1, iv p2, iv p3, iv p4, iv p5, iv (2 : Int32), iv kk, rv a1, rv a4, rv a9, rv a16, rv a25, rv a36, rv a105, iv (0 : Int32), .val .null, .val .null, .val .null, .unset, .unset, .unset, .unset, .unset, .unset]) rfl k) ?_
      refine own_go (B := (T289.setTop (mkF m 197 #[iv p0, iv p1, iv p2, iv p3, iv p4, iv p5, iv (2 : Int32), iv kk, rv a1, rv a4, rv a9, rv a16, rv a25, rv a36, rv a105, iv (0 : Int32), .val .null, .val .null, .val .null, .unset, .unset, .unset, .unset, .unset, .unset] [(.int (0 : Int32))]))) (fun t k => XS.iload X289.here hx rfl (hb hby at_195) rfl k) ?_
      refine own_go (B := (T289.setTop (mkF m 198 #[iv p0, iv p1, iv p2, iv p3, iv p4, iv p5, iv (2 : Int32), iv kk, rv a1, rv a4, rv a9, rv a16, rv a25, rv a36, rv a105, iv (0 : Int32), .val .null, .val .null, .val .null, .unset, .unset, .unset, .unset, .unset, .unset] [(.int (2 : Int32)), (.int (0 : Int32))]))) (fun t k => own_iconst (v := (2 : Int32)) X289.here hx rfl (hb hby at_197) (by decide) k) ?_
      have hc198 : (0 : Int32) < (2 : Int32) := (by decide)
      refine own_icmpY X289 hx (hb hby at_198) (pc' := 211) (by decide) (by decide) hc198 ?_
      refine own_go (B := (T289.setTop (mkF m 212 #[iv p0, iv p1, iv p2, iv p3, iv p4, iv p5, iv (2 : Int32), iv kk, rv a1, rv a4, rv a9, rv a16, rv a25, rv a36, rv a105, iv (0 : Int32), .val .null, .val .null, .val .null, .unset, .unset, .unset, .unset, .unset, .unset] [.null]))) (fun t k => XS.aconstNull X289.here hx rfl (hb hby at_211) k) ?_
      refine own_go (B := (T289.setTop (mkF m 214 #[iv p0, iv p1, iv p2, iv p3, iv p4, iv p5, iv (2 : Int32), iv kk, rv a1, rv a4, rv a9, rv a16, rv a25, rv a36, rv a105, iv (0 : Int32), .val .null, .val .null, .val .null, .val .null, .unset, .unset, .unset, .unset, .unset] []))) (fun t k => XS.astore X289.here hx rfl (hb hby at_212) rfl rfl (l' := #[iv p0, iv p1, iv p2, iv p3, iv p4, iv p5, iv (2 : Int32), iv kk, rv a1, rv a4, rv a9, rv a16, rv a25, rv a36, rv a105, iv (0 : Int32), .val .null, .val .null, .val .null, .val .null, .unset, .unset, .unset, .unset, .unset]) rfl k) ?_
      refine own_go (B := (T289.setTop (mkF m 216 #[iv p0, iv p1, iv p2, iv p3, iv p4, iv p5, iv (2 : Int32), iv kk, rv a1, rv a4, rv a9, rv a16, rv a25, rv a36, rv a105, iv (0 : Int32), .val .null, .val .null, .val .null, .val .null, .unset, .unset, .unset, .unset, .unset] [.null]))) (fun t k => XS.aload X289.here hx rfl (hb hby at_214) rfl rfl k) ?_
      refine own_go (B := (T289.setTop (mkF m 218 #[iv p0, iv p1, iv p2, iv p3, iv p4, iv p5, iv (2 : Int32), iv kk, rv a1, rv a4, rv a9, rv a16, rv a25, rv a36, rv a105, iv (0 : Int32), .val .null, .val .null, .val .null, .val .null, .unset, .unset, .unset, .unset, .unset] [.null, .null]))) (fun t k => XS.aload X289.here hx rfl (hb hby at_216) rfl rfl k) ?_
      obtain ⟨_, _, ⟨T291, L291, k291, n291⟩, -, X291, ⟨Lc291, hQ291, l291, y291, z291⟩, st291⟩ := Jvm.LawKit.callS X289 hx (y := own_y7) hown (mvT hZ w_34) (mvT hZ w_35) (mvT hZ w_36) (mvT hZ w_37) (by decide) (backOf (W := 0) (own_same0 l Z a0 hw [] h285 n0) hZ w_37 w_36 (by decide) (by decide)) (g := (mkF m 218 #[iv p0, iv p1, iv p2, iv p3, iv p4, iv p5, iv (2 : Int32), iv kk, rv a1, rv a4, rv a9, rv a16, rv a25, rv a36, rv a105, iv (0 : Int32), .val .null, .val .null, .val .null, .val .null, .unset, .unset, .unset, .unset, .unset] [.null, .null])) rfl (by rw [hml]; rfl) (argsL := [.null, .null]) (rest := []) (lenOf own_pd6 rfl) rfl (by show 2 * 0 + _ ≤ _; exact own_b rfl) (hb hby at_218) (fun _ _ => ⟨rfl, e289, (own_b rfl : 8 + 0 ≤ _), (own_b rfl : 14 + 0 ≤ _)⟩)
      dsimp only [Pt.U, Pt.locs, Pt.cells, Pt.slots] at X291 l291 y291 z291 st291 hQ291
      obtain ⟨rfl, Nq291, eq291⟩ := hQ291
      obtain ⟨L291, X291, N291⟩ := own_absC (K := 8) (K' := 14) X291 l291 y291 z291 N289 Nq291
      have e291 : T291.heap = h285 := eq291
      refine own_go (B := (T291.setTop (mkF m 221 #[iv p0, iv p1, iv p2, iv p3, iv p4, iv p5, iv (2 : Int32), iv kk, rv a1, rv a4, rv a9, rv a16, rv a25, rv a36, rv a105, iv (0 : Int32), .val .null, .val .null, .val .null, .val .null, .unset, .unset, .unset, .unset, .unset] [(.int (1 : Int32))]))) st291 ?_
      have hc221 : ¬ (1 : Int32) = (0 : Int32) := (by decide)
      refine own_ifY X291 hx (hb hby at_221) (pc' := 226) (by decide) (by decide) hc221 ?_
      refine own_go (B := (T291.setTop (mkF m 228 #[iv p0, iv p1, iv p2, iv p3, iv p4, iv p5, iv (2 : Int32), iv kk, rv a1, rv a4, rv a9, rv a16, rv a25, rv a36, rv a105, iv (0 : Int32), .val .null, .val .null, .val .null, .val .null, .unset, .unset, .unset, .unset, .unset] [(.int (0 : Int32))]))) (fun t k => XS.iload X291.here hx rfl (hb hby at_226) rfl k) ?_
      refine own_go (B := (T291.setTop (mkF m 229 #[iv p0, iv p1, iv p2, iv p3, iv p4, iv p5, iv (2 : Int32), iv kk, rv a1, rv a4, rv a9, rv a16, rv a25, rv a36, rv a105, iv (0 : Int32), .val .null, .val .null, .val .null, .val .null, .unset, .unset, .unset, .unset, .unset] [(.int (2 : Int32)), (.int (0 : Int32))]))) (fun t k => own_iconst (v := (2 : Int32)) X291.here hx rfl (hb hby at_228) (by decide) k) ?_
      refine own_go (B := (T291.setTop (mkF m 230 #[iv p0, iv p1, iv p2, iv p3, iv p4, iv p5, iv (2 : Int32), iv kk, rv a1, rv a4, rv a9, rv a16, rv a25, rv a36, rv a105, iv (0 : Int32), .val .null, .val .null, .val .null, .val .null, .unset, .unset, .unset, .unset, .unset] [(.int ((0 : Int32) - (2 : Int32)))]))) (fun t k => XS.isub (x := (0 : Int32)) (y := (2 : Int32)) X291.here hx rfl (hb hby at_229) rfl k) ?_
      rw [show ((0 : Int32) - (2 : Int32)) = (-2 : Int32) from by decide]
      refine own_go (B := (T291.setTop (mkF m 231 #[iv p0, iv p1, iv p2, iv p3, iv p4, iv p5, iv (2 : Int32), iv kk, rv a1, rv a4, rv a9, rv a16, rv a25, rv a36, rv a105, iv (0 : Int32), .val .null, .val .null, .val .null, .val .null, .unset, .unset, .unset, .unset, .unset] [(.int (0 : Int32)), (.int (-2 : Int32))]))) (fun t k => own_iconst (v := (0 : Int32)) X291.here hx rfl (hb hby at_230) (by decide) k) ?_
      obtain ⟨_, _, ⟨T292, L292, k292, n292⟩, -, X292, ⟨Lc292, hQ292, l292, y292, z292⟩, st292⟩ := Jvm.LawKit.callS X291 hx (y := own_y8) hown (mvT hZ w_38) (mvT hZ w_39) (mvT hZ w_25) (mvT hZ w_40) (by decide) (backOf (W := 0) (own_mmax l Z a0 hw [] (-2 : Int32) (0 : Int32) h285 n0) hZ w_40 w_25 (by decide) (by decide)) (g := (mkF m 231 #[iv p0, iv p1, iv p2, iv p3, iv p4, iv p5, iv (2 : Int32), iv kk, rv a1, rv a4, rv a9, rv a16, rv a25, rv a36, rv a105, iv (0 : Int32), .val .null, .val .null, .val .null, .val .null, .unset, .unset, .unset, .unset, .unset] [(.int (0 : Int32)), (.int (-2 : Int32))])) rfl (by rw [hml]; rfl) (argsL := [(.int (-2 : Int32)), (.int (0 : Int32))]) (rest := []) (lenOf own_pd7 rfl) rfl (by show 2 * 0 + _ ≤ _; exact own_b rfl) (hb hby at_231) (fun _ _ => ⟨rfl, e291, (own_b rfl : 8 + 0 ≤ _), (own_b rfl : 14 + 0 ≤ _)⟩)
      dsimp only [Pt.U, Pt.locs, Pt.cells, Pt.slots] at X292 l292 y292 z292 st292 hQ292
      obtain ⟨rfl, Nq292, eq292⟩ := hQ292
      obtain ⟨L292, X292, N292⟩ := own_absC (K := 8) (K' := 14) X292 l292 y292 z292 N291 Nq292
      have e292 : T292.heap = h285 := eq292
      refine own_go (B := (T292.setTop (mkF m 234 #[iv p0, iv p1, iv p2, iv p3, iv p4, iv p5, iv (2 : Int32), iv kk, rv a1, rv a4, rv a9, rv a16, rv a25, rv a36, rv a105, iv (0 : Int32), .val .null, .val .null, .val .null, .val .null, .unset, .unset, .unset, .unset, .unset] [(.int (own_max (-2 : Int32) (0 : Int32)))]))) st292 ?_
      rw [show own_max (-2 : Int32) (0 : Int32) = (0 : Int32) from by decide]
      refine own_go (B := (T292.setTop (mkF m 236 #[iv p0, iv p1, iv p2, iv p3, iv p4, iv p5, iv (2 : Int32), iv kk, rv a1, rv a4, rv a9, rv a16, rv a25, rv a36, rv a105, iv (0 : Int32), .val .null, .val .null, .val .null, .val .null, iv (0 : Int32), .unset, .unset, .unset, .unset] []))) (fun t k => XS.istore X292.here hx rfl (hb hby at_234) rfl (l' := #[iv p0, iv p1, iv p2, iv p3, iv p4, iv p5, iv (2 : Int32), iv kk, rv a1, rv a4, rv a9, rv a16, rv a25, rv a36, rv a105, iv (0 : Int32), .val .null, .val .null, .val .null, .val .null, iv (0 : Int32), .unset, .unset, .unset, .unset]) rfl k) ?_
      refine own_go (B := (T292.setTop (mkF m 238 #[iv p0, iv p1, iv p2, iv p3, iv p4, iv p5, iv (2 : Int32), iv kk, rv a1, rv a4, rv a9, rv a16, rv a25, rv a36, rv a105, iv (0 : Int32), .val .null, .val .null, .val .null, .val .null, iv (0 : Int32), .unset, .unset, .unset, .unset] [(.ref a105)]))) (fun t k => XS.aload X292.here hx rfl (hb hby at_236) rfl rfl k) ?_
      refine own_go (B := (T292.setTop (mkF m 240 #[iv p0, iv p1, iv p2, iv p3, iv p4, iv p5, iv (2 : Int32), iv kk, rv a1, rv a4, rv a9, rv a16, rv a25, rv a36, rv a105, iv (0 : Int32), .val .null, .val .null, .val .null, .val .null, iv (0 : Int32), .unset, .unset, .unset, .unset] [(.ref a25), (.ref a105)]))) (fun t k => XS.aload X292.here hx rfl (hb hby at_238) rfl rfl k) ?_
      obtain ⟨cq293, kq293, qa293, qb293, qc293⟩ := isOf hZ e292 F285_3
      obtain ⟨_, _, ⟨T293, L293, k293, n293⟩, -, X293, ⟨Lc293, hQ293, l293, y293, z293⟩, st293⟩ := X292.virtualBack hx (y := own_y9) (z := own_y9) hown (mvT hZ w_41) (mvT hZ w_42) (notFace_of_selects (args := #[]) (mvT hZ w_44)) (mvT hZ w_44) (mvT hZ w_43) (by decide) (backOf (W := 0) (own_kone l Z a0 hw [] a105 a25 ar121 (0 : Int32) (2 : Int32) (1 : Int32) [.null, .null] [(.ref a25), .null] h285 n0 F285_3 F285_4 F285_5 F285_6 F285_0 gn105 gn_ar121 ne_ar121_a105 (own_lenL (n := 2) rfl (by decide)) (by decide) (by decide) (Nat.lt_of_lt_of_eq (by decide : _ < 2) rfl) (by decide) (Ins.of_exa (own_Bn_exa F285_7 (List.mem_of_getElem? (i := 4) rfl)) w_60) rfl) hZ w_45 w_12 (by decide) (by decide)) qa293 qc293 (g := (mkF m 240 #[iv p0, iv p1, iv p2, iv p3, iv p4, iv p5, iv (2 : Int32), iv kk, rv a1, rv a4, rv a9, rv a16, rv a25, rv a36, rv a105, iv (0 : Int32), .val .null, .val .null, .val .null, .val .null, iv (0 : Int32), .unset, .unset, .unset, .unset] [(.ref a25), (.ref a105)])) rfl (by rw [hml]; rfl) (Steps.refl _) (argsL := [(.ref a25)]) (rest := []) (lenOf own_pd8 rfl) rfl (by show 2 * 0 + _ ≤ _; exact own_b rfl) (hb hby at_240) (fun _ _ => ⟨rfl, e292, (own_b rfl : 8 + 0 ≤ _), (own_b rfl : 14 + 0 ≤ _)⟩)
      dsimp only [Pt.U, Pt.locs, Pt.cells, Pt.slots] at X293 l293 y293 z293 st293 hQ293
      obtain ⟨rfl, Nq293, K293, Ex293, gk293, gc293, gv293⟩ := hQ293
      obtain ⟨L293, X293, N293⟩ := own_absC (K := 8) (K' := 14) X293 l293 y293 z293 N292 Nq293
      have F294 : n0 ≤ T293.heap.size := Nat.le_trans F285_0 K293.1
      have F295 := Keep.trans F285_1 K293 (allS (Or.inr (Nat.le_trans F93.1 (Nat.le_of_eq ga105.symm))) (allS (Or.inr (Nat.le_trans K107.1 gz121)) all0))
      have F296 := own_Ao_keep F285_2 K293 (ninS (Ne.symm ne105_a36) (ninS (Ne.symm ne_ar121_a36) nin0))
      have F297 := Exa.keep F285_3 K293
      have F301 := own_Bn_keep F285_7 K293 hbq
      refine own_tr (B := (T293.setTop (mkF m 243 #[iv p0, iv p1, iv p2, iv p3, iv p4, iv p5, iv (2 : Int32), iv kk, rv a1, rv a4, rv a9, rv a16, rv a25, rv a36, rv a105, iv (0 : Int32), .val .null, .val .null, .val .null, .val .null, iv (0 : Int32), .unset, .unset, .unset, .unset] []))) st293 ?_
      refine own_go (B := (T293.setTop (mkF m 245 #[iv p0, iv p1, iv p2, iv p3, iv p4, iv p5, iv (2 : Int32), iv kk, rv a1, rv a4, rv a9, rv a16, rv a25, rv a36, rv a105, iv (0 : Int32), .val .null, .val .null, .val .null, .val .null, iv (0 : Int32), .unset, .unset, .unset, .unset] [(.ref a105)]))) (fun t k => XS.aload X293.here hx rfl (hb hby at_243) rfl rfl k) ?_
      obtain ⟨cq302, kq302, qa302, qb302, qc302⟩ := isOf hZ rfl Ex293
      obtain ⟨_, _, ⟨T302, L302, k302, n302⟩, -, X302, ⟨Lc302, hQ302, l302, y302, z302⟩, st302⟩ := X293.virtualBack hx (y := own_y6) (z := own_y6) hown (mvT hZ w_27) (mvT hZ w_28) (notFace_of_selects (args := #[]) (mvT hZ w_30)) (mvT hZ w_30) (mvT hZ w_29) (by decide) (backOf (W := 0) (own_tone l Z a0 hw [] a105 ar121 a25 (1 : Int32) (0 : Int32) [(.ref a25), .null] [.null, .null] T293.heap n0 Ex293 gk293 gc293 gv293 F294 gn105 gn_ar121 ne_ar121_a105 (by decide) (by decide) (by decide) rfl rfl) hZ w_31 w_12 (by decide) (by decide)) qa302 qc302 (g := (mkF m 245 #[iv p0, iv p1, iv p2, iv p3, iv p4, iv p5, iv (2 : Int32), iv kk, rv a1, rv a4, rv a9, rv a16, rv a25, rv a36, rv a105, iv (0 : Int32), .val .null, .val .null, .val .null, .val .null, iv (0 : Int32), .unset, .unset, .unset, .unset] [(.ref a105)])) rfl (by rw [hml]; rfl) (Steps.refl _) (argsL := []) (rest := []) (lenOf own_pd5 rfl) rfl (by show 2 * 0 + _ ≤ _; exact own_b rfl) (hb hby at_245) (fun _ _ => ⟨rfl, rfl, (own_b rfl : 8 + 0 ≤ _), (own_b rfl : 14 + 0 ≤ _)⟩)
      dsimp only [Pt.U, Pt.locs, Pt.cells, Pt.slots] at X302 l302 y302 z302 st302 hQ302
      obtain ⟨rfl, Nq302, K302, Ex302, gk302, gc302, gv302⟩ := hQ302
      obtain ⟨L302, X302, N302⟩ := own_absC (K := 8) (K' := 14) X302 l302 y302 z302 N293 Nq302
      have F303 : n0 ≤ T302.heap.size := Nat.le_trans F294 K302.1
      have F304 := Keep.trans F295 K302 (allS (Or.inr (Nat.le_trans F93.1 (Nat.le_of_eq ga105.symm))) (allS (Or.inr (Nat.le_trans K107.1 gz121)) all0))
      have F305 := own_Ao_keep F296 K302 (ninS (Ne.symm ne105_a36) (ninS (Ne.symm ne_ar121_a36) nin0))
      have F306 := Exa.keep Ex293 K302
      have F307 := own_Bn_keep F301 K302 hbq
      refine own_tr (B := (T302.setTop (mkF m 248 #[iv p0, iv p1, iv p2, iv p3, iv p4, iv p5, iv (2 : Int32), iv kk, rv a1, rv a4, rv a9, rv a16, rv a25, rv a36, rv a105, iv (0 : Int32), .val .null, .val .null, .val .null, .val .null, iv (0 : Int32), .unset, .unset, .unset, .unset] [(.ref a25)]))) st302 ?_
      obtain ⟨T311, X311, e311, st311⟩ := castY X302 hx hZ hown w_7 rfl (Ins.of_exa (own_Bn_exa F307 (List.mem_of_getElem? (i := 4) rfl)) w_9) (g := (mkF m 248 #[iv p0, iv p1, iv p2, iv p3, iv p4, iv p5, iv (2 : Int32), iv kk, rv a1, rv a4, rv a9, rv a16, rv a25, rv a36, rv a105, iv (0 : Int32), .val .null, .val .null, .val .null, .val .null, iv (0 : Int32), .unset, .unset, .unset, .unset] [(.ref a25)])) rfl rfl (hb hby at_248)
      refine own_go (B := (T311.setTop (mkF m 251 #[iv p0, iv p1, iv p2, iv p3, iv p4, iv p5, iv (2 : Int32), iv kk, rv a1, rv a4, rv a9, rv a16, rv a25, rv a36, rv a105, iv (0 : Int32), .val .null, .val .null, .val .null, .val .null, iv (0 : Int32), .unset, .unset, .unset, .unset] [(.ref a25)]))) st311 ?_
      refine own_go (B := (T311.setTop (mkF m 253 #[iv p0, iv p1, iv p2, iv p3, iv p4, iv p5, iv (2 : Int32), iv kk, rv a1, rv a4, rv a9, rv a16, rv a25, rv a36, rv a105, iv (0 : Int32), .val .null, .val .null, .val .null, .val .null, iv (0 : Int32), rv a25, .unset, .unset, .unset] []))) (fun t k => XS.astore X311.here hx rfl (hb hby at_251) rfl rfl (l' := #[iv p0, iv p1, iv p2, iv p3, iv p4, iv p5, iv (2 : Int32), iv kk, rv a1, rv a4, rv a9, rv a16, rv a25, rv a36, rv a105, iv (0 : Int32), .val .null, .val .null, .val .null, .val .null, iv (0 : Int32), rv a25, .unset, .unset, .unset]) rfl k) ?_
      refine own_go (B := (T311.setTop (mkF m 255 #[iv p0, iv p1, iv p2, iv p3, iv p4, iv p5, iv (2 : Int32), iv kk, rv a1, rv a4, rv a9, rv a16, rv a25, rv a36, rv a105, iv (0 : Int32), .val .null, .val .null, .val .null, .val .null, iv (0 : Int32), rv a25, .unset, .unset, .unset] [(.int (2 : Int32))]))) (fun t k => XS.iload X311.here hx rfl (hb hby at_253) rfl k) ?_
      have hc255 : (0 : Int32) < (2 : Int32) := (by decide)
      refine own_ifN X311 hx (hb hby at_255) (pn := 258) rfl hc255 ?_
      refine own_go (B := (T311.setTop (mkF m 260 #[iv p0, iv p1, iv p2, iv p3, iv p4, iv p5, iv (2 : Int32), iv kk, rv a1, rv a4, rv a9, rv a16, rv a25, rv a36, rv a105, iv (0 : Int32), .val .null, .val .null, .val .null, .val .null, iv (0 : Int32), rv a25, .unset, .unset, .unset] [(.ref a25)]))) (fun t k => XS.aload X311.here hx rfl (hb hby at_258) rfl rfl k) ?_
      refine own_go (B := (T311.setTop (mkF m 264 #[iv p0, iv p1, iv p2, iv p3, iv p4, iv p5, iv (2 : Int32), iv kk, rv a1, rv a4, rv a9, rv a16, rv a25, rv a36, rv a105, iv (0 : Int32), .val .null, .val .null, .val .null, .val .null, iv (0 : Int32), rv a25, .unset, .unset, .unset] [(.ref a25)]))) (fun t k => XS.goto X311.here hx rfl (pc0 := 260) (pc' := 264) rfl (hb hby at_260) (by decide) (by decide) k) ?_
      refine own_go (B := (T311.setTop (mkF m 266 #[iv p0, iv p1, iv p2, iv p3, iv p4, iv p5, iv (2 : Int32), iv kk, rv a1, rv a4, rv a9, rv a16, rv a25, rv a36, rv a105, iv (0 : Int32), .val .null, .val .null, .val .null, .val .null, iv (0 : Int32), rv a25, rv a25, .unset, .unset] []))) (fun t k => XS.astore X311.here hx rfl (hb hby at_264) rfl rfl (l' := #[iv p0, iv p1, iv p2, iv p3, iv p4, iv p5, iv (2 : Int32), iv kk, rv a1, rv a4, rv a9, rv a16, rv a25, rv a36, rv a105, iv (0 : Int32), .val .null, .val .null, .val .null, .val .null, iv (0 : Int32), rv a25, rv a25, .unset, .unset]) rfl k) ?_
      refine own_go (B := (T311.setTop (mkF m 268 #[iv p0, iv p1, iv p2, iv p3, iv p4, iv p5, iv (2 : Int32), iv kk, rv a1, rv a4, rv a9, rv a16, rv a25, rv a36, rv a105, iv (0 : Int32), .val .null, .val .null, .val .null, .val .null, iv (0 : Int32), rv a25, rv a25, .unset, .unset] [(.ref a25)]))) (fun t k => XS.aload X311.here hx rfl (hb hby at_266) rfl rfl k) ?_
      refine own_go (B := (T311.setTop (mkF m 270 #[iv p0, iv p1, iv p2, iv p3, iv p4, iv p5, iv (2 : Int32), iv kk, rv a1, rv a4, rv a9, rv a16, rv a25, rv a36, rv a105, iv (0 : Int32), .val .null, .val .null, .val .null, .val .null, iv (0 : Int32), rv a25, rv a25, .unset, .unset] [(.ref a25), (.ref a25)]))) (fun t k => XS.aload X311.here hx rfl (hb hby at_268) rfl rfl k) ?_
      obtain ⟨_, _, ⟨T312, L312, k312, n312⟩, -, X312, ⟨Lc312, hQ312, l312, y312, z312⟩, st312⟩ := Jvm.LawKit.callS X311 hx (y := own_y7) hown (mvT hZ w_34) (mvT hZ w_35) (mvT hZ w_36) (mvT hZ w_37) (by decide) (backOf (W := 0) (own_same1 l Z a0 hw [] a25 a25 p5 T302.heap n0 (own_Bn_exa F307 (List.mem_of_getElem? (i := 4) rfl)) (own_Bn_fld F307 (List.mem_of_getElem? (i := 4) rfl)) (own_Bn_exa F307 (List.mem_of_getElem? (i := 4) rfl)) (own_Bn_fld F307 (List.mem_of_getElem? (i := 4) rfl))) hZ w_37 w_36 (by decide) (by decide)) (g := (mkF m 270 #[iv p0, iv p1, iv p2, iv p3, iv p4, iv p5, iv (2 : Int32), iv kk, rv a1, rv a4, rv a9, rv a16, rv a25, rv a36, rv a105, iv (0 : Int32), .val .null, .val .null, .val .null, .val .null, iv (0 : Int32), rv a25, rv a25, .unset, .unset] [(.ref a25), (.ref a25)])) rfl (by rw [hml]; rfl) (argsL := [(.ref a25), (.ref a25)]) (rest := []) (lenOf own_pd6 rfl) rfl (by show 2 * 0 + _ ≤ _; exact own_b rfl) (hb hby at_270) (fun _ _ => ⟨rfl, e311, (own_b rfl : 8 + 0 ≤ _), (own_b rfl : 14 + 0 ≤ _)⟩)
      dsimp only [Pt.U, Pt.locs, Pt.cells, Pt.slots] at X312 l312 y312 z312 st312 hQ312
      obtain ⟨rfl, Nq312, eq312⟩ := hQ312
      obtain ⟨L312, X312, N312⟩ := own_absC (K := 8) (K' := 14) X312 l312 y312 z312 N302 Nq312
      have e312 : T312.heap = T302.heap := eq312
      refine own_go (B := (T312.setTop (mkF m 273 #[iv p0, iv p1, iv p2, iv p3, iv p4, iv p5, iv (2 : Int32), iv kk, rv a1, rv a4, rv a9, rv a16, rv a25, rv a36, rv a105, iv (0 : Int32), .val .null, .val .null, .val .null, .val .null, iv (0 : Int32), rv a25, rv a25, .unset, .unset] [(.int (1 : Int32))]))) st312 ?_
      have hc273 : ¬ (1 : Int32) = (0 : Int32) := (by decide)
      refine own_ifY X312 hx (hb hby at_273) (pc' := 278) (by decide) (by decide) hc273 ?_
      refine own_go (B := (T312.setTop (mkF m 280 #[iv p0, iv p1, iv p2, iv p3, iv p4, iv p5, iv (2 : Int32), iv kk, rv a1, rv a4, rv a9, rv a16, rv a25, rv a36, rv a105, iv (0 : Int32), .val .null, .val .null, .val .null, .val .null, iv (0 : Int32), rv a25, rv a25, .unset, .unset] [(.ref a105)]))) (fun t k => XS.aload X312.here hx rfl (hb hby at_278) rfl rfl k) ?_
      obtain ⟨cq313, kq313, qa313, qb313, qc313⟩ := isOf hZ e312 Ex302
      obtain ⟨_, _, ⟨T313, L313, k313, n313⟩, -, X313, ⟨Lc313, hQ313, l313, y313, z313⟩, st313⟩ := X312.virtualBack hx (y := own_y6) (z := own_y6) hown (mvT hZ w_27) (mvT hZ w_28) (notFace_of_selects (args := #[]) (mvT hZ w_30)) (mvT hZ w_30) (mvT hZ w_29) (by decide) (backOf (W := 0) (own_tnone l Z a0 hw [] a105 T302.heap n0 gc302) hZ w_31 w_12 (by decide) (by decide)) qa313 qc313 (g := (mkF m 280 #[iv p0, iv p1, iv p2, iv p3, iv p4, iv p5, iv (2 : Int32), iv kk, rv a1, rv a4, rv a9, rv a16, rv a25, rv a36, rv a105, iv (0 : Int32), .val .null, .val .null, .val .null, .val .null, iv (0 : Int32), rv a25, rv a25, .unset, .unset] [(.ref a105)])) rfl (by rw [hml]; rfl) (Steps.refl _) (argsL := []) (rest := []) (lenOf own_pd5 rfl) rfl (by show 2 * 0 + _ ≤ _; exact own_b rfl) (hb hby at_280) (fun _ _ => ⟨rfl, e312, (own_b rfl : 8 + 0 ≤ _), (own_b rfl : 14 + 0 ≤ _)⟩)
      dsimp only [Pt.U, Pt.locs, Pt.cells, Pt.slots] at X313 l313 y313 z313 st313 hQ313
      obtain ⟨rfl, Nq313, eq313⟩ := hQ313
      obtain ⟨L313, X313, N313⟩ := own_absC (K := 8) (K' := 14) X313 l313 y313 z313 N312 Nq313
      have e313 : T313.heap = T302.heap := eq313
      refine own_tr (B := (T313.setTop (mkF m 283 #[iv p0, iv p1, iv p2, iv p3, iv p4, iv p5, iv (2 : Int32), iv kk, rv a1, rv a4, rv a9, rv a16, rv a25, rv a36, rv a105, iv (0 : Int32), .val .null, .val .null, .val .null, .val .null, iv (0 : Int32), rv a25, rv a25, .unset, .unset] [.null]))) st313 ?_
      refine own_go (B := (T313.setTop (mkF m 286 #[iv p0, iv p1, iv p2, iv p3, iv p4, iv p5, iv (2 : Int32), iv kk, rv a1, rv a4, rv a9, rv a16, rv a25, rv a36, rv a105, iv (0 : Int32), .val .null, .val .null, .val .null, .val .null, iv (0 : Int32), rv a25, rv a25, .unset, .unset] [.null]))) (X313.checkcastNull hx (g := (mkF m 283 #[iv p0, iv p1, iv p2, iv p3, iv p4, iv p5, iv (2 : Int32), iv kk, rv a1, rv a4, rv a9, rv a16, rv a25, rv a36, rv a105, iv (0 : Int32), .val .null, .val .null, .val .null, .val .null, iv (0 : Int32), rv a25, rv a25, .unset, .unset] [.null])) rfl rfl (hb hby at_283)) ?_
      refine own_go (B := (T313.setTop (mkF m 288 #[iv p0, iv p1, iv p2, iv p3, iv p4, iv p5, iv (2 : Int32), iv kk, rv a1, rv a4, rv a9, rv a16, rv a25, rv a36, rv a105, iv (0 : Int32), .val .null, .val .null, .val .null, .val .null, iv (0 : Int32), rv a25, rv a25, .val .null, .unset] []))) (fun t k => XS.astore X313.here hx rfl (hb hby at_286) rfl rfl (l' := #[iv p0, iv p1, iv p2, iv p3, iv p4, iv p5, iv (2 : Int32), iv kk, rv a1, rv a4, rv a9, rv a16, rv a25, rv a36, rv a105, iv (0 : Int32), .val .null, .val .null, .val .null, .val .null, iv (0 : Int32), rv a25, rv a25, .val .null, .unset]) rfl k) ?_
      refine own_go (B := (T313.setTop (mkF m 290 #[iv p0, iv p1, iv p2, iv p3, iv p4, iv p5, iv (2 : Int32), iv kk, rv a1, rv a4, rv a9, rv a16, rv a25, rv a36, rv a105, iv (0 : Int32), .val .null, .val .null, .val .null, .val .null, iv (0 : Int32), rv a25, rv a25, .val .null, .unset] [(.int (0 : Int32))]))) (fun t k => XS.iload X313.here hx rfl (hb hby at_288) rfl k) ?_
      refine own_go (B := (T313.setTop (mkF m 291 #[iv p0, iv p1, iv p2, iv p3, iv p4, iv p5, iv (2 : Int32), iv kk, rv a1, rv a4, rv a9, rv a16, rv a25, rv a36, rv a105, iv (0 : Int32), .val .null, .val .null, .val .null, .val .null, iv (0 : Int32), rv a25, rv a25, .val .null, .unset] [(.int (1 : Int32)), (.int (0 : Int32))]))) (fun t k => own_iconst (v := (1 : Int32)) X313.here hx rfl (hb hby at_290) (by decide) k) ?_
      have hc291 : (0 : Int32) < (1 : Int32) := (by decide)
      refine own_icmpY X313 hx (hb hby at_291) (pc' := 304) (by decide) (by decide) hc291 ?_
      refine own_go (B := (T313.setTop (mkF m 305 #[iv p0, iv p1, iv p2, iv p3, iv p4, iv p5, iv (2 : Int32), iv kk, rv a1, rv a4, rv a9, rv a16, rv a25, rv a36, rv a105, iv (0 : Int32), .val .null, .val .null, .val .null, .val .null, iv (0 : Int32), rv a25, rv a25, .val .null, .unset] [.null]))) (fun t k => XS.aconstNull X313.here hx rfl (hb hby at_304) k) ?_
      refine own_go (B := (T313.setTop (mkF m 307 #[iv p0, iv p1, iv p2, iv p3, iv p4, iv p5, iv (2 : Int32), iv kk, rv a1, rv a4, rv a9, rv a16, rv a25, rv a36, rv a105, iv (0 : Int32), .val .null, .val .null, .val .null, .val .null, iv (0 : Int32), rv a25, rv a25, .val .null, .val .null] []))) (fun t k => XS.astore X313.here hx rfl (hb hby at_305) rfl rfl (l' := #[iv p0, iv p1, iv p2, iv p3, iv p4, iv p5, iv (2 : Int32), iv kk, rv a1, rv a4, rv a9, rv a16, rv a25, rv a36, rv a105, iv (0 : Int32), .val .null, .val .null, .val .null, .val .null, iv (0 : Int32), rv a25, rv a25, .val .null, .val .null]) rfl k) ?_
      refine own_go (B := (T313.setTop (mkF m 309 #[iv p0, iv p1, iv p2, iv p3, iv p4, iv p5, iv (2 : Int32), iv kk, rv a1, rv a4, rv a9, rv a16, rv a25, rv a36, rv a105, iv (0 : Int32), .val .null, .val .null, .val .null, .val .null, iv (0 : Int32), rv a25, rv a25, .val .null, .val .null] [.null]))) (fun t k => XS.aload X313.here hx rfl (hb hby at_307) rfl rfl k) ?_
      refine own_go (B := (T313.setTop (mkF m 311 #[iv p0, iv p1, iv p2, iv p3, iv p4, iv p5, iv (2 : Int32), iv kk, rv a1, rv a4, rv a9, rv a16, rv a25, rv a36, rv a105, iv (0 : Int32), .val .null, .val .null, .val .null, .val .null, iv (0 : Int32), rv a25, rv a25, .val .null, .val .null] [.null, .null]))) (fun t k => XS.aload X313.here hx rfl (hb hby at_309) rfl rfl k) ?_
      obtain ⟨_, _, ⟨T315, L315, k315, n315⟩, -, X315, ⟨Lc315, hQ315, l315, y315, z315⟩, st315⟩ := Jvm.LawKit.callS X313 hx (y := own_y7) hown (mvT hZ w_34) (mvT hZ w_35) (mvT hZ w_36) (mvT hZ w_37) (by decide) (backOf (W := 0) (own_same0 l Z a0 hw [] T302.heap n0) hZ w_37 w_36 (by decide) (by decide)) (g := (mkF m 311 #[iv p0, iv p1, iv p2, iv p3, iv p4, iv p5, iv (2 : Int32), iv kk, rv a1, rv a4, rv a9, rv a16, rv a25, rv a36, rv a105, iv (0 : Int32), .val .null, .val .null, .val .null, .val .null, iv (0 : Int32), rv a25, rv a25, .val .null, .val .null] [.null, .null])) rfl (by rw [hml]; rfl) (argsL := [.null, .null]) (rest := []) (lenOf own_pd6 rfl) rfl (by show 2 * 0 + _ ≤ _; exact own_b rfl) (hb hby at_311) (fun _ _ => ⟨rfl, e313, (own_b rfl : 8 + 0 ≤ _), (own_b rfl : 14 + 0 ≤ _)⟩)
      dsimp only [Pt.U, Pt.locs, Pt.cells, Pt.slots] at X315 l315 y315 z315 st315 hQ315
      obtain ⟨rfl, Nq315, eq315⟩ := hQ315
      obtain ⟨L315, X315, N315⟩ := own_absC (K := 8) (K' := 14) X315 l315 y315 z315 N313 Nq315
      have e315 : T315.heap = T302.heap := eq315
      refine own_go (B := (T315.setTop (mkF m 314 #[iv p0, iv p1, iv p2, iv p3, iv p4, iv p5, iv (2 : Int32), iv kk, rv a1, rv a4, rv a9, rv a16, rv a25, rv a36, rv a105, iv (0 : Int32), .val .null, .val .null, .val .null, .val .null, iv (0 : Int32), rv a25, rv a25, .val .null, .val .null] [(.int (1 : Int32))]))) st315 ?_
      exact own_retZ X315 hx hlk Bd.returns (hb hby at_314) (by decide) (own_b rfl) (own_b rfl) (Q := (own_law_Q Z p0 p1 p2 p3 p4 p5 ca h0 n0)) ⟨rfl, N315⟩
    have J1 : ∀ (T316 : State) (L316 : List Loc) (h316 : Heap) (X316 : Stand p l e room_1 s m #[(.int p0), (.int p1), (.int p2), (.int p3), (.int p4), (.int p5)] below meth c T316 L316 8 14) (e316 : T316.heap = h316) (N316 : Fr n0 L316) (F316_0 : n0 ≤ h316.size) (F316_1 : Keep h0 h316 []) (F316_2 : own_Ao Z h316 a36 "java/lang/Integer" [(.ref a1), (.ref a4), (.ref a9), (.ref a16)]) (F316_3 : Exa Z h316 a105 "com/example/pagemason/pagemason/core/Spares") (F316_4 : Fld Z h316 a105 "com/example/pagemason/pagemason/core/Spares" "kept" "[Ljava/lang/Object;" (.ref ar121)) (F316_5 : Fld Z h316 a105 "com/example/pagemason/pagemason/core/Spares" "count" "I" (.int (1 : Int32))) (F316_6 : own_Ao Z h316 ar121 "java/lang/Object" [(.ref a1), .null]) (F316_7 : own_Bn Z h316 [(a1, p1), (a4, p2), (a9, p3), (a16, p4), (a25, p5)]) (kk : Int32), own_G p.tables e below (fun o U' => ∃ v L, o = .returned v ∧ (own_law_Q Z p0 p1 p2 p3 p4 p5 ca h0 n0) v U'.heap L ∧ FrameEnd s o U' L 24 128) (T316.setTop (mkF m 144 #[iv p0, iv p1, iv p2, iv p3, iv p4, iv p5, iv (2 : Int32), iv kk, rv a1, rv a4, rv a9, rv a16, rv a25, rv a36, rv a105, iv (1 : Int32), .unset, .unset, .unset, .unset, .unset, .unset, .unset, .unset, .unset] [])) := by
      intro T316 L316 h316 X316 e316 N316 F316_0 F316_1 F316_2 F316_3 F316_4 F316_5 F316_6 F316_7 kk
      refine own_go (B := (T316.setTop (mkF m 146 #[iv p0, iv p1, iv p2, iv p3, iv p4, iv p5, iv (2 : Int32), iv kk, rv a1, rv a4, rv a9, rv a16, rv a25, rv a36, rv a105, iv (1 : Int32), .unset, .unset, .unset, .unset, .unset, .unset, .unset, .unset, .unset] [(.ref a105)]))) (fun t k => XS.aload X316.here hx rfl (hb hby at_144) rfl rfl k) ?_
      obtain ⟨cq317, kq317, qa317, qb317, qc317⟩ := isOf hZ e316 F316_3
      obtain ⟨_, _, ⟨T317, L317, k317, n317⟩, -, X317, ⟨Lc317, hQ317, l317, y317, z317⟩, st317⟩ := X316.virtualBack hx (y := own_y6) (z := own_y6) hown (mvT hZ w_27) (mvT hZ w_28) (notFace_of_selects (args := #[]) (mvT hZ w_30)) (mvT hZ w_30) (mvT hZ w_29) (by decide) (backOf (W := 0) (own_tone l Z a0 hw [] a105 ar121 a1 (1 : Int32) (0 : Int32) [(.ref a1), .null] [.null, .null] h316 n0 F316_3 F316_4 F316_5 F316_6 F316_0 gn105 gn_ar121 ne_ar121_a105 (by decide) (by decide) (by decide) rfl rfl) hZ w_31 w_12 (by decide) (by decide)) qa317 qc317 (g := (mkF m 146 #[iv p0, iv p1, iv p2, iv p3, iv p4, iv p5, iv (2 : Int32), iv kk, rv a1, rv a4, rv a9, rv a16, rv a25, rv a36, rv a105, iv (1 : Int32), .unset, .unset, .unset, .unset, .unset, .unset, .unset, .unset, .unset] [(.ref a105)])) rfl (by rw [hml]; rfl) (Steps.refl _) (argsL := []) (rest := []) (lenOf own_pd5 rfl) rfl (by show 2 * 0 + _ ≤ _; exact own_b rfl) (hb hby at_146) (fun _ _ => ⟨rfl, e316, (own_b rfl : 8 + 0 ≤ _), (own_b rfl : 14 + 0 ≤ _)⟩)
      dsimp only [Pt.U, Pt.locs, Pt.cells, Pt.slots] at X317 l317 y317 z317 st317 hQ317
      obtain ⟨rfl, Nq317, K317, Ex317, gk317, gc317, gv317⟩ := hQ317
      obtain ⟨L317, X317, N317⟩ := own_absC (K := 8) (K' := 14) X317 l317 y317 z317 N316 Nq317
      have F318 : n0 ≤ T317.heap.size := Nat.le_trans F316_0 K317.1
      have F319 := Keep.trans F316_1 K317 (allS (Or.inr (Nat.le_trans F93.1 (Nat.le_of_eq ga105.symm))) (allS (Or.inr (Nat.le_trans K107.1 gz121)) all0))
      have F320 := own_Ao_keep F316_2 K317 (ninS (Ne.symm ne105_a36) (ninS (Ne.symm ne_ar121_a36) nin0))
      have F321 := Exa.keep F316_3 K317
      have F325 := own_Bn_keep F316_7 K317 hbq
      refine own_tr (B := (T317.setTop (mkF m 149 #[iv p0, iv p1, iv p2, iv p3, iv p4, iv p5, iv (2 : Int32), iv kk, rv a1, rv a4, rv a9, rv a16, rv a25, rv a36, rv a105, iv (1 : Int32), .unset, .unset, .unset, .unset, .unset, .unset, .unset, .unset, .unset] [(.ref a1)]))) st317 ?_
      obtain ⟨T326, X326, e326, st326⟩ := castY X317 hx hZ hown w_7 rfl (Ins.of_exa (own_Bn_exa F325 (List.mem_of_getElem? (i := 0) rfl)) w_9) (g := (mkF m 149 #[iv p0, iv p1, iv p2, iv p3, iv p4, iv p5, iv (2 : Int32), iv kk, rv a1, rv a4, rv a9, rv a16, rv a25, rv a36, rv a105, iv (1 : Int32), .unset, .unset, .unset, .unset, .unset, .unset, .unset, .unset, .unset] [(.ref a1)])) rfl rfl (hb hby at_149)
      refine own_go (B := (T326.setTop (mkF m 152 #[iv p0, iv p1, iv p2, iv p3, iv p4, iv p5, iv (2 : Int32), iv kk, rv a1, rv a4, rv a9, rv a16, rv a25, rv a36, rv a105, iv (1 : Int32), .unset, .unset, .unset, .unset, .unset, .unset, .unset, .unset, .unset] [(.ref a1)]))) st326 ?_
      refine own_go (B := (T326.setTop (mkF m 154 #[iv p0, iv p1, iv p2, iv p3, iv p4, iv p5, iv (2 : Int32), iv kk, rv a1, rv a4, rv a9, rv a16, rv a25, rv a36, rv a105, iv (1 : Int32), rv a1, .unset, .unset, .unset, .unset, .unset, .unset, .unset, .unset] []))) (fun t k => XS.astore X326.here hx rfl (hb hby at_152) rfl rfl (l' := #[iv p0, iv p1, iv p2, iv p3, iv p4, iv p5, iv (2 : Int32), iv kk, rv a1, rv a4, rv a9, rv a16, rv a25, rv a36, rv a105, iv (1 : Int32), rv a1, .unset, .unset, .unset, .unset, .unset, .unset, .unset, .unset]) rfl k) ?_
      refine own_go (B := (T326.setTop (mkF m 156 #[iv p0, iv p1, iv p2, iv p3, iv p4, iv p5, iv (2 : Int32), iv kk, rv a1, rv a4, rv a9, rv a16, rv a25, rv a36, rv a105, iv (1 : Int32), rv a1, .unset, .unset, .unset, .unset, .unset, .unset, .unset, .unset] [(.int (1 : Int32))]))) (fun t k => XS.iload X326.here hx rfl (hb hby at_154) rfl k) ?_
      refine own_go (B := (T326.setTop (mkF m 157 #[iv p0, iv p1, iv p2, iv p3, iv p4, iv p5, iv (2 : Int32), iv kk, rv a1, rv a4, rv a9, rv a16, rv a25, rv a36, rv a105, iv (1 : Int32), rv a1, .unset, .unset, .unset, .unset, .unset, .unset, .unset, .unset] [(.int (1 : Int32)), (.int (1 : Int32))]))) (fun t k => own_iconst (v := (1 : Int32)) X326.here hx rfl (hb hby at_156) (by decide) k) ?_
      have hc157 : ¬ (1 : Int32) < (1 : Int32) := (by decide)
      refine own_icmpN X326 hx (hb hby at_157) (pn := 160) rfl hc157 ?_
      refine own_go (B := (T326.setTop (mkF m 162 #[iv p0, iv p1, iv p2, iv p3, iv p4, iv p5, iv (2 : Int32), iv kk, rv a1, rv a4, rv a9, rv a16, rv a25, rv a36, rv a105, iv (1 : Int32), rv a1, .unset, .unset, .unset, .unset, .unset, .unset, .unset, .unset] [(.ref a36)]))) (fun t k => XS.aload X326.here hx rfl (hb hby at_160) rfl rfl k) ?_
      refine own_go (B := (T326.setTop (mkF m 164 #[iv p0, iv p1, iv p2, iv p3, iv p4, iv p5, iv (2 : Int32), iv kk, rv a1, rv a4, rv a9, rv a16, rv a25, rv a36, rv a105, iv (1 : Int32), rv a1, .unset, .unset, .unset, .unset, .unset, .unset, .unset, .unset] [(.int (1 : Int32)), (.ref a36)]))) (fun t k => XS.iload X326.here hx rfl (hb hby at_162) rfl k) ?_
      refine own_go (B := (T326.setTop (mkF m 165 #[iv p0, iv p1, iv p2, iv p3, iv p4, iv p5, iv (2 : Int32), iv kk, rv a1, rv a4, rv a9, rv a16, rv a25, rv a36, rv a105, iv (1 : Int32), rv a1, .unset, .unset, .unset, .unset, .unset, .unset, .unset, .unset] [(.int (1 : Int32)), (.int (1 : Int32)), (.ref a36)]))) (fun t k => own_iconst (v := (1 : Int32)) X326.here hx rfl (hb hby at_164) (by decide) k) ?_
      refine own_go (B := (T326.setTop (mkF m 166 #[iv p0, iv p1, iv p2, iv p3, iv p4, iv p5, iv (2 : Int32), iv kk, rv a1, rv a4, rv a9, rv a16, rv a25, rv a36, rv a105, iv (1 : Int32), rv a1, .unset, .unset, .unset, .unset, .unset, .unset, .unset, .unset] [(.int ((1 : Int32) - (1 : Int32))), (.ref a36)]))) (fun t k => XS.isub (x := (1 : Int32)) (y := (1 : Int32)) X326.here hx rfl (hb hby at_165) rfl k) ?_
      rw [show ((1 : Int32) - (1 : Int32)) = (0 : Int32) from by decide]
      refine own_go (B := (T326.setTop (mkF m 167 #[iv p0, iv p1, iv p2, iv p3, iv p4, iv p5, iv (2 : Int32), iv kk, rv a1, rv a4, rv a9, rv a16, rv a25, rv a36, rv a105, iv (1 : Int32), rv a1, .unset, .unset, .unset, .unset, .unset, .unset, .unset, .unset] [(.ref a1)]))) (own_ldR X326 hx hZ e326 (own_Ao_ar F320) rfl (v := (.ref a1)) (by decide) rfl (g := (mkF m 166 #[iv p0, iv p1, iv p2, iv p3, iv p4, iv p5, iv (2 : Int32), iv kk, rv a1, rv a4, rv a9, rv a16, rv a25, rv a36, rv a105, iv (1 : Int32), rv a1, .unset, .unset, .unset, .unset, .unset, .unset, .unset, .unset] [(.int (0 : Int32)), (.ref a36)])) rfl rfl (hb hby at_166)) ?_
      refine own_go (B := (T326.setTop (mkF m 171 #[iv p0, iv p1, iv p2, iv p3, iv p4, iv p5, iv (2 : Int32), iv kk, rv a1, rv a4, rv a9, rv a16, rv a25, rv a36, rv a105, iv (1 : Int32), rv a1, .unset, .unset, .unset, .unset, .unset, .unset, .unset, .unset] [(.ref a1)]))) (fun t k => XS.goto X326.here hx rfl (pc0 := 167) (pc' := 171) rfl (hb hby at_167) (by decide) (by decide) k) ?_
      refine own_go (B := (T326.setTop (mkF m 173 #[iv p0, iv p1, iv p2, iv p3, iv p4, iv p5, iv (2 : Int32), iv kk, rv a1, rv a4, rv a9, rv a16, rv a25, rv a36, rv a105, iv (1 : Int32), rv a1, rv a1, .unset, .unset, .unset, .unset, .unset, .unset, .unset] []))) (fun t k => XS.astore X326.here hx rfl (hb hby at_171) rfl rfl (l' := #[iv p0, iv p1, iv p2, iv p3, iv p4, iv p5, iv (2 : Int32), iv kk, rv a1, rv a4, rv a9, rv a16, rv a25, rv a36, rv a105, iv (1 : Int32), rv a1, rv a1, .unset, .unset, .unset, .unset, .unset, .unset, .unset]) rfl k) ?_
      refine own_go (B := (T326.setTop (mkF m 175 #[iv p0, iv p1, iv p2, iv p3, iv p4, iv p5, iv (2 : Int32), iv kk, rv a1, rv a4, rv a9, rv a16, rv a25, rv a36, rv a105, iv (1 : Int32), rv a1, rv a1, .unset, .unset, .unset, .unset, .unset, .unset, .unset] [(.ref a1)]))) (fun t k => XS.aload X326.here hx rfl (hb hby at_173) rfl rfl k) ?_
      refine own_go (B := (T326.setTop (mkF m 177 #[iv p0, iv p1, iv p2, iv p3, iv p4, iv p5, iv (2 : Int32), iv kk, rv a1, rv a4, rv a9, rv a16, rv a25, rv a36, rv a105, iv (1 : Int32), rv a1, rv a1, .unset, .unset, .unset, .unset, .unset, .unset, .unset] [(.ref a1), (.ref a1)]))) (fun t k => XS.aload X326.here hx rfl (hb hby at_175) rfl rfl k) ?_
      obtain ⟨_, _, ⟨T327, L327, k327, n327⟩, -, X327, ⟨Lc327, hQ327, l327, y327, z327⟩, st327⟩ := Jvm.LawKit.callS X326 hx (y := own_y7) hown (mvT hZ w_34) (mvT hZ w_35) (mvT hZ w_36) (mvT hZ w_37) (by decide) (backOf (W := 0) (own_same1 l Z a0 hw [] a1 a1 p1 T317.heap n0 (own_Bn_exa F325 (List.mem_of_getElem? (i := 0) rfl)) (own_Bn_fld F325 (List.mem_of_getElem? (i := 0) rfl)) (own_Bn_exa F325 (List.mem_of_getElem? (i := 0) rfl)) (own_Bn_fld F325 (List.mem_of_getElem? (i := 0) rfl))) hZ w_37 w_36 (by decide) (by decide)) (g := (mkF m 177 #[iv p0, iv p1, iv p2, iv p3, iv p4, iv p5, iv (2 : Int32), iv kk, rv a1, rv a4, rv a9, rv a16, rv a25, rv a36, rv a105, iv (1 : Int32), rv a1, rv a1, .unset, .unset, .unset, .unset, .unset, .unset, .unset] [(.ref a1), (.ref a1)])) rfl (by rw [hml]; rfl) (argsL := [(.ref a1), (.ref a1)]) (rest := []) (lenOf own_pd6 rfl) rfl (by show 2 * 0 + _ ≤ _; exact own_b rfl) (hb hby at_177) (fun _ _ => ⟨rfl, e326, (own_b rfl : 8 + 0 ≤ _), (own_b rfl : 14 + 0 ≤ _)⟩)
      dsimp only [Pt.U, Pt.locs, Pt.cells, Pt.slots] at X327 l327 y327 z327 st327 hQ327
      obtain ⟨rfl, Nq327, eq327⟩ := hQ327
      obtain ⟨L327, X327, N327⟩ := own_absC (K := 8) (K' := 14) X327 l327 y327 z327 N317 Nq327
      have e327 : T327.heap = T317.heap := eq327
      refine own_go (B := (T327.setTop (mkF m 180 #[iv p0, iv p1, iv p2, iv p3, iv p4, iv p5, iv (2 : Int32), iv kk, rv a1, rv a4, rv a9, rv a16, rv a25, rv a36, rv a105, iv (1 : Int32), rv a1, rv a1, .unset, .unset, .unset, .unset, .unset, .unset, .unset] [(.int (1 : Int32))]))) st327 ?_
      have hc180 : ¬ (1 : Int32) = (0 : Int32) := (by decide)
      refine own_ifY X327 hx (hb hby at_180) (pc' := 185) (by decide) (by decide) hc180 ?_
      refine own_go (B := (T327.setTop (mkF m 187 #[iv p0, iv p1, iv p2, iv p3, iv p4, iv p5, iv (2 : Int32), iv kk, rv a1, rv a4, rv a9, rv a16, rv a25, rv a36, rv a105, iv (1 : Int32), rv a1, rv a1, .unset, .unset, .unset, .unset, .unset, .unset, .unset] [(.ref a105)]))) (fun t k => XS.aload X327.here hx rfl (hb hby at_185) rfl rfl k) ?_
      obtain ⟨cq328, kq328, qa328, qb328, qc328⟩ := isOf hZ e327 Ex317
      obtain ⟨_, _, ⟨T328, L328, k328, n328⟩, -, X328, ⟨Lc328, hQ328, l328, y328, z328⟩, st328⟩ := X327.virtualBack hx (y := own_y6) (z := own_y6) hown (mvT hZ w_27) (mvT hZ w_28) (notFace_of_selects (args := #[]) (mvT hZ w_30)) (mvT hZ w_30) (mvT hZ w_29) (by decide) (backOf (W := 0) (own_tnone l Z a0 hw [] a105 T317.heap n0 gc317) hZ w_31 w_12 (by decide) (by decide)) qa328 qc328 (g := (mkF m 187 #[iv p0, iv p1, iv p2, iv p3, iv p4, iv p5, iv (2 : Int32), iv kk, rv a1, rv a4, rv a9, rv a16, rv a25, rv a36, rv a105, iv (1 : Int32), rv a1, rv a1, .unset, .unset, .unset, .unset, .unset, .unset, .unset] [(.ref a105)])) rfl (by rw [hml]; rfl) (Steps.refl _) (argsL := []) (rest := []) (lenOf own_pd5 rfl) rfl (by show 2 * 0 + _ ≤ _; exact own_b rfl) (hb hby at_187) (fun _ _ => ⟨rfl, e327, (own_b rfl : 8 + 0 ≤ _), (own_b rfl : 14 + 0 ≤ _)⟩)
      dsimp only [Pt.U, Pt.locs, Pt.cells, Pt.slots] at X328 l328 y328 z328 st328 hQ328
      obtain ⟨rfl, Nq328, eq328⟩ := hQ328
      obtain ⟨L328, X328, N328⟩ := own_absC (K := 8) (K' := 14) X328 l328 y328 z328 N327 Nq328
      have e328 : T328.heap = T317.heap := eq328
      refine own_tr (B := (T328.setTop (mkF m 190 #[iv p0, iv p1, iv p2, iv p3, iv p4, iv p5, iv (2 : Int32), iv kk, rv a1, rv a4, rv a9, rv a16, rv a25, rv a36, rv a105, iv (1 : Int32), rv a1, rv a1, .unset, .unset, .unset, .unset, .unset, .unset, .unset] [.null]))) st328 ?_
      refine own_go (B := (T328.setTop (mkF m 193 #[iv p0, iv p1, iv p2, iv p3, iv p4, iv p5, iv (2 : Int32), iv kk, rv a1, rv a4, rv a9, rv a16, rv a25, rv a36, rv a105, iv (1 : Int32), rv a1, rv a1, .unset, .unset, .unset, .unset, .unset, .unset, .unset] [.null]))) (X328.checkcastNull hx (g := (mkF m 190 #[iv p0, iv p1, iv p2, iv p3, iv p4, iv p5, iv (2 : Int32), iv kk, rv a1, rv a4, rv a9, rv a16, rv a25, rv a36, rv a105, iv (1 : Int32), rv a1, rv a1, .unset, .unset, .unset, .unset, .unset, .unset, .unset] [.null])) rfl rfl (hb hby at_190)) ?_
      refine own_go (B := (T328.setTop (mkF m 195 #[iv p0, iv p1, iv p2, iv p3, iv p4, iv p5, iv (2 : Int32), iv kk, rv a1, rv a4, rv a9, rv a16, rv a25, rv a36, rv a105, iv (1 : Int32), rv a1, rv a1, .val .null, .unset, .unset, .unset, .unset, .unset, .unset] []))) (fun t k => XS.astore X328.here hx rfl (hb hby at_193) rfl rfl (l' := #[iv p0, iv p1, iv p2, iv p3, iv p4, iv p5, iv (2 : Int32), iv kk, rv a1, rv a4, rv a9, rv a16, rv a25, rv a36, rv a105, iv (1 : Int32), rv a1, rv a1, .val .null, .unset, .unset, .unset, .unset, .unset, .unset]) rfl k) ?_
      refine own_go (B := (T328.setTop (mkF m 197 #[iv p0, iv p1, iv p2, iv p3, iv p4, iv p5, iv (2 : Int32), iv kk, rv a1, rv a4, rv a9, rv a16, rv a25, rv a36, rv a105, iv (1 : Int32), rv a1, rv a1, .val .null, .unset, .unset, .unset, .unset, .unset, .unset] [(.int (1 : Int32))]))) (fun t k => XS.iload X328.here hx rfl (hb hby at_195) rfl k) ?_
      refine own_go (B := (T328.setTop (mkF m 198 #[iv p0, iv p1, iv p2, iv p3, iv p4, iv p5, iv (2 : Int32), iv kk, rv a1, rv a4, rv a9, rv a16, rv a25, rv a36, rv a105, iv (1 : Int32), rv a1, rv a1, .val .null, .unset, .unset, .unset, .unset, .unset, .unset] [(.int (2 : Int32)), (.int (1 : Int32))]))) (fun t k => own_iconst (v := (2 : Int32)) X328.here hx rfl (hb hby at_197) (by decide) k) ?_
      have hc198 : (1 : Int32) < (2 : Int32) := (by decide)
      refine own_icmpY X328 hx (hb hby at_198) (pc' := 211) (by decide) (by decide) hc198 ?_
      refine own_go (B := (T328.setTop (mkF m 212 #[iv p0, iv p1, iv p2, iv p3, iv p4, iv p5, iv (2 : Int32), iv kk, rv a1, rv a4, rv a9, rv a16, rv a25, rv a36, rv a105, iv (1 : Int32), rv a1, rv a1, .val .null, .unset, .unset, .unset, .unset, .unset, .unset] [.null]))) (fun t k => XS.aconstNull X328.here hx rfl (hb hby at_211) k) ?_
      refine own_go (B := (T328.setTop (mkF m 214 #[iv p0, iv p1, iv p2, iv p3, iv p4, iv p5, iv (2 : Int32), iv kk, rv a1, rv a4, rv a9, rv a16, rv a25, rv a36, rv a105, iv (1 : Int32), rv a1, rv a1, .val .null, .val .null, .unset, .unset, .unset, .unset, .unset] []))) (fun t k => XS.astore X328.here hx rfl (hb hby at_212) rfl rfl (l' := #[iv p0, iv p1, iv p2, iv p3, iv p4, iv p5, iv (2 : Int32), iv kk, rv a1, rv a4, rv a9, rv a16, rv a25, rv a36, rv a105, iv (1 : Int32), rv a1, rv a1, .val .null, .val .null, .unset, .unset, .unset, .unset, .unset]) rfl k) ?_
      refine own_go (B := (T328.setTop (mkF m 216 #[iv p0, iv p1, iv p2, iv p3, iv p4, iv p5, iv (2 : Int32), iv kk, rv a1, rv a4, rv a9, rv a16, rv a25, rv a36, rv a105, iv (1 : Int32), rv a1, rv a1, .val .null, .val .null, .unset, .unset, .unset, .unset, .unset] [.null]))) (fun t k => XS.aload X328.here hx rfl (hb hby at_214) rfl rfl k) ?_
      refine own_go (B := (T328.setTop (mkF m 218 #[iv p0, iv p1, iv p2, iv p3, iv p4, iv p5, iv (2 : Int32), iv kk, rv a1, rv a4, rv a9, rv a16, rv a25, rv a36, rv a105, iv (1 : Int32), rv a1, rv a1, .val .null, .val .null, .unset, .unset, .unset, .unset, .unset] [.null, .null]))) (fun t k => XS.aload X328.here hx rfl (hb hby at_216) rfl rfl k) ?_
      obtain ⟨_, _, ⟨T330, L330, k330, n330⟩, -, X330, ⟨Lc330, hQ330, l330, y330, z330⟩, st330⟩ := Jvm.LawKit.callS X328 hx (y := own_y7) hown (mvT hZ w_34) (mvT hZ w_35) (mvT hZ w_36) (mvT hZ w_37) (by decide) (backOf (W := 0) (own_same0 l Z a0 hw [] T317.heap n0) hZ w_37 w_36 (by decide) (by decide)) (g := (mkF m 218 #[iv p0, iv p1, iv p2, iv p3, iv p4, iv p5, iv (2 : Int32), iv kk, rv a1, rv a4, rv a9, rv a16, rv a25, rv a36, rv a105, iv (1 : Int32), rv a1, rv a1, .val .null, .val .null, .unset, .unset, .unset, .unset, .unset] [.null, .null])) rfl (by rw [hml]; rfl) (argsL := [.null, .null]) (rest := []) (lenOf own_pd6 rfl) rfl (by show 2 * 0 + _ ≤ _; exact own_b rfl) (hb hby at_218) (fun _ _ => ⟨rfl, e328, (own_b rfl : 8 + 0 ≤ _), (own_b rfl : 14 + 0 ≤ _)⟩)
      dsimp only [Pt.U, Pt.locs, Pt.cells, Pt.slots] at X330 l330 y330 z330 st330 hQ330
      obtain ⟨rfl, Nq330, eq330⟩ := hQ330
      obtain ⟨L330, X330, N330⟩ := own_absC (K := 8) (K' := 14) X330 l330 y330 z330 N328 Nq330
      have e330 : T330.heap = T317.heap := eq330
      refine own_go (B := (T330.setTop (mkF m 221 #[iv p0, iv p1, iv p2, iv p3, iv p4, iv p5, iv (2 : Int32), iv kk, rv a1, rv a4, rv a9, rv a16, rv a25, rv a36, rv a105, iv (1 : Int32), rv a1, rv a1, .val .null, .val .null, .unset, .unset, .unset, .unset, .unset] [(.int (1 : Int32))]))) st330 ?_
      have hc221 : ¬ (1 : Int32) = (0 : Int32) := (by decide)
      refine own_ifY X330 hx (hb hby at_221) (pc' := 226) (by decide) (by decide) hc221 ?_
      refine own_go (B := (T330.setTop (mkF m 228 #[iv p0, iv p1, iv p2, iv p3, iv p4, iv p5, iv (2 : Int32), iv kk, rv a1, rv a4, rv a9, rv a16, rv a25, rv a36, rv a105, iv (1 : Int32), rv a1, rv a1, .val .null, .val .null, .unset, .unset, .unset, .unset, .unset] [(.int (1 : Int32))]))) (fun t k => XS.iload X330.here hx rfl (hb hby at_226) rfl k) ?_
      refine own_go (B := (T330.setTop (mkF m 229 #[iv p0, iv p1, iv p2, iv p3, iv p4, iv p5, iv (2 : Int32), iv kk, rv a1, rv a4, rv a9, rv a16, rv a25, rv a36, rv a105, iv (1 : Int32), rv a1, rv a1, .val .null, .val .null, .unset, .unset, .unset, .unset, .unset] [(.int (2 : Int32)), (.int (1 : Int32))]))) (fun t k => own_iconst (v := (2 : Int32)) X330.here hx rfl (hb hby at_228) (by decide) k) ?_
      refine own_go (B := (T330.setTop (mkF m 230 #[iv p0, iv p1, iv p2, iv p3, iv p4, iv p5, iv (2 : Int32), iv kk, rv a1, rv a4, rv a9, rv a16, rv a25, rv a36, rv a105, iv (1 : Int32), rv a1, rv a1, .val .null, .val .null, .unset, .unset, .unset, .unset, .unset] [(.int ((1 : Int32) - (2 : Int32)))]))) (fun t k => XS.isub (x := (1 : Int32)) (y := (2 : Int32)) X330.here hx rfl (hb hby at_229) rfl k) ?_
      rw [show ((1 : Int32) - (2 : Int32)) = (-1 : Int32) from by decide]
      refine own_go (B := (T330.setTop (mkF m 231 #[iv p0, iv p1, iv p2, iv p3, iv p4, iv p5, iv (2 : Int32), iv kk, rv a1, rv a4, rv a9, rv a16, rv a25, rv a36, rv a105, iv (1 : Int32), rv a1, rv a1, .val .null, .val .null, .unset, .unset, .unset, .unset, .unset] [(.int (0 : Int32)), (.int (-1 : Int32))]))) (fun t k => own_iconst (v := (0 : Int32)) X330.here hx rfl (hb hby at_230) (by decide) k) ?_
      obtain ⟨_, _, ⟨T331, L331, k331, n331⟩, -, X331, ⟨Lc331, hQ331, l331, y331, z331⟩, st331⟩ := Jvm.LawKit.callS X330 hx (y := own_y8) hown (mvT hZ w_38) (mvT hZ w_39) (mvT hZ w_25) (mvT hZ w_40) (by decide) (backOf (W := 0) (own_mmax l Z a0 hw [] (-1 : Int32) (0 : Int32) T317.heap n0) hZ w_40 w_25 (by decide) (by decide)) (g := (mkF m 231 #[iv p0, iv p1, iv p2, iv p3, iv p4, iv p5, iv (2 : Int32), iv kk, rv a1, rv a4, rv a9, rv a16, rv a25, rv a36, rv a105, iv (1 : Int32), rv a1, rv a1, .val .null, .val .null, .unset, .unset, .unset, .unset, .unset] [(.int (0 : Int32)), (.int (-1 : Int32))])) rfl (by rw [hml]; rfl) (argsL := [(.int (-1 : Int32)), (.int (0 : Int32))]) (rest := []) (lenOf own_pd7 rfl) rfl (by show 2 * 0 + _ ≤ _; exact own_b rfl) (hb hby at_231) (fun _ _ => ⟨rfl, e330, (own_b rfl : 8 + 0 ≤ _), (own_b rfl : 14 + 0 ≤ _)⟩)
      dsimp only [Pt.U, Pt.locs, Pt.cells, Pt.slots] at X331 l331 y331 z331 st331 hQ331
      obtain ⟨rfl, Nq331, eq331⟩ := hQ331
      obtain ⟨L331, X331, N331⟩ := own_absC (K := 8) (K' := 14) X331 l331 y331 z331 N330 Nq331
      have e331 : T331.heap = T317.heap := eq331
      refine own_go (B := (T331.setTop (mkF m 234 #[iv p0, iv p1, iv p2, iv p3, iv p4, iv p5, iv (2 : Int32), iv kk, rv a1, rv a4, rv a9, rv a16, rv a25, rv a36, rv a105, iv (1 : Int32), rv a1, rv a1, .val .null, .val .null, .unset, .unset, .unset, .unset, .unset] [(.int (own_max (-1 : Int32) (0 : Int32)))]))) st331 ?_
      rw [show own_max (-1 : Int32) (0 : Int32) = (0 : Int32) from by decide]
      refine own_go (B := (T331.setTop (mkF m 236 #[iv p0, iv p1, iv p2, iv p3, iv p4, iv p5, iv (2 : Int32), iv kk, rv a1, rv a4, rv a9, rv a16, rv a25, rv a36, rv a105, iv (1 : Int32), rv a1, rv a1, .val .null, .val .null, iv (0 : Int32), .unset, .unset, .unset, .unset] []))) (fun t k => XS.istore X331.here hx rfl (hb hby at_234) rfl (l' := #[iv p0, iv p1, iv p2, iv p3, iv p4, iv p5, iv (2 : Int32), iv kk, rv a1, rv a4, rv a9, rv a16, rv a25, rv a36, rv a105, iv (1 : Int32), rv a1, rv a1, .val .null, .val .null, iv (0 : Int32), .unset, .unset, .unset, .unset]) rfl k) ?_
      refine own_go (B := (T331.setTop (mkF m 238 #[iv p0, iv p1, iv p2, iv p3, iv p4, iv p5, iv (2 : Int32), iv kk, rv a1, rv a4, rv a9, rv a16, rv a25, rv a36, rv a105, iv (1 : Int32), rv a1, rv a1, .val .null, .val .null, iv (0 : Int32), .unset, .unset, .unset, .unset] [(.ref a105)]))) (fun t k => XS.aload X331.here hx rfl (hb hby at_236) rfl rfl k) ?_
      refine own_go (B := (T331.setTop (mkF m 240 #[iv p0, iv p1, iv p2, iv p3, iv p4, iv p5, iv (2 : Int32), iv kk, rv a1, rv a4, rv a9, rv a16, rv a25, rv a36, rv a105, iv (1 : Int32), rv a1, rv a1, .val .null, .val .null, iv (0 : Int32), .unset, .unset, .unset, .unset] [(.ref a25), (.ref a105)]))) (fun t k => XS.aload X331.here hx rfl (hb hby at_238) rfl rfl k) ?_
      obtain ⟨cq332, kq332, qa332, qb332, qc332⟩ := isOf hZ e331 Ex317
      obtain ⟨_, _, ⟨T332, L332, k332, n332⟩, -, X332, ⟨Lc332, hQ332, l332, y332, z332⟩, st332⟩ := X331.virtualBack hx (y := own_y9) (z := own_y9) hown (mvT hZ w_41) (mvT hZ w_42) (notFace_of_selects (args := #[]) (mvT hZ w_44)) (mvT hZ w_44) (mvT hZ w_43) (by decide) (backOf (W := 0) (own_kone l Z a0 hw [] a105 a25 ar121 (0 : Int32) (2 : Int32) (1 : Int32) [.null, .null] [(.ref a25), .null] T317.heap n0 Ex317 gk317 gc317 gv317 F318 gn105 gn_ar121 ne_ar121_a105 (own_lenL (n := 2) rfl (by decide)) (by decide) (by decide) (Nat.lt_of_lt_of_eq (by decide : _ < 2) rfl) (by decide) (Ins.of_exa (own_Bn_exa F325 (List.mem_of_getElem? (i := 4) rfl)) w_60) rfl) hZ w_45 w_12 (by decide) (by decide)) qa332 qc332 (g := (mkF m 240 #[iv p0, iv p1, iv p2, iv p3, iv p4, iv p5, iv (2 : Int32), iv kk, rv a1, rv a4, rv a9, rv a16, rv a25, rv a36, rv a105, iv (1 : Int32), rv a1, rv a1, .val .null, .val .null, iv (0 : Int32), .unset, .unset, .unset, .unset] [(.ref a25), (.ref a105)])) rfl (by rw [hml]; rfl) (Steps.refl _) (argsL := [(.ref a25)]) (rest := []) (lenOf own_pd8 rfl) rfl (by show 2 * 0 + _ ≤ _; exact own_b rfl) (hb hby at_240) (fun _ _ => ⟨rfl, e331, (own_b rfl : 8 + 0 ≤ _), (own_b rfl : 14 + 0 ≤ _)⟩)
      dsimp only [Pt.U, Pt.locs, Pt.cells, Pt.slots] at X332 l332 y332 z332 st332 hQ332
      obtain ⟨rfl, Nq332, K332, Ex332, gk332, gc332, gv332⟩ := hQ332
      obtain ⟨L332, X332, N332⟩ := own_absC (K := 8) (K' := 14) X332 l332 y332 z332 N331 Nq332
      have F333 : n0 ≤ T332.heap.size := Nat.le_trans F318 K332.1
      have F334 := Keep.trans F319 K332 (allS (Or.inr (Nat.le_trans F93.1 (Nat.le_of_eq ga105.symm))) (allS (Or.inr (Nat.le_trans K107.1 gz121)) all0))
      have F335 := own_Ao_keep F320 K332 (ninS (Ne.symm ne105_a36) (ninS (Ne.symm ne_ar121_a36) nin0))
      have F336 := Exa.keep Ex317 K332
      have F337 := own_Bn_keep F325 K332 hbq
      refine own_tr (B := (T332.setTop (mkF m 243 #[iv p0, iv p1, iv p2, iv p3, iv p4, iv p5, iv (2 : Int32), iv kk, rv a1, rv a4, rv a9, rv a16, rv a25, rv a36, rv a105, iv (1 : Int32), rv a1, rv a1, .val .null, .val .null, iv (0 : Int32), .unset, .unset, .unset, .unset] []))) st332 ?_
      refine own_go (B := (T332.setTop (mkF m 245 #[iv p0, iv p1, iv p2, iv p3, iv p4, iv p5, iv (2 : Int32), iv kk, rv a1, rv a4, rv a9, rv a16, rv a25, rv a36, rv a105, iv (1 : Int32), rv a1, rv a1, .val .null, .val .null, iv (0 : Int32), .unset, .unset, .unset, .unset] [(.ref a105)]))) (fun t k => XS.aload X332.here hx rfl (hb hby at_243) rfl rfl k) ?_
      obtain ⟨cq341, kq341, qa341, qb341, qc341⟩ := isOf hZ rfl Ex332
      obtain ⟨_, _, ⟨T341, L341, k341, n341⟩, -, X341, ⟨Lc341, hQ341, l341, y341, z341⟩, st341⟩ := X332.virtualBack hx (y := own_y6) (z := own_y6) hown (mvT hZ w_27) (mvT hZ w_28) (notFace_of_selects (args := #[]) (mvT hZ w_30)) (mvT hZ w_30) (mvT hZ w_29) (by decide) (backOf (W := 0) (own_tone l Z a0 hw [] a105 ar121 a25 (1 : Int32) (0 : Int32) [(.ref a25), .null] [.null, .null] T332.heap n0 Ex332 gk332 gc332 gv332 F333 gn105 gn_ar121 ne_ar121_a105 (by decide) (by decide) (by decide) rfl rfl) hZ w_31 w_12 (by decide) (by decide)) qa341 qc341 (g := (mkF m 245 #[iv p0, iv p1, iv p2, iv p3, iv p4, iv p5, iv (2 : Int32), iv kk, rv a1, rv a4, rv a9, rv a16, rv a25, rv a36, rv a105, iv (1 : Int32), rv a1, rv a1, .val .null, .val .null, iv (0 : Int32), .unset, .unset, .unset, .unset] [(.ref a105)])) rfl (by rw [hml]; rfl) (Steps.refl _) (argsL := []) (rest := []) (lenOf own_pd5 rfl) rfl (by show 2 * 0 + _ ≤ _; exact own_b rfl) (hb hby at_245) (fun _ _ => ⟨rfl, rfl, (own_b rfl : 8 + 0 ≤ _), (own_b rfl : 14 + 0 ≤ _)⟩)
      dsimp only [Pt.U, Pt.locs, Pt.cells, Pt.slots] at X341 l341 y341 z341 st341 hQ341
      obtain ⟨rfl, Nq341, K341, Ex341, gk341, gc341, gv341⟩ := hQ341
      obtain ⟨L341, X341, N341⟩ := own_absC (K := 8) (K' := 14) X341 l341 y341 z341 N332 Nq341
      have F342 : n0 ≤ T341.heap.size := Nat.le_trans F333 K341.1
      have F343 := Keep.trans F334 K341 (allS (Or.inr (Nat.le_trans F93.1 (Nat.le_of_eq ga105.symm))) (allS (Or.inr (Nat.le_trans K107.1 gz121)) all0))
      have F344 := own_Ao_keep F335 K341 (ninS (Ne.symm ne105_a36) (ninS (Ne.symm ne_ar121_a36) nin0))
      have F345 := Exa.keep Ex332 K341
      have F346 := own_Bn_keep F337 K341 hbq
      refine own_tr (B := (T341.setTop (mkF m 248 #[iv p0, iv p1, iv p2, iv p3, iv p4, iv p5, iv (2 : Int32), iv kk, rv a1, rv a4, rv a9, rv a16, rv a25, rv a36, rv a105, iv (1 : Int32), rv a1, rv a1, .val .null, .val .null, iv (0 : Int32), .unset, .unset, .unset, .unset] [(.ref a25)]))) st341 ?_
      obtain ⟨T350, X350, e350, st350⟩ := castY X341 hx hZ hown w_7 rfl (Ins.of_exa (own_Bn_exa F346 (List.mem_of_getElem? (i := 4) rfl)) w_9) (g := (mkF m 248 #[iv p0, iv p1, iv p2, iv p3, iv p4, iv p5, iv (2 : Int32), iv kk, rv a1, rv a4, rv a9, rv a16, rv a25, rv a36, rv a105, iv (1 : Int32), rv a1, rv a1, .val .null, .val .null, iv (0 : Int32), .unset, .unset, .unset, .unset] [(.ref a25)])) rfl rfl (hb hby at_248)
      refine own_go (B := (T350.setTop (mkF m 251 #[iv p0, iv p1, iv p2, iv p3, iv p4, iv p5, iv (2 : Int32), iv kk, rv a1, rv a4, rv a9, rv a16, rv a25, rv a36, rv a105, iv (1 : Int32), rv a1, rv a1, .val .null, .val .null, iv (0 : Int32), .unset, .unset, .unset, .unset] [(.ref a25)]))) st350 ?_
      refine own_go (B := (T350.setTop (mkF m 253 #[iv p0, iv p1, iv p2, iv p3, iv p4, iv p5, iv (2 : Int32), iv kk, rv a1, rv a4, rv a9, rv a16, rv a25, rv a36, rv a105, iv (1 : Int32), rv a1, rv a1, .val .null, .val .null, iv (0 : Int32), rv a25, .unset, .unset, .unset] []))) (fun t k => XS.astore X350.here hx rfl (hb hby at_251) rfl rfl (l' := #[iv p0, iv p1, iv p2, iv p3, iv p4, iv p5, iv (2 : Int32), iv kk, rv a1, rv a4, rv a9, rv a16, rv a25, rv a36, rv a105, iv (1 : Int32), rv a1, rv a1, .val .null, .val .null, iv (0 : Int32), rv a25, .unset, .unset, .unset]) rfl k) ?_
      refine own_go (B := (T350.setTop (mkF m 255 #[iv p0, iv p1, iv p2, iv p3, iv p4, iv p5, iv (2 : Int32), iv kk, rv a1, rv a4, rv a9, rv a16, rv a25, rv a36, rv a105, iv (1 : Int32), rv a1, rv a1, .val .null, .val .null, iv (0 : Int32), rv a25, .unset, .unset, .unset] [(.int (2 : Int32))]))) (fun t k => XS.iload X350.here hx rfl (hb hby at_253) rfl k) ?_
      have hc255 : (0 : Int32) < (2 : Int32) := (by decide)
      refine own_ifN X350 hx (hb hby at_255) (pn := 258) rfl hc255 ?_
      refine own_go (B := (T350.setTop (mkF m 260 #[iv p0, iv p1, iv p2, iv p3, iv p4, iv p5, iv (2 : Int32), iv kk, rv a1, rv a4, rv a9, rv a16, rv a25, rv a36, rv a105, iv (1 : Int32), rv a1, rv a1, .val .null, .val .null, iv (0 : Int32), rv a25, .unset, .unset, .unset] [(.ref a25)]))) (fun t k => XS.aload X350.here hx rfl (hb hby at_258) rfl rfl k) ?_
      refine own_go (B := (T350.setTop (mkF m 264 #[iv p0, iv p1, iv p2, iv p3, iv p4, iv p5, iv (2 : Int32), iv kk, rv a1, rv a4, rv a9, rv a16, rv a25, rv a36, rv a105, iv (1 : Int32), rv a1, rv a1, .val .null, .val .null, iv (0 : Int32), rv a25, .unset, .unset, .unset] [(.ref a25)]))) (fun t k => XS.goto X350.here hx rfl (pc0 := 260) (pc' := 264) rfl (hb hby at_260) (by decide) (by decide) k) ?_
      refine own_go (B := (T350.setTop (mkF m 266 #[iv p0, iv p1, iv p2, iv p3, iv p4, iv p5, iv (2 : Int32), iv kk, rv a1, rv a4, rv a9, rv a16, rv a25, rv a36, rv a105, iv (1 : Int32), rv a1, rv a1, .val .null, .val .null, iv (0 : Int32), rv a25, rv a25, .unset, .unset] []))) (fun t k => XS.astore X350.here hx rfl (hb hby at_264) rfl rfl (l' := #[iv p0, iv p1, iv p2, iv p3, iv p4, iv p5, iv (2 : Int32), iv kk, rv a1, rv a4, rv a9, rv a16, rv a25, rv a36, rv a105, iv (1 : Int32), rv a1, rv a1, .val .null, .val .null, iv (0 : Int32), rv a25, rv a25, .unset, .unset]) rfl k) ?_
      refine own_go (B := (T350.setTop (mkF m 268 #[iv p0, iv p1, iv p2, iv p3, iv p4, iv p5, iv (2 : Int32), iv kk, rv a1, rv a4, rv a9, rv a16, rv a25, rv a36, rv a105, iv (1 : Int32), rv a1, rv a1, .val .null, .val .null, iv (0 : Int32), rv a25, rv a25, .unset, .unset] [(.ref a25)]))) (fun t k => XS.aload X350.here hx rfl (hb hby at_266) rfl rfl k) ?_
      refine own_go (B := (T350.setTop (mkF m 270 #[iv p0, iv p1, iv p2, iv p3, iv p4, iv p5, iv (2 : Int32), iv kk, rv a1, rv a4, rv a9, rv a16, rv a25, rv a36, rv a105, iv (1 : Int32), rv a1, rv a1, .val .null, .val .null, iv (0 : Int32), rv a25, rv a25, .unset, .unset] [(.ref a25), (.ref a25)]))) (fun t k => XS.aload X350.here hx rfl (hb hby at_268) rfl rfl k) ?_
      obtain ⟨_, _, ⟨T351, L351, k351, n351⟩, -, X351, ⟨Lc351, hQ351, l351, y351, z351⟩, st351⟩ := Jvm.LawKit.callS X350 hx (y := own_y7) hown (mvT hZ w_34) (mvT hZ w_35) (mvT hZ w_36) (mvT hZ w_37) (by decide) (backOf (W := 0) (own_same1 l Z a0 hw [] a25 a25 p5 T341.heap n0 (own_Bn_exa F346 (List.mem_of_getElem? (i := 4) rfl)) (own_Bn_fld F346 (List.mem_of_getElem? (i := 4) rfl)) (own_Bn_exa F346 (List.mem_of_getElem? (i := 4) rfl)) (own_Bn_fld F346 (List.mem_of_getElem? (i := 4) rfl))) hZ w_37 w_36 (by decide) (by decide)) (g := (mkF m 270 #[iv p0, iv p1, iv p2, iv p3, iv p4, iv p5, iv (2 : Int32), iv kk, rv a1, rv a4, rv a9, rv a16, rv a25, rv a36, rv a105, iv (1 : Int32), rv a1, rv a1, .val .null, .val .null, iv (0 : Int32), rv a25, rv a25, .unset, .unset] [(.ref a25), (.ref a25)])) rfl (by rw [hml]; rfl) (argsL := [(.ref a25), (.ref a25)]) (rest := []) (lenOf own_pd6 rfl) rfl (by show 2 * 0 + _ ≤ _; exact own_b rfl) (hb hby at_270) (fun _ _ => ⟨rfl, e350, (own_b rfl : 8 + 0 ≤ _), (own_b rfl : 14 + 0 ≤ _)⟩)
      dsimp only [Pt.U, Pt.locs, Pt.cells, Pt.slots] at X351 l351 y351 z351 st351 hQ351
      obtain ⟨rfl, Nq351, eq351⟩ := hQ351
      obtain ⟨L351, X351, N351⟩ := own_absC (K := 8) (K' := 14) X351 l351 y351 z351 N341 Nq351
      have e351 : T351.heap = T341.heap := eq351
      refine own_go (B := (T351.setTop (mkF m 273 #[iv p0, iv p1, iv p2, iv p3, iv p4, iv p5, iv (2 : Int32), iv kk, rv a1, rv a4, rv a9, rv a16, rv a25, rv a36, rv a105, iv (1 : Int32), rv a1, rv a1, .val .null, .val .null, iv (0 : Int32), rv a25, rv a25, .unset, .unset] [(.int (1 : Int32))]))) st351 ?_
      have hc273 : ¬ (1 : Int32) = (0 : Int32) := (by decide)
      refine own_ifY X351 hx (hb hby at_273) (pc' := 278) (by decide) (by decide) hc273 ?_
      refine own_go (B := (T351.setTop (mkF m 280 #[iv p0, iv p1, iv p2, iv p3, iv p4, iv p5, iv (2 : Int32), iv kk, rv a1, rv a4, rv a9, rv a16, rv a25, rv a36, rv a105, iv (1 : Int32), rv a1, rv a1, .val .null, .val .null, iv (0 : Int32), rv a25, rv a25, .unset, .unset] [(.ref a105)]))) (fun t k => XS.aload X351.here hx rfl (hb hby at_278) rfl rfl k) ?_
      obtain ⟨cq352, kq352, qa352, qb352, qc352⟩ := isOf hZ e351 Ex341
      obtain ⟨_, _, ⟨T352, L352, k352, n352⟩, -, X352, ⟨Lc352, hQ352, l352, y352, z352⟩, st352⟩ := X351.virtualBack hx (y := own_y6) (z := own_y6) hown (mvT hZ w_27) (mvT hZ w_28) (notFace_of_selects (args := #[]) (mvT hZ w_30)) (mvT hZ w_30) (mvT hZ w_29) (by decide) (backOf (W := 0) (own_tnone l Z a0 hw [] a105 T341.heap n0 gc341) hZ w_31 w_12 (by decide) (by decide)) qa352 qc352 (g := (mkF m 280 #[iv p0, iv p1, iv p2, iv p3, iv p4, iv p5, iv (2 : Int32), iv kk, rv a1, rv a4, rv a9, rv a16, rv a25, rv a36, rv a105, iv (1 : Int32), rv a1, rv a1, .val .null, .val .null, iv (0 : Int32), rv a25, rv a25, .unset, .unset] [(.ref a105)])) rfl (by rw [hml]; rfl) (Steps.refl _) (argsL := []) (rest := []) (lenOf own_pd5 rfl) rfl (by show 2 * 0 + _ ≤ _; exact own_b rfl) (hb hby at_280) (fun _ _ => ⟨rfl, e351, (own_b rfl : 8 + 0 ≤ _), (own_b rfl : 14 + 0 ≤ _)⟩)
      dsimp only [Pt.U, Pt.locs, Pt.cells, Pt.slots] at X352 l352 y352 z352 st352 hQ352
      obtain ⟨rfl, Nq352, eq352⟩ := hQ352
      obtain ⟨L352, X352, N352⟩ := own_absC (K := 8) (K' := 14) X352 l352 y352 z352 N351 Nq352
      have e352 : T352.heap = T341.heap := eq352
      refine own_tr (B := (T352.setTop (mkF m 283 #[iv p0, iv p1, iv p2, iv p3, iv p4, iv p5, iv (2 : Int32), iv kk, rv a1, rv a4, rv a9, rv a16, rv a25, rv a36, rv a105, iv (1 : Int32), rv a1, rv a1, .val .null, .val .null, iv (0 : Int32), rv a25, rv a25, .unset, .unset] [.null]))) st352 ?_
      refine own_go (B := (T352.setTop (mkF m 286 #[iv p0, iv p1, iv p2, iv p3, iv p4, iv p5, iv (2 : Int32), iv kk, rv a1, rv a4, rv a9, rv a16, rv a25, rv a36, rv a105, iv (1 : Int32), rv a1, rv a1, .val .null, .val .null, iv (0 : Int32), rv a25, rv a25, .unset, .unset] [.null]))) (X352.checkcastNull hx (g := (mkF m 283 #[iv p0, iv p1, iv p2, iv p3, iv p4, iv p5, iv (2 : Int32), iv kk, rv a1, rv a4, rv a9, rv a16, rv a25, rv a36, rv a105, iv (1 : Int32), rv a1, rv a1, .val .null, .val .null, iv (0 : Int32), rv a25, rv a25, .unset, .unset] [.null])) rfl rfl (hb hby at_283)) ?_
      refine own_go (B := (T352.setTop (mkF m 288 #[iv p0, iv p1, iv p2, iv p3, iv p4, iv p5, iv (2 : Int32), iv kk, rv a1, rv a4, rv a9, rv a16, rv a25, rv a36, rv a105, iv (1 : Int32), rv a1, rv a1, .val .null, .val .null, iv (0 : Int32), rv a25, rv a25, .val .null, .unset] []))) (fun t k => XS.astore X352.here hx rfl (hb hby at_286) rfl rfl (l' := #[iv p0, iv p1, iv p2, iv p3, iv p4, iv p5, iv (2 : Int32), iv kk, rv a1, rv a4, rv a9, rv a16, rv a25, rv a36, rv a105, iv (1 : Int32), rv a1, rv a1, .val .null, .val .null, iv (0 : Int32), rv a25, rv a25, .val .null, .unset]) rfl k) ?_
      refine own_go (B := (T352.setTop (mkF m 290 #[iv p0, iv p1, iv p2, iv p3, iv p4, iv p5, iv (2 : Int32), iv kk, rv a1, rv a4, rv a9, rv a16, rv a25, rv a36, rv a105, iv (1 : Int32), rv a1, rv a1, .val .null, .val .null, iv (0 : Int32), rv a25, rv a25, .val .null, .unset] [(.int (0 : Int32))]))) (fun t k => XS.iload X352.here hx rfl (hb hby at_288) rfl k) ?_
      refine own_go (B := (T352.setTop (mkF m 291 #[iv p0, iv p1, iv p2, iv p3, iv p4, iv p5, iv (2 : Int32), iv kk, rv a1, rv a4, rv a9, rv a16, rv a25, rv a36, rv a105, iv (1 : Int32), rv a1, rv a1, .val .null, .val .null, iv (0 : Int32), rv a25, rv a25, .val .null, .unset] [(.int (1 : Int32)), (.int (0 : Int32))]))) (fun t k => own_iconst (v := (1 : Int32)) X352.here hx rfl (hb hby at_290) (by decide) k) ?_
      have hc291 : (0 : Int32) < (1 : Int32) := (by decide)
      refine own_icmpY X352 hx (hb hby at_291) (pc' := 304) (by decide) (by decide) hc291 ?_
      refine own_go (B := (T352.setTop (mkF m 305 #[iv p0, iv p1, iv p2, iv p3, iv p4, iv p5, iv (2 : Int32), iv kk, rv a1, rv a4, rv a9, rv a16, rv a25, rv a36, rv a105, iv (1 : Int32), rv a1, rv a1, .val .null, .val .null, iv (0 : Int32), rv a25, rv a25, .val .null, .unset] [.null]))) (fun t k => XS.aconstNull X352.here hx rfl (hb hby at_304) k) ?_
      refine own_go (B := (T352.setTop (mkF m 307 #[iv p0, iv p1, iv p2, iv p3, iv p4, iv p5, iv (2 : Int32), iv kk, rv a1, rv a4, rv a9, rv a16, rv a25, rv a36, rv a105, iv (1 : Int32), rv a1, rv a1, .val .null, .val .null, iv (0 : Int32), rv a25, rv a25, .val .null, .val .null] []))) (fun t k => XS.astore X352.here hx rfl (hb hby at_305) rfl rfl (l' := #[iv p0, iv p1, iv p2, iv p3, iv p4, iv p5, iv (2 : Int32), iv kk, rv a1, rv a4, rv a9, rv a16, rv a25, rv a36, rv a105, iv (1 : Int32), rv a1, rv a1, .val .null, .val .null, iv (0 : Int32), rv a25, rv a25, .val .null, .val .null]) rfl k) ?_
      refine own_go (B := (T352.setTop (mkF m 309 #[iv p0, iv p1, iv p2, iv p3, iv p4, iv p5, iv (2 : Int32), iv kk, rv a1, rv a4, rv a9, rv a16, rv a25, rv a36, rv a105, iv (1 : Int32), rv a1, rv a1, .val .null, .val .null, iv (0 : Int32), rv a25, rv a25, .val .null, .val .null] [.null]))) (fun t k => XS.aload X352.here hx rfl (hb hby at_307) rfl rfl k) ?_
      refine own_go (B := (T352.setTop (mkF m 311 #[iv p0, iv p1, iv p2, iv p3, iv p4, iv p5, iv (2 : Int32), iv kk, rv a1, rv a4, rv a9, rv a16, rv a25, rv a36, rv a105, iv (1 : Int32), rv a1, rv a1, .val .null, .val .null, iv (0 : Int32), rv a25, rv a25, .val .null, .val .null] [.null, .null]))) (fun t k => XS.aload X352.here hx rfl (hb hby at_309) rfl rfl k) ?_
      obtain ⟨_, _, ⟨T354, L354, k354, n354⟩, -, X354, ⟨Lc354, hQ354, l354, y354, z354⟩, st354⟩ := Jvm.LawKit.callS X352 hx (y := own_y7) hown (mvT hZ w_34) (mvT hZ w_35) (mvT hZ w_36) (mvT hZ w_37) (by decide) (backOf (W := 0) (own_same0 l Z a0 hw [] T341.heap n0) hZ w_37 w_36 (by decide) (by decide)) (g := (mkF m 311 #[iv p0, iv p1, iv p2, iv p3, iv p4, iv p5, iv (2 : Int32), iv kk, rv a1, rv a4, rv a9, rv a16, rv a25, rv a36, rv a105, iv (1 : Int32), rv a1, rv a1, .val .null, .val .null, iv (0 : Int32), rv a25, rv a25, .val .null, .val .null] [.null, .null])) rfl (by rw [hml]; rfl) (argsL := [.null, .null]) (rest := []) (lenOf own_pd6 rfl) rfl (by show 2 * 0 + _ ≤ _; exact own_b rfl) (hb hby at_311) (fun _ _ => ⟨rfl, e352, (own_b rfl : 8 + 0 ≤ _), (own_b rfl : 14 + 0 ≤ _)⟩)
      dsimp only [Pt.U, Pt.locs, Pt.cells, Pt.slots] at X354 l354 y354 z354 st354 hQ354
      obtain ⟨rfl, Nq354, eq354⟩ := hQ354
      obtain ⟨L354, X354, N354⟩ := own_absC (K := 8) (K' := 14) X354 l354 y354 z354 N352 Nq354
      have e354 : T354.heap = T341.heap := eq354
      refine own_go (B := (T354.setTop (mkF m 314 #[iv p0, iv p1, iv p2, iv p3, iv p4, iv p5, iv (2 : Int32), iv kk, rv a1, rv a4, rv a9, rv a16, rv a25, rv a36, rv a105, iv (1 : Int32), rv a1, rv a1, .val .null, .val .null, iv (0 : Int32), rv a25, rv a25, .val .null, .val .null] [(.int (1 : Int32))]))) st354 ?_
      exact own_retZ X354 hx hlk Bd.returns (hb hby at_314) (by decide) (own_b rfl) (own_b rfl) (Q := (own_law_Q Z p0 p1 p2 p3 p4 p5 ca h0 n0)) ⟨rfl, N354⟩
    have J2 : ∀ (T355 : State) (L355 : List Loc) (h355 : Heap) (X355 : Stand p l e room_1 s m #[(.int p0), (.int p1), (.int p2), (.int p3), (.int p4), (.int p5)] below meth c T355 L355 8 14) (e355 : T355.heap = h355) (N355 : Fr n0 L355) (F355_0 : n0 ≤ h355.size) (F355_1 : Keep h0 h355 []) (F355_2 : own_Ao Z h355 a36 "java/lang/Integer" [(.ref a1), (.ref a4), (.ref a9), (.ref a16)]) (F355_3 : Exa Z h355 a105 "com/example/pagemason/pagemason/core/Spares") (F355_4 : Fld Z h355 a105 "com/example/pagemason/pagemason/core/Spares" "kept" "[Ljava/lang/Object;" (.ref ar121)) (F355_5 : Fld Z h355 a105 "com/example/pagemason/pagemason/core/Spares" "count" "I" (.int (2 : Int32))) (F355_6 : own_Ao Z h355 ar121 "java/lang/Object" [(.ref a1), (.ref a4)]) (F355_7 : own_Bn Z h355 [(a1, p1), (a4, p2), (a9, p3), (a16, p4), (a25, p5)]) (kk : Int32), own_G p.tables e below (fun o U' => ∃ v L, o = .returned v ∧ (own_law_Q Z p0 p1 p2 p3 p4 p5 ca h0 n0) v U'.heap L ∧ FrameEnd s o U' L 24 128) (T355.setTop (mkF m 144 #[iv p0, iv p1, iv p2, iv p3, iv p4, iv p5, iv (2 : Int32), iv kk, rv a1, rv a4, rv a9, rv a16, rv a25, rv a36, rv a105, iv (2 : Int32), .unset, .unset, .unset, .unset, .unset, .unset, .unset, .unset, .unset] [])) := by
      intro T355 L355 h355 X355 e355 N355 F355_0 F355_1 F355_2 F355_3 F355_4 F355_5 F355_6 F355_7 kk
      refine own_go (B := (T355.setTop (mkF m 146 #[iv p0, iv p1, iv p2, iv p3, iv p4, iv p5, iv (2 : Int32), iv kk, rv a1, rv a4, rv a9, rv a16, rv a25, rv a36, rv a105, iv (2 : Int32), .unset, .unset, .unset, .unset, .unset, .unset, .unset, .unset, .unset] [(.ref a105)]))) (fun t k => XS.aload X355.here hx rfl (hb hby at_144) rfl rfl k) ?_
      obtain ⟨cq356, kq356, qa356, qb356, qc356⟩ := isOf hZ e355 F355_3
      obtain ⟨_, _, ⟨T356, L356, k356, n356⟩, -, X356, ⟨Lc356, hQ356, l356, y356, z356⟩, st356⟩ := X355.virtualBack hx (y := own_y6) (z := own_y6) hown (mvT hZ w_27) (mvT hZ w_28) (notFace_of_selects (args := #[]) (mvT hZ w_30)) (mvT hZ w_30) (mvT hZ w_29) (by decide) (backOf (W := 0) (own_tone l Z a0 hw [] a105 ar121 a4 (2 : Int32) (1 : Int32) [(.ref a1), (.ref a4)] [(.ref a1), .null] h355 n0 F355_3 F355_4 F355_5 F355_6 F355_0 gn105 gn_ar121 ne_ar121_a105 (by decide) (by decide) (by decide) rfl rfl) hZ w_31 w_12 (by decide) (by decide)) qa356 qc356 (g := (mkF m 146 #[iv p0, iv p1, iv p2, iv p3, iv p4, iv p5, iv (2 : Int32), iv kk, rv a1, rv a4, rv a9, rv a16, rv a25, rv a36, rv a105, iv (2 : Int32), .unset, .unset, .unset, .unset, .unset, .unset, .unset, .unset, .unset] [(.ref a105)])) rfl (by rw [hml]; rfl) (Steps.refl _) (argsL := []) (rest := []) (lenOf own_pd5 rfl) rfl (by show 2 * 0 + _ ≤ _; exact own_b rfl) (hb hby at_146) (fun _ _ => ⟨rfl, e355, (own_b rfl : 8 + 0 ≤ _), (own_b rfl : 14 + 0 ≤ _)⟩)
      dsimp only [Pt.U, Pt.locs, Pt.cells, Pt.slots] at X356 l356 y356 z356 st356 hQ356
      obtain ⟨rfl, Nq356, K356, Ex356, gk356, gc356, gv356⟩ := hQ356
      obtain ⟨L356, X356, N356⟩ := own_absC (K := 8) (K' := 14) X356 l356 y356 z356 N355 Nq356
      have F357 : n0 ≤ T356.heap.size := Nat.le_trans F355_0 K356.1
      have F358 := Keep.trans F355_1 K356 (allS (Or.inr (Nat.le_trans F93.1 (Nat.le_of_eq ga105.symm))) (allS (Or.inr (Nat.le_trans K107.1 gz121)) all0))
      have F359 := own_Ao_keep F355_2 K356 (ninS (Ne.symm ne105_a36) (ninS (Ne.symm ne_ar121_a36) nin0))
      have F360 := Exa.keep F355_3 K356
      have F364 := own_Bn_keep F355_7 K356 hbq
      refine own_tr (B := (T356.setTop (mkF m 149 #[iv p0, iv p1, iv p2, iv p3, iv p4, iv p5, iv (2 : Int32), iv kk, rv a1, rv a4, rv a9, rv a16, rv a25, rv a36, rv a105, iv (2 : Int32), .unset, .unset, .unset, .unset, .unset, .unset, .unset, .unset, .unset] [(.ref a4)]))) st356 ?_
      obtain ⟨T365, X365, e365, st365⟩ := castY X356 hx hZ hown w_7 rfl (Ins.of_exa (own_Bn_exa F364 (List.mem_of_getElem? (i := 1) rfl)) w_9) (g := (mkF m 149 #[iv p0, iv p1, iv p2, iv p3, iv p4, iv p5, iv (2 : Int32), iv kk, rv a1, rv a4, rv a9, rv a16, rv a25, rv a36, rv a105, iv (2 : Int32), .unset, .unset, .unset, .unset, .unset, .unset, .unset, .unset, .unset] [(.ref a4)])) rfl rfl (hb hby at_149)
      refine own_go (B := (T365.setTop (mkF m 152 #[iv p0, iv p1, iv p2, iv p3, iv p4, iv p5, iv (2 : Int32), iv kk, rv a1, rv a4, rv a9, rv a16, rv a25, rv a36, rv a105, iv (2 : Int32), .unset, .unset, .unset, .unset, .unset, .unset, .unset, .unset, .unset] [(.ref a4)]))) st365 ?_
      refine own_go (B := (T365.setTop (mkF m 154 #[iv p0, iv p1, iv p2, iv p3, iv p4, iv p5, iv (2 : Int32), iv kk, rv a1, rv a4, rv a9, rv a16, rv a25, rv a36, rv a105, iv (2 : Int32), rv a4, .unset, .unset, .unset, .unset, .unset, .unset, .unset, .unset] []))) (fun t k => XS.astore X365.here hx rfl (hb hby at_152) rfl rfl (l' := #[iv p0, iv p1, iv p2, iv p3, iv p4, iv p5, iv (2 : Int32), iv kk, rv a1, rv a4, rv a9, rv a16, rv a25, rv a36, rv a105, iv (2 : Int32), rv a4, .unset, .unset, .unset, .unset, .unset, .unset, .unset, .unset]) rfl k) ?_
      refine own_go (B := (T365.setTop (mkF m 156 #[iv p0, iv p1, iv p2, iv p3, iv p4, iv p5, iv (2 : Int32), iv kk, rv a1, rv a4, rv a9, rv a16, rv a25, rv a36, rv a105, iv (2 : Int32), rv a4, .unset, .unset, .unset, .unset, .unset, .unset, .unset, .unset] [(.int (2 : Int32))]))) (fun t k => XS.iload X365.here hx rfl (hb hby at_154) rfl k) ?_
      refine own_go (B := (T365.setTop (mkF m 157 #[iv p0, iv p1, iv p2, iv p3, iv p4, iv p5, iv (2 : Int32), iv kk, rv a1, rv a4, rv a9, rv a16, rv a25, rv a36, rv a105, iv (2 : Int32), rv a4, .unset, .unset, .unset, .unset, .unset, .unset, .unset, .unset] [(.int (1 : Int32)), (.int (2 : Int32))]))) (fun t k => own_iconst (v := (1 : Int32)) X365.here hx rfl (hb hby at_156) (by decide) k) ?_
      have hc157 : ¬ (2 : Int32) < (1 : Int32) := (by decide)
      refine own_icmpN X365 hx (hb hby at_157) (pn := 160) rfl hc157 ?_
      refine own_go (B := (T365.setTop (mkF m 162 #[iv p0, iv p1, iv p2, iv p3, iv p4, iv p5, iv (2 : Int32), iv kk, rv a1, rv a4, rv a9, rv a16, rv a25, rv a36, rv a105, iv (2 : Int32), rv a4, .unset, .unset, .unset, .unset, .unset, .unset, .unset, .unset] [(.ref a36)]))) (fun t k => XS.aload X365.here hx rfl (hb hby at_160) rfl rfl k) ?_
      refine own_go (B := (T365.setTop (mkF m 164 #[iv p0, iv p1, iv p2, iv p3, iv p4, iv p5, iv (2 : Int32), iv kk, rv a1, rv a4, rv a9, rv a16, rv a25, rv a36, rv a105, iv (2 : Int32), rv a4, .unset, .unset, .unset, .unset, .unset, .unset, .unset, .unset] [(.int (2 : Int32)), (.ref a36)]))) (fun t k => XS.iload X365.here hx rfl (hb hby at_162) rfl k) ?_
      refine own_go (B := (T365.setTop (mkF m 165 #[iv p0, iv p1, iv p2, iv p3, iv p4, iv p5, iv (2 : Int32), iv kk, rv a1, rv a4, rv a9, rv a16, rv a25, rv a36, rv a105, iv (2 : Int32), rv a4, .unset, .unset, .unset, .unset, .unset, .unset, .unset, .unset] [(.int (1 : Int32)), (.int (2 : Int32)), (.ref a36)]))) (fun t k => own_iconst (v := (1 : Int32)) X365.here hx rfl (hb hby at_164) (by decide) k) ?_
      refine own_go (B := (T365.setTop (mkF m 166 #[iv p0, iv p1, iv p2, iv p3, iv p4, iv p5, iv (2 : Int32), iv kk, rv a1, rv a4, rv a9, rv a16, rv a25, rv a36, rv a105, iv (2 : Int32), rv a4, .unset, .unset, .unset, .unset, .unset, .unset, .unset, .unset] [(.int ((2 : Int32) - (1 : Int32))), (.ref a36)]))) (fun t k => XS.isub (x := (2 : Int32)) (y := (1 : Int32)) X365.here hx rfl (hb hby at_165) rfl k) ?_
      rw [show ((2 : Int32) - (1 : Int32)) = (1 : Int32) from by decide]
      refine own_go (B := (T365.setTop (mkF m 167 #[iv p0, iv p1, iv p2, iv p3, iv p4, iv p5, iv (2 : Int32), iv kk, rv a1, rv a4, rv a9, rv a16, rv a25, rv a36, rv a105, iv (2 : Int32), rv a4, .unset, .unset, .unset, .unset, .unset, .unset, .unset, .unset] [(.ref a4)]))) (own_ldR X365 hx hZ e365 (own_Ao_ar F359) rfl (v := (.ref a4)) (by decide) rfl (g := (mkF m 166 #[iv p0, iv p1, iv p2, iv p3, iv p4, iv p5, iv (2 : Int32), iv kk, rv a1, rv a4, rv a9, rv a16, rv a25, rv a36, rv a105, iv (2 : Int32), rv a4, .unset, .unset, .unset, .unset, .unset, .unset, .unset, .unset] [(.int (1 : Int32)), (.ref a36)])) rfl rfl (hb hby at_166)) ?_
      refine own_go (B := (T365.setTop (mkF m 171 #[iv p0, iv p1, iv p2, iv p3, iv p4, iv p5, iv (2 : Int32), iv kk, rv a1, rv a4, rv a9, rv a16, rv a25, rv a36, rv a105, iv (2 : Int32), rv a4, .unset, .unset, .unset, .unset, .unset, .unset, .unset, .unset] [(.ref a4)]))) (fun t k => XS.goto X365.here hx rfl (pc0 := 167) (pc' := 171) rfl (hb hby at_167) (by decide) (by decide) k) ?_
      refine own_go (B := (T365.setTop (mkF m 173 #[iv p0, iv p1, iv p2, iv p3, iv p4, iv p5, iv (2 : Int32), iv kk, rv a1, rv a4, rv a9, rv a16, rv a25, rv a36, rv a105, iv (2 : Int32), rv a4, rv a4, .unset, .unset, .unset, .unset, .unset, .unset, .unset] []))) (fun t k => XS.astore X365.here hx rfl (hb hby at_171) rfl rfl (l' := #[iv p0, iv p1, iv p2, iv p3, iv p4, iv p5, iv (2 : Int32), iv kk, rv a1, rv a4, rv a9, rv a16, rv a25, rv a36, rv a105, iv (2 : Int32), rv a4, rv a4, .unset, .unset, .unset, .unset, .unset, .unset, .unset]) rfl k) ?_
      refine own_go (B := (T365.setTop (mkF m 175 #[iv p0, iv p1, iv p2, iv p3, iv p4, iv p5, iv (2 : Int32), iv kk, rv a1, rv a4, rv a9, rv a16, rv a25, rv a36, rv a105, iv (2 : Int32), rv a4, rv a4, .unset, .unset, .unset, .unset, .unset, .unset, .unset] [(.ref a4)]))) (fun t k => XS.aload X365.here hx rfl (hb hby at_173) rfl rfl k) ?_
      refine own_go (B := (T365.setTop (mkF m 177 #[iv p0, iv p1, iv p2, iv p3, iv p4, iv p5, iv (2 : Int32), iv kk, rv a1, rv a4, rv a9, rv a16, rv a25, rv a36, rv a105, iv (2 : Int32), rv a4, rv a4, .unset, .unset, .unset, .unset, .unset, .unset, .unset] [(.ref a4), (.ref a4)]))) (fun t k => XS.aload X365.here hx rfl (hb hby at_175) rfl rfl k) ?_
      obtain ⟨_, _, ⟨T366, L366, k366, n366⟩, -, X366, ⟨Lc366, hQ366, l366, y366, z366⟩, st366⟩ := Jvm.LawKit.callS X365 hx (y := own_y7) hown (mvT hZ w_34) (mvT hZ w_35) (mvT hZ w_36) (mvT hZ w_37) (by decide) (backOf (W := 0) (own_same1 l Z a0 hw [] a4 a4 p2 T356.heap n0 (own_Bn_exa F364 (List.mem_of_getElem? (i := 1) rfl)) (own_Bn_fld F364 (List.mem_of_getElem? (i := 1) rfl)) (own_Bn_exa F364 (List.mem_of_getElem? (i := 1) rfl)) (own_Bn_fld F364 (List.mem_of_getElem? (i := 1) rfl))) hZ w_37 w_36 (by decide) (by decide)) (g := (mkF m 177 #[iv p0, iv p1, iv p2, iv p3, iv p4, iv p5, iv (2 : Int32), iv kk, rv a1, rv a4, rv a9, rv a16, rv a25, rv a36, rv a105, iv (2 : Int32), rv a4, rv a4, .unset, .unset, .unset, .unset, .unset, .unset, .unset] [(.ref a4), (.ref a4)])) rfl (by rw [hml]; rfl) (argsL := [(.ref a4), (.ref a4)]) (rest := []) (lenOf own_pd6 rfl) rfl (by show 2 * 0 + _ ≤ _; exact own_b rfl) (hb hby at_177) (fun _ _ => ⟨rfl, e365, (own_b rfl : 8 + 0 ≤ _), (own_b rfl : 14 + 0 ≤ _)⟩)
      dsimp only [Pt.U, Pt.locs, Pt.cells, Pt.slots] at X366 l366 y366 z366 st366 hQ366
      obtain ⟨rfl, Nq366, eq366⟩ := hQ366
      obtain ⟨L366, X366, N366⟩ := own_absC (K := 8) (K' := 14) X366 l366 y366 z366 N356 Nq366
      have e366 : T366.heap = T356.heap := eq366
      refine own_go (B := (T366.setTop (mkF m 180 #[iv p0, iv p1, iv p2, iv p3, iv p4, iv p5, iv (2 : Int32), iv kk, rv a1, rv a4, rv a9, rv a16, rv a25, rv a36, rv a105, iv (2 : Int32), rv a4, rv a4, .unset, .unset, .unset, .unset, .unset, .unset, .unset] [(.int (1 : Int32))]))) st366 ?_
      have hc180 : ¬ (1 : Int32) = (0 : Int32) := (by decide)
      refine own_ifY X366 hx (hb hby at_180) (pc' := 185) (by decide) (by decide) hc180 ?_
      refine own_go (B := (T366.setTop (mkF m 187 #[iv p0, iv p1, iv p2, iv p3, iv p4, iv p5, iv (2 : Int32), iv kk, rv a1, rv a4, rv a9, rv a16, rv a25, rv a36, rv a105, iv (2 : Int32), rv a4, rv a4, .unset, .unset, .unset, .unset, .unset, .unset, .unset] [(.ref a105)]))) (fun t k => XS.aload X366.here hx rfl (hb hby at_185) rfl rfl k) ?_
      obtain ⟨cq367, kq367, qa367, qb367, qc367⟩ := isOf hZ e366 Ex356
      obtain ⟨_, _, ⟨T367, L367, k367, n367⟩, -, X367, ⟨Lc367, hQ367, l367, y367, z367⟩, st367⟩ := X366.virtualBack hx (y := own_y6) (z := own_y6) hown (mvT hZ w_27) (mvT hZ w_28) (notFace_of_selects (args := #[]) (mvT hZ w_30)) (mvT hZ w_30) (mvT hZ w_29) (by decide) (backOf (W := 0) (own_tone l Z a0 hw [] a105 ar121 a1 (1 : Int32) (0 : Int32) [(.ref a1), .null] [.null, .null] T356.heap n0 Ex356 gk356 gc356 gv356 F357 gn105 gn_ar121 ne_ar121_a105 (by decide) (by decide) (by decide) rfl rfl) hZ w_31 w_12 (by decide) (by decide)) qa367 qc367 (g := (mkF m 187 #[iv p0, iv p1, iv p2, iv p3, iv p4, iv p5, iv (2 : Int32), iv kk, rv a1, rv a4, rv a9, rv a16, rv a25, rv a36, rv a105, iv (2 : Int32), rv a4, rv a4, .unset, .unset, .unset, .unset, .unset, .unset, .unset] [(.ref a105)])) rfl (by rw [hml]; rfl) (Steps.refl _) (argsL := []) (rest := []) (lenOf own_pd5 rfl) rfl (by show 2 * 0 + _ ≤ _; exact own_b rfl) (hb hby at_187) (fun _ _ => ⟨rfl, e366, (own_b rfl : 8 + 0 ≤ _), (own_b rfl : 14 + 0 ≤ _)⟩)
      dsimp only [Pt.U, Pt.locs, Pt.cells, Pt.slots] at X367 l367 y367 z367 st367 hQ367
      obtain ⟨rfl, Nq367, K367, Ex367, gk367, gc367, gv367⟩ := hQ367
      obtain ⟨L367, X367, N367⟩ := own_absC (K := 8) (K' := 14) X367 l367 y367 z367 N366 Nq367
      have F368 : n0 ≤ T367.heap.size := Nat.le_trans F357 K367.1
      have F369 := Keep.trans F358 K367 (allS (Or.inr (Nat.le_trans F93.1 (Nat.le_of_eq ga105.symm))) (allS (Or.inr (Nat.le_trans K107.1 gz121)) all0))
      have F370 := own_Ao_keep F359 K367 (ninS (Ne.symm ne105_a36) (ninS (Ne.symm ne_ar121_a36) nin0))
      have F371 := Exa.keep Ex356 K367
      have F372 := own_Bn_keep F364 K367 hbq
      refine own_tr (B := (T367.setTop (mkF m 190 #[iv p0, iv p1, iv p2, iv p3, iv p4, iv p5, iv (2 : Int32), iv kk, rv a1, rv a4, rv a9, rv a16, rv a25, rv a36, rv a105, iv (2 : Int32), rv a4, rv a4, .unset, .unset, .unset, .unset, .unset, .unset, .unset] [(.ref a1)]))) st367 ?_
      obtain ⟨T376, X376, e376, st376⟩ := castY X367 hx hZ hown w_7 rfl (Ins.of_exa (own_Bn_exa F372 (List.mem_of_getElem? (i := 0) rfl)) w_9) (g := (mkF m 190 #[iv p0, iv p1, iv p2, iv p3, iv p4, iv p5, iv (2 : Int32), iv kk, rv a1, rv a4, rv a9, rv a16, rv a25, rv a36, rv a105, iv (2 : Int32), rv a4, rv a4, .unset, .unset, .unset, .unset, .unset, .unset, .unset] [(.ref a1)])) rfl rfl (hb hby at_190)
      refine own_go (B := (T376.setTop (mkF m 193 #[iv p0, iv p1, iv p2, iv p3, iv p4, iv p5, iv (2 : Int32), iv kk, rv a1, rv a4, rv a9, rv a16, rv a25, rv a36, rv a105, iv (2 : Int32), rv a4, rv a4, .unset, .unset, .unset, .unset, .unset, .unset, .unset] [(.ref a1)]))) st376 ?_
      refine own_go (B := (T376.setTop (mkF m 195 #[iv p0, iv p1, iv p2, iv p3, iv p4, iv p5, iv (2 : Int32), iv kk, rv a1, rv a4, rv a9, rv a16, rv a25, rv a36, rv a105, iv (2 : Int32), rv a4, rv a4, rv a1, .unset, .unset, .unset, .unset, .unset, .unset] []))) (fun t k => XS.astore X376.here hx rfl (hb hby at_193) rfl rfl (l' := #[iv p0, iv p1, iv p2, iv p3, iv p4, iv p5, iv (2 : Int32), iv kk, rv a1, rv a4, rv a9, rv a16, rv a25, rv a36, rv a105, iv (2 : Int32), rv a4, rv a4, rv a1, .unset, .unset, .unset, .unset, .unset, .unset]) rfl k) ?_
      refine own_go (B := (T376.setTop (mkF m 197 #[iv p0, iv p1, iv p2, iv p3, iv p4, iv p5, iv (2 : Int32), iv kk, rv a1, rv a4, rv a9, rv a16, rv a25, rv a36, rv a105, iv (2 : Int32), rv a4, rv a4, rv a1, .unset, .unset, .unset, .unset, .unset, .unset] [(.int (2 : Int32))]))) (fun t k => XS.iload X376.here hx rfl (hb hby at_195) rfl k) ?_
      refine own_go (B := (T376.setTop (mkF m 198 #[iv p0, iv p1, iv p2, iv p3, iv p4, iv p5, iv (2 : Int32), iv kk, rv a1, rv a4, rv a9, rv a16, rv a25, rv a36, rv a105, iv (2 : Int32), rv a4, rv a4, rv a1, .unset, .unset, .unset, .unset, .unset, .unset] [(.int (2 : Int32)), (.int (2 : Int32))]))) (fun t k => own_iconst (v := (2 : Int32)) X376.here hx rfl (hb hby at_197) (by decide) k) ?_
      have hc198 : ¬ (2 : Int32) < (2 : Int32) := (by decide)
      refine own_icmpN X376 hx (hb hby at_198) (pn := 201) rfl hc198 ?_
      refine own_go (B := (T376.setTop (mkF m 203 #[iv p0, iv p1, iv p2, iv p3, iv p4, iv p5, iv (2 : Int32), iv kk, rv a1, rv a4, rv a9, rv a16, rv a25, rv a36, rv a105, iv (2 : Int32), rv a4, rv a4, rv a1, .unset, .unset, .unset, .unset, .unset, .unset] [(.ref a36)]))) (fun t k => XS.aload X376.here hx rfl (hb hby at_201) rfl rfl k) ?_
      refine own_go (B := (T376.setTop (mkF m 205 #[iv p0, iv p1, iv p2, iv p3, iv p4, iv p5, iv (2 : Int32), iv kk, rv a1, rv a4, rv a9, rv a16, rv a25, rv a36, rv a105, iv (2 : Int32), rv a4, rv a4, rv a1, .unset, .unset, .unset, .unset, .unset, .unset] [(.int (2 : Int32)), (.ref a36)]))) (fun t k => XS.iload X376.here hx rfl (hb hby at_203) rfl k) ?_
      refine own_go (B := (T376.setTop (mkF m 206 #[iv p0, iv p1, iv p2, iv p3, iv p4, iv p5, iv (2 : Int32), iv kk, rv a1, rv a4, rv a9, rv a16, rv a25, rv a36, rv a105, iv (2 : Int32), rv a4, rv a4, rv a1, .unset, .unset, .unset, .unset, .unset, .unset] [(.int (2 : Int32)), (.int (2 : Int32)), (.ref a36)]))) (fun t k => own_iconst (v := (2 : Int32)) X376.here hx rfl (hb hby at_205) (by decide) k) ?_
      refine own_go (B := (T376.setTop (mkF m 207 #[iv p0, iv p1, iv p2, iv p3, iv p4, iv p5, iv (2 : Int32), iv kk, rv a1, rv a4, rv a9, rv a16, rv a25, rv a36, rv a105, iv (2 : Int32), rv a4, rv a4, rv a1, .unset, .unset, .unset, .unset, .unset, .unset] [(.int ((2 : Int32) - (2 : Int32))), (.ref a36)]))) (fun t k => XS.isub (x := (2 : Int32)) (y := (2 : Int32)) X376.here hx rfl (hb hby at_206) rfl k) ?_
      rw [show ((2 : Int32) - (2 : Int32)) = (0 : Int32) from by decide]
      refine own_go (B := (T376.setTop (mkF m 208 #[iv p0, iv p1, iv p2, iv p3, iv p4, iv p5, iv (2 : Int32), iv kk, rv a1, rv a4, rv a9, rv a16, rv a25, rv a36, rv a105, iv (2 : Int32), rv a4, rv a4, rv a1, .unset, .unset, .unset, .unset, .unset, .unset] [(.ref a1)]))) (own_ldR X376 hx hZ e376 (own_Ao_ar F370) rfl (v := (.ref a1)) (by decide) rfl (g := (mkF m 207 #[iv p0, iv p1, iv p2, iv p3, iv p4, iv p5, iv (2 : Int32), iv kk, rv a1, rv a4, rv a9, rv a16, rv a25, rv a36, rv a105, iv (2 : Int32), rv a4, rv a4, rv a1, .unset, .unset, .unset, .unset, .unset, .unset] [(.int (0 : Int32)), (.ref a36)])) rfl rfl (hb hby at_207)) ?_
      refine own_go (B := (T376.setTop (mkF m 212 #[iv p0, iv p1, iv p2, iv p3, iv p4, iv p5, iv (2 : Int32), iv kk, rv a1, rv a4, rv a9, rv a16, rv a25, rv a36, rv a105, iv (2 : Int32), rv a4, rv a4, rv a1, .unset, .unset, .unset, .unset, .unset, .unset] [(.ref a1)]))) (fun t k => XS.goto X376.here hx rfl (pc0 := 208) (pc' := 212) rfl (hb hby at_208) (by decide) (by decide) k) ?_
      refine own_go (B := (T376.setTop (mkF m 214 #[iv p0, iv p1, iv p2, iv p3, iv p4, iv p5, iv (2 : Int32), iv kk, rv a1, rv a4, rv a9, rv a16, rv a25, rv a36, rv a105, iv (2 : Int32), rv a4, rv a4, rv a1, rv a1, .unset, .unset, .unset, .unset, .unset] []))) (fun t k => XS.astore X376.here hx rfl (hb hby at_212) rfl rfl (l' := #[iv p0, iv p1, iv p2, iv p3, iv p4, iv p5, iv (2 : Int32), iv kk, rv a1, rv a4, rv a9, rv a16, rv a25, rv a36, rv a105, iv (2 : Int32), rv a4, rv a4, rv a1, rv a1, .unset, .unset, .unset, .unset, .unset]) rfl k) ?_
      refine own_go (B := (T376.setTop (mkF m 216 #[iv p0, iv p1, iv p2, iv p3, iv p4, iv p5, iv (2 : Int32), iv kk, rv a1, rv a4, rv a9, rv a16, rv a25, rv a36, rv a105, iv (2 : Int32), rv a4, rv a4, rv a1, rv a1, .unset, .unset, .unset, .unset, .unset] [(.ref a1)]))) (fun t k => XS.aload X376.here hx rfl (hb hby at_214) rfl rfl k) ?_
      refine own_go (B := (T376.setTop (mkF m 218 #[iv p0, iv p1, iv p2, iv p3, iv p4, iv p5, iv (2 : Int32), iv kk, rv a1, rv a4, rv a9, rv a16, rv a25, rv a36, rv a105, iv (2 : Int32), rv a4, rv a4, rv a1, rv a1, .unset, .unset, .unset, .unset, .unset] [(.ref a1), (.ref a1)]))) (fun t k => XS.aload X376.here hx rfl (hb hby at_216) rfl rfl k) ?_
      obtain ⟨_, _, ⟨T377, L377, k377, n377⟩, -, X377, ⟨Lc377, hQ377, l377, y377, z377⟩, st377⟩ := Jvm.LawKit.callS X376 hx (y := own_y7) hown (mvT hZ w_34) (mvT hZ w_35) (mvT hZ w_36) (mvT hZ w_37) (by decide) (backOf (W := 0) (own_same1 l Z a0 hw [] a1 a1 p1 T367.heap n0 (own_Bn_exa F372 (List.mem_of_getElem? (i := 0) rfl)) (own_Bn_fld F372 (List.mem_of_getElem? (i := 0) rfl)) (own_Bn_exa F372 (List.mem_of_getElem? (i := 0) rfl)) (own_Bn_fld F372 (List.mem_of_getElem? (i := 0) rfl))) hZ w_37 w_36 (by decide) (by decide)) (g := (mkF m 218 #[iv p0, iv p1, iv p2, iv p3, iv p4, iv p5, iv (2 : Int32), iv kk, rv a1, rv a4, rv a9, rv a16, rv a25, rv a36, rv a105, iv (2 : Int32), rv a4, rv a4, rv a1, rv a1, .unset, .unset, .unset, .unset, .unset] [(.ref a1), (.ref a1)])) rfl (by rw [hml]; rfl) (argsL := [(.ref a1), (.ref a1)]) (rest := []) (lenOf own_pd6 rfl) rfl (by show 2 * 0 + _ ≤ _; exact own_b rfl) (hb hby at_218) (fun _ _ => ⟨rfl, e376, (own_b rfl : 8 + 0 ≤ _), (own_b rfl : 14 + 0 ≤ _)⟩)
      dsimp only [Pt.U, Pt.locs, Pt.cells, Pt.slots] at X377 l377 y377 z377 st377 hQ377
      obtain ⟨rfl, Nq377, eq377⟩ := hQ377
      obtain ⟨L377, X377, N377⟩ := own_absC (K := 8) (K' := 14) X377 l377 y377 z377 N367 Nq377
      have e377 : T377.heap = T367.heap := eq377
      refine own_go (B := (T377.setTop (mkF m 221 #[iv p0, iv p1, iv p2, iv p3, iv p4, iv p5, iv (2 : Int32), iv kk, rv a1, rv a4, rv a9, rv a16, rv a25, rv a36, rv a105, iv (2 : Int32), rv a4, rv a4, rv a1, rv a1, .unset, .unset, .unset, .unset, .unset] [(.int (1 : Int32))]))) st377 ?_
      have hc221 : ¬ (1 : Int32) = (0 : Int32) := (by decide)
      refine own_ifY X377 hx (hb hby at_221) (pc' := 226) (by decide) (by decide) hc221 ?_
      refine own_go (B := (T377.setTop (mkF m 228 #[iv p0, iv p1, iv p2, iv p3, iv p4, iv p5, iv (2 : Int32), iv kk, rv a1, rv a4, rv a9, rv a16, rv a25, rv a36, rv a105, iv (2 : Int32), rv a4, rv a4, rv a1, rv a1, .unset, .unset, .unset, .unset, .unset] [(.int (2 : Int32))]))) (fun t k => XS.iload X377.here hx rfl (hb hby at_226) rfl k) ?_
      refine own_go (B := (T377.setTop (mkF m 229 #[iv p0, iv p1, iv p2, iv p3, iv p4, iv p5, iv (2 : Int32), iv kk, rv a1, rv a4, rv a9, rv a16, rv a25, rv a36, rv a105, iv (2 : Int32), rv a4, rv a4, rv a1, rv a1, .unset, .unset, .unset, .unset, .unset] [(.int (2 : Int32)), (.int (2 : Int32))]))) (fun t k => own_iconst (v := (2 : Int32)) X377.here hx rfl (hb hby at_228) (by decide) k) ?_
      refine own_go (B := (T377.setTop (mkF m 230 #[iv p0, iv p1, iv p2, iv p3, iv p4, iv p5, iv (2 : Int32), iv kk, rv a1, rv a4, rv a9, rv a16, rv a25, rv a36, rv a105, iv (2 : Int32), rv a4, rv a4, rv a1, rv a1, .unset, .unset, .unset, .unset, .unset] [(.int ((2 : Int32) - (2 : Int32)))]))) (fun t k => XS.isub (x := (2 : Int32)) (y := (2 : Int32)) X377.here hx rfl (hb hby at_229) rfl k) ?_
      rw [show ((2 : Int32) - (2 : Int32)) = (0 : Int32) from by decide]
      refine own_go (B := (T377.setTop (mkF m 231 #[iv p0, iv p1, iv p2, iv p3, iv p4, iv p5, iv (2 : Int32), iv kk, rv a1, rv a4, rv a9, rv a16, rv a25, rv a36, rv a105, iv (2 : Int32), rv a4, rv a4, rv a1, rv a1, .unset, .unset, .unset, .unset, .unset] [(.int (0 : Int32)), (.int (0 : Int32))]))) (fun t k => own_iconst (v := (0 : Int32)) X377.here hx rfl (hb hby at_230) (by decide) k) ?_
      obtain ⟨_, _, ⟨T378, L378, k378, n378⟩, -, X378, ⟨Lc378, hQ378, l378, y378, z378⟩, st378⟩ := Jvm.LawKit.callS X377 hx (y := own_y8) hown (mvT hZ w_38) (mvT hZ w_39) (mvT hZ w_25) (mvT hZ w_40) (by decide) (backOf (W := 0) (own_mmax l Z a0 hw [] (0 : Int32) (0 : Int32) T367.heap n0) hZ w_40 w_25 (by decide) (by decide)) (g := (mkF m 231 #[iv p0, iv p1, iv p2, iv p3, iv p4, iv p5, iv (2 : Int32), iv kk, rv a1, rv a4, rv a9, rv a16, rv a25, rv a36, rv a105, iv (2 : Int32), rv a4, rv a4, rv a1, rv a1, .unset, .unset, .unset, .unset, .unset] [(.int (0 : Int32)), (.int (0 : Int32))])) rfl (by rw [hml]; rfl) (argsL := [(.int (0 : Int32)), (.int (0 : Int32))]) (rest := []) (lenOf own_pd7 rfl) rfl (by show 2 * 0 + _ ≤ _; exact own_b rfl) (hb hby at_231) (fun _ _ => ⟨rfl, e377, (own_b rfl : 8 + 0 ≤ _), (own_b rfl : 14 + 0 ≤ _)⟩)
      dsimp only [Pt.U, Pt.locs, Pt.cells, Pt.slots] at X378 l378 y378 z378 st378 hQ378
      obtain ⟨rfl, Nq378, eq378⟩ := hQ378
      obtain ⟨L378, X378, N378⟩ := own_absC (K := 8) (K' := 14) X378 l378 y378 z378 N377 Nq378
      have e378 : T378.heap = T367.heap := eq378
      refine own_go (B := (T378.setTop (mkF m 234 #[iv p0, iv p1, iv p2, iv p3, iv p4, iv p5, iv (2 : Int32), iv kk, rv a1, rv a4, rv a9, rv a16, rv a25, rv a36, rv a105, iv (2 : Int32), rv a4, rv a4, rv a1, rv a1, .unset, .unset, .unset, .unset, .unset] [(.int (own_max (0 : Int32) (0 : Int32)))]))) st378 ?_
      rw [show own_max (0 : Int32) (0 : Int32) = (0 : Int32) from by decide]
      refine own_go (B := (T378.setTop (mkF m 236 #[iv p0, iv p1, iv p2, iv p3, iv p4, iv p5, iv (2 : Int32), iv kk, rv a1, rv a4, rv a9, rv a16, rv a25, rv a36, rv a105, iv (2 : Int32), rv a4, rv a4, rv a1, rv a1, iv (0 : Int32), .unset, .unset, .unset, .unset] []))) (fun t k => XS.istore X378.here hx rfl (hb hby at_234) rfl (l' := #[iv p0, iv p1, iv p2, iv p3, iv p4, iv p5, iv (2 : Int32), iv kk, rv a1, rv a4, rv a9, rv a16, rv a25, rv a36, rv a105, iv (2 : Int32), rv a4, rv a4, rv a1, rv a1, iv (0 : Int32), .unset, .unset, .unset, .unset]) rfl k) ?_
      refine own_go (B := (T378.setTop (mkF m 238 #[iv p0, iv p1, iv p2, iv p3, iv p4, iv p5, iv (2 : Int32), iv kk, rv a1, rv a4, rv a9, rv a16, rv a25, rv a36, rv a105, iv (2 : Int32), rv a4, rv a4, rv a1, rv a1, iv (0 : Int32), .unset, .unset, .unset, .unset] [(.ref a105)]))) (fun t k => XS.aload X378.here hx rfl (hb hby at_236) rfl rfl k) ?_
      refine own_go (B := (T378.setTop (mkF m 240 #[iv p0, iv p1, iv p2, iv p3, iv p4, iv p5, iv (2 : Int32), iv kk, rv a1, rv a4, rv a9, rv a16, rv a25, rv a36, rv a105, iv (2 : Int32), rv a4, rv a4, rv a1, rv a1, iv (0 : Int32), .unset, .unset, .unset, .unset] [(.ref a25), (.ref a105)]))) (fun t k => XS.aload X378.here hx rfl (hb hby at_238) rfl rfl k) ?_
      obtain ⟨cq379, kq379, qa379, qb379, qc379⟩ := isOf hZ e378 Ex367
      obtain ⟨_, _, ⟨T379, L379, k379, n379⟩, -, X379, ⟨Lc379, hQ379, l379, y379, z379⟩, st379⟩ := X378.virtualBack hx (y := own_y9) (z := own_y9) hown (mvT hZ w_41) (mvT hZ w_42) (notFace_of_selects (args := #[]) (mvT hZ w_44)) (mvT hZ w_44) (mvT hZ w_43) (by decide) (backOf (W := 0) (own_kone l Z a0 hw [] a105 a25 ar121 (0 : Int32) (2 : Int32) (1 : Int32) [.null, .null] [(.ref a25), .null] T367.heap n0 Ex367 gk367 gc367 gv367 F368 gn105 gn_ar121 ne_ar121_a105 (own_lenL (n := 2) rfl (by decide)) (by decide) (by decide) (Nat.lt_of_lt_of_eq (by decide : _ < 2) rfl) (by decide) (Ins.of_exa (own_Bn_exa F372 (List.mem_of_getElem? (i := 4) rfl)) w_60) rfl) hZ w_45 w_12 (by decide) (by decide)) qa379 qc379 (g := (mkF m 240 #[iv p0, iv p1, iv p2, iv p3, iv p4, iv p5, iv (2 : Int32), iv kk, rv a1, rv a4, rv a9, rv a16, rv a25, rv a36, rv a105, iv (2 : Int32), rv a4, rv a4, rv a1, rv a1, iv (0 : Int32), .unset, .unset, .unset, .unset] [(.ref a25), (.ref a105)])) rfl (by rw [hml]; rfl) (Steps.refl _) (argsL := [(.ref a25)]) (rest := []) (lenOf own_pd8 rfl) rfl (by show 2 * 0 + _ ≤ _; exact own_b rfl) (hb hby at_240) (fun _ _ => ⟨rfl, e378, (own_b rfl : 8 + 0 ≤ _), (own_b rfl : 14 + 0 ≤ _)⟩)
      dsimp only [Pt.U, Pt.locs, Pt.cells, Pt.slots] at X379 l379 y379 z379 st379 hQ379
      obtain ⟨rfl, Nq379, K379, Ex379, gk379, gc379, gv379⟩ := hQ379
      obtain ⟨L379, X379, N379⟩ := own_absC (K := 8) (K' := 14) X379 l379 y379 z379 N378 Nq379
      have F380 : n0 ≤ T379.heap.size := Nat.le_trans F368 K379.1
      have F381 := Keep.trans F369 K379 (allS (Or.inr (Nat.le_trans F93.1 (Nat.le_of_eq ga105.symm))) (allS (Or.inr (Nat.le_trans K107.1 gz121)) all0))
      have F382 := own_Ao_keep F370 K379 (ninS (Ne.symm ne105_a36) (ninS (Ne.symm ne_ar121_a36) nin0))
      have F383 := Exa.keep Ex367 K379
      have F384 := own_Bn_keep F372 K379 hbq
      refine own_tr (B := (T379.setTop (mkF m 243 #[iv p0, iv p1, iv p2, iv p3, iv p4, iv p5, iv (2 : Int32), iv kk, rv a1, rv a4, rv a9, rv a16, rv a25, rv a36, rv a105, iv (2 : Int32), rv a4, rv a4, rv a1, rv a1, iv (0 : Int32), .unset, .unset, .unset, .unset] []))) st379 ?_
      refine own_go (B := (T379.setTop (mkF m 245 #[iv p0, iv p1, iv p2, iv p3, iv p4, iv p5, iv (2 : Int32), iv kk, rv a1, rv a4, rv a9, rv a16, rv a25, rv a36, rv a105, iv (2 : Int32), rv a4, rv a4, rv a1, rv a1, iv (0 : Int32), .unset, .unset, .unset, .unset] [(.ref a105)]))) (fun t k => XS.aload X379.here hx rfl (hb hby at_243) rfl rfl k) ?_
      obtain ⟨cq388, kq388, qa388, qb388, qc388⟩ := isOf hZ rfl Ex379
      obtain ⟨_, _, ⟨T388, L388, k388, n388⟩, -, X388, ⟨Lc388, hQ388, l388, y388, z388⟩, st388⟩ := X379.virtualBack hx (y := own_y6) (z := own_y6) hown (mvT hZ w_27) (mvT hZ w_28) (notFace_of_selects (args := #[]) (mvT hZ w_30)) (mvT hZ w_30) (mvT hZ w_29) (by decide) (backOf (W := 0) (own_tone l Z a0 hw [] a105 ar121 a25 (1 : Int32) (0 : Int32) [(.ref a25), .null] [.null, .null] T379.heap n0 Ex379 gk379 gc379 gv379 F380 gn105 gn_ar121 ne_ar121_a105 (by decide) (by decide) (by decide) rfl rfl) hZ w_31 w_12 (by decide) (by decide)) qa388 qc388 (g := (mkF m 245 #[iv p0, iv p1, iv p2, iv p3, iv p4, iv p5, iv (2 : Int32), iv kk, rv a1, rv a4, rv a9, rv a16, rv a25, rv a36, rv a105, iv (2 : Int32), rv a4, rv a4, rv a1, rv a1, iv (0 : Int32), .unset, .unset, .unset, .unset] [(.ref a105)])) rfl (by rw [hml]; rfl) (Steps.refl _) (argsL := []) (rest := []) (lenOf own_pd5 rfl) rfl (by show 2 * 0 + _ ≤ _; exact own_b rfl) (hb hby at_245) (fun _ _ => ⟨rfl, rfl, (own_b rfl : 8 + 0 ≤ _), (own_b rfl : 14 + 0 ≤ _)⟩)
      dsimp only [Pt.U, Pt.locs, Pt.cells, Pt.slots] at X388 l388 y388 z388 st388 hQ388
      obtain ⟨rfl, Nq388, K388, Ex388, gk388, gc388, gv388⟩ := hQ388
      obtain ⟨L388, X388, N388⟩ := own_absC (K := 8) (K' := 14) X388 l388 y388 z388 N379 Nq388
      have F389 : n0 ≤ T388.heap.size := Nat.le_trans F380 K388.1
      have F390 := Keep.trans F381 K388 (allS (Or.inr (Nat.le_trans F93.1 (Nat.le_of_eq ga105.symm))) (allS (Or.inr (Nat.le_trans K107.1 gz121)) all0))
      have F391 := own_Ao_keep F382 K388 (ninS (Ne.symm ne105_a36) (ninS (Ne.symm ne_ar121_a36) nin0))
      have F392 := Exa.keep Ex379 K388
      have F393 := own_Bn_keep F384 K388 hbq
      refine own_tr (B := (T388.setTop (mkF m 248 #[iv p0, iv p1, iv p2, iv p3, iv p4, iv p5, iv (2 : Int32), iv kk, rv a1, rv a4, rv a9, rv a16, rv a25, rv a36, rv a105, iv (2 : Int32), rv a4, rv a4, rv a1, rv a1, iv (0 : Int32), .unset, .unset, .unset, .unset] [(.ref a25)]))) st388 ?_
      obtain ⟨T397, X397, e397, st397⟩ := castY X388 hx hZ hown w_7 rfl (Ins.of_exa (own_Bn_exa F393 (List.mem_of_getElem? (i := 4) rfl)) w_9) (g := (mkF m 248 #[iv p0, iv p1, iv p2, iv p3, iv p4, iv p5, iv (2 : Int32), iv kk, rv a1, rv a4, rv a9, rv a16, rv a25, rv a36, rv a105, iv (2 : Int32), rv a4, rv a4, rv a1, rv a1, iv (0 : Int32), .unset, .unset, .unset, .unset] [(.ref a25)])) rfl rfl (hb hby at_248)
      refine own_go (B := (T397.setTop (mkF m 251 #[iv p0, iv p1, iv p2, iv p3, iv p4, iv p5, iv (2 : Int32), iv kk, rv a1, rv a4, rv a9, rv a16, rv a25, rv a36, rv a105, iv (2 : Int32), rv a4, rv a4, rv a1, rv a1, iv (0 : Int32), .unset, .unset, .unset, .unset] [(.ref a25)]))) st397 ?_
      refine own_go (B := (T397.setTop (mkF m 253 #[iv p0, iv p1, iv p2, iv p3, iv p4, iv p5, iv (2 : Int32), iv kk, rv a1, rv a4, rv a9, rv a16, rv a25, rv a36, rv a105, iv (2 : Int32), rv a4, rv a4, rv a1, rv a1, iv (0 : Int32), rv a25, .unset, .unset, .unset] []))) (fun t k => XS.astore X397.here hx rfl (hb hby at_251) rfl rfl (l' := #[iv p0, iv p1, iv p2, iv p3, iv p4, iv p5, iv (2 : Int32), iv kk, rv a1, rv a4, rv a9, rv a16, rv a25, rv a36, rv a105, iv (2 : Int32), rv a4, rv a4, rv a1, rv a1, iv (0 : Int32), rv a25, .unset, .unset, .unset]) rfl k) ?_
      refine own_go (B := (T397.setTop (mkF m 255 #[iv p0, iv p1, iv p2, iv p3, iv p4, iv p5, iv (2 : Int32), iv kk, rv a1, rv a4, rv a9, rv a16, rv a25, rv a36, rv a105, iv (2 : Int32), rv a4, rv a4, rv a1, rv a1, iv (0 : Int32), rv a25, .unset, .unset, .unset] [(.int (2 : Int32))]))) (fun t k => XS.iload X397.here hx rfl (hb hby at_253) rfl k) ?_
      have hc255 : (0 : Int32) < (2 : Int32) := (by decide)
      refine own_ifN X397 hx (hb hby at_255) (pn := 258) rfl hc255 ?_
      refine own_go (B := (T397.setTop (mkF m 260 #[iv p0, iv p1, iv p2, iv p3, iv p4, iv p5, iv (2 : Int32), iv kk, rv a1, rv a4, rv a9, rv a16, rv a25, rv a36, rv a105, iv (2 : Int32), rv a4, rv a4, rv a1, rv a1, iv (0 : Int32), rv a25, .unset, .unset, .unset] [(.ref a25)]))) (fun t k => XS.aload X397.here hx rfl (hb hby at_258) rfl rfl k) ?_
      refine own_go (B := (T397.setTop (mkF m 264 #[iv p0, iv p1, iv p2, iv p3, iv p4, iv p5, iv (2 : Int32), iv kk, rv a1, rv a4, rv a9, rv a16, rv a25, rv a36, rv a105, iv (2 : Int32), rv a4, rv a4, rv a1, rv a1, iv (0 : Int32), rv a25, .unset, .unset, .unset] [(.ref a25)]))) (fun t k => XS.goto X397.here hx rfl (pc0 := 260) (pc' := 264) rfl (hb hby at_260) (by decide) (by decide) k) ?_
      refine own_go (B := (T397.setTop (mkF m 266 #[iv p0, iv p1, iv p2, iv p3, iv p4, iv p5, iv (2 : Int32), iv kk, rv a1, rv a4, rv a9, rv a16, rv a25, rv a36, rv a105, iv (2 : Int32), rv a4, rv a4, rv a1, rv a1, iv (0 : Int32), rv a25, rv a25, .unset, .unset] []))) (fun t k => XS.astore X397.here hx rfl (hb hby at_264) rfl rfl (l' := #[iv p0, iv p1, iv p2, iv p3, iv p4, iv p5, iv (2 : Int32), iv kk, rv a1, rv a4, rv a9, rv a16, rv a25, rv a36, rv a105, iv (2 : Int32), rv a4, rv a4, rv a1, rv a1, iv (0 : Int32), rv a25, rv a25, .unset, .unset]) rfl k) ?_
      refine own_go (B := (T397.setTop (mkF m 268 #[iv p0, iv p1, iv p2, iv p3, iv p4, iv p5, iv (2 : Int32), iv kk, rv a1, rv a4, rv a9, rv a16, rv a25, rv a36, rv a105, iv (2 : Int32), rv a4, rv a4, rv a1, rv a1, iv (0 : Int32), rv a25, rv a25, .unset, .unset] [(.ref a25)]))) (fun t k => XS.aload X397.here hx rfl (hb hby at_266) rfl rfl k) ?_
      refine own_go (B := (T397.setTop (mkF m 270 #[iv p0, iv p1, iv p2, iv p3, iv p4, iv p5, iv (2 : Int32), iv kk, rv a1, rv a4, rv a9, rv a16, rv a25, rv a36, rv a105, iv (2 : Int32), rv a4, rv a4, rv a1, rv a1, iv (0 : Int32), rv a25, rv a25, .unset, .unset] [(.ref a25), (.ref a25)]))) (fun t k => XS.aload X397.here hx rfl (hb hby at_268) rfl rfl k) ?_
      obtain ⟨_, _, ⟨T398, L398, k398, n398⟩, -, X398, ⟨Lc398, hQ398, l398, y398, z398⟩, st398⟩ := Jvm.LawKit.callS X397 hx (y := own_y7) hown (mvT hZ w_34) (mvT hZ w_35) (mvT hZ w_36) (mvT hZ w_37) (by decide) (backOf (W := 0) (own_same1 l Z a0 hw [] a25 a25 p5 T388.heap n0 (own_Bn_exa F393 (List.mem_of_getElem? (i := 4) rfl)) (own_Bn_fld F393 (List.mem_of_getElem? (i := 4) rfl)) (own_Bn_exa F393 (List.mem_of_getElem? (i := 4) rfl)) (own_Bn_fld F393 (List.mem_of_getElem? (i := 4) rfl))) hZ w_37 w_36 (by decide) (by decide)) (g := (mkF m 270 #[iv p0, iv p1, iv p2, iv p3, iv p4, iv p5, iv (2 : Int32), iv kk, rv a1, rv a4, rv a9, rv a16, rv a25, rv a36, rv a105, iv (2 : Int32), rv a4, rv a4, rv a1, rv a1, iv (0 : Int32), rv a25, rv a25, .unset, .unset] [(.ref a25), (.ref a25)])) rfl (by rw [hml]; rfl) (argsL := [(.ref a25), (.ref a25)]) (rest := []) (lenOf own_pd6 rfl) rfl (by show 2 * 0 + _ ≤ _; exact own_b rfl) (hb hby at_270) (fun _ _ => ⟨rfl, e397, (own_b rfl : 8 + 0 ≤ _), (own_b rfl : 14 + 0 ≤ _)⟩)
      dsimp only [Pt.U, Pt.locs, Pt.cells, Pt.slots] at X398 l398 y398 z398 st398 hQ398
      obtain ⟨rfl, Nq398, eq398⟩ := hQ398
      obtain ⟨L398, X398, N398⟩ := own_absC (K := 8) (K' := 14) X398 l398 y398 z398 N388 Nq398
      have e398 : T398.heap = T388.heap := eq398
      refine own_go (B := (T398.setTop (mkF m 273 #[iv p0, iv p1, iv p2, iv p3, iv p4, iv p5, iv (2 : Int32), iv kk, rv a1, rv a4, rv a9, rv a16, rv a25, rv a36, rv a105, iv (2 : Int32), rv a4, rv a4, rv a1, rv a1, iv (0 : Int32), rv a25, rv a25, .unset, .unset] [(.int (1 : Int32))]))) st398 ?_
      have hc273 : ¬ (1 : Int32) = (0 : Int32) := (by decide)
      refine own_ifY X398 hx (hb hby at_273) (pc' := 278) (by decide) (by decide) hc273 ?_
      refine own_go (B := (T398.setTop (mkF m 280 #[iv p0, iv p1, iv p2, iv p3, iv p4, iv p5, iv (2 : Int32), iv kk, rv a1, rv a4, rv a9, rv a16, rv a25, rv a36, rv a105, iv (2 : Int32), rv a4, rv a4, rv a1, rv a1, iv (0 : Int32), rv a25, rv a25, .unset, .unset] [(.ref a105)]))) (fun t k => XS.aload X398.here hx rfl (hb hby at_278) rfl rfl k) ?_
      obtain ⟨cq399, kq399, qa399, qb399, qc399⟩ := isOf hZ e398 Ex388
      obtain ⟨_, _, ⟨T399, L399, k399, n399⟩, -, X399, ⟨Lc399, hQ399, l399, y399, z399⟩, st399⟩ := X398.virtualBack hx (y := own_y6) (z := own_y6) hown (mvT hZ w_27) (mvT hZ w_28) (notFace_of_selects (args := #[]) (mvT hZ w_30)) (mvT hZ w_30) (mvT hZ w_29) (by decide) (backOf (W := 0) (own_tnone l Z a0 hw [] a105 T388.heap n0 gc388) hZ w_31 w_12 (by decide) (by decide)) qa399 qc399 (g := (mkF m 280 #[iv p0, iv p1, iv p2, iv p3, iv p4, iv p5, iv (2 : Int32), iv kk, rv a1, rv a4, rv a9, rv a16, rv a25, rv a36, rv a105, iv (2 : Int32), rv a4, rv a4, rv a1, rv a1, iv (0 : Int32), rv a25, rv a25, .unset, .unset] [(.ref a105)])) rfl (by rw [hml]; rfl) (Steps.refl _) (argsL := []) (rest := []) (lenOf own_pd5 rfl) rfl (by show 2 * 0 + _ ≤ _; exact own_b rfl) (hb hby at_280) (fun _ _ => ⟨rfl, e398, (own_b rfl : 8 + 0 ≤ _), (own_b rfl : 14 + 0 ≤ _)⟩)
      dsimp only [Pt.U, Pt.locs, Pt.cells, Pt.slots] at X399 l399 y399 z399 st399 hQ399
      obtain ⟨rfl, Nq399, eq399⟩ := hQ399
      obtain ⟨L399, X399, N399⟩ := own_absC (K := 8) (K' := 14) X399 l399 y399 z399 N398 Nq399
      have e399 : T399.heap = T388.heap := eq399
      refine own_tr (B := (T399.setTop (mkF m 283 #[iv p0, iv p1, iv p2, iv p3, iv p4, iv p5, iv (2 : Int32), iv kk, rv a1, rv a4, rv a9, rv a16, rv a25, rv a36, rv a105, iv (2 : Int32), rv a4, rv a4, rv a1, rv a1, iv (0 : Int32), rv a25, rv a25, .unset, .unset] [.null]))) st399 ?_
      refine own_go (B := (T399.setTop (mkF m 286 #[iv p0, iv p1, iv p2, iv p3, iv p4, iv p5, iv (2 : Int32), iv kk, rv a1, rv a4, rv a9, rv a16, rv a25, rv a36, rv a105, iv (2 : Int32), rv a4, rv a4, rv a1, rv a1, iv (0 : Int32), rv a25, rv a25, .unset, .unset] [.null]))) (X399.checkcastNull hx (g := (mkF m 283 #[iv p0, iv p1, iv p2, iv p3, iv p4, iv p5, iv (2 : Int32), iv kk, rv a1, rv a4, rv a9, rv a16, rv a25, rv a36, rv a105, iv (2 : Int32), rv a4, rv a4, rv a1, rv a1, iv (0 : Int32), rv a25, rv a25, .unset, .unset] [.null])) rfl rfl (hb hby at_283)) ?_
      refine own_go (B := (T399.setTop (mkF m 288 #[iv p0, iv p1, iv p2, iv p3, iv p4, iv p5, iv (2 : Int32), iv kk, rv a1, rv a4, rv a9, rv a16, rv a25, rv a36, rv a105, iv (2 : Int32), rv a4, rv a4, rv a1, rv a1, iv (0 : Int32), rv a25, rv a25, .val .null, .unset] []))) (fun t k => XS.astore X399.here hx rfl (hb hby at_286) rfl rfl (l' := #[iv p0, iv p1, iv p2, iv p3, iv p4, iv p5, iv (2 : Int32), iv kk, rv a1, rv a4, rv a9, rv a16, rv a25, rv a36, rv a105, iv (2 : Int32), rv a4, rv a4, rv a1, rv a1, iv (0 : Int32), rv a25, rv a25, .val .null, .unset]) rfl k) ?_
      refine own_go (B := (T399.setTop (mkF m 290 #[iv p0, iv p1, iv p2, iv p3, iv p4, iv p5, iv (2 : Int32), iv kk, rv a1, rv a4, rv a9, rv a16, rv a25, rv a36, rv a105, iv (2 : Int32), rv a4, rv a4, rv a1, rv a1, iv (0 : Int32), rv a25, rv a25, .val .null, .unset] [(.int (0 : Int32))]))) (fun t k => XS.iload X399.here hx rfl (hb hby at_288) rfl k) ?_
      refine own_go (B := (T399.setTop (mkF m 291 #[iv p0, iv p1, iv p2, iv p3, iv p4, iv p5, iv (2 : Int32), iv kk, rv a1, rv a4, rv a9, rv a16, rv a25, rv a36, rv a105, iv (2 : Int32), rv a4, rv a4, rv a1, rv a1, iv (0 : Int32), rv a25, rv a25, .val .null, .unset] [(.int (1 : Int32)), (.int (0 : Int32))]))) (fun t k => own_iconst (v := (1 : Int32)) X399.here hx rfl (hb hby at_290) (by decide) k) ?_
      have hc291 : (0 : Int32) < (1 : Int32) := (by decide)
      refine own_icmpY X399 hx (hb hby at_291) (pc' := 304) (by decide) (by decide) hc291 ?_
      refine own_go (B := (T399.setTop (mkF m 305 #[iv p0, iv p1, iv p2, iv p3, iv p4, iv p5, iv (2 : Int32), iv kk, rv a1, rv a4, rv a9, rv a16, rv a25, rv a36, rv a105, iv (2 : Int32), rv a4, rv a4, rv a1, rv a1, iv (0 : Int32), rv a25, rv a25, .val .null, .unset] [.null]))) (fun t k => XS.aconstNull X399.here hx rfl (hb hby at_304) k) ?_
      refine own_go (B := (T399.setTop (mkF m 307 #[iv p0, iv p1, iv p2, iv p3, iv p4, iv p5, iv (2 : Int32), iv kk, rv a1, rv a4, rv a9, rv a16, rv a25, rv a36, rv a105, iv (2 : Int32), rv a4, rv a4, rv a1, rv a1, iv (0 : Int32), rv a25, rv a25, .val .null, .val .null] []))) (fun t k => XS.astore X399.here hx rfl (hb hby at_305) rfl rfl (l' := #[iv p0, iv p1, iv p2, iv p3, iv p4, iv p5, iv (2 : Int32), iv kk, rv a1, rv a4, rv a9, rv a16, rv a25, rv a36, rv a105, iv (2 : Int32), rv a4, rv a4, rv a1, rv a1, iv (0 : Int32), rv a25, rv a25, .val .null, .val .null]) rfl k) ?_
      refine own_go (B := (T399.setTop (mkF m 309 #[iv p0, iv p1, iv p2, iv p3, iv p4, iv p5, iv (2 : Int32), iv kk, rv a1, rv a4, rv a9, rv a16, rv a25, rv a36, rv a105, iv (2 : Int32), rv a4, rv a4, rv a1, rv a1, iv (0 : Int32), rv a25, rv a25, .val .null, .val .null] [.null]))) (fun t k => XS.aload X399.here hx rfl (hb hby at_307) rfl rfl k) ?_
      refine own_go (B := (T399.setTop (mkF m 311 #[iv p0, iv p1, iv p2, iv p3, iv p4, iv p5, iv (2 : Int32), iv kk, rv a1, rv a4, rv a9, rv a16, rv a25, rv a36, rv a105, iv (2 : Int32), rv a4, rv a4, rv a1, rv a1, iv (0 : Int32), rv a25, rv a25, .val .null, .val .null] [.null, .null]))) (fun t k => XS.aload X399.here hx rfl (hb hby at_309) rfl rfl k) ?_
      obtain ⟨_, _, ⟨T401, L401, k401, n401⟩, -, X401, ⟨Lc401, hQ401, l401, y401, z401⟩, st401⟩ := Jvm.LawKit.callS X399 hx (y := own_y7) hown (mvT hZ w_34) (mvT hZ w_35) (mvT hZ w_36) (mvT hZ w_37) (by decide) (backOf (W := 0) (own_same0 l Z a0 hw [] T388.heap n0) hZ w_37 w_36 (by decide) (by decide)) (g := (mkF m 311 #[iv p0, iv p1, iv p2, iv p3, iv p4, iv p5, iv (2 : Int32), iv kk, rv a1, rv a4, rv a9, rv a16, rv a25, rv a36, rv a105, iv (2 : Int32), rv a4, rv a4, rv a1, rv a1, iv (0 : Int32), rv a25, rv a25, .val .null, .val .null] [.null, .null])) rfl (by rw [hml]; rfl) (argsL := [.null, .null]) (rest := []) (lenOf own_pd6 rfl) rfl (by show 2 * 0 + _ ≤ _; exact own_b rfl) (hb hby at_311) (fun _ _ => ⟨rfl, e399, (own_b rfl : 8 + 0 ≤ _), (own_b rfl : 14 + 0 ≤ _)⟩)
      dsimp only [Pt.U, Pt.locs, Pt.cells, Pt.slots] at X401 l401 y401 z401 st401 hQ401
      obtain ⟨rfl, Nq401, eq401⟩ := hQ401
      obtain ⟨L401, X401, N401⟩ := own_absC (K := 8) (K' := 14) X401 l401 y401 z401 N399 Nq401
      have e401 : T401.heap = T388.heap := eq401
      refine own_go (B := (T401.setTop (mkF m 314 #[iv p0, iv p1, iv p2, iv p3, iv p4, iv p5, iv (2 : Int32), iv kk, rv a1, rv a4, rv a9, rv a16, rv a25, rv a36, rv a105, iv (2 : Int32), rv a4, rv a4, rv a1, rv a1, iv (0 : Int32), rv a25, rv a25, .val .null, .val .null] [(.int (1 : Int32))]))) st401 ?_
      exact own_retZ X401 hx hlk Bd.returns (hb hby at_314) (by decide) (own_b rfl) (own_b rfl) (Q := (own_law_Q Z p0 p1 p2 p3 p4 p5 ca h0 n0)) ⟨rfl, N401⟩
    rcases own_c5 hz13 with rfl | rfl | rfl | rfl | rfl
    · refine own_go (B := (T121.setTop (mkF m 86 #[iv p0, iv p1, iv p2, iv p3, iv p4, iv p5, iv (2 : Int32), iv (0 : Int32), rv a1, rv a4, rv a9, rv a16, rv a25, rv a36, rv a105, .unset, .unset, .unset, .unset, .unset, .unset, .unset, .unset, .unset, .unset] [(.int (0 : Int32))]))) (fun t k => XS.iload X121.here hx rfl (hb hby at_84) rfl k) ?_
      have hc86 : ¬ (0 : Int32) < (0 : Int32) := (by decide)
      refine own_ifY X121 hx (hb hby at_86) (pc' := 96) (by decide) (by decide) hc86 ?_
      refine own_go (B := (T121.setTop (mkF m 98 #[iv p0, iv p1, iv p2, iv p3, iv p4, iv p5, iv (2 : Int32), iv (0 : Int32), rv a1, rv a4, rv a9, rv a16, rv a25, rv a36, rv a105, .unset, .unset, .unset, .unset, .unset, .unset, .unset, .unset, .unset, .unset] [(.int (0 : Int32))]))) (fun t k => XS.iload X121.here hx rfl (hb hby at_96) rfl k) ?_
      refine own_go (B := (T121.setTop (mkF m 99 #[iv p0, iv p1, iv p2, iv p3, iv p4, iv p5, iv (2 : Int32), iv (0 : Int32), rv a1, rv a4, rv a9, rv a16, rv a25, rv a36, rv a105, .unset, .unset, .unset, .unset, .unset, .unset, .unset, .unset, .unset, .unset] [(.int (1 : Int32)), (.int (0 : Int32))]))) (fun t k => own_iconst (v := (1 : Int32)) X121.here hx rfl (hb hby at_98) (by decide) k) ?_
      have hc99 : ¬ (1 : Int32) < (0 : Int32) := (by decide)
      refine own_icmpY X121 hx (hb hby at_99) (pc' := 109) (by decide) (by decide) hc99 ?_
      refine own_go (B := (T121.setTop (mkF m 111 #[iv p0, iv p1, iv p2, iv p3, iv p4, iv p5, iv (2 : Int32), iv (0 : Int32), rv a1, rv a4, rv a9, rv a16, rv a25, rv a36, rv a105, .unset, .unset, .unset, .unset, .unset, .unset, .unset, .unset, .unset, .unset] [(.int (0 : Int32))]))) (fun t k => XS.iload X121.here hx rfl (hb hby at_109) rfl k) ?_
      refine own_go (B := (T121.setTop (mkF m 112 #[iv p0, iv p1, iv p2, iv p3, iv p4, iv p5, iv (2 : Int32), iv (0 : Int32), rv a1, rv a4, rv a9, rv a16, rv a25, rv a36, rv a105, .unset, .unset, .unset, .unset, .unset, .unset, .unset, .unset, .unset, .unset] [(.int (2 : Int32)), (.int (0 : Int32))]))) (fun t k => own_iconst (v := (2 : Int32)) X121.here hx rfl (hb hby at_111) (by decide) k) ?_
      have hc112 : ¬ (2 : Int32) < (0 : Int32) := (by decide)
      refine own_icmpY X121 hx (hb hby at_112) (pc' := 122) (by decide) (by decide) hc112 ?_
      refine own_go (B := (T121.setTop (mkF m 124 #[iv p0, iv p1, iv p2, iv p3, iv p4, iv p5, iv (2 : Int32), iv (0 : Int32), rv a1, rv a4, rv a9, rv a16, rv a25, rv a36, rv a105, .unset, .unset, .unset, .unset, .unset, .unset, .unset, .unset, .unset, .unset] [(.int (0 : Int32))]))) (fun t k => XS.iload X121.here hx rfl (hb hby at_122) rfl k) ?_
      refine own_go (B := (T121.setTop (mkF m 125 #[iv p0, iv p1, iv p2, iv p3, iv p4, iv p5, iv (2 : Int32), iv (0 : Int32), rv a1, rv a4, rv a9, rv a16, rv a25, rv a36, rv a105, .unset, .unset, .unset, .unset, .unset, .unset, .unset, .unset, .unset, .unset] [(.int (3 : Int32)), (.int (0 : Int32))]))) (fun t k => own_iconst (v := (3 : Int32)) X121.here hx rfl (hb hby at_124) (by decide) k) ?_
      have hc125 : ¬ (3 : Int32) < (0 : Int32) := (by decide)
      refine own_icmpY X121 hx (hb hby at_125) (pc' := 135) (by decide) (by decide) hc125 ?_
      refine own_go (B := (T121.setTop (mkF m 137 #[iv p0, iv p1, iv p2, iv p3, iv p4, iv p5, iv (2 : Int32), iv (0 : Int32), rv a1, rv a4, rv a9, rv a16, rv a25, rv a36, rv a105, .unset, .unset, .unset, .unset, .unset, .unset, .unset, .unset, .unset, .unset] [(.int (0 : Int32))]))) (fun t k => XS.iload X121.here hx rfl (hb hby at_135) rfl k) ?_
      refine own_go (B := (T121.setTop (mkF m 139 #[iv p0, iv p1, iv p2, iv p3, iv p4, iv p5, iv (2 : Int32), iv (0 : Int32), rv a1, rv a4, rv a9, rv a16, rv a25, rv a36, rv a105, .unset, .unset, .unset, .unset, .unset, .unset, .unset, .unset, .unset, .unset] [(.int (2 : Int32)), (.int (0 : Int32))]))) (fun t k => XS.iload X121.here hx rfl (hb hby at_137) rfl k) ?_
      obtain ⟨_, _, ⟨T402, L402, k402, n402⟩, -, X402, ⟨Lc402, hQ402, l402, y402, z402⟩, st402⟩ := Jvm.LawKit.callS X121 hx (y := own_y10) hown (mvT hZ w_23) (mvT hZ w_24) (mvT hZ w_25) (mvT hZ w_26) (by decide) (backOf (W := 0) (own_mmin l Z a0 hw [] (0 : Int32) (2 : Int32) T121.heap n0) hZ w_26 w_25 (by decide) (by decide)) (g := (mkF m 139 #[iv p0, iv p1, iv p2, iv p3, iv p4, iv p5, iv (2 : Int32), iv (0 : Int32), rv a1, rv a4, rv a9, rv a16, rv a25, rv a36, rv a105, .unset, .unset, .unset, .unset, .unset, .unset, .unset, .unset, .unset, .unset] [(.int (2 : Int32)), (.int (0 : Int32))])) rfl (by rw [hml]; rfl) (argsL := [(.int (0 : Int32)), (.int (2 : Int32))]) (rest := []) (lenOf own_pd7 rfl) rfl (by show 2 * 0 + _ ≤ _; exact own_b rfl) (hb hby at_139) (fun _ _ => ⟨rfl, rfl, (own_b rfl : 8 + 0 ≤ _), (own_b rfl : 14 + 0 ≤ _)⟩)
      dsimp only [Pt.U, Pt.locs, Pt.cells, Pt.slots] at X402 l402 y402 z402 st402 hQ402
      obtain ⟨rfl, Nq402, eq402⟩ := hQ402
      obtain ⟨L402, X402, N402⟩ := own_absC (K := 8) (K' := 14) X402 l402 y402 z402 N121 Nq402
      have e402 : T402.heap = T121.heap := eq402
      refine own_go (B := (T402.setTop (mkF m 142 #[iv p0, iv p1, iv p2, iv p3, iv p4, iv p5, iv (2 : Int32), iv (0 : Int32), rv a1, rv a4, rv a9, rv a16, rv a25, rv a36, rv a105, .unset, .unset, .unset, .unset, .unset, .unset, .unset, .unset, .unset, .unset] [(.int (own_min (0 : Int32) (2 : Int32)))]))) st402 ?_
      rw [show own_min (0 : Int32) (2 : Int32) = (0 : Int32) from by decide]
      refine own_go (B := (T402.setTop (mkF m 144 #[iv p0, iv p1, iv p2, iv p3, iv p4, iv p5, iv (2 : Int32), iv (0 : Int32), rv a1, rv a4, rv a9, rv a16, rv a25, rv a36, rv a105, iv (0 : Int32), .unset, .unset, .unset, .unset, .unset, .unset, .unset, .unset, .unset] []))) (fun t k => XS.istore X402.here hx rfl (hb hby at_142) rfl (l' := #[iv p0, iv p1, iv p2, iv p3, iv p4, iv p5, iv (2 : Int32), iv (0 : Int32), rv a1, rv a4, rv a9, rv a16, rv a25, rv a36, rv a105, iv (0 : Int32), .unset, .unset, .unset, .unset, .unset, .unset, .unset, .unset, .unset]) rfl k) ?_
      exact J0 T402 _ T121.heap X402 e402 N402 F122 F123 F134 Ex121 gk121 gc121 Vb BB _
    · refine own_go (B := (T121.setTop (mkF m 86 #[iv p0, iv p1, iv p2, iv p3, iv p4, iv p5, iv (2 : Int32), iv (1 : Int32), rv a1, rv a4, rv a9, rv a16, rv a25, rv a36, rv a105, .unset, .unset, .unset, .unset, .unset, .unset, .unset, .unset, .unset, .unset] [(.int (1 : Int32))]))) (fun t k => XS.iload X121.here hx rfl (hb hby at_84) rfl k) ?_
      have hc86 : (0 : Int32) < (1 : Int32) := (by decide)
      refine own_ifN X121 hx (hb hby at_86) (pn := 89) rfl hc86 ?_
      refine own_go (B := (T121.setTop (mkF m 91 #[iv p0, iv p1, iv p2, iv p3, iv p4, iv p5, iv (2 : Int32), iv (1 : Int32), rv a1, rv a4, rv a9, rv a16, rv a25, rv a36, rv a105, .unset, .unset, .unset, .unset, .unset, .unset, .unset, .unset, .unset, .unset] [(.ref a105)]))) (fun t k => XS.aload X121.here hx rfl (hb hby at_89) rfl rfl k) ?_
      refine own_go (B := (T121.setTop (mkF m 93 #[iv p0, iv p1, iv p2, iv p3, iv p4, iv p5, iv (2 : Int32), iv (1 : Int32), rv a1, rv a4, rv a9, rv a16, rv a25, rv a36, rv a105, .unset, .unset, .unset, .unset, .unset, .unset, .unset, .unset, .unset, .unset] [(.ref a1), (.ref a105)]))) (fun t k => XS.aload X121.here hx rfl (hb hby at_91) rfl rfl k) ?_
      obtain ⟨cq403, kq403, qa403, qb403, qc403⟩ := isOf hZ rfl Ex121
      obtain ⟨_, _, ⟨T403, L403, k403, n403⟩, -, X403, ⟨Lc403, hQ403, l403, y403, z403⟩, st403⟩ := X121.virtualBack hx (y := own_y9) (z := own_y9) hown (mvT hZ w_41) (mvT hZ w_42) (notFace_of_selects (args := #[]) (mvT hZ w_44)) (mvT hZ w_44) (mvT hZ w_43) (by decide) (backOf (W := 0) (own_kone l Z a0 hw [] a105 a1 ar121 (0 : Int32) (2 : Int32) (1 : Int32) [.null, .null] [(.ref a1), .null] T121.heap n0 Ex121 gk121 gc121 Vb F122 gn105 gn_ar121 ne_ar121_a105 (own_lenL (n := 2) rfl (by decide)) (by decide) (by decide) (Nat.lt_of_lt_of_eq (by decide : _ < 2) rfl) (by decide) (Ins.of_exa (own_Bn_exa BB (List.mem_of_getElem? (i := 0) rfl)) w_60) rfl) hZ w_45 w_12 (by decide) (by decide)) qa403 qc403 (g := (mkF m 93 #[iv p0, iv p1, iv p2, iv p3, iv p4, iv p5, iv (2 : Int32), iv (1 : Int32), rv a1, rv a4, rv a9, rv a16, rv a25, rv a36, rv a105, .unset, .unset, .unset, .unset, .unset, .unset, .unset, .unset, .unset, .unset] [(.ref a1), (.ref a105)])) rfl (by rw [hml]; rfl) (Steps.refl _) (argsL := [(.ref a1)]) (rest := []) (lenOf own_pd8 rfl) rfl (by show 2 * 0 + _ ≤ _; exact own_b rfl) (hb hby at_93) (fun _ _ => ⟨rfl, rfl, (own_b rfl : 8 + 0 ≤ _), (own_b rfl : 14 + 0 ≤ _)⟩)
      dsimp only [Pt.U, Pt.locs, Pt.cells, Pt.slots] at X403 l403 y403 z403 st403 hQ403
      obtain ⟨rfl, Nq403, K403, Ex403, gk403, gc403, gv403⟩ := hQ403
      obtain ⟨L403, X403, N403⟩ := own_absC (K := 8) (K' := 14) X403 l403 y403 z403 N121 Nq403
      have F404 : n0 ≤ T403.heap.size := Nat.le_trans F122 K403.1
      have F405 := Keep.trans F123 K403 (allS (Or.inr (Nat.le_trans F93.1 (Nat.le_of_eq ga105.symm))) (allS (Or.inr (Nat.le_trans K107.1 gz121)) all0))
      have F406 := own_Ao_keep F134 K403 (ninS (Ne.symm ne105_a36) (ninS (Ne.symm ne_ar121_a36) nin0))
      have F407 := Exa.keep Ex121 K403
      have F411 := own_Bn_keep BB K403 hbq
      refine own_tr (B := (T403.setTop (mkF m 96 #[iv p0, iv p1, iv p2, iv p3, iv p4, iv p5, iv (2 : Int32), iv (1 : Int32), rv a1, rv a4, rv a9, rv a16, rv a25, rv a36, rv a105, .unset, .unset, .unset, .unset, .unset, .unset, .unset, .unset, .unset, .unset] []))) st403 ?_
      refine own_go (B := (T403.setTop (mkF m 98 #[iv p0, iv p1, iv p2, iv p3, iv p4, iv p5, iv (2 : Int32), iv (1 : Int32), rv a1, rv a4, rv a9, rv a16, rv a25, rv a36, rv a105, .unset, .unset, .unset, .unset, .unset, .unset, .unset, .unset, .unset, .unset] [(.int (1 : Int32))]))) (fun t k => XS.iload X403.here hx rfl (hb hby at_96) rfl k) ?_
      refine own_go (B := (T403.setTop (mkF m 99 #[iv p0, iv p1, iv p2, iv p3, iv p4, iv p5, iv (2 : Int32), iv (1 : Int32), rv a1, rv a4, rv a9, rv a16, rv a25, rv a36, rv a105, .unset, .unset, .unset, .unset, .unset, .unset, .unset, .unset, .unset, .unset] [(.int (1 : Int32)), (.int (1 : Int32))]))) (fun t k => own_iconst (v := (1 : Int32)) X403.here hx rfl (hb hby at_98) (by decide) k) ?_
      have hc99 : ¬ (1 : Int32) < (1 : Int32) := (by decide)
      refine own_icmpY X403 hx (hb hby at_99) (pc' := 109) (by decide) (by decide) hc99 ?_
      refine own_go (B := (T403.setTop (mkF m 111 #[iv p0, iv p1, iv p2, iv p3, iv p4, iv p5, iv (2 : Int32), iv (1 : Int32), rv a1, rv a4, rv a9, rv a16, rv a25, rv a36, rv a105, .unset, .unset, .unset, .unset, .unset, .unset, .unset, .unset, .unset, .unset] [(.int (1 : Int32))]))) (fun t k => XS.iload X403.here hx rfl (hb hby at_109) rfl k) ?_
      refine own_go (B := (T403.setTop (mkF m 112 #[iv p0, iv p1, iv p2, iv p3, iv p4, iv p5, iv (2 : Int32), iv (1 : Int32), rv a1, rv a4, rv a9, rv a16, rv a25, rv a36, rv a105, .unset, .unset, .unset, .unset, .unset, .unset, .unset, .unset, .unset, .unset] [(.int (2 : Int32)), (.int (1 : Int32))]))) (fun t k => own_iconst (v := (2 : Int32)) X403.here hx rfl (hb hby at_111) (by decide) k) ?_
      have hc112 : ¬ (2 : Int32) < (1 : Int32) := (by decide)
      refine own_icmpY X403 hx (hb hby at_112) (pc' := 122) (by decide) (by decide) hc112 ?_
      refine own_go (B := (T403.setTop (mkF m 124 #[iv p0, iv p1, iv p2, iv p3, iv p4, iv p5, iv (2 : Int32), iv (1 : Int32), rv a1, rv a4, rv a9, rv a16, rv a25, rv a36, rv a105, .unset, .unset, .unset, .unset, .unset, .unset, .unset, .unset, .unset, .unset] [(.int (1 : Int32))]))) (fun t k => XS.iload X403.here hx rfl (hb hby at_122) rfl k) ?_
      refine own_go (B := (T403.setTop (mkF m 125 #[iv p0, iv p1, iv p2, iv p3, iv p4, iv p5, iv (2 : Int32), iv (1 : Int32), rv a1, rv a4, rv a9, rv a16, rv a25, rv a36, rv a105, .unset, .unset, .unset, .unset, .unset, .unset, .unset, .unset, .unset, .unset] [(.int (3 : Int32)), (.int (1 : Int32))]))) (fun t k => own_iconst (v := (3 : Int32)) X403.here hx rfl (hb hby at_124) (by decide) k) ?_
      have hc125 : ¬ (3 : Int32) < (1 : Int32) := (by decide)
      refine own_icmpY X403 hx (hb hby at_125) (pc' := 135) (by decide) (by decide) hc125 ?_
      refine own_go (B := (T403.setTop (mkF m 137 #[iv p0, iv p1, iv p2, iv p3, iv p4, iv p5, iv (2 : Int32), iv (1 : Int32), rv a1, rv a4, rv a9, rv a16, rv a25, rv a36, rv a105, .unset, .unset, .unset, .unset, .unset, .unset, .unset, .unset, .unset, .unset] [(.int (1 : Int32))]))) (fun t k => XS.iload X403.here hx rfl (hb hby at_135) rfl k) ?_
      refine own_go (B := (T403.setTop (mkF m 139 #[iv p0, iv p1, iv p2, iv p3, iv p4, iv p5, iv (2 : Int32), iv (1 : Int32), rv a1, rv a4, rv a9, rv a16, rv a25, rv a36, rv a105, .unset, .unset, .unset, .unset, .unset, .unset, .unset, .unset, .unset, .unset] [(.int (2 : Int32)), (.int (1 : Int32))]))) (fun t k => XS.iload X403.here hx rfl (hb hby at_137) rfl k) ?_
      obtain ⟨_, _, ⟨T412, L412, k412, n412⟩, -, X412, ⟨Lc412, hQ412, l412, y412, z412⟩, st412⟩ := Jvm.LawKit.callS X403 hx (y := own_y10) hown (mvT hZ w_23) (mvT hZ w_24) (mvT hZ w_25) (mvT hZ w_26) (by decide) (backOf (W := 0) (own_mmin l Z a0 hw [] (1 : Int32) (2 : Int32) T403.heap n0) hZ w_26 w_25 (by decide) (by decide)) (g := (mkF m 139 #[iv p0, iv p1, iv p2, iv p3, iv p4, iv p5, iv (2 : Int32), iv (1 : Int32), rv a1, rv a4, rv a9, rv a16, rv a25, rv a36, rv a105, .unset, .unset, .unset, .unset, .unset, .unset, .unset, .unset, .unset, .unset] [(.int (2 : Int32)), (.int (1 : Int32))])) rfl (by rw [hml]; rfl) (argsL := [(.int (1 : Int32)), (.int (2 : Int32))]) (rest := []) (lenOf own_pd7 rfl) rfl (by show 2 * 0 + _ ≤ _; exact own_b rfl) (hb hby at_139) (fun _ _ => ⟨rfl, rfl, (own_b rfl : 8 + 0 ≤ _), (own_b rfl : 14 + 0 ≤ _)⟩)
      dsimp only [Pt.U, Pt.locs, Pt.cells, Pt.slots] at X412 l412 y412 z412 st412 hQ412
      obtain ⟨rfl, Nq412, eq412⟩ := hQ412
      obtain ⟨L412, X412, N412⟩ := own_absC (K := 8) (K' := 14) X412 l412 y412 z412 N403 Nq412
      have e412 : T412.heap = T403.heap := eq412
      refine own_go (B := (T412.setTop (mkF m 142 #[iv p0, iv p1, iv p2, iv p3, iv p4, iv p5, iv (2 : Int32), iv (1 : Int32), rv a1, rv a4, rv a9, rv a16, rv a25, rv a36, rv a105, .unset, .unset, .unset, .unset, .unset, .unset, .unset, .unset, .unset, .unset] [(.int (own_min (1 : Int32) (2 : Int32)))]))) st412 ?_
      rw [show own_min (1 : Int32) (2 : Int32) = (1 : Int32) from by decide]
      refine own_go (B := (T412.setTop (mkF m 144 #[iv p0, iv p1, iv p2, iv p3, iv p4, iv p5, iv (2 : Int32), iv (1 : Int32), rv a1, rv a4, rv a9, rv a16, rv a25, rv a36, rv a105, iv (1 : Int32), .unset, .unset, .unset, .unset, .unset, .unset, .unset, .unset, .unset] []))) (fun t k => XS.istore X412.here hx rfl (hb hby at_142) rfl (l' := #[iv p0, iv p1, iv p2, iv p3, iv p4, iv p5, iv (2 : Int32), iv (1 : Int32), rv a1, rv a4, rv a9, rv a16, rv a25, rv a36, rv a105, iv (1 : Int32), .unset, .unset, .unset, .unset, .unset, .unset, .unset, .unset, .unset]) rfl k) ?_
      exact J1 T412 _ T403.heap X412 e412 N412 F404 F405 F406 Ex403 gk403 gc403 gv403 F411 _
    · refine own_go (B := (T121.setTop (mkF m 86 #[iv p0, iv p1, iv p2, iv p3, iv p4, iv p5, iv (2 : Int32), iv (2 : Int32), rv a1, rv a4, rv a9, rv a16, rv a25, rv a36, rv a105, .unset, .unset, .unset, .unset, .unset, .unset, .unset, .unset, .unset, .unset] [(.int (2 : Int32))]))) (fun t k => XS.iload X121.here hx rfl (hb hby at_84) rfl k) ?_
      have hc86 : (0 : Int32) < (2 : Int32) := (by decide)
      refine own_ifN X121 hx (hb hby at_86) (pn := 89) rfl hc86 ?_
      refine own_go (B := (T121.setTop (mkF m 91 #[iv p0, iv p1, iv p2, iv p3, iv p4, iv p5, iv (2 : Int32), iv (2 : Int32), rv a1, rv a4, rv a9, rv a16, rv a25, rv a36, rv a105, .unset, .unset, .unset, .unset, .unset, .unset, .unset, .unset, .unset, .unset] [(.ref a105)]))) (fun t k => XS.aload X121.here hx rfl (hb hby at_89) rfl rfl k) ?_
      refine own_go (B := (T121.setTop (mkF m 93 #[iv p0, iv p1, iv p2, iv p3, iv p4, iv p5, iv (2 : Int32), iv (2 : Int32), rv a1, rv a4, rv a9, rv a16, rv a25, rv a36, rv a105, .unset, .unset, .unset, .unset, .unset, .unset, .unset, .unset, .unset, .unset] [(.ref a1), (.ref a105)]))) (fun t k => XS.aload X121.here hx rfl (hb hby at_91) rfl rfl k) ?_
      obtain ⟨cq413, kq413, qa413, qb413, qc413⟩ := isOf hZ rfl Ex121
      obtain ⟨_, _, ⟨T413, L413, k413, n413⟩, -, X413, ⟨Lc413, hQ413, l413, y413, z413⟩, st413⟩ := X121.virtualBack hx (y := own_y9) (z := own_y9) hown (mvT hZ w_41) (mvT hZ w_42) (notFace_of_selects (args := #[]) (mvT hZ w_44)) (mvT hZ w_44) (mvT hZ w_43) (by decide) (backOf (W := 0) (own_kone l Z a0 hw [] a105 a1 ar121 (0 : Int32) (2 : Int32) (1 : Int32) [.null, .null] [(.ref a1), .null] T121.heap n0 Ex121 gk121 gc121 Vb F122 gn105 gn_ar121 ne_ar121_a105 (own_lenL (n := 2) rfl (by decide)) (by decide) (by decide) (Nat.lt_of_lt_of_eq (by decide : _ < 2) rfl) (by decide) (Ins.of_exa (own_Bn_exa BB (List.mem_of_getElem? (i := 0) rfl)) w_60) rfl) hZ w_45 w_12 (by decide) (by decide)) qa413 qc413 (g := (mkF m 93 #[iv p0, iv p1, iv p2, iv p3, iv p4, iv p5, iv (2 : Int32), iv (2 : Int32), rv a1, rv a4, rv a9, rv a16, rv a25, rv a36, rv a105, .unset, .unset, .unset, .unset, .unset, .unset, .unset, .unset, .unset, .unset] [(.ref a1), (.ref a105)])) rfl (by rw [hml]; rfl) (Steps.refl _) (argsL := [(.ref a1)]) (rest := []) (lenOf own_pd8 rfl) rfl (by show 2 * 0 + _ ≤ _; exact own_b rfl) (hb hby at_93) (fun _ _ => ⟨rfl, rfl, (own_b rfl : 8 + 0 ≤ _), (own_b rfl : 14 + 0 ≤ _)⟩)
      dsimp only [Pt.U, Pt.locs, Pt.cells, Pt.slots] at X413 l413 y413 z413 st413 hQ413
      obtain ⟨rfl, Nq413, K413, Ex413, gk413, gc413, gv413⟩ := hQ413
      obtain ⟨L413, X413, N413⟩ := own_absC (K := 8) (K' := 14) X413 l413 y413 z413 N121 Nq413
      have F414 : n0 ≤ T413.heap.size := Nat.le_trans F122 K413.1
      have F415 := Keep.trans F123 K413 (allS (Or.inr (Nat.le_trans F93.1 (Nat.le_of_eq ga105.symm))) (allS (Or.inr (Nat.le_trans K107.1 gz121)) all0))
      have F416 := own_Ao_keep F134 K413 (ninS (Ne.symm ne105_a36) (ninS (Ne.symm ne_ar121_a36) nin0))
      have F417 := Exa.keep Ex121 K413
      have F421 := own_Bn_keep BB K413 hbq
      refine own_tr (B := (T413.setTop (mkF m 96 #[iv p0, iv p1, iv p2, iv p3, iv p4, iv p5, iv (2 : Int32), iv (2 : Int32), rv a1, rv a4, rv a9, rv a16, rv a25, rv a36, rv a105, .unset, .unset, .unset, .unset, .unset, .unset, .unset, .unset, .unset, .unset] []))) st413 ?_
      refine own_go (B := (T413.setTop (mkF m 98 #[iv p0, iv p1, iv p2, iv p3, iv p4, iv p5, iv (2 : Int32), iv (2 : Int32), rv a1, rv a4, rv a9, rv a16, rv a25, rv a36, rv a105, .unset, .unset, .unset, .unset, .unset, .unset, .unset, .unset, .unset, .unset] [(.int (2 : Int32))]))) (fun t k => XS.iload X413.here hx rfl (hb hby at_96) rfl k) ?_
      refine own_go (B := (T413.setTop (mkF m 99 #[iv p0, iv p1, iv p2, iv p3, iv p4, iv p5, iv (2 : Int32), iv (2 : Int32), rv a1, rv a4, rv a9, rv a16, rv a25, rv a36, rv a105, .unset, .unset, .unset, .unset, .unset, .unset, .unset, .unset, .unset, .unset] [(.int (1 : Int32)), (.int (2 : Int32))]))) (fun t k => own_iconst (v := (1 : Int32)) X413.here hx rfl (hb hby at_98) (by decide) k) ?_
      have hc99 : (1 : Int32) < (2 : Int32) := (by decide)
      refine own_icmpN X413 hx (hb hby at_99) (pn := 102) rfl hc99 ?_
      refine own_go (B := (T413.setTop (mkF m 104 #[iv p0, iv p1, iv p2, iv p3, iv p4, iv p5, iv (2 : Int32), iv (2 : Int32), rv a1, rv a4, rv a9, rv a16, rv a25, rv a36, rv a105, .unset, .unset, .unset, .unset, .unset, .unset, .unset, .unset, .unset, .unset] [(.ref a105)]))) (fun t k => XS.aload X413.here hx rfl (hb hby at_102) rfl rfl k) ?_
      refine own_go (B := (T413.setTop (mkF m 106 #[iv p0, iv p1, iv p2, iv p3, iv p4, iv p5, iv (2 : Int32), iv (2 : Int32), rv a1, rv a4, rv a9, rv a16, rv a25, rv a36, rv a105, .unset, .unset, .unset, .unset, .unset, .unset, .unset, .unset, .unset, .unset] [(.ref a4), (.ref a105)]))) (fun t k => XS.aload X413.here hx rfl (hb hby at_104) rfl rfl k) ?_
      obtain ⟨cq422, kq422, qa422, qb422, qc422⟩ := isOf hZ rfl Ex413
      obtain ⟨_, _, ⟨T422, L422, k422, n422⟩, -, X422, ⟨Lc422, hQ422, l422, y422, z422⟩, st422⟩ := X413.virtualBack hx (y := own_y9) (z := own_y9) hown (mvT hZ w_41) (mvT hZ w_42) (notFace_of_selects (args := #[]) (mvT hZ w_44)) (mvT hZ w_44) (mvT hZ w_43) (by decide) (backOf (W := 0) (own_kone l Z a0 hw [] a105 a4 ar121 (1 : Int32) (2 : Int32) (2 : Int32) [(.ref a1), .null] [(.ref a1), (.ref a4)] T413.heap n0 Ex413 gk413 gc413 gv413 F414 gn105 gn_ar121 ne_ar121_a105 (own_lenL (n := 2) rfl (by decide)) (by decide) (by decide) (Nat.lt_of_lt_of_eq (by decide : _ < 2) rfl) (by decide) (Ins.of_exa (own_Bn_exa F421 (List.mem_of_getElem? (i := 1) rfl)) w_60) rfl) hZ w_45 w_12 (by decide) (by decide)) qa422 qc422 (g := (mkF m 106 #[iv p0, iv p1, iv p2, iv p3, iv p4, iv p5, iv (2 : Int32), iv (2 : Int32), rv a1, rv a4, rv a9, rv a16, rv a25, rv a36, rv a105, .unset, .unset, .unset, .unset, .unset, .unset, .unset, .unset, .unset, .unset] [(.ref a4), (.ref a105)])) rfl (by rw [hml]; rfl) (Steps.refl _) (argsL := [(.ref a4)]) (rest := []) (lenOf own_pd8 rfl) rfl (by show 2 * 0 + _ ≤ _; exact own_b rfl) (hb hby at_106) (fun _ _ => ⟨rfl, rfl, (own_b rfl : 8 + 0 ≤ _), (own_b rfl : 14 + 0 ≤ _)⟩)
      dsimp only [Pt.U, Pt.locs, Pt.cells, Pt.slots] at X422 l422 y422 z422 st422 hQ422
      obtain ⟨rfl, Nq422, K422, Ex422, gk422, gc422, gv422⟩ := hQ422
      obtain ⟨L422, X422, N422⟩ := own_absC (K := 8) (K' := 14) X422 l422 y422 z422 N413 Nq422
      have F423 : n0 ≤ T422.heap.size := Nat.le_trans F414 K422.1
      have F424 := Keep.trans F415 K422 (allS (Or.inr (Nat.le_trans F93.1 (Nat.le_of_eq ga105.symm))) (allS (Or.inr (Nat.le_trans K107.1 gz121)) all0))
      have F425 := own_Ao_keep F416 K422 (ninS (Ne.symm ne105_a36) (ninS (Ne.symm ne_ar121_a36) nin0))
      have F426 := Exa.keep Ex413 K422
      have F427 := own_Bn_keep F421 K422 hbq
      refine own_tr (B := (T422.setTop (mkF m 109 #[iv p0, iv p1, iv p2, iv p3, iv p4, iv p5, iv (2 : Int32), iv (2 : Int32), rv a1, rv a4, rv a9, rv a16, rv a25, rv a36, rv a105, .unset, .unset, .unset, .unset, .unset, .unset, .unset, .unset, .unset, .unset] []))) st422 ?_
      refine own_go (B := (T422.setTop (mkF m 111 #[iv p0, iv p1, iv p2, iv p3, iv p4, iv p5, iv (2 : Int32), iv (2 : Int32), rv a1, rv a4, rv a9, rv a16, rv a25, rv a36, rv a105, .unset, .unset, .unset, .unset, .unset, .unset, .unset, .unset, .unset, .unset] [(.int (2 : Int32))]))) (fun t k => XS.iload X422.here hx rfl (hb hby at_109) rfl k) ?_
      refine own_go (B := (T422.setTop (mkF m 112 #[iv p0, iv p1, iv p2, iv p3, iv p4, iv p5, iv (2 : Int32), iv (2 : Int32), rv a1, rv a4, rv a9, rv a16, rv a25, rv a36, rv a105, .unset, .unset, .unset, .unset, .unset, .unset, .unset, .unset, .unset, .unset] [(.int (2 : Int32)), (.int (2 : Int32))]))) (fun t k => own_iconst (v := (2 : Int32)) X422.here hx rfl (hb hby at_111) (by decide) k) ?_
      have hc112 : ¬ (2 : Int32) < (2 : Int32) := (by decide)
      refine own_icmpY X422 hx (hb hby at_112) (pc' := 122) (by decide) (by decide) hc112 ?_
      refine own_go (B := (T422.setTop (mkF m 124 #[iv p0, iv p1, iv p2, iv p3, iv p4, iv p5, iv (2 : Int32), iv (2 : Int32), rv a1, rv a4, rv a9, rv a16, rv a25, rv a36, rv a105, .unset, .unset, .unset, .unset, .unset, .unset, .unset, .unset, .unset, .unset] [(.int (2 : Int32))]))) (fun t k => XS.iload X422.here hx rfl (hb hby at_122) rfl k) ?_
      refine own_go (B := (T422.setTop (mkF m 125 #[iv p0, iv p1, iv p2, iv p3, iv p4, iv p5, iv (2 : Int32), iv (2 : Int32), rv a1, rv a4, rv a9, rv a16, rv a25, rv a36, rv a105, .unset, .unset, .unset, .unset, .unset, .unset, .unset, .unset, .unset, .unset] [(.int (3 : Int32)), (.int (2 : Int32))]))) (fun t k => own_iconst (v := (3 : Int32)) X422.here hx rfl (hb hby at_124) (by decide) k) ?_
      have hc125 : ¬ (3 : Int32) < (2 : Int32) := (by decide)
      refine own_icmpY X422 hx (hb hby at_125) (pc' := 135) (by decide) (by decide) hc125 ?_
      refine own_go (B := (T422.setTop (mkF m 137 #[iv p0, iv p1, iv p2, iv p3, iv p4, iv p5, iv (2 : Int32), iv (2 : Int32), rv a1, rv a4, rv a9, rv a16, rv a25, rv a36, rv a105, .unset, .unset, .unset, .unset, .unset, .unset, .unset, .unset, .unset, .unset] [(.int (2 : Int32))]))) (fun t k => XS.iload X422.here hx rfl (hb hby at_135) rfl k) ?_
      refine own_go (B := (T422.setTop (mkF m 139 #[iv p0, iv p1, iv p2, iv p3, iv p4, iv p5, iv (2 : Int32), iv (2 : Int32), rv a1, rv a4, rv a9, rv a16, rv a25, rv a36, rv a105, .unset, .unset, .unset, .unset, .unset, .unset, .unset, .unset, .unset, .unset] [(.int (2 : Int32)), (.int (2 : Int32))]))) (fun t k => XS.iload X422.here hx rfl (hb hby at_137) rfl k) ?_
      obtain ⟨_, _, ⟨T431, L431, k431, n431⟩, -, X431, ⟨Lc431, hQ431, l431, y431, z431⟩, st431⟩ := Jvm.LawKit.callS X422 hx (y := own_y10) hown (mvT hZ w_23) (mvT hZ w_24) (mvT hZ w_25) (mvT hZ w_26) (by decide) (backOf (W := 0) (own_mmin l Z a0 hw [] (2 : Int32) (2 : Int32) T422.heap n0) hZ w_26 w_25 (by decide) (by decide)) (g := (mkF m 139 #[iv p0, iv p1, iv p2, iv p3, iv p4, iv p5, iv (2 : Int32), iv (2 : Int32), rv a1, rv a4, rv a9, rv a16, rv a25, rv a36, rv a105, .unset, .unset, .unset, .unset, .unset, .unset, .unset, .unset, .unset, .unset] [(.int (2 : Int32)), (.int (2 : Int32))])) rfl (by rw [hml]; rfl) (argsL := [(.int (2 : Int32)), (.int (2 : Int32))]) (rest := []) (lenOf own_pd7 rfl) rfl (by show 2 * 0 + _ ≤ _; exact own_b rfl) (hb hby at_139) (fun _ _ => ⟨rfl, rfl, (own_b rfl : 8 + 0 ≤ _), (own_b rfl : 14 + 0 ≤ _)⟩)
      dsimp only [Pt.U, Pt.locs, Pt.cells, Pt.slots] at X431 l431 y431 z431 st431 hQ431
      obtain ⟨rfl, Nq431, eq431⟩ := hQ431
      obtain ⟨L431, X431, N431⟩ := own_absC (K := 8) (K' := 14) X431 l431 y431 z431 N422 Nq431
      have e431 : T431.heap = T422.heap := eq431
      refine own_go (B := (T431.setTop (mkF m 142 #[iv p0, iv p1, iv p2, iv p3, iv p4, iv p5, iv (2 : Int32), iv (2 : Int32), rv a1, rv a4, rv a9, rv a16, rv a25, rv a36, rv a105, .unset, .unset, .unset, .unset, .unset, .unset, .unset, .unset, .unset, .unset] [(.int (own_min (2 : Int32) (2 : Int32)))]))) st431 ?_
      rw [show own_min (2 : Int32) (2 : Int32) = (2 : Int32) from by decide]
      refine own_go (B := (T431.setTop (mkF m 144 #[iv p0, iv p1, iv p2, iv p3, iv p4, iv p5, iv (2 : Int32), iv (2 : Int32), rv a1, rv a4, rv a9, rv a16, rv a25, rv a36, rv a105, iv (2 : Int32), .unset, .unset, .unset, .unset, .unset, .unset, .unset, .unset, .unset] []))) (fun t k => XS.istore X431.here hx rfl (hb hby at_142) rfl (l' := #[iv p0, iv p1, iv p2, iv p3, iv p4, iv p5, iv (2 : Int32), iv (2 : Int32), rv a1, rv a4, rv a9, rv a16, rv a25, rv a36, rv a105, iv (2 : Int32), .unset, .unset, .unset, .unset, .unset, .unset, .unset, .unset, .unset]) rfl k) ?_
      exact J2 T431 _ T422.heap X431 e431 N431 F423 F424 F425 Ex422 gk422 gc422 gv422 F427 _
    · refine own_go (B := (T121.setTop (mkF m 86 #[iv p0, iv p1, iv p2, iv p3, iv p4, iv p5, iv (2 : Int32), iv (3 : Int32), rv a1, rv a4, rv a9, rv a16, rv a25, rv a36, rv a105, .unset, .unset, .unset, .unset, .unset, .unset, .unset, .unset, .unset, .unset] [(.int (3 : Int32))]))) (fun t k => XS.iload X121.here hx rfl (hb hby at_84) rfl k) ?_
      have hc86 : (0 : Int32) < (3 : Int32) := (by decide)
      refine own_ifN X121 hx (hb hby at_86) (pn := 89) rfl hc86 ?_
      refine own_go (B := (T121.setTop (mkF m 91 #[iv p0, iv p1, iv p2, iv p3, iv p4, iv p5, iv (2 : Int32), iv (3 : Int32), rv a1, rv a4, rv a9, rv a16, rv a25, rv a36, rv a105, .unset, .unset, .unset, .unset, .unset, .unset, .unset, .unset, .unset, .unset] [(.ref a105)]))) (fun t k => XS.aload X121.here hx rfl (hb hby at_89) rfl rfl k) ?_
      refine own_go (B := (T121.setTop (mkF m 93 #[iv p0, iv p1, iv p2, iv p3, iv p4, iv p5, iv (2 : Int32), iv (3 : Int32), rv a1, rv a4, rv a9, rv a16, rv a25, rv a36, rv a105, .unset, .unset, .unset, .unset, .unset, .unset, .unset, .unset, .unset, .unset] [(.ref a1), (.ref a105)]))) (fun t k => XS.aload X121.here hx rfl (hb hby at_91) rfl rfl k) ?_
      obtain ⟨cq432, kq432, qa432, qb432, qc432⟩ := isOf hZ rfl Ex121
      obtain ⟨_, _, ⟨T432, L432, k432, n432⟩, -, X432, ⟨Lc432, hQ432, l432, y432, z432⟩, st432⟩ := X121.virtualBack hx (y := own_y9) (z := own_y9) hown (mvT hZ w_41) (mvT hZ w_42) (notFace_of_selects (args := #[]) (mvT hZ w_44)) (mvT hZ w_44) (mvT hZ w_43) (by decide) (backOf (W := 0) (own_kone l Z a0 hw [] a105 a1 ar121 (0 : Int32) (2 : Int32) (1 : Int32) [.null, .null] [(.ref a1), .null] T121.heap n0 Ex121 gk121 gc121 Vb F122 gn105 gn_ar121 ne_ar121_a105 (own_lenL (n := 2) rfl (by decide)) (by decide) (by decide) (Nat.lt_of_lt_of_eq (by decide : _ < 2) rfl) (by decide) (Ins.of_exa (own_Bn_exa BB (List.mem_of_getElem? (i := 0) rfl)) w_60) rfl) hZ w_45 w_12 (by decide) (by decide)) qa432 qc432 (g := (mkF m 93 #[iv p0, iv p1, iv p2, iv p3, iv p4, iv p5, iv (2 : Int32), iv (3 : Int32), rv a1, rv a4, rv a9, rv a16, rv a25, rv a36, rv a105, .unset, .unset, .unset, .unset, .unset, .unset, .unset, .unset, .unset, .unset] [(.ref a1), (.ref a105)])) rfl (by rw [hml]; rfl) (Steps.refl _) (argsL := [(.ref a1)]) (rest := []) (lenOf own_pd8 rfl) rfl (by show 2 * 0 + _ ≤ _; exact own_b rfl) (hb hby at_93) (fun _ _ => ⟨rfl, rfl, (own_b rfl : 8 + 0 ≤ _), (own_b rfl : 14 + 0 ≤ _)⟩)
      dsimp only [Pt.U, Pt.locs, Pt.cells, Pt.slots] at X432 l432 y432 z432 st432 hQ432
      obtain ⟨rfl, Nq432, K432, Ex432, gk432, gc432, gv432⟩ := hQ432
      obtain ⟨L432, X432, N432⟩ := own_absC (K := 8) (K' := 14) X432 l432 y432 z432 N121 Nq432
      have F433 : n0 ≤ T432.heap.size := Nat.le_trans F122 K432.1
      have F434 := Keep.trans F123 K432 (allS (Or.inr (Nat.le_trans F93.1 (Nat.le_of_eq ga105.symm))) (allS (Or.inr (Nat.le_trans K107.1 gz121)) all0))
      have F435 := own_Ao_keep F134 K432 (ninS (Ne.symm ne105_a36) (ninS (Ne.symm ne_ar121_a36) nin0))
      have F436 := Exa.keep Ex121 K432
      have F440 := own_Bn_keep BB K432 hbq
      refine own_tr (B := (T432.setTop (mkF m 96 #[iv p0, iv p1, iv p2, iv p3, iv p4, iv p5, iv (2 : Int32), iv (3 : Int32), rv a1, rv a4, rv a9, rv a16, rv a25, rv a36, rv a105, .unset, .unset, .unset, .unset, .unset, .unset, .unset, .unset, .unset, .unset] []))) st432 ?_
      refine own_go (B := (T432.setTop (mkF m 98 #[iv p0, iv p1, iv p2, iv p3, iv p4, iv p5, iv (2 : Int32), iv (3 : Int32), rv a1, rv a4, rv a9, rv a16, rv a25, rv a36, rv a105, .unset, .unset, .unset, .unset, .unset, .unset, .unset, .unset, .unset, .unset] [(.int (3 : Int32))]))) (fun t k => XS.iload X432.here hx rfl (hb hby at_96) rfl k) ?_
      refine own_go (B := (T432.setTop (mkF m 99 #[iv p0, iv p1, iv p2, iv p3, iv p4, iv p5, iv (2 : Int32), iv (3 : Int32), rv a1, rv a4, rv a9, rv a16, rv a25, rv a36, rv a105, .unset, .unset, .unset, .unset, .unset, .unset, .unset, .unset, .unset, .unset] [(.int (1 : Int32)), (.int (3 : Int32))]))) (fun t k => own_iconst (v := (1 : Int32)) X432.here hx rfl (hb hby at_98) (by decide) k) ?_
      have hc99 : (1 : Int32) < (3 : Int32) := (by decide)
      refine own_icmpN X432 hx (hb hby at_99) (pn := 102) rfl hc99 ?_
      refine own_go (B := (T432.setTop (mkF m 104 #[iv p0, iv p1, iv p2, iv p3, iv p4, iv p5, iv (2 : Int32), iv (3 : Int32), rv a1, rv a4, rv a9, rv a16, rv a25, rv a36, rv a105, .unset, .unset, .unset, .unset, .unset, .unset, .unset, .unset, .unset, .unset] [(.ref a105)]))) (fun t k => XS.aload X432.here hx rfl (hb hby at_102) rfl rfl k) ?_
      refine own_go (B := (T432.setTop (mkF m 106 #[iv p0, iv p1, iv p2, iv p3, iv p4, iv p5, iv (2 : Int32), iv (3 : Int32), rv a1, rv a4, rv a9, rv a16, rv a25, rv a36, rv a105, .unset, .unset, .unset, .unset, .unset, .unset, .unset, .unset, .unset, .unset] [(.ref a4), (.ref a105)]))) (fun t k => XS.aload X432.here hx rfl (hb hby at_104) rfl rfl k) ?_
      obtain ⟨cq441, kq441, qa441, qb441, qc441⟩ := isOf hZ rfl Ex432
      obtain ⟨_, _, ⟨T441, L441, k441, n441⟩, -, X441, ⟨Lc441, hQ441, l441, y441, z441⟩, st441⟩ := X432.virtualBack hx (y := own_y9) (z := own_y9) hown (mvT hZ w_41) (mvT hZ w_42) (notFace_of_selects (args := #[]) (mvT hZ w_44)) (mvT hZ w_44) (mvT hZ w_43) (by decide) (backOf (W := 0) (own_kone l Z a0 hw [] a105 a4 ar121 (1 : Int32) (2 : Int32) (2 : Int32) [(.ref a1), .null] [(.ref a1), (.ref a4)] T432.heap n0 Ex432 gk432 gc432 gv432 F433 gn105 gn_ar121 ne_ar121_a105 (own_lenL (n := 2) rfl (by decide)) (by decide) (by decide) (Nat.lt_of_lt_of_eq (by decide : _ < 2) rfl) (by decide) (Ins.of_exa (own_Bn_exa F440 (List.mem_of_getElem? (i := 1) rfl)) w_60) rfl) hZ w_45 w_12 (by decide) (by decide)) qa441 qc441 (g := (mkF m 106 #[iv p0, iv p1, iv p2, iv p3, iv p4, iv p5, iv (2 : Int32), iv (3 : Int32), rv a1, rv a4, rv a9, rv a16, rv a25, rv a36, rv a105, .unset, .unset, .unset, .unset, .unset, .unset, .unset, .unset, .unset, .unset] [(.ref a4), (.ref a105)])) rfl (by rw [hml]; rfl) (Steps.refl _) (argsL := [(.ref a4)]) (rest := []) (lenOf own_pd8 rfl) rfl (by show 2 * 0 + _ ≤ _; exact own_b rfl) (hb hby at_106) (fun _ _ => ⟨rfl, rfl, (own_b rfl : 8 + 0 ≤ _), (own_b rfl : 14 + 0 ≤ _)⟩)
      dsimp only [Pt.U, Pt.locs, Pt.cells, Pt.slots] at X441 l441 y441 z441 st441 hQ441
      obtain ⟨rfl, Nq441, K441, Ex441, gk441, gc441, gv441⟩ := hQ441
      obtain ⟨L441, X441, N441⟩ := own_absC (K := 8) (K' := 14) X441 l441 y441 z441 N432 Nq441
      have F442 : n0 ≤ T441.heap.size := Nat.le_trans F433 K441.1
      have F443 := Keep.trans F434 K441 (allS (Or.inr (Nat.le_trans F93.1 (Nat.le_of_eq ga105.symm))) (allS (Or.inr (Nat.le_trans K107.1 gz121)) all0))
      have F444 := own_Ao_keep F435 K441 (ninS (Ne.symm ne105_a36) (ninS (Ne.symm ne_ar121_a36) nin0))
      have F445 := Exa.keep Ex432 K441
      have F446 := own_Bn_keep F440 K441 hbq
      refine own_tr (B := (T441.setTop (mkF m 109 #[iv p0, iv p1, iv p2, iv p3, iv p4, iv p5, iv (2 : Int32), iv (3 : Int32), rv a1, rv a4, rv a9, rv a16, rv a25, rv a36, rv a105, .unset, .unset, .unset, .unset, .unset, .unset, .unset, .unset, .unset, .unset] []))) st441 ?_
      refine own_go (B := (T441.setTop (mkF m 111 #[iv p0, iv p1, iv p2, iv p3, iv p4, iv p5, iv (2 : Int32), iv (3 : Int32), rv a1, rv a4, rv a9, rv a16, rv a25, rv a36, rv a105, .unset, .unset, .unset, .unset, .unset, .unset, .unset, .unset, .unset, .unset] [(.int (3 : Int32))]))) (fun t k => XS.iload X441.here hx rfl (hb hby at_109) rfl k) ?_
      refine own_go (B := (T441.setTop (mkF m 112 #[iv p0, iv p1, iv p2, iv p3, iv p4, iv p5, iv (2 : Int32), iv (3 : Int32), rv a1, rv a4, rv a9, rv a16, rv a25, rv a36, rv a105, .unset, .unset, .unset, .unset, .unset, .unset, .unset, .unset, .unset, .unset] [(.int (2 : Int32)), (.int (3 : Int32))]))) (fun t k => own_iconst (v := (2 : Int32)) X441.here hx rfl (hb hby at_111) (by decide) k) ?_
      have hc112 : (2 : Int32) < (3 : Int32) := (by decide)
      refine own_icmpN X441 hx (hb hby at_112) (pn := 115) rfl hc112 ?_
      refine own_go (B := (T441.setTop (mkF m 117 #[iv p0, iv p1, iv p2, iv p3, iv p4, iv p5, iv (2 : Int32), iv (3 : Int32), rv a1, rv a4, rv a9, rv a16, rv a25, rv a36, rv a105, .unset, .unset, .unset, .unset, .unset, .unset, .unset, .unset, .unset, .unset] [(.ref a105)]))) (fun t k => XS.aload X441.here hx rfl (hb hby at_115) rfl rfl k) ?_
      refine own_go (B := (T441.setTop (mkF m 119 #[iv p0, iv p1, iv p2, iv p3, iv p4, iv p5, iv (2 : Int32), iv (3 : Int32), rv a1, rv a4, rv a9, rv a16, rv a25, rv a36, rv a105, .unset, .unset, .unset, .unset, .unset, .unset, .unset, .unset, .unset, .unset] [(.ref a9), (.ref a105)]))) (fun t k => XS.aload X441.here hx rfl (hb hby at_117) rfl rfl k) ?_
      obtain ⟨cq450, kq450, qa450, qb450, qc450⟩ := isOf hZ rfl Ex441
      obtain ⟨_, _, ⟨T450, L450, k450, n450⟩, -, X450, ⟨Lc450, hQ450, l450, y450, z450⟩, st450⟩ := X441.virtualBack hx (y := own_y9) (z := own_y9) hown (mvT hZ w_41) (mvT hZ w_42) (notFace_of_selects (args := #[]) (mvT hZ w_44)) (mvT hZ w_44) (mvT hZ w_43) (by decide) (backOf (W := 0) (own_kfull l Z a0 hw [] a105 a9 ar121 (2 : Int32) (2 : Int32) [(.ref a1), (.ref a4)] T441.heap n0 Ex441 gk441 gc441 gv441 (own_lenL (n := 2) rfl (by decide)) (by decide)) hZ w_45 w_12 (by decide) (by decide)) qa450 qc450 (g := (mkF m 119 #[iv p0, iv p1, iv p2, iv p3, iv p4, iv p5, iv (2 : Int32), iv (3 : Int32), rv a1, rv a4, rv a9, rv a16, rv a25, rv a36, rv a105, .unset, .unset, .unset, .unset, .unset, .unset, .unset, .unset, .unset, .unset] [(.ref a9), (.ref a105)])) rfl (by rw [hml]; rfl) (Steps.refl _) (argsL := [(.ref a9)]) (rest := []) (lenOf own_pd8 rfl) rfl (by show 2 * 0 + _ ≤ _; exact own_b rfl) (hb hby at_119) (fun _ _ => ⟨rfl, rfl, (own_b rfl : 8 + 0 ≤ _), (own_b rfl : 14 + 0 ≤ _)⟩)
      dsimp only [Pt.U, Pt.locs, Pt.cells, Pt.slots] at X450 l450 y450 z450 st450 hQ450
      obtain ⟨rfl, Nq450, eq450⟩ := hQ450
      obtain ⟨L450, X450, N450⟩ := own_absC (K := 8) (K' := 14) X450 l450 y450 z450 N441 Nq450
      have e450 : T450.heap = T441.heap := eq450
      refine own_tr (B := (T450.setTop (mkF m 122 #[iv p0, iv p1, iv p2, iv p3, iv p4, iv p5, iv (2 : Int32), iv (3 : Int32), rv a1, rv a4, rv a9, rv a16, rv a25, rv a36, rv a105, .unset, .unset, .unset, .unset, .unset, .unset, .unset, .unset, .unset, .unset] []))) st450 ?_
      refine own_go (B := (T450.setTop (mkF m 124 #[iv p0, iv p1, iv p2, iv p3, iv p4, iv p5, iv (2 : Int32), iv (3 : Int32), rv a1, rv a4, rv a9, rv a16, rv a25, rv a36, rv a105, .unset, .unset, .unset, .unset, .unset, .unset, .unset, .unset, .unset, .unset] [(.int (3 : Int32))]))) (fun t k => XS.iload X450.here hx rfl (hb hby at_122) rfl k) ?_
      refine own_go (B := (T450.setTop (mkF m 125 #[iv p0, iv p1, iv p2, iv p3, iv p4, iv p5, iv (2 : Int32), iv (3 : Int32), rv a1, rv a4, rv a9, rv a16, rv a25, rv a36, rv a105, .unset, .unset, .unset, .unset, .unset, .unset, .unset, .unset, .unset, .unset] [(.int (3 : Int32)), (.int (3 : Int32))]))) (fun t k => own_iconst (v := (3 : Int32)) X450.here hx rfl (hb hby at_124) (by decide) k) ?_
      have hc125 : ¬ (3 : Int32) < (3 : Int32) := (by decide)
      refine own_icmpY X450 hx (hb hby at_125) (pc' := 135) (by decide) (by decide) hc125 ?_
      refine own_go (B := (T450.setTop (mkF m 137 #[iv p0, iv p1, iv p2, iv p3, iv p4, iv p5, iv (2 : Int32), iv (3 : Int32), rv a1, rv a4, rv a9, rv a16, rv a25, rv a36, rv a105, .unset, .unset, .unset, .unset, .unset, .unset, .unset, .unset, .unset, .unset] [(.int (3 : Int32))]))) (fun t k => XS.iload X450.here hx rfl (hb hby at_135) rfl k) ?_
      refine own_go (B := (T450.setTop (mkF m 139 #[iv p0, iv p1, iv p2, iv p3, iv p4, iv p5, iv (2 : Int32), iv (3 : Int32), rv a1, rv a4, rv a9, rv a16, rv a25, rv a36, rv a105, .unset, .unset, .unset, .unset, .unset, .unset, .unset, .unset, .unset, .unset] [(.int (2 : Int32)), (.int (3 : Int32))]))) (fun t k => XS.iload X450.here hx rfl (hb hby at_137) rfl k) ?_
      obtain ⟨_, _, ⟨T451, L451, k451, n451⟩, -, X451, ⟨Lc451, hQ451, l451, y451, z451⟩, st451⟩ := Jvm.LawKit.callS X450 hx (y := own_y10) hown (mvT hZ w_23) (mvT hZ w_24) (mvT hZ w_25) (mvT hZ w_26) (by decide) (backOf (W := 0) (own_mmin l Z a0 hw [] (3 : Int32) (2 : Int32) T441.heap n0) hZ w_26 w_25 (by decide) (by decide)) (g := (mkF m 139 #[iv p0, iv p1, iv p2, iv p3, iv p4, iv p5, iv (2 : Int32), iv (3 : Int32), rv a1, rv a4, rv a9, rv a16, rv a25, rv a36, rv a105, .unset, .unset, .unset, .unset, .unset, .unset, .unset, .unset, .unset, .unset] [(.int (2 : Int32)), (.int (3 : Int32))])) rfl (by rw [hml]; rfl) (argsL := [(.int (3 : Int32)), (.int (2 : Int32))]) (rest := []) (lenOf own_pd7 rfl) rfl (by show 2 * 0 + _ ≤ _; exact own_b rfl) (hb hby at_139) (fun _ _ => ⟨rfl, e450, (own_b rfl : 8 + 0 ≤ _), (own_b rfl : 14 + 0 ≤ _)⟩)
      dsimp only [Pt.U, Pt.locs, Pt.cells, Pt.slots] at X451 l451 y451 z451 st451 hQ451
      obtain ⟨rfl, Nq451, eq451⟩ := hQ451
      obtain ⟨L451, X451, N451⟩ := own_absC (K := 8) (K' := 14) X451 l451 y451 z451 N450 Nq451
      have e451 : T451.heap = T441.heap := eq451
      refine own_go (B := (T451.setTop (mkF m 142 #[iv p0, iv p1, iv p2, iv p3, iv p4, iv p5, iv (2 : Int32), iv (3 : Int32), rv a1, rv a4, rv a9, rv a16, rv a25, rv a36, rv a105, .unset, .unset, .unset, .unset, .unset, .unset, .unset, .unset, .unset, .unset] [(.int (own_min (3 : Int32) (2 : Int32)))]))) st451 ?_
      rw [show own_min (3 : Int32) (2 : Int32) = (2 : Int32) from by decide]
      refine own_go (B := (T451.setTop (mkF m 144 #[iv p0, iv p1, iv p2, iv p3, iv p4, iv p5, iv (2 : Int32), iv (3 : Int32), rv a1, rv a4, rv a9, rv a16, rv a25, rv a36, rv a105, iv (2 : Int32), .unset, .unset, .unset, .unset, .unset, .unset, .unset, .unset, .unset] []))) (fun t k => XS.istore X451.here hx rfl (hb hby at_142) rfl (l' := #[iv p0, iv p1, iv p2, iv p3, iv p4, iv p5, iv (2 : Int32), iv (3 : Int32), rv a1, rv a4, rv a9, rv a16, rv a25, rv a36, rv a105, iv (2 : Int32), .unset, .unset, .unset, .unset, .unset, .unset, .unset, .unset, .unset]) rfl k) ?_
      exact J2 T451 _ T441.heap X451 e451 N451 F442 F443 F444 Ex441 gk441 gc441 gv441 F446 _
    · refine own_go (B := (T121.setTop (mkF m 86 #[iv p0, iv p1, iv p2, iv p3, iv p4, iv p5, iv (2 : Int32), iv (4 : Int32), rv a1, rv a4, rv a9, rv a16, rv a25, rv a36, rv a105, .unset, .unset, .unset, .unset, .unset, .unset, .unset, .unset, .unset, .unset] [(.int (4 : Int32))]))) (fun t k => XS.iload X121.here hx rfl (hb hby at_84) rfl k) ?_
      have hc86 : (0 : Int32) < (4 : Int32) := (by decide)
      refine own_ifN X121 hx (hb hby at_86) (pn := 89) rfl hc86 ?_
      refine own_go (B := (T121.setTop (mkF m 91 #[iv p0, iv p1, iv p2, iv p3, iv p4, iv p5, iv (2 : Int32), iv (4 : Int32), rv a1, rv a4, rv a9, rv a16, rv a25, rv a36, rv a105, .unset, .unset, .unset, .unset, .unset, .unset, .unset, .unset, .unset, .unset] [(.ref a105)]))) (fun t k => XS.aload X121.here hx rfl (hb hby at_89) rfl rfl k) ?_
      refine own_go (B := (T121.setTop (mkF m 93 #[iv p0, iv p1, iv p2, iv p3, iv p4, iv p5, iv (2 : Int32), iv (4 : Int32), rv a1, rv a4, rv a9, rv a16, rv a25, rv a36, rv a105, .unset, .unset, .unset, .unset, .unset, .unset, .unset, .unset, .unset, .unset] [(.ref a1), (.ref a105)]))) (fun t k => XS.aload X121.here hx rfl (hb hby at_91) rfl rfl k) ?_
      obtain ⟨cq452, kq452, qa452, qb452, qc452⟩ := isOf hZ rfl Ex121
      obtain ⟨_, _, ⟨T452, L452, k452, n452⟩, -, X452, ⟨Lc452, hQ452, l452, y452, z452⟩, st452⟩ := X121.virtualBack hx (y := own_y9) (z := own_y9) hown (mvT hZ w_41) (mvT hZ w_42) (notFace_of_selects (args := #[]) (mvT hZ w_44)) (mvT hZ w_44) (mvT hZ w_43) (by decide) (backOf (W := 0) (own_kone l Z a0 hw [] a105 a1 ar121 (0 : Int32) (2 : Int32) (1 : Int32) [.null, .null] [(.ref a1), .null] T121.heap n0 Ex121 gk121 gc121 Vb F122 gn105 gn_ar121 ne_ar121_a105 (own_lenL (n := 2) rfl (by decide)) (by decide) (by decide) (Nat.lt_of_lt_of_eq (by decide : _ < 2) rfl) (by decide) (Ins.of_exa (own_Bn_exa BB (List.mem_of_getElem? (i := 0) rfl)) w_60) rfl) hZ w_45 w_12 (by decide) (by decide)) qa452 qc452 (g := (mkF m 93 #[iv p0, iv p1, iv p2, iv p3, iv p4, iv p5, iv (2 : Int32), iv (4 : Int32), rv a1, rv a4, rv a9, rv a16, rv a25, rv a36, rv a105, .unset, .unset, .unset, .unset, .unset, .unset, .unset, .unset, .unset, .unset] [(.ref a1), (.ref a105)])) rfl (by rw [hml]; rfl) (Steps.refl _) (argsL := [(.ref a1)]) (rest := []) (lenOf own_pd8 rfl) rfl (by show 2 * 0 + _ ≤ _; exact own_b rfl) (hb hby at_93) (fun _ _ => ⟨rfl, rfl, (own_b rfl : 8 + 0 ≤ _), (own_b rfl : 14 + 0 ≤ _)⟩)
      dsimp only [Pt.U, Pt.locs, Pt.cells, Pt.slots] at X452 l452 y452 z452 st452 hQ452
      obtain ⟨rfl, Nq452, K452, Ex452, gk452, gc452, gv452⟩ := hQ452
      obtain ⟨L452, X452, N452⟩ := own_absC (K := 8) (K' := 14) X452 l452 y452 z452 N121 Nq452
      have F453 : n0 ≤ T452.heap.size := Nat.le_trans F122 K452.1
      have F454 := Keep.trans F123 K452 (allS (Or.inr (Nat.le_trans F93.1 (Nat.le_of_eq ga105.symm))) (allS (Or.inr (Nat.le_trans K107.1 gz121)) all0))
      have F455 := own_Ao_keep F134 K452 (ninS (Ne.symm ne105_a36) (ninS (Ne.symm ne_ar121_a36) nin0))
      have F456 := Exa.keep Ex121 K452
      have F460 := own_Bn_keep BB K452 hbq
      refine own_tr (B := (T452.setTop (mkF m 96 #[iv p0, iv p1, iv p2, iv p3, iv p4, iv p5, iv (2 : Int32), iv (4 : Int32), rv a1, rv a4, rv a9, rv a16, rv a25, rv a36, rv a105, .unset, .unset, .unset, .unset, .unset, .unset, .unset, .unset, .unset, .unset] []))) st452 ?_
      refine own_go (B := (T452.setTop (mkF m 98 #[iv p0, iv p1, iv p2, iv p3, iv p4, iv p5, iv (2 : Int32), iv (4 : Int32), rv a1, rv a4, rv a9, rv a16, rv a25, rv a36, rv a105, .unset, .unset, .unset, .unset, .unset, .unset, .unset, .unset, .unset, .unset] [(.int (4 : Int32))]))) (fun t k => XS.iload X452.here hx rfl (hb hby at_96) rfl k) ?_
      refine own_go (B := (T452.setTop (mkF m 99 #[iv p0, iv p1, iv p2, iv p3, iv p4, iv p5, iv (2 : Int32), iv (4 : Int32), rv a1, rv a4, rv a9, rv a16, rv a25, rv a36, rv a105, .unset, .unset, .unset, .unset, .unset, .unset, .unset, .unset, .unset, .unset] [(.int (1 : Int32)), (.int (4 : Int32))]))) (fun t k => own_iconst (v := (1 : Int32)) X452.here hx rfl (hb hby at_98) (by decide) k) ?_
      have hc99 : (1 : Int32) < (4 : Int32) := (by decide)
      refine own_icmpN X452 hx (hb hby at_99) (pn := 102) rfl hc99 ?_
      refine own_go (B := (T452.setTop (mkF m 104 #[iv p0, iv p1, iv p2, iv p3, iv p4, iv p5, iv (2 : Int32), iv (4 : Int32), rv a1, rv a4, rv a9, rv a16, rv a25, rv a36, rv a105, .unset, .unset, .unset, .unset, .unset, .unset, .unset, .unset, .unset, .unset] [(.ref a105)]))) (fun t k => XS.aload X452.here hx rfl (hb hby at_102) rfl rfl k) ?_
      refine own_go (B := (T452.setTop (mkF m 106 #[iv p0, iv p1, iv p2, iv p3, iv p4, iv p5, iv (2 : Int32), iv (4 : Int32), rv a1, rv a4, rv a9, rv a16, rv a25, rv a36, rv a105, .unset, .unset, .unset, .unset, .unset, .unset, .unset, .unset, .unset, .unset] [(.ref a4), (.ref a105)]))) (fun t k => XS.aload X452.here hx rfl (hb hby at_104) rfl rfl k) ?_
      obtain ⟨cq461, kq461, qa461, qb461, qc461⟩ := isOf hZ rfl Ex452
      obtain ⟨_, _, ⟨T461, L461, k461, n461⟩, -, X461, ⟨Lc461, hQ461, l461, y461, z461⟩, st461⟩ := X452.virtualBack hx (y := own_y9) (z := own_y9) hown (mvT hZ w_41) (mvT hZ w_42) (notFace_of_selects (args := #[]) (mvT hZ w_44)) (mvT hZ w_44) (mvT hZ w_43) (by decide) (backOf (W := 0) (own_kone l Z a0 hw [] a105 a4 ar121 (1 : Int32) (2 : Int32) (2 : Int32) [(.ref a1), .null] [(.ref a1), (.ref a4)] T452.heap n0 Ex452 gk452 gc452 gv452 F453 gn105 gn_ar121 ne_ar121_a105 (own_lenL (n := 2) rfl (by decide)) (by decide) (by decide) (Nat.lt_of_lt_of_eq (by decide : _ < 2) rfl) (by decide) (Ins.of_exa (own_Bn_exa F460 (List.mem_of_getElem? (i := 1) rfl)) w_60) rfl) hZ w_45 w_12 (by decide) (by decide)) qa461 qc461 (g := (mkF m 106 #[iv p0, iv p1, iv p2, iv p3, iv p4, iv p5, iv (2 : Int32), iv (4 : Int32), rv a1, rv a4, rv a9, rv a16, rv a25, rv a36, rv a105, .unset, .unset, .unset, .unset, .unset, .unset, .unset, .unset, .unset, .unset] [(.ref a4), (.ref a105)])) rfl (by rw [hml]; rfl) (Steps.refl _) (argsL := [(.ref a4)]) (rest := []) (lenOf own_pd8 rfl) rfl (by show 2 * 0 + _ ≤ _; exact own_b rfl) (hb hby at_106) (fun _ _ => ⟨rfl, rfl, (own_b rfl : 8 + 0 ≤ _), (own_b rfl : 14 + 0 ≤ _)⟩)
      dsimp only [Pt.U, Pt.locs, Pt.cells, Pt.slots] at X461 l461 y461 z461 st461 hQ461
      obtain ⟨rfl, Nq461, K461, Ex461, gk461, gc461, gv461⟩ := hQ461
      obtain ⟨L461, X461, N461⟩ := own_absC (K := 8) (K' := 14) X461 l461 y461 z461 N452 Nq461
      have F462 : n0 ≤ T461.heap.size := Nat.le_trans F453 K461.1
      have F463 := Keep.trans F454 K461 (allS (Or.inr (Nat.le_trans F93.1 (Nat.le_of_eq ga105.symm))) (allS (Or.inr (Nat.le_trans K107.1 gz121)) all0))
      have F464 := own_Ao_keep F455 K461 (ninS (Ne.symm ne105_a36) (ninS (Ne.symm ne_ar121_a36) nin0))
      have F465 := Exa.keep Ex452 K461
      have F466 := own_Bn_keep F460 K461 hbq
      refine own_tr (B := (T461.setTop (mkF m 109 #[iv p0, iv p1, iv p2, iv p3, iv p4, iv p5, iv (2 : Int32), iv (4 : Int32), rv a1, rv a4, rv a9, rv a16, rv a25, rv a36, rv a105, .unset, .unset, .unset, .unset, .unset, .unset, .unset, .unset, .unset, .unset] []))) st461 ?_
      refine own_go (B := (T461.setTop (mkF m 111 #[iv p0, iv p1, iv p2, iv p3, iv p4, iv p5, iv (2 : Int32), iv (4 : Int32), rv a1, rv a4, rv a9, rv a16, rv a25, rv a36, rv a105, .unset, .unset, .unset, .unset, .unset, .unset, .unset, .unset, .unset, .unset] [(.int (4 : Int32))]))) (fun t k => XS.iload X461.here hx rfl (hb hby at_109) rfl k) ?_
      refine own_go (B := (T461.setTop (mkF m 112 #[iv p0, iv p1, iv p2, iv p3, iv p4, iv p5, iv (2 : Int32), iv (4 : Int32), rv a1, rv a4, rv a9, rv a16, rv a25, rv a36, rv a105, .unset, .unset, .unset, .unset, .unset, .unset, .unset, .unset, .unset, .unset] [(.int (2 : Int32)), (.int (4 : Int32))]))) (fun t k => own_iconst (v := (2 : Int32)) X461.here hx rfl (hb hby at_111) (by decide) k) ?_
      have hc112 : (2 : Int32) < (4 : Int32) := (by decide)
      refine own_icmpN X461 hx (hb hby at_112) (pn := 115) rfl hc112 ?_
      refine own_go (B := (T461.setTop (mkF m 117 #[iv p0, iv p1, iv p2, iv p3, iv p4, iv p5, iv (2 : Int32), iv (4 : Int32), rv a1, rv a4, rv a9, rv a16, rv a25, rv a36, rv a105, .unset, .unset, .unset, .unset, .unset, .unset, .unset, .unset, .unset, .unset] [(.ref a105)]))) (fun t k => XS.aload X461.here hx rfl (hb hby at_115) rfl rfl k) ?_
      refine own_go (B := (T461.setTop (mkF m 119 #[iv p0, iv p1, iv p2, iv p3, iv p4, iv p5, iv (2 : Int32), iv (4 : Int32), rv a1, rv a4, rv a9, rv a16, rv a25, rv a36, rv a105, .unset, .unset, .unset, .unset, .unset, .unset, .unset, .unset, .unset, .unset] [(.ref a9), (.ref a105)]))) (fun t k => XS.aload X461.here hx rfl (hb hby at_117) rfl rfl k) ?_
      obtain ⟨cq470, kq470, qa470, qb470, qc470⟩ := isOf hZ rfl Ex461
      obtain ⟨_, _, ⟨T470, L470, k470, n470⟩, -, X470, ⟨Lc470, hQ470, l470, y470, z470⟩, st470⟩ := X461.virtualBack hx (y := own_y9) (z := own_y9) hown (mvT hZ w_41) (mvT hZ w_42) (notFace_of_selects (args := #[]) (mvT hZ w_44)) (mvT hZ w_44) (mvT hZ w_43) (by decide) (backOf (W := 0) (own_kfull l Z a0 hw [] a105 a9 ar121 (2 : Int32) (2 : Int32) [(.ref a1), (.ref a4)] T461.heap n0 Ex461 gk461 gc461 gv461 (own_lenL (n := 2) rfl (by decide)) (by decide)) hZ w_45 w_12 (by decide) (by decide)) qa470 qc470 (g := (mkF m 119 #[iv p0, iv p1, iv p2, iv p3, iv p4, iv p5, iv (2 : Int32), iv (4 : Int32), rv a1, rv a4, rv a9, rv a16, rv a25, rv a36, rv a105, .unset, .unset, .unset, .unset, .unset, .unset, .unset, .unset, .unset, .unset] [(.ref a9), (.ref a105)])) rfl (by rw [hml]; rfl) (Steps.refl _) (argsL := [(.ref a9)]) (rest := []) (lenOf own_pd8 rfl) rfl (by show 2 * 0 + _ ≤ _; exact own_b rfl) (hb hby at_119) (fun _ _ => ⟨rfl, rfl, (own_b rfl : 8 + 0 ≤ _), (own_b rfl : 14 + 0 ≤ _)⟩)
      dsimp only [Pt.U, Pt.locs, Pt.cells, Pt.slots] at X470 l470 y470 z470 st470 hQ470
      obtain ⟨rfl, Nq470, eq470⟩ := hQ470
      obtain ⟨L470, X470, N470⟩ := own_absC (K := 8) (K' := 14) X470 l470 y470 z470 N461 Nq470
      have e470 : T470.heap = T461.heap := eq470
      refine own_tr (B := (T470.setTop (mkF m 122 #[iv p0, iv p1, iv p2, iv p3, iv p4, iv p5, iv (2 : Int32), iv (4 : Int32), rv a1, rv a4, rv a9, rv a16, rv a25, rv a36, rv a105, .unset, .unset, .unset, .unset, .unset, .unset, .unset, .unset, .unset, .unset] []))) st470 ?_
      refine own_go (B := (T470.setTop (mkF m 124 #[iv p0, iv p1, iv p2, iv p3, iv p4, iv p5, iv (2 : Int32), iv (4 : Int32), rv a1, rv a4, rv a9, rv a16, rv a25, rv a36, rv a105, .unset, .unset, .unset, .unset, .unset, .unset, .unset, .unset, .unset, .unset] [(.int (4 : Int32))]))) (fun t k => XS.iload X470.here hx rfl (hb hby at_122) rfl k) ?_
      refine own_go (B := (T470.setTop (mkF m 125 #[iv p0, iv p1, iv p2, iv p3, iv p4, iv p5, iv (2 : Int32), iv (4 : Int32), rv a1, rv a4, rv a9, rv a16, rv a25, rv a36, rv a105, .unset, .unset, .unset, .unset, .unset, .unset, .unset, .unset, .unset, .unset] [(.int (3 : Int32)), (.int (4 : Int32))]))) (fun t k => own_iconst (v := (3 : Int32)) X470.here hx rfl (hb hby at_124) (by decide) k) ?_
      have hc125 : (3 : Int32) < (4 : Int32) := (by decide)
      refine own_icmpN X470 hx (hb hby at_125) (pn := 128) rfl hc125 ?_
      refine own_go (B := (T470.setTop (mkF m 130 #[iv p0, iv p1, iv p2, iv p3, iv p4, iv p5, iv (2 : Int32), iv (4 : Int32), rv a1, rv a4, rv a9, rv a16, rv a25, rv a36, rv a105, .unset, .unset, .unset, .unset, .unset, .unset, .unset, .unset, .unset, .unset] [(.ref a105)]))) (fun t k => XS.aload X470.here hx rfl (hb hby at_128) rfl rfl k) ?_
      refine own_go (B := (T470.setTop (mkF m 132 #[iv p0, iv p1, iv p2, iv p3, iv p4, iv p5, iv (2 : Int32), iv (4 : Int32), rv a1, rv a4, rv a9, rv a16, rv a25, rv a36, rv a105, .unset, .unset, .unset, .unset, .unset, .unset, .unset, .unset, .unset, .unset] [(.ref a16), (.ref a105)]))) (fun t k => XS.aload X470.here hx rfl (hb hby at_130) rfl rfl k) ?_
      obtain ⟨cq471, kq471, qa471, qb471, qc471⟩ := isOf hZ e470 Ex461
      obtain ⟨_, _, ⟨T471, L471, k471, n471⟩, -, X471, ⟨Lc471, hQ471, l471, y471, z471⟩, st471⟩ := X470.virtualBack hx (y := own_y9) (z := own_y9) hown (mvT hZ w_41) (mvT hZ w_42) (notFace_of_selects (args := #[]) (mvT hZ w_44)) (mvT hZ w_44) (mvT hZ w_43) (by decide) (backOf (W := 0) (own_kfull l Z a0 hw [] a105 a16 ar121 (2 : Int32) (2 : Int32) [(.ref a1), (.ref a4)] T461.heap n0 Ex461 gk461 gc461 gv461 (own_lenL (n := 2) rfl (by decide)) (by decide)) hZ w_45 w_12 (by decide) (by decide)) qa471 qc471 (g := (mkF m 132 #[iv p0, iv p1, iv p2, iv p3, iv p4, iv p5, iv (2 : Int32), iv (4 : Int32), rv a1, rv a4, rv a9, rv a16, rv a25, rv a36, rv a105, .unset, .unset, .unset, .unset, .unset, .unset, .unset, .unset, .unset, .unset] [(.ref a16), (.ref a105)])) rfl (by rw [hml]; rfl) (Steps.refl _) (argsL := [(.ref a16)]) (rest := []) (lenOf own_pd8 rfl) rfl (by show 2 * 0 + _ ≤ _; exact own_b rfl) (hb hby at_132) (fun _ _ => ⟨rfl, e470, (own_b rfl : 8 + 0 ≤ _), (own_b rfl : 14 + 0 ≤ _)⟩)
      dsimp only [Pt.U, Pt.locs, Pt.cells, Pt.slots] at X471 l471 y471 z471 st471 hQ471
      obtain ⟨rfl, Nq471, eq471⟩ := hQ471
      obtain ⟨L471, X471, N471⟩ := own_absC (K := 8) (K' := 14) X471 l471 y471 z471 N470 Nq471
      have e471 : T471.heap = T461.heap := eq471
      refine own_tr (B := (T471.setTop (mkF m 135 #[iv p0, iv p1, iv p2, iv p3, iv p4, iv p5, iv (2 : Int32), iv (4 : Int32), rv a1, rv a4, rv a9, rv a16, rv a25, rv a36, rv a105, .unset, .unset, .unset, .unset, .unset, .unset, .unset, .unset, .unset, .unset] []))) st471 ?_
      refine own_go (B := (T471.setTop (mkF m 137 #[iv p0, iv p1, iv p2, iv p3, iv p4, iv p5, iv (2 : Int32), iv (4 : Int32), rv a1, rv a4, rv a9, rv a16, rv a25, rv a36, rv a105, .unset, .unset, .unset, .unset, .unset, .unset, .unset, .unset, .unset, .unset] [(.int (4 : Int32))]))) (fun t k => XS.iload X471.here hx rfl (hb hby at_135) rfl k) ?_
      refine own_go (B := (T471.setTop (mkF m 139 #[iv p0, iv p1, iv p2, iv p3, iv p4, iv p5, iv (2 : Int32), iv (4 : Int32), rv a1, rv a4, rv a9, rv a16, rv a25, rv a36, rv a105, .unset, .unset, .unset, .unset, .unset, .unset, .unset, .unset, .unset, .unset] [(.int (2 : Int32)), (.int (4 : Int32))]))) (fun t k => XS.iload X471.here hx rfl (hb hby at_137) rfl k) ?_
      obtain ⟨_, _, ⟨T472, L472, k472, n472⟩, -, X472, ⟨Lc472, hQ472, l472, y472, z472⟩, st472⟩ := Jvm.LawKit.callS X471 hx (y := own_y10) hown (mvT hZ w_23) (mvT hZ w_24) (mvT hZ w_25) (mvT hZ w_26) (by decide) (backOf (W := 0) (own_mmin l Z a0 hw [] (4 : Int32) (2 : Int32) T461.heap n0) hZ w_26 w_25 (by decide) (by decide)) (g := (mkF m 139 #[iv p0, iv p1, iv p2, iv p3, iv p4, iv p5, iv (2 : Int32), iv (4 : Int32), rv a1, rv a4, rv a9, rv a16, rv a25, rv a36, rv a105, .unset, .unset, .unset, .unset, .unset, .unset, .unset, .unset, .unset, .unset] [(.int (2 : Int32)), (.int (4 : Int32))])) rfl (by rw [hml]; rfl) (argsL := [(.int (4 : Int32)), (.int (2 : Int32))]) (rest := []) (lenOf own_pd7 rfl) rfl (by show 2 * 0 + _ ≤ _; exact own_b rfl) (hb hby at_139) (fun _ _ => ⟨rfl, e471, (own_b rfl : 8 + 0 ≤ _), (own_b rfl : 14 + 0 ≤ _)⟩)
      dsimp only [Pt.U, Pt.locs, Pt.cells, Pt.slots] at X472 l472 y472 z472 st472 hQ472
      obtain ⟨rfl, Nq472, eq472⟩ := hQ472
      obtain ⟨L472, X472, N472⟩ := own_absC (K := 8) (K' := 14) X472 l472 y472 z472 N471 Nq472
      have e472 : T472.heap = T461.heap := eq472
      refine own_go (B := (T472.setTop (mkF m 142 #[iv p0, iv p1, iv p2, iv p3, iv p4, iv p5, iv (2 : Int32), iv (4 : Int32), rv a1, rv a4, rv a9, rv a16, rv a25, rv a36, rv a105, .unset, .unset, .unset, .unset, .unset, .unset, .unset, .unset, .unset, .unset] [(.int (own_min (4 : Int32) (2 : Int32)))]))) st472 ?_
      rw [show own_min (4 : Int32) (2 : Int32) = (2 : Int32) from by decide]
      refine own_go (B := (T472.setTop (mkF m 144 #[iv p0, iv p1, iv p2, iv p3, iv p4, iv p5, iv (2 : Int32), iv (4 : Int32), rv a1, rv a4, rv a9, rv a16, rv a25, rv a36, rv a105, iv (2 : Int32), .unset, .unset, .unset, .unset, .unset, .unset, .unset, .unset, .unset] []))) (fun t k => XS.istore X472.here hx rfl (hb hby at_142) rfl (l' := #[iv p0, iv p1, iv p2, iv p3, iv p4, iv p5, iv (2 : Int32), iv (4 : Int32), rv a1, rv a4, rv a9, rv a16, rv a25, rv a36, rv a105, iv (2 : Int32), .unset, .unset, .unset, .unset, .unset, .unset, .unset, .unset, .unset]) rfl k) ?_
      exact J2 T472 _ T461.heap X472 e472 N472 F462 F463 F464 Ex461 gk461 gc461 gv461 F466 _
  · have Vb : own_Ao Z T121.heap ar121 "java/lang/Object" [.null, .null, .null] := by have q := gv121; rw [show (3 : Int32).toNatClampNeg = 3 from by decide] at q; exact q
    have J0 : ∀ (T473 : State) (L473 : List Loc) (h473 : Heap) (X473 : Stand p l e room_1 s m #[(.int p0), (.int p1), (.int p2), (.int p3), (.int p4), (.int p5)] below meth c T473 L473 8 14) (e473 : T473.heap = h473) (N473 : Fr n0 L473) (F473_0 : n0 ≤ h473.size) (F473_1 : Keep h0 h473 []) (F473_2 : own_Ao Z h473 a36 "java/lang/Integer" [(.ref a1), (.ref a4), (.ref a9), (.ref a16)]) (F473_3 : Exa Z h473 a105 "com/example/pagemason/pagemason/core/Spares") (F473_4 : Fld Z h473 a105 "com/example/pagemason/pagemason/core/Spares" "kept" "[Ljava/lang/Object;" (.ref ar121)) (F473_5 : Fld Z h473 a105 "com/example/pagemason/pagemason/core/Spares" "count" "I" (.int (0 : Int32))) (F473_6 : own_Ao Z h473 ar121 "java/lang/Object" [.null, .null, .null]) (F473_7 : own_Bn Z h473 [(a1, p1), (a4, p2), (a9, p3), (a16, p4), (a25, p5)]) (kk : Int32), own_G p.tables e below (fun o U' => ∃ v L, o = .returned v ∧ (own_law_Q Z p0 p1 p2 p3 p4 p5 ca h0 n0) v U'.heap L ∧ FrameEnd s o U' L 24 128) (T473.setTop (mkF m 144 #[iv p0, iv p1, iv p2, iv p3, iv p4, iv p5, iv (3 : Int32), iv kk, rv a1, rv a4, rv a9, rv a16, rv a25, rv a36, rv a105, iv (0 : Int32), .unset, .unset, .unset, .unset, .unset, .unset, .unset, .unset, .unset] [])) := by
      intro T473 L473 h473 X473 e473 N473 F473_0 F473_1 F473_2 F473_3 F473_4 F473_5 F473_6 F473_7 kk
      refine own_go (B := (T473.setTop (mkF m 146 #[iv p0, iv p1, iv p2, iv p3, iv p4, iv p5, iv (3 : Int32), iv kk, rv a1, rv a4, rv a9, rv a16, rv a25, rv a36, rv a105, iv (0 : Int32), .unset, .unset, .unset, .unset, .unset, .unset, .unset, .unset, .unset] [(.ref a105)]))) (fun t k => XS.aload X473.here hx rfl (hb hby at_144) rfl rfl k) ?_
      obtain ⟨cq474, kq474, qa474, qb474, qc474⟩ := isOf hZ e473 F473_3
      obtain ⟨_, _, ⟨T474, L474, k474, n474⟩, -, X474, ⟨Lc474, hQ474, l474, y474, z474⟩, st474⟩ := X473.virtualBack hx (y := own_y6) (z := own_y6) hown (mvT hZ w_27) (mvT hZ w_28) (notFace_of_selects (args := #[]) (mvT hZ w_30)) (mvT hZ w_30) (mvT hZ w_29) (by decide) (backOf (W := 0) (own_tnone l Z a0 hw [] a105 h473 n0 F473_5) hZ w_31 w_12 (by decide) (by decide)) qa474 qc474 (g := (mkF m 146 #[iv p0, iv p1, iv p2, iv p3, iv p4, iv p5, iv (3 : Int32), iv kk, rv a1, rv a4, rv a9, rv a16, rv a25, rv a36, rv a105, iv (0 : Int32), .unset, .unset, .unset, .unset, .unset, .unset, .unset, .unset, .unset] [(.ref a105)])) rfl (by rw [hml]; rfl) (Steps.refl _) (argsL := []) (rest := []) (lenOf own_pd5 rfl) rfl (by show 2 * 0 + _ ≤ _; exact own_b rfl) (hb hby at_146) (fun _ _ => ⟨rfl, e473, (own_b rfl : 8 + 0 ≤ _), (own_b rfl : 14 + 0 ≤ _)⟩)
      dsimp only [Pt.U, Pt.locs, Pt.cells, Pt.slots] at X474 l474 y474 z474 st474 hQ474
      obtain ⟨rfl, Nq474, eq474⟩ := hQ474
      obtain ⟨L474, X474, N474⟩ := own_absC (K := 8) (K' := 14) X474 l474 y474 z474 N473 Nq474
      have e474 : T474.heap = h473 := eq474
      refine own_tr (B := (T474.setTop (mkF m 149 #[iv p0, iv p1, iv p2, iv p3, iv p4, iv p5, iv (3 : Int32), iv kk, rv a1, rv a4, rv a9, rv a16, rv a25, rv a36, rv a105, iv (0 : Int32), .unset, .unset, .unset, .unset, .unset, .unset, .unset, .unset, .unset] [.null]))) st474 ?_
      refine own_go (B := (T474.setTop (mkF m 152 #[iv p0, iv p1, iv p2, iv p3, iv p4, iv p5, iv (3 : Int32), iv kk, rv a1, rv a4, rv a9, rv a16, rv a25, rv a36, rv a105, iv (0 : Int32), .unset, .unset, .unset, .unset, .unset, .unset, .unset, .unset, .unset] [.null]))) (X474.checkcastNull hx (g := (mkF m 149 #[iv p0, iv p1, iv p2, iv p3, iv p4, iv p5, iv (3 : Int32), iv kk, rv a1, rv a4, rv a9, rv a16, rv a25, rv a36, rv a105, iv (0 : Int32), .unset, .unset, .unset, .unset, .unset, .unset, .unset, .unset, .unset] [.null])) rfl rfl (hb hby at_149)) ?_
      refine own_go (B := (T474.setTop (mkF m 154 #[iv p0, iv p1, iv p2, iv p3, iv p4, iv p5, iv (3 : Int32), iv kk, rv a1, rv a4, rv a9, rv a16, rv a25, rv a36, rv a105, iv (0 : Int32), .val .null, .unset, .unset, .unset, .unset, .unset, .unset, .unset, .unset] []))) (fun t k => XS.astore X474.here hx rfl (hb hby at_152) rfl rfl (l' := #[iv p0, iv p1, iv p2, iv p3, iv p4, iv p5, iv (3 : Int32), iv kk, rv a1, rv a4, rv a9, rv a16, rv a25, rv a36, rv a105, iv (0 : Int32), .val .null, .unset, .unset, .unset, .unset, .unset, .unset, .unset, .unset]) rfl k) ?_
      refine own_go (B := (T474.setTop (mkF m 156 #[iv p0, iv p1, iv p2, iv p3, iv p4, iv p5, iv (3 : Int32), iv kk, rv a1, rv a4, rv a9, rv a16, rv a25, rv a36, rv a105, iv (0 : Int32), .val .null, .unset, .unset, .unset, .unset, .unset, .unset, .unset, .unset] [(.int (0 : Int32))]))) (fun t k => XS.iload X474.here hx rfl (hb hby at_154) rfl k) ?_
      refine own_go (B := (T474.setTop (mkF m 157 #[iv p0, iv p1, iv p2, iv p3, iv p4, iv p5, iv (3 : Int32), iv kk, rv a1, rv a4, rv a9, rv a16, rv a25, rv a36, rv a105, iv (0 : Int32), .val .null, .unset, .unset, .unset, .unset, .unset, .unset, .unset, .unset] [(.int (1 : Int32)), (.int (0 : Int32))]))) (fun t k => own_iconst (v := (1 : Int32)) X474.here hx rfl (hb hby at_156) (by decide) k) ?_
      have hc157 : (0 : Int32) < (1 : Int32) := (by decide)
      refine own_icmpY X474 hx (hb hby at_157) (pc' := 170) (by decide) (by decide) hc157 ?_
      refine own_go (B := (T474.setTop (mkF m 171 #[iv p0, iv p1, iv p2, iv p3, iv p4, iv p5, iv (3 : Int32), iv kk, rv a1, rv a4, rv a9, rv a16, rv a25, rv a36, rv a105, iv (0 : Int32), .val .null, .unset, .unset, .unset, .unset, .unset, .unset, .unset, .unset] [.null]))) (fun t k => XS.aconstNull X474.here hx rfl (hb hby at_170) k) ?_
      refine own_go (B := (T474.setTop (mkF m 173 #[iv p0, iv p1, iv p2, iv p3, iv p4, iv p5, iv (3 : Int32), iv kk, rv a1, rv a4, rv a9, rv a16, rv a25, rv a36, rv a105, iv (0 : Int32), .val .null, .val .null, .unset, .unset, .unset, .unset, .unset, .unset, .unset] []))) (fun t k => XS.astore X474.here hx rfl (hb hby at_171) rfl rfl (l' := #[iv p0, iv p1, iv p2, iv p3, iv p4, iv p5, iv (3 : Int32), iv kk, rv a1, rv a4, rv a9, rv a16, rv a25, rv a36, rv a105, iv (0 : Int32), .val .null, .val .null, .unset, .unset, .unset, .unset, .unset, .unset, .unset]) rfl k) ?_
      refine own_go (B := (T474.setTop (mkF m 175 #[iv p0, iv p1, iv p2, iv p3, iv p4, iv p5, iv (3 : Int32), iv kk, rv a1, rv a4, rv a9, rv a16, rv a25, rv a36, rv a105, iv (0 : Int32), .val .null, .val .null, .unset, .unset, .unset, .unset, .unset, .unset, .unset] [.null]))) (fun t k => XS.aload X474.here hx rfl (hb hby at_173) rfl rfl k) ?_
      refine own_go (B := (T474.setTop (mkF m 177 #[iv p0, iv p1, iv p2, iv p3, iv p4, iv p5, iv (3 : Int32), iv kk, rv a1, rv a4, rv a9, rv a16, rv a25, rv a36, rv a105, iv (0 : Int32), .val .null, .val .null, .unset, .unset, .unset, .unset, .unset, .unset, .unset] [.null, .null]))) (fun t k => XS.aload X474.here hx rfl (hb hby at_175) rfl rfl k) ?_
      obtain ⟨_, _, ⟨T476, L476, k476, n476⟩, -, X476, ⟨Lc476, hQ476, l476, y476, z476⟩, st476⟩ := Jvm.LawKit.callS X474 hx (y := own_y7) hown (mvT hZ w_34) (mvT hZ w_35) (mvT hZ w_36) (mvT hZ w_37) (by decide) (backOf (W := 0) (own_same0 l Z a0 hw [] h473 n0) hZ w_37 w_36 (by decide) (by decide)) (g := (mkF m 177 #[iv p0, iv p1, iv p2, iv p3, iv p4, iv p5, iv (3 : Int32), iv kk, rv a1, rv a4, rv a9, rv a16, rv a25, rv a36, rv a105, iv (0 : Int32), .val .null, .val .null, .unset, .unset, .unset, .unset, .unset, .unset, .unset] [.null, .null])) rfl (by rw [hml]; rfl) (argsL := [.null, .null]) (rest := []) (lenOf own_pd6 rfl) rfl (by show 2 * 0 + _ ≤ _; exact own_b rfl) (hb hby at_177) (fun _ _ => ⟨rfl, e474, (own_b rfl : 8 + 0 ≤ _), (own_b rfl : 14 + 0 ≤ _)⟩)
      dsimp only [Pt.U, Pt.locs, Pt.cells, Pt.slots] at X476 l476 y476 z476 st476 hQ476
      obtain ⟨rfl, Nq476, eq476⟩ := hQ476
      obtain ⟨L476, X476, N476⟩ := own_absC (K := 8) (K' := 14) X476 l476 y476 z476 N474 Nq476
      have e476 : T476.heap = h473 := eq476
      refine own_go (B := (T476.setTop (mkF m 180 #[iv p0, iv p1, iv p2, iv p3, iv p4, iv p5, iv (3 : Int32), iv kk, rv a1, rv a4, rv a9, rv a16, rv a25, rv a36, rv a105, iv (0 : Int32), .val .null, .val .null, .unset, .unset, .unset, .unset, .unset, .unset, .unset] [(.int (1 : Int32))]))) st476 ?_
      have hc180 : ¬ (1 : Int32) = (0 : Int32) := (by decide)
      refine own_ifY X476 hx (hb hby at_180) (pc' := 185) (by decide) (by decide) hc180 ?_
      refine own_go (B := (T476.setTop (mkF m 187 #[iv p0, iv p1, iv p2, iv p3, iv p4, iv p5, iv (3 : Int32), iv kk, rv a1, rv a4, rv a9, rv a16, rv a25, rv a36, rv a105, iv (0 : Int32), .val .null, .val .null, .unset, .unset, .unset, .unset, .unset, .unset, .unset] [(.ref a105)]))) (fun t k => XS.aload X476.here hx rfl (hb hby at_185) rfl rfl k) ?_
      obtain ⟨cq477, kq477, qa477, qb477, qc477⟩ := isOf hZ e476 F473_3
      obtain ⟨_, _, ⟨T477, L477, k477, n477⟩, -, X477, ⟨Lc477, hQ477, l477, y477, z477⟩, st477⟩ := X476.virtualBack hx (y := own_y6) (z := own_y6) hown (mvT hZ w_27) (mvT hZ w_28) (notFace_of_selects (args := #[]) (mvT hZ w_30)) (mvT hZ w_30) (mvT hZ w_29) (by decide) (backOf (W := 0) (own_tnone l Z a0 hw [] a105 h473 n0 F473_5) hZ w_31 w_12 (by decide) (by decide)) qa477 qc477 (g := (mkF m 187 #[iv p0, iv p1, iv p2, iv p3, iv p4, iv p5, iv (3 : Int32), iv kk, rv a1, rv a4, rv a9, rv a16, rv a25, rv a36, rv a105, iv (0 : Int32), .val .null, .val .null, .unset, .unset, .unset, .unset, .unset, .unset, .unset] [(.ref a105)])) rfl (by rw [hml]; rfl) (Steps.refl _) (argsL := []) (rest := []) (lenOf own_pd5 rfl) rfl (by show 2 * 0 + _ ≤ _; exact own_b rfl) (hb hby at_187) (fun _ _ => ⟨rfl, e476, (own_b rfl : 8 + 0 ≤ _), (own_b rfl : 14 + 0 ≤ _)⟩)
      dsimp only [Pt.U, Pt.locs, Pt.cells, Pt.slots] at X477 l477 y477 z477 st477 hQ477
      obtain ⟨rfl, Nq477, eq477⟩ := hQ477
      obtain ⟨L477, X477, N477⟩ := own_absC (K := 8) (K' := 14) X477 l477 y477 z477 N476 Nq477
      have e477 : T477.heap = h473 := eq477
      refine own_tr (B := (T477.setTop (mkF m 190 #[iv p0, iv p1, iv p2, iv p3, iv p4, iv p5, iv (3 : Int32), iv kk, rv a1, rv a4, rv a9, rv a16, rv a25, rv a36, rv a105, iv (0 : Int32), .val .null, .val .null, .unset, .unset, .unset, .unset, .unset, .unset, .unset] [.null]))) st477 ?_
      refine own_go (B := (T477.setTop (mkF m 193 #[iv p0, iv p1, iv p2, iv p3, iv p4, iv p5, iv (3 : Int32), iv kk, rv a1, rv a4, rv a9, rv a16, rv a25, rv a36, rv a105, iv (0 : Int32), .val .null, .val .null, .unset, .unset, .unset, .unset, .unset, .unset, .unset] [.null]))) (X477.checkcastNull hx (g := (mkF m 190 #[iv p0, iv p1, iv p2, iv p3, iv p4, iv p5, iv (3 : Int32), iv kk, rv a1, rv a4, rv a9, rv a16, rv a25, rv a36, rv a105, iv (0 : Int32), .val .null, .val .null, .unset, .unset, .unset, .unset, .unset, .unset, .unset] [.null])) rfl rfl (hb hby at_190)) ?_
      refine own_go (B := (T477.setTop (mkF m 195 #[iv p0, iv p1, iv p2, iv p3, iv p4, iv p5, iv (3 : Int32), iv kk, rv a1, rv a4, rv a9, rv a16, rv a25, rv a36, rv a105, iv (0 : Int32), .val .null, .val .null, .val .null, .unset, .unset, .unset, .unset, .unset, .unset] []))) (fun t k => XS.astore X477.here hx rfl (hb hby at_193) rfl rfl (l' := #[iv p0, iv p1, iv p2, iv p3, iv p4, iv p5, iv (3 : Int32), iv kk, rv a1, rv a4, rv a9, rv a16, rv a25, rv a36, rv a105, iv (0 : Int32), .val .null, .val .null, .val .null, .unset, .unset, .unset, .unset, .unset, .unset]) rfl k) ?_
      refine own_go (B := (T477.setTop (mkF m 197 #[iv p0, iv p1, iv p2, iv p3, iv p4, iv p5, iv (3 : Int32), iv kk, rv a1, rv a4, rv a9, rv a16, rv a25, rv a36, rv a105, iv (0 : Int32), .val .null, .val .null, .val .null, .unset, .unset, .unset, .unset, .unset, .unset] [(.int (0 : Int32))]))) (fun t k => XS.iload X477.here hx rfl (hb hby at_195) rfl k) ?_
      refine own_go (B := (T477.setTop (mkF m 198 #[iv p0, iv p1, iv p2, iv p3, iv p4, iv p5, iv (3 : Int32), iv kk, rv a1, rv a4, rv a9, rv a16, rv a25, rv a36, rv a105, iv (0 : Int32), .val .null, .val .null, .val .null, .unset, .unset, .unset, .unset, .unset, .unset] [(.int (2 : Int32)), (.int (0 : Int32))]))) (fun t k => own_iconst (v := (2 : Int32)) X477.here hx rfl (hb hby at_197) (by decide) k) ?_
      have hc198 : (0 : Int32) < (2 : Int32) := (by decide)
      refine own_icmpY X477 hx (hb hby at_198) (pc' := 211) (by decide) (by decide) hc198 ?_
      refine own_go (B := (T477.setTop (mkF m 212 #[iv p0, iv p1, iv p2, iv p3, iv p4, iv p5, iv (3 : Int32), iv kk, rv a1, rv a4, rv a9, rv a16, rv a25, rv a36, rv a105, iv (0 : Int32), .val .null, .val .null, .val .null, .unset, .unset, .unset, .unset, .unset, .unset] [.null]))) (fun t k => XS.aconstNull X477.here hx rfl (hb hby at_211) k) ?_
      refine own_go (B := (T477.setTop (mkF m 214 #[iv p0, iv p1, iv p2, iv p3, iv p4, iv p5, iv (3 : Int32), iv kk, rv a1, rv a4, rv a9, rv a16, rv a25, rv a36, rv a105, iv (0 : Int32), .val .null, .val .null, .val .null, .val .null, .unset, .unset, .unset, .unset, .unset] []))) (fun t k => XS.astore X477.here hx rfl (hb hby at_212) rfl rfl (l' := #[iv p0, iv p1, iv p2, iv p3, iv p4, iv p5, iv (3 : Int32), iv kk, rv a1, rv a4, rv a9, rv a16, rv a25, rv a36, rv a105, iv (0 : Int32), .val .null, .val .null, .val .null, .val .null, .unset, .unset, .unset, .unset, .unset]) rfl k) ?_
      refine own_go (B := (T477.setTop (mkF m 216 #[iv p0, iv p1, iv p2, iv p3, iv p4, iv p5, iv (3 : Int32), iv kk, rv a1, rv a4, rv a9, rv a16, rv a25, rv a36, rv a105, iv (0 : Int32), .val .null, .val .null, .val .null, .val .null, .unset, .unset, .unset, .unset, .unset] [.null]))) (fun t k => XS.aload X477.here hx rfl (hb hby at_214) rfl rfl k) ?_
      refine own_go (B := (T477.setTop (mkF m 218 #[iv p0, iv p1, iv p2, iv p3, iv p4, iv p5, iv (3 : Int32), iv kk, rv a1, rv a4, rv a9, rv a16, rv a25, rv a36, rv a105, iv (0 : Int32), .val .null, .val .null, .val .null, .val .null, .unset, .unset, .unset, .unset, .unset] [.null, .null]))) (fun t k => XS.aload X477.here hx rfl (hb hby at_216) rfl rfl k) ?_
      obtain ⟨_, _, ⟨T479, L479, k479, n479⟩, -, X479, ⟨Lc479, hQ479, l479, y479, z479⟩, st479⟩ := Jvm.LawKit.callS X477 hx (y := own_y7) hown (mvT hZ w_34) (mvT hZ w_35) (mvT hZ w_36) (mvT hZ w_37) (by decide) (backOf (W := 0) (own_same0 l Z a0 hw [] h473 n0) hZ w_37 w_36 (by decide) (by decide)) (g := (mkF m 218 #[iv p0, iv p1, iv p2, iv p3, iv p4, iv p5, iv (3 : Int32), iv kk, rv a1, rv a4, rv a9, rv a16, rv a25, rv a36, rv a105, iv (0 : Int32), .val .null, .val .null, .val .null, .val .null, .unset, .unset, .unset, .unset, .unset] [.null, .null])) rfl (by rw [hml]; rfl) (argsL := [.null, .null]) (rest := []) (lenOf own_pd6 rfl) rfl (by show 2 * 0 + _ ≤ _; exact own_b rfl) (hb hby at_218) (fun _ _ => ⟨rfl, e477, (own_b rfl : 8 + 0 ≤ _), (own_b rfl : 14 + 0 ≤ _)⟩)
      dsimp only [Pt.U, Pt.locs, Pt.cells, Pt.slots] at X479 l479 y479 z479 st479 hQ479
      obtain ⟨rfl, Nq479, eq479⟩ := hQ479
      obtain ⟨L479, X479, N479⟩ := own_absC (K := 8) (K' := 14) X479 l479 y479 z479 N477 Nq479
      have e479 : T479.heap = h473 := eq479
      refine own_go (B := (T479.setTop (mkF m 221 #[iv p0, iv p1, iv p2, iv p3, iv p4, iv p5, iv (3 : Int32), iv kk, rv a1, rv a4, rv a9, rv a16, rv a25, rv a36, rv a105, iv (0 : Int32), .val .null, .val .null, .val .null, .val .null, .unset, .unset, .unset, .unset, .unset] [(.int (1 : Int32))]))) st479 ?_
      have hc221 : ¬ (1 : Int32) = (0 : Int32) := (by decide)
      refine own_ifY X479 hx (hb hby at_221) (pc' := 226) (by decide) (by decide) hc221 ?_
      refine own_go (B := (T479.setTop (mkF m 228 #[iv p0, iv p1, iv p2, iv p3, iv p4, iv p5, iv (3 : Int32), iv kk, rv a1, rv a4, rv a9, rv a16, rv a25, rv a36, rv a105, iv (0 : Int32), .val .null, .val .null, .val .null, .val .null, .unset, .unset, .unset, .unset, .unset] [(.int (0 : Int32))]))) (fun t k => XS.iload X479.here hx rfl (hb hby at_226) rfl k) ?_
      refine own_go (B := (T479.setTop (mkF m 229 #[iv p0, iv p1, iv p2, iv p3, iv p4, iv p5, iv (3 : Int32), iv kk, rv a1, rv a4, rv a9, rv a16, rv a25, rv a36, rv a105, iv (0 : Int32), .val .null, .val .null, .val .null, .val .null, .unset, .unset, .unset, .unset, .unset] [(.int (2 : Int32)), (.int (0 : Int32))]))) (fun t k => own_iconst (v := (2 : Int32)) X479.here hx rfl (hb hby at_228) (by decide) k) ?_
      refine own_go (B := (T479.setTop (mkF m 230 #[iv p0, iv p1, iv p2, iv p3, iv p4, iv p5, iv (3 : Int32), iv kk, rv a1, rv a4, rv a9, rv a16, rv a25, rv a36, rv a105, iv (0 : Int32), .val .null, .val .null, .val .null, .val .null, .unset, .unset, .unset, .unset, .unset] [(.int ((0 : Int32) - (2 : Int32)))]))) (fun t k => XS.isub (x := (0 : Int32)) (y := (2 : Int32)) X479.here hx rfl (hb hby at_229) rfl k) ?_
      rw [show ((0 : Int32) - (2 : Int32)) = (-2 : Int32) from by decide]
      refine own_go (B := (T479.setTop (mkF m 231 #[iv p0, iv p1, iv p2, iv p3, iv p4, iv p5, iv (3 : Int32), iv kk, rv a1, rv a4, rv a9, rv a16, rv a25, rv a36, rv a105, iv (0 : Int32), .val .null, .val .null, .val .null, .val .null, .unset, .unset, .unset, .unset, .unset] [(.int (0 : Int32)), (.int (-2 : Int32))]))) (fun t k => own_iconst (v := (0 : Int32)) X479.here hx rfl (hb hby at_230) (by decide) k) ?_
      obtain ⟨_, _, ⟨T480, L480, k480, n480⟩, -, X480, ⟨Lc480, hQ480, l480, y480, z480⟩, st480⟩ := Jvm.LawKit.callS X479 hx (y := own_y8) hown (mvT hZ w_38) (mvT hZ w_39) (mvT hZ w_25) (mvT hZ w_40) (by decide) (backOf (W := 0) (own_mmax l Z a0 hw [] (-2 : Int32) (0 : Int32) h473 n0) hZ w_40 w_25 (by decide) (by decide)) (g := (mkF m 231 #[iv p0, iv p1, iv p2, iv p3, iv p4, iv p5, iv (3 : Int32), iv kk, rv a1, rv a4, rv a9, rv a16, rv a25, rv a36, rv a105, iv (0 : Int32), .val .null, .val .null, .val .null, .val .null, .unset, .unset, .unset, .unset, .unset] [(.int (0 : Int32)), (.int (-2 : Int32))])) rfl (by rw [hml]; rfl) (argsL := [(.int (-2 : Int32)), (.int (0 : Int32))]) (rest := []) (lenOf own_pd7 rfl) rfl (by show 2 * 0 + _ ≤ _; exact own_b rfl) (hb hby at_231) (fun _ _ => ⟨rfl, e479, (own_b rfl : 8 + 0 ≤ _), (own_b rfl : 14 + 0 ≤ _)⟩)
      dsimp only [Pt.U, Pt.locs, Pt.cells, Pt.slots] at X480 l480 y480 z480 st480 hQ480
      obtain ⟨rfl, Nq480, eq480⟩ := hQ480
      obtain ⟨L480, X480, N480⟩ := own_absC (K := 8) (K' := 14) X480 l480 y480 z480 N479 Nq480
      have e480 : T480.heap = h473 := eq480
      refine own_go (B := (T480.setTop (mkF m 234 #[iv p0, iv p1, iv p2, iv p3, iv p4, iv p5, iv (3 : Int32), iv kk, rv a1, rv a4, rv a9, rv a16, rv a25, rv a36, rv a105, iv (0 : Int32), .val .null, .val .null, .val .null, .val .null, .unset, .unset, .unset, .unset, .unset] [(.int (own_max (-2 : Int32) (0 : Int32)))]))) st480 ?_
      rw [show own_max (-2 : Int32) (0 : Int32) = (0 : Int32) from by decide]
      refine own_go (B := (T480.setTop (mkF m 236 #[iv p0, iv p1, iv p2, iv p3, iv p4, iv p5, iv (3 : Int32), iv kk, rv a1, rv a4, rv a9, rv a16, rv a25, rv a36, rv a105, iv (0 : Int32), .val .null, .val .null, .val .null, .val .null, iv (0 : Int32), .unset, .unset, .unset, .unset] []))) (fun t k => XS.istore X480.here hx rfl (hb hby at_234) rfl (l' := #[iv p0, iv p1, iv p2, iv p3, iv p4, iv p5, iv (3 : Int32), iv kk, rv a1, rv a4, rv a9, rv a16, rv a25, rv a36, rv a105, iv (0 : Int32), .val .null, .val .null, .val .null, .val .null, iv (0 : Int32), .unset, .unset, .unset, .unset]) rfl k) ?_
      refine own_go (B := (T480.setTop (mkF m 238 #[iv p0, iv p1, iv p2, iv p3, iv p4, iv p5, iv (3 : Int32), iv kk, rv a1, rv a4, rv a9, rv a16, rv a25, rv a36, rv a105, iv (0 : Int32), .val .null, .val .null, .val .null, .val .null, iv (0 : Int32), .unset, .unset, .unset, .unset] [(.ref a105)]))) (fun t k => XS.aload X480.here hx rfl (hb hby at_236) rfl rfl k) ?_
      refine own_go (B := (T480.setTop (mkF m 240 #[iv p0, iv p1, iv p2, iv p3, iv p4, iv p5, iv (3 : Int32), iv kk, rv a1, rv a4, rv a9, rv a16, rv a25, rv a36, rv a105, iv (0 : Int32), .val .null, .val .null, .val .null, .val .null, iv (0 : Int32), .unset, .unset, .unset, .unset] [(.ref a25), (.ref a105)]))) (fun t k => XS.aload X480.here hx rfl (hb hby at_238) rfl rfl k) ?_
      obtain ⟨cq481, kq481, qa481, qb481, qc481⟩ := isOf hZ e480 F473_3
      obtain ⟨_, _, ⟨T481, L481, k481, n481⟩, -, X481, ⟨Lc481, hQ481, l481, y481, z481⟩, st481⟩ := X480.virtualBack hx (y := own_y9) (z := own_y9) hown (mvT hZ w_41) (mvT hZ w_42) (notFace_of_selects (args := #[]) (mvT hZ w_44)) (mvT hZ w_44) (mvT hZ w_43) (by decide) (backOf (W := 0) (own_kone l Z a0 hw [] a105 a25 ar121 (0 : Int32) (3 : Int32) (1 : Int32) [.null, .null, .null] [(.ref a25), .null, .null] h473 n0 F473_3 F473_4 F473_5 F473_6 F473_0 gn105 gn_ar121 ne_ar121_a105 (own_lenL (n := 3) rfl (by decide)) (by decide) (by decide) (Nat.lt_of_lt_of_eq (by decide : _ < 3) rfl) (by decide) (Ins.of_exa (own_Bn_exa F473_7 (List.mem_of_getElem? (i := 4) rfl)) w_60) rfl) hZ w_45 w_12 (by decide) (by decide)) qa481 qc481 (g := (mkF m 240 #[iv p0, iv p1, iv p2, iv p3, iv p4, iv p5, iv (3 : Int32), iv kk, rv a1, rv a4, rv a9, rv a16, rv a25, rv a36, rv a105, iv (0 : Int32), .val .null, .val .null, .val .null, .val .null, iv (0 : Int32), .unset, .unset, .unset, .unset] [(.ref a25), (.ref a105)])) rfl (by rw [hml]; rfl) (Steps.refl _) (argsL := [(.ref a25)]) (rest := []) (lenOf own_pd8 rfl) rfl (by show 2 * 0 + _ ≤ _; exact own_b rfl) (hb hby at_240) (fun _ _ => ⟨rfl, e480, (own_b rfl : 8 + 0 ≤ _), (own_b rfl : 14 + 0 ≤ _)⟩)
      dsimp only [Pt.U, Pt.locs, Pt.cells, Pt.slots] at X481 l481 y481 z481 st481 hQ481
      obtain ⟨rfl, Nq481, K481, Ex481, gk481, gc481, gv481⟩ := hQ481
      obtain ⟨L481, X481, N481⟩ := own_absC (K := 8) (K' := 14) X481 l481 y481 z481 N480 Nq481
      have F482 : n0 ≤ T481.heap.size := Nat.le_trans F473_0 K481.1
      have F483 := Keep.trans F473_1 K481 (allS (Or.inr (Nat.le_trans F93.1 (Nat.le_of_eq ga105.symm))) (allS (Or.inr (Nat.le_trans K107.1 gz121)) all0))
      have F484 := own_Ao_keep F473_2 K481 (ninS (Ne.symm ne105_a36) (ninS (Ne.symm ne_ar121_a36) nin0))
      have F485 := Exa.keep F473_3 K481
      have F489 := own_Bn_keep F473_7 K481 hbq
      refine own_tr (B := (T481.setTop (mkF m 243 #[iv p0, iv p1, iv p2, iv p3, iv p4, iv p5, iv (3 : Int32), iv kk, rv a1, rv a4, rv a9, rv a16, rv a25, rv a36, rv a105, iv (0 : Int32), .val .null, .val .null, .val .null, .val .null, iv (0 : Int32), .unset, .unset, .unset, .unset] []))) st481 ?_
      refine own_go (B := (T481.setTop (mkF m 245 #[iv p0, iv p1, iv p2, iv p3, iv p4, iv p5, iv (3 : Int32), iv kk, rv a1, rv a4, rv a9, rv a16, rv a25, rv a36, rv a105, iv (0 : Int32), .val .null, .val .null, .val .null, .val .null, iv (0 : Int32), .unset, .unset, .unset, .unset] [(.ref a105)]))) (fun t k => XS.aload X481.here hx rfl (hb hby at_243) rfl rfl k) ?_
      obtain ⟨cq490, kq490, qa490, qb490, qc490⟩ := isOf hZ rfl Ex481
      obtain ⟨_, _, ⟨T490, L490, k490, n490⟩, -, X490, ⟨Lc490, hQ490, l490, y490, z490⟩, st490⟩ := X481.virtualBack hx (y := own_y6) (z := own_y6) hown (mvT hZ w_27) (mvT hZ w_28) (notFace_of_selects (args := #[]) (mvT hZ w_30)) (mvT hZ w_30) (mvT hZ w_29) (by decide) (backOf (W := 0) (own_tone l Z a0 hw [] a105 ar121 a25 (1 : Int32) (0 : Int32) [(.ref a25), .null, .null] [.null, .null, .null] T481.heap n0 Ex481 gk481 gc481 gv481 F482 gn105 gn_ar121 ne_ar121_a105 (by decide) (by decide) (by decide) rfl rfl) hZ w_31 w_12 (by decide) (by decide)) qa490 qc490 (g := (mkF m 245 #[iv p0, iv p1, iv p2, iv p3, iv p4, iv p5, iv (3 : Int32), iv kk, rv a1, rv a4, rv a9, rv a16, rv a25, rv a36, rv a105, iv (0 : Int32), .val .null, .val .null, .val .null, .val .null, iv (0 : Int32), .unset, .unset, .unset, .unset] [(.ref a105)])) rfl (by rw [hml]; rfl) (Steps.refl _) (argsL := []) (rest := []) (lenOf own_pd5 rfl) rfl (by show 2 * 0 + _ ≤ _; exact own_b rfl) (hb hby at_245) (fun _ _ => ⟨rfl, rfl, (own_b rfl : 8 + 0 ≤ _), (own_b rfl : 14 + 0 ≤ _)⟩)
      dsimp only [Pt.U, Pt.locs, Pt.cells, Pt.slots] at X490 l490 y490 z490 st490 hQ490
      obtain ⟨rfl, Nq490, K490, Ex490, gk490, gc490, gv490⟩ := hQ490
      obtain ⟨L490, X490, N490⟩ := own_absC (K := 8) (K' := 14) X490 l490 y490 z490 N481 Nq490
      have F491 : n0 ≤ T490.heap.size := Nat.le_trans F482 K490.1
      have F492 := Keep.trans F483 K490 (allS (Or.inr (Nat.le_trans F93.1 (Nat.le_of_eq ga105.symm))) (allS (Or.inr (Nat.le_trans K107.1 gz121)) all0))
      have F493 := own_Ao_keep F484 K490 (ninS (Ne.symm ne105_a36) (ninS (Ne.symm ne_ar121_a36) nin0))
      have F494 := Exa.keep Ex481 K490
      have F495 := own_Bn_keep F489 K490 hbq
      refine own_tr (B := (T490.setTop (mkF m 248 #[iv p0, iv p1, iv p2, iv p3, iv p4, iv p5, iv (3 : Int32), iv kk, rv a1, rv a4, rv a9, rv a16, rv a25, rv a36, rv a105, iv (0 : Int32), .val .null, .val .null, .val .null, .val .null, iv (0 : Int32), .unset, .unset, .unset, .unset] [(.ref a25)]))) st490 ?_
      obtain ⟨T499, X499, e499, st499⟩ := castY X490 hx hZ hown w_7 rfl (Ins.of_exa (own_Bn_exa F495 (List.mem_of_getElem? (i := 4) rfl)) w_9) (g := (mkF m 248 #[iv p0, iv p1, iv p2, iv p3, iv p4, iv p5, iv (3 : Int32), iv kk, rv a1, rv a4, rv a9, rv a16, rv a25, rv a36, rv a105, iv (0 : Int32), .val .null, .val .null, .val .null, .val .null, iv (0 : Int32), .unset, .unset, .unset, .unset] [(.ref a25)])) rfl rfl (hb hby at_248)
      refine own_go (B := (T499.setTop (mkF m 251 #[iv p0, iv p1, iv p2, iv p3, iv p4, iv p5, iv (3 : Int32), iv kk, rv a1, rv a4, rv a9, rv a16, rv a25, rv a36, rv a105, iv (0 : Int32), .val .null, .val .null, .val .null, .val .null, iv (0 : Int32), .unset, .unset, .unset, .unset] [(.ref a25)]))) st499 ?_
      refine own_go (B := (T499.setTop (mkF m 253 #[iv p0, iv p1, iv p2, iv p3, iv p4, iv p5, iv (3 : Int32), iv kk, rv a1, rv a4, rv a9, rv a16, rv a25, rv a36, rv a105, iv (0 : Int32), .val .null, .val .null, .val .null, .val .null, iv (0 : Int32), rv a25, .unset, .unset, .unset] []))) (fun t k => XS.astore X499.here hx rfl (hb hby at_251) rfl rfl (l' := #[iv p0, iv p1, iv p2, iv p3, iv p4, iv p5, iv (3 : Int32), iv kk, rv a1, rv a4, rv a9, rv a16, rv a25, rv a36, rv a105, iv (0 : Int32), .val .null, .val .null, .val .null, .val .null, iv (0 : Int32), rv a25, .unset, .unset, .unset]) rfl k) ?_
      refine own_go (B := (T499.setTop (mkF m 255 #[iv p0, iv p1, iv p2, iv p3, iv p4, iv p5, iv (3 : Int32), iv kk, rv a1, rv a4, rv a9, rv a16, rv a25, rv a36, rv a105, iv (0 : Int32), .val .null, .val .null, .val .null, .val .null, iv (0 : Int32), rv a25, .unset, .unset, .unset] [(.int (3 : Int32))]))) (fun t k => XS.iload X499.here hx rfl (hb hby at_253) rfl k) ?_
      have hc255 : (0 : Int32) < (3 : Int32) := (by decide)
      refine own_ifN X499 hx (hb hby at_255) (pn := 258) rfl hc255 ?_
      refine own_go (B := (T499.setTop (mkF m 260 #[iv p0, iv p1, iv p2, iv p3, iv p4, iv p5, iv (3 : Int32), iv kk, rv a1, rv a4, rv a9, rv a16, rv a25, rv a36, rv a105, iv (0 : Int32), .val .null, .val .null, .val .null, .val .null, iv (0 : Int32), rv a25, .unset, .unset, .unset] [(.ref a25)]))) (fun t k => XS.aload X499.here hx rfl (hb hby at_258) rfl rfl k) ?_
      refine own_go (B := (T499.setTop (mkF m 264 #[iv p0, iv p1, iv p2, iv p3, iv p4, iv p5, iv (3 : Int32), iv kk, rv a1, rv a4, rv a9, rv a16, rv a25, rv a36, rv a105, iv (0 : Int32), .val .null, .val .null, .val .null, .val .null, iv (0 : Int32), rv a25, .unset, .unset, .unset] [(.ref a25)]))) (fun t k => XS.goto X499.here hx rfl (pc0 := 260) (pc' := 264) rfl (hb hby at_260) (by decide) (by decide) k) ?_
      refine own_go (B := (T499.setTop (mkF m 266 #[iv p0, iv p1, iv p2, iv p3, iv p4, iv p5, iv (3 : Int32), iv kk, rv a1, rv a4, rv a9, rv a16, rv a25, rv a36, rv a105, iv (0 : Int32), .val .null, .val .null, .val .null, .val .null, iv (0 : Int32), rv a25, rv a25, .unset, .unset] []))) (fun t k => XS.astore X499.here hx rfl (hb hby at_264) rfl rfl (l' := #[iv p0, iv p1, iv p2, iv p3, iv p4, iv p5, iv (3 : Int32), iv kk, rv a1, rv a4, rv a9, rv a16, rv a25, rv a36, rv a105, iv (0 : Int32), .val .null, .val .null, .val .null, .val .null, iv (0 : Int32), rv a25, rv a25, .unset, .unset]) rfl k) ?_
      refine own_go (B := (T499.setTop (mkF m 268 #[iv p0, iv p1, iv p2, iv p3, iv p4, iv p5, iv (3 : Int32), iv kk, rv a1, rv a4, rv a9, rv a16, rv a25, rv a36, rv a105, iv (0 : Int32), .val .null, .val .null, .val .null, .val .null, iv (0 : Int32), rv a25, rv a25, .unset, .unset] [(.ref a25)]))) (fun t k => XS.aload X499.here hx rfl (hb hby at_266) rfl rfl k) ?_
      refine own_go (B := (T499.setTop (mkF m 270 #[iv p0, iv p1, iv p2, iv p3, iv p4, iv p5, iv (3 : Int32), iv kk, rv a1, rv a4, rv a9, rv a16, rv a25, rv a36, rv a105, iv (0 : Int32), .val .null, .val .null, .val .null, .val .null, iv (0 : Int32), rv a25, rv a25, .unset, .unset] [(.ref a25), (.ref a25)]))) (fun t k => XS.aload X499.here hx rfl (hb hby at_268) rfl rfl k) ?_
      obtain ⟨_, _, ⟨T500, L500, k500, n500⟩, -, X500, ⟨Lc500, hQ500, l500, y500, z500⟩, st500⟩ := Jvm.LawKit.callS X499 hx (y := own_y7) hown (mvT hZ w_34) (mvT hZ w_35) (mvT hZ w_36) (mvT hZ w_37) (by decide) (backOf (W := 0) (own_same1 l Z a0 hw [] a25 a25 p5 T490.heap n0 (own_Bn_exa F495 (List.mem_of_getElem? (i := 4) rfl)) (own_Bn_fld F495 (List.mem_of_getElem? (i := 4) rfl)) (own_Bn_exa F495 (List.mem_of_getElem? (i := 4) rfl)) (own_Bn_fld F495 (List.mem_of_getElem? (i := 4) rfl))) hZ w_37 w_36 (by decide) (by decide)) (g := (mkF m 270 #[iv p0, iv p1, iv p2, iv p3, iv p4, iv p5, iv (3 : Int32), iv kk, rv a1, rv a4, rv a9, rv a16, rv a25, rv a36, rv a105, iv (0 : Int32), .val .null, .val .null, .val .null, .val .null, iv (0 : Int32), rv a25, rv a25, .unset, .unset] [(.ref a25), (.ref a25)])) rfl (by rw [hml]; rfl) (argsL := [(.ref a25), (.ref a25)]) (rest := []) (lenOf own_pd6 rfl) rfl (by show 2 * 0 + _ ≤ _; exact own_b rfl) (hb hby at_270) (fun _ _ => ⟨rfl, e499, (own_b rfl : 8 + 0 ≤ _), (own_b rfl : 14 + 0 ≤ _)⟩)
      dsimp only [Pt.U, Pt.locs, Pt.cells, Pt.slots] at X500 l500 y500 z500 st500 hQ500
      obtain ⟨rfl, Nq500, eq500⟩ := hQ500
      obtain ⟨L500, X500, N500⟩ := own_absC (K := 8) (K' := 14) X500 l500 y500 z500 N490 Nq500
      have e500 : T500.heap = T490.heap := eq500
      refine own_go (B := (T500.setTop (mkF m 273 #[iv p0, iv p1, iv p2, iv p3, iv p4, iv p5, iv (3 : Int32), iv kk, rv a1, rv a4, rv a9, rv a16, rv a25, rv a36, rv a105, iv (0 : Int32), .val .null, .val .null, .val .null, .val .null, iv (0 : Int32), rv a25, rv a25, .unset, .unset] [(.int (1 : Int32))]))) st500 ?_
      have hc273 : ¬ (1 : Int32) = (0 : Int32) := (by decide)
      refine own_ifY X500 hx (hb hby at_273) (pc' := 278) (by decide) (by decide) hc273 ?_
      refine own_go (B := (T500.setTop (mkF m 280 #[iv p0, iv p1, iv p2, iv p3, iv p4, iv p5, iv (3 : Int32), iv kk, rv a1, rv a4, rv a9, rv a16, rv a25, rv a36, rv a105, iv (0 : Int32), .val .null, .val .null, .val .null, .val .null, iv (0 : Int32), rv a25, rv a25, .unset, .unset] [(.ref a105)]))) (fun t k => XS.aload X500.here hx rfl (hb hby at_278) rfl rfl k) ?_
      obtain ⟨cq501, kq501, qa501, qb501, qc501⟩ := isOf hZ e500 Ex490
      obtain ⟨_, _, ⟨T501, L501, k501, n501⟩, -, X501, ⟨Lc501, hQ501, l501, y501, z501⟩, st501⟩ := X500.virtualBack hx (y := own_y6) (z := own_y6) hown (mvT hZ w_27) (mvT hZ w_28) (notFace_of_selects (args := #[]) (mvT hZ w_30)) (mvT hZ w_30) (mvT hZ w_29) (by decide) (backOf (W := 0) (own_tnone l Z a0 hw [] a105 T490.heap n0 gc490) hZ w_31 w_12 (by decide) (by decide)) qa501 qc501 (g := (mkF m 280 #[iv p0, iv p1, iv p2, iv p3, iv p4, iv p5, iv (3 : Int32), iv kk, rv a1, rv a4, rv a9, rv a16, rv a25, rv a36, rv a105, iv (0 : Int32), .val .null, .val .null, .val .null, .val .null, iv (0 : Int32), rv a25, rv a25, .unset, .unset] [(.ref a105)])) rfl (by rw [hml]; rfl) (Steps.refl _) (argsL := []) (rest := []) (lenOf own_pd5 rfl) rfl (by show 2 * 0 + _ ≤ _; exact own_b rfl) (hb hby at_280) (fun _ _ => ⟨rfl, e500, (own_b rfl : 8 + 0 ≤ _), (own_b rfl : 14 + 0 ≤ _)⟩)
      dsimp only [Pt.U, Pt.locs, Pt.cells, Pt.slots] at X501 l501 y501 z501 st501 hQ501
      obtain ⟨rfl, Nq501, eq501⟩ := hQ501
      obtain ⟨L501, X501, N501⟩ := own_absC (K := 8) (K' := 14) X501 l501 y501 z501 N500 Nq501
      have e501 : T501.heap = T490.heap := eq501
      refine own_tr (B := (T501.setTop (mkF m 283 #[iv p0, iv p1, iv p2, iv p3, iv p4, iv p5, iv (3 : Int32), iv kk, rv a1, rv a4, rv a9, rv a16, rv a25, rv a36, rv a105, iv (0 : Int32), .val .null, .val .null, .val .null, .val .null, iv (0 : Int32), rv a25, rv a25, .unset, .unset] [.null]))) st501 ?_
      refine own_go (B := (T501.setTop (mkF m 286 #[iv p0, iv p1, iv p2, iv p3, iv p4, iv p5, iv (3 : Int32), iv kk, rv a1, rv a4, rv a9, rv a16, rv a25, rv a36, rv a105, iv (0 : Int32), .val .null, .val .null, .val .null, .val .null, iv (0 : Int32), rv a25, rv a25, .unset, .unset] [.null]))) (X501.checkcastNull hx (g := (mkF m 283 #[iv p0, iv p1, iv p2, iv p3, iv p4, iv p5, iv (3 : Int32), iv kk, rv a1, rv a4, rv a9, rv a16, rv a25, rv a36, rv a105, iv (0 : Int32), .val .null, .val .null, .val .null, .val .null, iv (0 : Int32), rv a25, rv a25, .unset, .unset] [.null])) rfl rfl (hb hby at_283)) ?_
      refine own_go (B := (T501.setTop (mkF m 288 #[iv p0, iv p1, iv p2, iv p3, iv p4, iv p5, iv (3 : Int32), iv kk, rv a1, rv a4, rv a9, rv a16, rv a25, rv a36, rv a105, iv (0 : Int32), .val .null, .val .null, .val .null, .val .null, iv (0 : Int32), rv a25, rv a25, .val .null, .unset] []))) (fun t k => XS.astore X501.here hx rfl (hb hby at_286) rfl rfl (l' := #[iv p0, iv p1, iv p2, iv p3, iv p4, iv p5, iv (3 : Int32), iv kk, rv a1, rv a4, rv a9, rv a16, rv a25, rv a36, rv a105, iv (0 : Int32), .val .null, .val .null, .val .null, .val .null, iv (0 : Int32), rv a25, rv a25, .val .null, .unset]) rfl k) ?_
      refine own_go (B := (T501.setTop (mkF m 290 #[iv p0, iv p1, iv p2, iv p3, iv p4, iv p5, iv (3 : Int32), iv kk, rv a1, rv a4, rv a9, rv a16, rv a25, rv a36, rv a105, iv (0 : Int32), .val .null, .val .null, .val .null, .val .null, iv (0 : Int32), rv a25, rv a25, .val .null, .unset] [(.int (0 : Int32))]))) (fun t k => XS.iload X501.here hx rfl (hb hby at_288) rfl k) ?_
      refine own_go (B := (T501.setTop (mkF m 291 #[iv p0, iv p1, iv p2, iv p3, iv p4, iv p5, iv (3 : Int32), iv kk, rv a1, rv a4, rv a9, rv a16, rv a25, rv a36, rv a105, iv (0 : Int32), .val .null, .val .null, .val .null, .val .null, iv (0 : Int32), rv a25, rv a25, .val .null, .unset] [(.int (1 : Int32)), (.int (0 : Int32))]))) (fun t k => own_iconst (v := (1 : Int32)) X501.here hx rfl (hb hby at_290) (by decide) k) ?_
      have hc291 : (0 : Int32) < (1 : Int32) := (by decide)
      refine own_icmpY X501 hx (hb hby at_291) (pc' := 304) (by decide) (by decide) hc291 ?_
      refine own_go (B := (T501.setTop (mkF m 305 #[iv p0, iv p1, iv p2, iv p3, iv p4, iv p5, iv (3 : Int32), iv kk, rv a1, rv a4, rv a9, rv a16, rv a25, rv a36, rv a105, iv (0 : Int32), .val .null, .val .null, .val .null, .val .null, iv (0 : Int32), rv a25, rv a25, .val .null, .unset] [.null]))) (fun t k => XS.aconstNull X501.here hx rfl (hb hby at_304) k) ?_
      refine own_go (B := (T501.setTop (mkF m 307 #[iv p0, iv p1, iv p2, iv p3, iv p4, iv p5, iv (3 : Int32), iv kk, rv a1, rv a4, rv a9, rv a16, rv a25, rv a36, rv a105, iv (0 : Int32), .val .null, .val .null, .val .null, .val .null, iv (0 : Int32), rv a25, rv a25, .val .null, .val .null] []))) (fun t k => XS.astore X501.here hx rfl (hb hby at_305) rfl rfl (l' := #[iv p0, iv p1, iv p2, iv p3, iv p4, iv p5, iv (3 : Int32), iv kk, rv a1, rv a4, rv a9, rv a16, rv a25, rv a36, rv a105, iv (0 : Int32), .val .null, .val .null, .val .null, .val .null, iv (0 : Int32), rv a25, rv a25, .val .null, .val .null]) rfl k) ?_
      refine own_go (B := (T501.setTop (mkF m 309 #[iv p0, iv p1, iv p2, iv p3, iv p4, iv p5, iv (3 : Int32), iv kk, rv a1, rv a4, rv a9, rv a16, rv a25, rv a36, rv a105, iv (0 : Int32), .val .null, .val .null, .val .null, .val .null, iv (0 : Int32), rv a25, rv a25, .val .null, .val .null] [.null]))) (fun t k => XS.aload X501.here hx rfl (hb hby at_307) rfl rfl k) ?_
      refine own_go (B := (T501.setTop (mkF m 311 #[iv p0, iv p1, iv p2, iv p3, iv p4, iv p5, iv (3 : Int32), iv kk, rv a1, rv a4, rv a9, rv a16, rv a25, rv a36, rv a105, iv (0 : Int32), .val .null, .val .null, .val .null, .val .null, iv (0 : Int32), rv a25, rv a25, .val .null, .val .null] [.null, .null]))) (fun t k => XS.aload X501.here hx rfl (hb hby at_309) rfl rfl k) ?_
      obtain ⟨_, _, ⟨T503, L503, k503, n503⟩, -, X503, ⟨Lc503, hQ503, l503, y503, z503⟩, st503⟩ := Jvm.LawKit.callS X501 hx (y := own_y7) hown (mvT hZ w_34) (mvT hZ w_35) (mvT hZ w_36) (mvT hZ w_37) (by decide) (backOf (W := 0) (own_same0 l Z a0 hw [] T490.heap n0) hZ w_37 w_36 (by decide) (by decide)) (g := (mkF m 311 #[iv p0, iv p1, iv p2, iv p3, iv p4, iv p5, iv (3 : Int32), iv kk, rv a1, rv a4, rv a9, rv a16, rv a25, rv a36, rv a105, iv (0 : Int32), .val .null, .val .null, .val .null, .val .null, iv (0 : Int32), rv a25, rv a25, .val .null, .val .null] [.null, .null])) rfl (by rw [hml]; rfl) (argsL := [.null, .null]) (rest := []) (lenOf own_pd6 rfl) rfl (by show 2 * 0 + _ ≤ _; exact own_b rfl) (hb hby at_311) (fun _ _ => ⟨rfl, e501, (own_b rfl : 8 + 0 ≤ _), (own_b rfl : 14 + 0 ≤ _)⟩)
      dsimp only [Pt.U, Pt.locs, Pt.cells, Pt.slots] at X503 l503 y503 z503 st503 hQ503
      obtain ⟨rfl, Nq503, eq503⟩ := hQ503
      obtain ⟨L503, X503, N503⟩ := own_absC (K := 8) (K' := 14) X503 l503 y503 z503 N501 Nq503
      have e503 : T503.heap = T490.heap := eq503
      refine own_go (B := (T503.setTop (mkF m 314 #[iv p0, iv p1, iv p2, iv p3, iv p4, iv p5, iv (3 : Int32), iv kk, rv a1, rv a4, rv a9, rv a16, rv a25, rv a36, rv a105, iv (0 : Int32), .val .null, .val .null, .val .null, .val .null, iv (0 : Int32), rv a25, rv a25, .val .null, .val .null] [(.int (1 : Int32))]))) st503 ?_
      exact own_retZ X503 hx hlk Bd.returns (hb hby at_314) (by decide) (own_b rfl) (own_b rfl) (Q := (own_law_Q Z p0 p1 p2 p3 p4 p5 ca h0 n0)) ⟨rfl, N503⟩
    have J1 : ∀ (T504 : State) (L504 : List Loc) (h504 : Heap) (X504 : Stand p l e room_1 s m #[(.int p0), (.int p1), (.int p2), (.int p3), (.int p4), (.int p5)] below meth c T504 L504 8 14) (e504 : T504.heap = h504) (N504 : Fr n0 L504) (F504_0 : n0 ≤ h504.size) (F504_1 : Keep h0 h504 []) (F504_2 : own_Ao Z h504 a36 "java/lang/Integer" [(.ref a1), (.ref a4), (.ref a9), (.ref a16)]) (F504_3 : Exa Z h504 a105 "com/example/pagemason/pagemason/core/Spares") (F504_4 : Fld Z h504 a105 "com/example/pagemason/pagemason/core/Spares" "kept" "[Ljava/lang/Object;" (.ref ar121)) (F504_5 : Fld Z h504 a105 "com/example/pagemason/pagemason/core/Spares" "count" "I" (.int (1 : Int32))) (F504_6 : own_Ao Z h504 ar121 "java/lang/Object" [(.ref a1), .null, .null]) (F504_7 : own_Bn Z h504 [(a1, p1), (a4, p2), (a9, p3), (a16, p4), (a25, p5)]) (kk : Int32), own_G p.tables e below (fun o U' => ∃ v L, o = .returned v ∧ (own_law_Q Z p0 p1 p2 p3 p4 p5 ca h0 n0) v U'.heap L ∧ FrameEnd s o U' L 24 128) (T504.setTop (mkF m 144 #[iv p0, iv p1, iv p2, iv p3, iv p4, iv p5, iv (3 : Int32), iv kk, rv a1, rv a4, rv a9, rv a16, rv a25, rv a36, rv a105, iv (1 : Int32), .unset, .unset, .unset, .unset, .unset, .unset, .unset, .unset, .unset] [])) := by
      intro T504 L504 h504 X504 e504 N504 F504_0 F504_1 F504_2 F504_3 F504_4 F504_5 F504_6 F504_7 kk
      refine own_go (B := (T504.setTop (mkF m 146 #[iv p0, iv p1, iv p2, iv p3, iv p4, iv p5, iv (3 : Int32), iv kk, rv a1, rv a4, rv a9, rv a16, rv a25, rv a36, rv a105, iv (1 : Int32), .unset, .unset, .unset, .unset, .unset, .unset, .unset, .unset, .unset] [(.ref a105)]))) (fun t k => XS.aload X504.here hx rfl (hb hby at_144) rfl rfl k) ?_
      obtain ⟨cq505, kq505, qa505, qb505, qc505⟩ := isOf hZ e504 F504_3
      obtain ⟨_, _, ⟨T505, L505, k505, n505⟩, -, X505, ⟨Lc505, hQ505, l505, y505, z505⟩, st505⟩ := X504.virtualBack hx (y := own_y6) (z := own_y6) hown (mvT hZ w_27) (mvT hZ w_28) (notFace_of_selects (args := #[]) (mvT hZ w_30)) (mvT hZ w_30) (mvT hZ w_29) (by decide) (backOf (W := 0) (own_tone l Z a0 hw [] a105 ar121 a1 (1 : Int32) (0 : Int32) [(.ref a1), .null, .null] [.null, .null, .null] h504 n0 F504_3 F504_4 F504_5 F504_6 F504_0 gn105 gn_ar121 ne_ar121_a105 (by decide) (by decide) (by decide) rfl rfl) hZ w_31 w_12 (by decide) (by decide)) qa505 qc505 (g := (mkF m 146 #[iv p0, iv p1, iv p2, iv p3, iv p4, iv p5, iv (3 : Int32), iv kk, rv a1, rv a4, rv a9, rv a16, rv a25, rv a36, rv a105, iv (1 : Int32), .unset, .unset, .unset, .unset, .unset, .unset, .unset, .unset, .unset] [(.ref a105)])) rfl (by rw [hml]; rfl) (Steps.refl _) (argsL := []) (rest := []) (lenOf own_pd5 rfl) rfl (by show 2 * 0 + _ ≤ _; exact own_b rfl) (hb hby at_146) (fun _ _ => ⟨rfl, e504, (own_b rfl : 8 + 0 ≤ _), (own_b rfl : 14 + 0 ≤ _)⟩)
      dsimp only [Pt.U, Pt.locs, Pt.cells, Pt.slots] at X505 l505 y505 z505 st505 hQ505
      obtain ⟨rfl, Nq505, K505, Ex505, gk505, gc505, gv505⟩ := hQ505
      obtain ⟨L505, X505, N505⟩ := own_absC (K := 8) (K' := 14) X505 l505 y505 z505 N504 Nq505
      have F506 : n0 ≤ T505.heap.size := Nat.le_trans F504_0 K505.1
      have F507 := Keep.trans F504_1 K505 (allS (Or.inr (Nat.le_trans F93.1 (Nat.le_of_eq ga105.symm))) (allS (Or.inr (Nat.le_trans K107.1 gz121)) all0))
      have F508 := own_Ao_keep F504_2 K505 (ninS (Ne.symm ne105_a36) (ninS (Ne.symm ne_ar121_a36) nin0))
      have F509 := Exa.keep F504_3 K505
      have F513 := own_Bn_keep F504_7 K505 hbq
      refine own_tr (B := (T505.setTop (mkF m 149 #[iv p0, iv p1, iv p2, iv p3, iv p4, iv p5, iv (3 : Int32), iv kk, rv a1, rv a4, rv a9, rv a16, rv a25, rv a36, rv a105, iv (1 : Int32), .unset, .unset, .unset, .unset, .unset, .unset, .unset, .unset, .unset] [(.ref a1)]))) st505 ?_
      obtain ⟨T514, X514, e514, st514⟩ := castY X505 hx hZ hown w_7 rfl (Ins.of_exa (own_Bn_exa F513 (List.mem_of_getElem? (i := 0) rfl)) w_9) (g := (mkF m 149 #[iv p0, iv p1, iv p2, iv p3, iv p4, iv p5, iv (3 : Int32), iv kk, rv a1, rv a4, rv a9, rv a16, rv a25, rv a36, rv a105, iv (1 : Int32), .unset, .unset, .unset, .unset, .unset, .unset, .unset, .unset, .unset] [(.ref a1)])) rfl rfl (hb hby at_149)
      refine own_go (B := (T514.setTop (mkF m 152 #[iv p0, iv p1, iv p2, iv p3, iv p4, iv p5, iv (3 : Int32), iv kk, rv a1, rv a4, rv a9, rv a16, rv a25, rv a36, rv a105, iv (1 : Int32), .unset, .unset, .unset, .unset, .unset, .unset, .unset, .unset, .unset] [(.ref a1)]))) st514 ?_
      refine own_go (B := (T514.setTop (mkF m 154 #[iv p0, iv p1, iv p2, iv p3, iv p4, iv p5, iv (3 : Int32), iv kk, rv a1, rv a4, rv a9, rv a16, rv a25, rv a36, rv a105, iv (1 : Int32), rv a1, .unset, .unset, .unset, .unset, .unset, .unset, .unset, .unset] []))) (fun t k => XS.astore X514.here hx rfl (hb hby at_152) rfl rfl (l' := #[iv p0, iv p1, iv p2, iv p3, iv p4, iv p5, iv (3 : Int32), iv kk, rv a1, rv a4, rv a9, rv a16, rv a25, rv a36, rv a105, iv (1 : Int32), rv a1, .unset, .unset, .unset, .unset, .unset, .unset, .unset, .unset]) rfl k) ?_
      refine own_go (B := (T514.setTop (mkF m 156 #[iv p0, iv p1, iv p2, iv p3, iv p4, iv p5, iv (3 : Int32), iv kk, rv a1, rv a4, rv a9, rv a16, rv a25, rv a36, rv a105, iv (1 : Int32), rv a1, .unset, .unset, .unset, .unset, .unset, .unset, .unset, .unset] [(.int (1 : Int32))]))) (fun t k => XS.iload X514.here hx rfl (hb hby at_154) rfl k) ?_
      refine own_go (B := (T514.setTop (mkF m 157 #[iv p0, iv p1, iv p2, iv p3, iv p4, iv p5, iv (3 : Int32), iv kk, rv a1, rv a4, rv a9, rv a16, rv a25, rv a36, rv a105, iv (1 : Int32), rv a1, .unset, .unset, .unset, .unset, .unset, .unset, .unset, .unset] [(.int (1 : Int32)), (.int (1 : Int32))]))) (fun t k => own_iconst (v := (1 : Int32)) X514.here hx rfl (hb hby at_156) (by decide) k) ?_
      have hc157 : ¬ (1 : Int32) < (1 : Int32) := (by decide)
      refine own_icmpN X514 hx (hb hby at_157) (pn := 160) rfl hc157 ?_
      refine own_go (B := (T514.setTop (mkF m 162 #[iv p0, iv p1, iv p2, iv p3, iv p4, iv p5, iv (3 : Int32), iv kk, rv a1, rv a4, rv a9, rv a16, rv a25, rv a36, rv a105, iv (1 : Int32), rv a1, .unset, .unset, .unset, .unset, .unset, .unset, .unset, .unset] [(.ref a36)]))) (fun t k => XS.aload X514.here hx rfl (hb hby at_160) rfl rfl k) ?_
      refine own_go (B := (T514.setTop (mkF m 164 #[iv p0, iv p1, iv p2, iv p3, iv p4, iv p5, iv (3 : Int32), iv kk, rv a1, rv a4, rv a9, rv a16, rv a25, rv a36, rv a105, iv (1 : Int32), rv a1, .unset, .unset, .unset, .unset, .unset, .unset, .unset, .unset] [(.int (1 : Int32)), (.ref a36)]))) (fun t k => XS.iload X514.here hx rfl (hb hby at_162) rfl k) ?_
      refine own_go (B := (T514.setTop (mkF m 165 #[iv p0, iv p1, iv p2, iv p3, iv p4, iv p5, iv (3 : Int32), iv kk, rv a1, rv a4, rv a9, rv a16, rv a25, rv a36, rv a105, iv (1 : Int32), rv a1, .unset, .unset, .unset, .unset, .unset, .unset, .unset, .unset] [(.int (1 : Int32)), (.int (1 : Int32)), (.ref a36)]))) (fun t k => own_iconst (v := (1 : Int32)) X514.here hx rfl (hb hby at_164) (by decide) k) ?_
      refine own_go (B := (T514.setTop (mkF m 166 #[iv p0, iv p1, iv p2, iv p3, iv p4, iv p5, iv (3 : Int32), iv kk, rv a1, rv a4, rv a9, rv a16, rv a25, rv a36, rv a105, iv (1 : Int32), rv a1, .unset, .unset, .unset, .unset, .unset, .unset, .unset, .unset] [(.int ((1 : Int32) - (1 : Int32))), (.ref a36)]))) (fun t k => XS.isub (x := (1 : Int32)) (y := (1 : Int32)) X514.here hx rfl (hb hby at_165) rfl k) ?_
      rw [show ((1 : Int32) - (1 : Int32)) = (0 : Int32) from by decide]
      refine own_go (B := (T514.setTop (mkF m 167 #[iv p0, iv p1, iv p2, iv p3, iv p4, iv p5, iv (3 : Int32), iv kk, rv a1, rv a4, rv a9, rv a16, rv a25, rv a36, rv a105, iv (1 : Int32), rv a1, .unset, .unset, .unset, .unset, .unset, .unset, .unset, .unset] [(.ref a1)]))) (own_ldR X514 hx hZ e514 (own_Ao_ar F508) rfl (v := (.ref a1)) (by decide) rfl (g := (mkF m 166 #[iv p0, iv p1, iv p2, iv p3, iv p4, iv p5, iv (3 : Int32), iv kk, rv a1, rv a4, rv a9, rv a16, rv a25, rv a36, rv a105, iv (1 : Int32), rv a1, .unset, .unset, .unset, .unset, .unset, .unset, .unset, .unset] [(.int (0 : Int32)), (.ref a36)])) rfl rfl (hb hby at_166)) ?_
      refine own_go (B := (T514.setTop (mkF m 171 #[iv p0, iv p1, iv p2, iv p3, iv p4, iv p5, iv (3 : Int32), iv kk, rv a1, rv a4, rv a9, rv a16, rv a25, rv a36, rv a105, iv (1 : Int32), rv a1, .unset, .unset, .unset, .unset, .unset, .unset, .unset, .unset] [(.ref a1)]))) (fun t k => XS.goto X514.here hx rfl (pc0 := 167) (pc' := 171) rfl (hb hby at_167) (by decide) (by decide) k) ?_
      refine own_go (B := (T514.setTop (mkF m 173 #[iv p0, iv p1, iv p2, iv p3, iv p4, iv p5, iv (3 : Int32), iv kk, rv a1, rv a4, rv a9, rv a16, rv a25, rv a36, rv a105, iv (1 : Int32), rv a1, rv a1, .unset, .unset, .unset, .unset, .unset, .unset, .unset] []))) (fun t k => XS.astore X514.here hx rfl (hb hby at_171) rfl rfl (l' := #[iv p0, iv p1, iv p2, iv p3, iv p4, iv p5, iv (3 : Int32), iv kk, rv a1, rv a4, rv a9, rv a16, rv a25, rv a36, rv a105, iv (1 : Int32), rv a1, rv a1, .unset, .unset, .unset, .unset, .unset, .unset, .unset]) rfl k) ?_
      refine own_go (B := (T514.setTop (mkF m 175 #[iv p0, iv p1, iv p2, iv p3, iv p4, iv p5, iv (3 : Int32), iv kk, rv a1, rv a4, rv a9, rv a16, rv a25, rv a36, rv a105, iv (1 : Int32), rv a1, rv a1, .unset, .unset, .unset, .unset, .unset, .unset, .unset] [(.ref a1)]))) (fun t k => XS.aload X514.here hx rfl (hb hby at_173) rfl rfl k) ?_
      refine own_go (B := (T514.setTop (mkF m 177 #[iv p0, iv p1, iv p2, iv p3, iv p4, iv p5, iv (3 : Int32), iv kk, rv a1, rv a4, rv a9, rv a16, rv a25, rv a36, rv a105, iv (1 : Int32), rv a1, rv a1, .unset, .unset, .unset, .unset, .unset, .unset, .unset] [(.ref a1), (.ref a1)]))) (fun t k => XS.aload X514.here hx rfl (hb hby at_175) rfl rfl k) ?_
      obtain ⟨_, _, ⟨T515, L515, k515, n515⟩, -, X515, ⟨Lc515, hQ515, l515, y515, z515⟩, st515⟩ := Jvm.LawKit.callS X514 hx (y := own_y7) hown (mvT hZ w_34) (mvT hZ w_35) (mvT hZ w_36) (mvT hZ w_37) (by decide) (backOf (W := 0) (own_same1 l Z a0 hw [] a1 a1 p1 T505.heap n0 (own_Bn_exa F513 (List.mem_of_getElem? (i := 0) rfl)) (own_Bn_fld F513 (List.mem_of_getElem? (i := 0) rfl)) (own_Bn_exa F513 (List.mem_of_getElem? (i := 0) rfl)) (own_Bn_fld F513 (List.mem_of_getElem? (i := 0) rfl))) hZ w_37 w_36 (by decide) (by decide)) (g := (mkF m 177 #[iv p0, iv p1, iv p2, iv p3, iv p4, iv p5, iv (3 : Int32), iv kk, rv a1, rv a4, rv a9, rv a16, rv a25, rv a36, rv a105, iv (1 : Int32), rv a1, rv a1, .unset, .unset, .unset, .unset, .unset, .unset, .unset] [(.ref a1), (.ref a1)])) rfl (by rw [hml]; rfl) (argsL := [(.ref a1), (.ref a1)]) (rest := []) (lenOf own_pd6 rfl) rfl (by show 2 * 0 + _ ≤ _; exact own_b rfl) (hb hby at_177) (fun _ _ => ⟨rfl, e514, (own_b rfl : 8 + 0 ≤ _), (own_b rfl : 14 + 0 ≤ _)⟩)
      dsimp only [Pt.U, Pt.locs, Pt.cells, Pt.slots] at X515 l515 y515 z515 st515 hQ515
      obtain ⟨rfl, Nq515, eq515⟩ := hQ515
      obtain ⟨L515, X515, N515⟩ := own_absC (K := 8) (K' := 14) X515 l515 y515 z515 N505 Nq515
      have e515 : T515.heap = T505.heap := eq515
      refine own_go (B := (T515.setTop (mkF m 180 #[iv p0, iv p1, iv p2, iv p3, iv p4, iv p5, iv (3 : Int32), iv kk, rv a1, rv a4, rv a9, rv a16, rv a25, rv a36, rv a105, iv (1 : Int32), rv a1, rv a1, .unset, .unset, .unset, .unset, .unset, .unset, .unset] [(.int (1 : Int32))]))) st515 ?_
      have hc180 : ¬ (1 : Int32) = (0 : Int32) := (by decide)
      refine own_ifY X515 hx (hb hby at_180) (pc' := 185) (by decide) (by decide) hc180 ?_
      refine own_go (B := (T515.setTop (mkF m 187 #[iv p0, iv p1, iv p2, iv p3, iv p4, iv p5, iv (3 : Int32), iv kk, rv a1, rv a4, rv a9, rv a16, rv a25, rv a36, rv a105, iv (1 : Int32), rv a1, rv a1, .unset, .unset, .unset, .unset, .unset, .unset, .unset] [(.ref a105)]))) (fun t k => XS.aload X515.here hx rfl (hb hby at_185) rfl rfl k) ?_
      obtain ⟨cq516, kq516, qa516, qb516, qc516⟩ := isOf hZ e515 Ex505
      obtain ⟨_, _, ⟨T516, L516, k516, n516⟩, -, X516, ⟨Lc516, hQ516, l516, y516, z516⟩, st516⟩ := X515.virtualBack hx (y := own_y6) (z := own_y6) hown (mvT hZ w_27) (mvT hZ w_28) (notFace_of_selects (args := #[]) (mvT hZ w_30)) (mvT hZ w_30) (mvT hZ w_29) (by decide) (backOf (W := 0) (own_tnone l Z a0 hw [] a105 T505.heap n0 gc505) hZ w_31 w_12 (by decide) (by decide)) qa516 qc516 (g := (mkF m 187 #[iv p0, iv p1, iv p2, iv p3, iv p4, iv p5, iv (3 : Int32), iv kk, rv a1, rv a4, rv a9, rv a16, rv a25, rv a36, rv a105, iv (1 : Int32), rv a1, rv a1, .unset, .unset, .unset, .unset, .unset, .unset, .unset] [(.ref a105)])) rfl (by rw [hml]; rfl) (Steps.refl _) (argsL := []) (rest := []) (lenOf own_pd5 rfl) rfl (by show 2 * 0 + _ ≤ _; exact own_b rfl) (hb hby at_187) (fun _ _ => ⟨rfl, e515, (own_b rfl : 8 + 0 ≤ _), (own_b rfl : 14 + 0 ≤ _)⟩)
      dsimp only [Pt.U, Pt.locs, Pt.cells, Pt.slots] at X516 l516 y516 z516 st516 hQ516
      obtain ⟨rfl, Nq516, eq516⟩ := hQ516
      obtain ⟨L516, X516, N516⟩ := own_absC (K := 8) (K' := 14) X516 l516 y516 z516 N515 Nq516
      have e516 : T516.heap = T505.heap := eq516
      refine own_tr (B := (T516.setTop (mkF m 190 #[iv p0, iv p1, iv p2, iv p3, iv p4, iv p5, iv (3 : Int32), iv kk, rv a1, rv a4, rv a9, rv a16, rv a25, rv a36, rv a105, iv (1 : Int32), rv a1, rv a1, .unset, .unset, .unset, .unset, .unset, .unset, .unset] [.null]))) st516 ?_
      refine own_go (B := (T516.setTop (mkF m 193 #[iv p0, iv p1, iv p2, iv p3, iv p4, iv p5, iv (3 : Int32), iv kk, rv a1, rv a4, rv a9, rv a16, rv a25, rv a36, rv a105, iv (1 : Int32), rv a1, rv a1, .unset, .unset, .unset, .unset, .unset, .unset, .unset] [.null]))) (X516.checkcastNull hx (g := (mkF m 190 #[iv p0, iv p1, iv p2, iv p3, iv p4, iv p5, iv (3 : Int32), iv kk, rv a1, rv a4, rv a9, rv a16, rv a25, rv a36, rv a105, iv (1 : Int32), rv a1, rv a1, .unset, .unset, .unset, .unset, .unset, .unset, .unset] [.null])) rfl rfl (hb hby at_190)) ?_
      refine own_go (B := (T516.setTop (mkF m 195 #[iv p0, iv p1, iv p2, iv p3, iv p4, iv p5, iv (3 : Int32), iv kk, rv a1, rv a4, rv a9, rv a16, rv a25, rv a36, rv a105, iv (1 : Int32), rv a1, rv a1, .val .null, .unset, .unset, .unset, .unset, .unset, .unset] []))) (fun t k => XS.astore X516.here hx rfl (hb hby at_193) rfl rfl (l' := #[iv p0, iv p1, iv p2, iv p3, iv p4, iv p5, iv (3 : Int32), iv kk, rv a1, rv a4, rv a9, rv a16, rv a25, rv a36, rv a105, iv (1 : Int32), rv a1, rv a1, .val .null, .unset, .unset, .unset, .unset, .unset, .unset]) rfl k) ?_
      refine own_go (B := (T516.setTop (mkF m 197 #[iv p0, iv p1, iv p2, iv p3, iv p4, iv p5, iv (3 : Int32), iv kk, rv a1, rv a4, rv a9, rv a16, rv a25, rv a36, rv a105, iv (1 : Int32), rv a1, rv a1, .val .null, .unset, .unset, .unset, .unset, .unset, .unset] [(.int (1 : Int32))]))) (fun t k => XS.iload X516.here hx rfl (hb hby at_195) rfl k) ?_
      refine own_go (B := (T516.setTop (mkF m 198 #[iv p0, iv p1, iv p2, iv p3, iv p4, iv p5, iv (3 : Int32), iv kk, rv a1, rv a4, rv a9, rv a16, rv a25, rv a36, rv a105, iv (1 : Int32), rv a1, rv a1, .val .null, .unset, .unset, .unset, .unset, .unset, .unset] [(.int (2 : Int32)), (.int (1 : Int32))]))) (fun t k => own_iconst (v := (2 : Int32)) X516.here hx rfl (hb hby at_197) (by decide) k) ?_
      have hc198 : (1 : Int32) < (2 : Int32) := (by decide)
      refine own_icmpY X516 hx (hb hby at_198) (pc' := 211) (by decide) (by decide) hc198 ?_
      refine own_go (B := (T516.setTop (mkF m 212 #[iv p0, iv p1, iv p2, iv p3, iv p4, iv p5, iv (3 : Int32), iv kk, rv a1, rv a4, rv a9, rv a16, rv a25, rv a36, rv a105, iv (1 : Int32), rv a1, rv a1, .val .null, .unset, .unset, .unset, .unset, .unset, .unset] [.null]))) (fun t k => XS.aconstNull X516.here hx rfl (hb hby at_211) k) ?_
      refine own_go (B := (T516.setTop (mkF m 214 #[iv p0, iv p1, iv p2, iv p3, iv p4, iv p5, iv (3 : Int32), iv kk, rv a1, rv a4, rv a9, rv a16, rv a25, rv a36, rv a105, iv (1 : Int32), rv a1, rv a1, .val .null, .val .null, .unset, .unset, .unset, .unset, .unset] []))) (fun t k => XS.astore X516.here hx rfl (hb hby at_212) rfl rfl (l' := #[iv p0, iv p1, iv p2, iv p3, iv p4, iv p5, iv (3 : Int32), iv kk, rv a1, rv a4, rv a9, rv a16, rv a25, rv a36, rv a105, iv (1 : Int32), rv a1, rv a1, .val .null, .val .null, .unset, .unset, .unset, .unset, .unset]) rfl k) ?_
      refine own_go (B := (T516.setTop (mkF m 216 #[iv p0, iv p1, iv p2, iv p3, iv p4, iv p5, iv (3 : Int32), iv kk, rv a1, rv a4, rv a9, rv a16, rv a25, rv a36, rv a105, iv (1 : Int32), rv a1, rv a1, .val .null, .val .null, .unset, .unset, .unset, .unset, .unset] [.null]))) (fun t k => XS.aload X516.here hx rfl (hb hby at_214) rfl rfl k) ?_
      refine own_go (B := (T516.setTop (mkF m 218 #[iv p0, iv p1, iv p2, iv p3, iv p4, iv p5, iv (3 : Int32), iv kk, rv a1, rv a4, rv a9, rv a16, rv a25, rv a36, rv a105, iv (1 : Int32), rv a1, rv a1, .val .null, .val .null, .unset, .unset, .unset, .unset, .unset] [.null, .null]))) (fun t k => XS.aload X516.here hx rfl (hb hby at_216) rfl rfl k) ?_
      obtain ⟨_, _, ⟨T518, L518, k518, n518⟩, -, X518, ⟨Lc518, hQ518, l518, y518, z518⟩, st518⟩ := Jvm.LawKit.callS X516 hx (y := own_y7) hown (mvT hZ w_34) (mvT hZ w_35) (mvT hZ w_36) (mvT hZ w_37) (by decide) (backOf (W := 0) (own_same0 l Z a0 hw [] T505.heap n0) hZ w_37 w_36 (by decide) (by decide)) (g := (mkF m 218 #[iv p0, iv p1, iv p2, iv p3, iv p4, iv p5, iv (3 : Int32), iv kk, rv a1, rv a4, rv a9, rv a16, rv a25, rv a36, rv a105, iv (1 : Int32), rv a1, rv a1, .val .null, .val .null, .unset, .unset, .unset, .unset, .unset] [.null, .null])) rfl (by rw [hml]; rfl) (argsL := [.null, .null]) (rest := []) (lenOf own_pd6 rfl) rfl (by show 2 * 0 + _ ≤ _; exact own_b rfl) (hb hby at_218) (fun _ _ => ⟨rfl, e516, (own_b rfl : 8 + 0 ≤ _), (own_b rfl : 14 + 0 ≤ _)⟩)
      dsimp only [Pt.U, Pt.locs, Pt.cells, Pt.slots] at X518 l518 y518 z518 st518 hQ518
      obtain ⟨rfl, Nq518, eq518⟩ := hQ518
      obtain ⟨L518, X518, N518⟩ := own_absC (K := 8) (K' := 14) X518 l518 y518 z518 N516 Nq518
      have e518 : T518.heap = T505.heap := eq518
      refine own_go (B := (T518.setTop (mkF m 221 #[iv p0, iv p1, iv p2, iv p3, iv p4, iv p5, iv (3 : Int32), iv kk, rv a1, rv a4, rv a9, rv a16, rv a25, rv a36, rv a105, iv (1 : Int32), rv a1, rv a1, .val .null, .val .null, .unset, .unset, .unset, .unset, .unset] [(.int (1 : Int32))]))) st518 ?_
      have hc221 : ¬ (1 : Int32) = (0 : Int32) := (by decide)
      refine own_ifY X518 hx (hb hby at_221) (pc' := 226) (by decide) (by decide) hc221 ?_
      refine own_go (B := (T518.setTop (mkF m 228 #[iv p0, iv p1, iv p2, iv p3, iv p4, iv p5, iv (3 : Int32), iv kk, rv a1, rv a4, rv a9, rv a16, rv a25, rv a36, rv a105, iv (1 : Int32), rv a1, rv a1, .val .null, .val .null, .unset, .unset, .unset, .unset, .unset] [(.int (1 : Int32))]))) (fun t k => XS.iload X518.here hx rfl (hb hby at_226) rfl k) ?_
      refine own_go (B := (T518.setTop (mkF m 229 #[iv p0, iv p1, iv p2, iv p3, iv p4, iv p5, iv (3 : Int32), iv kk, rv a1, rv a4, rv a9, rv a16, rv a25, rv a36, rv a105, iv (1 : Int32), rv a1, rv a1, .val .null, .val .null, .unset, .unset, .unset, .unset, .unset] [(.int (2 : Int32)), (.int (1 : Int32))]))) (fun t k => own_iconst (v := (2 : Int32)) X518.here hx rfl (hb hby at_228) (by decide) k) ?_
      refine own_go (B := (T518.setTop (mkF m 230 #[iv p0, iv p1, iv p2, iv p3, iv p4, iv p5, iv (3 : Int32), iv kk, rv a1, rv a4, rv a9, rv a16, rv a25, rv a36, rv a105, iv (1 : Int32), rv a1, rv a1, .val .null, .val .null, .unset, .unset, .unset, .unset, .unset] [(.int ((1 : Int32) - (2 : Int32)))]))) (fun t k => XS.isub (x := (1 : Int32)) (y := (2 : Int32)) X518.here hx rfl (hb hby at_229) rfl k) ?_
      rw [show ((1 : Int32) - (2 : Int32)) = (-1 : Int32) from by decide]
      refine own_go (B := (T518.setTop (mkF m 231 #[iv p0, iv p1, iv p2, iv p3, iv p4, iv p5, iv (3 : Int32), iv kk, rv a1, rv a4, rv a9, rv a16, rv a25, rv a36, rv a105, iv (1 : Int32), rv a1, rv a1, .val .null, .val .null, .unset, .unset, .unset, .unset, .unset] [(.int (0 : Int32)), (.int (-1 : Int32))]))) (fun t k => own_iconst (v := (0 : Int32)) X518.here hx rfl (hb hby at_230) (by decide) k) ?_
      obtain ⟨_, _, ⟨T519, L519, k519, n519⟩, -, X519, ⟨Lc519, hQ519, l519, y519, z519⟩, st519⟩ := Jvm.LawKit.callS X518 hx (y := own_y8) hown (mvT hZ w_38) (mvT hZ w_39) (mvT hZ w_25) (mvT hZ w_40) (by decide) (backOf (W := 0) (own_mmax l Z a0 hw [] (-1 : Int32) (0 : Int32) T505.heap n0) hZ w_40 w_25 (by decide) (by decide)) (g := (mkF m 231 #[iv p0, iv p1, iv p2, iv p3, iv p4, iv p5, iv (3 : Int32), iv kk, rv a1, rv a4, rv a9, rv a16, rv a25, rv a36, rv a105, iv (1 : Int32), rv a1, rv a1, .val .null, .val .null, .unset, .unset, .unset, .unset, .unset] [(.int (0 : Int32)), (.int (-1 : Int32))])) rfl (by rw [hml]; rfl) (argsL := [(.int (-1 : Int32)), (.int (0 : Int32))]) (rest := []) (lenOf own_pd7 rfl) rfl (by show 2 * 0 + _ ≤ _; exact own_b rfl) (hb hby at_231) (fun _ _ => ⟨rfl, e518, (own_b rfl : 8 + 0 ≤ _), (own_b rfl : 14 + 0 ≤ _)⟩)
      dsimp only [Pt.U, Pt.locs, Pt.cells, Pt.slots] at X519 l519 y519 z519 st519 hQ519
      obtain ⟨rfl, Nq519, eq519⟩ := hQ519
      obtain ⟨L519, X519, N519⟩ := own_absC (K := 8) (K' := 14) X519 l519 y519 z519 N518 Nq519
      have e519 : T519.heap = T505.heap := eq519
      refine own_go (B := (T519.setTop (mkF m 234 #[iv p0, iv p1, iv p2, iv p3, iv p4, iv p5, iv (3 : Int32), iv kk, rv a1, rv a4, rv a9, rv a16, rv a25, rv a36, rv a105, iv (1 : Int32), rv a1, rv a1, .val .null, .val .null, .unset, .unset, .unset, .unset, .unset] [(.int (own_max (-1 : Int32) (0 : Int32)))]))) st519 ?_
      rw [show own_max (-1 : Int32) (0 : Int32) = (0 : Int32) from by decide]
      refine own_go (B := (T519.setTop (mkF m 236 #[iv p0, iv p1, iv p2, iv p3, iv p4, iv p5, iv (3 : Int32), iv kk, rv a1, rv a4, rv a9, rv a16, rv a25, rv a36, rv a105, iv (1 : Int32), rv a1, rv a1, .val .null, .val .null, iv (0 : Int32), .unset, .unset, .unset, .unset] []))) (fun t k => XS.istore X519.here hx rfl (hb hby at_234) rfl (l' := #[iv p0, iv p1, iv p2, iv p3, iv p4, iv p5, iv (3 : Int32), iv kk, rv a1, rv a4, rv a9, rv a16, rv a25, rv a36, rv a105, iv (1 : Int32), rv a1, rv a1, .val .null, .val .null, iv (0 : Int32), .unset, .unset, .unset, .unset]) rfl k) ?_
      refine own_go (B := (T519.setTop (mkF m 238 #[iv p0, iv p1, iv p2, iv p3, iv p4, iv p5, iv (3 : Int32), iv kk, rv a1, rv a4, rv a9, rv a16, rv a25, rv a36, rv a105, iv (1 : Int32), rv a1, rv a1, .val .null, .val .null, iv (0 : Int32), .unset, .unset, .unset, .unset] [(.ref a105)]))) (fun t k => XS.aload X519.here hx rfl (hb hby at_236) rfl rfl k) ?_
      refine own_go (B := (T519.setTop (mkF m 240 #[iv p0, iv p1, iv p2, iv p3, iv p4, iv p5, iv (3 : Int32), iv kk, rv a1, rv a4, rv a9, rv a16, rv a25, rv a36, rv a105, iv (1 : Int32), rv a1, rv a1, .val .null, .val .null, iv (0 : Int32), .unset, .unset, .unset, .unset] [(.ref a25), (.ref a105)]))) (fun t k => XS.aload X519.here hx rfl (hb hby at_238) rfl rfl k) ?_
      obtain ⟨cq520, kq520, qa520, qb520, qc520⟩ := isOf hZ e519 Ex505
      obtain ⟨_, _, ⟨T520, L520, k520, n520⟩, -, X520, ⟨Lc520, hQ520, l520, y520, z520⟩, st520⟩ := X519.virtualBack hx (y := own_y9) (z := own_y9) hown (mvT hZ w_41) (mvT hZ w_42) (notFace_of_selects (args := #[]) (mvT hZ w_44)) (mvT hZ w_44) (mvT hZ w_43) (by decide) (backOf (W := 0) (own_kone l Z a0 hw [] a105 a25 ar121 (0 : Int32) (3 : Int32) (1 : Int32) [.null, .null, .null] [(.ref a25), .null, .null] T505.heap n0 Ex505 gk505 gc505 gv505 F506 gn105 gn_ar121 ne_ar121_a105 (own_lenL (n := 3) rfl (by decide)) (by decide) (by decide) (Nat.lt_of_lt_of_eq (by decide : _ < 3) rfl) (by decide) (Ins.of_exa (own_Bn_exa F513 (List.mem_of_getElem? (i := 4) rfl)) w_60) rfl) hZ w_45 w_12 (by decide) (by decide)) qa520 qc520 (g := (mkF m 240 #[iv p0, iv p1, iv p2, iv p3, iv p4, iv p5, iv (3 : Int32), iv kk, rv a1, rv a4, rv a9, rv a16, rv a25, rv a36, rv a105, iv (1 : Int32), rv a1, rv a1, .val .null, .val .null, iv (0 : Int32), .unset, .unset, .unset, .unset] [(.ref a25), (.ref a105)])) rfl (by rw [hml]; rfl) (Steps.refl _) (argsL := [(.ref a25)]) (rest := []) (lenOf own_pd8 rfl) rfl (by show 2 * 0 + _ ≤ _; exact own_b rfl) (hb hby at_240) (fun _ _ => ⟨rfl, e519, (own_b rfl : 8 + 0 ≤ _), (own_b rfl : 14 + 0 ≤ _)⟩)
      dsimp only [Pt.U, Pt.locs, Pt.cells, Pt.slots] at X520 l520 y520 z520 st520 hQ520
      obtain ⟨rfl, Nq520, K520, Ex520, gk520, gc520, gv520⟩ := hQ520
      obtain ⟨L520, X520, N520⟩ := own_absC (K := 8) (K' := 14) X520 l520 y520 z520 N519 Nq520
      have F521 : n0 ≤ T520.heap.size := Nat.le_trans F506 K520.1
      have F522 := Keep.trans F507 K520 (allS (Or.inr (Nat.le_trans F93.1 (Nat.le_of_eq ga105.symm))) (allS (Or.inr (Nat.le_trans K107.1 gz121)) all0))
      have F523 := own_Ao_keep F508 K520 (ninS (Ne.symm ne105_a36) (ninS (Ne.symm ne_ar121_a36) nin0))
      have F524 := Exa.keep Ex505 K520
      have F525 := own_Bn_keep F513 K520 hbq
      refine own_tr (B := (T520.setTop (mkF m 243 #[iv p0, iv p1, iv p2, iv p3, iv p4, iv p5, iv (3 : Int32), iv kk, rv a1, rv a4, rv a9, rv a16, rv a25, rv a36, rv a105, iv (1 : Int32), rv a1, rv a1, .val .null, .val .null, iv (0 : Int32), .unset, .unset, .unset, .unset] []))) st520 ?_
      refine own_go (B := (T520.setTop (mkF m 245 #[iv p0, iv p1, iv p2, iv p3, iv p4, iv p5, iv (3 : Int32), iv kk, rv a1, rv a4, rv a9, rv a16, rv a25, rv a36, rv a105, iv (1 : Int32), rv a1, rv a1, .val .null, .val .null, iv (0 : Int32), .unset, .unset, .unset, .unset] [(.ref a105)]))) (fun t k => XS.aload X520.here hx rfl (hb hby at_243) rfl rfl k) ?_
      obtain ⟨cq529, kq529, qa529, qb529, qc529⟩ := isOf hZ rfl Ex520
      obtain ⟨_, _, ⟨T529, L529, k529, n529⟩, -, X529, ⟨Lc529, hQ529, l529, y529, z529⟩, st529⟩ := X520.virtualBack hx (y := own_y6) (z := own_y6) hown (mvT hZ w_27) (mvT hZ w_28) (notFace_of_selects (args := #[]) (mvT hZ w_30)) (mvT hZ w_30) (mvT hZ w_29) (by decide) (backOf (W := 0) (own_tone l Z a0 hw [] a105 ar121 a25 (1 : Int32) (0 : Int32) [(.ref a25), .null, .null] [.null, .null, .null] T520.heap n0 Ex520 gk520 gc520 gv520 F521 gn105 gn_ar121 ne_ar121_a105 (by decide) (by decide) (by decide) rfl rfl) hZ w_31 w_12 (by decide) (by decide)) qa529 qc529 (g := (mkF m 245 #[iv p0, iv p1, iv p2, iv p3, iv p4, iv p5, iv (3 : Int32), iv kk, rv a1, rv a4, rv a9, rv a16, rv a25, rv a36, rv a105, iv (1 : Int32), rv a1, rv a1, .val .null, .val .null, iv (0 : Int32), .unset, .unset, .unset, .unset] [(.ref a105)])) rfl (by rw [hml]; rfl) (Steps.refl _) (argsL := []) (rest := []) (lenOf own_pd5 rfl) rfl (by show 2 * 0 + _ ≤ _; exact own_b rfl) (hb hby at_245) (fun _ _ => ⟨rfl, rfl, (own_b rfl : 8 + 0 ≤ _), (own_b rfl : 14 + 0 ≤ _)⟩)
      dsimp only [Pt.U, Pt.locs, Pt.cells, Pt.slots] at X529 l529 y529 z529 st529 hQ529
      obtain ⟨rfl, Nq529, K529, Ex529, gk529, gc529, gv529⟩ := hQ529
      obtain ⟨L529, X529, N529⟩ := own_absC (K := 8) (K' := 14) X529 l529 y529 z529 N520 Nq529
      have F530 : n0 ≤ T529.heap.size := Nat.le_trans F521 K529.1
      have F531 := Keep.trans F522 K529 (allS (Or.inr (Nat.le_trans F93.1 (Nat.le_of_eq ga105.symm))) (allS (Or.inr (Nat.le_trans K107.1 gz121)) all0))
      have F532 := own_Ao_keep F523 K529 (ninS (Ne.symm ne105_a36) (ninS (Ne.symm ne_ar121_a36) nin0))
      have F533 := Exa.keep Ex520 K529
      have F534 := own_Bn_keep F525 K529 hbq
      refine own_tr (B := (T529.setTop (mkF m 248 #[iv p0, iv p1, iv p2, iv p3, iv p4, iv p5, iv (3 : Int32), iv kk, rv a1, rv a4, rv a9, rv a16, rv a25, rv a36, rv a105, iv (1 : Int32), rv a1, rv a1, .val .null, .val .null, iv (0 : Int32), .unset, .unset, .unset, .unset] [(.ref a25)]))) st529 ?_
      obtain ⟨T538, X538, e538, st538⟩ := castY X529 hx hZ hown w_7 rfl (Ins.of_exa (own_Bn_exa F534 (List.mem_of_getElem? (i := 4) rfl)) w_9) (g := (mkF m 248 #[iv p0, iv p1, iv p2, iv p3, iv p4, iv p5, iv (3 : Int32), iv kk, rv a1, rv a4, rv a9, rv a16, rv a25, rv a36, rv a105, iv (1 : Int32), rv a1, rv a1, .val .null, .val .null, iv (0 : Int32), .unset, .unset, .unset, .unset] [(.ref a25)])) rfl rfl (hb hby at_248)
      refine own_go (B := (T538.setTop (mkF m 251 #[iv p0, iv p1, iv p2, iv p3, iv p4, iv p5, iv (3 : Int32), iv kk, rv a1, rv a4, rv a9, rv a16, rv a25, rv a36, rv a105, iv (1 : Int32), rv a1, rv a1, .val .null, .val .null, iv (0 : Int32), .unset, .unset, .unset, .unset] [(.ref a25)]))) st538 ?_
      refine own_go (B := (T538.setTop (mkF m 253 #[iv p0, iv p1, iv p2, iv p3, iv p4, iv p5, iv (3 : Int32), iv kk, rv a1, rv a4, rv a9, rv a16, rv a25, rv a36, rv a105, iv (1 : Int32), rv a1, rv a1, .val .null, .val .null, iv (0 : Int32), rv a25, .unset, .unset, .unset] []))) (fun t k => XS.astore X538.here hx rfl (hb hby at_251) rfl rfl (l' := #[iv p0, iv p1, iv p2, iv p3, iv p4, iv p5, iv (3 : Int32), iv kk, rv a1, rv a4, rv a9, rv a16, rv a25, rv a36, rv a105, iv (1 : Int32), rv a1, rv a1, .val .null, .val .null, iv (0 : Int32), rv a25, .unset, .unset, .unset]) rfl k) ?_
      refine own_go (B := (T538.setTop (mkF m 255 #[iv p0, iv p1, iv p2, iv p3, iv p4, iv p5, iv (3 : Int32), iv kk, rv a1, rv a4, rv a9, rv a16, rv a25, rv a36, rv a105, iv (1 : Int32), rv a1, rv a1, .val .null, .val .null, iv (0 : Int32), rv a25, .unset, .unset, .unset] [(.int (3 : Int32))]))) (fun t k => XS.iload X538.here hx rfl (hb hby at_253) rfl k) ?_
      have hc255 : (0 : Int32) < (3 : Int32) := (by decide)
      refine own_ifN X538 hx (hb hby at_255) (pn := 258) rfl hc255 ?_
      refine own_go (B := (T538.setTop (mkF m 260 #[iv p0, iv p1, iv p2, iv p3, iv p4, iv p5, iv (3 : Int32), iv kk, rv a1, rv a4, rv a9, rv a16, rv a25, rv a36, rv a105, iv (1 : Int32), rv a1, rv a1, .val .null, .val .null, iv (0 : Int32), rv a25, .unset, .unset, .unset] [(.ref a25)]))) (fun t k => XS.aload X538.here hx rfl (hb hby at_258) rfl rfl k) ?_
      refine own_go (B := (T538.setTop (mkF m 264 #[iv p0, iv p1, iv p2, iv p3, iv p4, iv p5, iv (3 : Int32), iv kk, rv a1, rv a4, rv a9, rv a16, rv a25, rv a36, rv a105, iv (1 : Int32), rv a1, rv a1, .val .null, .val .null, iv (0 : Int32), rv a25, .unset, .unset, .unset] [(.ref a25)]))) (fun t k => XS.goto X538.here hx rfl (pc0 := 260) (pc' := 264) rfl (hb hby at_260) (by decide) (by decide) k) ?_
      refine own_go (B := (T538.setTop (mkF m 266 #[iv p0, iv p1, iv p2, iv p3, iv p4, iv p5, iv (3 : Int32), iv kk, rv a1, rv a4, rv a9, rv a16, rv a25, rv a36, rv a105, iv (1 : Int32), rv a1, rv a1, .val .null, .val .null, iv (0 : Int32), rv a25, rv a25, .unset, .unset] []))) (fun t k => XS.astore X538.here hx rfl (hb hby at_264) rfl rfl (l' := #[iv p0, iv p1, iv p2, iv p3, iv p4, iv p5, iv (3 : Int32), iv kk, rv a1, rv a4, rv a9, rv a16, rv a25, rv a36, rv a105, iv (1 : Int32), rv a1, rv a1, .val .null, .val .null, iv (0 : Int32), rv a25, rv a25, .unset, .unset]) rfl k) ?_
      refine own_go (B := (T538.setTop (mkF m 268 #[iv p0, iv p1, iv p2, iv p3, iv p4, iv p5, iv (3 : Int32), iv kk, rv a1, rv a4, rv a9, rv a16, rv a25, rv a36, rv a105, iv (1 : Int32), rv a1, rv a1, .val .null, .val .null, iv (0 : Int32), rv a25, rv a25, .unset, .unset] [(.ref a25)]))) (fun t k => XS.aload X538.here hx rfl (hb hby at_266) rfl rfl k) ?_
      refine own_go (B := (T538.setTop (mkF m 270 #[iv p0, iv p1, iv p2, iv p3, iv p4, iv p5, iv (3 : Int32), iv kk, rv a1, rv a4, rv a9, rv a16, rv a25, rv a36, rv a105, iv (1 : Int32), rv a1, rv a1, .val .null, .val .null, iv (0 : Int32), rv a25, rv a25, .unset, .unset] [(.ref a25), (.ref a25)]))) (fun t k => XS.aload X538.here hx rfl (hb hby at_268) rfl rfl k) ?_
      obtain ⟨_, _, ⟨T539, L539, k539, n539⟩, -, X539, ⟨Lc539, hQ539, l539, y539, z539⟩, st539⟩ := Jvm.LawKit.callS X538 hx (y := own_y7) hown (mvT hZ w_34) (mvT hZ w_35) (mvT hZ w_36) (mvT hZ w_37) (by decide) (backOf (W := 0) (own_same1 l Z a0 hw [] a25 a25 p5 T529.heap n0 (own_Bn_exa F534 (List.mem_of_getElem? (i := 4) rfl)) (own_Bn_fld F534 (List.mem_of_getElem? (i := 4) rfl)) (own_Bn_exa F534 (List.mem_of_getElem? (i := 4) rfl)) (own_Bn_fld F534 (List.mem_of_getElem? (i := 4) rfl))) hZ w_37 w_36 (by decide) (by decide)) (g := (mkF m 270 #[iv p0, iv p1, iv p2, iv p3, iv p4, iv p5, iv (3 : Int32), iv kk, rv a1, rv a4, rv a9, rv a16, rv a25, rv a36, rv a105, iv (1 : Int32), rv a1, rv a1, .val .null, .val .null, iv (0 : Int32), rv a25, rv a25, .unset, .unset] [(.ref a25), (.ref a25)])) rfl (by rw [hml]; rfl) (argsL := [(.ref a25), (.ref a25)]) (rest := []) (lenOf own_pd6 rfl) rfl (by show 2 * 0 + _ ≤ _; exact own_b rfl) (hb hby at_270) (fun _ _ => ⟨rfl, e538, (own_b rfl : 8 + 0 ≤ _), (own_b rfl : 14 + 0 ≤ _)⟩)
      dsimp only [Pt.U, Pt.locs, Pt.cells, Pt.slots] at X539 l539 y539 z539 st539 hQ539
      obtain ⟨rfl, Nq539, eq539⟩ := hQ539
      obtain ⟨L539, X539, N539⟩ := own_absC (K := 8) (K' := 14) X539 l539 y539 z539 N529 Nq539
      have e539 : T539.heap = T529.heap := eq539
      refine own_go (B := (T539.setTop (mkF m 273 #[iv p0, iv p1, iv p2, iv p3, iv p4, iv p5, iv (3 : Int32), iv kk, rv a1, rv a4, rv a9, rv a16, rv a25, rv a36, rv a105, iv (1 : Int32), rv a1, rv a1, .val .null, .val .null, iv (0 : Int32), rv a25, rv a25, .unset, .unset] [(.int (1 : Int32))]))) st539 ?_
      have hc273 : ¬ (1 : Int32) = (0 : Int32) := (by decide)
      refine own_ifY X539 hx (hb hby at_273) (pc' := 278) (by decide) (by decide) hc273 ?_
      refine own_go (B := (T539.setTop (mkF m 280 #[iv p0, iv p1, iv p2, iv p3, iv p4, iv p5, iv (3 : Int32), iv kk, rv a1, rv a4, rv a9, rv a16, rv a25, rv a36, rv a105, iv (1 : Int32), rv a1, rv a1, .val .null, .val .null, iv (0 : Int32), rv a25, rv a25, .unset, .unset] [(.ref a105)]))) (fun t k => XS.aload X539.here hx rfl (hb hby at_278) rfl rfl k) ?_
      obtain ⟨cq540, kq540, qa540, qb540, qc540⟩ := isOf hZ e539 Ex529
      obtain ⟨_, _, ⟨T540, L540, k540, n540⟩, -, X540, ⟨Lc540, hQ540, l540, y540, z540⟩, st540⟩ := X539.virtualBack hx (y := own_y6) (z := own_y6) hown (mvT hZ w_27) (mvT hZ w_28) (notFace_of_selects (args := #[]) (mvT hZ w_30)) (mvT hZ w_30) (mvT hZ w_29) (by decide) (backOf (W := 0) (own_tnone l Z a0 hw [] a105 T529.heap n0 gc529) hZ w_31 w_12 (by decide) (by decide)) qa540 qc540 (g := (mkF m 280 #[iv p0, iv p1, iv p2, iv p3, iv p4, iv p5, iv (3 : Int32), iv kk, rv a1, rv a4, rv a9, rv a16, rv a25, rv a36, rv a105, iv (1 : Int32), rv a1, rv a1, .val .null, .val .null, iv (0 : Int32), rv a25, rv a25, .unset, .unset] [(.ref a105)])) rfl (by rw [hml]; rfl) (Steps.refl _) (argsL := []) (rest := []) (lenOf own_pd5 rfl) rfl (by show 2 * 0 + _ ≤ _; exact own_b rfl) (hb hby at_280) (fun _ _ => ⟨rfl, e539, (own_b rfl : 8 + 0 ≤ _), (own_b rfl : 14 + 0 ≤ _)⟩)
      dsimp only [Pt.U, Pt.locs, Pt.cells, Pt.slots] at X540 l540 y540 z540 st540 hQ540
      obtain ⟨rfl, Nq540, eq540⟩ := hQ540
      obtain ⟨L540, X540, N540⟩ := own_absC (K := 8) (K' := 14) X540 l540 y540 z540 N539 Nq540
      have e540 : T540.heap = T529.heap := eq540
      refine own_tr (B := (T540.setTop (mkF m 283 #[iv p0, iv p1, iv p2, iv p3, iv p4, iv p5, iv (3 : Int32), iv kk, rv a1, rv a4, rv a9, rv a16, rv a25, rv a36, rv a105, iv (1 : Int32), rv a1, rv a1, .val .null, .val .null, iv (0 : Int32), rv a25, rv a25, .unset, .unset] [.null]))) st540 ?_
      refine own_go (B := (T540.setTop (mkF m 286 #[iv p0, iv p1, iv p2, iv p3, iv p4, iv p5, iv (3 : Int32), iv kk, rv a1, rv a4, rv a9, rv a16, rv a25, rv a36, rv a105, iv (1 : Int32), rv a1, rv a1, .val .null, .val .null, iv (0 : Int32), rv a25, rv a25, .unset, .unset] [.null]))) (X540.checkcastNull hx (g := (mkF m 283 #[iv p0, iv p1, iv p2, iv p3, iv p4, iv p5, iv (3 : Int32), iv kk, rv a1, rv a4, rv a9, rv a16, rv a25, rv a36, rv a105, iv (1 : Int32), rv a1, rv a1, .val .null, .val .null, iv (0 : Int32), rv a25, rv a25, .unset, .unset] [.null])) rfl rfl (hb hby at_283)) ?_
      refine own_go (B := (T540.setTop (mkF m 288 #[iv p0, iv p1, iv p2, iv p3, iv p4, iv p5, iv (3 : Int32), iv kk, rv a1, rv a4, rv a9, rv a16, rv a25, rv a36, rv a105, iv (1 : Int32), rv a1, rv a1, .val .null, .val .null, iv (0 : Int32), rv a25, rv a25, .val .null, .unset] []))) (fun t k => XS.astore X540.here hx rfl (hb hby at_286) rfl rfl (l' := #[iv p0, iv p1, iv p2, iv p3, iv p4, iv p5, iv (3 : Int32), iv kk, rv a1, rv a4, rv a9, rv a16, rv a25, rv a36, rv a105, iv (1 : Int32), rv a1, rv a1, .val .null, .val .null, iv (0 : Int32), rv a25, rv a25, .val .null, .unset]) rfl k) ?_
      refine own_go (B := (T540.setTop (mkF m 290 #[iv p0, iv p1, iv p2, iv p3, iv p4, iv p5, iv (3 : Int32), iv kk, rv a1, rv a4, rv a9, rv a16, rv a25, rv a36, rv a105, iv (1 : Int32), rv a1, rv a1, .val .null, .val .null, iv (0 : Int32), rv a25, rv a25, .val .null, .unset] [(.int (0 : Int32))]))) (fun t k => XS.iload X540.here hx rfl (hb hby at_288) rfl k) ?_
      refine own_go (B := (T540.setTop (mkF m 291 #[iv p0, iv p1, iv p2, iv p3, iv p4, iv p5, iv (3 : Int32), iv kk, rv a1, rv a4, rv a9, rv a16, rv a25, rv a36, rv a105, iv (1 : Int32), rv a1, rv a1, .val .null, .val .null, iv (0 : Int32), rv a25, rv a25, .val .null, .unset] [(.int (1 : Int32)), (.int (0 : Int32))]))) (fun t k => own_iconst (v := (1 : Int32)) X540.here hx rfl (hb hby at_290) (by decide) k) ?_
      have hc291 : (0 : Int32) < (1 : Int32) := (by decide)
      refine own_icmpY X540 hx (hb hby at_291) (pc' := 304) (by decide) (by decide) hc291 ?_
      refine own_go (B := (T540.setTop (mkF m 305 #[iv p0, iv p1, iv p2, iv p3, iv p4, iv p5, iv (3 : Int32), iv kk, rv a1, rv a4, rv a9, rv a16, rv a25, rv a36, rv a105, iv (1 : Int32), rv a1, rv a1, .val .null, .val .null, iv (0 : Int32), rv a25, rv a25, .val .null, .unset] [.null]))) (fun t k => XS.aconstNull X540.here hx rfl (hb hby at_304) k) ?_
      refine own_go (B := (T540.setTop (mkF m 307 #[iv p0, iv p1, iv p2, iv p3, iv p4, iv p5, iv (3 : Int32), iv kk, rv a1, rv a4, rv a9, rv a16, rv a25, rv a36, rv a105, iv (1 : Int32), rv a1, rv a1, .val .null, .val .null, iv (0 : Int32), rv a25, rv a25, .val .null, .val .null] []))) (fun t k => XS.astore X540.here hx rfl (hb hby at_305) rfl rfl (l' := #[iv p0, iv p1, iv p2, iv p3, iv p4, iv p5, iv (3 : Int32), iv kk, rv a1, rv a4, rv a9, rv a16, rv a25, rv a36, rv a105, iv (1 : Int32), rv a1, rv a1, .val .null, .val .null, iv (0 : Int32), rv a25, rv a25, .val .null, .val .null]) rfl k) ?_
      refine own_go (B := (T540.setTop (mkF m 309 #[iv p0, iv p1, iv p2, iv p3, iv p4, iv p5, iv (3 : Int32), iv kk, rv a1, rv a4, rv a9, rv a16, rv a25, rv a36, rv a105, iv (1 : Int32), rv a1, rv a1, .val .null, .val .null, iv (0 : Int32), rv a25, rv a25, .val .null, .val .null] [.null]))) (fun t k => XS.aload X540.here hx rfl (hb hby at_307) rfl rfl k) ?_
      refine own_go (B := (T540.setTop (mkF m 311 #[iv p0, iv p1, iv p2, iv p3, iv p4, iv p5, iv (3 : Int32), iv kk, rv a1, rv a4, rv a9, rv a16, rv a25, rv a36, rv a105, iv (1 : Int32), rv a1, rv a1, .val .null, .val .null, iv (0 : Int32), rv a25, rv a25, .val .null, .val .null] [.null, .null]))) (fun t k => XS.aload X540.here hx rfl (hb hby at_309) rfl rfl k) ?_
      obtain ⟨_, _, ⟨T542, L542, k542, n542⟩, -, X542, ⟨Lc542, hQ542, l542, y542, z542⟩, st542⟩ := Jvm.LawKit.callS X540 hx (y := own_y7) hown (mvT hZ w_34) (mvT hZ w_35) (mvT hZ w_36) (mvT hZ w_37) (by decide) (backOf (W := 0) (own_same0 l Z a0 hw [] T529.heap n0) hZ w_37 w_36 (by decide) (by decide)) (g := (mkF m 311 #[iv p0, iv p1, iv p2, iv p3, iv p4, iv p5, iv (3 : Int32), iv kk, rv a1, rv a4, rv a9, rv a16, rv a25, rv a36, rv a105, iv (1 : Int32), rv a1, rv a1, .val .null, .val .null, iv (0 : Int32), rv a25, rv a25, .val .null, .val .null] [.null, .null])) rfl (by rw [hml]; rfl) (argsL := [.null, .null]) (rest := []) (lenOf own_pd6 rfl) rfl (by show 2 * 0 + _ ≤ _; exact own_b rfl) (hb hby at_311) (fun _ _ => ⟨rfl, e540, (own_b rfl : 8 + 0 ≤ _), (own_b rfl : 14 + 0 ≤ _)⟩)
      dsimp only [Pt.U, Pt.locs, Pt.cells, Pt.slots] at X542 l542 y542 z542 st542 hQ542
      obtain ⟨rfl, Nq542, eq542⟩ := hQ542
      obtain ⟨L542, X542, N542⟩ := own_absC (K := 8) (K' := 14) X542 l542 y542 z542 N540 Nq542
      have e542 : T542.heap = T529.heap := eq542
      refine own_go (B := (T542.setTop (mkF m 314 #[iv p0, iv p1, iv p2, iv p3, iv p4, iv p5, iv (3 : Int32), iv kk, rv a1, rv a4, rv a9, rv a16, rv a25, rv a36, rv a105, iv (1 : Int32), rv a1, rv a1, .val .null, .val .null, iv (0 : Int32), rv a25, rv a25, .val .null, .val .null] [(.int (1 : Int32))]))) st542 ?_
      exact own_retZ X542 hx hlk Bd.returns (hb hby at_314) (by decide) (own_b rfl) (own_b rfl) (Q := (own_law_Q Z p0 p1 p2 p3 p4 p5 ca h0 n0)) ⟨rfl, N542⟩
    have J2 : ∀ (T543 : State) (L543 : List Loc) (h543 : Heap) (X543 : Stand p l e room_1 s m #[(.int p0), (.int p1), (.int p2), (.int p3), (.int p4), (.int p5)] below meth c T543 L543 8 14) (e543 : T543.heap = h543) (N543 : Fr n0 L543) (F543_0 : n0 ≤ h543.size) (F543_1 : Keep h0 h543 []) (F543_2 : own_Ao Z h543 a36 "java/lang/Integer" [(.ref a1), (.ref a4), (.ref a9), (.ref a16)]) (F543_3 : Exa Z h543 a105 "com/example/pagemason/pagemason/core/Spares") (F543_4 : Fld Z h543 a105 "com/example/pagemason/pagemason/core/Spares" "kept" "[Ljava/lang/Object;" (.ref ar121)) (F543_5 : Fld Z h543 a105 "com/example/pagemason/pagemason/core/Spares" "count" "I" (.int (2 : Int32))) (F543_6 : own_Ao Z h543 ar121 "java/lang/Object" [(.ref a1), (.ref a4), .null]) (F543_7 : own_Bn Z h543 [(a1, p1), (a4, p2), (a9, p3), (a16, p4), (a25, p5)]) (kk : Int32), own_G p.tables e below (fun o U' => ∃ v L, o = .returned v ∧ (own_law_Q Z p0 p1 p2 p3 p4 p5 ca h0 n0) v U'.heap L ∧ FrameEnd s o U' L 24 128) (T543.setTop (mkF m 144 #[iv p0, iv p1, iv p2, iv p3, iv p4, iv p5, iv (3 : Int32), iv kk, rv a1, rv a4, rv a9, rv a16, rv a25, rv a36, rv a105, iv (2 : Int32), .unset, .unset, .unset, .unset, .unset, .unset, .unset, .unset, .unset] [])) := by
      intro T543 L543 h543 X543 e543 N543 F543_0 F543_1 F543_2 F543_3 F543_4 F543_5 F543_6 F543_7 kk
      refine own_go (B := (T543.setTop (mkF m 146 #[iv p0, iv p1, iv p2, iv p3, iv p4, iv p5, iv (3 : Int32), iv kk, rv a1, rv a4, rv a9, rv a16, rv a25, rv a36, rv a105, iv (2 : Int32), .unset, .unset, .unset, .unset, .unset, .unset, .unset, .unset, .unset] [(.ref a105)]))) (fun t k => XS.aload X543.here hx rfl (hb hby at_144) rfl rfl k) ?_
      obtain ⟨cq544, kq544, qa544, qb544, qc544⟩ := isOf hZ e543 F543_3
      obtain ⟨_, _, ⟨T544, L544, k544, n544⟩, -, X544, ⟨Lc544, hQ544, l544, y544, z544⟩, st544⟩ := X543.virtualBack hx (y := own_y6) (z := own_y6) hown (mvT hZ w_27) (mvT hZ w_28) (notFace_of_selects (args := #[]) (mvT hZ w_30)) (mvT hZ w_30) (mvT hZ w_29) (by decide) (backOf (W := 0) (own_tone l Z a0 hw [] a105 ar121 a4 (2 : Int32) (1 : Int32) [(.ref a1), (.ref a4), .null] [(.ref a1), .null, .null] h543 n0 F543_3 F543_4 F543_5 F543_6 F543_0 gn105 gn_ar121 ne_ar121_a105 (by decide) (by decide) (by decide) rfl rfl) hZ w_31 w_12 (by decide) (by decide)) qa544 qc544 (g := (mkF m 146 #[iv p0, iv p1, iv p2, iv p3, iv p4, iv p5, iv (3 : Int32), iv kk, rv a1, rv a4, rv a9, rv a16, rv a25, rv a36, rv a105, iv (2 : Int32), .unset, .unset, .unset, .unset, .unset, .unset, .unset, .unset, .unset] [(.ref a105)])) rfl (by rw [hml]; rfl) (Steps.refl _) (argsL := []) (rest := []) (lenOf own_pd5 rfl) rfl (by show 2 * 0 + _ ≤ _; exact own_b rfl) (hb hby at_146) (fun _ _ => ⟨rfl, e543, (own_b rfl : 8 + 0 ≤ _), (own_b rfl : 14 + 0 ≤ _)⟩)
      dsimp only [Pt.U, Pt.locs, Pt.cells, Pt.slots] at X544 l544 y544 z544 st544 hQ544
      obtain ⟨rfl, Nq544, K544, Ex544, gk544, gc544, gv544⟩ := hQ544
      obtain ⟨L544, X544, N544⟩ := own_absC (K := 8) (K' := 14) X544 l544 y544 z544 N543 Nq544
      have F545 : n0 ≤ T544.heap.size := Nat.le_trans F543_0 K544.1
      have F546 := Keep.trans F543_1 K544 (allS (Or.inr (Nat.le_trans F93.1 (Nat.le_of_eq ga105.symm))) (allS (Or.inr (Nat.le_trans K107.1 gz121)) all0))
      have F547 := own_Ao_keep F543_2 K544 (ninS (Ne.symm ne105_a36) (ninS (Ne.symm ne_ar121_a36) nin0))
      have F548 := Exa.keep F543_3 K544
      have F552 := own_Bn_keep F543_7 K544 hbq
      refine own_tr (B := (T544.setTop (mkF m 149 #[iv p0, iv p1, iv p2, iv p3, iv p4, iv p5, iv (3 : Int32), iv kk, rv a1, rv a4, rv a9, rv a16, rv a25, rv a36, rv a105, iv (2 : Int32), .unset, .unset, .unset, .unset, .unset, .unset, .unset, .unset, .unset] [(.ref a4)]))) st544 ?_
      obtain ⟨T553, X553, e553, st553⟩ := castY X544 hx hZ hown w_7 rfl (Ins.of_exa (own_Bn_exa F552 (List.mem_of_getElem? (i := 1) rfl)) w_9) (g := (mkF m 149 #[iv p0, iv p1, iv p2, iv p3, iv p4, iv p5, iv (3 : Int32), iv kk, rv a1, rv a4, rv a9, rv a16, rv a25, rv a36, rv a105, iv (2 : Int32), .unset, .unset, .unset, .unset, .unset, .unset, .unset, .unset, .unset] [(.ref a4)])) rfl rfl (hb hby at_149)
      refine own_go (B := (T553.setTop (mkF m 152 #[iv p0, iv p1, iv p2, iv p3, iv p4, iv p5, iv (3 : Int32), iv kk, rv a1, rv a4, rv a9, rv a16, rv a25, rv a36, rv a105, iv (2 : Int32), .unset, .unset, .unset, .unset, .unset, .unset, .unset, .unset, .unset] [(.ref a4)]))) st553 ?_
      refine own_go (B := (T553.setTop (mkF m 154 #[iv p0, iv p1, iv p2, iv p3, iv p4, iv p5, iv (3 : Int32), iv kk, rv a1, rv a4, rv a9, rv a16, rv a25, rv a36, rv a105, iv (2 : Int32), rv a4, .unset, .unset, .unset, .unset, .unset, .unset, .unset, .unset] []))) (fun t k => XS.astore X553.here hx rfl (hb hby at_152) rfl rfl (l' := #[iv p0, iv p1, iv p2, iv p3, iv p4, iv p5, iv (3 : Int32), iv kk, rv a1, rv a4, rv a9, rv a16, rv a25, rv a36, rv a105, iv (2 : Int32), rv a4, .unset, .unset, .unset, .unset, .unset, .unset, .unset, .unset]) rfl k) ?_
      refine own_go (B := (T553.setTop (mkF m 156 #[iv p0, iv p1, iv p2, iv p3, iv p4, iv p5, iv (3 : Int32), iv kk, rv a1, rv a4, rv a9, rv a16, rv a25, rv a36, rv a105, iv (2 : Int32), rv a4, .unset, .unset, .unset, .unset, .unset, .unset, .unset, .unset] [(.int (2 : Int32))]))) (fun t k => XS.iload X553.here hx rfl (hb hby at_154) rfl k) ?_
      refine own_go (B := (T553.setTop (mkF m 157 #[iv p0, iv p1, iv p2, iv p3, iv p4, iv p5, iv (3 : Int32), iv kk, rv a1, rv a4, rv a9, rv a16, rv a25, rv a36, rv a105, iv (2 : Int32), rv a4, .unset, .unset, .unset, .unset, .unset, .unset, .unset, .unset] [(.int (1 : Int32)), (.int (2 : Int32))]))) (fun t k => own_iconst (v := (1 : Int32)) X553.here hx rfl (hb hby at_156) (by decide) k) ?_
      have hc157 : ¬ (2 : Int32) < (1 : Int32) := (by decide)
      refine own_icmpN X553 hx (hb hby at_157) (pn := 160) rfl hc157 ?_
      refine own_go (B := (T553.setTop (mkF m 162 #[iv p0, iv p1, iv p2, iv p3, iv p4, iv p5, iv (3 : Int32), iv kk, rv a1, rv a4, rv a9, rv a16, rv a25, rv a36, rv a105, iv (2 : Int32), rv a4, .unset, .unset, .unset, .unset, .unset, .unset, .unset, .unset] [(.ref a36)]))) (fun t k => XS.aload X553.here hx rfl (hb hby at_160) rfl rfl k) ?_
      refine own_go (B := (T553.setTop (mkF m 164 #[iv p0, iv p1, iv p2, iv p3, iv p4, iv p5, iv (3 : Int32), iv kk, rv a1, rv a4, rv a9, rv a16, rv a25, rv a36, rv a105, iv (2 : Int32), rv a4, .unset, .unset, .unset, .unset, .unset, .unset, .unset, .unset] [(.int (2 : Int32)), (.ref a36)]))) (fun t k => XS.iload X553.here hx rfl (hb hby at_162) rfl k) ?_
      refine own_go (B := (T553.setTop (mkF m 165 #[iv p0, iv p1, iv p2, iv p3, iv p4, iv p5, iv (3 : Int32), iv kk, rv a1, rv a4, rv a9, rv a16, rv a25, rv a36, rv a105, iv (2 : Int32), rv a4, .unset, .unset, .unset, .unset, .unset, .unset, .unset, .unset] [(.int (1 : Int32)), (.int (2 : Int32)), (.ref a36)]))) (fun t k => own_iconst (v := (1 : Int32)) X553.here hx rfl (hb hby at_164) (by decide) k) ?_
      refine own_go (B := (T553.setTop (mkF m 166 #[iv p0, iv p1, iv p2, iv p3, iv p4, iv p5, iv (3 : Int32), iv kk, rv a1, rv a4, rv a9, rv a16, rv a25, rv a36, rv a105, iv (2 : Int32), rv a4, .unset, .unset, .unset, .unset, .unset, .unset, .unset, .unset] [(.int ((2 : Int32) - (1 : Int32))), (.ref a36)]))) (fun t k => XS.isub (x := (2 : Int32)) (y := (1 : Int32)) X553.here hx rfl (hb hby at_165) rfl k) ?_
      rw [show ((2 : Int32) - (1 : Int32)) = (1 : Int32) from by decide]
      refine own_go (B := (T553.setTop (mkF m 167 #[iv p0, iv p1, iv p2, iv p3, iv p4, iv p5, iv (3 : Int32), iv kk, rv a1, rv a4, rv a9, rv a16, rv a25, rv a36, rv a105, iv (2 : Int32), rv a4, .unset, .unset, .unset, .unset, .unset, .unset, .unset, .unset] [(.ref a4)]))) (own_ldR X553 hx hZ e553 (own_Ao_ar F547) rfl (v := (.ref a4)) (by decide) rfl (g := (mkF m 166 #[iv p0, iv p1, iv p2, iv p3, iv p4, iv p5, iv (3 : Int32), iv kk, rv a1, rv a4, rv a9, rv a16, rv a25, rv a36, rv a105, iv (2 : Int32), rv a4, .unset, .unset, .unset, .unset, .unset, .unset, .unset, .unset] [(.int (1 : Int32)), (.ref a36)])) rfl rfl (hb hby at_166)) ?_
      refine own_go (B := (T553.setTop (mkF m 171 #[iv p0, iv p1, iv p2, iv p3, iv p4, iv p5, iv (3 : Int32), iv kk, rv a1, rv a4, rv a9, rv a16, rv a25, rv a36, rv a105, iv (2 : Int32), rv a4, .unset, .unset, .unset, .unset, .unset, .unset, .unset, .unset] [(.ref a4)]))) (fun t k => XS.goto X553.here hx rfl (pc0 := 167) (pc' := 171) rfl (hb hby at_167) (by decide) (by decide) k) ?_
      refine own_go (B := (T553.setTop (mkF m 173 #[iv p0, iv p1, iv p2, iv p3, iv p4, iv p5, iv (3 : Int32), iv kk, rv a1, rv a4, rv a9, rv a16, rv a25, rv a36, rv a105, iv (2 : Int32), rv a4, rv a4, .unset, .unset, .unset, .unset, .unset, .unset, .unset] []))) (fun t k => XS.astore X553.here hx rfl (hb hby at_171) rfl rfl (l' := #[iv p0, iv p1, iv p2, iv p3, iv p4, iv p5, iv (3 : Int32), iv kk, rv a1, rv a4, rv a9, rv a16, rv a25, rv a36, rv a105, iv (2 : Int32), rv a4, rv a4, .unset, .unset, .unset, .unset, .unset, .unset, .unset]) rfl k) ?_
      refine own_go (B := (T553.setTop (mkF m 175 #[iv p0, iv p1, iv p2, iv p3, iv p4, iv p5, iv (3 : Int32), iv kk, rv a1, rv a4, rv a9, rv a16, rv a25, rv a36, rv a105, iv (2 : Int32), rv a4, rv a4, .unset, .unset, .unset, .unset, .unset, .unset, .unset] [(.ref a4)]))) (fun t k => XS.aload X553.here hx rfl (hb hby at_173) rfl rfl k) ?_
      refine own_go (B := (T553.setTop (mkF m 177 #[iv p0, iv p1, iv p2, iv p3, iv p4, iv p5, iv (3 : Int32), iv kk, rv a1, rv a4, rv a9, rv a16, rv a25, rv a36, rv a105, iv (2 : Int32), rv a4, rv a4, .unset, .unset, .unset, .unset, .unset, .unset, .unset] [(.ref a4), (.ref a4)]))) (fun t k => XS.aload X553.here hx rfl (hb hby at_175) rfl rfl k) ?_
      obtain ⟨_, _, ⟨T554, L554, k554, n554⟩, -, X554, ⟨Lc554, hQ554, l554, y554, z554⟩, st554⟩ := Jvm.LawKit.callS X553 hx (y := own_y7) hown (mvT hZ w_34) (mvT hZ w_35) (mvT hZ w_36) (mvT hZ w_37) (by decide) (backOf (W := 0) (own_same1 l Z a0 hw [] a4 a4 p2 T544.heap n0 (own_Bn_exa F552 (List.mem_of_getElem? (i := 1) rfl)) (own_Bn_fld F552 (List.mem_of_getElem? (i := 1) rfl)) (own_Bn_exa F552 (List.mem_of_getElem? (i := 1) rfl)) (own_Bn_fld F552 (List.mem_of_getElem? (i := 1) rfl))) hZ w_37 w_36 (by decide) (by decide)) (g := (mkF m 177 #[iv p0, iv p1, iv p2, iv p3, iv p4, iv p5, iv (3 : Int32), iv kk, rv a1, rv a4, rv a9, rv a16, rv a25, rv a36, rv a105, iv (2 : Int32), rv a4, rv a4, .unset, .unset, .unset, .unset, .unset, .unset, .unset] [(.ref a4), (.ref a4)])) rfl (by rw [hml]; rfl) (argsL := [(.ref a4), (.ref a4)]) (rest := []) (lenOf own_pd6 rfl) rfl (by show 2 * 0 + _ ≤ _; exact own_b rfl) (hb hby at_177) (fun _ _ => ⟨rfl, e553, (own_b rfl : 8 + 0 ≤ _), (own_b rfl : 14 + 0 ≤ _)⟩)
      dsimp only [Pt.U, Pt.locs, Pt.cells, Pt.slots] at X554 l554 y554 z554 st554 hQ554
      obtain ⟨rfl, Nq554, eq554⟩ := hQ554
      obtain ⟨L554, X554, N554⟩ := own_absC (K := 8) (K' := 14) X554 l554 y554 z554 N544 Nq554
      have e554 : T554.heap = T544.heap := eq554
      refine own_go (B := (T554.setTop (mkF m 180 #[iv p0, iv p1, iv p2, iv p3, iv p4, iv p5, iv (3 : Int32), iv kk, rv a1, rv a4, rv a9, rv a16, rv a25, rv a36, rv a105, iv (2 : Int32), rv a4, rv a4, .unset, .unset, .unset, .unset, .unset, .unset, .unset] [(.int (1 : Int32))]))) st554 ?_
      have hc180 : ¬ (1 : Int32) = (0 : Int32) := (by decide)
      refine own_ifY X554 hx (hb hby at_180) (pc' := 185) (by decide) (by decide) hc180 ?_
      refine own_go (B := (T554.setTop (mkF m 187 #[iv p0, iv p1, iv p2, iv p3, iv p4, iv p5, iv (3 : Int32), iv kk, rv a1, rv a4, rv a9, rv a16, rv a25, rv a36, rv a105, iv (2 : Int32), rv a4, rv a4, .unset, .unset, .unset, .unset, .unset, .unset, .unset] [(.ref a105)]))) (fun t k => XS.aload X554.here hx rfl (hb hby at_185) rfl rfl k) ?_
      obtain ⟨cq555, kq555, qa555, qb555, qc555⟩ := isOf hZ e554 Ex544
      obtain ⟨_, _, ⟨T555, L555, k555, n555⟩, -, X555, ⟨Lc555, hQ555, l555, y555, z555⟩, st555⟩ := X554.virtualBack hx (y := own_y6) (z := own_y6) hown (mvT hZ w_27) (mvT hZ w_28) (notFace_of_selects (args := #[]) (mvT hZ w_30)) (mvT hZ w_30) (mvT hZ w_29) (by decide) (backOf (W := 0) (own_tone l Z a0 hw [] a105 ar121 a1 (1 : Int32) (0 : Int32) [(.ref a1), .null, .null] [.null, .null, .null] T544.heap n0 Ex544 gk544 gc544 gv544 F545 gn105 gn_ar121 ne_ar121_a105 (by decide) (by decide) (by decide) rfl rfl) hZ w_31 w_12 (by decide) (by decide)) qa555 qc555 (g := (mkF m 187 #[iv p0, iv p1, iv p2, iv p3, iv p4, iv p5, iv (3 : Int32), iv kk, rv a1, rv a4, rv a9, rv a16, rv a25, rv a36, rv a105, iv (2 : Int32), rv a4, rv a4, .unset, .unset, .unset, .unset, .unset, .unset, .unset] [(.ref a105)])) rfl (by rw [hml]; rfl) (Steps.refl _) (argsL := []) (rest := []) (lenOf own_pd5 rfl) rfl (by show 2 * 0 + _ ≤ _; exact own_b rfl) (hb hby at_187) (fun _ _ => ⟨rfl, e554, (own_b rfl : 8 + 0 ≤ _), (own_b rfl : 14 + 0 ≤ _)⟩)
      dsimp only [Pt.U, Pt.locs, Pt.cells, Pt.slots] at X555 l555 y555 z555 st555 hQ555
      obtain ⟨rfl, Nq555, K555, Ex555, gk555, gc555, gv555⟩ := hQ555
      obtain ⟨L555, X555, N555⟩ := own_absC (K := 8) (K' := 14) X555 l555 y555 z555 N554 Nq555
      have F556 : n0 ≤ T555.heap.size := Nat.le_trans F545 K555.1
      have F557 := Keep.trans F546 K555 (allS (Or.inr (Nat.le_trans F93.1 (Nat.le_of_eq ga105.symm))) (allS (Or.inr (Nat.le_trans K107.1 gz121)) all0))
      have F558 := own_Ao_keep F547 K555 (ninS (Ne.symm ne105_a36) (ninS (Ne.symm ne_ar121_a36) nin0))
      have F559 := Exa.keep Ex544 K555
      have F560 := own_Bn_keep F552 K555 hbq
      refine own_tr (B := (T555.setTop (mkF m 190 #[iv p0, iv p1, iv p2, iv p3, iv p4, iv p5, iv (3 : Int32), iv kk, rv a1, rv a4, rv a9, rv a16, rv a25, rv a36, rv a105, iv (2 : Int32), rv a4, rv a4, .unset, .unset, .unset, .unset, .unset, .unset, .unset] [(.ref a1)]))) st555 ?_
      obtain ⟨T564, X564, e564, st564⟩ := castY X555 hx hZ hown w_7 rfl (Ins.of_exa (own_Bn_exa F560 (List.mem_of_getElem? (i := 0) rfl)) w_9) (g := (mkF m 190 #[iv p0, iv p1, iv p2, iv p3, iv p4, iv p5, iv (3 : Int32), iv kk, rv a1, rv a4, rv a9, rv a16, rv a25, rv a36, rv a105, iv (2 : Int32), rv a4, rv a4, .unset, .unset, .unset, .unset, .unset, .unset, .unset] [(.ref a1)])) rfl rfl (hb hby at_190)
      refine own_go (B := (T564.setTop (mkF m 193 #[iv p0, iv p1, iv p2, iv p3, iv p4, iv p5, iv (3 : Int32), iv kk, rv a1, rv a4, rv a9, rv a16, rv a25, rv a36, rv a105, iv (2 : Int32), rv a4, rv a4, .unset, .unset, .unset, .unset, .unset, .unset, .unset] [(.ref a1)]))) st564 ?_
      refine own_go (B := (T564.setTop (mkF m 195 #[iv p0, iv p1, iv p2, iv p3, iv p4, iv p5, iv (3 : Int32), iv kk, rv a1, rv a4, rv a9, rv a16, rv a25, rv a36, rv a105, iv (2 : Int32), rv a4, rv a4, rv a1, .unset, .unset, .unset, .unset, .unset, .unset] []))) (fun t k => XS.astore X564.here hx rfl (hb hby at_193) rfl rfl (l' := #[iv p0, iv p1, iv p2, iv p3, iv p4, iv p5, iv (3 : Int32), iv kk, rv a1, rv a4, rv a9, rv a16, rv a25, rv a36, rv a105, iv (2 : Int32), rv a4, rv a4, rv a1, .unset, .unset, .unset, .unset, .unset, .unset]) rfl k) ?_
      refine own_go (B := (T564.setTop (mkF m 197 #[iv p0, iv p1, iv p2, iv p3, iv p4, iv p5, iv (3 : Int32), iv kk, rv a1, rv a4, rv a9, rv a16, rv a25, rv a36, rv a105, iv (2 : Int32), rv a4, rv a4, rv a1, .unset, .unset, .unset, .unset, .unset, .unset] [(.int (2 : Int32))]))) (fun t k => XS.iload X564.here hx rfl (hb hby at_195) rfl k) ?_
      refine own_go (B := (T564.setTop (mkF m 198 #[iv p0, iv p1, iv p2, iv p3, iv p4, iv p5, iv (3 : Int32), iv kk, rv a1, rv a4, rv a9, rv a16, rv a25, rv a36, rv a105, iv (2 : Int32), rv a4, rv a4, rv a1, .unset, .unset, .unset, .unset, .unset, .unset] [(.int (2 : Int32)), (.int (2 : Int32))]))) (fun t k => own_iconst (v := (2 : Int32)) X564.here hx rfl (hb hby at_197) (by decide) k) ?_
      have hc198 : ¬ (2 : Int32) < (2 : Int32) := (by decide)
      refine own_icmpN X564 hx (hb hby at_198) (pn := 201) rfl hc198 ?_
      refine own_go (B := (T564.setTop (mkF m 203 #[iv p0, iv p1, iv p2, iv p3, iv p4, iv p5, iv (3 : Int32), iv kk, rv a1, rv a4, rv a9, rv a16, rv a25, rv a36, rv a105, iv (2 : Int32), rv a4, rv a4, rv a1, .unset, .unset, .unset, .unset, .unset, .unset] [(.ref a36)]))) (fun t k => XS.aload X564.here hx rfl (hb hby at_201) rfl rfl k) ?_
      refine own_go (B := (T564.setTop (mkF m 205 #[iv p0, iv p1, iv p2, iv p3, iv p4, iv p5, iv (3 : Int32), iv kk, rv a1, rv a4, rv a9, rv a16, rv a25, rv a36, rv a105, iv (2 : Int32), rv a4, rv a4, rv a1, .unset, .unset, .unset, .unset, .unset, .unset] [(.int (2 : Int32)), (.ref a36)]))) (fun t k => XS.iload X564.here hx rfl (hb hby at_203) rfl k) ?_
      refine own_go (B := (T564.setTop (mkF m 206 #[iv p0, iv p1, iv p2, iv p3, iv p4, iv p5, iv (3 : Int32), iv kk, rv a1, rv a4, rv a9, rv a16, rv a25, rv a36, rv a105, iv (2 : Int32), rv a4, rv a4, rv a1, .unset, .unset, .unset, .unset, .unset, .unset] [(.int (2 : Int32)), (.int (2 : Int32)), (.ref a36)]))) (fun t k => own_iconst (v := (2 : Int32)) X564.here hx rfl (hb hby at_205) (by decide) k) ?_
      refine own_go (B := (T564.setTop (mkF m 207 #[iv p0, iv p1, iv p2, iv p3, iv p4, iv p5, iv (3 : Int32), iv kk, rv a1, rv a4, rv a9, rv a16, rv a25, rv a36, rv a105, iv (2 : Int32), rv a4, rv a4, rv a1, .unset, .unset, .unset, .unset, .unset, .unset] [(.int ((2 : Int32) - (2 : Int32))), (.ref a36)]))) (fun t k => XS.isub (x := (2 : Int32)) (y := (2 : Int32)) X564.here hx rfl (hb hby at_206) rfl k) ?_
      rw [show ((2 : Int32) - (2 : Int32)) = (0 : Int32) from by decide]
      refine own_go (B := (T564.setTop (mkF m 208 #[iv p0, iv p1, iv p2, iv p3, iv p4, iv p5, iv (3 : Int32), iv kk, rv a1, rv a4, rv a9, rv a16, rv a25, rv a36, rv a105, iv (2 : Int32), rv a4, rv a4, rv a1, .unset, .unset, .unset, .unset, .unset, .unset] [(.ref a1)]))) (own_ldR X564 hx hZ e564 (own_Ao_ar F558) rfl (v := (.ref a1)) (by decide) rfl (g := (mkF m 207 #[iv p0, iv p1, iv p2, iv p3, iv p4, iv p5, iv (3 : Int32), iv kk, rv a1, rv a4, rv a9, rv a16, rv a25, rv a36, rv a105, iv (2 : Int32), rv a4, rv a4, rv a1, .unset, .unset, .unset, .unset, .unset, .unset] [(.int (0 : Int32)), (.ref a36)])) rfl rfl (hb hby at_207)) ?_
      refine own_go (B := (T564.setTop (mkF m 212 #[iv p0, iv p1, iv p2, iv p3, iv p4, iv p5, iv (3 : Int32), iv kk, rv a1, rv a4, rv a9, rv a16, rv a25, rv a36, rv a105, iv (2 : Int32), rv a4, rv a4, rv a1, .unset, .unset, .unset, .unset, .unset, .unset] [(.ref a1)]))) (fun t k => XS.goto X564.here hx rfl (pc0 := 208) (pc' := 212) rfl (hb hby at_208) (by decide) (by decide) k) ?_
      refine own_go (B := (T564.setTop (mkF m 214 #[iv p0, iv p1, iv p2, iv p3, iv p4, iv p5, iv (3 : Int32), iv kk, rv a1, rv a4, rv a9, rv a16, rv a25, rv a36, rv a105, iv (2 : Int32), rv a4, rv a4, rv a1, rv a1, .unset, .unset, .unset, .unset, .unset] []))) (fun t k => XS.astore X564.here hx rfl (hb hby at_212) rfl rfl (l' := #[iv p0, iv p1, iv p2, iv p3, iv p4, iv p5, iv (3 : Int32), iv kk, rv a1, rv a4, rv a9, rv a16, rv a25, rv a36, rv a105, iv (2 : Int32), rv a4, rv a4, rv a1, rv a1, .unset, .unset, .unset, .unset, .unset]) rfl k) ?_
      refine own_go (B := (T564.setTop (mkF m 216 #[iv p0, iv p1, iv p2, iv p3, iv p4, iv p5, iv (3 : Int32), iv kk, rv a1, rv a4, rv a9, rv a16, rv a25, rv a36, rv a105, iv (2 : Int32), rv a4, rv a4, rv a1, rv a1, .unset, .unset, .unset, .unset, .unset] [(.ref a1)]))) (fun t k => XS.aload X564.here hx rfl (hb hby at_214) rfl rfl k) ?_
      refine own_go (B := (T564.setTop (mkF m 218 #[iv p0, iv p1, iv p2, iv p3, iv p4, iv p5, iv (3 : Int32), iv kk, rv a1, rv a4, rv a9, rv a16, rv a25, rv a36, rv a105, iv (2 : Int32), rv a4, rv a4, rv a1, rv a1, .unset, .unset, .unset, .unset, .unset] [(.ref a1), (.ref a1)]))) (fun t k => XS.aload X564.here hx rfl (hb hby at_216) rfl rfl k) ?_
      obtain ⟨_, _, ⟨T565, L565, k565, n565⟩, -, X565, ⟨Lc565, hQ565, l565, y565, z565⟩, st565⟩ := Jvm.LawKit.callS X564 hx (y := own_y7) hown (mvT hZ w_34) (mvT hZ w_35) (mvT hZ w_36) (mvT hZ w_37) (by decide) (backOf (W := 0) (own_same1 l Z a0 hw [] a1 a1 p1 T555.heap n0 (own_Bn_exa F560 (List.mem_of_getElem? (i := 0) rfl)) (own_Bn_fld F560 (List.mem_of_getElem? (i := 0) rfl)) (own_Bn_exa F560 (List.mem_of_getElem? (i := 0) rfl)) (own_Bn_fld F560 (List.mem_of_getElem? (i := 0) rfl))) hZ w_37 w_36 (by decide) (by decide)) (g := (mkF m 218 #[iv p0, iv p1, iv p2, iv p3, iv p4, iv p5, iv (3 : Int32), iv kk, rv a1, rv a4, rv a9, rv a16, rv a25, rv a36, rv a105, iv (2 : Int32), rv a4, rv a4, rv a1, rv a1, .unset, .unset, .unset, .unset, .unset] [(.ref a1), (.ref a1)])) rfl (by rw [hml]; rfl) (argsL := [(.ref a1), (.ref a1)]) (rest := []) (lenOf own_pd6 rfl) rfl (by show 2 * 0 + _ ≤ _; exact own_b rfl) (hb hby at_218) (fun _ _ => ⟨rfl, e564, (own_b rfl : 8 + 0 ≤ _), (own_b rfl : 14 + 0 ≤ _)⟩)
      dsimp only [Pt.U, Pt.locs, Pt.cells, Pt.slots] at X565 l565 y565 z565 st565 hQ565
      obtain ⟨rfl, Nq565, eq565⟩ := hQ565
      obtain ⟨L565, X565, N565⟩ := own_absC (K := 8) (K' := 14) X565 l565 y565 z565 N555 Nq565
      have e565 : T565.heap = T555.heap := eq565
      refine own_go (B := (T565.setTop (mkF m 221 #[iv p0, iv p1, iv p2, iv p3, iv p4, iv p5, iv (3 : Int32), iv kk, rv a1, rv a4, rv a9, rv a16, rv a25, rv a36, rv a105, iv (2 : Int32), rv a4, rv a4, rv a1, rv a1, .unset, .unset, .unset, .unset, .unset] [(.int (1 : Int32))]))) st565 ?_
      have hc221 : ¬ (1 : Int32) = (0 : Int32) := (by decide)
      refine own_ifY X565 hx (hb hby at_221) (pc' := 226) (by decide) (by decide) hc221 ?_
      refine own_go (B := (T565.setTop (mkF m 228 #[iv p0, iv p1, iv p2, iv p3, iv p4, iv p5, iv (3 : Int32), iv kk, rv a1, rv a4, rv a9, rv a16, rv a25, rv a36, rv a105, iv (2 : Int32), rv a4, rv a4, rv a1, rv a1, .unset, .unset, .unset, .unset, .unset] [(.int (2 : Int32))]))) (fun t k => XS.iload X565.here hx rfl (hb hby at_226) rfl k) ?_
      refine own_go (B := (T565.setTop (mkF m 229 #[iv p0, iv p1, iv p2, iv p3, iv p4, iv p5, iv (3 : Int32), iv kk, rv a1, rv a4, rv a9, rv a16, rv a25, rv a36, rv a105, iv (2 : Int32), rv a4, rv a4, rv a1, rv a1, .unset, .unset, .unset, .unset, .unset] [(.int (2 : Int32)), (.int (2 : Int32))]))) (fun t k => own_iconst (v := (2 : Int32)) X565.here hx rfl (hb hby at_228) (by decide) k) ?_
      refine own_go (B := (T565.setTop (mkF m 230 #[iv p0, iv p1, iv p2, iv p3, iv p4, iv p5, iv (3 : Int32), iv kk, rv a1, rv a4, rv a9, rv a16, rv a25, rv a36, rv a105, iv (2 : Int32), rv a4, rv a4, rv a1, rv a1, .unset, .unset, .unset, .unset, .unset] [(.int ((2 : Int32) - (2 : Int32)))]))) (fun t k => XS.isub (x := (2 : Int32)) (y := (2 : Int32)) X565.here hx rfl (hb hby at_229) rfl k) ?_
      rw [show ((2 : Int32) - (2 : Int32)) = (0 : Int32) from by decide]
      refine own_go (B := (T565.setTop (mkF m 231 #[iv p0, iv p1, iv p2, iv p3, iv p4, iv p5, iv (3 : Int32), iv kk, rv a1, rv a4, rv a9, rv a16, rv a25, rv a36, rv a105, iv (2 : Int32), rv a4, rv a4, rv a1, rv a1, .unset, .unset, .unset, .unset, .unset] [(.int (0 : Int32)), (.int (0 : Int32))]))) (fun t k => own_iconst (v := (0 : Int32)) X565.here hx rfl (hb hby at_230) (by decide) k) ?_
      obtain ⟨_, _, ⟨T566, L566, k566, n566⟩, -, X566, ⟨Lc566, hQ566, l566, y566, z566⟩, st566⟩ := Jvm.LawKit.callS X565 hx (y := own_y8) hown (mvT hZ w_38) (mvT hZ w_39) (mvT hZ w_25) (mvT hZ w_40) (by decide) (backOf (W := 0) (own_mmax l Z a0 hw [] (0 : Int32) (0 : Int32) T555.heap n0) hZ w_40 w_25 (by decide) (by decide)) (g := (mkF m 231 #[iv p0, iv p1, iv p2, iv p3, iv p4, iv p5, iv (3 : Int32), iv kk, rv a1, rv a4, rv a9, rv a16, rv a25, rv a36, rv a105, iv (2 : Int32), rv a4, rv a4, rv a1, rv a1, .unset, .unset, .unset, .unset, .unset] [(.int (0 : Int32)), (.int (0 : Int32))])) rfl (by rw [hml]; rfl) (argsL := [(.int (0 : Int32)), (.int (0 : Int32))]) (rest := []) (lenOf own_pd7 rfl) rfl (by show 2 * 0 + _ ≤ _; exact own_b rfl) (hb hby at_231) (fun _ _ => ⟨rfl, e565, (own_b rfl : 8 + 0 ≤ _), (own_b rfl : 14 + 0 ≤ _)⟩)
      dsimp only [Pt.U, Pt.locs, Pt.cells, Pt.slots] at X566 l566 y566 z566 st566 hQ566
      obtain ⟨rfl, Nq566, eq566⟩ := hQ566
      obtain ⟨L566, X566, N566⟩ := own_absC (K := 8) (K' := 14) X566 l566 y566 z566 N565 Nq566
      have e566 : T566.heap = T555.heap := eq566
      refine own_go (B := (T566.setTop (mkF m 234 #[iv p0, iv p1, iv p2, iv p3, iv p4, iv p5, iv (3 : Int32), iv kk, rv a1, rv a4, rv a9, rv a16, rv a25, rv a36, rv a105, iv (2 : Int32), rv a4, rv a4, rv a1, rv a1, .unset, .unset, .unset, .unset, .unset] [(.int (own_max (0 : Int32) (0 : Int32)))]))) st566 ?_
      rw [show own_max (0 : Int32) (0 : Int32) = (0 : Int32) from by decide]
      refine own_go (B := (T566.setTop (mkF m 236 #[iv p0, iv p1, iv p2, iv p3, iv p4, iv p5, iv (3 : Int32), iv kk, rv a1, rv a4, rv a9, rv a16, rv a25, rv a36, rv a105, iv (2 : Int32), rv a4, rv a4, rv a1, rv a1, iv (0 : Int32), .unset, .unset, .unset, .unset] []))) (fun t k => XS.istore X566.here hx rfl (hb hby at_234) rfl (l' := #[iv p0, iv p1, iv p2, iv p3, iv p4, iv p5, iv (3 : Int32), iv kk, rv a1, rv a4, rv a9, rv a16, rv a25, rv a36, rv a105, iv (2 : Int32), rv a4, rv a4, rv a1, rv a1, iv (0 : Int32), .unset, .unset, .unset, .unset]) rfl k) ?_
      refine own_go (B := (T566.setTop (mkF m 238 #[iv p0, iv p1, iv p2, iv p3, iv p4, iv p5, iv (3 : Int32), iv kk, rv a1, rv a4, rv a9, rv a16, rv a25, rv a36, rv a105, iv (2 : Int32), rv a4, rv a4, rv a1, rv a1, iv (0 : Int32), .unset, .unset, .unset, .unset] [(.ref a105)]))) (fun t k => XS.aload X566.here hx rfl (hb hby at_236) rfl rfl k) ?_
      refine own_go (B := (T566.setTop (mkF m 240 #[iv p0, iv p1, iv p2, iv p3, iv p4, iv p5, iv (3 : Int32), iv kk, rv a1, rv a4, rv a9, rv a16, rv a25, rv a36, rv a105, iv (2 : Int32), rv a4, rv a4, rv a1, rv a1, iv (0 : Int32), .unset, .unset, .unset, .unset] [(.ref a25), (.ref a105)]))) (fun t k => XS.aload X566.here hx rfl (hb hby at_238) rfl rfl k) ?_
      obtain ⟨cq567, kq567, qa567, qb567, qc567⟩ := isOf hZ e566 Ex555
      obtain ⟨_, _, ⟨T567, L567, k567, n567⟩, -, X567, ⟨Lc567, hQ567, l567, y567, z567⟩, st567⟩ := X566.virtualBack hx (y := own_y9) (z := own_y9) hown (mvT hZ w_41) (mvT hZ w_42) (notFace_of_selects (args := #[]) (mvT hZ w_44)) (mvT hZ w_44) (mvT hZ w_43) (by decide) (backOf (W := 0) (own_kone l Z a0 hw [] a105 a25 ar121 (0 : Int32) (3 : Int32) (1 : Int32) [.null, .null, .null] [(.ref a25), .null, .null] T555.heap n0 Ex555 gk555 gc555 gv555 F556 gn105 gn_ar121 ne_ar121_a105 (own_lenL (n := 3) rfl (by decide)) (by decide) (by decide) (Nat.lt_of_lt_of_eq (by decide : _ < 3) rfl) (by decide) (Ins.of_exa (own_Bn_exa F560 (List.mem_of_getElem? (i := 4) rfl)) w_60) rfl) hZ w_45 w_12 (by decide) (by decide)) qa567 qc567 (g := (mkF m 240 #[iv p0, iv p1, iv p2, iv p3, iv p4, iv p5, iv (3 : Int32), iv kk, rv a1, rv a4, rv a9, rv a16, rv a25, rv a36, rv a105, iv (2 : Int32), rv a4, rv a4, rv a1, rv a1, iv (0 : Int32), .unset, .unset, .unset, .unset] [(.ref a25), (.ref a105)])) rfl (by rw [hml]; rfl) (Steps.refl _) (argsL := [(.ref a25)]) (rest := []) (lenOf own_pd8 rfl) rfl (by show 2 * 0 + _ ≤ _; exact own_b rfl) (hb hby at_240) (fun _ _ => ⟨rfl, e566, (own_b rfl : 8 + 0 ≤ _), (own_b rfl : 14 + 0 ≤ _)⟩)
      dsimp only [Pt.U, Pt.locs, Pt.cells, Pt.slots] at X567 l567 y567 z567 st567 hQ567
      obtain ⟨rfl, Nq567, K567, Ex567, gk567, gc567, gv567⟩ := hQ567
      obtain ⟨L567, X567, N567⟩ := own_absC (K := 8) (K' := 14) X567 l567 y567 z567 N566 Nq567
      have F568 : n0 ≤ T567.heap.size := Nat.le_trans F556 K567.1
      have F569 := Keep.trans F557 K567 (allS (Or.inr (Nat.le_trans F93.1 (Nat.le_of_eq ga105.symm))) (allS (Or.inr (Nat.le_trans K107.1 gz121)) all0))
      have F570 := own_Ao_keep F558 K567 (ninS (Ne.symm ne105_a36) (ninS (Ne.symm ne_ar121_a36) nin0))
      have F571 := Exa.keep Ex555 K567
      have F572 := own_Bn_keep F560 K567 hbq
      refine own_tr (B := (T567.setTop (mkF m 243 #[iv p0, iv p1, iv p2, iv p3, iv p4, iv p5, iv (3 : Int32), iv kk, rv a1, rv a4, rv a9, rv a16, rv a25, rv a36, rv a105, iv (2 : Int32), rv a4, rv a4, rv a1, rv a1, iv (0 : Int32), .unset, .unset, .unset, .unset] []))) st567 ?_
      refine own_go (B := (T567.setTop (mkF m 245 #[iv p0, iv p1, iv p2, iv p3, iv p4, iv p5, iv (3 : Int32), iv kk, rv a1, rv a4, rv a9, rv a16, rv a25, rv a36, rv a105, iv (2 : Int32), rv a4, rv a4, rv a1, rv a1, iv (0 : Int32), .unset, .unset, .unset, .unset] [(.ref a105)]))) (fun t k => XS.aload X567.here hx rfl (hb hby at_243) rfl rfl k) ?_
      obtain ⟨cq576, kq576, qa576, qb576, qc576⟩ := isOf hZ rfl Ex567
      obtain ⟨_, _, ⟨T576, L576, k576, n576⟩, -, X576, ⟨Lc576, hQ576, l576, y576, z576⟩, st576⟩ := X567.virtualBack hx (y := own_y6) (z := own_y6) hown (mvT hZ w_27) (mvT hZ w_28) (notFace_of_selects (args := #[]) (mvT hZ w_30)) (mvT hZ w_30) (mvT hZ w_29) (by decide) (backOf (W := 0) (own_tone l Z a0 hw [] a105 ar121 a25 (1 : Int32) (0 : Int32) [(.ref a25), .null, .null] [.null, .null, .null] T567.heap n0 Ex567 gk567 gc567 gv567 F568 gn105 gn_ar121 ne_ar121_a105 (by decide) (by decide) (by decide) rfl rfl) hZ w_31 w_12 (by decide) (by decide)) qa576 qc576 (g := (mkF m 245 #[iv p0, iv p1, iv p2, iv p3, iv p4, iv p5, iv (3 : Int32), iv kk, rv a1, rv a4, rv a9, rv a16, rv a25, rv a36, rv a105, iv (2 : Int32), rv a4, rv a4, rv a1, rv a1, iv (0 : Int32), .unset, .unset, .unset, .unset] [(.ref a105)])) rfl (by rw [hml]; rfl) (Steps.refl _) (argsL := []) (rest := []) (lenOf own_pd5 rfl) rfl (by show 2 * 0 + _ ≤ _; exact own_b rfl) (hb hby at_245) (fun _ _ => ⟨rfl, rfl, (own_b rfl : 8 + 0 ≤ _), (own_b rfl : 14 + 0 ≤ _)⟩)
      dsimp only [Pt.U, Pt.locs, Pt.cells, Pt.slots] at X576 l576 y576 z576 st576 hQ576
      obtain ⟨rfl, Nq576, K576, Ex576, gk576, gc576, gv576⟩ := hQ576
      obtain ⟨L576, X576, N576⟩ := own_absC (K := 8) (K' := 14) X576 l576 y576 z576 N567 Nq576
      have F577 : n0 ≤ T576.heap.size := Nat.le_trans F568 K576.1
      have F578 := Keep.trans F569 K576 (allS (Or.inr (Nat.le_trans F93.1 (Nat.le_of_eq ga105.symm))) (allS (Or.inr (Nat.le_trans K107.1 gz121)) all0))
      have F579 := own_Ao_keep F570 K576 (ninS (Ne.symm ne105_a36) (ninS (Ne.symm ne_ar121_a36) nin0))
      have F580 := Exa.keep Ex567 K576
      have F581 := own_Bn_keep F572 K576 hbq
      refine own_tr (B := (T576.setTop (mkF m 248 #[iv p0, iv p1, iv p2, iv p3, iv p4, iv p5, iv (3 : Int32), iv kk, rv a1, rv a4, rv a9, rv a16, rv a25, rv a36, rv a105, iv (2 : Int32), rv a4, rv a4, rv a1, rv a1, iv (0 : Int32), .unset, .unset, .unset, .unset] [(.ref a25)]))) st576 ?_
      obtain ⟨T585, X585, e585, st585⟩ := castY X576 hx hZ hown w_7 rfl (Ins.of_exa (own_Bn_exa F581 (List.mem_of_getElem? (i := 4) rfl)) w_9) (g := (mkF m 248 #[iv p0, iv p1, iv p2, iv p3, iv p4, iv p5, iv (3 : Int32), iv kk, rv a1, rv a4, rv a9, rv a16, rv a25, rv a36, rv a105, iv (2 : Int32), rv a4, rv a4, rv a1, rv a1, iv (0 : Int32), .unset, .unset, .unset, .unset] [(.ref a25)])) rfl rfl (hb hby at_248)
      refine own_go (B := (T585.setTop (mkF m 251 #[iv p0, iv p1, iv p2, iv p3, iv p4, iv p5, iv (3 : Int32), iv kk, rv a1, rv a4, rv a9, rv a16, rv a25, rv a36, rv a105, iv (2 : Int32), rv a4, rv a4, rv a1, rv a1, iv (0 : Int32), .unset, .unset, .unset, .unset] [(.ref a25)]))) st585 ?_
      refine own_go (B := (T585.setTop (mkF m 253 #[iv p0, iv p1, iv p2, iv p3, iv p4, iv p5, iv (3 : Int32), iv kk, rv a1, rv a4, rv a9, rv a16, rv a25, rv a36, rv a105, iv (2 : Int32), rv a4, rv a4, rv a1, rv a1, iv (0 : Int32), rv a25, .unset, .unset, .unset] []))) (fun t k => XS.astore X585.here hx rfl (hb hby at_251) rfl rfl (l' := #[iv p0, iv p1, iv p2, iv p3, iv p4, iv p5, iv (3 : Int32), iv kk, rv a1, rv a4, rv a9, rv a16, rv a25, rv a36, rv a105, iv (2 : Int32), rv a4, rv a4, rv a1, rv a1, iv (0 : Int32), rv a25, .unset, .unset, .unset]) rfl k) ?_
      refine own_go (B := (T585.setTop (mkF m 255 #[iv p0, iv p1, iv p2, iv p3, iv p4, iv p5, iv (3 : Int32), iv kk, rv a1, rv a4, rv a9, rv a16, rv a25, rv a36, rv a105, iv (2 : Int32), rv a4, rv a4, rv a1, rv a1, iv (0 : Int32), rv a25, .unset, .unset, .unset] [(.int (3 : Int32))]))) (fun t k => XS.iload X585.here hx rfl (hb hby at_253) rfl k) ?_
      have hc255 : (0 : Int32) < (3 : Int32) := (by decide)
      refine own_ifN X585 hx (hb hby at_255) (pn := 258) rfl hc255 ?_
      refine own_go (B := (T585.setTop (mkF m 260 #[iv p0, iv p1, iv p2, iv p3, iv p4, iv p5, iv (3 : Int32), iv kk, rv a1, rv a4, rv a9, rv a16, rv a25, rv a36, rv a105, iv (2 : Int32), rv a4, rv a4, rv a1, rv a1, iv (0 : Int32), rv a25, .unset, .unset, .unset] [(.ref a25)]))) (fun t k => XS.aload X585.here hx rfl (hb hby at_258) rfl rfl k) ?_
      refine own_go (B := (T585.setTop (mkF m 264 #[iv p0, iv p1, iv p2, iv p3, iv p4, iv p5, iv (3 : Int32), iv kk, rv a1, rv a4, rv a9, rv a16, rv a25, rv a36, rv a105, iv (2 : Int32), rv a4, rv a4, rv a1, rv a1, iv (0 : Int32), rv a25, .unset, .unset, .unset] [(.ref a25)]))) (fun t k => XS.goto X585.here hx rfl (pc0 := 260) (pc' := 264) rfl (hb hby at_260) (by decide) (by decide) k) ?_
      refine own_go (B := (T585.setTop (mkF m 266 #[iv p0, iv p1, iv p2, iv p3, iv p4, iv p5, iv (3 : Int32), iv kk, rv a1, rv a4, rv a9, rv a16, rv a25, rv a36, rv a105, iv (2 : Int32), rv a4, rv a4, rv a1, rv a1, iv (0 : Int32), rv a25, rv a25, .unset, .unset] []))) (fun t k => XS.astore X585.here hx rfl (hb hby at_264) rfl rfl (l' := #[iv p0, iv p1, iv p2, iv p3, iv p4, iv p5, iv (3 : Int32), iv kk, rv a1, rv a4, rv a9, rv a16, rv a25, rv a36, rv a105, iv (2 : Int32), rv a4, rv a4, rv a1, rv a1, iv (0 : Int32), rv a25, rv a25, .unset, .unset]) rfl k) ?_
      refine own_go (B := (T585.setTop (mkF m 268 #[iv p0, iv p1, iv p2, iv p3, iv p4, iv p5, iv (3 : Int32), iv kk, rv a1, rv a4, rv a9, rv a16, rv a25, rv a36, rv a105, iv (2 : Int32), rv a4, rv a4, rv a1, rv a1, iv (0 : Int32), rv a25, rv a25, .unset, .unset] [(.ref a25)]))) (fun t k => XS.aload X585.here hx rfl (hb hby at_266) rfl rfl k) ?_
      refine own_go (B := (T585.setTop (mkF m 270 #[iv p0, iv p1, iv p2, iv p3, iv p4, iv p5, iv (3 : Int32), iv kk, rv a1, rv a4, rv a9, rv a16, rv a25, rv a36, rv a105, iv (2 : Int32), rv a4, rv a4, rv a1, rv a1, iv (0 : Int32), rv a25, rv a25, .unset, .unset] [(.ref a25), (.ref a25)]))) (fun t k => XS.aload X585.here hx rfl (hb hby at_268) rfl rfl k) ?_
      obtain ⟨_, _, ⟨T586, L586, k586, n586⟩, -, X586, ⟨Lc586, hQ586, l586, y586, z586⟩, st586⟩ := Jvm.LawKit.callS X585 hx (y := own_y7) hown (mvT hZ w_34) (mvT hZ w_35) (mvT hZ w_36) (mvT hZ w_37) (by decide) (backOf (W := 0) (own_same1 l Z a0 hw [] a25 a25 p5 T576.heap n0 (own_Bn_exa F581 (List.mem_of_getElem? (i := 4) rfl)) (own_Bn_fld F581 (List.mem_of_getElem? (i := 4) rfl)) (own_Bn_exa F581 (List.mem_of_getElem? (i := 4) rfl)) (own_Bn_fld F581 (List.mem_of_getElem? (i := 4) rfl))) hZ w_37 w_36 (by decide) (by decide)) (g := (mkF m 270 #[iv p0, iv p1, iv p2, iv p3, iv p4, iv p5, iv (3 : Int32), iv kk, rv a1, rv a4, rv a9, rv a16, rv a25, rv a36, rv a105, iv (2 : Int32), rv a4, rv a4, rv a1, rv a1, iv (0 : Int32), rv a25, rv a25, .unset, .unset] [(.ref a25), (.ref a25)])) rfl (by rw [hml]; rfl) (argsL := [(.ref a25), (.ref a25)]) (rest := []) (lenOf own_pd6 rfl) rfl (by show 2 * 0 + _ ≤ _; exact own_b rfl) (hb hby at_270) (fun _ _ => ⟨rfl, e585, (own_b rfl : 8 + 0 ≤ _), (own_b rfl : 14 + 0 ≤ _)⟩)
      dsimp only [Pt.U, Pt.locs, Pt.cells, Pt.slots] at X586 l586 y586 z586 st586 hQ586
      obtain ⟨rfl, Nq586, eq586⟩ := hQ586
      obtain ⟨L586, X586, N586⟩ := own_absC (K := 8) (K' := 14) X586 l586 y586 z586 N576 Nq586
      have e586 : T586.heap = T576.heap := eq586
      refine own_go (B := (T586.setTop (mkF m 273 #[iv p0, iv p1, iv p2, iv p3, iv p4, iv p5, iv (3 : Int32), iv kk, rv a1, rv a4, rv a9, rv a16, rv a25, rv a36, rv a105, iv (2 : Int32), rv a4, rv a4, rv a1, rv a1, iv (0 : Int32), rv a25, rv a25, .unset, .unset] [(.int (1 : Int32))]))) st586 ?_
      have hc273 : ¬ (1 : Int32) = (0 : Int32) := (by decide)
      refine own_ifY X586 hx (hb hby at_273) (pc' := 278) (by decide) (by decide) hc273 ?_
      refine own_go (B := (T586.setTop (mkF m 280 #[iv p0, iv p1, iv p2, iv p3, iv p4, iv p5, iv (3 : Int32), iv kk, rv a1, rv a4, rv a9, rv a16, rv a25, rv a36, rv a105, iv (2 : Int32), rv a4, rv a4, rv a1, rv a1, iv (0 : Int32), rv a25, rv a25, .unset, .unset] [(.ref a105)]))) (fun t k => XS.aload X586.here hx rfl (hb hby at_278) rfl rfl k) ?_
      obtain ⟨cq587, kq587, qa587, qb587, qc587⟩ := isOf hZ e586 Ex576
      obtain ⟨_, _, ⟨T587, L587, k587, n587⟩, -, X587, ⟨Lc587, hQ587, l587, y587, z587⟩, st587⟩ := X586.virtualBack hx (y := own_y6) (z := own_y6) hown (mvT hZ w_27) (mvT hZ w_28) (notFace_of_selects (args := #[]) (mvT hZ w_30)) (mvT hZ w_30) (mvT hZ w_29) (by decide) (backOf (W := 0) (own_tnone l Z a0 hw [] a105 T576.heap n0 gc576) hZ w_31 w_12 (by decide) (by decide)) qa587 qc587 (g := (mkF m 280 #[iv p0, iv p1, iv p2, iv p3, iv p4, iv p5, iv (3 : Int32), iv kk, rv a1, rv a4, rv a9, rv a16, rv a25, rv a36, rv a105, iv (2 : Int32), rv a4, rv a4, rv a1, rv a1, iv (0 : Int32), rv a25, rv a25, .unset, .unset] [(.ref a105)])) rfl (by rw [hml]; rfl) (Steps.refl _) (argsL := []) (rest := []) (lenOf own_pd5 rfl) rfl (by show 2 * 0 + _ ≤ _; exact own_b rfl) (hb hby at_280) (fun _ _ => ⟨rfl, e586, (own_b rfl : 8 + 0 ≤ _), (own_b rfl : 14 + 0 ≤ _)⟩)
      dsimp only [Pt.U, Pt.locs, Pt.cells, Pt.slots] at X587 l587 y587 z587 st587 hQ587
      obtain ⟨rfl, Nq587, eq587⟩ := hQ587
      obtain ⟨L587, X587, N587⟩ := own_absC (K := 8) (K' := 14) X587 l587 y587 z587 N586 Nq587
      have e587 : T587.heap = T576.heap := eq587
      refine own_tr (B := (T587.setTop (mkF m 283 #[iv p0, iv p1, iv p2, iv p3, iv p4, iv p5, iv (3 : Int32), iv kk, rv a1, rv a4, rv a9, rv a16, rv a25, rv a36, rv a105, iv (2 : Int32), rv a4, rv a4, rv a1, rv a1, iv (0 : Int32), rv a25, rv a25, .unset, .unset] [.null]))) st587 ?_
      refine own_go (B := (T587.setTop (mkF m 286 #[iv p0, iv p1, iv p2, iv p3, iv p4, iv p5, iv (3 : Int32), iv kk, rv a1, rv a4, rv a9, rv a16, rv a25, rv a36, rv a105, iv (2 : Int32), rv a4, rv a4, rv a1, rv a1, iv (0 : Int32), rv a25, rv a25, .unset, .unset] [.null]))) (X587.checkcastNull hx (g := (mkF m 283 #[iv p0, iv p1, iv p2, iv p3, iv p4, iv p5, iv (3 : Int32), iv kk, rv a1, rv a4, rv a9, rv a16, rv a25, rv a36, rv a105, iv (2 : Int32), rv a4, rv a4, rv a1, rv a1, iv (0 : Int32), rv a25, rv a25, .unset, .unset] [.null])) rfl rfl (hb hby at_283)) ?_
      refine own_go (B := (T587.setTop (mkF m 288 #[iv p0, iv p1, iv p2, iv p3, iv p4, iv p5, iv (3 : Int32), iv kk, rv a1, rv a4, rv a9, rv a16, rv a25, rv a36, rv a105, iv (2 : Int32), rv a4, rv a4, rv a1, rv a1, iv (0 : Int32), rv a25, rv a25, .val .null, .unset] []))) (fun t k => XS.astore X587.here hx rfl (hb hby at_286) rfl rfl (l' := #[iv p0, iv p1, iv p2, iv p3, iv p4, iv p5, iv (3 : Int32), iv kk, rv a1, rv a4, rv a9, rv a16, rv a25, rv a36, rv a105, iv (2 : Int32), rv a4, rv a4, rv a1, rv a1, iv (0 : Int32), rv a25, rv a25, .val .null, .unset]) rfl k) ?_
      refine own_go (B := (T587.setTop (mkF m 290 #[iv p0, iv p1, iv p2, iv p3, iv p4, iv p5, iv (3 : Int32), iv kk, rv a1, rv a4, rv a9, rv a16, rv a25, rv a36, rv a105, iv (2 : Int32), rv a4, rv a4, rv a1, rv a1, iv (0 : Int32), rv a25, rv a25, .val .null, .unset] [(.int (0 : Int32))]))) (fun t k => XS.iload X587.here hx rfl (hb hby at_288) rfl k) ?_
      refine own_go (B := (T587.setTop (mkF m 291 #[iv p0, iv p1, iv p2, iv p3, iv p4, iv p5, iv (3 : Int32), iv kk, rv a1, rv a4, rv a9, rv a16, rv a25, rv a36, rv a105, iv (2 : Int32), rv a4, rv a4, rv a1, rv a1, iv (0 : Int32), rv a25, rv a25, .val .null, .unset] [(.int (1 : Int32)), (.int (0 : Int32))]))) (fun t k => own_iconst (v := (1 : Int32)) X587.here hx rfl (hb hby at_290) (by decide) k) ?_
      have hc291 : (0 : Int32) < (1 : Int32) := (by decide)
      refine own_icmpY X587 hx (hb hby at_291) (pc' := 304) (by decide) (by decide) hc291 ?_
      refine own_go (B := (T587.setTop (mkF m 305 #[iv p0, iv p1, iv p2, iv p3, iv p4, iv p5, iv (3 : Int32), iv kk, rv a1, rv a4, rv a9, rv a16, rv a25, rv a36, rv a105, iv (2 : Int32), rv a4, rv a4, rv a1, rv a1, iv (0 : Int32), rv a25, rv a25, .val .null, .unset] [.null]))) (fun t k => XS.aconstNull X587.here hx rfl (hb hby at_304) k) ?_
      refine own_go (B := (T587.setTop (mkF m 307 #[iv p0, iv p1, iv p2, iv p3, iv p4, iv p5, iv (3 : Int32), iv kk, rv a1, rv a4, rv a9, rv a16, rv a25, rv a36, rv a105, iv (2 : Int32), rv a4, rv a4, rv a1, rv a1, iv (0 : Int32), rv a25, rv a25, .val .null, .val .null] []))) (fun t k => XS.astore X587.here hx rfl (hb hby at_305) rfl rfl (l' := #[iv p0, iv p1, iv p2, iv p3, iv p4, iv p5, iv (3 : Int32), iv kk, rv a1, rv a4, rv a9, rv a16, rv a25, rv a36, rv a105, iv (2 : Int32), rv a4, rv a4, rv a1, rv a1, iv (0 : Int32), rv a25, rv a25, .val .null, .val .null]) rfl k) ?_
      refine own_go (B := (T587.setTop (mkF m 309 #[iv p0, iv p1, iv p2, iv p3, iv p4, iv p5, iv (3 : Int32), iv kk, rv a1, rv a4, rv a9, rv a16, rv a25, rv a36, rv a105, iv (2 : Int32), rv a4, rv a4, rv a1, rv a1, iv (0 : Int32), rv a25, rv a25, .val .null, .val .null] [.null]))) (fun t k => XS.aload X587.here hx rfl (hb hby at_307) rfl rfl k) ?_
      refine own_go (B := (T587.setTop (mkF m 311 #[iv p0, iv p1, iv p2, iv p3, iv p4, iv p5, iv (3 : Int32), iv kk, rv a1, rv a4, rv a9, rv a16, rv a25, rv a36, rv a105, iv (2 : Int32), rv a4, rv a4, rv a1, rv a1, iv (0 : Int32), rv a25, rv a25, .val .null, .val .null] [.null, .null]))) (fun t k => XS.aload X587.here hx rfl (hb hby at_309) rfl rfl k) ?_
      obtain ⟨_, _, ⟨T589, L589, k589, n589⟩, -, X589, ⟨Lc589, hQ589, l589, y589, z589⟩, st589⟩ := Jvm.LawKit.callS X587 hx (y := own_y7) hown (mvT hZ w_34) (mvT hZ w_35) (mvT hZ w_36) (mvT hZ w_37) (by decide) (backOf (W := 0) (own_same0 l Z a0 hw [] T576.heap n0) hZ w_37 w_36 (by decide) (by decide)) (g := (mkF m 311 #[iv p0, iv p1, iv p2, iv p3, iv p4, iv p5, iv (3 : Int32), iv kk, rv a1, rv a4, rv a9, rv a16, rv a25, rv a36, rv a105, iv (2 : Int32), rv a4, rv a4, rv a1, rv a1, iv (0 : Int32), rv a25, rv a25, .val .null, .val .null] [.null, .null])) rfl (by rw [hml]; rfl) (argsL := [.null, .null]) (rest := []) (lenOf own_pd6 rfl) rfl (by show 2 * 0 + _ ≤ _; exact own_b rfl) (hb hby at_311) (fun _ _ => ⟨rfl, e587, (own_b rfl : 8 + 0 ≤ _), (own_b rfl : 14 + 0 ≤ _)⟩)
      dsimp only [Pt.U, Pt.locs, Pt.cells, Pt.slots] at X589 l589 y589 z589 st589 hQ589
      obtain ⟨rfl, Nq589, eq589⟩ := hQ589
      obtain ⟨L589, X589, N589⟩ := own_absC (K := 8) (K' := 14) X589 l589 y589 z589 N587 Nq589
      have e589 : T589.heap = T576.heap := eq589
      refine own_go (B := (T589.setTop (mkF m 314 #[iv p0, iv p1, iv p2, iv p3, iv p4, iv p5, iv (3 : Int32), iv kk, rv a1, rv a4, rv a9, rv a16, rv a25, rv a36, rv a105, iv (2 : Int32), rv a4, rv a4, rv a1, rv a1, iv (0 : Int32), rv a25, rv a25, .val .null, .val .null] [(.int (1 : Int32))]))) st589 ?_
      exact own_retZ X589 hx hlk Bd.returns (hb hby at_314) (by decide) (own_b rfl) (own_b rfl) (Q := (own_law_Q Z p0 p1 p2 p3 p4 p5 ca h0 n0)) ⟨rfl, N589⟩
    have J3 : ∀ (T590 : State) (L590 : List Loc) (h590 : Heap) (X590 : Stand p l e room_1 s m #[(.int p0), (.int p1), (.int p2), (.int p3), (.int p4), (.int p5)] below meth c T590 L590 8 14) (e590 : T590.heap = h590) (N590 : Fr n0 L590) (F590_0 : n0 ≤ h590.size) (F590_1 : Keep h0 h590 []) (F590_2 : own_Ao Z h590 a36 "java/lang/Integer" [(.ref a1), (.ref a4), (.ref a9), (.ref a16)]) (F590_3 : Exa Z h590 a105 "com/example/pagemason/pagemason/core/Spares") (F590_4 : Fld Z h590 a105 "com/example/pagemason/pagemason/core/Spares" "kept" "[Ljava/lang/Object;" (.ref ar121)) (F590_5 : Fld Z h590 a105 "com/example/pagemason/pagemason/core/Spares" "count" "I" (.int (3 : Int32))) (F590_6 : own_Ao Z h590 ar121 "java/lang/Object" [(.ref a1), (.ref a4), (.ref a9)]) (F590_7 : own_Bn Z h590 [(a1, p1), (a4, p2), (a9, p3), (a16, p4), (a25, p5)]) (kk : Int32), own_G p.tables e below (fun o U' => ∃ v L, o = .returned v ∧ (own_law_Q Z p0 p1 p2 p3 p4 p5 ca h0 n0) v U'.heap L ∧ FrameEnd s o U' L 24 128) (T590.setTop (mkF m 144 #[iv p0, iv p1, iv p2, iv p3, iv p4, iv p5, iv (3 : Int32), iv kk, rv a1, rv a4, rv a9, rv a16, rv a25, rv a36, rv a105, iv (3 : Int32), .unset, .unset, .unset, .unset, .unset, .unset, .unset, .unset, .unset] [])) := by
      intro T590 L590 h590 X590 e590 N590 F590_0 F590_1 F590_2 F590_3 F590_4 F590_5 F590_6 F590_7 kk
      refine own_go (B := (T590.setTop (mkF m 146 #[iv p0, iv p1, iv p2, iv p3, iv p4, iv p5, iv (3 : Int32), iv kk, rv a1, rv a4, rv a9, rv a16, rv a25, rv a36, rv a105, iv (3 : Int32), .unset, .unset, .unset, .unset, .unset, .unset, .unset, .unset, .unset] [(.ref a105)]))) (fun t k => XS.aload X590.here hx rfl (hb hby at_144) rfl rfl k) ?_
      obtain ⟨cq591, kq591, qa591, qb591, qc591⟩ := isOf hZ e590 F590_3
      obtain ⟨_, _, ⟨T591, L591, k591, n591⟩, -, X591, ⟨Lc591, hQ591, l591, y591, z591⟩, st591⟩ := X590.virtualBack hx (y := own_y6) (z := own_y6) hown (mvT hZ w_27) (mvT hZ w_28) (notFace_of_selects (args := #[]) (mvT hZ w_30)) (mvT hZ w_30) (mvT hZ w_29) (by decide) (backOf (W := 0) (own_tone l Z a0 hw [] a105 ar121 a9 (3 : Int32) (2 : Int32) [(.ref a1), (.ref a4), (.ref a9)] [(.ref a1), (.ref a4), .null] h590 n0 F590_3 F590_4 F590_5 F590_6 F590_0 gn105 gn_ar121 ne_ar121_a105 (by decide) (by decide) (by decide) rfl rfl) hZ w_31 w_12 (by decide) (by decide)) qa591 qc591 (g := (mkF m 146 #[iv p0, iv p1, iv p2, iv p3, iv p4, iv p5, iv (3 : Int32), iv kk, rv a1, rv a4, rv a9, rv a16, rv a25, rv a36, rv a105, iv (3 : Int32), .unset, .unset, .unset, .unset, .unset, .unset, .unset, .unset, .unset] [(.ref a105)])) rfl (by rw [hml]; rfl) (Steps.refl _) (argsL := []) (rest := []) (lenOf own_pd5 rfl) rfl (by show 2 * 0 + _ ≤ _; exact own_b rfl) (hb hby at_146) (fun _ _ => ⟨rfl, e590, (own_b rfl : 8 + 0 ≤ _), (own_b rfl : 14 + 0 ≤ _)⟩)
      dsimp only [Pt.U, Pt.locs, Pt.cells, Pt.slots] at X591 l591 y591 z591 st591 hQ591
      obtain ⟨rfl, Nq591, K591, Ex591, gk591, gc591, gv591⟩ := hQ591
      obtain ⟨L591, X591, N591⟩ := own_absC (K := 8) (K' := 14) X591 l591 y591 z591 N590 Nq591
      have F592 : n0 ≤ T591.heap.size := Nat.le_trans F590_0 K591.1
      have F593 := Keep.trans F590_1 K591 (allS (Or.inr (Nat.le_trans F93.1 (Nat.le_of_eq ga105.symm))) (allS (Or.inr (Nat.le_trans K107.1 gz121)) all0))
      have F594 := own_Ao_keep F590_2 K591 (ninS (Ne.symm ne105_a36) (ninS (Ne.symm ne_ar121_a36) nin0))
      have F595 := Exa.keep F590_3 K591
      have F599 := own_Bn_keep F590_7 K591 hbq
      refine own_tr (B := (T591.setTop (mkF m 149 #[iv p0, iv p1, iv p2, iv p3, iv p4, iv p5, iv (3 : Int32), iv kk, rv a1, rv a4, rv a9, rv a16, rv a25, rv a36, rv a105, iv (3 : Int32), .unset, .unset, .unset, .unset, .unset, .unset, .unset, .unset, .unset] [(.ref a9)]))) st591 ?_
      obtain ⟨T600, X600, e600, st600⟩ := castY X591 hx hZ hown w_7 rfl (Ins.of_exa (own_Bn_exa F599 (List.mem_of_getElem? (i := 2) rfl)) w_9) (g := (mkF m 149 #[iv p0, iv p1, iv p2, iv p3, iv p4, iv p5, iv (3 : Int32), iv kk, rv a1, rv a4, rv a9, rv a16, rv a25, rv a36, rv a105, iv (3 : Int32), .unset, .unset, .unset, .unset, .unset, .unset, .unset, .unset, .unset] [(.ref a9)])) rfl rfl (hb hby at_149)
      refine own_go (B := (T600.setTop (mkF m 152 #[iv p0, iv p1, iv p2, iv p3, iv p4, iv p5, iv (3 : Int32), iv kk, rv a1, rv a4, rv a9, rv a16, rv a25, rv a36, rv a105, iv (3 : Int32), .unset, .unset, .unset, .unset, .unset, .unset, .unset, .unset, .unset] [(.ref a9)]))) st600 ?_
      refine own_go (B := (T600.setTop (mkF m 154 #[iv p0, iv p1, iv p2, iv p3, iv p4, iv p5, iv (3 : Int32), iv kk, rv a1, rv a4, rv a9, rv a16, rv a25, rv a36, rv a105, iv (3 : Int32), rv a9, .unset, .unset, .unset, .unset, .unset, .unset, .unset, .unset] []))) (fun t k => XS.astore X600.here hx rfl (hb hby at_152) rfl rfl (l' := #[iv p0, iv p1, iv p2, iv p3, iv p4, iv p5, iv (3 : Int32), iv kk, rv a1, rv a4, rv a9, rv a16, rv a25, rv a36, rv a105, iv (3 : Int32), rv a9, .unset, .unset, .unset, .unset, .unset, .unset, .unset, .unset]) rfl k) ?_
      refine own_go (B := (T600.setTop (mkF m 156 #[iv p0, iv p1, iv p2, iv p3, iv p4, iv p5, iv (3 : Int32), iv kk, rv a1, rv a4, rv a9, rv a16, rv a25, rv a36, rv a105, iv (3 : Int32), rv a9, .unset, .unset, .unset, .unset, .unset, .unset, .unset, .unset] [(.int (3 : Int32))]))) (fun t k => XS.iload X600.here hx rfl (hb hby at_154) rfl k) ?_
      refine own_go (B := (T600.setTop (mkF m 157 #[iv p0, iv p1, iv p2, iv p3, iv p4, iv p5, iv (3 : Int32), iv kk, rv a1, rv a4, rv a9, rv a16, rv a25, rv a36, rv a105, iv (3 : Int32), rv a9, .unset, .unset, .unset, .unset, .unset, .unset, .unset, .unset] [(.int (1 : Int32)), (.int (3 : Int32))]))) (fun t k => own_iconst (v := (1 : Int32)) X600.here hx rfl (hb hby at_156) (by decide) k) ?_
      have hc157 : ¬ (3 : Int32) < (1 : Int32) := (by decide)
      refine own_icmpN X600 hx (hb hby at_157) (pn := 160) rfl hc157 ?_
      refine own_go (B := (T600.setTop (mkF m 162 #[iv p0, iv p1, iv p2, iv p3, iv p4, iv p5, iv (3 : Int32), iv kk, rv a1, rv a4, rv a9, rv a16, rv a25, rv a36, rv a105, iv (3 : Int32), rv a9, .unset, .unset, .unset, .unset, .unset, .unset, .unset, .unset] [(.ref a36)]))) (fun t k => XS.aload X600.here hx rfl (hb hby at_160) rfl rfl k) ?_
      refine own_go (B := (T600.setTop (mkF m 164 #[iv p0, iv p1, iv p2, iv p3, iv p4, iv p5, iv (3 : Int32), iv kk, rv a1, rv a4, rv a9, rv a16, rv a25, rv a36, rv a105, iv (3 : Int32), rv a9, .unset, .unset, .unset, .unset, .unset, .unset, .unset, .unset] [(.int (3 : Int32)), (.ref a36)]))) (fun t k => XS.iload X600.here hx rfl (hb hby at_162) rfl k) ?_
      refine own_go (B := (T600.setTop (mkF m 165 #[iv p0, iv p1, iv p2, iv p3, iv p4, iv p5, iv (3 : Int32), iv kk, rv a1, rv a4, rv a9, rv a16, rv a25, rv a36, rv a105, iv (3 : Int32), rv a9, .unset, .unset, .unset, .unset, .unset, .unset, .unset, .unset] [(.int (1 : Int32)), (.int (3 : Int32)), (.ref a36)]))) (fun t k => own_iconst (v := (1 : Int32)) X600.here hx rfl (hb hby at_164) (by decide) k) ?_
      refine own_go (B := (T600.setTop (mkF m 166 #[iv p0, iv p1, iv p2, iv p3, iv p4, iv p5, iv (3 : Int32), iv kk, rv a1, rv a4, rv a9, rv a16, rv a25, rv a36, rv a105, iv (3 : Int32), rv a9, .unset, .unset, .unset, .unset, .unset, .unset, .unset, .unset] [(.int ((3 : Int32) - (1 : Int32))), (.ref a36)]))) (fun t k => XS.isub (x := (3 : Int32)) (y := (1 : Int32)) X600.here hx rfl (hb hby at_165) rfl k) ?_
      rw [show ((3 : Int32) - (1 : Int32)) = (2 : Int32) from by decide]
      refine own_go (B := (T600.setTop (mkF m 167 #[iv p0, iv p1, iv p2, iv p3, iv p4, iv p5, iv (3 : Int32), iv kk, rv a1, rv a4, rv a9, rv a16, rv a25, rv a36, rv a105, iv (3 : Int32), rv a9, .unset, .unset, .unset, .unset, .unset, .unset, .unset, .unset] [(.ref a9)]))) (own_ldR X600 hx hZ e600 (own_Ao_ar F594) rfl (v := (.ref a9)) (by decide) rfl (g := (mkF m 166 #[iv p0, iv p1, iv p2, iv p3, iv p4, iv p5, iv (3 : Int32), iv kk, rv a1, rv a4, rv a9, rv a16, rv a25, rv a36, rv a105, iv (3 : Int32), rv a9, .unset, .unset, .unset, .unset, .unset, .unset, .unset, .unset] [(.int (2 : Int32)), (.ref a36)])) rfl rfl (hb hby at_166)) ?_
      refine own_go (B := (T600.setTop (mkF m 171 #[iv p0, iv p1, iv p2, iv p3, iv p4, iv p5, iv (3 : Int32), iv kk, rv a1, rv a4, rv a9, rv a16, rv a25, rv a36, rv a105, iv (3 : Int32), rv a9, .unset, .unset, .unset, .unset, .unset, .unset, .unset, .unset] [(.ref a9)]))) (fun t k => XS.goto X600.here hx rfl (pc0 := 167) (pc' := 171) rfl (hb hby at_167) (by decide) (by decide) k) ?_
      refine own_go (B := (T600.setTop (mkF m 173 #[iv p0, iv p1, iv p2, iv p3, iv p4, iv p5, iv (3 : Int32), iv kk, rv a1, rv a4, rv a9, rv a16, rv a25, rv a36, rv a105, iv (3 : Int32), rv a9, rv a9, .unset, .unset, .unset, .unset, .unset, .unset, .unset] []))) (fun t k => XS.astore X600.here hx rfl (hb hby at_171) rfl rfl (l' := #[iv p0, iv p1, iv p2, iv p3, iv p4, iv p5, iv (3 : Int32), iv kk, rv a1, rv a4, rv a9, rv a16, rv a25, rv a36, rv a105, iv (3 : Int32), rv a9, rv a9, .unset, .unset, .unset, .unset, .unset, .unset, .unset]) rfl k) ?_
      refine own_go (B := (T600.setTop (mkF m 175 #[iv p0, iv p1, iv p2, iv p3, iv p4, iv p5, iv (3 : Int32), iv kk, rv a1, rv a4, rv a9, rv a16, rv a25, rv a36, rv a105, iv (3 : Int32), rv a9, rv a9, .unset, .unset, .unset, .unset, .unset, .unset, .unset] [(.ref a9)]))) (fun t k => XS.aload X600.here hx rfl (hb hby at_173) rfl rfl k) ?_
      refine own_go (B := (T600.setTop (mkF m 177 #[iv p0, iv p1, iv p2, iv p3, iv p4, iv p5, iv (3 : Int32), iv kk, rv a1, rv a4, rv a9, rv a16, rv a25, rv a36, rv a105, iv (3 : Int32), rv a9, rv a9, .unset, .unset, .unset, .unset, .unset, .unset, .unset] [(.ref a9), (.ref a9)]))) (fun t k => XS.aload X600.here hx rfl (hb hby at_175) rfl rfl k) ?_
      obtain ⟨_, _, ⟨T601, L601, k601, n601⟩, -, X601, ⟨Lc601, hQ601, l601, y601, z601⟩, st601⟩ := Jvm.LawKit.callS X600 hx (y := own_y7) hown (mvT hZ w_34) (mvT hZ w_35) (mvT hZ w_36) (mvT hZ w_37) (by decide) (backOf (W := 0) (own_same1 l Z a0 hw [] a9 a9 p3 T591.heap n0 (own_Bn_exa F599 (List.mem_of_getElem? (i := 2) rfl)) (own_Bn_fld F599 (List.mem_of_getElem? (i := 2) rfl)) (own_Bn_exa F599 (List.mem_of_getElem? (i := 2) rfl)) (own_Bn_fld F599 (List.mem_of_getElem? (i := 2) rfl))) hZ w_37 w_36 (by decide) (by decide)) (g := (mkF m 177 #[iv p0, iv p1, iv p2, iv p3, iv p4, iv p5, iv (3 : Int32), iv kk, rv a1, rv a4, rv a9, rv a16, rv a25, rv a36, rv a105, iv (3 : Int32), rv a9, rv a9, .unset, .unset, .unset, .unset, .unset, .unset, .unset] [(.ref a9), (.ref a9)])) rfl (by rw [hml]; rfl) (argsL := [(.ref a9), (.ref a9)]) (rest := []) (lenOf own_pd6 rfl) rfl (by show 2 * 0 + _ ≤ _; exact own_b rfl) (hb hby at_177) (fun _ _ => ⟨rfl, e600, (own_b rfl : 8 + 0 ≤ _), (own_b rfl : 14 + 0 ≤ _)⟩)
      dsimp only [Pt.U, Pt.locs, Pt.cells, Pt.slots] at X601 l601 y601 z601 st601 hQ601
      obtain ⟨rfl, Nq601, eq601⟩ := hQ601
      obtain ⟨L601, X601, N601⟩ := own_absC (K := 8) (K' := 14) X601 l601 y601 z601 N591 Nq601
      have e601 : T601.heap = T591.heap := eq601
      refine own_go (B := (T601.setTop (mkF m 180 #[iv p0, iv p1, iv p2, iv p3, iv p4, iv p5, iv (3 : Int32), iv kk, rv a1, rv a4, rv a9, rv a16, rv a25, rv a36, rv a105, iv (3 : Int32), rv a9, rv a9, .unset, .unset, .unset, .unset, .unset, .unset, .unset] [(.int (1 : Int32))]))) st601 ?_
      have hc180 : ¬ (1 : Int32) = (0 : Int32) := (by decide)
      refine own_ifY X601 hx (hb hby at_180) (pc' := 185) (by decide) (by decide) hc180 ?_
      refine own_go (B := (T601.setTop (mkF m 187 #[iv p0, iv p1, iv p2, iv p3, iv p4, iv p5, iv (3 : Int32), iv kk, rv a1, rv a4, rv a9, rv a16, rv a25, rv a36, rv a105, iv (3 : Int32), rv a9, rv a9, .unset, .unset, .unset, .unset, .unset, .unset, .unset] [(.ref a105)]))) (fun t k => XS.aload X601.here hx rfl (hb hby at_185) rfl rfl k) ?_
      obtain ⟨cq602, kq602, qa602, qb602, qc602⟩ := isOf hZ e601 Ex591
      obtain ⟨_, _, ⟨T602, L602, k602, n602⟩, -, X602, ⟨Lc602, hQ602, l602, y602, z602⟩, st602⟩ := X601.virtualBack hx (y := own_y6) (z := own_y6) hown (mvT hZ w_27) (mvT hZ w_28) (notFace_of_selects (args := #[]) (mvT hZ w_30)) (mvT hZ w_30) (mvT hZ w_29) (by decide) (backOf (W := 0) (own_tone l Z a0 hw [] a105 ar121 a4 (2 : Int32) (1 : Int32) [(.ref a1), (.ref a4), .null] [(.ref a1), .null, .null] T591.heap n0 Ex591 gk591 gc591 gv591 F592 gn105 gn_ar121 ne_ar121_a105 (by decide) (by decide) (by decide) rfl rfl) hZ w_31 w_12 (by decide) (by decide)) qa602 qc602 (g := (mkF m 187 #[iv p0, iv p1, iv p2, iv p3, iv p4, iv p5, iv (3 : Int32), iv kk, rv a1, rv a4, rv a9, rv a16, rv a25, rv a36, rv a105, iv (3 : Int32), rv a9, rv a9, .unset, .unset, .unset, .unset, .unset, .unset, .unset] [(.ref a105)])) rfl (by rw [hml]; rfl) (Steps.refl _) (argsL := []) (rest := []) (lenOf own_pd5 rfl) rfl (by show 2 * 0 + _ ≤ _; exact own_b rfl) (hb hby at_187) (fun _ _ => ⟨rfl, e601, (own_b rfl : 8 + 0 ≤ _), (own_b rfl : 14 + 0 ≤ _)⟩)
      dsimp only [Pt.U, Pt.locs, Pt.cells, Pt.slots] at X602 l602 y602 z602 st602 hQ602
      obtain ⟨rfl, Nq602, K602, Ex602, gk602, gc602, gv602⟩ := hQ602
      obtain ⟨L602, X602, N602⟩ := own_absC (K := 8) (K' := 14) X602 l602 y602 z602 N601 Nq602
      have F603 : n0 ≤ T602.heap.size := Nat.le_trans F592 K602.1
      have F604 := Keep.trans F593 K602 (allS (Or.inr (Nat.le_trans F93.1 (Nat.le_of_eq ga105.symm))) (allS (Or.inr (Nat.le_trans K107.1 gz121)) all0))
      have F605 := own_Ao_keep F594 K602 (ninS (Ne.symm ne105_a36) (ninS (Ne.symm ne_ar121_a36) nin0))
      have F606 := Exa.keep Ex591 K602
      have F607 := own_Bn_keep F599 K602 hbq
      refine own_tr (B := (T602.setTop (mkF m 190 #[iv p0, iv p1, iv p2, iv p3, iv p4, iv p5, iv (3 : Int32), iv kk, rv a1, rv a4, rv a9, rv a16, rv a25, rv a36, rv a105, iv (3 : Int32), rv a9, rv a9, .unset, .unset, .unset, .unset, .unset, .unset, .unset] [(.ref a4)]))) st602 ?_
      obtain ⟨T611, X611, e611, st611⟩ := castY X602 hx hZ hown w_7 rfl (Ins.of_exa (own_Bn_exa F607 (List.mem_of_getElem? (i := 1) rfl)) w_9) (g := (mkF m 190 #[iv p0, iv p1, iv p2, iv p3, iv p4, iv p5, iv (3 : Int32), iv kk, rv a1, rv a4, rv a9, rv a16, rv a25, rv a36, rv a105, iv (3 : Int32), rv a9, rv a9, .unset, .unset, .unset, .unset, .unset, .unset, .unset] [(.ref a4)])) rfl rfl (hb hby at_190)
      refine own_go (B := (T611.setTop (mkF m 193 #[iv p0, iv p1, iv p2, iv p3, iv p4, iv p5, iv (3 : Int32), iv kk, rv a1, rv a4, rv a9, rv a16, rv a25, rv a36, rv a105, iv (3 : Int32), rv a9, rv a9, .unset, .unset, .unset, .unset, .unset, .unset, .unset] [(.ref a4)]))) st611 ?_
      refine own_go (B := (T611.setTop (mkF m 195 #[iv p0, iv p1, iv p2, iv p3, iv p4, iv p5, iv (3 : Int32), iv kk, rv a1, rv a4, rv a9, rv a16, rv a25, rv a36, rv a105, iv (3 : Int32), rv a9, rv a9, rv a4, .unset, .unset, .unset, .unset, .unset, .unset] []))) (fun t k => XS.astore X611.here hx rfl (hb hby at_193) rfl rfl (l' := #[iv p0, iv p1, iv p2, iv p3, iv p4, iv p5, iv (3 : Int32), iv kk, rv a1, rv a4, rv a9, rv a16, rv a25, rv a36, rv a105, iv (3 : Int32), rv a9, rv a9, rv a4, .unset, .unset, .unset, .unset, .unset, .unset]) rfl k) ?_
      refine own_go (B := (T611.setTop (mkF m 197 #[iv p0, iv p1, iv p2, iv p3, iv p4, iv p5, iv (3 : Int32), iv kk, rv a1, rv a4, rv a9, rv a16, rv a25, rv a36, rv a105, iv (3 : Int32), rv a9, rv a9, rv a4, .unset, .unset, .unset, .unset, .unset, .unset] [(.int (3 : Int32))]))) (fun t k => XS.iload X611.here hx rfl (hb hby at_195) rfl k) ?_
      refine own_go (B := (T611.setTop (mkF m 198 #[iv p0, iv p1, iv p2, iv p3, iv p4, iv p5, iv (3 : Int32), iv kk, rv a1, rv a4, rv a9, rv a16, rv a25, rv a36, rv a105, iv (3 : Int32), rv a9, rv a9, rv a4, .unset, .unset, .unset, .unset, .unset, .unset] [(.int (2 : Int32)), (.int (3 : Int32))]))) (fun t k => own_iconst (v := (2 : Int32)) X611.here hx rfl (hb hby at_197) (by decide) k) ?_
      have hc198 : ¬ (3 : Int32) < (2 : Int32) := (by decide)
      refine own_icmpN X611 hx (hb hby at_198) (pn := 201) rfl hc198 ?_
      refine own_go (B := (T611.setTop (mkF m 203 #[iv p0, iv p1, iv p2, iv p3, iv p4, iv p5, iv (3 : Int32), iv kk, rv a1, rv a4, rv a9, rv a16, rv a25, rv a36, rv a105, iv (3 : Int32), rv a9, rv a9, rv a4, .unset, .unset, .unset, .unset, .unset, .unset] [(.ref a36)]))) (fun t k => XS.aload X611.here hx rfl (hb hby at_201) rfl rfl k) ?_
      refine own_go (B := (T611.setTop (mkF m 205 #[iv p0, iv p1, iv p2, iv p3, iv p4, iv p5, iv (3 : Int32), iv kk, rv a1, rv a4, rv a9, rv a16, rv a25, rv a36, rv a105, iv (3 : Int32), rv a9, rv a9, rv a4, .unset, .unset, .unset, .unset, .unset, .unset] [(.int (3 : Int32)), (.ref a36)]))) (fun t k => XS.iload X611.here hx rfl (hb hby at_203) rfl k) ?_
      refine own_go (B := (T611.setTop (mkF m 206 #[iv p0, iv p1, iv p2, iv p3, iv p4, iv p5, iv (3 : Int32), iv kk, rv a1, rv a4, rv a9, rv a16, rv a25, rv a36, rv a105, iv (3 : Int32), rv a9, rv a9, rv a4, .unset, .unset, .unset, .unset, .unset, .unset] [(.int (2 : Int32)), (.int (3 : Int32)), (.ref a36)]))) (fun t k => own_iconst (v := (2 : Int32)) X611.here hx rfl (hb hby at_205) (by decide) k) ?_
      refine own_go (B := (T611.setTop (mkF m 207 #[iv p0, iv p1, iv p2, iv p3, iv p4, iv p5, iv (3 : Int32), iv kk, rv a1, rv a4, rv a9, rv a16, rv a25, rv a36, rv a105, iv (3 : Int32), rv a9, rv a9, rv a4, .unset, .unset, .unset, .unset, .unset, .unset] [(.int ((3 : Int32) - (2 : Int32))), (.ref a36)]))) (fun t k => XS.isub (x := (3 : Int32)) (y := (2 : Int32)) X611.here hx rfl (hb hby at_206) rfl k) ?_
      rw [show ((3 : Int32) - (2 : Int32)) = (1 : Int32) from by decide]
      refine own_go (B := (T611.setTop (mkF m 208 #[iv p0, iv p1, iv p2, iv p3, iv p4, iv p5, iv (3 : Int32), iv kk, rv a1, rv a4, rv a9, rv a16, rv a25, rv a36, rv a105, iv (3 : Int32), rv a9, rv a9, rv a4, .unset, .unset, .unset, .unset, .unset, .unset] [(.ref a4)]))) (own_ldR X611 hx hZ e611 (own_Ao_ar F605) rfl (v := (.ref a4)) (by decide) rfl (g := (mkF m 207 #[iv p0, iv p1, iv p2, iv p3, iv p4, iv p5, iv (3 : Int32), iv kk, rv a1, rv a4, rv a9, rv a16, rv a25, rv a36, rv a105, iv (3 : Int32), rv a9, rv a9, rv a4, .unset, .unset, .unset, .unset, .unset, .unset] [(.int (1 : Int32)), (.ref a36)])) rfl rfl (hb hby at_207)) ?_
      refine own_go (B := (T611.setTop (mkF m 212 #[iv p0, iv p1, iv p2, iv p3, iv p4, iv p5, iv (3 : Int32), iv kk, rv a1, rv a4, rv a9, rv a16, rv a25, rv a36, rv a105, iv (3 : Int32), rv a9, rv a9, rv a4, .unset, .unset, .unset, .unset, .unset, .unset] [(.ref a4)]))) (fun t k => XS.goto X611.here hx rfl (pc0 := 208) (pc' := 212) rfl (hb hby at_208) (by decide) (by decide) k) ?_
      refine own_go (B := (T611.setTop (mkF m 214 #[iv p0, iv p1, iv p2, iv p3, iv p4, iv p5, iv (3 : Int32), iv kk, rv a1, rv a4, rv a9, rv a16, rv a25, rv a36, rv a105, iv (3 : Int32), rv a9, rv a9, rv a4, rv a4, .unset, .unset, .unset, .unset, .unset] []))) (fun t k => XS.astore X611.here hx rfl (hb hby at_212) rfl rfl (l' := #[iv p0, iv p1, iv p2, iv p3, iv p4, iv p5, iv (3 : Int32), iv kk, rv a1, rv a4, rv a9, rv a16, rv a25, rv a36, rv a105, iv (3 : Int32), rv a9, rv a9, rv a4, rv a4, .unset, .unset, .unset, .unset, .unset]) rfl k) ?_
      refine own_go (B := (T611.setTop (mkF m 216 #[iv p0, iv p1, iv p2, iv p3, iv p4, iv p5, iv (3 : Int32), iv kk, rv a1, rv a4, rv a9, rv a16, rv a25, rv a36, rv a105, iv (3 : Int32), rv a9, rv a9, rv a4, rv a4, .unset, .unset, .unset, .unset, .unset] [(.ref a4)]))) (fun t k => XS.aload X611.here hx rfl (hb hby at_214) rfl rfl k) ?_
      refine own_go (B := (T611.setTop (mkF m 218 #[iv p0, iv p1, iv p2, iv p3, iv p4, iv p5, iv (3 : Int32), iv kk, rv a1, rv a4, rv a9, rv a16, rv a25, rv a36, rv a105, iv (3 : Int32), rv a9, rv a9, rv a4, rv a4, .unset, .unset, .unset, .unset, .unset] [(.ref a4), (.ref a4)]))) (fun t k => XS.aload X611.here hx rfl (hb hby at_216) rfl rfl k) ?_
      obtain ⟨_, _, ⟨T612, L612, k612, n612⟩, -, X612, ⟨Lc612, hQ612, l612, y612, z612⟩, st612⟩ := Jvm.LawKit.callS X611 hx (y := own_y7) hown (mvT hZ w_34) (mvT hZ w_35) (mvT hZ w_36) (mvT hZ w_37) (by decide) (backOf (W := 0) (own_same1 l Z a0 hw [] a4 a4 p2 T602.heap n0 (own_Bn_exa F607 (List.mem_of_getElem? (i := 1) rfl)) (own_Bn_fld F607 (List.mem_of_getElem? (i := 1) rfl)) (own_Bn_exa F607 (List.mem_of_getElem? (i := 1) rfl)) (own_Bn_fld F607 (List.mem_of_getElem? (i := 1) rfl))) hZ w_37 w_36 (by decide) (by decide)) (g := (mkF m 218 #[iv p0, iv p1, iv p2, iv p3, iv p4, iv p5, iv (3 : Int32), iv kk, rv a1, rv a4, rv a9, rv a16, rv a25, rv a36, rv a105, iv (3 : Int32), rv a9, rv a9, rv a4, rv a4, .unset, .unset, .unset, .unset, .unset] [(.ref a4), (.ref a4)])) rfl (by rw [hml]; rfl) (argsL := [(.ref a4), (.ref a4)]) (rest := []) (lenOf own_pd6 rfl) rfl (by show 2 * 0 + _ ≤ _; exact own_b rfl) (hb hby at_218) (fun _ _ => ⟨rfl, e611, (own_b rfl : 8 + 0 ≤ _), (own_b rfl : 14 + 0 ≤ _)⟩)
      dsimp only [Pt.U, Pt.locs, Pt.cells, Pt.slots] at X612 l612 y612 z612 st612 hQ612
      obtain ⟨rfl, Nq612, eq612⟩ := hQ612
      obtain ⟨L612, X612, N612⟩ := own_absC (K := 8) (K' := 14) X612 l612 y612 z612 N602 Nq612
      have e612 : T612.heap = T602.heap := eq612
      refine own_go (B := (T612.setTop (mkF m 221 #[iv p0, iv p1, iv p2, iv p3, iv p4, iv p5, iv (3 : Int32), iv kk, rv a1, rv a4, rv a9, rv a16, rv a25, rv a36, rv a105, iv (3 : Int32), rv a9, rv a9, rv a4, rv a4, .unset, .unset, .unset, .unset, .unset] [(.int (1 : Int32))]))) st612 ?_
      have hc221 : ¬ (1 : Int32) = (0 : Int32) := (by decide)
      refine own_ifY X612 hx (hb hby at_221) (pc' := 226) (by decide) (by decide) hc221 ?_
      refine own_go (B := (T612.setTop (mkF m 228 #[iv p0, iv p1, iv p2, iv p3, iv p4, iv p5, iv (3 : Int32), iv kk, rv a1, rv a4, rv a9, rv a16, rv a25, rv a36, rv a105, iv (3 : Int32), rv a9, rv a9, rv a4, rv a4, .unset, .unset, .unset, .unset, .unset] [(.int (3 : Int32))]))) (fun t k => XS.iload X612.here hx rfl (hb hby at_226) rfl k) ?_
      refine own_go (B := (T612.setTop (mkF m 229 #[iv p0, iv p1, iv p2, iv p3, iv p4, iv p5, iv (3 : Int32), iv kk, rv a1, rv a4, rv a9, rv a16, rv a25, rv a36, rv a105, iv (3 : Int32), rv a9, rv a9, rv a4, rv a4, .unset, .unset, .unset, .unset, .unset] [(.int (2 : Int32)), (.int (3 : Int32))]))) (fun t k => own_iconst (v := (2 : Int32)) X612.here hx rfl (hb hby at_228) (by decide) k) ?_
      refine own_go (B := (T612.setTop (mkF m 230 #[iv p0, iv p1, iv p2, iv p3, iv p4, iv p5, iv (3 : Int32), iv kk, rv a1, rv a4, rv a9, rv a16, rv a25, rv a36, rv a105, iv (3 : Int32), rv a9, rv a9, rv a4, rv a4, .unset, .unset, .unset, .unset, .unset] [(.int ((3 : Int32) - (2 : Int32)))]))) (fun t k => XS.isub (x := (3 : Int32)) (y := (2 : Int32)) X612.here hx rfl (hb hby at_229) rfl k) ?_
      rw [show ((3 : Int32) - (2 : Int32)) = (1 : Int32) from by decide]
      refine own_go (B := (T612.setTop (mkF m 231 #[iv p0, iv p1, iv p2, iv p3, iv p4, iv p5, iv (3 : Int32), iv kk, rv a1, rv a4, rv a9, rv a16, rv a25, rv a36, rv a105, iv (3 : Int32), rv a9, rv a9, rv a4, rv a4, .unset, .unset, .unset, .unset, .unset] [(.int (0 : Int32)), (.int (1 : Int32))]))) (fun t k => own_iconst (v := (0 : Int32)) X612.here hx rfl (hb hby at_230) (by decide) k) ?_
      obtain ⟨_, _, ⟨T613, L613, k613, n613⟩, -, X613, ⟨Lc613, hQ613, l613, y613, z613⟩, st613⟩ := Jvm.LawKit.callS X612 hx (y := own_y8) hown (mvT hZ w_38) (mvT hZ w_39) (mvT hZ w_25) (mvT hZ w_40) (by decide) (backOf (W := 0) (own_mmax l Z a0 hw [] (1 : Int32) (0 : Int32) T602.heap n0) hZ w_40 w_25 (by decide) (by decide)) (g := (mkF m 231 #[iv p0, iv p1, iv p2, iv p3, iv p4, iv p5, iv (3 : Int32), iv kk, rv a1, rv a4, rv a9, rv a16, rv a25, rv a36, rv a105, iv (3 : Int32), rv a9, rv a9, rv a4, rv a4, .unset, .unset, .unset, .unset, .unset] [(.int (0 : Int32)), (.int (1 : Int32))])) rfl (by rw [hml]; rfl) (argsL := [(.int (1 : Int32)), (.int (0 : Int32))]) (rest := []) (lenOf own_pd7 rfl) rfl (by show 2 * 0 + _ ≤ _; exact own_b rfl) (hb hby at_231) (fun _ _ => ⟨rfl, e612, (own_b rfl : 8 + 0 ≤ _), (own_b rfl : 14 + 0 ≤ _)⟩)
      dsimp only [Pt.U, Pt.locs, Pt.cells, Pt.slots] at X613 l613 y613 z613 st613 hQ613
      obtain ⟨rfl, Nq613, eq613⟩ := hQ613
      obtain ⟨L613, X613, N613⟩ := own_absC (K := 8) (K' := 14) X613 l613 y613 z613 N612 Nq613
      have e613 : T613.heap = T602.heap := eq613
      refine own_go (B := (T613.setTop (mkF m 234 #[iv p0, iv p1, iv p2, iv p3, iv p4, iv p5, iv (3 : Int32), iv kk, rv a1, rv a4, rv a9, rv a16, rv a25, rv a36, rv a105, iv (3 : Int32), rv a9, rv a9, rv a4, rv a4, .unset, .unset, .unset, .unset, .unset] [(.int (own_max (1 : Int32) (0 : Int32)))]))) st613 ?_
      rw [show own_max (1 : Int32) (0 : Int32) = (1 : Int32) from by decide]
      refine own_go (B := (T613.setTop (mkF m 236 #[iv p0, iv p1, iv p2, iv p3, iv p4, iv p5, iv (3 : Int32), iv kk, rv a1, rv a4, rv a9, rv a16, rv a25, rv a36, rv a105, iv (3 : Int32), rv a9, rv a9, rv a4, rv a4, iv (1 : Int32), .unset, .unset, .unset, .unset] []))) (fun t k => XS.istore X613.here hx rfl (hb hby at_234) rfl (l' := #[iv p0, iv p1, iv p2, iv p3, iv p4, iv p5, iv (3 : Int32), iv kk, rv a1, rv a4, rv a9, rv a16, rv a25, rv a36, rv a105, iv (3 : Int32), rv a9, rv a9, rv a4, rv a4, iv (1 : Int32), .unset, .unset, .unset, .unset]) rfl k) ?_
      refine own_go (B := (T613.setTop (mkF m 238 #[iv p0, iv p1, iv p2, iv p3, iv p4, iv p5, iv (3 : Int32), iv kk, rv a1, rv a4, rv a9, rv a16, rv a25, rv a36, rv a105, iv (3 : Int32), rv a9, rv a9, rv a4, rv a4, iv (1 : Int32), .unset, .unset, .unset, .unset] [(.ref a105)]))) (fun t k => XS.aload X613.here hx rfl (hb hby at_236) rfl rfl k) ?_
      refine own_go (B := (T613.setTop (mkF m 240 #[iv p0, iv p1, iv p2, iv p3, iv p4, iv p5, iv (3 : Int32), iv kk, rv a1, rv a4, rv a9, rv a16, rv a25, rv a36, rv a105, iv (3 : Int32), rv a9, rv a9, rv a4, rv a4, iv (1 : Int32), .unset, .unset, .unset, .unset] [(.ref a25), (.ref a105)]))) (fun t k => XS.aload X613.here hx rfl (hb hby at_238) rfl rfl k) ?_
      obtain ⟨cq614, kq614, qa614, qb614, qc614⟩ := isOf hZ e613 Ex602
      obtain ⟨_, _, ⟨T614, L614, k614, n614⟩, -, X614, ⟨Lc614, hQ614, l614, y614, z614⟩, st614⟩ := X613.virtualBack hx (y := own_y9) (z := own_y9) hown (mvT hZ w_41) (mvT hZ w_42) (notFace_of_selects (args := #[]) (mvT hZ w_44)) (mvT hZ w_44) (mvT hZ w_43) (by decide) (backOf (W := 0) (own_kone l Z a0 hw [] a105 a25 ar121 (1 : Int32) (3 : Int32) (2 : Int32) [(.ref a1), .null, .null] [(.ref a1), (.ref a25), .null] T602.heap n0 Ex602 gk602 gc602 gv602 F603 gn105 gn_ar121 ne_ar121_a105 (own_lenL (n := 3) rfl (by decide)) (by decide) (by decide) (Nat.lt_of_lt_of_eq (by decide : _ < 3) rfl) (by decide) (Ins.of_exa (own_Bn_exa F607 (List.mem_of_getElem? (i := 4) rfl)) w_60) rfl) hZ w_45 w_12 (by decide) (by decide)) qa614 qc614 (g := (mkF m 240 #[iv p0, iv p1, iv p2, iv p3, iv p4, iv p5, iv (3 : Int32), iv kk, rv a1, rv a4, rv a9, rv a16, rv a25, rv a36, rv a105, iv (3 : Int32), rv a9, rv a9, rv a4, rv a4, iv (1 : Int32), .unset, .unset, .unset, .unset] [(.ref a25), (.ref a105)])) rfl (by rw [hml]; rfl) (Steps.refl _) (argsL := [(.ref a25)]) (rest := []) (lenOf own_pd8 rfl) rfl (by show 2 * 0 + _ ≤ _; exact own_b rfl) (hb hby at_240) (fun _ _ => ⟨rfl, e613, (own_b rfl : 8 + 0 ≤ _), (own_b rfl : 14 + 0 ≤ _)⟩)
      dsimp only [Pt.U, Pt.locs, Pt.cells, Pt.slots] at X614 l614 y614 z614 st614 hQ614
      obtain ⟨rfl, Nq614, K614, Ex614, gk614, gc614, gv614⟩ := hQ614
      obtain ⟨L614, X614, N614⟩ := own_absC (K := 8) (K' := 14) X614 l614 y614 z614 N613 Nq614
      have F615 : n0 ≤ T614.heap.size := Nat.le_trans F603 K614.1
      have F616 := Keep.trans F604 K614 (allS (Or.inr (Nat.le_trans F93.1 (Nat.le_of_eq ga105.symm))) (allS (Or.inr (Nat.le_trans K107.1 gz121)) all0))
      have F617 := own_Ao_keep F605 K614 (ninS (Ne.symm ne105_a36) (ninS (Ne.symm ne_ar121_a36) nin0))
      have F618 := Exa.keep Ex602 K614
      have F619 := own_Bn_keep F607 K614 hbq
      refine own_tr (B := (T614.setTop (mkF m 243 #[iv p0, iv p1, iv p2, iv p3, iv p4, iv p5, iv (3 : Int32), iv kk, rv a1, rv a4, rv a9, rv a16, rv a25, rv a36, rv a105, iv (3 : Int32), rv a9, rv a9, rv a4, rv a4, iv (1 : Int32), .unset, .unset, .unset, .unset] []))) st614 ?_
      refine own_go (B := (T614.setTop (mkF m 245 #[iv p0, iv p1, iv p2, iv p3, iv p4, iv p5, iv (3 : Int32), iv kk, rv a1, rv a4, rv a9, rv a16, rv a25, rv a36, rv a105, iv (3 : Int32), rv a9, rv a9, rv a4, rv a4, iv (1 : Int32), .unset, .unset, .unset, .unset] [(.ref a105)]))) (fun t k => XS.aload X614.here hx rfl (hb hby at_243) rfl rfl k) ?_
      obtain ⟨cq623, kq623, qa623, qb623, qc623⟩ := isOf hZ rfl Ex614
      obtain ⟨_, _, ⟨T623, L623, k623, n623⟩, -, X623, ⟨Lc623, hQ623, l623, y623, z623⟩, st623⟩ := X614.virtualBack hx (y := own_y6) (z := own_y6) hown (mvT hZ w_27) (mvT hZ w_28) (notFace_of_selects (args := #[]) (mvT hZ w_30)) (mvT hZ w_30) (mvT hZ w_29) (by decide) (backOf (W := 0) (own_tone l Z a0 hw [] a105 ar121 a25 (2 : Int32) (1 : Int32) [(.ref a1), (.ref a25), .null] [(.ref a1), .null, .null] T614.heap n0 Ex614 gk614 gc614 gv614 F615 gn105 gn_ar121 ne_ar121_a105 (by decide) (by decide) (by decide) rfl rfl) hZ w_31 w_12 (by decide) (by decide)) qa623 qc623 (g := (mkF m 245 #[iv p0, iv p1, iv p2, iv p3, iv p4, iv p5, iv (3 : Int32), iv kk, rv a1, rv a4, rv a9, rv a16, rv a25, rv a36, rv a105, iv (3 : Int32), rv a9, rv a9, rv a4, rv a4, iv (1 : Int32), .unset, .unset, .unset, .unset] [(.ref a105)])) rfl (by rw [hml]; rfl) (Steps.refl _) (argsL := []) (rest := []) (lenOf own_pd5 rfl) rfl (by show 2 * 0 + _ ≤ _; exact own_b rfl) (hb hby at_245) (fun _ _ => ⟨rfl, rfl, (own_b rfl : 8 + 0 ≤ _), (own_b rfl : 14 + 0 ≤ _)⟩)
      dsimp only [Pt.U, Pt.locs, Pt.cells, Pt.slots] at X623 l623 y623 z623 st623 hQ623
      obtain ⟨rfl, Nq623, K623, Ex623, gk623, gc623, gv623⟩ := hQ623
      obtain ⟨L623, X623, N623⟩ := own_absC (K := 8) (K' := 14) X623 l623 y623 z623 N614 Nq623
      have F624 : n0 ≤ T623.heap.size := Nat.le_trans F615 K623.1
      have F625 := Keep.trans F616 K623 (allS (Or.inr (Nat.le_trans F93.1 (Nat.le_of_eq ga105.symm))) (allS (Or.inr (Nat.le_trans K107.1 gz121)) all0))
      have F626 := own_Ao_keep F617 K623 (ninS (Ne.symm ne105_a36) (ninS (Ne.symm ne_ar121_a36) nin0))
      have F627 := Exa.keep Ex614 K623
      have F628 := own_Bn_keep F619 K623 hbq
      refine own_tr (B := (T623.setTop (mkF m 248 #[iv p0, iv p1, iv p2, iv p3, iv p4, iv p5, iv (3 : Int32), iv kk, rv a1, rv a4, rv a9, rv a16, rv a25, rv a36, rv a105, iv (3 : Int32), rv a9, rv a9, rv a4, rv a4, iv (1 : Int32), .unset, .unset, .unset, .unset] [(.ref a25)]))) st623 ?_
      obtain ⟨T632, X632, e632, st632⟩ := castY X623 hx hZ hown w_7 rfl (Ins.of_exa (own_Bn_exa F628 (List.mem_of_getElem? (i := 4) rfl)) w_9) (g := (mkF m 248 #[iv p0, iv p1, iv p2, iv p3, iv p4, iv p5, iv (3 : Int32), iv kk, rv a1, rv a4, rv a9, rv a16, rv a25, rv a36, rv a105, iv (3 : Int32), rv a9, rv a9, rv a4, rv a4, iv (1 : Int32), .unset, .unset, .unset, .unset] [(.ref a25)])) rfl rfl (hb hby at_248)
      refine own_go (B := (T632.setTop (mkF m 251 #[iv p0, iv p1, iv p2, iv p3, iv p4, iv p5, iv (3 : Int32), iv kk, rv a1, rv a4, rv a9, rv a16, rv a25, rv a36, rv a105, iv (3 : Int32), rv a9, rv a9, rv a4, rv a4, iv (1 : Int32), .unset, .unset, .unset, .unset] [(.ref a25)]))) st632 ?_
      refine own_go (B := (T632.setTop (mkF m 253 #[iv p0, iv p1, iv p2, iv p3, iv p4, iv p5, iv (3 : Int32), iv kk, rv a1, rv a4, rv a9, rv a16, rv a25, rv a36, rv a105, iv (3 : Int32), rv a9, rv a9, rv a4, rv a4, iv (1 : Int32), rv a25, .unset, .unset, .unset] []))) (fun t k => XS.astore X632.here hx rfl (hb hby at_251) rfl rfl (l' := #[iv p0, iv p1, iv p2, iv p3, iv p4, iv p5, iv (3 : Int32), iv kk, rv a1, rv a4, rv a9, rv a16, rv a25, rv a36, rv a105, iv (3 : Int32), rv a9, rv a9, rv a4, rv a4, iv (1 : Int32), rv a25, .unset, .unset, .unset]) rfl k) ?_
      refine own_go (B := (T632.setTop (mkF m 255 #[iv p0, iv p1, iv p2, iv p3, iv p4, iv p5, iv (3 : Int32), iv kk, rv a1, rv a4, rv a9, rv a16, rv a25, rv a36, rv a105, iv (3 : Int32), rv a9, rv a9, rv a4, rv a4, iv (1 : Int32), rv a25, .unset, .unset, .unset] [(.int (3 : Int32))]))) (fun t k => XS.iload X632.here hx rfl (hb hby at_253) rfl k) ?_
      have hc255 : (0 : Int32) < (3 : Int32) := (by decide)
      refine own_ifN X632 hx (hb hby at_255) (pn := 258) rfl hc255 ?_
      refine own_go (B := (T632.setTop (mkF m 260 #[iv p0, iv p1, iv p2, iv p3, iv p4, iv p5, iv (3 : Int32), iv kk, rv a1, rv a4, rv a9, rv a16, rv a25, rv a36, rv a105, iv (3 : Int32), rv a9, rv a9, rv a4, rv a4, iv (1 : Int32), rv a25, .unset, .unset, .unset] [(.ref a25)]))) (fun t k => XS.aload X632.here hx rfl (hb hby at_258) rfl rfl k) ?_
      refine own_go (B := (T632.setTop (mkF m 264 #[iv p0, iv p1, iv p2, iv p3, iv p4, iv p5, iv (3 : Int32), iv kk, rv a1, rv a4, rv a9, rv a16, rv a25, rv a36, rv a105, iv (3 : Int32), rv a9, rv a9, rv a4, rv a4, iv (1 : Int32), rv a25, .unset, .unset, .unset] [(.ref a25)]))) (fun t k => XS.goto X632.here hx rfl (pc0 := 260) (pc' := 264) rfl (hb hby at_260) (by decide) (by decide) k) ?_
      refine own_go (B := (T632.setTop (mkF m 266 #[iv p0, iv p1, iv p2, iv p3, iv p4, iv p5, iv (3 : Int32), iv kk, rv a1, rv a4, rv a9, rv a16, rv a25, rv a36, rv a105, iv (3 : Int32), rv a9, rv a9, rv a4, rv a4, iv (1 : Int32), rv a25, rv a25, .unset, .unset] []))) (fun t k => XS.astore X632.here hx rfl (hb hby at_264) rfl rfl (l' := #[iv p0, iv p1, iv p2, iv p3, iv p4, iv p5, iv (3 : Int32), iv kk, rv a1, rv a4, rv a9, rv a16, rv a25, rv a36, rv a105, iv (3 : Int32), rv a9, rv a9, rv a4, rv a4, iv (1 : Int32), rv a25, rv a25, .unset, .unset]) rfl k) ?_
      refine own_go (B := (T632.setTop (mkF m 268 #[iv p0, iv p1, iv p2, iv p3, iv p4, iv p5, iv (3 : Int32), iv kk, rv a1, rv a4, rv a9, rv a16, rv a25, rv a36, rv a105, iv (3 : Int32), rv a9, rv a9, rv a4, rv a4, iv (1 : Int32), rv a25, rv a25, .unset, .unset] [(.ref a25)]))) (fun t k => XS.aload X632.here hx rfl (hb hby at_266) rfl rfl k) ?_
      refine own_go (B := (T632.setTop (mkF m 270 #[iv p0, iv p1, iv p2, iv p3, iv p4, iv p5, iv (3 : Int32), iv kk, rv a1, rv a4, rv a9, rv a16, rv a25, rv a36, rv a105, iv (3 : Int32), rv a9, rv a9, rv a4, rv a4, iv (1 : Int32), rv a25, rv a25, .unset, .unset] [(.ref a25), (.ref a25)]))) (fun t k => XS.aload X632.here hx rfl (hb hby at_268) rfl rfl k) ?_
      obtain ⟨_, _, ⟨T633, L633, k633, n633⟩, -, X633, ⟨Lc633, hQ633, l633, y633, z633⟩, st633⟩ := Jvm.LawKit.callS X632 hx (y := own_y7) hown (mvT hZ w_34) (mvT hZ w_35) (mvT hZ w_36) (mvT hZ w_37) (by decide) (backOf (W := 0) (own_same1 l Z a0 hw [] a25 a25 p5 T623.heap n0 (own_Bn_exa F628 (List.mem_of_getElem? (i := 4) rfl)) (own_Bn_fld F628 (List.mem_of_getElem? (i := 4) rfl)) (own_Bn_exa F628 (List.mem_of_getElem? (i := 4) rfl)) (own_Bn_fld F628 (List.mem_of_getElem? (i := 4) rfl))) hZ w_37 w_36 (by decide) (by decide)) (g := (mkF m 270 #[iv p0, iv p1, iv p2, iv p3, iv p4, iv p5, iv (3 : Int32), iv kk, rv a1, rv a4, rv a9, rv a16, rv a25, rv a36, rv a105, iv (3 : Int32), rv a9, rv a9, rv a4, rv a4, iv (1 : Int32), rv a25, rv a25, .unset, .unset] [(.ref a25), (.ref a25)])) rfl (by rw [hml]; rfl) (argsL := [(.ref a25), (.ref a25)]) (rest := []) (lenOf own_pd6 rfl) rfl (by show 2 * 0 + _ ≤ _; exact own_b rfl) (hb hby at_270) (fun _ _ => ⟨rfl, e632, (own_b rfl : 8 + 0 ≤ _), (own_b rfl : 14 + 0 ≤ _)⟩)
      dsimp only [Pt.U, Pt.locs, Pt.cells, Pt.slots] at X633 l633 y633 z633 st633 hQ633
      obtain ⟨rfl, Nq633, eq633⟩ := hQ633
      obtain ⟨L633, X633, N633⟩ := own_absC (K := 8) (K' := 14) X633 l633 y633 z633 N623 Nq633
      have e633 : T633.heap = T623.heap := eq633
      refine own_go (B := (T633.setTop (mkF m 273 #[iv p0, iv p1, iv p2, iv p3, iv p4, iv p5, iv (3 : Int32), iv kk, rv a1, rv a4, rv a9, rv a16, rv a25, rv a36, rv a105, iv (3 : Int32), rv a9, rv a9, rv a4, rv a4, iv (1 : Int32), rv a25, rv a25, .unset, .unset] [(.int (1 : Int32))]))) st633 ?_
      have hc273 : ¬ (1 : Int32) = (0 : Int32) := (by decide)
      refine own_ifY X633 hx (hb hby at_273) (pc' := 278) (by decide) (by decide) hc273 ?_
      refine own_go (B := (T633.setTop (mkF m 280 #[iv p0, iv p1, iv p2, iv p3, iv p4, iv p5, iv (3 : Int32), iv kk, rv a1, rv a4, rv a9, rv a16, rv a25, rv a36, rv a105, iv (3 : Int32), rv a9, rv a9, rv a4, rv a4, iv (1 : Int32), rv a25, rv a25, .unset, .unset] [(.ref a105)]))) (fun t k => XS.aload X633.here hx rfl (hb hby at_278) rfl rfl k) ?_
      obtain ⟨cq634, kq634, qa634, qb634, qc634⟩ := isOf hZ e633 Ex623
      obtain ⟨_, _, ⟨T634, L634, k634, n634⟩, -, X634, ⟨Lc634, hQ634, l634, y634, z634⟩, st634⟩ := X633.virtualBack hx (y := own_y6) (z := own_y6) hown (mvT hZ w_27) (mvT hZ w_28) (notFace_of_selects (args := #[]) (mvT hZ w_30)) (mvT hZ w_30) (mvT hZ w_29) (by decide) (backOf (W := 0) (own_tone l Z a0 hw [] a105 ar121 a1 (1 : Int32) (0 : Int32) [(.ref a1), .null, .null] [.null, .null, .null] T623.heap n0 Ex623 gk623 gc623 gv623 F624 gn105 gn_ar121 ne_ar121_a105 (by decide) (by decide) (by decide) rfl rfl) hZ w_31 w_12 (by decide) (by decide)) qa634 qc634 (g := (mkF m 280 #[iv p0, iv p1, iv p2, iv p3, iv p4, iv p5, iv (3 : Int32), iv kk, rv a1, rv a4, rv a9, rv a16, rv a25, rv a36, rv a105, iv (3 : Int32), rv a9, rv a9, rv a4, rv a4, iv (1 : Int32), rv a25, rv a25, .unset, .unset] [(.ref a105)])) rfl (by rw [hml]; rfl) (Steps.refl _) (argsL := []) (rest := []) (lenOf own_pd5 rfl) rfl (by show 2 * 0 + _ ≤ _; exact own_b rfl) (hb hby at_280) (fun _ _ => ⟨rfl, e633, (own_b rfl : 8 + 0 ≤ _), (own_b rfl : 14 + 0 ≤ _)⟩)
      dsimp only [Pt.U, Pt.locs, Pt.cells, Pt.slots] at X634 l634 y634 z634 st634 hQ634
      obtain ⟨rfl, Nq634, K634, Ex634, gk634, gc634, gv634⟩ := hQ634
      obtain ⟨L634, X634, N634⟩ := own_absC (K := 8) (K' := 14) X634 l634 y634 z634 N633 Nq634
      have F635 : n0 ≤ T634.heap.size := Nat.le_trans F624 K634.1
      have F636 := Keep.trans F625 K634 (allS (Or.inr (Nat.le_trans F93.1 (Nat.le_of_eq ga105.symm))) (allS (Or.inr (Nat.le_trans K107.1 gz121)) all0))
      have F637 := own_Ao_keep F626 K634 (ninS (Ne.symm ne105_a36) (ninS (Ne.symm ne_ar121_a36) nin0))
      have F638 := Exa.keep Ex623 K634
      have F639 := own_Bn_keep F628 K634 hbq
      refine own_tr (B := (T634.setTop (mkF m 283 #[iv p0, iv p1, iv p2, iv p3, iv p4, iv p5, iv (3 : Int32), iv kk, rv a1, rv a4, rv a9, rv a16, rv a25, rv a36, rv a105, iv (3 : Int32), rv a9, rv a9, rv a4, rv a4, iv (1 : Int32), rv a25, rv a25, .unset, .unset] [(.ref a1)]))) st634 ?_
      obtain ⟨T643, X643, e643, st643⟩ := castY X634 hx hZ hown w_7 rfl (Ins.of_exa (own_Bn_exa F639 (List.mem_of_getElem? (i := 0) rfl)) w_9) (g := (mkF m 283 #[iv p0, iv p1, iv p2, iv p3, iv p4, iv p5, iv (3 : Int32), iv kk, rv a1, rv a4, rv a9, rv a16, rv a25, rv a36, rv a105, iv (3 : Int32), rv a9, rv a9, rv a4, rv a4, iv (1 : Int32), rv a25, rv a25, .unset, .unset] [(.ref a1)])) rfl rfl (hb hby at_283)
      refine own_go (B := (T643.setTop (mkF m 286 #[iv p0, iv p1, iv p2, iv p3, iv p4, iv p5, iv (3 : Int32), iv kk, rv a1, rv a4, rv a9, rv a16, rv a25, rv a36, rv a105, iv (3 : Int32), rv a9, rv a9, rv a4, rv a4, iv (1 : Int32), rv a25, rv a25, .unset, .unset] [(.ref a1)]))) st643 ?_
      refine own_go (B := (T643.setTop (mkF m 288 #[iv p0, iv p1, iv p2, iv p3, iv p4, iv p5, iv (3 : Int32), iv kk, rv a1, rv a4, rv a9, rv a16, rv a25, rv a36, rv a105, iv (3 : Int32), rv a9, rv a9, rv a4, rv a4, iv (1 : Int32), rv a25, rv a25, rv a1, .unset] []))) (fun t k => XS.astore X643.here hx rfl (hb hby at_286) rfl rfl (l' := #[iv p0, iv p1, iv p2, iv p3, iv p4, iv p5, iv (3 : Int32), iv kk, rv a1, rv a4, rv a9, rv a16, rv a25, rv a36, rv a105, iv (3 : Int32), rv a9, rv a9, rv a4, rv a4, iv (1 : Int32), rv a25, rv a25, rv a1, .unset]) rfl k) ?_
      refine own_go (B := (T643.setTop (mkF m 290 #[iv p0, iv p1, iv p2, iv p3, iv p4, iv p5, iv (3 : Int32), iv kk, rv a1, rv a4, rv a9, rv a16, rv a25, rv a36, rv a105, iv (3 : Int32), rv a9, rv a9, rv a4, rv a4, iv (1 : Int32), rv a25, rv a25, rv a1, .unset] [(.int (1 : Int32))]))) (fun t k => XS.iload X643.here hx rfl (hb hby at_288) rfl k) ?_
      refine own_go (B := (T643.setTop (mkF m 291 #[iv p0, iv p1, iv p2, iv p3, iv p4, iv p5, iv (3 : Int32), iv kk, rv a1, rv a4, rv a9, rv a16, rv a25, rv a36, rv a105, iv (3 : Int32), rv a9, rv a9, rv a4, rv a4, iv (1 : Int32), rv a25, rv a25, rv a1, .unset] [(.int (1 : Int32)), (.int (1 : Int32))]))) (fun t k => own_iconst (v := (1 : Int32)) X643.here hx rfl (hb hby at_290) (by decide) k) ?_
      have hc291 : ¬ (1 : Int32) < (1 : Int32) := (by decide)
      refine own_icmpN X643 hx (hb hby at_291) (pn := 294) rfl hc291 ?_
      refine own_go (B := (T643.setTop (mkF m 296 #[iv p0, iv p1, iv p2, iv p3, iv p4, iv p5, iv (3 : Int32), iv kk, rv a1, rv a4, rv a9, rv a16, rv a25, rv a36, rv a105, iv (3 : Int32), rv a9, rv a9, rv a4, rv a4, iv (1 : Int32), rv a25, rv a25, rv a1, .unset] [(.ref a36)]))) (fun t k => XS.aload X643.here hx rfl (hb hby at_294) rfl rfl k) ?_
      refine own_go (B := (T643.setTop (mkF m 298 #[iv p0, iv p1, iv p2, iv p3, iv p4, iv p5, iv (3 : Int32), iv kk, rv a1, rv a4, rv a9, rv a16, rv a25, rv a36, rv a105, iv (3 : Int32), rv a9, rv a9, rv a4, rv a4, iv (1 : Int32), rv a25, rv a25, rv a1, .unset] [(.int (1 : Int32)), (.ref a36)]))) (fun t k => XS.iload X643.here hx rfl (hb hby at_296) rfl k) ?_
      refine own_go (B := (T643.setTop (mkF m 299 #[iv p0, iv p1, iv p2, iv p3, iv p4, iv p5, iv (3 : Int32), iv kk, rv a1, rv a4, rv a9, rv a16, rv a25, rv a36, rv a105, iv (3 : Int32), rv a9, rv a9, rv a4, rv a4, iv (1 : Int32), rv a25, rv a25, rv a1, .unset] [(.int (1 : Int32)), (.int (1 : Int32)), (.ref a36)]))) (fun t k => own_iconst (v := (1 : Int32)) X643.here hx rfl (hb hby at_298) (by decide) k) ?_
      refine own_go (B := (T643.setTop (mkF m 300 #[iv p0, iv p1, iv p2, iv p3, iv p4, iv p5, iv (3 : Int32), iv kk, rv a1, rv a4, rv a9, rv a16, rv a25, rv a36, rv a105, iv (3 : Int32), rv a9, rv a9, rv a4, rv a4, iv (1 : Int32), rv a25, rv a25, rv a1, .unset] [(.int ((1 : Int32) - (1 : Int32))), (.ref a36)]))) (fun t k => XS.isub (x := (1 : Int32)) (y := (1 : Int32)) X643.here hx rfl (hb hby at_299) rfl k) ?_
      rw [show ((1 : Int32) - (1 : Int32)) = (0 : Int32) from by decide]
      refine own_go (B := (T643.setTop (mkF m 301 #[iv p0, iv p1, iv p2, iv p3, iv p4, iv p5, iv (3 : Int32), iv kk, rv a1, rv a4, rv a9, rv a16, rv a25, rv a36, rv a105, iv (3 : Int32), rv a9, rv a9, rv a4, rv a4, iv (1 : Int32), rv a25, rv a25, rv a1, .unset] [(.ref a1)]))) (own_ldR X643 hx hZ e643 (own_Ao_ar F637) rfl (v := (.ref a1)) (by decide) rfl (g := (mkF m 300 #[iv p0, iv p1, iv p2, iv p3, iv p4, iv p5, iv (3 : Int32), iv kk, rv a1, rv a4, rv a9, rv a16, rv a25, rv a36, rv a105, iv (3 : Int32), rv a9, rv a9, rv a4, rv a4, iv (1 : Int32), rv a25, rv a25, rv a1, .unset] [(.int (0 : Int32)), (.ref a36)])) rfl rfl (hb hby at_300)) ?_
      refine own_go (B := (T643.setTop (mkF m 305 #[iv p0, iv p1, iv p2, iv p3, iv p4, iv p5, iv (3 : Int32), iv kk, rv a1, rv a4, rv a9, rv a16, rv a25, rv a36, rv a105, iv (3 : Int32), rv a9, rv a9, rv a4, rv a4, iv (1 : Int32), rv a25, rv a25, rv a1, .unset] [(.ref a1)]))) (fun t k => XS.goto X643.here hx rfl (pc0 := 301) (pc' := 305) rfl (hb hby at_301) (by decide) (by decide) k) ?_
      refine own_go (B := (T643.setTop (mkF m 307 #[iv p0, iv p1, iv p2, iv p3, iv p4, iv p5, iv (3 : Int32), iv kk, rv a1, rv a4, rv a9, rv a16, rv a25, rv a36, rv a105, iv (3 : Int32), rv a9, rv a9, rv a4, rv a4, iv (1 : Int32), rv a25, rv a25, rv a1, rv a1] []))) (fun t k => XS.astore X643.here hx rfl (hb hby at_305) rfl rfl (l' := #[iv p0, iv p1, iv p2, iv p3, iv p4, iv p5, iv (3 : Int32), iv kk, rv a1, rv a4, rv a9, rv a16, rv a25, rv a36, rv a105, iv (3 : Int32), rv a9, rv a9, rv a4, rv a4, iv (1 : Int32), rv a25, rv a25, rv a1, rv a1]) rfl k) ?_
      refine own_go (B := (T643.setTop (mkF m 309 #[iv p0, iv p1, iv p2, iv p3, iv p4, iv p5, iv (3 : Int32), iv kk, rv a1, rv a4, rv a9, rv a16, rv a25, rv a36, rv a105, iv (3 : Int32), rv a9, rv a9, rv a4, rv a4, iv (1 : Int32), rv a25, rv a25, rv a1, rv a1] [(.ref a1)]))) (fun t k => XS.aload X643.here hx rfl (hb hby at_307) rfl rfl k) ?_
      refine own_go (B := (T643.setTop (mkF m 311 #[iv p0, iv p1, iv p2, iv p3, iv p4, iv p5, iv (3 : Int32), iv kk, rv a1, rv a4, rv a9, rv a16, rv a25, rv a36, rv a105, iv (3 : Int32), rv a9, rv a9, rv a4, rv a4, iv (1 : Int32), rv a25, rv a25, rv a1, rv a1] [(.ref a1), (.ref a1)]))) (fun t k => XS.aload X643.here hx rfl (hb hby at_309) rfl rfl k) ?_
      obtain ⟨_, _, ⟨T644, L644, k644, n644⟩, -, X644, ⟨Lc644, hQ644, l644, y644, z644⟩, st644⟩ := Jvm.LawKit.callS X643 hx (y := own_y7) hown (mvT hZ w_34) (mvT hZ w_35) (mvT hZ w_36) (mvT hZ w_37) (by decide) (backOf (W := 0) (own_same1 l Z a0 hw [] a1 a1 p1 T634.heap n0 (own_Bn_exa F639 (List.mem_of_getElem? (i := 0) rfl)) (own_Bn_fld F639 (List.mem_of_getElem? (i := 0) rfl)) (own_Bn_exa F639 (List.mem_of_getElem? (i := 0) rfl)) (own_Bn_fld F639 (List.mem_of_getElem? (i := 0) rfl))) hZ w_37 w_36 (by decide) (by decide)) (g := (mkF m 311 #[iv p0, iv p1, iv p2, iv p3, iv p4, iv p5, iv (3 : Int32), iv kk, rv a1, rv a4, rv a9, rv a16, rv a25, rv a36, rv a105, iv (3 : Int32), rv a9, rv a9, rv a4, rv a4, iv (1 : Int32), rv a25, rv a25, rv a1, rv a1] [(.ref a1), (.ref a1)])) rfl (by rw [hml]; rfl) (argsL := [(.ref a1), (.ref a1)]) (rest := []) (lenOf own_pd6 rfl) rfl (by show 2 * 0 + _ ≤ _; exact own_b rfl) (hb hby at_311) (fun _ _ => ⟨rfl, e643, (own_b rfl : 8 + 0 ≤ _), (own_b rfl : 14 + 0 ≤ _)⟩)
      dsimp only [Pt.U, Pt.locs, Pt.cells, Pt.slots] at X644 l644 y644 z644 st644 hQ644
      obtain ⟨rfl, Nq644, eq644⟩ := hQ644
      obtain ⟨L644, X644, N644⟩ := own_absC (K := 8) (K' := 14) X644 l644 y644 z644 N634 Nq644
      have e644 : T644.heap = T634.heap := eq644
      refine own_go (B := (T644.setTop (mkF m 314 #[iv p0, iv p1, iv p2, iv p3, iv p4, iv p5, iv (3 : Int32), iv kk, rv a1, rv a4, rv a9, rv a16, rv a25, rv a36, rv a105, iv (3 : Int32), rv a9, rv a9, rv a4, rv a4, iv (1 : Int32), rv a25, rv a25, rv a1, rv a1] [(.int (1 : Int32))]))) st644 ?_
      exact own_retZ X644 hx hlk Bd.returns (hb hby at_314) (by decide) (own_b rfl) (own_b rfl) (Q := (own_law_Q Z p0 p1 p2 p3 p4 p5 ca h0 n0)) ⟨rfl, N644⟩
    rcases own_c5 hz13 with rfl | rfl | rfl | rfl | rfl
    · refine own_go (B := (T121.setTop (mkF m 86 #[iv p0, iv p1, iv p2, iv p3, iv p4, iv p5, iv (3 : Int32), iv (0 : Int32), rv a1, rv a4, rv a9, rv a16, rv a25, rv a36, rv a105, .unset, .unset, .unset, .unset, .unset, .unset, .unset, .unset, .unset, .unset] [(.int (0 : Int32))]))) (fun t k => XS.iload X121.here hx rfl (hb hby at_84) rfl k) ?_
      have hc86 : ¬ (0 : Int32) < (0 : Int32) := (by decide)
      refine own_ifY X121 hx (hb hby at_86) (pc' := 96) (by decide) (by decide) hc86 ?_
      refine own_go (B := (T121.setTop (mkF m 98 #[iv p0, iv p1, iv p2, iv p3, iv p4, iv p5, iv (3 : Int32), iv (0 : Int32), rv a1, rv a4, rv a9, rv a16, rv a25, rv a36, rv a105, .unset, .unset, .unset, .unset, .unset, .unset, .unset, .unset, .unset, .unset] [(.int (0 : Int32))]))) (fun t k => XS.iload X121.here hx rfl (hb hby at_96) rfl k) ?_
      refine own_go (B := (T121.setTop (mkF m 99 #[iv p0, iv p1, iv p2, iv p3, iv p4, iv p5, iv (3 : Int32), iv (0 : Int32), rv a1, rv a4, rv a9, rv a16, rv a25, rv a36, rv a105, .unset, .unset, .unset, .unset, .unset, .unset, .unset, .unset, .unset, .unset] [(.int (1 : Int32)), (.int (0 : Int32))]))) (fun t k => own_iconst (v := (1 : Int32)) X121.here hx rfl (hb hby at_98) (by decide) k) ?_
      have hc99 : ¬ (1 : Int32) < (0 : Int32) := (by decide)
      refine own_icmpY X121 hx (hb hby at_99) (pc' := 109) (by decide) (by decide) hc99 ?_
      refine own_go (B := (T121.setTop (mkF m 111 #[iv p0, iv p1, iv p2, iv p3, iv p4, iv p5, iv (3 : Int32), iv (0 : Int32), rv a1, rv a4, rv a9, rv a16, rv a25, rv a36, rv a105, .unset, .unset, .unset, .unset, .unset, .unset, .unset, .unset, .unset, .unset] [(.int (0 : Int32))]))) (fun t k => XS.iload X121.here hx rfl (hb hby at_109) rfl k) ?_
      refine own_go (B := (T121.setTop (mkF m 112 #[iv p0, iv p1, iv p2, iv p3, iv p4, iv p5, iv (3 : Int32), iv (0 : Int32), rv a1, rv a4, rv a9, rv a16, rv a25, rv a36, rv a105, .unset, .unset, .unset, .unset, .unset, .unset, .unset, .unset, .unset, .unset] [(.int (2 : Int32)), (.int (0 : Int32))]))) (fun t k => own_iconst (v := (2 : Int32)) X121.here hx rfl (hb hby at_111) (by decide) k) ?_
      have hc112 : ¬ (2 : Int32) < (0 : Int32) := (by decide)
      refine own_icmpY X121 hx (hb hby at_112) (pc' := 122) (by decide) (by decide) hc112 ?_
      refine own_go (B := (T121.setTop (mkF m 124 #[iv p0, iv p1, iv p2, iv p3, iv p4, iv p5, iv (3 : Int32), iv (0 : Int32), rv a1, rv a4, rv a9, rv a16, rv a25, rv a36, rv a105, .unset, .unset, .unset, .unset, .unset, .unset, .unset, .unset, .unset, .unset] [(.int (0 : Int32))]))) (fun t k => XS.iload X121.here hx rfl (hb hby at_122) rfl k) ?_
      refine own_go (B := (T121.setTop (mkF m 125 #[iv p0, iv p1, iv p2, iv p3, iv p4, iv p5, iv (3 : Int32), iv (0 : Int32), rv a1, rv a4, rv a9, rv a16, rv a25, rv a36, rv a105, .unset, .unset, .unset, .unset, .unset, .unset, .unset, .unset, .unset, .unset] [(.int (3 : Int32)), (.int (0 : Int32))]))) (fun t k => own_iconst (v := (3 : Int32)) X121.here hx rfl (hb hby at_124) (by decide) k) ?_
      have hc125 : ¬ (3 : Int32) < (0 : Int32) := (by decide)
      refine own_icmpY X121 hx (hb hby at_125) (pc' := 135) (by decide) (by decide) hc125 ?_
      refine own_go (B := (T121.setTop (mkF m 137 #[iv p0, iv p1, iv p2, iv p3, iv p4, iv p5, iv (3 : Int32), iv (0 : Int32), rv a1, rv a4, rv a9, rv a16, rv a25, rv a36, rv a105, .unset, .unset, .unset, .unset, .unset, .unset, .unset, .unset, .unset, .unset] [(.int (0 : Int32))]))) (fun t k => XS.iload X121.here hx rfl (hb hby at_135) rfl k) ?_
      refine own_go (B := (T121.setTop (mkF m 139 #[iv p0, iv p1, iv p2, iv p3, iv p4, iv p5, iv (3 : Int32), iv (0 : Int32), rv a1, rv a4, rv a9, rv a16, rv a25, rv a36, rv a105, .unset, .unset, .unset, .unset, .unset, .unset, .unset, .unset, .unset, .unset] [(.int (3 : Int32)), (.int (0 : Int32))]))) (fun t k => XS.iload X121.here hx rfl (hb hby at_137) rfl k) ?_
      obtain ⟨_, _, ⟨T645, L645, k645, n645⟩, -, X645, ⟨Lc645, hQ645, l645, y645, z645⟩, st645⟩ := Jvm.LawKit.callS X121 hx (y := own_y10) hown (mvT hZ w_23) (mvT hZ w_24) (mvT hZ w_25) (mvT hZ w_26) (by decide) (backOf (W := 0) (own_mmin l Z a0 hw [] (0 : Int32) (3 : Int32) T121.heap n0) hZ w_26 w_25 (by decide) (by decide)) (g := (mkF m 139 #[iv p0, iv p1, iv p2, iv p3, iv p4, iv p5, iv (3 : Int32), iv (0 : Int32), rv a1, rv a4, rv a9, rv a16, rv a25, rv a36, rv a105, .unset, .unset, .unset, .unset, .unset, .unset, .unset, .unset, .unset, .unset] [(.int (3 : Int32)), (.int (0 : Int32))])) rfl (by rw [hml]; rfl) (argsL := [(.int (0 : Int32)), (.int (3 : Int32))]) (rest := []) (lenOf own_pd7 rfl) rfl (by show 2 * 0 + _ ≤ _; exact own_b rfl) (hb hby at_139) (fun _ _ => ⟨rfl, rfl, (own_b rfl : 8 + 0 ≤ _), (own_b rfl : 14 + 0 ≤ _)⟩)
      dsimp only [Pt.U, Pt.locs, Pt.cells, Pt.slots] at X645 l645 y645 z645 st645 hQ645
      obtain ⟨rfl, Nq645, eq645⟩ := hQ645
      obtain ⟨L645, X645, N645⟩ := own_absC (K := 8) (K' := 14) X645 l645 y645 z645 N121 Nq645
      have e645 : T645.heap = T121.heap := eq645
      refine own_go (B := (T645.setTop (mkF m 142 #[iv p0, iv p1, iv p2, iv p3, iv p4, iv p5, iv (3 : Int32), iv (0 : Int32), rv a1, rv a4, rv a9, rv a16, rv a25, rv a36, rv a105, .unset, .unset, .unset, .unset, .unset, .unset, .unset, .unset, .unset, .unset] [(.int (own_min (0 : Int32) (3 : Int32)))]))) st645 ?_
      rw [show own_min (0 : Int32) (3 : Int32) = (0 : Int32) from by decide]
      refine own_go (B := (T645.setTop (mkF m 144 #[iv p0, iv p1, iv p2, iv p3, iv p4, iv p5, iv (3 : Int32), iv (0 : Int32), rv a1, rv a4, rv a9, rv a16, rv a25, rv a36, rv a105, iv (0 : Int32), .unset, .unset, .unset, .unset, .unset, .unset, .unset, .unset, .unset] []))) (fun t k => XS.istore X645.here hx rfl (hb hby at_142) rfl (l' := #[iv p0, iv p1, iv p2, iv p3, iv p4, iv p5, iv (3 : Int32), iv (0 : Int32), rv a1, rv a4, rv a9, rv a16, rv a25, rv a36, rv a105, iv (0 : Int32), .unset, .unset, .unset, .unset, .unset, .unset, .unset, .unset, .unset]) rfl k) ?_
      exact J0 T645 _ T121.heap X645 e645 N645 F122 F123 F134 Ex121 gk121 gc121 Vb BB _
    · refine own_go (B := (T121.setTop (mkF m 86 #[iv p0, iv p1, iv p2, iv p3, iv p4, iv p5, iv (3 : Int32), iv (1 : Int32), rv a1, rv a4, rv a9, rv a16, rv a25, rv a36, rv a105, .unset, .unset, .unset, .unset, .unset, .unset, .unset, .unset, .unset, .unset] [(.int (1 : Int32))]))) (fun t k => XS.iload X121.here hx rfl (hb hby at_84) rfl k) ?_
      have hc86 : (0 : Int32) < (1 : Int32) := (by decide)
      refine own_ifN X121 hx (hb hby at_86) (pn := 89) rfl hc86 ?_
      refine own_go (B := (T121.setTop (mkF m 91 #[iv p0, iv p1, iv p2, iv p3, iv p4, iv p5, iv (3 : Int32), iv (1 : Int32), rv a1, rv a4, rv a9, rv a16, rv a25, rv a36, rv a105, .unset, .unset, .unset, .unset, .unset, .unset, .unset, .unset, .unset, .unset] [(.ref a105)]))) (fun t k => XS.aload X121.here hx rfl (hb hby at_89) rfl rfl k) ?_
      refine own_go (B := (T121.setTop (mkF m 93 #[iv p0, iv p1, iv p2, iv p3, iv p4, iv p5, iv (3 : Int32), iv (1 : Int32), rv a1, rv a4, rv a9, rv a16, rv a25, rv a36, rv a105, .unset, .unset, .unset, .unset, .unset, .unset, .unset, .unset, .unset, .unset] [(.ref a1), (.ref a105)]))) (fun t k => XS.aload X121.here hx rfl (hb hby at_91) rfl rfl k) ?_
      obtain ⟨cq646, kq646, qa646, qb646, qc646⟩ := isOf hZ rfl Ex121
      obtain ⟨_, _, ⟨T646, L646, k646, n646⟩, -, X646, ⟨Lc646, hQ646, l646, y646, z646⟩, st646⟩ := X121.virtualBack hx (y := own_y9) (z := own_y9) hown (mvT hZ w_41) (mvT hZ w_42) (notFace_of_selects (args := #[]) (mvT hZ w_44)) (mvT hZ w_44) (mvT hZ w_43) (by decide) (backOf (W := 0) (own_kone l Z a0 hw [] a105 a1 ar121 (0 : Int32) (3 : Int32) (1 : Int32) [.null, .null, .null] [(.ref a1), .null, .null] T121.heap n0 Ex121 gk121 gc121 Vb F122 gn105 gn_ar121 ne_ar121_a105 (own_lenL (n := 3) rfl (by decide)) (by decide) (by decide) (Nat.lt_of_lt_of_eq (by decide : _ < 3) rfl) (by decide) (Ins.of_exa (own_Bn_exa BB (List.mem_of_getElem? (i := 0) rfl)) w_60) rfl) hZ w_45 w_12 (by decide) (by decide)) qa646 qc646 (g := (mkF m 93 #[iv p0, iv p1, iv p2, iv p3, iv p4, iv p5, iv (3 : Int32), iv (1 : Int32), rv a1, rv a4, rv a9, rv a16, rv a25, rv a36, rv a105, .unset, .unset, .unset, .unset, .unset, .unset, .unset, .unset, .unset, .unset] [(.ref a1), (.ref a105)])) rfl (by rw [hml]; rfl) (Steps.refl _) (argsL := [(.ref a1)]) (rest := []) (lenOf own_pd8 rfl) rfl (by show 2 * 0 + _ ≤ _; exact own_b rfl) (hb hby at_93) (fun _ _ => ⟨rfl, rfl, (own_b rfl : 8 + 0 ≤ _), (own_b rfl : 14 + 0 ≤ _)⟩)
      dsimp only [Pt.U, Pt.locs, Pt.cells, Pt.slots] at X646 l646 y646 z646 st646 hQ646
      obtain ⟨rfl, Nq646, K646, Ex646, gk646, gc646, gv646⟩ := hQ646
      obtain ⟨L646, X646, N646⟩ := own_absC (K := 8) (K' := 14) X646 l646 y646 z646 N121 Nq646
      have F647 : n0 ≤ T646.heap.size := Nat.le_trans F122 K646.1
      have F648 := Keep.trans F123 K646 (allS (Or.inr (Nat.le_trans F93.1 (Nat.le_of_eq ga105.symm))) (allS (Or.inr (Nat.le_trans K107.1 gz121)) all0))
      have F649 := own_Ao_keep F134 K646 (ninS (Ne.symm ne105_a36) (ninS (Ne.symm ne_ar121_a36) nin0))
      have F650 := Exa.keep Ex121 K646
      have F654 := own_Bn_keep BB K646 hbq
      refine own_tr (B := (T646.setTop (mkF m 96 #[iv p0, iv p1, iv p2, iv p3, iv p4, iv p5, iv (3 : Int32), iv (1 : Int32), rv a1, rv a4, rv a9, rv a16, rv a25, rv a36, rv a105, .unset, .unset, .unset, .unset, .unset, .unset, .unset, .unset, .unset, .unset] []))) st646 ?_
      refine own_go (B := (T646.setTop (mkF m 98 #[iv p0, iv p1, iv p2, iv p3, iv p4, iv p5, iv (3 : Int32), iv (1 : Int32), rv a1, rv a4, rv a9, rv a16, rv a25, rv a36, rv a105, .unset, .unset, .unset, .unset, .unset, .unset, .unset, .unset, .unset, .unset] [(.int (1 : Int32))]))) (fun t k => XS.iload X646.here hx rfl (hb hby at_96) rfl k) ?_
      refine own_go (B := (T646.setTop (mkF m 99 #[iv p0, iv p1, iv p2, iv p3, iv p4, iv p5, iv (3 : Int32), iv (1 : Int32), rv a1, rv a4, rv a9, rv a16, rv a25, rv a36, rv a105, .unset, .unset, .unset, .unset, .unset, .unset, .unset, .unset, .unset, .unset] [(.int (1 : Int32)), (.int (1 : Int32))]))) (fun t k => own_iconst (v := (1 : Int32)) X646.here hx rfl (hb hby at_98) (by decide) k) ?_
      have hc99 : ¬ (1 : Int32) < (1 : Int32) := (by decide)
      refine own_icmpY X646 hx (hb hby at_99) (pc' := 109) (by decide) (by decide) hc99 ?_
      refine own_go (B := (T646.setTop (mkF m 111 #[iv p0, iv p1, iv p2, iv p3, iv p4, iv p5, iv (3 : Int32), iv (1 : Int32), rv a1, rv a4, rv a9, rv a16, rv a25, rv a36, rv a105, .unset, .unset, .unset, .unset, .unset, .unset, .unset, .unset, .unset, .unset] [(.int (1 : Int32))]))) (fun t k => XS.iload X646.here hx rfl (hb hby at_109) rfl k) ?_
      refine own_go (B := (T646.setTop (mkF m 112 #[iv p0, iv p1, iv p2, iv p3, iv p4, iv p5, iv (3 : Int32), iv (1 : Int32), rv a1, rv a4, rv a9, rv a16, rv a25, rv a36, rv a105, .unset, .unset, .unset, .unset, .unset, .unset, .unset, .unset, .unset, .unset] [(.int (2 : Int32)), (.int (1 : Int32))]))) (fun t k => own_iconst (v := (2 : Int32)) X646.here hx rfl (hb hby at_111) (by decide) k) ?_
      have hc112 : ¬ (2 : Int32) < (1 : Int32) := (by decide)
      refine own_icmpY X646 hx (hb hby at_112) (pc' := 122) (by decide) (by decide) hc112 ?_
      refine own_go (B := (T646.setTop (mkF m 124 #[iv p0, iv p1, iv p2, iv p3, iv p4, iv p5, iv (3 : Int32), iv (1 : Int32), rv a1, rv a4, rv a9, rv a16, rv a25, rv a36, rv a105, .unset, .unset, .unset, .unset, .unset, .unset, .unset, .unset, .unset, .unset] [(.int (1 : Int32))]))) (fun t k => XS.iload X646.here hx rfl (hb hby at_122) rfl k) ?_
      refine own_go (B := (T646.setTop (mkF m 125 #[iv p0, iv p1, iv p2, iv p3, iv p4, iv p5, iv (3 : Int32), iv (1 : Int32), rv a1, rv a4, rv a9, rv a16, rv a25, rv a36, rv a105, .unset, .unset, .unset, .unset, .unset, .unset, .unset, .unset, .unset, .unset] [(.int (3 : Int32)), (.int (1 : Int32))]))) (fun t k => own_iconst (v := (3 : Int32)) X646.here hx rfl (hb hby at_124) (by decide) k) ?_
      have hc125 : ¬ (3 : Int32) < (1 : Int32) := (by decide)
      refine own_icmpY X646 hx (hb hby at_125) (pc' := 135) (by decide) (by decide) hc125 ?_
      refine own_go (B := (T646.setTop (mkF m 137 #[iv p0, iv p1, iv p2, iv p3, iv p4, iv p5, iv (3 : Int32), iv (1 : Int32), rv a1, rv a4, rv a9, rv a16, rv a25, rv a36, rv a105, .unset, .unset, .unset, .unset, .unset, .unset, .unset, .unset, .unset, .unset] [(.int (1 : Int32))]))) (fun t k => XS.iload X646.here hx rfl (hb hby at_135) rfl k) ?_
      refine own_go (B := (T646.setTop (mkF m 139 #[iv p0, iv p1, iv p2, iv p3, iv p4, iv p5, iv (3 : Int32), iv (1 : Int32), rv a1, rv a4, rv a9, rv a16, rv a25, rv a36, rv a105, .unset, .unset, .unset, .unset, .unset, .unset, .unset, .unset, .unset, .unset] [(.int (3 : Int32)), (.int (1 : Int32))]))) (fun t k => XS.iload X646.here hx rfl (hb hby at_137) rfl k) ?_
      obtain ⟨_, _, ⟨T655, L655, k655, n655⟩, -, X655, ⟨Lc655, hQ655, l655, y655, z655⟩, st655⟩ := Jvm.LawKit.callS X646 hx (y := own_y10) hown (mvT hZ w_23) (mvT hZ w_24) (mvT hZ w_25) (mvT hZ w_26) (by decide) (backOf (W := 0) (own_mmin l Z a0 hw [] (1 : Int32) (3 : Int32) T646.heap n0) hZ w_26 w_25 (by decide) (by decide)) (g := (mkF m 139 #[iv p0, iv p1, iv p2, iv p3, iv p4, iv p5, iv (3 : Int32), iv (1 : Int32), rv a1, rv a4, rv a9, rv a16, rv a25, rv a36, rv a105, .unset, .unset, .unset, .unset, .unset, .unset, .unset, .unset, .unset, .unset] [(.int (3 : Int32)), (.int (1 : Int32))])) rfl (by rw [hml]; rfl) (argsL := [(.int (1 : Int32)), (.int (3 : Int32))]) (rest := []) (lenOf own_pd7 rfl) rfl (by show 2 * 0 + _ ≤ _; exact own_b rfl) (hb hby at_139) (fun _ _ => ⟨rfl, rfl, (own_b rfl : 8 + 0 ≤ _), (own_b rfl : 14 + 0 ≤ _)⟩)
      dsimp only [Pt.U, Pt.locs, Pt.cells, Pt.slots] at X655 l655 y655 z655 st655 hQ655
      obtain ⟨rfl, Nq655, eq655⟩ := hQ655
      obtain ⟨L655, X655, N655⟩ := own_absC (K := 8) (K' := 14) X655 l655 y655 z655 N646 Nq655
      have e655 : T655.heap = T646.heap := eq655
      refine own_go (B := (T655.setTop (mkF m 142 #[iv p0, iv p1, iv p2, iv p3, iv p4, iv p5, iv (3 : Int32), iv (1 : Int32), rv a1, rv a4, rv a9, rv a16, rv a25, rv a36, rv a105, .unset, .unset, .unset, .unset, .unset, .unset, .unset, .unset, .unset, .unset] [(.int (own_min (1 : Int32) (3 : Int32)))]))) st655 ?_
      rw [show own_min (1 : Int32) (3 : Int32) = (1 : Int32) from by decide]
      refine own_go (B := (T655.setTop (mkF m 144 #[iv p0, iv p1, iv p2, iv p3, iv p4, iv p5, iv (3 : Int32), iv (1 : Int32), rv a1, rv a4, rv a9, rv a16, rv a25, rv a36, rv a105, iv (1 : Int32), .unset, .unset, .unset, .unset, .unset, .unset, .unset, .unset, .unset] []))) (fun t k => XS.istore X655.here hx rfl (hb hby at_142) rfl (l' := #[iv p0, iv p1, iv p2, iv p3, iv p4, iv p5, iv (3 : Int32), iv (1 : Int32), rv a1, rv a4, rv a9, rv a16, rv a25, rv a36, rv a105, iv (1 : Int32), .unset, .unset, .unset, .unset, .unset, .unset, .unset, .unset, .unset]) rfl k) ?_
      exact J1 T655 _ T646.heap X655 e655 N655 F647 F648 F649 Ex646 gk646 gc646 gv646 F654 _
    · refine own_go (B := (T121.setTop (mkF m 86 #[iv p0, iv p1, iv p2, iv p3, iv p4, iv p5, iv (3 : Int32), iv (2 : Int32), rv a1, rv a4, rv a9, rv a16, rv a25, rv a36, rv a105, .unset, .unset, .unset, .unset, .unset, .unset, .unset, .unset, .unset, .unset] [(.int (2 : Int32))]))) (fun t k => XS.iload X121.here hx rfl (hb hby at_84) rfl k) ?_
      have hc86 : (0 : Int32) < (2 : Int32) := (by decide)
      refine own_ifN X121 hx (hb hby at_86) (pn := 89) rfl hc86 ?_
      refine own_go (B := (T121.setTop (mkF m 91 #[iv p0, iv p1, iv p2, iv p3, iv p4, iv p5, iv (3 : Int32), iv (2 : Int32), rv a1, rv a4, rv a9, rv a16, rv a25, rv a36, rv a105, .unset, .unset, .unset, .unset, .unset, .unset, .unset, .unset, .unset, .unset] [(.ref a105)]))) (fun t k => XS.aload X121.here hx rfl (hb hby at_89) rfl rfl k) ?_
      refine own_go (B := (T121.setTop (mkF m 93 #[iv p0, iv p1, iv p2, iv p3, iv p4, iv p5, iv (3 : Int32), iv (2 : Int32), rv a1, rv a4, rv a9, rv a16, rv a25, rv a36, rv a105, .unset, .unset, .unset, .unset, .unset, .unset, .unset, .unset, .unset, .unset] [(.ref a1), (.ref a105)]))) (fun t k => XS.aload X121.here hx rfl (hb hby at_91) rfl rfl k) ?_
      obtain ⟨cq656, kq656, qa656, qb656, qc656⟩ := isOf hZ rfl Ex121
      obtain ⟨_, _, ⟨T656, L656, k656, n656⟩, -, X656, ⟨Lc656, hQ656, l656, y656, z656⟩, st656⟩ := X121.virtualBack hx (y := own_y9) (z := own_y9) hown (mvT hZ w_41) (mvT hZ w_42) (notFace_of_selects (args := #[]) (mvT hZ w_44)) (mvT hZ w_44) (mvT hZ w_43) (by decide) (backOf (W := 0) (own_kone l Z a0 hw [] a105 a1 ar121 (0 : Int32) (3 : Int32) (1 : Int32) [.null, .null, .null] [(.ref a1), .null, .null] T121.heap n0 Ex121 gk121 gc121 Vb F122 gn105 gn_ar121 ne_ar121_a105 (own_lenL (n := 3) rfl (by decide)) (by decide) (by decide) (Nat.lt_of_lt_of_eq (by decide : _ < 3) rfl) (by decide) (Ins.of_exa (own_Bn_exa BB (List.mem_of_getElem? (i := 0) rfl)) w_60) rfl) hZ w_45 w_12 (by decide) (by decide)) qa656 qc656 (g := (mkF m 93 #[iv p0, iv p1, iv p2, iv p3, iv p4, iv p5, iv (3 : Int32), iv (2 : Int32), rv a1, rv a4, rv a9, rv a16, rv a25, rv a36, rv a105, .unset, .unset, .unset, .unset, .unset, .unset, .unset, .unset, .unset, .unset] [(.ref a1), (.ref a105)])) rfl (by rw [hml]; rfl) (Steps.refl _) (argsL := [(.ref a1)]) (rest := []) (lenOf own_pd8 rfl) rfl (by show 2 * 0 + _ ≤ _; exact own_b rfl) (hb hby at_93) (fun _ _ => ⟨rfl, rfl, (own_b rfl : 8 + 0 ≤ _), (own_b rfl : 14 + 0 ≤ _)⟩)
      dsimp only [Pt.U, Pt.locs, Pt.cells, Pt.slots] at X656 l656 y656 z656 st656 hQ656
      obtain ⟨rfl, Nq656, K656, Ex656, gk656, gc656, gv656⟩ := hQ656
      obtain ⟨L656, X656, N656⟩ := own_absC (K := 8) (K' := 14) X656 l656 y656 z656 N121 Nq656
      have F657 : n0 ≤ T656.heap.size := Nat.le_trans F122 K656.1
      have F658 := Keep.trans F123 K656 (allS (Or.inr (Nat.le_trans F93.1 (Nat.le_of_eq ga105.symm))) (allS (Or.inr (Nat.le_trans K107.1 gz121)) all0))
      have F659 := own_Ao_keep F134 K656 (ninS (Ne.symm ne105_a36) (ninS (Ne.symm ne_ar121_a36) nin0))
      have F660 := Exa.keep Ex121 K656
      have F664 := own_Bn_keep BB K656 hbq
      refine own_tr (B := (T656.setTop (mkF m 96 #[iv p0, iv p1, iv p2, iv p3, iv p4, iv p5, iv (3 : Int32), iv (2 : Int32), rv a1, rv a4, rv a9, rv a16, rv a25, rv a36, rv a105, .unset, .unset, .unset, .unset, .unset, .unset, .unset, .unset, .unset, .unset] []))) st656 ?_
      refine own_go (B := (T656.setTop (mkF m 98 #[iv p0, iv p1, iv p2, iv p3, iv p4, iv p5, iv (3 : Int32), iv (2 : Int32), rv a1, rv a4, rv a9, rv a16, rv a25, rv a36, rv a105, .unset, .unset, .unset, .unset, .unset, .unset, .unset, .unset, .unset, .unset] [(.int (2 : Int32))]))) (fun t k => XS.iload X656.here hx rfl (hb hby at_96) rfl k) ?_
      refine own_go (B := (T656.setTop (mkF m 99 #[iv p0, iv p1, iv p2, iv p3, iv p4, iv p5, iv (3 : Int32), iv (2 : Int32), rv a1, rv a4, rv a9, rv a16, rv a25, rv a36, rv a105, .unset, .unset, .unset, .unset, .unset, .unset, .unset, .unset, .unset, .unset] [(.int (1 : Int32)), (.int (2 : Int32))]))) (fun t k => own_iconst (v := (1 : Int32)) X656.here hx rfl (hb hby at_98) (by decide) k) ?_
      have hc99 : (1 : Int32) < (2 : Int32) := (by decide)
      refine own_icmpN X656 hx (hb hby at_99) (pn := 102) rfl hc99 ?_
      refine own_go (B := (T656.setTop (mkF m 104 #[iv p0, iv p1, iv p2, iv p3, iv p4, iv p5, iv (3 : Int32), iv (2 : Int32), rv a1, rv a4, rv a9, rv a16, rv a25, rv a36, rv a105, .unset, .unset, .unset, .unset, .unset, .unset, .unset, .unset, .unset, .unset] [(.ref a105)]))) (fun t k => XS.aload X656.here hx rfl (hb hby at_102) rfl rfl k) ?_
      refine own_go (B := (T656.setTop (mkF m 106 #[iv p0, iv p1, iv p2, iv p3, iv p4, iv p5, iv (3 : Int32), iv (2 : Int32), rv a1, rv a4, rv a9, rv a16, rv a25, rv a36, rv a105, .unset, .unset, .unset, .unset, .unset, .unset, .unset, .unset, .unset, .unset] [(.ref a4), (.ref a105)]))) (fun t k => XS.aload X656.here hx rfl (hb hby at_104) rfl rfl k) ?_
      obtain ⟨cq665, kq665, qa665, qb665, qc665⟩ := isOf hZ rfl Ex656
      obtain ⟨_, _, ⟨T665, L665, k665, n665⟩, -, X665, ⟨Lc665, hQ665, l665, y665, z665⟩, st665⟩ := X656.virtualBack hx (y := own_y9) (z := own_y9) hown (mvT hZ w_41) (mvT hZ w_42) (notFace_of_selects (args := #[]) (mvT hZ w_44)) (mvT hZ w_44) (mvT hZ w_43) (by decide) (backOf (W := 0) (own_kone l Z a0 hw [] a105 a4 ar121 (1 : Int32) (3 : Int32) (2 : Int32) [(.ref a1), .null, .null] [(.ref a1), (.ref a4), .null] T656.heap n0 Ex656 gk656 gc656 gv656 F657 gn105 gn_ar121 ne_ar121_a105 (own_lenL (n := 3) rfl (by decide)) (by decide) (by decide) (Nat.lt_of_lt_of_eq (by decide : _ < 3) rfl) (by decide) (Ins.of_exa (own_Bn_exa F664 (List.mem_of_getElem? (i := 1) rfl)) w_60) rfl) hZ w_45 w_12 (by decide) (by decide)) qa665 qc665 (g := (mkF m 106 #[iv p0, iv p1, iv p2, iv p3, iv p4, iv p5, iv (3 : Int32), iv (2 : Int32), rv a1, rv a4, rv a9, rv a16, rv a25, rv a36, rv a105, .unset, .unset, .unset, .unset, .unset, .unset, .unset, .unset, .unset, .unset] [(.ref a4), (.ref a105)])) rfl (by rw [hml]; rfl) (Steps.refl _) (argsL := [(.ref a4)]) (rest := []) (lenOf own_pd8 rfl) rfl (by show 2 * 0 + _ ≤ _; exact own_b rfl) (hb hby at_106) (fun _ _ => ⟨rfl, rfl, (own_b rfl : 8 + 0 ≤ _), (own_b rfl : 14 + 0 ≤ _)⟩)
      dsimp only [Pt.U, Pt.locs, Pt.cells, Pt.slots] at X665 l665 y665 z665 st665 hQ665
      obtain ⟨rfl, Nq665, K665, Ex665, gk665, gc665, gv665⟩ := hQ665
      obtain ⟨L665, X665, N665⟩ := own_absC (K := 8) (K' := 14) X665 l665 y665 z665 N656 Nq665
      have F666 : n0 ≤ T665.heap.size := Nat.le_trans F657 K665.1
      have F667 := Keep.trans F658 K665 (allS (Or.inr (Nat.le_trans F93.1 (Nat.le_of_eq ga105.symm))) (allS (Or.inr (Nat.le_trans K107.1 gz121)) all0))
      have F668 := own_Ao_keep F659 K665 (ninS (Ne.symm ne105_a36) (ninS (Ne.symm ne_ar121_a36) nin0))
      have F669 := Exa.keep Ex656 K665
      have F670 := own_Bn_keep F664 K665 hbq
      refine own_tr (B := (T665.setTop (mkF m 109 #[iv p0, iv p1, iv p2, iv p3, iv p4, iv p5, iv (3 : Int32), iv (2 : Int32), rv a1, rv a4, rv a9, rv a16, rv a25, rv a36, rv a105, .unset, .unset, .unset, .unset, .unset, .unset, .unset, .unset, .unset, .unset] []))) st665 ?_
      refine own_go (B := (T665.setTop (mkF m 111 #[iv p0, iv p1, iv p2, iv p3, iv p4, iv p5, iv (3 : Int32), iv (2 : Int32), rv a1, rv a4, rv a9, rv a16, rv a25, rv a36, rv a105, .unset, .unset, .unset, .unset, .unset, .unset, .unset, .unset, .unset, .unset] [(.int (2 : Int32))]))) (fun t k => XS.iload X665.here hx rfl (hb hby at_109) rfl k) ?_
      refine own_go (B := (T665.setTop (mkF m 112 #[iv p0, iv p1, iv p2, iv p3, iv p4, iv p5, iv (3 : Int32), iv (2 : Int32), rv a1, rv a4, rv a9, rv a16, rv a25, rv a36, rv a105, .unset, .unset, .unset, .unset, .unset, .unset, .unset, .unset, .unset, .unset] [(.int (2 : Int32)), (.int (2 : Int32))]))) (fun t k => own_iconst (v := (2 : Int32)) X665.here hx rfl (hb hby at_111) (by decide) k) ?_
      have hc112 : ¬ (2 : Int32) < (2 : Int32) := (by decide)
      refine own_icmpY X665 hx (hb hby at_112) (pc' := 122) (by decide) (by decide) hc112 ?_
      refine own_go (B := (T665.setTop (mkF m 124 #[iv p0, iv p1, iv p2, iv p3, iv p4, iv p5, iv (3 : Int32), iv (2 : Int32), rv a1, rv a4, rv a9, rv a16, rv a25, rv a36, rv a105, .unset, .unset, .unset, .unset, .unset, .unset, .unset, .unset, .unset, .unset] [(.int (2 : Int32))]))) (fun t k => XS.iload X665.here hx rfl (hb hby at_122) rfl k) ?_
      refine own_go (B := (T665.setTop (mkF m 125 #[iv p0, iv p1, iv p2, iv p3, iv p4, iv p5, iv (3 : Int32), iv (2 : Int32), rv a1, rv a4, rv a9, rv a16, rv a25, rv a36, rv a105, .unset, .unset, .unset, .unset, .unset, .unset, .unset, .unset, .unset, .unset] [(.int (3 : Int32)), (.int (2 : Int32))]))) (fun t k => own_iconst (v := (3 : Int32)) X665.here hx rfl (hb hby at_124) (by decide) k) ?_
      have hc125 : ¬ (3 : Int32) < (2 : Int32) := (by decide)
      refine own_icmpY X665 hx (hb hby at_125) (pc' := 135) (by decide) (by decide) hc125 ?_
      refine own_go (B := (T665.setTop (mkF m 137 #[iv p0, iv p1, iv p2, iv p3, iv p4, iv p5, iv (3 : Int32), iv (2 : Int32), rv a1, rv a4, rv a9, rv a16, rv a25, rv a36, rv a105, .unset, .unset, .unset, .unset, .unset, .unset, .unset, .unset, .unset, .unset] [(.int (2 : Int32))]))) (fun t k => XS.iload X665.here hx rfl (hb hby at_135) rfl k) ?_
      refine own_go (B := (T665.setTop (mkF m 139 #[iv p0, iv p1, iv p2, iv p3, iv p4, iv p5, iv (3 : Int32), iv (2 : Int32), rv a1, rv a4, rv a9, rv a16, rv a25, rv a36, rv a105, .unset, .unset, .unset, .unset, .unset, .unset, .unset, .unset, .unset, .unset] [(.int (3 : Int32)), (.int (2 : Int32))]))) (fun t k => XS.iload X665.here hx rfl (hb hby at_137) rfl k) ?_
      obtain ⟨_, _, ⟨T674, L674, k674, n674⟩, -, X674, ⟨Lc674, hQ674, l674, y674, z674⟩, st674⟩ := Jvm.LawKit.callS X665 hx (y := own_y10) hown (mvT hZ w_23) (mvT hZ w_24) (mvT hZ w_25) (mvT hZ w_26) (by decide) (backOf (W := 0) (own_mmin l Z a0 hw [] (2 : Int32) (3 : Int32) T665.heap n0) hZ w_26 w_25 (by decide) (by decide)) (g := (mkF m 139 #[iv p0, iv p1, iv p2, iv p3, iv p4, iv p5, iv (3 : Int32), iv (2 : Int32), rv a1, rv a4, rv a9, rv a16, rv a25, rv a36, rv a105, .unset, .unset, .unset, .unset, .unset, .unset, .unset, .unset, .unset, .unset] [(.int (3 : Int32)), (.int (2 : Int32))])) rfl (by rw [hml]; rfl) (argsL := [(.int (2 : Int32)), (.int (3 : Int32))]) (rest := []) (lenOf own_pd7 rfl) rfl (by show 2 * 0 + _ ≤ _; exact own_b rfl) (hb hby at_139) (fun _ _ => ⟨rfl, rfl, (own_b rfl : 8 + 0 ≤ _), (own_b rfl : 14 + 0 ≤ _)⟩)
      dsimp only [Pt.U, Pt.locs, Pt.cells, Pt.slots] at X674 l674 y674 z674 st674 hQ674
      obtain ⟨rfl, Nq674, eq674⟩ := hQ674
      obtain ⟨L674, X674, N674⟩ := own_absC (K := 8) (K' := 14) X674 l674 y674 z674 N665 Nq674
      have e674 : T674.heap = T665.heap := eq674
      refine own_go (B := (T674.setTop (mkF m 142 #[iv p0, iv p1, iv p2, iv p3, iv p4, iv p5, iv (3 : Int32), iv (2 : Int32), rv a1, rv a4, rv a9, rv a16, rv a25, rv a36, rv a105, .unset, .unset, .unset, .unset, .unset, .unset, .unset, .unset, .unset, .unset] [(.int (own_min (2 : Int32) (3 : Int32)))]))) st674 ?_
      rw [show own_min (2 : Int32) (3 : Int32) = (2 : Int32) from by decide]
      refine own_go (B := (T674.setTop (mkF m 144 #[iv p0, iv p1, iv p2, iv p3, iv p4, iv p5, iv (3 : Int32), iv (2 : Int32), rv a1, rv a4, rv a9, rv a16, rv a25, rv a36, rv a105, iv (2 : Int32), .unset, .unset, .unset, .unset, .unset, .unset, .unset, .unset, .unset] []))) (fun t k => XS.istore X674.here hx rfl (hb hby at_142) rfl (l' := #[iv p0, iv p1, iv p2, iv p3, iv p4, iv p5, iv (3 : Int32), iv (2 : Int32), rv a1, rv a4, rv a9, rv a16, rv a25, rv a36, rv a105, iv (2 : Int32), .unset, .unset, .unset, .unset, .unset, .unset, .unset, .unset, .unset]) rfl k) ?_
      exact J2 T674 _ T665.heap X674 e674 N674 F666 F667 F668 Ex665 gk665 gc665 gv665 F670 _
    · refine own_go (B := (T121.setTop (mkF m 86 #[iv p0, iv p1, iv p2, iv p3, iv p4, iv p5, iv (3 : Int32), iv (3 : Int32), rv a1, rv a4, rv a9, rv a16, rv a25, rv a36, rv a105, .unset, .unset, .unset, .unset, .unset, .unset, .unset, .unset, .unset, .unset] [(.int (3 : Int32))]))) (fun t k => XS.iload X121.here hx rfl (hb hby at_84) rfl k) ?_
      have hc86 : (0 : Int32) < (3 : Int32) := (by decide)
      refine own_ifN X121 hx (hb hby at_86) (pn := 89) rfl hc86 ?_
      refine own_go (B := (T121.setTop (mkF m 91 #[iv p0, iv p1, iv p2, iv p3, iv p4, iv p5, iv (3 : Int32), iv (3 : Int32), rv a1, rv a4, rv a9, rv a16, rv a25, rv a36, rv a105, .unset, .unset, .unset, .unset, .unset, .unset, .unset, .unset, .unset, .unset] [(.ref a105)]))) (fun t k => XS.aload X121.here hx rfl (hb hby at_89) rfl rfl k) ?_
      refine own_go (B := (T121.setTop (mkF m 93 #[iv p0, iv p1, iv p2, iv p3, iv p4, iv p5, iv (3 : Int32), iv (3 : Int32), rv a1, rv a4, rv a9, rv a16, rv a25, rv a36, rv a105, .unset, .unset, .unset, .unset, .unset, .unset, .unset, .unset, .unset, .unset] [(.ref a1), (.ref a105)]))) (fun t k => XS.aload X121.here hx rfl (hb hby at_91) rfl rfl k) ?_
      obtain ⟨cq675, kq675, qa675, qb675, qc675⟩ := isOf hZ rfl Ex121
      obtain ⟨_, _, ⟨T675, L675, k675, n675⟩, -, X675, ⟨Lc675, hQ675, l675, y675, z675⟩, st675⟩ := X121.virtualBack hx (y := own_y9) (z := own_y9) hown (mvT hZ w_41) (mvT hZ w_42) (notFace_of_selects (args := #[]) (mvT hZ w_44)) (mvT hZ w_44) (mvT hZ w_43) (by decide) (backOf (W := 0) (own_kone l Z a0 hw [] a105 a1 ar121 (0 : Int32) (3 : Int32) (1 : Int32) [.null, .null, .null] [(.ref a1), .null, .null] T121.heap n0 Ex121 gk121 gc121 Vb F122 gn105 gn_ar121 ne_ar121_a105 (own_lenL (n := 3) rfl (by decide)) (by decide) (by decide) (Nat.lt_of_lt_of_eq (by decide : _ < 3) rfl) (by decide) (Ins.of_exa (own_Bn_exa BB (List.mem_of_getElem? (i := 0) rfl)) w_60) rfl) hZ w_45 w_12 (by decide) (by decide)) qa675 qc675 (g := (mkF m 93 #[iv p0, iv p1, iv p2, iv p3, iv p4, iv p5, iv (3 : Int32), iv (3 : Int32), rv a1, rv a4, rv a9, rv a16, rv a25, rv a36, rv a105, .unset, .unset, .unset, .unset, .unset, .unset, .unset, .unset, .unset, .unset] [(.ref a1), (.ref a105)])) rfl (by rw [hml]; rfl) (Steps.refl _) (argsL := [(.ref a1)]) (rest := []) (lenOf own_pd8 rfl) rfl (by show 2 * 0 + _ ≤ _; exact own_b rfl) (hb hby at_93) (fun _ _ => ⟨rfl, rfl, (own_b rfl : 8 + 0 ≤ _), (own_b rfl : 14 + 0 ≤ _)⟩)
      dsimp only [Pt.U, Pt.locs, Pt.cells, Pt.slots] at X675 l675 y675 z675 st675 hQ675
      obtain ⟨rfl, Nq675, K675, Ex675, gk675, gc675, gv675⟩ := hQ675
      obtain ⟨L675, X675, N675⟩ := own_absC (K := 8) (K' := 14) X675 l675 y675 z675 N121 Nq675
      have F676 : n0 ≤ T675.heap.size := Nat.le_trans F122 K675.1
      have F677 := Keep.trans F123 K675 (allS (Or.inr (Nat.le_trans F93.1 (Nat.le_of_eq ga105.symm))) (allS (Or.inr (Nat.le_trans K107.1 gz121)) all0))
      have F678 := own_Ao_keep F134 K675 (ninS (Ne.symm ne105_a36) (ninS (Ne.symm ne_ar121_a36) nin0))
      have F679 := Exa.keep Ex121 K675
      have F683 := own_Bn_keep BB K675 hbq
      refine own_tr (B := (T675.setTop (mkF m 96 #[iv p0, iv p1, iv p2, iv p3, iv p4, iv p5, iv (3 : Int32), iv (3 : Int32), rv a1, rv a4, rv a9, rv a16, rv a25, rv a36, rv a105, .unset, .unset, .unset, .unset, .unset, .unset, .unset, .unset, .unset, .unset] []))) st675 ?_
      refine own_go (B := (T675.setTop (mkF m 98 #[iv p0, iv p1, iv p2, iv p3, iv p4, iv p5, iv (3 : Int32), iv (3 : Int32), rv a1, rv a4, rv a9, rv a16, rv a25, rv a36, rv a105, .unset, .unset, .unset, .unset, .unset, .unset, .unset, .unset, .unset, .unset] [(.int (3 : Int32))]))) (fun t k => XS.iload X675.here hx rfl (hb hby at_96) rfl k) ?_
      refine own_go (B := (T675.setTop (mkF m 99 #[iv p0, iv p1, iv p2, iv p3, iv p4, iv p5, iv (3 : Int32), iv (3 : Int32), rv a1, rv a4, rv a9, rv a16, rv a25, rv a36, rv a105, .unset, .unset, .unset, .unset, .unset, .unset, .unset, .unset, .unset, .unset] [(.int (1 : Int32)), (.int (3 : Int32))]))) (fun t k => own_iconst (v := (1 : Int32)) X675.here hx rfl (hb hby at_98) (by decide) k) ?_
      have hc99 : (1 : Int32) < (3 : Int32) := (by decide)
      refine own_icmpN X675 hx (hb hby at_99) (pn := 102) rfl hc99 ?_
      refine own_go (B := (T675.setTop (mkF m 104 #[iv p0, iv p1, iv p2, iv p3, iv p4, iv p5, iv (3 : Int32), iv (3 : Int32), rv a1, rv a4, rv a9, rv a16, rv a25, rv a36, rv a105, .unset, .unset, .unset, .unset, .unset, .unset, .unset, .unset, .unset, .unset] [(.ref a105)]))) (fun t k => XS.aload X675.here hx rfl (hb hby at_102) rfl rfl k) ?_
      refine own_go (B := (T675.setTop (mkF m 106 #[iv p0, iv p1, iv p2, iv p3, iv p4, iv p5, iv (3 : Int32), iv (3 : Int32), rv a1, rv a4, rv a9, rv a16, rv a25, rv a36, rv a105, .unset, .unset, .unset, .unset, .unset, .unset, .unset, .unset, .unset, .unset] [(.ref a4), (.ref a105)]))) (fun t k => XS.aload X675.here hx rfl (hb hby at_104) rfl rfl k) ?_
      obtain ⟨cq684, kq684, qa684, qb684, qc684⟩ := isOf hZ rfl Ex675
      obtain ⟨_, _, ⟨T684, L684, k684, n684⟩, -, X684, ⟨Lc684, hQ684, l684, y684, z684⟩, st684⟩ := X675.virtualBack hx (y := own_y9) (z := own_y9) hown (mvT hZ w_41) (mvT hZ w_42) (notFace_of_selects (args := #[]) (mvT hZ w_44)) (mvT hZ w_44) (mvT hZ w_43) (by decide) (backOf (W := 0) (own_kone l Z a0 hw [] a105 a4 ar121 (1 : Int32) (3 : Int32) (2 : Int32) [(.ref a1), .null, .null] [(.ref a1), (.ref a4), .null] T675.heap n0 Ex675 gk675 gc675 gv675 F676 gn105 gn_ar121 ne_ar121_a105 (own_lenL (n := 3) rfl (by decide)) (by decide) (by decide) (Nat.lt_of_lt_of_eq (by decide : _ < 3) rfl) (by decide) (Ins.of_exa (own_Bn_exa F683 (List.mem_of_getElem? (i := 1) rfl)) w_60) rfl) hZ w_45 w_12 (by decide) (by decide)) qa684 qc684 (g := (mkF m 106 #[iv p0, iv p1, iv p2, iv p3, iv p4, iv p5, iv (3 : Int32), iv (3 : Int32), rv a1, rv a4, rv a9, rv a16, rv a25, rv a36, rv a105, .unset, .unset, .unset, .unset, .unset, .unset, .unset, .unset, .unset, .unset] [(.ref a4), (.ref a105)])) rfl (by rw [hml]; rfl) (Steps.refl _) (argsL := [(.ref a4)]) (rest := []) (lenOf own_pd8 rfl) rfl (by show 2 * 0 + _ ≤ _; exact own_b rfl) (hb hby at_106) (fun _ _ => ⟨rfl, rfl, (own_b rfl : 8 + 0 ≤ _), (own_b rfl : 14 + 0 ≤ _)⟩)
      dsimp only [Pt.U, Pt.locs, Pt.cells, Pt.slots] at X684 l684 y684 z684 st684 hQ684
      obtain ⟨rfl, Nq684, K684, Ex684, gk684, gc684, gv684⟩ := hQ684
      obtain ⟨L684, X684, N684⟩ := own_absC (K := 8) (K' := 14) X684 l684 y684 z684 N675 Nq684
      have F685 : n0 ≤ T684.heap.size := Nat.le_trans F676 K684.1
      have F686 := Keep.trans F677 K684 (allS (Or.inr (Nat.le_trans F93.1 (Nat.le_of_eq ga105.symm))) (allS (Or.inr (Nat.le_trans K107.1 gz121)) all0))
      have F687 := own_Ao_keep F678 K684 (ninS (Ne.symm ne105_a36) (ninS (Ne.symm ne_ar121_a36) nin0))
      have F688 := Exa.keep Ex675 K684
      have F689 := own_Bn_keep F683 K684 hbq
      refine own_tr (B := (T684.setTop (mkF m 109 #[iv p0, iv p1, iv p2, iv p3, iv p4, iv p5, iv (3 : Int32), iv (3 : Int32), rv a1, rv a4, rv a9, rv a16, rv a25, rv a36, rv a105, .unset, .unset, .unset, .unset, .unset, .unset, .unset, .unset, .unset, .unset] []))) st684 ?_
      refine own_go (B := (T684.setTop (mkF m 111 #[iv p0, iv p1, iv p2, iv p3, iv p4, iv p5, iv (3 : Int32), iv (3 : Int32), rv a1, rv a4, rv a9, rv a16, rv a25, rv a36, rv a105, .unset, .unset, .unset, .unset, .unset, .unset, .unset, .unset, .unset, .unset] [(.int (3 : Int32))]))) (fun t k => XS.iload X684.here hx rfl (hb hby at_109) rfl k) ?_
      refine own_go (B := (T684.setTop (mkF m 112 #[iv p0, iv p1, iv p2, iv p3, iv p4, iv p5, iv (3 : Int32), iv (3 : Int32), rv a1, rv a4, rv a9, rv a16, rv a25, rv a36, rv a105, .unset, .unset, .unset, .unset, .unset, .unset, .unset, .unset, .unset, .unset] [(.int (2 : Int32)), (.int (3 : Int32))]))) (fun t k => own_iconst (v := (2 : Int32)) X684.here hx rfl (hb hby at_111) (by decide) k) ?_
      have hc112 : (2 : Int32) < (3 : Int32) := (by decide)
      refine own_icmpN X684 hx (hb hby at_112) (pn := 115) rfl hc112 ?_
      refine own_go (B := (T684.setTop (mkF m 117 #[iv p0, iv p1, iv p2, iv p3, iv p4, iv p5, iv (3 : Int32), iv (3 : Int32), rv a1, rv a4, rv a9, rv a16, rv a25, rv a36, rv a105, .unset, .unset, .unset, .unset, .unset, .unset, .unset, .unset, .unset, .unset] [(.ref a105)]))) (fun t k => XS.aload X684.here hx rfl (hb hby at_115) rfl rfl k) ?_
      refine own_go (B := (T684.setTop (mkF m 119 #[iv p0, iv p1, iv p2, iv p3, iv p4, iv p5, iv (3 : Int32), iv (3 : Int32), rv a1, rv a4, rv a9, rv a16, rv a25, rv a36, rv a105, .unset, .unset, .unset, .unset, .unset, .unset, .unset, .unset, .unset, .unset] [(.ref a9), (.ref a105)]))) (fun t k => XS.aload X684.here hx rfl (hb hby at_117) rfl rfl k) ?_
      obtain ⟨cq693, kq693, qa693, qb693, qc693⟩ := isOf hZ rfl Ex684
      obtain ⟨_, _, ⟨T693, L693, k693, n693⟩, -, X693, ⟨Lc693, hQ693, l693, y693, z693⟩, st693⟩ := X684.virtualBack hx (y := own_y9) (z := own_y9) hown (mvT hZ w_41) (mvT hZ w_42) (notFace_of_selects (args := #[]) (mvT hZ w_44)) (mvT hZ w_44) (mvT hZ w_43) (by decide) (backOf (W := 0) (own_kone l Z a0 hw [] a105 a9 ar121 (2 : Int32) (3 : Int32) (3 : Int32) [(.ref a1), (.ref a4), .null] [(.ref a1), (.ref a4), (.ref a9)] T684.heap n0 Ex684 gk684 gc684 gv684 F685 gn105 gn_ar121 ne_ar121_a105 (own_lenL (n := 3) rfl (by decide)) (by decide) (by decide) (Nat.lt_of_lt_of_eq (by decide : _ < 3) rfl) (by decide) (Ins.of_exa (own_Bn_exa F689 (List.mem_of_getElem? (i := 2) rfl)) w_60) rfl) hZ w_45 w_12 (by decide) (by decide)) qa693 qc693 (g := (mkF m 119 #[iv p0, iv p1, iv p2, iv p3, iv p4, iv p5, iv (3 : Int32), iv (3 : Int32), rv a1, rv a4, rv a9, rv a16, rv a25, rv a36, rv a105, .unset, .unset, .unset, .unset, .unset, .unset, .unset, .unset, .unset, .unset] [(.ref a9), (.ref a105)])) rfl (by rw [hml]; rfl) (Steps.refl _) (argsL := [(.ref a9)]) (rest := []) (lenOf own_pd8 rfl) rfl (by show 2 * 0 + _ ≤ _; exact own_b rfl) (hb hby at_119) (fun _ _ => ⟨rfl, rfl, (own_b rfl : 8 + 0 ≤ _), (own_b rfl : 14 + 0 ≤ _)⟩)
      dsimp only [Pt.U, Pt.locs, Pt.cells, Pt.slots] at X693 l693 y693 z693 st693 hQ693
      obtain ⟨rfl, Nq693, K693, Ex693, gk693, gc693, gv693⟩ := hQ693
      obtain ⟨L693, X693, N693⟩ := own_absC (K := 8) (K' := 14) X693 l693 y693 z693 N684 Nq693
      have F694 : n0 ≤ T693.heap.size := Nat.le_trans F685 K693.1
      have F695 := Keep.trans F686 K693 (allS (Or.inr (Nat.le_trans F93.1 (Nat.le_of_eq ga105.symm))) (allS (Or.inr (Nat.le_trans K107.1 gz121)) all0))
      have F696 := own_Ao_keep F687 K693 (ninS (Ne.symm ne105_a36) (ninS (Ne.symm ne_ar121_a36) nin0))
      have F697 := Exa.keep Ex684 K693
      have F698 := own_Bn_keep F689 K693 hbq
      refine own_tr (B := (T693.setTop (mkF m 122 #[iv p0, iv p1, iv p2, iv p3, iv p4, iv p5, iv (3 : Int32), iv (3 : Int32), rv a1, rv a4, rv a9, rv a16, rv a25, rv a36, rv a105, .unset, .unset, .unset, .unset, .unset, .unset, .unset, .unset, .unset, .unset] []))) st693 ?_
      refine own_go (B := (T693.setTop (mkF m 124 #[iv p0, iv p1, iv p2, iv p3, iv p4, iv p5, iv (3 : Int32), iv (3 : Int32), rv a1, rv a4, rv a9, rv a16, rv a25, rv a36, rv a105, .unset, .unset, .unset, .unset, .unset, .unset, .unset, .unset, .unset, .unset] [(.int (3 : Int32))]))) (fun t k => XS.iload X693.here hx rfl (hb hby at_122) rfl k) ?_
      refine own_go (B := (T693.setTop (mkF m 125 #[iv p0, iv p1, iv p2, iv p3, iv p4, iv p5, iv (3 : Int32), iv (3 : Int32), rv a1, rv a4, rv a9, rv a16, rv a25, rv a36, rv a105, .unset, .unset, .unset, .unset, .unset, .unset, .unset, .unset, .unset, .unset] [(.int (3 : Int32)), (.int (3 : Int32))]))) (fun t k => own_iconst (v := (3 : Int32)) X693.here hx rfl (hb hby at_124) (by decide) k) ?_
      have hc125 : ¬ (3 : Int32) < (3 : Int32) := (by decide)
      refine own_icmpY X693 hx (hb hby at_125) (pc' := 135) (by decide) (by decide) hc125 ?_
      refine own_go (B := (T693.setTop (mkF m 137 #[iv p0, iv p1, iv p2, iv p3, iv p4, iv p5, iv (3 : Int32), iv (3 : Int32), rv a1, rv a4, rv a9, rv a16, rv a25, rv a36, rv a105, .unset, .unset, .unset, .unset, .unset, .unset, .unset, .unset, .unset, .unset] [(.int (3 : Int32))]))) (fun t k => XS.iload X693.here hx rfl (hb hby at_135) rfl k) ?_
      refine own_go (B := (T693.setTop (mkF m 139 #[iv p0, iv p1, iv p2, iv p3, iv p4, iv p5, iv (3 : Int32), iv (3 : Int32), rv a1, rv a4, rv a9, rv a16, rv a25, rv a36, rv a105, .unset, .unset, .unset, .unset, .unset, .unset, .unset, .unset, .unset, .unset] [(.int (3 : Int32)), (.int (3 : Int32))]))) (fun t k => XS.iload X693.here hx rfl (hb hby at_137) rfl k) ?_
      obtain ⟨_, _, ⟨T702, L702, k702, n702⟩, -, X702, ⟨Lc702, hQ702, l702, y702, z702⟩, st702⟩ := Jvm.LawKit.callS X693 hx (y := own_y10) hown (mvT hZ w_23) (mvT hZ w_24) (mvT hZ w_25) (mvT hZ w_26) (by decide) (backOf (W := 0) (own_mmin l Z a0 hw [] (3 : Int32) (3 : Int32) T693.heap n0) hZ w_26 w_25 (by decide) (by decide)) (g := (mkF m 139 #[iv p0, iv p1, iv p2, iv p3, iv p4, iv p5, iv (3 : Int32), iv (3 : Int32), rv a1, rv a4, rv a9, rv a16, rv a25, rv a36, rv a105, .unset, .unset, .unset, .unset, .unset, .unset, .unset, .unset, .unset, .unset] [(.int (3 : Int32)), (.int (3 : Int32))])) rfl (by rw [hml]; rfl) (argsL := [(.int (3 : Int32)), (.int (3 : Int32))]) (rest := []) (lenOf own_pd7 rfl) rfl (by show 2 * 0 + _ ≤ _; exact own_b rfl) (hb hby at_139) (fun _ _ => ⟨rfl, rfl, (own_b rfl : 8 + 0 ≤ _), (own_b rfl : 14 + 0 ≤ _)⟩)
      dsimp only [Pt.U, Pt.locs, Pt.cells, Pt.slots] at X702 l702 y702 z702 st702 hQ702
      obtain ⟨rfl, Nq702, eq702⟩ := hQ702
      obtain ⟨L702, X702, N702⟩ := own_absC (K := 8) (K' := 14) X702 l702 y702 z702 N693 Nq702
      have e702 : T702.heap = T693.heap := eq702
      refine own_go (B := (T702.setTop (mkF m 142 #[iv p0, iv p1, iv p2, iv p3, iv p4, iv p5, iv (3 : Int32), iv (3 : Int32), rv a1, rv a4, rv a9, rv a16, rv a25, rv a36, rv a105, .unset, .unset, .unset, .unset, .unset, .unset, .unset, .unset, .unset, .unset] [(.int (own_min (3 : Int32) (3 : Int32)))]))) st702 ?_
      rw [show own_min (3 : Int32) (3 : Int32) = (3 : Int32) from by decide]
      refine own_go (B := (T702.setTop (mkF m 144 #[iv p0, iv p1, iv p2, iv p3, iv p4, iv p5, iv (3 : Int32), iv (3 : Int32), rv a1, rv a4, rv a9, rv a16, rv a25, rv a36, rv a105, iv (3 : Int32), .unset, .unset, .unset, .unset, .unset, .unset, .unset, .unset, .unset] []))) (fun t k => XS.istore X702.here hx rfl (hb hby at_142) rfl (l' := #[iv p0, iv p1, iv p2, iv p3, iv p4, iv p5, iv (3 : Int32), iv (3 : Int32), rv a1, rv a4, rv a9, rv a16, rv a25, rv a36, rv a105, iv (3 : Int32), .unset, .unset, .unset, .unset, .unset, .unset, .unset, .unset, .unset]) rfl k) ?_
      exact J3 T702 _ T693.heap X702 e702 N702 F694 F695 F696 Ex693 gk693 gc693 gv693 F698 _
    · refine own_go (B := (T121.setTop (mkF m 86 #[iv p0, iv p1, iv p2, iv p3, iv p4, iv p5, iv (3 : Int32), iv (4 : Int32), rv a1, rv a4, rv a9, rv a16, rv a25, rv a36, rv a105, .unset, .unset, .unset, .unset, .unset, .unset, .unset, .unset, .unset, .unset] [(.int (4 : Int32))]))) (fun t k => XS.iload X121.here hx rfl (hb hby at_84) rfl k) ?_
      have hc86 : (0 : Int32) < (4 : Int32) := (by decide)
      refine own_ifN X121 hx (hb hby at_86) (pn := 89) rfl hc86 ?_
      refine own_go (B := (T121.setTop (mkF m 91 #[iv p0, iv p1, iv p2, iv p3, iv p4, iv p5, iv (3 : Int32), iv (4 : Int32), rv a1, rv a4, rv a9, rv a16, rv a25, rv a36, rv a105, .unset, .unset, .unset, .unset, .unset, .unset, .unset, .unset, .unset, .unset] [(.ref a105)]))) (fun t k => XS.aload X121.here hx rfl (hb hby at_89) rfl rfl k) ?_
      refine own_go (B := (T121.setTop (mkF m 93 #[iv p0, iv p1, iv p2, iv p3, iv p4, iv p5, iv (3 : Int32), iv (4 : Int32), rv a1, rv a4, rv a9, rv a16, rv a25, rv a36, rv a105, .unset, .unset, .unset, .unset, .unset, .unset, .unset, .unset, .unset, .unset] [(.ref a1), (.ref a105)]))) (fun t k => XS.aload X121.here hx rfl (hb hby at_91) rfl rfl k) ?_
      obtain ⟨cq703, kq703, qa703, qb703, qc703⟩ := isOf hZ rfl Ex121
      obtain ⟨_, _, ⟨T703, L703, k703, n703⟩, -, X703, ⟨Lc703, hQ703, l703, y703, z703⟩, st703⟩ := X121.virtualBack hx (y := own_y9) (z := own_y9) hown (mvT hZ w_41) (mvT hZ w_42) (notFace_of_selects (args := #[]) (mvT hZ w_44)) (mvT hZ w_44) (mvT hZ w_43) (by decide) (backOf (W := 0) (own_kone l Z a0 hw [] a105 a1 ar121 (0 : Int32) (3 : Int32) (1 : Int32) [.null, .null, .null] [(.ref a1), .null, .null] T121.heap n0 Ex121 gk121 gc121 Vb F122 gn105 gn_ar121 ne_ar121_a105 (own_lenL (n := 3) rfl (by decide)) (by decide) (by decide) (Nat.lt_of_lt_of_eq (by decide : _ < 3) rfl) (by decide) (Ins.of_exa (own_Bn_exa BB (List.mem_of_getElem? (i := 0) rfl)) w_60) rfl) hZ w_45 w_12 (by decide) (by decide)) qa703 qc703 (g := (mkF m 93 #[iv p0, iv p1, iv p2, iv p3, iv p4, iv p5, iv (3 : Int32), iv (4 : Int32), rv a1, rv a4, rv a9, rv a16, rv a25, rv a36, rv a105, .unset, .unset, .unset, .unset, .unset, .unset, .unset, .unset, .unset, .unset] [(.ref a1), (.ref a105)])) rfl (by rw [hml]; rfl) (Steps.refl _) (argsL := [(.ref a1)]) (rest := []) (lenOf own_pd8 rfl) rfl (by show 2 * 0 + _ ≤ _; exact own_b rfl) (hb hby at_93) (fun _ _ => ⟨rfl, rfl, (own_b rfl : 8 + 0 ≤ _), (own_b rfl : 14 + 0 ≤ _)⟩)
      dsimp only [Pt.U, Pt.locs, Pt.cells, Pt.slots] at X703 l703 y703 z703 st703 hQ703
      obtain ⟨rfl, Nq703, K703, Ex703, gk703, gc703, gv703⟩ := hQ703
      obtain ⟨L703, X703, N703⟩ := own_absC (K := 8) (K' := 14) X703 l703 y703 z703 N121 Nq703
      have F704 : n0 ≤ T703.heap.size := Nat.le_trans F122 K703.1
      have F705 := Keep.trans F123 K703 (allS (Or.inr (Nat.le_trans F93.1 (Nat.le_of_eq ga105.symm))) (allS (Or.inr (Nat.le_trans K107.1 gz121)) all0))
      have F706 := own_Ao_keep F134 K703 (ninS (Ne.symm ne105_a36) (ninS (Ne.symm ne_ar121_a36) nin0))
      have F707 := Exa.keep Ex121 K703
      have F711 := own_Bn_keep BB K703 hbq
      refine own_tr (B := (T703.setTop (mkF m 96 #[iv p0, iv p1, iv p2, iv p3, iv p4, iv p5, iv (3 : Int32), iv (4 : Int32), rv a1, rv a4, rv a9, rv a16, rv a25, rv a36, rv a105, .unset, .unset, .unset, .unset, .unset, .unset, .unset, .unset, .unset, .unset] []))) st703 ?_
      refine own_go (B := (T703.setTop (mkF m 98 #[iv p0, iv p1, iv p2, iv p3, iv p4, iv p5, iv (3 : Int32), iv (4 : Int32), rv a1, rv a4, rv a9, rv a16, rv a25, rv a36, rv a105, .unset, .unset, .unset, .unset, .unset, .unset, .unset, .unset, .unset, .unset] [(.int (4 : Int32))]))) (fun t k => XS.iload X703.here hx rfl (hb hby at_96) rfl k) ?_
      refine own_go (B := (T703.setTop (mkF m 99 #[iv p0, iv p1, iv p2, iv p3, iv p4, iv p5, iv (3 : Int32), iv (4 : Int32), rv a1, rv a4, rv a9, rv a16, rv a25, rv a36, rv a105, .unset, .unset, .unset, .unset, .unset, .unset, .unset, .unset, .unset, .unset] [(.int (1 : Int32)), (.int (4 : Int32))]))) (fun t k => own_iconst (v := (1 : Int32)) X703.here hx rfl (hb hby at_98) (by decide) k) ?_
      have hc99 : (1 : Int32) < (4 : Int32) := (by decide)
      refine own_icmpN X703 hx (hb hby at_99) (pn := 102) rfl hc99 ?_
      refine own_go (B := (T703.setTop (mkF m 104 #[iv p0, iv p1, iv p2, iv p3, iv p4, iv p5, iv (3 : Int32), iv (4 : Int32), rv a1, rv a4, rv a9, rv a16, rv a25, rv a36, rv a105, .unset, .unset, .unset, .unset, .unset, .unset, .unset, .unset, .unset, .unset] [(.ref a105)]))) (fun t k => XS.aload X703.here hx rfl (hb hby at_102) rfl rfl k) ?_
      refine own_go (B := (T703.setTop (mkF m 106 #[iv p0, iv p1, iv p2, iv p3, iv p4, iv p5, iv (3 : Int32), iv (4 : Int32), rv a1, rv a4, rv a9, rv a16, rv a25, rv a36, rv a105, .unset, .unset, .unset, .unset, .unset, .unset, .unset, .unset, .unset, .unset] [(.ref a4), (.ref a105)]))) (fun t k => XS.aload X703.here hx rfl (hb hby at_104) rfl rfl k) ?_
      obtain ⟨cq712, kq712, qa712, qb712, qc712⟩ := isOf hZ rfl Ex703
      obtain ⟨_, _, ⟨T712, L712, k712, n712⟩, -, X712, ⟨Lc712, hQ712, l712, y712, z712⟩, st712⟩ := X703.virtualBack hx (y := own_y9) (z := own_y9) hown (mvT hZ w_41) (mvT hZ w_42) (notFace_of_selects (args := #[]) (mvT hZ w_44)) (mvT hZ w_44) (mvT hZ w_43) (by decide) (backOf (W := 0) (own_kone l Z a0 hw [] a105 a4 ar121 (1 : Int32) (3 : Int32) (2 : Int32) [(.ref a1), .null, .null] [(.ref a1), (.ref a4), .null] T703.heap n0 Ex703 gk703 gc703 gv703 F704 gn105 gn_ar121 ne_ar121_a105 (own_lenL (n := 3) rfl (by decide)) (by decide) (by decide) (Nat.lt_of_lt_of_eq (by decide : _ < 3) rfl) (by decide) (Ins.of_exa (own_Bn_exa F711 (List.mem_of_getElem? (i := 1) rfl)) w_60) rfl) hZ w_45 w_12 (by decide) (by decide)) qa712 qc712 (g := (mkF m 106 #[iv p0, iv p1, iv p2, iv p3, iv p4, iv p5, iv (3 : Int32), iv (4 : Int32), rv a1, rv a4, rv a9, rv a16, rv a25, rv a36, rv a105, .unset, .unset, .unset, .unset, .unset, .unset, .unset, .unset, .unset, .unset] [(.ref a4), (.ref a105)])) rfl (by rw [hml]; rfl) (Steps.refl _) (argsL := [(.ref a4)]) (rest := []) (lenOf own_pd8 rfl) rfl (by show 2 * 0 + _ ≤ _; exact own_b rfl) (hb hby at_106) (fun _ _ => ⟨rfl, rfl, (own_b rfl : 8 + 0 ≤ _), (own_b rfl : 14 + 0 ≤ _)⟩)
      dsimp only [Pt.U, Pt.locs, Pt.cells, Pt.slots] at X712 l712 y712 z712 st712 hQ712
      obtain ⟨rfl, Nq712, K712, Ex712, gk712, gc712, gv712⟩ := hQ712
      obtain ⟨L712, X712, N712⟩ := own_absC (K := 8) (K' := 14) X712 l712 y712 z712 N703 Nq712
      have F713 : n0 ≤ T712.heap.size := Nat.le_trans F704 K712.1
      have F714 := Keep.trans F705 K712 (allS (Or.inr (Nat.le_trans F93.1 (Nat.le_of_eq ga105.symm))) (allS (Or.inr (Nat.le_trans K107.1 gz121)) all0))
      have F715 := own_Ao_keep F706 K712 (ninS (Ne.symm ne105_a36) (ninS (Ne.symm ne_ar121_a36) nin0))
      have F716 := Exa.keep Ex703 K712
      have F717 := own_Bn_keep F711 K712 hbq
      refine own_tr (B := (T712.setTop (mkF m 109 #[iv p0, iv p1, iv p2, iv p3, iv p4, iv p5, iv (3 : Int32), iv (4 : Int32), rv a1, rv a4, rv a9, rv a16, rv a25, rv a36, rv a105, .unset, .unset, .unset, .unset, .unset, .unset, .unset, .unset, .unset, .unset] []))) st712 ?_
      refine own_go (B := (T712.setTop (mkF m 111 #[iv p0, iv p1, iv p2, iv p3, iv p4, iv p5, iv (3 : Int32), iv (4 : Int32), rv a1, rv a4, rv a9, rv a16, rv a25, rv a36, rv a105, .unset, .unset, .unset, .unset, .unset, .unset, .unset, .unset, .unset, .unset] [(.int (4 : Int32))]))) (fun t k => XS.iload X712.here hx rfl (hb hby at_109) rfl k) ?_
      refine own_go (B := (T712.setTop (mkF m 112 #[iv p0, iv p1, iv p2, iv p3, iv p4, iv p5, iv (3 : Int32), iv (4 : Int32), rv a1, rv a4, rv a9, rv a16, rv a25, rv a36, rv a105, .unset, .unset, .unset, .unset, .unset, .unset, .unset, .unset, .unset, .unset] [(.int (2 : Int32)), (.int (4 : Int32))]))) (fun t k => own_iconst (v := (2 : Int32)) X712.here hx rfl (hb hby at_111) (by decide) k) ?_
      have hc112 : (2 : Int32) < (4 : Int32) := (by decide)
      refine own_icmpN X712 hx (hb hby at_112) (pn := 115) rfl hc112 ?_
      refine own_go (B := (T712.setTop (mkF m 117 #[iv p0, iv p1, iv p2, iv p3, iv p4, iv p5, iv (3 : Int32), iv (4 : Int32), rv a1, rv a4, rv a9, rv a16, rv a25, rv a36, rv a105, .unset, .unset, .unset, .unset, .unset, .unset, .unset, .unset, .unset, .unset] [(.ref a105)]))) (fun t k => XS.aload X712.here hx rfl (hb hby at_115) rfl rfl k) ?_
      refine own_go (B := (T712.setTop (mkF m 119 #[iv p0, iv p1, iv p2, iv p3, iv p4, iv p5, iv (3 : Int32), iv (4 : Int32), rv a1, rv a4, rv a9, rv a16, rv a25, rv a36, rv a105, .unset, .unset, .unset, .unset, .unset, .unset, .unset, .unset, .unset, .unset] [(.ref a9), (.ref a105)]))) (fun t k => XS.aload X712.here hx rfl (hb hby at_117) rfl rfl k) ?_
      obtain ⟨cq721, kq721, qa721, qb721, qc721⟩ := isOf hZ rfl Ex712
      obtain ⟨_, _, ⟨T721, L721, k721, n721⟩, -, X721, ⟨Lc721, hQ721, l721, y721, z721⟩, st721⟩ := X712.virtualBack hx (y := own_y9) (z := own_y9) hown (mvT hZ w_41) (mvT hZ w_42) (notFace_of_selects (args := #[]) (mvT hZ w_44)) (mvT hZ w_44) (mvT hZ w_43) (by decide) (backOf (W := 0) (own_kone l Z a0 hw [] a105 a9 ar121 (2 : Int32) (3 : Int32) (3 : Int32) [(.ref a1), (.ref a4), .null] [(.ref a1), (.ref a4), (.ref a9)] T712.heap n0 Ex712 gk712 gc712 gv712 F713 gn105 gn_ar121 ne_ar121_a105 (own_lenL (n := 3) rfl (by decide)) (by decide) (by decide) (Nat.lt_of_lt_of_eq (by decide : _ < 3) rfl) (by decide) (Ins.of_exa (own_Bn_exa F717 (List.mem_of_getElem? (i := 2) rfl)) w_60) rfl) hZ w_45 w_12 (by decide) (by decide)) qa721 qc721 (g := (mkF m 119 #[iv p0, iv p1, iv p2, iv p3, iv p4, iv p5, iv (3 : Int32), iv (4 : Int32), rv a1, rv a4, rv a9, rv a16, rv a25, rv a36, rv a105, .unset, .unset, .unset, .unset, .unset, .unset, .unset, .unset, .unset, .unset] [(.ref a9), (.ref a105)])) rfl (by rw [hml]; rfl) (Steps.refl _) (argsL := [(.ref a9)]) (rest := []) (lenOf own_pd8 rfl) rfl (by show 2 * 0 + _ ≤ _; exact own_b rfl) (hb hby at_119) (fun _ _ => ⟨rfl, rfl, (own_b rfl : 8 + 0 ≤ _), (own_b rfl : 14 + 0 ≤ _)⟩)
      dsimp only [Pt.U, Pt.locs, Pt.cells, Pt.slots] at X721 l721 y721 z721 st721 hQ721
      obtain ⟨rfl, Nq721, K721, Ex721, gk721, gc721, gv721⟩ := hQ721
      obtain ⟨L721, X721, N721⟩ := own_absC (K := 8) (K' := 14) X721 l721 y721 z721 N712 Nq721
      have F722 : n0 ≤ T721.heap.size := Nat.le_trans F713 K721.1
      have F723 := Keep.trans F714 K721 (allS (Or.inr (Nat.le_trans F93.1 (Nat.le_of_eq ga105.symm))) (allS (Or.inr (Nat.le_trans K107.1 gz121)) all0))
      have F724 := own_Ao_keep F715 K721 (ninS (Ne.symm ne105_a36) (ninS (Ne.symm ne_ar121_a36) nin0))
      have F725 := Exa.keep Ex712 K721
      have F726 := own_Bn_keep F717 K721 hbq
      refine own_tr (B := (T721.setTop (mkF m 122 #[iv p0, iv p1, iv p2, iv p3, iv p4, iv p5, iv (3 : Int32), iv (4 : Int32), rv a1, rv a4, rv a9, rv a16, rv a25, rv a36, rv a105, .unset, .unset, .unset, .unset, .unset, .unset, .unset, .unset, .unset, .unset] []))) st721 ?_
      refine own_go (B := (T721.setTop (mkF m 124 #[iv p0, iv p1, iv p2, iv p3, iv p4, iv p5, iv (3 : Int32), iv (4 : Int32), rv a1, rv a4, rv a9, rv a16, rv a25, rv a36, rv a105, .unset, .unset, .unset, .unset, .unset, .unset, .unset, .unset, .unset, .unset] [(.int (4 : Int32))]))) (fun t k => XS.iload X721.here hx rfl (hb hby at_122) rfl k) ?_
      refine own_go (B := (T721.setTop (mkF m 125 #[iv p0, iv p1, iv p2, iv p3, iv p4, iv p5, iv (3 : Int32), iv (4 : Int32), rv a1, rv a4, rv a9, rv a16, rv a25, rv a36, rv a105, .unset, .unset, .unset, .unset, .unset, .unset, .unset, .unset, .unset, .unset] [(.int (3 : Int32)), (.int (4 : Int32))]))) (fun t k => own_iconst (v := (3 : Int32)) X721.here hx rfl (hb hby at_124) (by decide) k) ?_
      have hc125 : (3 : Int32) < (4 : Int32) := (by decide)
      refine own_icmpN X721 hx (hb hby at_125) (pn := 128) rfl hc125 ?_
      refine own_go (B := (T721.setTop (mkF m 130 #[iv p0, iv p1, iv p2, iv p3, iv p4, iv p5, iv (3 : Int32), iv (4 : Int32), rv a1, rv a4, rv a9, rv a16, rv a25, rv a36, rv a105, .unset, .unset, .unset, .unset, .unset, .unset, .unset, .unset, .unset, .unset] [(.ref a105)]))) (fun t k => XS.aload X721.here hx rfl (hb hby at_128) rfl rfl k) ?_
      refine own_go (B := (T721.setTop (mkF m 132 #[iv p0, iv p1, iv p2, iv p3, iv p4, iv p5, iv (3 : Int32), iv (4 : Int32), rv a1, rv a4, rv a9, rv a16, rv a25, rv a36, rv a105, .unset, .unset, .unset, .unset, .unset, .unset, .unset, .unset, .unset, .unset] [(.ref a16), (.ref a105)]))) (fun t k => XS.aload X721.here hx rfl (hb hby at_130) rfl rfl k) ?_
      obtain ⟨cq730, kq730, qa730, qb730, qc730⟩ := isOf hZ rfl Ex721
      obtain ⟨_, _, ⟨T730, L730, k730, n730⟩, -, X730, ⟨Lc730, hQ730, l730, y730, z730⟩, st730⟩ := X721.virtualBack hx (y := own_y9) (z := own_y9) hown (mvT hZ w_41) (mvT hZ w_42) (notFace_of_selects (args := #[]) (mvT hZ w_44)) (mvT hZ w_44) (mvT hZ w_43) (by decide) (backOf (W := 0) (own_kfull l Z a0 hw [] a105 a16 ar121 (3 : Int32) (3 : Int32) [(.ref a1), (.ref a4), (.ref a9)] T721.heap n0 Ex721 gk721 gc721 gv721 (own_lenL (n := 3) rfl (by decide)) (by decide)) hZ w_45 w_12 (by decide) (by decide)) qa730 qc730 (g := (mkF m 132 #[iv p0, iv p1, iv p2, iv p3, iv p4, iv p5, iv (3 : Int32), iv (4 : Int32), rv a1, rv a4, rv a9, rv a16, rv a25, rv a36, rv a105, .unset, .unset, .unset, .unset, .unset, .unset, .unset, .unset, .unset, .unset] [(.ref a16), (.ref a105)])) rfl (by rw [hml]; rfl) (Steps.refl _) (argsL := [(.ref a16)]) (rest := []) (lenOf own_pd8 rfl) rfl (by show 2 * 0 + _ ≤ _; exact own_b rfl) (hb hby at_132) (fun _ _ => ⟨rfl, rfl, (own_b rfl : 8 + 0 ≤ _), (own_b rfl : 14 + 0 ≤ _)⟩)
      dsimp only [Pt.U, Pt.locs, Pt.cells, Pt.slots] at X730 l730 y730 z730 st730 hQ730
      obtain ⟨rfl, Nq730, eq730⟩ := hQ730
      obtain ⟨L730, X730, N730⟩ := own_absC (K := 8) (K' := 14) X730 l730 y730 z730 N721 Nq730
      have e730 : T730.heap = T721.heap := eq730
      refine own_tr (B := (T730.setTop (mkF m 135 #[iv p0, iv p1, iv p2, iv p3, iv p4, iv p5, iv (3 : Int32), iv (4 : Int32), rv a1, rv a4, rv a9, rv a16, rv a25, rv a36, rv a105, .unset, .unset, .unset, .unset, .unset, .unset, .unset, .unset, .unset, .unset] []))) st730 ?_
      refine own_go (B := (T730.setTop (mkF m 137 #[iv p0, iv p1, iv p2, iv p3, iv p4, iv p5, iv (3 : Int32), iv (4 : Int32), rv a1, rv a4, rv a9, rv a16, rv a25, rv a36, rv a105, .unset, .unset, .unset, .unset, .unset, .unset, .unset, .unset, .unset, .unset] [(.int (4 : Int32))]))) (fun t k => XS.iload X730.here hx rfl (hb hby at_135) rfl k) ?_
      refine own_go (B := (T730.setTop (mkF m 139 #[iv p0, iv p1, iv p2, iv p3, iv p4, iv p5, iv (3 : Int32), iv (4 : Int32), rv a1, rv a4, rv a9, rv a16, rv a25, rv a36, rv a105, .unset, .unset, .unset, .unset, .unset, .unset, .unset, .unset, .unset, .unset] [(.int (3 : Int32)), (.int (4 : Int32))]))) (fun t k => XS.iload X730.here hx rfl (hb hby at_137) rfl k) ?_
      obtain ⟨_, _, ⟨T731, L731, k731, n731⟩, -, X731, ⟨Lc731, hQ731, l731, y731, z731⟩, st731⟩ := Jvm.LawKit.callS X730 hx (y := own_y10) hown (mvT hZ w_23) (mvT hZ w_24) (mvT hZ w_25) (mvT hZ w_26) (by decide) (backOf (W := 0) (own_mmin l Z a0 hw [] (4 : Int32) (3 : Int32) T721.heap n0) hZ w_26 w_25 (by decide) (by decide)) (g := (mkF m 139 #[iv p0, iv p1, iv p2, iv p3, iv p4, iv p5, iv (3 : Int32), iv (4 : Int32), rv a1, rv a4, rv a9, rv a16, rv a25, rv a36, rv a105, .unset, .unset, .unset, .unset, .unset, .unset, .unset, .unset, .unset, .unset] [(.int (3 : Int32)), (.int (4 : Int32))])) rfl (by rw [hml]; rfl) (argsL := [(.int (4 : Int32)), (.int (3 : Int32))]) (rest := []) (lenOf own_pd7 rfl) rfl (by show 2 * 0 + _ ≤ _; exact own_b rfl) (hb hby at_139) (fun _ _ => ⟨rfl, e730, (own_b rfl : 8 + 0 ≤ _), (own_b rfl : 14 + 0 ≤ _)⟩)
      dsimp only [Pt.U, Pt.locs, Pt.cells, Pt.slots] at X731 l731 y731 z731 st731 hQ731
      obtain ⟨rfl, Nq731, eq731⟩ := hQ731
      obtain ⟨L731, X731, N731⟩ := own_absC (K := 8) (K' := 14) X731 l731 y731 z731 N730 Nq731
      have e731 : T731.heap = T721.heap := eq731
      refine own_go (B := (T731.setTop (mkF m 142 #[iv p0, iv p1, iv p2, iv p3, iv p4, iv p5, iv (3 : Int32), iv (4 : Int32), rv a1, rv a4, rv a9, rv a16, rv a25, rv a36, rv a105, .unset, .unset, .unset, .unset, .unset, .unset, .unset, .unset, .unset, .unset] [(.int (own_min (4 : Int32) (3 : Int32)))]))) st731 ?_
      rw [show own_min (4 : Int32) (3 : Int32) = (3 : Int32) from by decide]
      refine own_go (B := (T731.setTop (mkF m 144 #[iv p0, iv p1, iv p2, iv p3, iv p4, iv p5, iv (3 : Int32), iv (4 : Int32), rv a1, rv a4, rv a9, rv a16, rv a25, rv a36, rv a105, iv (3 : Int32), .unset, .unset, .unset, .unset, .unset, .unset, .unset, .unset, .unset] []))) (fun t k => XS.istore X731.here hx rfl (hb hby at_142) rfl (l' := #[iv p0, iv p1, iv p2, iv p3, iv p4, iv p5, iv (3 : Int32), iv (4 : Int32), rv a1, rv a4, rv a9, rv a16, rv a25, rv a36, rv a105, iv (3 : Int32), .unset, .unset, .unset, .unset, .unset, .unset, .unset, .unset, .unset]) rfl k) ?_
      exact J3 T731 _ T721.heap X731 e731 N731 F722 F723 F724 Ex721 gk721 gc721 gv721 F726 _

set_option maxRecDepth 65536 in
set_option maxHeartbeats 40000000 in
theorem own_comes {Post : Tables → Env → Array Value → State → Outcome → State → Prop} (hpost : ∀ tb e args s v u, (limb_1_1.after args s (.returned v) u = true ∧ limb_1_2.after args s (.returned v) u = true ∧ True) → FrameEnd s (.returned v) u (Jvm.fieldLocs frame_1_writes args s ++ Jvm.arrayLocs frame_1_arrays args s ++ Jvm.staticLocs frame_1_statics s) 24 128 → Post tb e args s (.returned v) u) :
    ArmFor flags0 classFile x code maxLocals ret World_1 tables_1 room_1 Calls_1 rest_1 Pre_1 Post := by
  intro l hfl _ _ p e ha hc hk s m args below hf hA hF happ hP
  obtain ⟨hcalls, hrest, hpre⟩ := hP
  obtain ⟨-, -, -, hnamed, -, -, -, hat⟩ := (Spec.applies_iff hf).mp happ
  obtain ⟨hg, hn⟩ := and_e (Cond.before_iff.mp (show (Jvm.Cond.and given_1 narrow_1).before args s = true from hpre))
  obtain ⟨g0, r0⟩ := and_e hg
  obtain ⟨g1, r1⟩ := and_e r0
  obtain ⟨g2, r2⟩ := and_e r1
  obtain ⟨g3, r3⟩ := and_e r2
  obtain ⟨g4, r4⟩ := and_e r3
  obtain ⟨g5, r5⟩ := and_e r4
  obtain ⟨w0, w1, w2, w3, w4, w5, rfl⟩ : ∃ w0 w1 w2 w3 w4 w5 : Value, args = #[w0, w1, w2, w3, w4, w5] := by
    have hs : args.size = 6 := by simpa [Cond.value, given_1] using g0
    obtain ⟨L⟩ := args
    match L, hs with
    | [w0, w1, w2, w3, w4, w5], _ => exact ⟨w0, w1, w2, w3, w4, w5, rfl⟩
  have hw := fun d (hd : d ∈ tables_1) => atoms_spec (ws := Jvm.Cond.code x code maxLocals ret :: tables_1) hat d (List.mem_cons_of_mem _ hd)
  have hfit : Fit s := fun {y c} hc i hi => by
    obtain ⟨ha, rfl⟩ := Array.getElem?_eq_some_iff.mp hc
    have q := List.all_eq_true.mp ((Array.all_eq_true_iff_forall_mem.mp hF) _ (Array.getElem_mem ha)) i (List.mem_range.mpr hi)
    simpa [Array.getElem?_eq_getElem hi] using q
  obtain ⟨i0, e0⟩ := is_v g1
  obtain rfl : w0 = (.int i0) := Option.some.inj e0
  obtain ⟨i1, e1⟩ := is_v g2
  obtain rfl : w1 = (.int i1) := Option.some.inj e1
  obtain ⟨i2, e2⟩ := is_v g3
  obtain rfl : w2 = (.int i2) := Option.some.inj e2
  obtain ⟨i3, e3⟩ := is_v g4
  obtain rfl : w3 = (.int i3) := Option.some.inj e3
  obtain ⟨i4, e4⟩ := is_v g5
  obtain rfl : w4 = (.int i4) := Option.some.inj e4
  obtain ⟨i5, e5⟩ := is_v r5
  obtain rfl : w5 = (.int i5) := Option.some.inj e5
  have w_5 := hw _ (List.mem_of_getElem? (l := tables_1) (i := 5) rfl)
  obtain ⟨hsets, hown0⟩ := atoms_of _ (rest_1_c_eq ▸ (show rest_1_c.before _ s = true from hrest))
  have hh3 := own_eqint (Cond.before_iff.mp (hsets _ (List.mem_of_getElem? (i := 3) rfl)))
  have hS1 : Sta s s.heap "java/lang/Integer$IntegerCache" "high" "I" (.int (127 : Int32)) := Sta.start hh3 (Or.inr ⟨w_5, hsets _ (List.mem_of_getElem? (i := 0) rfl)⟩)
  obtain ⟨ca, evc⟩ := exa_v (Cond.before_iff.mp (hsets _ (List.mem_of_getElem? (i := 5) rfl)))
  have hS2 : Sta s s.heap "java/lang/Integer$IntegerCache" "cache" "[Ljava/lang/Integer;" (.ref ca) := Sta.start evc (Or.inr ⟨w_5, hsets _ (List.mem_of_getElem? (i := 2) rfl)⟩)
  have hC := own_cache_of hfit evc (Cond.before_iff.mp (hsets _ (List.mem_of_getElem? (i := 4) rfl))) (Cond.before_iff.mp (hsets _ (List.mem_of_getElem? (i := 6) rfl))) (Cond.before_iff.mp (hsets _ (List.mem_of_getElem? (i := 7) rfl)))
  obtain ⟨n, o, h1, h2, h3, _, L, rfl, ⟨rfl, N⟩, hq⟩ := own_law l s _ hw tables_1 i0 i1 i2 i3 i4 i5 ca s.heap s.heap.size (Nat.le_refl _) hS1 hS2 hC p e ha hc hk s m _ below hf ((Spec.applies_iff_loose hf).mp happ).1 ⟨rfl, State.Warmed39.refl s, rfl⟩ trivial
  refine ⟨n, _, h1, h2, h3, hpost _ _ _ _ _ _ ⟨Cond.after_iff.mpr rfl, Cond.after_iff.mpr (eq_i res_at (Term.int_eval (1)) rfl), trivial⟩ ⟨hq.1, hq.2.1, (hq.2.2.sift fun y hy => Or.inr (N y hy)).mono (by decide) (by decide)⟩⟩
theorem main_1_1 : Claimed_1_1 := own_comes fun _ _ _ _ _ _ h hF => ⟨h.1, hF⟩
theorem main_1_2 : Claimed_1_2 := own_comes fun _ _ _ _ _ _ h hF => ⟨h.2.1, hF⟩
end Jvm.Pilot.@@N@@
namespace Jvm.Pilot.@@N@@
open Jvm Jvm.ClassFile Sem Op Lib Jvm.Free Jvm.Stand Jvm.Pilot.@@N@@.Jvm.D
/-! MADE BY PROGRAM (witnessworld.py) out of the Statement's table words and the real class files: 18 classes; the members and pool entries that the words name. The judged class is class 1, her method 2. -/
namespace start1
open Jvm.ClassFile
def u (s : String) : CpInfo := .utf8 (stringToUtf16 s)
/-- a pool by its gaps: so many unusable entries, then the entry; so many at the end -/
def gap : Nat → List CpInfo → List CpInfo
  | 0, r => r
  | n + 1, r => .unusable :: gap n r
def poolList (es : List (Nat × CpInfo)) (last : Nat) : List CpInfo := es.foldr (fun e r => gap e.1 (e.2 :: r)) (gap last [])
def pool (es : List (Nat × CpInfo)) (last : Nat) : Array CpInfo := ⟨poolList es last⟩
def fileOf (pool : Array CpInfo) (this : Nat) (attrs : Array Attribute := #[]) (ms : Array MethodInfo := #[]) (fl : Nat := 33) (sup : Nat := 0) (ifs : Array Nat := #[]) (fds : Array FieldInfo := #[]) : ClassFile where
  minorVersion := 0
  majorVersion := 65
  constantPool := pool
  accessFlags := fl
  thisClass := this
  superClass := sup
  interfaces := ifs
  fields := fds
  methods := ms
  attributes := attrs
def plain (name : String) (sup : Option ClassId) : Class where
  name := name
  kind := .ordinary
  loader := none
  accessFlags := 33
  super := sup
  interfaces := #[]
  cf := none
  fields := #[]
  methods := #[]
  instanceTypes := #[]
  staticTypes := #[]
  resolved := #[]
  callSites := []
  init := .initialized
  statics := none
  mirror := none

def pool0 : Array CpInfo := pool [(5, u "<init>"), (0, u "()V"), (1, .class_ 10), (1, u "java/lang/Object")] 113

def k0c0 : Code := { maxStack := 0, maxLocals := 1, code := object_method_1_code, exceptionTable := #[], attributes := #[] }
def k0m0 : Method := { name := "<init>", desc := "()V", sig := { parameters := [], returnType := none }, accessFlags := 1, code := some k0c0 }
/-- java/lang/Object -/
def k0 : Class := { plain "java/lang/Object" none with
  accessFlags := 33
  interfaces := #[]
  cf := some (fileOf pool0 8 #[] #[{ accessFlags := 1, nameIndex := 5, descriptorIndex := 6, attributes := #[] }] 33 0 #[] #[])
  fields := #[]
  methods := #[k0m0]
  instanceTypes := #[]
  staticTypes := #[]
  resolved := Array.replicate 124 none
  statics := none }

def pool1 : Array CpInfo := pool [(2, .class_ 4), (1, u "java/lang/Object"), (0, u "<init>"), (0, u "()V"), (0, .methodref 8 9), (0, .class_ 10), (0, .nameAndType 11 12), (0, u "java/lang/Integer"), (0, u "intValue"), (0, u "()I"), (0, .methodref 8 14), (0, .nameAndType 15 16), (0, u "valueOf"), (0, u "(I)Ljava/lang/Integer;"), (0, .class_ 18), (0, u "com/example/pagemason/pagemason/core/Spares"), (0, .methodref 17 20), (0, .nameAndType 5 21), (0, u "(I)V"), (0, .methodref 17 23), (0, .nameAndType 24 25), (0, u "keep"), (0, u "(Ljava/lang/Object;)V"), (0, .methodref 27 28), (0, .class_ 29), (0, .nameAndType 30 31), (0, u "java/lang/Math"), (0, u "min"), (0, u "(II)I"), (0, .methodref 17 33), (0, .nameAndType 34 35), (0, u "take"), (0, u "()Ljava/lang/Object;"), (0, .methodref 37 38), (0, .class_ 39), (0, .nameAndType 40 41), (0, u "com/example/pagemason/pagemason/core/SparesTakePinLaw"), (0, u "same"), (0, u "(Ljava/lang/Integer;Ljava/lang/Integer;)Z"), (0, .methodref 27 43), (0, .nameAndType 44 31), (0, u "max"), (3, u "law"), (0, u "(IIIIII)Z")] 4

def k1m0 : Method := { name := "<init>", desc := "()V", sig := { parameters := [], returnType := none }, accessFlags := 1, code := none }
def k1c1 : Code := { maxStack := 2, maxLocals := 2, code := method_2_code, exceptionTable := #[], attributes := #[] }
def k1m1 : Method := { name := "same", desc := "(Ljava/lang/Integer;Ljava/lang/Integer;)Z", sig := { parameters := [(.object "java/lang/Integer"), (.object "java/lang/Integer")], returnType := some .boolean }, accessFlags := 10, code := some k1c1 }
def k1c2 : Code := { maxStack := 4, maxLocals := 25, code := code, exceptionTable := #[], attributes := #[] }
def k1m2 : Method := { name := "law", desc := "(IIIIII)Z", sig := { parameters := [.int, .int, .int, .int, .int, .int], returnType := some .boolean }, accessFlags := 9, code := some k1c2 }
/-- com/example/pagemason/pagemason/core/SparesTakePinLaw -/
def k1 : Class := { plain "com/example/pagemason/pagemason/core/SparesTakePinLaw" (some 0) with
  accessFlags := 49
  interfaces := #[]
  cf := some (fileOf pool1 37 #[] #[{ accessFlags := 1, nameIndex := 5, descriptorIndex := 6, attributes := #[] }, { accessFlags := 10, nameIndex := 40, descriptorIndex := 41, attributes := #[] }, { accessFlags := 9, nameIndex := 48, descriptorIndex := 49, attributes := #[] }] 49 2 #[] #[])
  fields := #[]
  methods := #[k1m0, k1m1, k1m2]
  instanceTypes := #[]
  staticTypes := #[]
  resolved := Array.replicate 54 none
  statics := none }

def pool2 : Array CpInfo := pool [(1, .class_ 2), (0, u "java/io/Serializable"), (0, .class_ 4), (0, u "java/lang/Object")] 2

/-- java/io/Serializable -/
def k2 : Class := { plain "java/io/Serializable" (some 0) with
  accessFlags := 1537
  interfaces := #[]
  cf := some (fileOf pool2 1 #[] #[] 1537 3 #[] #[])
  fields := #[]
  methods := #[]
  instanceTypes := #[]
  staticTypes := #[]
  resolved := Array.replicate 7 none
  statics := none }

def pool3 : Array CpInfo := pool [(1, .methodref 2 3), (0, .class_ 4), (0, .nameAndType 5 6), (0, u "java/lang/Object"), (0, u "<init>"), (0, u "()V"), (1, .class_ 10), (1, u "java/lang/Number"), (2, .class_ 14), (0, u "java/io/Serializable"), (0, u "serialVersionUID"), (0, u "J")] 20

def k3c0 : Code := { maxStack := 1, maxLocals := 1, code := jdk_18_method_1_code, exceptionTable := #[], attributes := #[] }
def k3m0 : Method := { name := "<init>", desc := "()V", sig := { parameters := [], returnType := none }, accessFlags := 1, code := some k3c0 }
/-- java/lang/Number -/
def k3 : Class := { plain "java/lang/Number" (some 0) with
  accessFlags := 1057
  interfaces := #[2]
  cf := some (fileOf pool3 8 #[] #[{ accessFlags := 1, nameIndex := 5, descriptorIndex := 6, attributes := #[] }] 1057 2 #[13] #[{ accessFlags := 26, nameIndex := 15, descriptorIndex := 16, attributes := #[] }])
  fields := #[{ name := "serialVersionUID", type := .long, accessFlags := 26, slot := 0, constantValue := 0 }]
  methods := #[k3m0]
  instanceTypes := #[]
  staticTypes := #[.long]
  resolved := Array.replicate 37 none
  statics := none }

def pool4 : Array CpInfo := pool [(1, .class_ 2), (0, u "java/lang/Comparable"), (0, .class_ 4), (0, u "java/lang/Object")] 7

/-- java/lang/Comparable -/
def k4 : Class := { plain "java/lang/Comparable" (some 0) with
  accessFlags := 1537
  interfaces := #[]
  cf := some (fileOf pool4 1 #[] #[] 1537 3 #[] #[])
  fields := #[]
  methods := #[]
  instanceTypes := #[]
  staticTypes := #[]
  resolved := Array.replicate 12 none
  statics := none }

def pool5 : Array CpInfo := pool [(1, .class_ 2), (0, u "java/lang/constant/Constable"), (0, .class_ 4), (0, u "java/lang/Object")] 6

/-- java/lang/constant/Constable -/
def k5 : Class := { plain "java/lang/constant/Constable" (some 0) with
  accessFlags := 1537
  interfaces := #[]
  cf := some (fileOf pool5 1 #[] #[] 1537 3 #[] #[])
  fields := #[]
  methods := #[]
  instanceTypes := #[]
  staticTypes := #[]
  resolved := Array.replicate 11 none
  statics := none }

def pool6 : Array CpInfo := pool [(1, .class_ 2), (0, u "java/lang/constant/ConstantDesc"), (0, .class_ 4), (0, u "java/lang/Object")] 32

/-- java/lang/constant/ConstantDesc -/
def k6 : Class := { plain "java/lang/constant/ConstantDesc" (some 0) with
  accessFlags := 1537
  interfaces := #[]
  cf := some (fileOf pool6 1 #[] #[] 1537 3 #[] #[])
  fields := #[]
  methods := #[]
  instanceTypes := #[]
  staticTypes := #[]
  resolved := Array.replicate 37 none
  statics := none }

def pool7 : Array CpInfo := pool [(1, .class_ 2), (0, u "java/lang/Integer"), (16, u "digits"), (0, u "[C"), (46, u "<init>"), (17, u "DigitOnes"), (0, u "[B"), (2, u "DigitTens"), (10, .nameAndType 67 101), (0, u "()V"), (19, u "()I"), (65, u "valueOf"), (0, u "(I)Ljava/lang/Integer;"), (0, .class_ 190), (0, u "java/lang/Integer$IntegerCache"), (0, .fieldref 189 192), (0, .nameAndType 193 194), (0, u "high"), (0, u "I"), (0, .fieldref 189 196), (0, .nameAndType 197 198), (0, u "cache"), (0, u "[Ljava/lang/Integer;"), (0, .methodref 1 200), (0, .nameAndType 67 201), (0, u "(I)V"), (0, .methodref 203 100), (0, .class_ 204), (0, u "java/lang/Number"), (0, .fieldref 1 206), (0, .nameAndType 207 194), (0, u "value"), (5, u "intValue"), (88, u "TYPE"), (0, u "Ljava/lang/Class;"), (0, .class_ 305), (0, u "java/lang/Comparable"), (0, .class_ 307), (0, u "java/lang/constant/Constable"), (0, .class_ 309), (0, u "java/lang/constant/ConstantDesc"), (0, u "MIN_VALUE"), (1, u "MAX_VALUE"), (3, u "SIZE"), (1, u "BYTES"), (1, u "serialVersionUID"), (0, u "J")] 131

def k7c0 : Code := { maxStack := 3, maxLocals := 1, code := jdk_33_method_22_code, exceptionTable := #[], attributes := #[] }
def k7m0 : Method := { name := "valueOf", desc := "(I)Ljava/lang/Integer;", sig := { parameters := [.int], returnType := some (.object "java/lang/Integer") }, accessFlags := 9, code := some k7c0 }
def k7c1 : Code := { maxStack := 2, maxLocals := 2, code := jdk_33_method_23_code, exceptionTable := #[], attributes := #[] }
def k7m1 : Method := { name := "<init>", desc := "(I)V", sig := { parameters := [.int], returnType := none }, accessFlags := 1, code := some k7c1 }
def k7c2 : Code := { maxStack := 1, maxLocals := 1, code := jdk_33_method_27_code, exceptionTable := #[], attributes := #[] }
def k7m2 : Method := { name := "intValue", desc := "()I", sig := { parameters := [], returnType := some .int }, accessFlags := 1, code := some k7c2 }
/-- java/lang/Integer -/
def k7 : Class := { plain "java/lang/Integer" (some 3) with
  accessFlags := 49
  interfaces := #[4, 5, 6]
  cf := some (fileOf pool7 1 #[.nestMembers #[189]] #[{ accessFlags := 9, nameIndex := 187, descriptorIndex := 188, attributes := #[] }, { accessFlags := 1, nameIndex := 67, descriptorIndex := 201, attributes := #[] }, { accessFlags := 1, nameIndex := 213, descriptorIndex := 121, attributes := #[] }] 49 203 #[304, 306, 308] #[{ accessFlags := 25, nameIndex := 310, descriptorIndex := 194, attributes := #[] }, { accessFlags := 25, nameIndex := 312, descriptorIndex := 194, attributes := #[] }, { accessFlags := 25, nameIndex := 302, descriptorIndex := 303, attributes := #[] }, { accessFlags := 24, nameIndex := 19, descriptorIndex := 20, attributes := #[] }, { accessFlags := 24, nameIndex := 89, descriptorIndex := 86, attributes := #[] }, { accessFlags := 24, nameIndex := 85, descriptorIndex := 86, attributes := #[] }, { accessFlags := 18, nameIndex := 207, descriptorIndex := 194, attributes := #[] }, { accessFlags := 25, nameIndex := 316, descriptorIndex := 194, attributes := #[] }, { accessFlags := 25, nameIndex := 318, descriptorIndex := 194, attributes := #[] }, { accessFlags := 26, nameIndex := 320, descriptorIndex := 321, attributes := #[] }])
  fields := #[{ name := "MIN_VALUE", type := .int, accessFlags := 25, slot := 0, constantValue := 0 }, { name := "MAX_VALUE", type := .int, accessFlags := 25, slot := 1, constantValue := 0 }, { name := "TYPE", type := (.object "java/lang/Class"), accessFlags := 25, slot := 2, constantValue := 0 }, { name := "digits", type := (.array .char), accessFlags := 24, slot := 3, constantValue := 0 }, { name := "DigitTens", type := (.array .byte), accessFlags := 24, slot := 4, constantValue := 0 }, { name := "DigitOnes", type := (.array .byte), accessFlags := 24, slot := 5, constantValue := 0 }, { name := "value", type := .int, accessFlags := 18, slot := 0, constantValue := 0 }, { name := "SIZE", type := .int, accessFlags := 25, slot := 6, constantValue := 0 }, { name := "BYTES", type := .int, accessFlags := 25, slot := 7, constantValue := 0 }, { name := "serialVersionUID", type := .long, accessFlags := 26, slot := 8, constantValue := 0 }]
  methods := #[k7m0, k7m1, k7m2]
  instanceTypes := #[.int]
  staticTypes := #[.int, .int, (.object "java/lang/Class"), (.array .char), (.array .byte), (.array .byte), .int, .int, .long]
  resolved := Array.replicate 453 none
  statics := none }

def pool8 : Array CpInfo := pool [(2, .class_ 4), (1, u "java/lang/Object"), (0, u "<init>"), (0, u "()V"), (0, .class_ 8), (0, u "java/lang/Integer"), (7, .class_ 18), (1, u "java/lang/Integer$IntegerCache"), (0, u "$assertionsDisabled"), (0, u "Z"), (26, u "high"), (0, u "I"), (8, u "archivedCache"), (0, u "[Ljava/lang/Integer;"), (12, u "cache"), (0, u "low")] 27

def k8m0 : Method := { name := "<init>", desc := "()V", sig := { parameters := [], returnType := none }, accessFlags := 2, code := none }
/-- java/lang/Integer$IntegerCache -/
def k8 : Class := { plain "java/lang/Integer$IntegerCache" (some 0) with
  accessFlags := 48
  interfaces := #[]
  cf := some (fileOf pool8 16 #[.nestHost 7] #[{ accessFlags := 2, nameIndex := 5, descriptorIndex := 6, attributes := #[] }] 48 2 #[] #[{ accessFlags := 24, nameIndex := 72, descriptorIndex := 48, attributes := #[] }, { accessFlags := 24, nameIndex := 47, descriptorIndex := 48, attributes := #[] }, { accessFlags := 24, nameIndex := 71, descriptorIndex := 58, attributes := #[] }, { accessFlags := 8, nameIndex := 57, descriptorIndex := 58, attributes := #[] }, { accessFlags := 4120, nameIndex := 19, descriptorIndex := 20, attributes := #[] }])
  fields := #[{ name := "low", type := .int, accessFlags := 24, slot := 0, constantValue := 0 }, { name := "high", type := .int, accessFlags := 24, slot := 1, constantValue := 0 }, { name := "cache", type := (.array (.object "java/lang/Integer")), accessFlags := 24, slot := 2, constantValue := 0 }, { name := "archivedCache", type := (.array (.object "java/lang/Integer")), accessFlags := 8, slot := 3, constantValue := 0 }, { name := "$assertionsDisabled", type := .boolean, accessFlags := 4120, slot := 4, constantValue := 0 }]
  methods := #[k8m0]
  instanceTypes := #[]
  staticTypes := #[.int, .int, (.array (.object "java/lang/Integer")), (.array (.object "java/lang/Integer")), .boolean]
  resolved := Array.replicate 100 none
  statics := some 0 }

def pool9 : Array CpInfo := pool [(1, .methodref 2 3), (0, .class_ 4), (0, .nameAndType 5 6), (0, u "java/lang/Object"), (0, u "<init>"), (0, u "()V"), (0, .fieldref 8 9), (0, .class_ 10), (0, .nameAndType 11 12), (0, u "com/example/pagemason/pagemason/core/Spares"), (0, u "kept"), (0, u "[Ljava/lang/Object;"), (0, .fieldref 8 14), (0, .nameAndType 15 16), (0, u "count"), (0, u "I"), (0, u "(I)V"), (2, u "keep"), (0, u "(Ljava/lang/Object;)V"), (3, u "take"), (0, u "()Ljava/lang/Object;")] 4

def k9c0 : Code := { maxStack := 2, maxLocals := 2, code := prog_71_method_1_code, exceptionTable := #[], attributes := #[] }
def k9m0 : Method := { name := "<init>", desc := "(I)V", sig := { parameters := [.int], returnType := none }, accessFlags := 0, code := some k9c0 }
def k9c1 : Code := { maxStack := 5, maxLocals := 2, code := prog_71_method_2_code, exceptionTable := #[], attributes := #[] }
def k9m1 : Method := { name := "keep", desc := "(Ljava/lang/Object;)V", sig := { parameters := [(.object "java/lang/Object")], returnType := none }, accessFlags := 0, code := some k9c1 }
def k9c2 : Code := { maxStack := 4, maxLocals := 2, code := prog_71_method_3_code, exceptionTable := #[], attributes := #[] }
def k9m2 : Method := { name := "take", desc := "()Ljava/lang/Object;", sig := { parameters := [], returnType := some (.object "java/lang/Object") }, accessFlags := 0, code := some k9c2 }
/-- com/example/pagemason/pagemason/core/Spares -/
def k9 : Class := { plain "com/example/pagemason/pagemason/core/Spares" (some 0) with
  accessFlags := 48
  interfaces := #[]
  cf := some (fileOf pool9 8 #[] #[{ accessFlags := 0, nameIndex := 5, descriptorIndex := 17, attributes := #[] }, { accessFlags := 0, nameIndex := 20, descriptorIndex := 21, attributes := #[] }, { accessFlags := 0, nameIndex := 25, descriptorIndex := 26, attributes := #[] }] 48 2 #[] #[{ accessFlags := 18, nameIndex := 11, descriptorIndex := 12, attributes := #[] }, { accessFlags := 2, nameIndex := 15, descriptorIndex := 16, attributes := #[] }])
  fields := #[{ name := "kept", type := (.array (.object "java/lang/Object")), accessFlags := 18, slot := 0, constantValue := 0 }, { name := "count", type := .int, accessFlags := 2, slot := 1, constantValue := 0 }]
  methods := #[k9m0, k9m1, k9m2]
  instanceTypes := #[(.array (.object "java/lang/Object")), .int]
  staticTypes := #[]
  resolved := Array.replicate 31 none
  statics := none }

def pool10 : Array CpInfo := pool [(1, .class_ 2), (0, u "java/lang/Math"), (1, .class_ 6), (1, u "java/lang/Object"), (0, u "<init>"), (0, u "()V"), (89, .class_ 100), (1, u "java/lang/Math$RandomNumberGeneratorHolder"), (71, u "negativeZeroFloatBits"), (0, u "J"), (2, u "negativeZeroDoubleBits"), (21, u "max"), (2, u "min"), (43, u "$assertionsDisabled"), (0, u "Z"), (88, u "(II)I"), (2, u "twoToTheDoubleScaleDown"), (0, u "D"), (4, u "twoToTheDoubleScaleUp"), (9, u "E"), (3, u "PI"), (2, u "TAU"), (2, u "DEGREES_TO_RADIANS"), (0, u "RADIANS_TO_DEGREES")] 94

def k10m0 : Method := { name := "<init>", desc := "()V", sig := { parameters := [], returnType := none }, accessFlags := 2, code := none }
def k10c1 : Code := { maxStack := 2, maxLocals := 2, code := jdk_29_method_65_code, exceptionTable := #[], attributes := #[] }
def k10m1 : Method := { name := "max", desc := "(II)I", sig := { parameters := [.int, .int], returnType := some .int }, accessFlags := 9, code := some k10c1 }
def k10c2 : Code := { maxStack := 2, maxLocals := 2, code := jdk_29_method_69_code, exceptionTable := #[], attributes := #[] }
def k10m2 : Method := { name := "min", desc := "(II)I", sig := { parameters := [.int, .int], returnType := some .int }, accessFlags := 9, code := some k10c2 }
/-- java/lang/Math -/
def k10 : Class := { plain "java/lang/Math" (some 0) with
  accessFlags := 49
  interfaces := #[]
  cf := some (fileOf pool10 1 #[.nestMembers #[98]] #[{ accessFlags := 2, nameIndex := 7, descriptorIndex := 8, attributes := #[] }, { accessFlags := 9, nameIndex := 198, descriptorIndex := 335, attributes := #[] }, { accessFlags := 9, nameIndex := 201, descriptorIndex := 335, attributes := #[] }] 49 4 #[] #[{ accessFlags := 25, nameIndex := 354, descriptorIndex := 339, attributes := #[] }, { accessFlags := 25, nameIndex := 358, descriptorIndex := 339, attributes := #[] }, { accessFlags := 25, nameIndex := 361, descriptorIndex := 339, attributes := #[] }, { accessFlags := 26, nameIndex := 364, descriptorIndex := 339, attributes := #[] }, { accessFlags := 26, nameIndex := 365, descriptorIndex := 339, attributes := #[] }, { accessFlags := 26, nameIndex := 172, descriptorIndex := 173, attributes := #[] }, { accessFlags := 26, nameIndex := 176, descriptorIndex := 173, attributes := #[] }, { accessFlags := 8, nameIndex := 344, descriptorIndex := 339, attributes := #[] }, { accessFlags := 8, nameIndex := 338, descriptorIndex := 339, attributes := #[] }, { accessFlags := 4120, nameIndex := 245, descriptorIndex := 246, attributes := #[] }])
  fields := #[{ name := "E", type := .double, accessFlags := 25, slot := 0, constantValue := 0 }, { name := "PI", type := .double, accessFlags := 25, slot := 1, constantValue := 0 }, { name := "TAU", type := .double, accessFlags := 25, slot := 2, constantValue := 0 }, { name := "DEGREES_TO_RADIANS", type := .double, accessFlags := 26, slot := 3, constantValue := 0 }, { name := "RADIANS_TO_DEGREES", type := .double, accessFlags := 26, slot := 4, constantValue := 0 }, { name := "negativeZeroFloatBits", type := .long, accessFlags := 26, slot := 5, constantValue := 0 }, { name := "negativeZeroDoubleBits", type := .long, accessFlags := 26, slot := 6, constantValue := 0 }, { name := "twoToTheDoubleScaleUp", type := .double, accessFlags := 8, slot := 7, constantValue := 0 }, { name := "twoToTheDoubleScaleDown", type := .double, accessFlags := 8, slot := 8, constantValue := 0 }, { name := "$assertionsDisabled", type := .boolean, accessFlags := 4120, slot := 9, constantValue := 0 }]
  methods := #[k10m0, k10m1, k10m2]
  instanceTypes := #[]
  staticTypes := #[.double, .double, .double, .double, .double, .long, .long, .double, .double, .boolean]
  resolved := Array.replicate 460 none
  statics := none }

def pool11 : Array CpInfo := pool [(1, u "java/lang/Cloneable"), (0, .class_ 1), (0, u "java/lang/Object"), (0, .class_ 3)] 3

/-- java/lang/Cloneable -/
def k11 : Class := { plain "java/lang/Cloneable" (some 0) with
  accessFlags := 1537
  interfaces := #[]
  cf := some (fileOf pool11 2 #[] #[] 1537 4 #[] #[])
  fields := #[]
  methods := #[]
  instanceTypes := #[]
  staticTypes := #[]
  resolved := Array.replicate 8 none
  statics := none }

/-- the primitive byte -/
def k12 : Class := { plain "byte" none with kind := .primitive 'B', accessFlags := 0x411 }
/-- [B -/
def k13 : Class := { plain "[B" (some 0) with kind := .array 12 .byte, interfaces := #[11, 2], accessFlags := 1041 }

/-- the primitive int -/
def k14 : Class := { plain "int" none with kind := .primitive 'I', accessFlags := 0x411 }
/-- [I -/
def k15 : Class := { plain "[I" (some 0) with kind := .array 14 .int, interfaces := #[11, 2], accessFlags := 1041 }

/-- [Ljava/lang/Integer; -/
def k16 : Class := { plain "[Ljava/lang/Integer;" (some 0) with kind := .array 7 (.object "java/lang/Integer"), interfaces := #[11, 2], accessFlags := 1041 }

/-- [Ljava/lang/Object; -/
def k17 : Class := { plain "[Ljava/lang/Object;" (some 0) with kind := .array 0 (.object "java/lang/Object"), interfaces := #[11, 2], accessFlags := 1041 }

def heap : Heap := #[{ cls := 8, slots := #[.int 0, .int 127, .ref 1, .null, .int 0], vm := .statics 8 },
  { cls := 16, slots := #[.ref 2, .ref 3, .ref 4, .ref 5, .ref 6, .ref 7, .ref 8, .ref 9, .ref 10, .ref 11, .ref 12, .ref 13, .ref 14, .ref 15, .ref 16, .ref 17, .ref 18, .ref 19, .ref 20, .ref 21, .ref 22, .ref 23, .ref 24, .ref 25, .ref 26, .ref 27, .ref 28, .ref 29, .ref 30, .ref 31, .ref 32, .ref 33, .ref 34, .ref 35, .ref 36, .ref 37, .ref 38, .ref 39, .ref 40, .ref 41, .ref 42, .ref 43, .ref 44, .ref 45, .ref 46, .ref 47, .ref 48, .ref 49, .ref 50, .ref 51, .ref 52, .ref 53, .ref 54, .ref 55, .ref 56, .ref 57, .ref 58, .ref 59, .ref 60, .ref 61, .ref 62, .ref 63, .ref 64, .ref 65, .ref 66, .ref 67, .ref 68, .ref 69, .ref 70, .ref 71, .ref 72, .ref 73, .ref 74, .ref 75, .ref 76, .ref 77, .ref 78, .ref 79, .ref 80, .ref 81, .ref 82, .ref 83, .ref 84, .ref 85, .ref 86, .ref 87, .ref 88, .ref 89, .ref 90, .ref 91, .ref 92, .ref 93, .ref 94, .ref 95, .ref 96, .ref 97, .ref 98, .ref 99, .ref 100, .ref 101, .ref 102, .ref 103, .ref 104, .ref 105, .ref 106, .ref 107, .ref 108, .ref 109, .ref 110, .ref 111, .ref 112, .ref 113, .ref 114, .ref 115, .ref 116, .ref 117, .ref 118, .ref 119, .ref 120, .ref 121, .ref 122, .ref 123, .ref 124, .ref 125, .ref 126, .ref 127, .ref 128, .ref 129, .ref 130, .ref 131, .ref 132, .ref 133, .ref 134, .ref 135, .ref 136, .ref 137, .ref 138, .ref 139, .ref 140, .ref 141, .ref 142, .ref 143, .ref 144, .ref 145, .ref 146, .ref 147, .ref 148, .ref 149, .ref 150, .ref 151, .ref 152, .ref 153, .ref 154, .ref 155, .ref 156, .ref 157, .ref 158, .ref 159, .ref 160, .ref 161, .ref 162, .ref 163, .ref 164, .ref 165, .ref 166, .ref 167, .ref 168, .ref 169, .ref 170, .ref 171, .ref 172, .ref 173, .ref 174, .ref 175, .ref 176, .ref 177, .ref 178, .ref 179, .ref 180, .ref 181, .ref 182, .ref 183, .ref 184, .ref 185, .ref 186, .ref 187, .ref 188, .ref 189, .ref 190, .ref 191, .ref 192, .ref 193, .ref 194, .ref 195, .ref 196, .ref 197, .ref 198, .ref 199, .ref 200, .ref 201, .ref 202, .ref 203, .ref 204, .ref 205, .ref 206, .ref 207, .ref 208, .ref 209, .ref 210, .ref 211, .ref 212, .ref 213, .ref 214, .ref 215, .ref 216, .ref 217, .ref 218, .ref 219, .ref 220, .ref 221, .ref 222, .ref 223, .ref 224, .ref 225, .ref 226, .ref 227, .ref 228, .ref 229, .ref 230, .ref 231, .ref 232, .ref 233, .ref 234, .ref 235, .ref 236, .ref 237, .ref 238, .ref 239, .ref 240, .ref 241, .ref 242, .ref 243, .ref 244, .ref 245, .ref 246, .ref 247, .ref 248, .ref 249, .ref 250, .ref 251, .ref 252, .ref 253, .ref 254, .ref 255, .ref 256, .ref 257], vm := .none },
  { cls := 7, slots := #[.int (-128)], vm := .none },
  { cls := 7, slots := #[.int (-127)], vm := .none },
  { cls := 7, slots := #[.int (-126)], vm := .none },
  { cls := 7, slots := #[.int (-125)], vm := .none },
  { cls := 7, slots := #[.int (-124)], vm := .none },
  { cls := 7, slots := #[.int (-123)], vm := .none },
  { cls := 7, slots := #[.int (-122)], vm := .none },
  { cls := 7, slots := #[.int (-121)], vm := .none },
  { cls := 7, slots := #[.int (-120)], vm := .none },
  { cls := 7, slots := #[.int (-119)], vm := .none },
  { cls := 7, slots := #[.int (-118)], vm := .none },
  { cls := 7, slots := #[.int (-117)], vm := .none },
  { cls := 7, slots := #[.int (-116)], vm := .none },
  { cls := 7, slots := #[.int (-115)], vm := .none },
  { cls := 7, slots := #[.int (-114)], vm := .none },
  { cls := 7, slots := #[.int (-113)], vm := .none },
  { cls := 7, slots := #[.int (-112)], vm := .none },
  { cls := 7, slots := #[.int (-111)], vm := .none },
  { cls := 7, slots := #[.int (-110)], vm := .none },
  { cls := 7, slots := #[.int (-109)], vm := .none },
  { cls := 7, slots := #[.int (-108)], vm := .none },
  { cls := 7, slots := #[.int (-107)], vm := .none },
  { cls := 7, slots := #[.int (-106)], vm := .none },
  { cls := 7, slots := #[.int (-105)], vm := .none },
  { cls := 7, slots := #[.int (-104)], vm := .none },
  { cls := 7, slots := #[.int (-103)], vm := .none },
  { cls := 7, slots := #[.int (-102)], vm := .none },
  { cls := 7, slots := #[.int (-101)], vm := .none },
  { cls := 7, slots := #[.int (-100)], vm := .none },
  { cls := 7, slots := #[.int (-99)], vm := .none },
  { cls := 7, slots := #[.int (-98)], vm := .none },
  { cls := 7, slots := #[.int (-97)], vm := .none },
  { cls := 7, slots := #[.int (-96)], vm := .none },
  { cls := 7, slots := #[.int (-95)], vm := .none },
  { cls := 7, slots := #[.int (-94)], vm := .none },
  { cls := 7, slots := #[.int (-93)], vm := .none },
  { cls := 7, slots := #[.int (-92)], vm := .none },
  { cls := 7, slots := #[.int (-91)], vm := .none },
  { cls := 7, slots := #[.int (-90)], vm := .none },
  { cls := 7, slots := #[.int (-89)], vm := .none },
  { cls := 7, slots := #[.int (-88)], vm := .none },
  { cls := 7, slots := #[.int (-87)], vm := .none },
  { cls := 7, slots := #[.int (-86)], vm := .none },
  { cls := 7, slots := #[.int (-85)], vm := .none },
  { cls := 7, slots := #[.int (-84)], vm := .none },
  { cls := 7, slots := #[.int (-83)], vm := .none },
  { cls := 7, slots := #[.int (-82)], vm := .none },
  { cls := 7, slots := #[.int (-81)], vm := .none },
  { cls := 7, slots := #[.int (-80)], vm := .none },
  { cls := 7, slots := #[.int (-79)], vm := .none },
  { cls := 7, slots := #[.int (-78)], vm := .none },
  { cls := 7, slots := #[.int (-77)], vm := .none },
  { cls := 7, slots := #[.int (-76)], vm := .none },
  { cls := 7, slots := #[.int (-75)], vm := .none },
  { cls := 7, slots := #[.int (-74)], vm := .none },
  { cls := 7, slots := #[.int (-73)], vm := .none },
  { cls := 7, slots := #[.int (-72)], vm := .none },
  { cls := 7, slots := #[.int (-71)], vm := .none },
  { cls := 7, slots := #[.int (-70)], vm := .none },
  { cls := 7, slots := #[.int (-69)], vm := .none },
  { cls := 7, slots := #[.int (-68)], vm := .none },
  { cls := 7, slots := #[.int (-67)], vm := .none },
  { cls := 7, slots := #[.int (-66)], vm := .none },
  { cls := 7, slots := #[.int (-65)], vm := .none },
  { cls := 7, slots := #[.int (-64)], vm := .none },
  { cls := 7, slots := #[.int (-63)], vm := .none },
  { cls := 7, slots := #[.int (-62)], vm := .none },
  { cls := 7, slots := #[.int (-61)], vm := .none },
  { cls := 7, slots := #[.int (-60)], vm := .none },
  { cls := 7, slots := #[.int (-59)], vm := .none },
  { cls := 7, slots := #[.int (-58)], vm := .none },
  { cls := 7, slots := #[.int (-57)], vm := .none },
  { cls := 7, slots := #[.int (-56)], vm := .none },
  { cls := 7, slots := #[.int (-55)], vm := .none },
  { cls := 7, slots := #[.int (-54)], vm := .none },
  { cls := 7, slots := #[.int (-53)], vm := .none },
  { cls := 7, slots := #[.int (-52)], vm := .none },
  { cls := 7, slots := #[.int (-51)], vm := .none },
  { cls := 7, slots := #[.int (-50)], vm := .none },
  { cls := 7, slots := #[.int (-49)], vm := .none },
  { cls := 7, slots := #[.int (-48)], vm := .none },
  { cls := 7, slots := #[.int (-47)], vm := .none },
  { cls := 7, slots := #[.int (-46)], vm := .none },
  { cls := 7, slots := #[.int (-45)], vm := .none },
  { cls := 7, slots := #[.int (-44)], vm := .none },
  { cls := 7, slots := #[.int (-43)], vm := .none },
  { cls := 7, slots := #[.int (-42)], vm := .none },
  { cls := 7, slots := #[.int (-41)], vm := .none },
  { cls := 7, slots := #[.int (-40)], vm := .none },
  { cls := 7, slots := #[.int (-39)], vm := .none },
  { cls := 7, slots := #[.int (-38)], vm := .none },
  { cls := 7, slots := #[.int (-37)], vm := .none },
  { cls := 7, slots := #[.int (-36)], vm := .none },
  { cls := 7, slots := #[.int (-35)], vm := .none },
  { cls := 7, slots := #[.int (-34)], vm := .none },
  { cls := 7, slots := #[.int (-33)], vm := .none },
  { cls := 7, slots := #[.int (-32)], vm := .none },
  { cls := 7, slots := #[.int (-31)], vm := .none },
  { cls := 7, slots := #[.int (-30)], vm := .none },
  { cls := 7, slots := #[.int (-29)], vm := .none },
  { cls := 7, slots := #[.int (-28)], vm := .none },
  { cls := 7, slots := #[.int (-27)], vm := .none },
  { cls := 7, slots := #[.int (-26)], vm := .none },
  { cls := 7, slots := #[.int (-25)], vm := .none },
  { cls := 7, slots := #[.int (-24)], vm := .none },
  { cls := 7, slots := #[.int (-23)], vm := .none },
  { cls := 7, slots := #[.int (-22)], vm := .none },
  { cls := 7, slots := #[.int (-21)], vm := .none },
  { cls := 7, slots := #[.int (-20)], vm := .none },
  { cls := 7, slots := #[.int (-19)], vm := .none },
  { cls := 7, slots := #[.int (-18)], vm := .none },
  { cls := 7, slots := #[.int (-17)], vm := .none },
  { cls := 7, slots := #[.int (-16)], vm := .none },
  { cls := 7, slots := #[.int (-15)], vm := .none },
  { cls := 7, slots := #[.int (-14)], vm := .none },
  { cls := 7, slots := #[.int (-13)], vm := .none },
  { cls := 7, slots := #[.int (-12)], vm := .none },
  { cls := 7, slots := #[.int (-11)], vm := .none },
  { cls := 7, slots := #[.int (-10)], vm := .none },
  { cls := 7, slots := #[.int (-9)], vm := .none },
  { cls := 7, slots := #[.int (-8)], vm := .none },
  { cls := 7, slots := #[.int (-7)], vm := .none },
  { cls := 7, slots := #[.int (-6)], vm := .none },
  { cls := 7, slots := #[.int (-5)], vm := .none },
  { cls := 7, slots := #[.int (-4)], vm := .none },
  { cls := 7, slots := #[.int (-3)], vm := .none },
  { cls := 7, slots := #[.int (-2)], vm := .none },
  { cls := 7, slots := #[.int (-1)], vm := .none },
  { cls := 7, slots := #[.int 0], vm := .none },
  { cls := 7, slots := #[.int 1], vm := .none },
  { cls := 7, slots := #[.int 2], vm := .none },
  { cls := 7, slots := #[.int 3], vm := .none },
  { cls := 7, slots := #[.int 4], vm := .none },
  { cls := 7, slots := #[.int 5], vm := .none },
  { cls := 7, slots := #[.int 6], vm := .none },
  { cls := 7, slots := #[.int 7], vm := .none },
  { cls := 7, slots := #[.int 8], vm := .none },
  { cls := 7, slots := #[.int 9], vm := .none },
  { cls := 7, slots := #[.int 10], vm := .none },
  { cls := 7, slots := #[.int 11], vm := .none },
  { cls := 7, slots := #[.int 12], vm := .none },
  { cls := 7, slots := #[.int 13], vm := .none },
  { cls := 7, slots := #[.int 14], vm := .none },
  { cls := 7, slots := #[.int 15], vm := .none },
  { cls := 7, slots := #[.int 16], vm := .none },
  { cls := 7, slots := #[.int 17], vm := .none },
  { cls := 7, slots := #[.int 18], vm := .none },
  { cls := 7, slots := #[.int 19], vm := .none },
  { cls := 7, slots := #[.int 20], vm := .none },
  { cls := 7, slots := #[.int 21], vm := .none },
  { cls := 7, slots := #[.int 22], vm := .none },
  { cls := 7, slots := #[.int 23], vm := .none },
  { cls := 7, slots := #[.int 24], vm := .none },
  { cls := 7, slots := #[.int 25], vm := .none },
  { cls := 7, slots := #[.int 26], vm := .none },
  { cls := 7, slots := #[.int 27], vm := .none },
  { cls := 7, slots := #[.int 28], vm := .none },
  { cls := 7, slots := #[.int 29], vm := .none },
  { cls := 7, slots := #[.int 30], vm := .none },
  { cls := 7, slots := #[.int 31], vm := .none },
  { cls := 7, slots := #[.int 32], vm := .none },
  { cls := 7, slots := #[.int 33], vm := .none },
  { cls := 7, slots := #[.int 34], vm := .none },
  { cls := 7, slots := #[.int 35], vm := .none },
  { cls := 7, slots := #[.int 36], vm := .none },
  { cls := 7, slots := #[.int 37], vm := .none },
  { cls := 7, slots := #[.int 38], vm := .none },
  { cls := 7, slots := #[.int 39], vm := .none },
  { cls := 7, slots := #[.int 40], vm := .none },
  { cls := 7, slots := #[.int 41], vm := .none },
  { cls := 7, slots := #[.int 42], vm := .none },
  { cls := 7, slots := #[.int 43], vm := .none },
  { cls := 7, slots := #[.int 44], vm := .none },
  { cls := 7, slots := #[.int 45], vm := .none },
  { cls := 7, slots := #[.int 46], vm := .none },
  { cls := 7, slots := #[.int 47], vm := .none },
  { cls := 7, slots := #[.int 48], vm := .none },
  { cls := 7, slots := #[.int 49], vm := .none },
  { cls := 7, slots := #[.int 50], vm := .none },
  { cls := 7, slots := #[.int 51], vm := .none },
  { cls := 7, slots := #[.int 52], vm := .none },
  { cls := 7, slots := #[.int 53], vm := .none },
  { cls := 7, slots := #[.int 54], vm := .none },
  { cls := 7, slots := #[.int 55], vm := .none },
  { cls := 7, slots := #[.int 56], vm := .none },
  { cls := 7, slots := #[.int 57], vm := .none },
  { cls := 7, slots := #[.int 58], vm := .none },
  { cls := 7, slots := #[.int 59], vm := .none },
  { cls := 7, slots := #[.int 60], vm := .none },
  { cls := 7, slots := #[.int 61], vm := .none },
  { cls := 7, slots := #[.int 62], vm := .none },
  { cls := 7, slots := #[.int 63], vm := .none },
  { cls := 7, slots := #[.int 64], vm := .none },
  { cls := 7, slots := #[.int 65], vm := .none },
  { cls := 7, slots := #[.int 66], vm := .none },
  { cls := 7, slots := #[.int 67], vm := .none },
  { cls := 7, slots := #[.int 68], vm := .none },
  { cls := 7, slots := #[.int 69], vm := .none },
  { cls := 7, slots := #[.int 70], vm := .none },
  { cls := 7, slots := #[.int 71], vm := .none },
  { cls := 7, slots := #[.int 72], vm := .none },
  { cls := 7, slots := #[.int 73], vm := .none },
  { cls := 7, slots := #[.int 74], vm := .none },
  { cls := 7, slots := #[.int 75], vm := .none },
  { cls := 7, slots := #[.int 76], vm := .none },
  { cls := 7, slots := #[.int 77], vm := .none },
  { cls := 7, slots := #[.int 78], vm := .none },
  { cls := 7, slots := #[.int 79], vm := .none },
  { cls := 7, slots := #[.int 80], vm := .none },
  { cls := 7, slots := #[.int 81], vm := .none },
  { cls := 7, slots := #[.int 82], vm := .none },
  { cls := 7, slots := #[.int 83], vm := .none },
  { cls := 7, slots := #[.int 84], vm := .none },
  { cls := 7, slots := #[.int 85], vm := .none },
  { cls := 7, slots := #[.int 86], vm := .none },
  { cls := 7, slots := #[.int 87], vm := .none },
  { cls := 7, slots := #[.int 88], vm := .none },
  { cls := 7, slots := #[.int 89], vm := .none },
  { cls := 7, slots := #[.int 90], vm := .none },
  { cls := 7, slots := #[.int 91], vm := .none },
  { cls := 7, slots := #[.int 92], vm := .none },
  { cls := 7, slots := #[.int 93], vm := .none },
  { cls := 7, slots := #[.int 94], vm := .none },
  { cls := 7, slots := #[.int 95], vm := .none },
  { cls := 7, slots := #[.int 96], vm := .none },
  { cls := 7, slots := #[.int 97], vm := .none },
  { cls := 7, slots := #[.int 98], vm := .none },
  { cls := 7, slots := #[.int 99], vm := .none },
  { cls := 7, slots := #[.int 100], vm := .none },
  { cls := 7, slots := #[.int 101], vm := .none },
  { cls := 7, slots := #[.int 102], vm := .none },
  { cls := 7, slots := #[.int 103], vm := .none },
  { cls := 7, slots := #[.int 104], vm := .none },
  { cls := 7, slots := #[.int 105], vm := .none },
  { cls := 7, slots := #[.int 106], vm := .none },
  { cls := 7, slots := #[.int 107], vm := .none },
  { cls := 7, slots := #[.int 108], vm := .none },
  { cls := 7, slots := #[.int 109], vm := .none },
  { cls := 7, slots := #[.int 110], vm := .none },
  { cls := 7, slots := #[.int 111], vm := .none },
  { cls := 7, slots := #[.int 112], vm := .none },
  { cls := 7, slots := #[.int 113], vm := .none },
  { cls := 7, slots := #[.int 114], vm := .none },
  { cls := 7, slots := #[.int 115], vm := .none },
  { cls := 7, slots := #[.int 116], vm := .none },
  { cls := 7, slots := #[.int 117], vm := .none },
  { cls := 7, slots := #[.int 118], vm := .none },
  { cls := 7, slots := #[.int 119], vm := .none },
  { cls := 7, slots := #[.int 120], vm := .none },
  { cls := 7, slots := #[.int 121], vm := .none },
  { cls := 7, slots := #[.int 122], vm := .none },
  { cls := 7, slots := #[.int 123], vm := .none },
  { cls := 7, slots := #[.int 124], vm := .none },
  { cls := 7, slots := #[.int 125], vm := .none },
  { cls := 7, slots := #[.int 126], vm := .none },
  { cls := 7, slots := #[.int 127], vm := .none }]
def classes : Array Class := #[k0, k1, k2, k3, k4, k5, k6, k7, k8, k9, k10, k11, k12, k13, k14, k15, k16, k17]
def interned : List (Array UInt16 × Addr) := []
def slotsUsed : Nat := 517
def theMethod : MethodId := ⟨1, 2⟩
def args0 : Array Value := #[.int 5, .int 300, .int 7, .int 1, .int 2, .int 3]
def aboutOver (below : List Frame) : State where
  vm := { classes := classes, interned := interned.toArray }
  heap := heap
  slotsUsed := slotsUsed
  threads := #[{ frames := .invoking theMethod args0 :: below }]
def below0 : List Frame := [.native { method := ⟨0, 0⟩, args := #[] }]
def about1 : State := aboutOver below0
def p0 : Program := .bare "" "" ""
def e0 : Env := launch0.env 0 0 0
theorem w_frames : about1.frames = Frame.invoking theMethod args0 :: below0 := rfl
set_option maxRecDepth 65536 in
theorem w_args : argsFit about1.vm theMethod args0 = true := by decide +kernel
set_option maxRecDepth 65536 in
theorem w_heap : heapFits about1 = true := by decide +kernel
set_option maxRecDepth 65536 in
theorem w_runnable : about1.curStatus? = some .runnable := by decide +kernel
set_option maxRecDepth 65536 in
theorem w_alone : about1.alone = true := by decide +kernel
set_option maxRecDepth 65536 in
theorem w_named : about1.methodNamed? x = some theMethod := by decide +kernel
set_option maxRecDepth 65536 in
theorem w_hears : about1.hears theMethod below0 = true := by decide +kernel
set_option maxRecDepth 65536 in
theorem w_ripe : about1.ripe theMethod args0 below0 = true := by decide +kernel
theorem w_running : about1.status = .running := rfl
set_option maxRecDepth 65536 in
theorem w_room : about1.hasRoom e0.platform room_1 = true :=
  launch0.hasRoom_least _ room_1 (by decide +kernel) (by decide +kernel) (by decide +kernel) (by decide +kernel) (by decide +kernel) (by decide +kernel)
theorem allAtoms_all (ts : List Jvm.Cond) (a : Array Jvm.Value) (st : Jvm.State) : (allAtoms ts).before a st = ts.all (fun c => c.before a st) := by
  induction ts with
  | nil => rfl
  | cons c t ih =>
    show (Jvm.Cond.and c (allAtoms t)).before a st = _
    rw [Jvm.Cond.before_and, ih, List.all_cons]
def words1 : List Jvm.Cond := Jvm.Cond.code x code maxLocals ret :: tables_1
/-- a 'code' word, met by the world's own term for the bytes: nothing is compared byte by byte -/
theorem code_word {y : MethodName} {bytes : ByteArray} {mx : Nat} {rt : Option FieldType} {a : Array Value} {s : State} {m : MethodId} {meth : Method} {c : Code} (h1 : s.methodNamed? y = some m) (h2 : s.vm.method? m = some meth) (h3 : meth.code = some c) (h4 : c.code = bytes)
    (h5 : (c.maxLocals == mx && c.exceptionTable.isEmpty && decide (c.maxStack ≤ mostOperands) && decide (meth.sig.returnType = rt) && !meth.locks && decide (parseMethodDescriptor y.desc = some meth.sig)) = true) : (Jvm.Cond.code y bytes mx rt).before a s = true := by
  simp only [Bool.and_eq_true, beq_iff_eq, Bool.not_eq_true', decide_eq_true_eq] at h5
  obtain ⟨⟨⟨⟨⟨g1, g2⟩, g3⟩, g4⟩, g5⟩, g6⟩ := h5
  simp [Cond.before, Cond.holds, Cond.value, h1, h2, h3, h4, g1, g2, g3, g4, g5, g6]
def isCode : Jvm.Cond → Bool
  | .code _ _ _ _ => true
  | _ => false
theorem all_split {L : List Jvm.Cond} {P : Jvm.Cond → Bool} (h1 : L.all (fun c => isCode c || P c) = true) (h2 : ∀ c ∈ L.filter isCode, P c = true) : L.all P = true := by
  refine List.all_eq_true.mpr fun c hc => ?_
  have h := List.all_eq_true.mp h1 c hc
  rcases Bool.eq_false_or_eq_true (isCode c) with hi | hi
  · exact h2 c (List.mem_filter.mpr ⟨hc, hi⟩)
  · simpa [hi] using h
set_option maxRecDepth 65536 in
theorem w_c0 : (Jvm.Cond.code x code maxLocals ret).before args0 about1 = true := code_word (m := ⟨1, 2⟩) (meth := k1m2) (c := k1c2) (by decide +kernel) rfl rfl rfl (by decide +kernel)
set_option maxRecDepth 65536 in
theorem w_c1 : (Jvm.Cond.code ({ cls := "java/lang/Integer", name := "valueOf", desc := "(I)Ljava/lang/Integer;" } : Jvm.MethodName) jdk_33_method_22_code (1 : Nat) (Option.some (Jvm.ClassFile.FieldType.object "java/lang/Integer"))).before args0 about1 = true := code_word (m := ⟨7, 0⟩) (meth := k7m0) (c := k7c0) (by decide +kernel) rfl rfl rfl (by decide +kernel)
set_option maxRecDepth 65536 in
theorem w_c2 : (Jvm.Cond.code ({ cls := "com/example/pagemason/pagemason/core/Spares", name := "<init>", desc := "(I)V" } : Jvm.MethodName) prog_71_method_1_code (2 : Nat) (Option.none : Option Jvm.ClassFile.FieldType)).before args0 about1 = true := code_word (m := ⟨9, 0⟩) (meth := k9m0) (c := k9c0) (by decide +kernel) rfl rfl rfl (by decide +kernel)
set_option maxRecDepth 65536 in
theorem w_c3 : (Jvm.Cond.code ({ cls := "java/lang/Object", name := "<init>", desc := "()V" } : Jvm.MethodName) object_method_1_code (1 : Nat) (Option.none : Option Jvm.ClassFile.FieldType)).before args0 about1 = true := code_word (m := ⟨0, 0⟩) (meth := k0m0) (c := k0c0) (by decide +kernel) rfl rfl rfl (by decide +kernel)
set_option maxRecDepth 65536 in
theorem w_c4 : (Jvm.Cond.code ({ cls := "java/lang/Math", name := "min", desc := "(II)I" } : Jvm.MethodName) jdk_29_method_69_code (2 : Nat) (Option.some Jvm.ClassFile.FieldType.int)).before args0 about1 = true := code_word (m := ⟨10, 2⟩) (meth := k10m2) (c := k10c2) (by decide +kernel) rfl rfl rfl (by decide +kernel)
set_option maxRecDepth 65536 in
theorem w_c5 : (Jvm.Cond.code ({ cls := "com/example/pagemason/pagemason/core/Spares", name := "take", desc := "()Ljava/lang/Object;" } : Jvm.MethodName) prog_71_method_3_code (2 : Nat) (Option.some (Jvm.ClassFile.FieldType.object "java/lang/Object"))).before args0 about1 = true := code_word (m := ⟨9, 2⟩) (meth := k9m2) (c := k9c2) (by decide +kernel) rfl rfl rfl (by decide +kernel)
set_option maxRecDepth 65536 in
theorem w_c6 : (Jvm.Cond.code ({ cls := "com/example/pagemason/pagemason/core/SparesTakePinLaw", name := "same", desc := "(Ljava/lang/Integer;Ljava/lang/Integer;)Z" } : Jvm.MethodName) method_2_code (2 : Nat) (Option.some Jvm.ClassFile.FieldType.boolean)).before args0 about1 = true := code_word (m := ⟨1, 1⟩) (meth := k1m1) (c := k1c1) (by decide +kernel) rfl rfl rfl (by decide +kernel)
set_option maxRecDepth 65536 in
theorem w_c7 : (Jvm.Cond.code ({ cls := "java/lang/Math", name := "max", desc := "(II)I" } : Jvm.MethodName) jdk_29_method_65_code (2 : Nat) (Option.some Jvm.ClassFile.FieldType.int)).before args0 about1 = true := code_word (m := ⟨10, 1⟩) (meth := k10m1) (c := k10c1) (by decide +kernel) rfl rfl rfl (by decide +kernel)
set_option maxRecDepth 65536 in
theorem w_c8 : (Jvm.Cond.code ({ cls := "com/example/pagemason/pagemason/core/Spares", name := "keep", desc := "(Ljava/lang/Object;)V" } : Jvm.MethodName) prog_71_method_2_code (2 : Nat) (Option.none : Option Jvm.ClassFile.FieldType)).before args0 about1 = true := code_word (m := ⟨9, 1⟩) (meth := k9m1) (c := k9c1) (by decide +kernel) rfl rfl rfl (by decide +kernel)
set_option maxRecDepth 65536 in
theorem w_c9 : (Jvm.Cond.code ({ cls := "java/lang/Integer", name := "<init>", desc := "(I)V" } : Jvm.MethodName) jdk_33_method_23_code (2 : Nat) (Option.none : Option Jvm.ClassFile.FieldType)).before args0 about1 = true := code_word (m := ⟨7, 1⟩) (meth := k7m1) (c := k7c1) (by decide +kernel) rfl rfl rfl (by decide +kernel)
set_option maxRecDepth 65536 in
theorem w_c10 : (Jvm.Cond.code ({ cls := "java/lang/Number", name := "<init>", desc := "()V" } : Jvm.MethodName) jdk_18_method_1_code (1 : Nat) (Option.none : Option Jvm.ClassFile.FieldType)).before args0 about1 = true := code_word (m := ⟨3, 0⟩) (meth := k3m0) (c := k3c0) (by decide +kernel) rfl rfl rfl (by decide +kernel)
set_option maxRecDepth 65536 in
theorem w_c11 : (Jvm.Cond.code ({ cls := "java/lang/Integer", name := "intValue", desc := "()I" } : Jvm.MethodName) jdk_33_method_27_code (1 : Nat) (Option.some Jvm.ClassFile.FieldType.int)).before args0 about1 = true := code_word (m := ⟨7, 2⟩) (meth := k7m2) (c := k7c2) (by decide +kernel) rfl rfl rfl (by decide +kernel)
def codes1 : List Jvm.Cond := [Jvm.Cond.code x code maxLocals ret, Jvm.Cond.code ({ cls := "java/lang/Integer", name := "valueOf", desc := "(I)Ljava/lang/Integer;" } : Jvm.MethodName) jdk_33_method_22_code (1 : Nat) (Option.some (Jvm.ClassFile.FieldType.object "java/lang/Integer")), Jvm.Cond.code ({ cls := "com/example/pagemason/pagemason/core/Spares", name := "<init>", desc := "(I)V" } : Jvm.MethodName) prog_71_method_1_code (2 : Nat) (Option.none : Option Jvm.ClassFile.FieldType), Jvm.Cond.code ({ cls := "java/lang/Object", name := "<init>", desc := "()V" } : Jvm.MethodName) object_method_1_code (1 : Nat) (Option.none : Option Jvm.ClassFile.FieldType), Jvm.Cond.code ({ cls := "java/lang/Math", name := "min", desc := "(II)I" } : Jvm.MethodName) jdk_29_method_69_code (2 : Nat) (Option.some Jvm.ClassFile.FieldType.int), Jvm.Cond.code ({ cls := "com/example/pagemason/pagemason/core/Spares", name := "take", desc := "()Ljava/lang/Object;" } : Jvm.MethodName) prog_71_method_3_code (2 : Nat) (Option.some (Jvm.ClassFile.FieldType.object "java/lang/Object")), Jvm.Cond.code ({ cls := "com/example/pagemason/pagemason/core/SparesTakePinLaw", name := "same", desc := "(Ljava/lang/Integer;Ljava/lang/Integer;)Z" } : Jvm.MethodName) method_2_code (2 : Nat) (Option.some Jvm.ClassFile.FieldType.boolean), Jvm.Cond.code ({ cls := "java/lang/Math", name := "max", desc := "(II)I" } : Jvm.MethodName) jdk_29_method_65_code (2 : Nat) (Option.some Jvm.ClassFile.FieldType.int), Jvm.Cond.code ({ cls := "com/example/pagemason/pagemason/core/Spares", name := "keep", desc := "(Ljava/lang/Object;)V" } : Jvm.MethodName) prog_71_method_2_code (2 : Nat) (Option.none : Option Jvm.ClassFile.FieldType), Jvm.Cond.code ({ cls := "java/lang/Integer", name := "<init>", desc := "(I)V" } : Jvm.MethodName) jdk_33_method_23_code (2 : Nat) (Option.none : Option Jvm.ClassFile.FieldType), Jvm.Cond.code ({ cls := "java/lang/Number", name := "<init>", desc := "()V" } : Jvm.MethodName) jdk_18_method_1_code (1 : Nat) (Option.none : Option Jvm.ClassFile.FieldType), Jvm.Cond.code ({ cls := "java/lang/Integer", name := "intValue", desc := "()I" } : Jvm.MethodName) jdk_33_method_27_code (1 : Nat) (Option.some Jvm.ClassFile.FieldType.int)]
set_option maxRecDepth 65536 in
theorem codes_eq : words1.filter isCode = codes1 := rfl
theorem w_codes : ∀ c ∈ words1.filter isCode, c.before args0 about1 = true := by
  rw [codes_eq]
  intro c hc
  simp only [codes1, List.mem_cons, List.not_mem_nil, or_false] at hc
  rcases hc with rfl | rfl | rfl | rfl | rfl | rfl | rfl | rfl | rfl | rfl | rfl | rfl
  · exact w_c0
  · exact w_c1
  · exact w_c2
  · exact w_c3
  · exact w_c4
  · exact w_c5
  · exact w_c6
  · exact w_c7
  · exact w_c8
  · exact w_c9
  · exact w_c10
  · exact w_c11
set_option maxRecDepth 65536 in
theorem w_t1 : (words1.take 24).all (fun c => isCode c || c.before args0 about1) = true := by decide +kernel
set_option maxRecDepth 65536 in
theorem w_t2 : ((words1.drop 24).take 24).all (fun c => isCode c || c.before args0 about1) = true := by decide +kernel
set_option maxRecDepth 65536 in
theorem w_t3 : ((words1.drop 24).drop 24).all (fun c => isCode c || c.before args0 about1) = true := by decide +kernel
theorem w_tables : (allAtoms (Jvm.Cond.code x code maxLocals ret :: tables_1)).before args0 about1 = true := by
  rw [allAtoms_all]
  show words1.all (fun c => c.before args0 about1) = true
  refine all_split ?_ w_codes
  rw [← List.take_append_drop 24 words1, List.all_append, w_t1, ← List.take_append_drop 24 (words1.drop 24), List.all_append, w_t2, w_t3]
  rfl
set_option maxRecDepth 65536 in
theorem w_rest : rest_1_c.before args0 about1 = true := by decide +kernel
set_option maxRecDepth 65536 in
theorem w_case : (Jvm.Cond.and given_1 narrow_1).before args0 about1 = true := by decide +kernel
theorem w_applies : (headSpec (Jvm.Cond.code x code maxLocals ret :: tables_1) room_1).applies x e0.platform about1 = true :=
  (Spec.applies_iff w_frames).mpr ⟨w_running, w_runnable, w_alone, w_named, w_hears, w_ripe, w_room, w_tables⟩
theorem atStart : AtStart classFile x code maxLocals ret World_1 tables_1 room_1 Calls_1 rest_1 Pre_1 launch0 p0 e0 about1 theMethod args0 below0 :=
  ⟨lists_1, trivial, launch0.admits_env _ _ _, launch0.least_env, fairChoices_fair.cas, fairChoices_fair.clock, w_frames, w_args, w_heap, w_applies, trivial, w_rest, w_case⟩
end start1
theorem witness_1 : WitnessClaimed_1 := ⟨start1.p0, start1.e0, start1.about1, start1.theMethod, start1.args0, start1.below0, start1.atStart⟩
end Jvm.Pilot.@@N@@
