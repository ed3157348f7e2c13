import JvmDerived
import JvmDerived.Pilot.@@N@@Statement
import JvmDerived.Pilot.@@N@@Code
set_option linter.unusedVariables false
set_option linter.unusedSimpArgs false
namespace Jvm.Pilot.@@N@@
open Jvm Jvm.ClassFile Sem Op Lib Jvm.Free Jvm.Stand Jvm.LawKit Jvm.RoadKit Bundle Jvm.Pilot.@@N@@.Jvm.D
/-! own layer: the walk goes forward; own_G S: from S the body ends as F says -/
def own_G (tb : Tables) (e : Env) (below : List Frame) (F : Outcome → State → Prop) (S : State) : Prop :=
  ∃ s₂ o, Steps tb e below S s₂ ∧ s₂.status = .running ∧ Ended s₂ below o ∧ F o s₂
theorem own_go {tb : Tables} {e : Env} {below : List Frame} {F : Outcome → State → Prop} {A B : State} (st : ∀ t, Steps tb e below B t → Steps tb e below A t) (h : own_G tb e below F B) : own_G tb e below F A := by
  obtain ⟨t, o, h1, h2⟩ := h
  exact ⟨t, o, st t h1, h2⟩
theorem own_tr {tb : Tables} {e : Env} {below : List Frame} {F : Outcome → State → Prop} {A B : State} (st : Steps tb e below A B) (h : own_G tb e below F B) : own_G tb e below F A := own_go (fun _ k => st.trans k) h
theorem own_b {n k : Nat} (h : Nat.ble n k = true) : n ≤ k := Nat.le_of_ble_eq_true h
def own_yes {α : Type} [LT α] : ClassFile.Cond → α → α → Prop
  | .eq, x, y => x = y
  | .ne, x, y => ¬ x = y
  | .lt, x, y => x < y
  | .ge, x, y => ¬ x < y
  | .gt, x, y => y < x
  | .le, x, y => ¬ y < x
def own_no {α : Type} [LT α] : ClassFile.Cond → α → α → Prop
  | .eq, x, y => ¬ x = y
  | .ne, x, y => x = y
  | .lt, x, y => ¬ x < y
  | .ge, x, y => x < y
  | .gt, x, y => ¬ y < x
  | .le, x, y => y < x
theorem own_hy {cd : ClassFile.Cond} {x y : Int32} (h : own_yes cd x y) : if_icmp.holds cd x y = true := by
  cases cd
  · exact (teq h).1
  · exact (feq h).2
  · exact (tlt h).1
  · exact (flt h).2.1
  · exact (tlt h).2.2.1
  · exact (flt h).2.2.2
theorem own_hn {cd : ClassFile.Cond} {x y : Int32} (h : own_no cd x y) : if_icmp.holds cd x y = false := by
  cases cd
  · exact (feq h).1
  · exact (teq h).2
  · exact (flt h).1
  · exact (tlt h).2.1
  · exact (flt h).2.2.1
  · exact (tlt h).2.2.2
theorem own_yn {cd : ClassFile.Cond} {x y : Int32} : own_yes cd x y ∨ own_no cd x y := by
  cases cd
  · exact Classical.em _
  · exact (Classical.em _).symm
  · exact Classical.em _
  · exact (Classical.em _).symm
  · exact Classical.em _
  · exact (Classical.em _).symm
theorem own_ynL {cd : ClassFile.Cond} {x y : Int64} : own_yes cd x y ∨ own_no cd x y := by
  cases cd
  · exact Classical.em _
  · exact (Classical.em _).symm
  · exact Classical.em _
  · exact (Classical.em _).symm
  · exact Classical.em _
  · exact (Classical.em _).symm
theorem own_hyL {cd : ClassFile.Cond} {x y : Int64} (h : own_yes cd x y) : ifCond.holds cd (lcmpW x y) = true := by
  rw [if0]
  refine own_hy ?_
  cases cd
  · exact (lw_eq x y).mpr h
  · exact fun q => h ((lw_eq x y).mp q)
  · exact (lw_lt x y).mpr h
  · exact fun q => h ((lw_lt x y).mp q)
  · exact (lw_gt x y).mpr h
  · exact fun q => h ((lw_gt x y).mp q)
theorem own_hnL {cd : ClassFile.Cond} {x y : Int64} (h : own_no cd x y) : ifCond.holds cd (lcmpW x y) = false := by
  rw [if0]
  refine own_hn ?_
  cases cd
  · exact fun q => h ((lw_eq x y).mp q)
  · exact (lw_eq x y).mpr h
  · exact fun q => h ((lw_lt x y).mp q)
  · exact (lw_lt x y).mpr h
  · exact fun q => h ((lw_gt x y).mp q)
  · exact (lw_gt x y).mpr h
section Own
variable {p : Program} {l : Launch} {e : Env} {R : Room} {s : State} {m : MethodId} {args : Array Value} {below : List Frame} {meth : Method} {c : Code} {T : State} {locs : List Loc} {cells slots : Nat} {F : Outcome → State → Prop}
theorem own_abs {n0 : Nat} (X : Stand p l e R s m args below meth c T locs cells slots) (N : Fr n0 locs) : ∃ L, Stand p l e R s m args below meth c T L cells slots ∧ Fr n0 L := ⟨locs, X, N⟩
theorem own_absC {n0 K K' : Nat} {L Lc : List Loc} {k n : Nat} (X : Stand p l e R s m args below meth c T L k n) (hl : L = locs ++ Lc) (hk : k = K) (hn : n = K') (N : Fr n0 locs) (N' : Fr n0 Lc) : ∃ L, Stand p l e R s m args below meth c T L K K' ∧ Fr n0 L := by
  subst hk hn
  exact ⟨L, X, by rw [hl]; exact Fr.app N N'⟩
theorem own_icmpY (X : Stand p l e R s m args below meth c T locs cells slots) (hx : p.tables.exec = Jvm.exec) {cd : ClassFile.Cond} {x y : Int32} {o : Int} {pc pc' : Nat} {Ls : Array Slot} {rest : List Value} (hd : decode c.code pc = .ok (.if_icmp cd o, 3)) (ho : 0 ≤ (pc : Int) + o) (hp : ((pc : Int) + o).toNat = pc')
    (hc : own_yes cd x y) (h1 : own_G p.tables e below F (T.setTop (mkF m pc' Ls rest))) : own_G p.tables e below F (T.setTop (mkF m pc Ls (.int y :: .int x :: rest))) :=
  own_go (fun _ k => XS.icmpYes X.here hx rfl (pc0 := pc) (pc' := pc') rfl hd rfl (own_hy hc) ho hp k) h1
theorem own_icmpN (X : Stand p l e R s m args below meth c T locs cells slots) (hx : p.tables.exec = Jvm.exec) {cd : ClassFile.Cond} {x y : Int32} {o : Int} {pc pn : Nat} {Ls : Array Slot} {rest : List Value} (hd : decode c.code pc = .ok (.if_icmp cd o, 3)) (hq : pc + 3 = pn)
    (hc : own_no cd x y) (h1 : own_G p.tables e below F (T.setTop (mkF m pn Ls rest))) : own_G p.tables e below F (T.setTop (mkF m pc Ls (.int y :: .int x :: rest))) := by
  subst hq
  exact own_go (fun _ k => XS.icmpNo X.here hx rfl hd rfl (own_hn hc) k) h1
theorem own_icmp (X : Stand p l e R s m args below meth c T locs cells slots) (hx : p.tables.exec = Jvm.exec) {cd : ClassFile.Cond} {x y : Int32} {o : Int} {pc pc' pn : Nat} {Ls : Array Slot} {rest : List Value} (hd : decode c.code pc = .ok (.if_icmp cd o, 3)) (ho : 0 ≤ (pc : Int) + o) (hp : ((pc : Int) + o).toNat = pc') (hq : pc + 3 = pn)
    (h1 : own_yes cd x y → own_G p.tables e below F (T.setTop (mkF m pc' Ls rest))) (h2 : own_no cd x y → own_G p.tables e below F (T.setTop (mkF m pn Ls rest))) : own_G p.tables e below F (T.setTop (mkF m pc Ls (.int y :: .int x :: rest))) :=
  own_yn.elim (fun q => own_icmpY X hx hd ho hp q (h1 q)) (fun q => own_icmpN X hx hd hq q (h2 q))
theorem own_ifY (X : Stand p l e R s m args below meth c T locs cells slots) (hx : p.tables.exec = Jvm.exec) {cd : ClassFile.Cond} {x : Int32} {o : Int} {pc pc' : Nat} {Ls : Array Slot} {rest : List Value} (hd : decode c.code pc = .ok (.ifCond cd o, 3)) (ho : 0 ≤ (pc : Int) + o) (hp : ((pc : Int) + o).toNat = pc')
    (hc : own_yes cd x 0) (h1 : own_G p.tables e below F (T.setTop (mkF m pc' Ls rest))) : own_G p.tables e below F (T.setTop (mkF m pc Ls (.int x :: rest))) :=
  own_go (fun _ k => XS.ifYes X.here hx rfl (pc0 := pc) (pc' := pc') rfl hd rfl ((if0 cd x).trans (own_hy hc)) ho hp k) h1
theorem own_ifN (X : Stand p l e R s m args below meth c T locs cells slots) (hx : p.tables.exec = Jvm.exec) {cd : ClassFile.Cond} {x : Int32} {o : Int} {pc pn : Nat} {Ls : Array Slot} {rest : List Value} (hd : decode c.code pc = .ok (.ifCond cd o, 3)) (hq : pc + 3 = pn)
    (hc : own_no cd x 0) (h1 : own_G p.tables e below F (T.setTop (mkF m pn Ls rest))) : own_G p.tables e below F (T.setTop (mkF m pc Ls (.int x :: rest))) := by
  subst hq
  exact own_go (fun _ k => XS.ifNo X.here hx rfl hd rfl ((if0 cd x).trans (own_hn hc)) k) h1
theorem own_if (X : Stand p l e R s m args below meth c T locs cells slots) (hx : p.tables.exec = Jvm.exec) {cd : ClassFile.Cond} {x : Int32} {o : Int} {pc pc' pn : Nat} {Ls : Array Slot} {rest : List Value} (hd : decode c.code pc = .ok (.ifCond cd o, 3)) (ho : 0 ≤ (pc : Int) + o) (hp : ((pc : Int) + o).toNat = pc') (hq : pc + 3 = pn)
    (h1 : own_yes cd x 0 → own_G p.tables e below F (T.setTop (mkF m pc' Ls rest))) (h2 : own_no cd x 0 → own_G p.tables e below F (T.setTop (mkF m pn Ls rest))) : own_G p.tables e below F (T.setTop (mkF m pc Ls (.int x :: rest))) :=
  own_yn.elim (fun q => own_ifY X hx hd ho hp q (h1 q)) (fun q => own_ifN X hx hd hq q (h2 q))
theorem own_lifY (X : Stand p l e R s m args below meth c T locs cells slots) (hx : p.tables.exec = Jvm.exec) {cd : ClassFile.Cond} {x y : Int64} {o : Int} {pc pc' : Nat} {Ls : Array Slot} {rest : List Value} (hd : decode c.code pc = .ok (.ifCond cd o, 3)) (ho : 0 ≤ (pc : Int) + o) (hp : ((pc : Int) + o).toNat = pc')
    (hc : own_yes cd x y) (h1 : own_G p.tables e below F (T.setTop (mkF m pc' Ls rest))) : own_G p.tables e below F (T.setTop (mkF m pc Ls (.int (lcmpW x y) :: rest))) :=
  own_go (fun _ k => XS.ifYes X.here hx rfl (pc0 := pc) (pc' := pc') rfl hd rfl (own_hyL hc) ho hp k) h1
theorem own_lifN (X : Stand p l e R s m args below meth c T locs cells slots) (hx : p.tables.exec = Jvm.exec) {cd : ClassFile.Cond} {x y : Int64} {o : Int} {pc pn : Nat} {Ls : Array Slot} {rest : List Value} (hd : decode c.code pc = .ok (.ifCond cd o, 3)) (hq : pc + 3 = pn)
    (hc : own_no cd x y) (h1 : own_G p.tables e below F (T.setTop (mkF m pn Ls rest))) : own_G p.tables e below F (T.setTop (mkF m pc Ls (.int (lcmpW x y) :: rest))) := by
  subst hq
  exact own_go (fun _ k => XS.ifNo X.here hx rfl hd rfl (own_hnL hc) k) h1
theorem own_lif (X : Stand p l e R s m args below meth c T locs cells slots) (hx : p.tables.exec = Jvm.exec) {cd : ClassFile.Cond} {x y : Int64} {o : Int} {pc pc' pn : Nat} {Ls : Array Slot} {rest : List Value} (hd : decode c.code pc = .ok (.ifCond cd o, 3)) (ho : 0 ≤ (pc : Int) + o) (hp : ((pc : Int) + o).toNat = pc') (hq : pc + 3 = pn)
    (h1 : own_yes cd x y → own_G p.tables e below F (T.setTop (mkF m pc' Ls rest))) (h2 : own_no cd x y → own_G p.tables e below F (T.setTop (mkF m pn Ls rest))) : own_G p.tables e below F (T.setTop (mkF m pc Ls (.int (lcmpW x y) :: rest))) :=
  own_ynL.elim (fun q => own_lifY X hx hd ho hp q (h1 q)) (fun q => own_lifN X hx hd hq q (h2 q))
theorem own_ret (X : Stand p l e R s m args below meth c T locs cells slots) (hx : p.tables.exec = Jvm.exec) (hlk : meth.locks = false) {K N pc : Nat} {Ls : Array Slot} {w : Value} {t : FieldType} {i : Instr} {rest : List Value} {Q : Option Value → Heap → List Loc → Prop} (hret : meth.sig.returnType = some t) (hn : narrow t w = w)
    (hi : (i = .ireturn ∧ (t = .int ∨ t = .boolean ∨ t = .byte ∨ t = .char ∨ t = .short) ∧ ∃ z, w = .int z) ∨ (i = .lreturn ∧ t = .long ∧ ∃ z, w = .long z) ∨ (i = .dreturn ∧ t = .double ∧ ∃ z, w = .double z) ∨ (i = .freturn ∧ t = .float ∧ ∃ z, w = .float z) ∨ (i = .areturn ∧ t.isReference = true ∧ w.isRef = true))
    (hd : decode c.code pc = .ok (i, 1)) (hK : cells ≤ K) (hN : slots ≤ N) (hQ : Q (some w) T.heap locs) :
    own_G p.tables e below (fun o U' => ∃ v L, o = .returned v ∧ Q v U'.heap L ∧ FrameEnd s o U' L K N) (T.setTop (mkF m pc Ls (w :: rest))) := by
  obtain ⟨fs, hr, hrun, hended, hW, hsame⟩ := X.leave (v := some w) (fun h => by rw [hret] at h; cases h) hlk
  exact ⟨_, _, retOut X hx hret hn hi hd hr, hrun, hended, _, _, rfl, hQ, ⟨_, rfl⟩, hW, hsame.mono hK hN⟩
theorem own_retI (X : Stand p l e R s m args below meth c T locs cells slots) (hx : p.tables.exec = Jvm.exec) (hlk : meth.locks = false) {K N pc : Nat} {Ls : Array Slot} {z : Int32} {rest : List Value} {Q : Option Value → Heap → List Loc → Prop} (hret : meth.sig.returnType = some .int)
    (hd : decode c.code pc = .ok (.ireturn, 1)) (hK : cells ≤ K) (hN : slots ≤ N) (hQ : Q (some (.int z)) T.heap locs) :
    own_G p.tables e below (fun o U' => ∃ v L, o = .returned v ∧ Q v U'.heap L ∧ FrameEnd s o U' L K N) (T.setTop (mkF m pc Ls (.int z :: rest))) :=
  own_ret X hx hlk hret rfl (Or.inl ⟨rfl, Or.inl rfl, z, rfl⟩) hd hK hN hQ
theorem own_retZ (X : Stand p l e R s m args below meth c T locs cells slots) (hx : p.tables.exec = Jvm.exec) (hlk : meth.locks = false) {K N pc : Nat} {Ls : Array Slot} {z : Int32} {rest : List Value} {Q : Option Value → Heap → List Loc → Prop} (hret : meth.sig.returnType = some .boolean)
    (hd : decode c.code pc = .ok (.ireturn, 1)) (hz : z = 0 ∨ z = 1) (hK : cells ≤ K) (hN : slots ≤ N) (hQ : Q (some (.int z)) T.heap locs) :
    own_G p.tables e below (fun o U' => ∃ v L, o = .returned v ∧ Q v U'.heap L ∧ FrameEnd s o U' L K N) (T.setTop (mkF m pc Ls (.int z :: rest))) :=
  own_ret X hx hlk hret (by rcases hz with rfl | rfl <;> rfl) (Or.inl ⟨rfl, Or.inr (Or.inl rfl), z, rfl⟩) hd hK hN hQ
theorem own_retL (X : Stand p l e R s m args below meth c T locs cells slots) (hx : p.tables.exec = Jvm.exec) (hlk : meth.locks = false) {K N pc : Nat} {Ls : Array Slot} {z : Int64} {rest : List Value} {Q : Option Value → Heap → List Loc → Prop} (hret : meth.sig.returnType = some .long)
    (hd : decode c.code pc = .ok (.lreturn, 1)) (hK : cells ≤ K) (hN : slots ≤ N) (hQ : Q (some (.long z)) T.heap locs) :
    own_G p.tables e below (fun o U' => ∃ v L, o = .returned v ∧ Q v U'.heap L ∧ FrameEnd s o U' L K N) (T.setTop (mkF m pc Ls (.long z :: rest))) :=
  own_ret X hx hlk hret rfl (Or.inr (Or.inl ⟨rfl, rfl, z, rfl⟩)) hd hK hN hQ
theorem own_retA (X : Stand p l e R s m args below meth c T locs cells slots) (hx : p.tables.exec = Jvm.exec) (hlk : meth.locks = false) {K N pc : Nat} {Ls : Array Slot} {w : Value} {t : FieldType} {rest : List Value} {Q : Option Value → Heap → List Loc → Prop} (hret : meth.sig.returnType = some t) (ht : t.isReference = true) (hw : w.isRef = true)
    (hd : decode c.code pc = .ok (.areturn, 1)) (hK : cells ≤ K) (hN : slots ≤ N) (hQ : Q (some w) T.heap locs) :
    own_G p.tables e below (fun o U' => ∃ v L, o = .returned v ∧ Q v U'.heap L ∧ FrameEnd s o U' L K N) (T.setTop (mkF m pc Ls (w :: rest))) :=
  own_ret X hx hlk hret (by cases t <;> first | (cases ht; done) | (rcases ref_cases hw with rfl | ⟨z, rfl⟩ <;> rfl)) (Or.inr (Or.inr (Or.inr (Or.inr ⟨rfl, ht, hw⟩)))) hd hK hN hQ
theorem own_retV (X : Stand p l e R s m args below meth c T locs cells slots) (hx : p.tables.exec = Jvm.exec) (hlk : meth.locks = false) {K N pc : Nat} {Ls : Array Slot} {Q : Option Value → Heap → List Loc → Prop} (hret : meth.sig.returnType = none)
    (hd : decode c.code pc = .ok (.return_, 1)) (hK : cells ≤ K) (hN : slots ≤ N) (hQ : Q none T.heap locs) :
    own_G p.tables e below (fun o U' => ∃ v L, o = .returned v ∧ Q v U'.heap L ∧ FrameEnd s o U' L K N) (T.setTop (mkF m pc Ls [])) := by
  obtain ⟨fs, hr, hrun, hended, hW, hsame⟩ := X.leave (v := none) (fun _ => rfl) hlk
  exact ⟨_, _, X.returnOut hx hret hd hr, hrun, hended, _, _, rfl, hQ, ⟨_, rfl⟩, hW, hsame.mono hK hN⟩
theorem own_acmpVE (X : Stand p l e R s m args below meth c T locs cells slots) (hx : p.tables.exec = Jvm.exec) {cd : ACond} {x y : Value} (h1 : x.isRef = true) (h2 : y.isRef = true) {o : Int} {pc pc' : Nat} {Ls : Array Slot} {rest : List Value} (hd : decode c.code pc = .ok (.if_acmp cd o, 3)) (ho : 0 ≤ (pc : Int) + o) (hp : pc' = if acV cd true = true then ((pc : Int) + o).toNat else pc + 3)
    (hc : x = y) (k : own_G p.tables e below F (T.setTop (mkF m pc' Ls rest))) : own_G p.tables e below F (T.setTop (mkF m pc Ls (y :: x :: rest))) :=
  own_go (fun _ q => RoadKit.acmp X hx rfl h1 h2 (pc0 := pc) (pc' := pc') (same := true) rfl hd rfl (by simp [hc]) ho hp q) k
theorem own_acmpVD (X : Stand p l e R s m args below meth c T locs cells slots) (hx : p.tables.exec = Jvm.exec) {cd : ACond} {x y : Value} (h1 : x.isRef = true) (h2 : y.isRef = true) {o : Int} {pc pc' : Nat} {Ls : Array Slot} {rest : List Value} (hd : decode c.code pc = .ok (.if_acmp cd o, 3)) (ho : 0 ≤ (pc : Int) + o) (hp : pc' = if acV cd false = true then ((pc : Int) + o).toNat else pc + 3)
    (hc : ¬ x = y) (k : own_G p.tables e below F (T.setTop (mkF m pc' Ls rest))) : own_G p.tables e below F (T.setTop (mkF m pc Ls (y :: x :: rest))) :=
  own_go (fun _ q => RoadKit.acmp X hx rfl h1 h2 (pc0 := pc) (pc' := pc') (same := false) rfl hd rfl (by simp [hc]) ho hp q) k
theorem own_acmpAE (X : Stand p l e R s m args below meth c T locs cells slots) (hx : p.tables.exec = Jvm.exec) {cd : ACond} {x y : Addr} {o : Int} {pc pc' : Nat} {Ls : Array Slot} {rest : List Value} (hd : decode c.code pc = .ok (.if_acmp cd o, 3)) (ho : 0 ≤ (pc : Int) + o) (hp : pc' = if acV cd true = true then ((pc : Int) + o).toNat else pc + 3)
    (hc : x = y) (k : own_G p.tables e below F (T.setTop (mkF m pc' Ls rest))) : own_G p.tables e below F (T.setTop (mkF m pc Ls (.ref y :: .ref x :: rest))) :=
  own_acmpVE X hx rfl rfl hd ho hp (by rw [hc]) k
theorem own_acmpAD (X : Stand p l e R s m args below meth c T locs cells slots) (hx : p.tables.exec = Jvm.exec) {cd : ACond} {x y : Addr} {o : Int} {pc pc' : Nat} {Ls : Array Slot} {rest : List Value} (hd : decode c.code pc = .ok (.if_acmp cd o, 3)) (ho : 0 ≤ (pc : Int) + o) (hp : pc' = if acV cd false = true then ((pc : Int) + o).toNat else pc + 3)
    (hc : ¬ x = y) (k : own_G p.tables e below F (T.setTop (mkF m pc' Ls rest))) : own_G p.tables e below F (T.setTop (mkF m pc Ls (.ref y :: .ref x :: rest))) :=
  own_acmpVD X hx rfl rfl hd ho hp (fun q => hc (by cases q; rfl)) k
end Own
theorem own_cat1 {v : Value} (h : v.isRef = true) : v.category = 1 := by cases v <;> first | (cases h; done) | rfl
theorem own_sta_keep {Z : State} {h h' : Heap} {C n d : String} {v : Value} {ws : List Addr} (F : Sta Z h C n d v) (K : Keep h h' ws) (q : ∀ x ∈ ws, ∀ c : Cell, h[x]? = some c → c.vm.isStatics = false) : Sta Z h' C n d v := by
  obtain ⟨cf, i, k, f, st, cell, h1, h2, h3, h4, h5, h6, h7⟩ := F
  exact ⟨cf, i, k, f, st, cell, h1, h2, h3, h4, K.2.1 _ _ h5 (fun z => by rw [q _ z _ h5] at h6; cases h6), h6, h7⟩
theorem own_eqint {t : Term} {n : Int32} {args : Array Value} {s : State} (h : (Jvm.Cond.eq t (Term.int n)).value args s none s [] = some true) : t.eval args s none [] s = some (.int n) := by
  have hb : (Term.int n).eval args s none [] s = some (.int n) := Term.int_eval n
  simp only [Jvm.Cond.value, hb] at h
  cases ht : t.eval args s none [] s with
  | none => simp [ht] at h
  | some v => cases v <;> simp [ht] at h ⊢; exact h
theorem own_iconst {tb : Tables} [Ours tb] {e : Env} {below : List Frame} {T target : State} {m : MethodId} {c : Code} {g : JFrame} {v : Int32} (h : At T m c below) (hx : tb.exec = Jvm.exec) (hg : g.method = m) {i : Int} (hd : decode c.code g.pc = .ok (.iconst i, 1)) (hv : Int32.ofInt i = v)
    (hr : Steps tb e below (T.setTop { g with pc := g.pc + 1, stack := .int v :: g.stack }) target) : Steps tb e below (T.setTop g) target := by
  subst hv
  exact XS.iconst h hx hg hd hr
theorem own_bipush {tb : Tables} [Ours tb] {e : Env} {below : List Frame} {T target : State} {m : MethodId} {c : Code} {g : JFrame} {v : Int32} (h : At T m c below) (hx : tb.exec = Jvm.exec) (hg : g.method = m) {i : Int} (hd : decode c.code g.pc = .ok (.bipush i, 2)) (hv : (Int8.ofInt i).toInt32 = v)
    (hr : Steps tb e below (T.setTop { g with pc := g.pc + 2, stack := .int v :: g.stack }) target) : Steps tb e below (T.setTop g) target := by
  subst hv
  exact XS.bipush h hx hg hd hr
theorem own_sipush {tb : Tables} [Ours tb] {e : Env} {below : List Frame} {T target : State} {m : MethodId} {c : Code} {g : JFrame} {v : Int32} (h : At T m c below) (hx : tb.exec = Jvm.exec) (hg : g.method = m) {i : Int} (hd : decode c.code g.pc = .ok (.sipush i, 3)) (hv : (Int16.ofInt i).toInt32 = v)
    (hr : Steps tb e below (T.setTop { g with pc := g.pc + 3, stack := .int v :: g.stack }) target) : Steps tb e below (T.setTop g) target := by
  subst hv
  exact XS.sipush h hx hg hd hr
/-! own layer: arrays by their whole list of values -/
def own_Ar (Z : State) (h : Heap) (a : Addr) (ty : FieldType) (L : List Value) : Prop := ∃ c : Cell, Arr Z h a c ty ∧ c.slots.toList = L
section OwnArr
variable {Z : State} {h h' : Heap} {a b : Addr} {ty : FieldType} {L : List Value}
theorem own_Ar_new {cA : ClassId} {n : Int32} {N : Nat} (A : Arr Z h a (newA cA ty n) ty) (hN : n.toNatClampNeg = N) (hL : List.replicate N (defaultValue ty) = L) : own_Ar Z h a ty L := ⟨_, A, by rw [← hL, ← hN]; simp [newA]⟩
theorem own_Ar_ext (F : own_Ar Z h a ty L) (E : Ext h h') : own_Ar Z h' a ty L := by obtain ⟨c, A, r⟩ := F; exact ⟨c, A.ext E, r⟩
theorem own_Ar_other {sl : Nat} {v : Value} (F : own_Ar Z h b ty L) (W : Wr h h' a sl v) (q : b ≠ a) : own_Ar Z h' b ty L := by obtain ⟨c, A, r⟩ := F; exact ⟨c, A.other W q, r⟩
theorem own_Ar_keep {ws : List Addr} (F : own_Ar Z h a ty L) (K : Keep h h' ws) (q : a ∉ ws) : own_Ar Z h' a ty L := by obtain ⟨c, A, r⟩ := F; exact ⟨c, ⟨K.2.1 a c A.1 q, A.2⟩, r⟩
theorem own_Ar_lt (F : own_Ar Z h a ty L) : a < h.size := by obtain ⟨c, A, -⟩ := F; exact A.lt
theorem own_Ar_same {i : Nat} {v : Value} {L' : List Value} (F : own_Ar Z h a ty L) (W : Wr h h' a i v) (hL : L.set i v = L') : own_Ar Z h' a ty L' := by
  obtain ⟨c, A, r⟩ := F
  refine ⟨_, A.same W, ?_⟩
  rw [← hL, ← r]
  simp [Cell.setSlot]
theorem own_Ar_ne {C : String} {k : Nat} {a0 : Array Value} (E : Exa Z h b C) (wi : (Jvm.Cond.instantiable C k).before a0 Z = true) (F : own_Ar Z h a ty L) : b ≠ a := by obtain ⟨c, A, -⟩ := F; exact ne_arr E wi A
theorem own_in_of {c : Cell} {j : Int32} (r : c.slots.toList = L) (hj : ¬ j < 0) (hl : j.toNatClampNeg < L.length) : ¬ (j < 0 ∨ c.slots.size ≤ j.toNatClampNeg) := by
  have e : c.slots.size = L.length := by rw [← r]; simp
  rw [e]
  exact fun q => q.elim hj (fun z => absurd hl (Nat.not_lt.mpr z))
theorem own_at_of {c : Cell} {i : Nat} {v : Value} (r : c.slots.toList = L) (hv : L[i]? = some v) : c.slots[i]? = some v := by
  rw [← hv, ← r]; simp
theorem own_lt_of {i : Nat} {v : Value} (hv : L[i]? = some v) : i < L.length := (List.getElem?_eq_some_iff.mp hv).1
variable {p : Program} {l : Launch} {e : Env} {R : Room} {s : State} {m : MethodId} {args : Array Value} {below : List Frame} {meth : Method} {c : Code} {T : State} {locs : List Loc} {cells slots : Nat}
theorem own_stI (X : Stand p l e R s m args below meth c T locs cells slots) (hx : p.tables.exec = Jvm.exec) (hZ : Z.Warmed39 s.vm) (eT : T.heap = h) (F : own_Ar Z h a .int L) {j x : Int32} {i : Nat} (hi : j.toNatClampNeg = i) (hj : ¬ j < 0) (hl : i < L.length) {L' : List Value} (hL : L.set i (.int x) = L')
    {g : JFrame} (hg : g.method = m) {rest : List Value} (hs : g.stack = .int x :: .int j :: .ref a :: rest) (hd : decode c.code g.pc = .ok (.iastore, 1)) :
    ∃ T' h', Stand p l e R s m args below meth c T' (locs ++ [⟨a, i⟩]) cells slots ∧ T'.heap = h' ∧ Wr h h' a i (.int x) ∧ own_Ar Z h' a .int L' ∧ ∀ target, Steps p.tables e below (T'.setTop { g with pc := g.pc + 1, stack := rest }) target → Steps p.tables e below (T.setTop g) target := by
  subst hi
  obtain ⟨cl, A, r⟩ := F
  obtain ⟨T', h', X', e', W, st⟩ := stI X hx hZ eT A (own_in_of r hj hl) hg hs hd
  exact ⟨T', h', X', e', W, own_Ar_same ⟨cl, A, r⟩ W hL, st⟩
theorem own_ldI (X : Stand p l e R s m args below meth c T locs cells slots) (hx : p.tables.exec = Jvm.exec) (hZ : Z.Warmed39 s.vm) (eT : T.heap = h) (F : own_Ar Z h a .int L) {j : Int32} {v : Value} (hj : ¬ j < 0) (hv : L[j.toNatClampNeg]? = some v)
    {g : JFrame} (hg : g.method = m) {rest : List Value} (hs : g.stack = .int j :: .ref a :: rest) (hd : decode c.code g.pc = .ok (.iaload, 1)) :
    ∀ target, Steps p.tables e below (T.setTop { g with pc := g.pc + 1, stack := v :: rest }) target → Steps p.tables e below (T.setTop g) target := by
  obtain ⟨cl, A, r⟩ := F
  exact X.iaload hx (by rw [eT]; exact A.1) (State.isArrayOf_alike hZ.alike A.2.1) A.2.2 (own_in_of r hj (own_lt_of hv)) (own_at_of r hv) hg hs hd
theorem own_ldB (X : Stand p l e R s m args below meth c T locs cells slots) (hx : p.tables.exec = Jvm.exec) (hZ : Z.Warmed39 s.vm) (eT : T.heap = h) (F : own_Ar Z h a .byte L) {j : Int32} {v : Value} (hj : ¬ j < 0) (hv : L[j.toNatClampNeg]? = some v)
    {g : JFrame} (hg : g.method = m) {rest : List Value} (hs : g.stack = .int j :: .ref a :: rest) (hd : decode c.code g.pc = .ok (.baload, 1)) :
    ∀ target, Steps p.tables e below (T.setTop { g with pc := g.pc + 1, stack := v :: rest }) target → Steps p.tables e below (T.setTop g) target := by
  obtain ⟨cl, A, r⟩ := F
  exact X.baloadBytes hx (by rw [eT]; exact A.1) (State.isArrayOf_alike hZ.alike A.2.1) A.2.2 (own_in_of r hj (own_lt_of hv)) (own_at_of r hv) hg hs hd
theorem own_ldR (X : Stand p l e R s m args below meth c T locs cells slots) (hx : p.tables.exec = Jvm.exec) (hZ : Z.Warmed39 s.vm) (eT : T.heap = h) (F : own_Ar Z h a ty L) (hty : ty.isReference = true) {j : Int32} {v : Value} (hj : ¬ j < 0) (hv : L[j.toNatClampNeg]? = some v)
    {g : JFrame} (hg : g.method = m) {rest : List Value} (hs : g.stack = .int j :: .ref a :: rest) (hd : decode c.code g.pc = .ok (.aaload, 1)) :
    ∀ target, Steps p.tables e below (T.setTop { g with pc := g.pc + 1, stack := v :: rest }) target → Steps p.tables e below (T.setTop g) target := by
  obtain ⟨cl, A, r⟩ := F
  exact X.aaload hx (by rw [eT]; exact A.1) (State.isArrayOf_alike hZ.alike A.2.1) hty A.2.2 (own_in_of r hj (own_lt_of hv)) (own_at_of r hv) hg hs hd
theorem own_alen (X : Stand p l e R s m args below meth c T locs cells slots) (hx : p.tables.exec = Jvm.exec) (hZ : Z.Warmed39 s.vm) (eT : T.heap = h) (F : own_Ar Z h a ty L) {n : Int32} (hn : L.length.toInt32 = n)
    {g : JFrame} (hg : g.method = m) {rest : List Value} (hs : g.stack = .ref a :: rest) (hd : decode c.code g.pc = .ok (.arraylength, 1)) :
    ∀ target, Steps p.tables e below (T.setTop { g with pc := g.pc + 1, stack := .int n :: rest }) target → Steps p.tables e below (T.setTop g) target := by
  obtain ⟨cl, A, r⟩ := F
  have q : cl.slots.size.toInt32 = n := by rw [← hn, ← r]; simp
  rw [← q]
  exact fun t k => X.arraylength hx (by rw [eT]; exact A.1) (State.isArrayOf_alike hZ.alike A.2.1) hg hs hd t k
end OwnArr
/-! own layer: arrays of references -/
def own_Ao (Z : State) (h : Heap) (a : Addr) (C : String) (L : List Value) : Prop := ∃ c : Cell, Arr Z h a c (.object C) ∧ Ovr Z c.cls C ∧ c.slots.toList = L
section OwnArrO
variable {Z : State} {h h' : Heap} {a b : Addr} {C : String} {L : List Value}
theorem own_Ao_new {cA : ClassId} {n : Int32} (A : Arr Z h a (newA cA (.object C) n) (.object C)) (O : Ovr Z cA C) : own_Ao Z h a C (List.replicate n.toNatClampNeg .null) := ⟨_, A, O, by simp [newA, defaultValue]⟩
theorem own_Ao_ar (F : own_Ao Z h a C L) : own_Ar Z h a (.object C) L := by obtain ⟨c, A, -, r⟩ := F; exact ⟨c, A, r⟩
theorem own_Ao_ext (F : own_Ao Z h a C L) (E : Ext h h') : own_Ao Z h' a C L := by obtain ⟨c, A, r⟩ := F; exact ⟨c, A.ext E, r⟩
theorem own_Ao_other {sl : Nat} {v : Value} (F : own_Ao Z h b C L) (W : Wr h h' a sl v) (q : b ≠ a) : own_Ao Z h' b C L := by obtain ⟨c, A, r⟩ := F; exact ⟨c, A.other W q, r⟩
theorem own_Ao_keep {ws : List Addr} (F : own_Ao Z h a C L) (K : Keep h h' ws) (q : a ∉ ws) : own_Ao Z h' a C L := by obtain ⟨c, A, r⟩ := F; exact ⟨c, ⟨K.2.1 a c A.1 q, A.2⟩, r⟩
theorem own_Ao_lt (F : own_Ao Z h a C L) : a < h.size := by obtain ⟨c, A, -⟩ := F; exact A.lt
theorem own_Ao_same {i : Nat} {v : Value} (F : own_Ao Z h a C L) (W : Wr h h' a i v) : own_Ao Z h' a C (L.set i v) := by
  obtain ⟨c, A, O, r⟩ := F
  refine ⟨_, A.same W, O, ?_⟩
  rw [← r]
  simp [Cell.setSlot]
variable {p : Program} {l : Launch} {e : Env} {R : Room} {s : State} {m : MethodId} {args : Array Value} {below : List Frame} {meth : Method} {c : Code} {T : State} {locs : List Loc} {cells slots : Nat}
theorem own_stR (X : Stand p l e R s m args below meth c T locs cells slots) (hx : p.tables.exec = Jvm.exec) (hZ : Z.Warmed39 s.vm) (eT : T.heap = h) (F : own_Ao Z h a C L) {j : Int32} {v : Value} (hv : v = .null ∨ ∃ y, v = .ref y ∧ Ins Z h y C true) (hj : ¬ j < 0) (hl : j.toNatClampNeg < L.length)
    {g : JFrame} (hg : g.method = m) {rest : List Value} (hs : g.stack = v :: .int j :: .ref a :: rest) (hd : decode c.code g.pc = .ok (.aastore, 1)) :
    ∃ T' h', Stand p l e R s m args below meth c T' (locs ++ [⟨a, j.toNatClampNeg⟩]) cells slots ∧ T'.heap = h' ∧ Wr h h' a j.toNatClampNeg v ∧ own_Ao Z h' a C (L.set j.toNatClampNeg v) ∧ ∀ target, Steps p.tables e below (T'.setTop { g with pc := g.pc + 1, stack := rest }) target → Steps p.tables e below (T.setTop g) target := by
  obtain ⟨cl, A, O, r⟩ := F
  have S : Sto Z h a v := by
    rcases hv with rfl | ⟨y, rfl, I⟩
    · exact Or.inl rfl
    · exact Sto.of A O I
  obtain ⟨T', h', X', e', W, st⟩ := stR X hx hZ eT A (own_in_of r hj hl) rfl S hg hs hd
  exact ⟨T', h', X', e', W, own_Ao_same ⟨cl, A, O, r⟩ W, st⟩
end OwnArrO
/-! own layer: a bundle of boxed ints -/
def own_Bn (Z : State) (h : Heap) (l : List (Addr × Int32)) : Prop := ∀ x ∈ l, Exa Z h x.1 "java/lang/Integer" ∧ Fld Z h x.1 "java/lang/Integer" "value" "I" (.int x.2)
theorem own_Bn_keep {Z : State} {h h' : Heap} {l : List (Addr × Int32)} {ws : List Addr} (B : own_Bn Z h l) (K : Keep h h' ws) (q : ∀ x ∈ l, x.1 ∉ ws) : own_Bn Z h' l := fun x hx => ⟨(B x hx).1.keep K, (B x hx).2.keep K (q x hx)⟩
theorem own_Bn_exa {Z : State} {h : Heap} {l : List (Addr × Int32)} {a : Addr} {v : Int32} (B : own_Bn Z h l) (q : (a, v) ∈ l) : Exa Z h a "java/lang/Integer" := (B _ q).1
theorem own_Bn_fld {Z : State} {h : Heap} {l : List (Addr × Int32)} {a : Addr} {v : Int32} (B : own_Bn Z h l) (q : (a, v) ∈ l) : Fld Z h a "java/lang/Integer" "value" "I" (.int v) := (B _ q).2
theorem own_Bn_nil (Z : State) (h : Heap) : own_Bn Z h [] := fun _ q => nomatch q
theorem own_Bn_cons {Z : State} {h : Heap} {l : List (Addr × Int32)} {a : Addr} {v : Int32} (E : Exa Z h a "java/lang/Integer") (F : Fld Z h a "java/lang/Integer" "value" "I" (.int v)) (B : own_Bn Z h l) : own_Bn Z h ((a, v) :: l) := fun x hx => by
  rcases List.mem_cons.mp hx with rfl | q
  · exact ⟨E, F⟩
  · exact B x q
theorem own_lenL {L : List Value} {n : Nat} {z : Int32} (h : L.length = n) (h2 : n.toInt32 = z) : L.length.toInt32 = z := by rw [h]; exact h2
abbrev own_y1 : MethodName := ⟨"java/lang/Number", "<init>", "()V"⟩
abbrev own_y2 : MethodName := ⟨"java/lang/Integer", "<init>", "(I)V"⟩
abbrev own_y3 : MethodName := ⟨"java/lang/Integer", "intValue", "()I"⟩
abbrev own_y4 : MethodName := ⟨"java/lang/Integer", "valueOf", "(I)Ljava/lang/Integer;"⟩
abbrev own_y5 : MethodName := ⟨"com/example/pagemason/pagemason/core/Spares", "<init>", "(I)V"⟩
abbrev own_y6 : MethodName := ⟨"java/lang/Math", "min", "(II)I"⟩
abbrev own_y7 : MethodName := ⟨"com/example/pagemason/pagemason/core/Spares", "take", "()Ljava/lang/Object;"⟩
abbrev own_y8 : MethodName := ⟨"com/example/pagemason/pagemason/core/SparesKeepPinLaw", "same", "(Ljava/lang/Integer;III)Z"⟩
abbrev own_y9 : MethodName := ⟨"com/example/pagemason/pagemason/core/Spares", "keep", "(Ljava/lang/Object;)V"⟩
theorem own_pd1 : parseMethodDescriptor "()V" = some ⟨[], none⟩ := by decide +kernel
theorem own_pd2 : parseMethodDescriptor "(I)V" = some ⟨[.int], none⟩ := by decide +kernel
theorem own_pd3 : parseMethodDescriptor "()I" = some ⟨[], (some .int)⟩ := by decide +kernel
theorem own_pd4 : parseMethodDescriptor "(I)Ljava/lang/Integer;" = some ⟨[.int], (some (.object "java/lang/Integer"))⟩ := by decide +kernel
theorem own_pd5 : parseMethodDescriptor "(II)I" = some ⟨[.int, .int], (some .int)⟩ := by decide +kernel
theorem own_pd6 : parseMethodDescriptor "()Ljava/lang/Object;" = some ⟨[], (some (.object "java/lang/Object"))⟩ := by decide +kernel
theorem own_pd7 : parseMethodDescriptor "(Ljava/lang/Integer;III)Z" = some ⟨[(.object "java/lang/Integer"), .int, .int, .int], (some .boolean)⟩ := by decide +kernel
theorem own_pd8 : parseMethodDescriptor "(Ljava/lang/Object;)V" = some ⟨[(.object "java/lang/Object")], none⟩ := by decide +kernel

def own_min (x y : Int32) : Int32 := if y < x then y else x
def own_max (x y : Int32) : Int32 := if x < y then y else x
theorem own_min_spec (x y : Int32) : (own_min x y).toInt = min x.toInt y.toInt := by
  unfold own_min
  split
  · rename_i h; rw [Int32.lt_iff_toInt_lt] at h; omega
  · rename_i h; rw [Int32.lt_iff_toInt_lt] at h; omega
theorem own_max_spec (x y : Int32) : (own_max x y).toInt = max x.toInt y.toInt := by
  unfold own_max
  split
  · rename_i h; rw [Int32.lt_iff_toInt_lt] at h; omega
  · rename_i h; rw [Int32.lt_iff_toInt_lt] at h; omega

def own_Cache (Z : State) (h : Heap) (ca : Addr) : Prop := ∃ L, own_Ar Z h ca (.object "java/lang/Integer") L ∧ ∀ j : Int32, ¬ j < (-128 : Int32) → ¬ (127 : Int32) < j → ∃ y, L[(j + (128 : Int32)).toNatClampNeg]? = some (.ref y) ∧ Exa Z h y "java/lang/Integer" ∧ Fld Z h y "java/lang/Integer" "value" "I" (.int j)
theorem own_Cache_keep {Z : State} {h h' : Heap} {ca : Addr} (F : own_Cache Z h ca) (K : Keep h h' []) : own_Cache Z h' ca := by
  obtain ⟨L, A, H⟩ := F
  refine ⟨L, own_Ar_keep A K nin0, fun j q1 q2 => ?_⟩
  obtain ⟨y, y1, y2, y3⟩ := H j q1 q2
  exact ⟨y, y1, y2.keep K, y3.keep K nin0⟩
theorem own_j128 {j : Int32} (q1 : ¬ j < (-128 : Int32)) (q2 : ¬ (127 : Int32) < j) : ¬ (j + (128 : Int32)) < 0 := by
  have a := c_iadd j (128 : Int32)
  have r := rng32 (j + (128 : Int32))
  have e0 : (0 : Int32).toInt = 0 := by decide
  have e1 : (128 : Int32).toInt = 128 := by decide
  have e2 : (-128 : Int32).toInt = -128 := by decide
  have e3 : (127 : Int32).toInt = 127 := by decide
  rw [Int32.lt_iff_toInt_lt] at *
  omega
theorem own_len {s : State} {args : Array Value} {t : Term} {a : Addr} {cl : Cell} {n : Int32} (ht : t.eval args s none [] s = some (.ref a)) (ha : s.arrayAt? a = some cl) (h : (Term.length t).eval args s none [] s = some (.int n)) : cl.slots.size < 2 ^ 31 ∧ cl.slots.size.toInt32 = n := by
  by_cases hl : cl.slots.size < 2 ^ 31
  · rw [len_f ht ha hl] at h
    exact ⟨hl, by cases h; rfl⟩
  · simp [Term.eval, ht, ha, hl] at h
theorem own_sub128 {s : State} {args : Array Value} {j : Int32} (nn : ¬ j < 0) : (Term.sub (Term.index (0 : Nat)) (Term.int (128 : Int32))).eval args s none [j.toNatClampNeg] s = some (.int (j - (128 : Int32))) := by
  simp [Term.eval]
  exact (back32 nn).1
theorem own_cache_of {s : State} {args : Array Value} {ca : Addr} (hf : Fit s) (ev : (Term.static "java/lang/Integer$IntegerCache" "cache" "[Ljava/lang/Integer;").eval args s none [] s = some (.ref ca))
    (h4 : (Jvm.Cond.arrayOf (Term.static "java/lang/Integer$IntegerCache" "cache" "[Ljava/lang/Integer;") (FieldType.object "java/lang/Integer")).value args s none s [] = some true)
    (h6 : (Jvm.Cond.eq (Term.length (Term.static "java/lang/Integer$IntegerCache" "cache" "[Ljava/lang/Integer;")) (Term.int (256 : Int32))).value args s none s [] = some true)
    (h7 : (Jvm.Cond.all (Term.static "java/lang/Integer$IntegerCache" "cache" "[Ljava/lang/Integer;") (Jvm.Cond.and (Jvm.Cond.exactly (Term.elem (Term.static "java/lang/Integer$IntegerCache" "cache" "[Ljava/lang/Integer;") (Term.index (0 : Nat))) "java/lang/Integer") (Jvm.Cond.eq (Term.field (Term.elem (Term.static "java/lang/Integer$IntegerCache" "cache" "[Ljava/lang/Integer;") (Term.index (0 : Nat))) "java/lang/Integer" "value" "I") (Term.sub (Term.index (0 : Nat)) (Term.int (128 : Int32)))))).value args s none s [] = some true) : own_Cache s s.heap ca := by
  obtain ⟨cl, A⟩ := Arr.start ev h4
  obtain ⟨z1, z2⟩ := own_len ev (A.fin (Vm.Alike.refl _)) (own_eqint h6)
  have B := Bxs.start (val := fun j => .int (j - (128 : Int32))) (fun _ => ev) A z1 z2 (by decide) h7 (fun X j nn q => eqv_i (own_sub128 nn) q)
  refine ⟨cl.slots.toList, ⟨cl, A, rfl⟩, fun j q1 q2 => ?_⟩
  have hj := own_j128 q1 q2
  have hk : (j + (128 : Int32)).toNatClampNeg < 256 := by
    have a := c_iadd j (128 : Int32)
    have r := rng32 (j + (128 : Int32))
    have w := nat_of hj
    have e0 : (0 : Int32).toInt = 0 := by decide
    have e1 : (128 : Int32).toInt = 128 := by decide
    have e2 : (-128 : Int32).toInt = -128 := by decide
    have e3 : (127 : Int32).toInt = 127 := by decide
    rw [Int32.lt_iff_toInt_lt] at *
    omega
  have hs : cl.slots.size = 256 := B.2.1
  obtain ⟨y, y1, y2, y3⟩ := B.2.2.2 (j + (128 : Int32)) (fun z => z.elim hj (fun u => absurd hk (by rw [hs] at u; exact Nat.not_lt.mpr u)))
  refine ⟨y, by rw [← y1]; simp, y2, ?_⟩
  have e : j + (128 : Int32) - (128 : Int32) = j := by simp
  have y3' : Fld s s.heap y "java/lang/Integer" "value" "I" (.int (j + (128 : Int32) - (128 : Int32))) := y3
  rw [e] at y3'
  exact y3'

theorem own_b3 {p z : Int32} (h : z = (p &&& (3 : Int32))) : ¬ z < 0 ∧ z.toNatClampNeg ≤ 3 := by
  have m := c_mask p (3 : Int32) 2 (by decide) (by decide)
  rw [← h] at m
  have e0 : (0 : Int32).toInt = 0 := by decide
  have q : ¬ z < 0 := by rw [Int32.lt_iff_toInt_lt]; omega
  have w := nat_of q
  exact ⟨q, by omega⟩
theorem own_c4 {p z : Int32} (h : z = (p &&& (3 : Int32))) : z = (0 : Int32) ∨ z = (1 : Int32) ∨ z = (2 : Int32) ∨ z = (3 : Int32) := by
  have m := c_mask p (3 : Int32) 2 (by decide) (by decide)
  rw [← h] at m
  have e0 : (0 : Int32).toInt = 0 := by decide
  have e1 : (1 : Int32).toInt = 1 := by decide
  have e2 : (2 : Int32).toInt = 2 := by decide
  have e3 : (3 : Int32).toInt = 3 := by decide
  rw [← Int32.toInt_inj, ← Int32.toInt_inj, ← Int32.toInt_inj, ← Int32.toInt_inj]
  omega
theorem own_c5 {p z : Int32} (h : z = ((p &&& (7 : Int32)) % (5 : Int32))) : z = (0 : Int32) ∨ z = (1 : Int32) ∨ z = (2 : Int32) ∨ z = (3 : Int32) ∨ z = (4 : Int32) := by
  have m := c_mask p (7 : Int32) 3 (by decide) (by decide)
  have r := (c_irem (p &&& (7 : Int32)) (5 : Int32) 5 (by decide)).1 (by omega)
  rw [← h] at r
  have e0 : (0 : Int32).toInt = 0 := by decide
  have e1 : (1 : Int32).toInt = 1 := by decide
  have e2 : (2 : Int32).toInt = 2 := by decide
  have e3 : (3 : Int32).toInt = 3 := by decide
  have e4 : (4 : Int32).toInt = 4 := by decide
  rw [← Int32.toInt_inj, ← Int32.toInt_inj, ← Int32.toInt_inj, ← Int32.toInt_inj, ← Int32.toInt_inj]
  omega
theorem own_v0 {v a : Int32} (h : a = 0) : v = v + a := by rw [h, Int32.add_zero]
theorem own_vi {v a i : Int32} (h : a = i) : v + i = v + a := by rw [h]

theorem own_num_d0 : decode jdk_18_method_1_code 0 = .ok (.aload_n 0, 1) := by decide +kernel
theorem own_num_d1 : decode jdk_18_method_1_code 1 = .ok (.invokespecial 1, 3) := by decide +kernel
theorem own_num_d4 : decode jdk_18_method_1_code 4 = .ok (.return_, 1) := by decide +kernel
theorem own_num_pn : plainName "java/lang/Number" = true := by first | (simp [plainName, overriddenIn]; done) | decide +kernel
theorem own_num_ef (m : MethodId) (ra : Addr) : entryFrame m #[(.ref ra)] 1 = mkF m 0 #[rv ra] [] := by first | (simp [entryFrame, mkF, argsToLocals, Value.category]; done) | rfl
def own_num_Q (Z : State) (ra : Addr) (h0 : Heap) (n0 : Nat) (v : Option Value) (h : Heap) (L : List Loc) : Prop := v = none ∧ Fr n0 L ∧ h = h0
set_option maxRecDepth 65536 in
set_option maxHeartbeats 40000000 in
theorem own_num (l : Launch) (Z : State) (a0 : Array Value) (hw : ∀ d ∈ tables_1, d.before a0 Z = true) (ws : List Jvm.Cond) (ra : Addr) (h0 : Heap) (n0 : Nat) :
    MetFree l own_y1 (head1 (Jvm.Cond.code own_y1 jdk_18_method_1_code 1 none :: ws) ({ frames := 1, cells := 0, slots := 0, locals := 12 } : Room)) (fun a U => a = #[(.ref ra)] ∧ Z.Warmed39 U.vm ∧ U.heap = h0) (fun _ _ _ _ _ => True) (fun _ U o U' => ∃ v L, o = .returned v ∧ (own_num_Q Z ra h0 n0) v U'.heap L ∧ FrameEnd U o U' L ({ frames := 1, cells := 0, slots := 0, locals := 12 } : Room).cells ({ frames := 1, cells := 0, slots := 0, locals := 12 } : Room).slots) := by
  refine MetFree.of_bodySF (plainFor_of_name own_num_pn) hisR ?_
  intro p e s m args below meth c s₁ Bd hml0 hP hK
  obtain ⟨rfl, hZ, hh⟩ := hP
  have hx := Bd.exec
  have hby := Bd.bytes
  have hml : c.maxLocals = 1 := hml0
  have hown : s.vm.findClass "java/lang/Number" = some m.cls := findClass_of_methodNamed Bd.named
  have hnm := (name_of_methodNamed Bd.named Bd.method).1
  have hlk : meth.locks = false := Bd.notSynchronized
  have X0 : Stand p l e ({ frames := 1, cells := 0, slots := 0, locals := 12 } : Room) s m #[(.ref ra)] below meth c s₁ [] 0 0 := Stand.of_body Bd
  have e0 : s₁.heap = h0 := by rw [← hh, Bd.state]; rfl
  have N0 := Fr.nil n0
  have w_14 := hw _ (List.mem_of_getElem? (l := tables_1) (i := 14) rfl)
  have w_15 := hw _ (List.mem_of_getElem? (l := tables_1) (i := 15) rfl)
  have w_61 := hw _ (List.mem_of_getElem? (l := tables_1) (i := 61) rfl)
  show own_G p.tables e below (fun o U' => ∃ v L, o = .returned v ∧ (own_num_Q Z ra h0 n0) v U'.heap L ∧ FrameEnd s o U' L ({ frames := 1, cells := 0, slots := 0, locals := 12 } : Room).cells ({ frames := 1, cells := 0, slots := 0, locals := 12 } : Room).slots) (s₁.setTop (entryFrame m #[(.ref ra)] 1))
  refine own_go (B := s₁.setTop (mkF m 0 #[rv ra] [])) (fun t k => castTop (own_num_ef m ra) k) ?_
  refine own_go (B := (s₁.setTop (mkF m 1 #[rv ra] [(.ref ra)]))) (fun t k => XS.aloadN X0.here hx rfl (hb hby own_num_d0) rfl rfl k) ?_
  obtain ⟨T1, X1, e1, st1⟩ := initO X0 hx hZ hown w_61 w_14 w_15 e0 (g := (mkF m 1 #[rv ra] [(.ref ra)])) rfl (by rw [hml]; rfl) rfl (hb hby own_num_d1) (by decide) (W := 0) (by show 2 * 0 + _ ≤ _; exact own_b rfl) (by decide)
  refine own_go (B := (T1.setTop (mkF m 4 #[rv ra] []))) st1 ?_
  exact own_retV X1 hx hlk Bd.returns (hb hby own_num_d4) (own_b rfl) (own_b rfl) (Q := (own_num_Q Z ra h0 n0)) ⟨rfl, N0, e1⟩

theorem own_ict_d0 : decode jdk_33_method_23_code 0 = .ok (.aload_n 0, 1) := by decide +kernel
theorem own_ict_d1 : decode jdk_33_method_23_code 1 = .ok (.invokespecial 202, 3) := by decide +kernel
theorem own_ict_d4 : decode jdk_33_method_23_code 4 = .ok (.aload_n 0, 1) := by decide +kernel
theorem own_ict_d5 : decode jdk_33_method_23_code 5 = .ok (.iload_n 1, 1) := by decide +kernel
theorem own_ict_d6 : decode jdk_33_method_23_code 6 = .ok (.putfield 205, 3) := by decide +kernel
theorem own_ict_d9 : decode jdk_33_method_23_code 9 = .ok (.return_, 1) := by decide +kernel
theorem own_ict_pn : plainName "java/lang/Integer" = true := by first | (simp [plainName, overriddenIn]; done) | decide +kernel
theorem own_ict_ef (m : MethodId) (th : Addr) (pv : Int32) : entryFrame m #[(.ref th), (.int pv)] 2 = mkF m 0 #[rv th, iv pv] [] := by first | (simp [entryFrame, mkF, argsToLocals, Value.category]; done) | rfl
def own_ict_Q (Z : State) (th : Addr) (pv : Int32) (h0 : Heap) (n0 : Nat) (v : Option Value) (h : Heap) (L : List Loc) : Prop := v = none ∧ Fr n0 L ∧ Keep h0 h [th] ∧ Exa Z h th "java/lang/Integer" ∧ Fld Z h th "java/lang/Integer" "value" "I" (.int pv)
set_option maxRecDepth 65536 in
set_option maxHeartbeats 40000000 in
theorem own_ict (l : Launch) (Z : State) (a0 : Array Value) (hw : ∀ d ∈ tables_1, d.before a0 Z = true) (ws : List Jvm.Cond) (th : Addr) (pv : Int32) (h0 : Heap) (n0 : Nat) (Z0 : n0 ≤ h0.size) (E0 : Exa Z h0 th "java/lang/Integer") (g0 : n0 ≤ th) (F9000 : Fld Z h0 th "java/lang/Integer" "value" "I" (.int (0 : Int32))) :
    MetFree l own_y2 (head1 (Jvm.Cond.code own_y2 jdk_33_method_23_code 2 none :: ws) ({ frames := 2, cells := 0, slots := 0, locals := 24 } : Room)) (fun a U => a = #[(.ref th), (.int pv)] ∧ Z.Warmed39 U.vm ∧ U.heap = h0) (fun _ _ _ _ _ => True) (fun _ U o U' => ∃ v L, o = .returned v ∧ (own_ict_Q Z th pv h0 n0) v U'.heap L ∧ FrameEnd U o U' L ({ frames := 2, cells := 0, slots := 0, locals := 24 } : Room).cells ({ frames := 2, cells := 0, slots := 0, locals := 24 } : Room).slots) := by
  refine MetFree.of_bodySF (plainFor_of_name own_ict_pn) hisR ?_
  intro p e s m args below meth c s₁ Bd hml0 hP hK
  obtain ⟨rfl, hZ, hh⟩ := hP
  have hx := Bd.exec
  have hby := Bd.bytes
  have hml : c.maxLocals = 2 := hml0
  have hown : s.vm.findClass "java/lang/Integer" = some m.cls := findClass_of_methodNamed Bd.named
  have hnm := (name_of_methodNamed Bd.named Bd.method).1
  have hlk : meth.locks = false := Bd.notSynchronized
  have X0 : Stand p l e ({ frames := 2, cells := 0, slots := 0, locals := 24 } : Room) s m #[(.ref th), (.int pv)] below meth c s₁ [] 0 0 := Stand.of_body Bd
  have e0 : s₁.heap = h0 := by rw [← hh, Bd.state]; rfl
  have N0 := Fr.nil n0
  have w_48 := hw _ (List.mem_of_getElem? (l := tables_1) (i := 48) rfl)
  have w_49 := hw _ (List.mem_of_getElem? (l := tables_1) (i := 49) rfl)
  have w_51 := hw _ (List.mem_of_getElem? (l := tables_1) (i := 51) rfl)
  have w_55 := hw _ (List.mem_of_getElem? (l := tables_1) (i := 55) rfl)
  have w_56 := hw _ (List.mem_of_getElem? (l := tables_1) (i := 56) rfl)
  have w_59 := hw _ (List.mem_of_getElem? (l := tables_1) (i := 59) rfl)
  have w_60 := hw _ (List.mem_of_getElem? (l := tables_1) (i := 60) rfl)
  show own_G p.tables e below (fun o U' => ∃ v L, o = .returned v ∧ (own_ict_Q Z th pv h0 n0) v U'.heap L ∧ FrameEnd s o U' L ({ frames := 2, cells := 0, slots := 0, locals := 24 } : Room).cells ({ frames := 2, cells := 0, slots := 0, locals := 24 } : Room).slots) (s₁.setTop (entryFrame m #[(.ref th), (.int pv)] 2))
  refine own_go (B := s₁.setTop (mkF m 0 #[rv th, iv pv] [])) (fun t k => castTop (own_ict_ef m th pv) k) ?_
  have K0 := Keep.refl h0 [th]
  refine own_go (B := (s₁.setTop (mkF m 1 #[rv th, iv pv] [(.ref th)]))) (fun t k => XS.aloadN X0.here hx rfl (hb hby own_ict_d0) rfl rfl k) ?_
  obtain ⟨_, _, ⟨T1, L1, k1, n1⟩, -, X1, ⟨Lc1, hQ1, l1, y1, z1⟩, st1⟩ := X0.specialBack hx (y := own_y1) rfl hown (mvT hZ w_55) (mvT hZ w_56) (mvT hZ w_60) (by decide) (backOf (W := 0) (own_num l Z a0 hw [] th h0 n0) hZ w_60 w_59 (by decide) (by decide)) (g := (mkF m 1 #[rv th, iv pv] [(.ref th)])) rfl (by rw [hml]; rfl) (Steps.refl _) (a := th) (argsL := []) (rest := []) (lenOf own_pd1 rfl) rfl (by show 2 * 0 + _ ≤ _; exact own_b rfl) (hb hby own_ict_d1) (fun _ _ => ⟨rfl, e0, (own_b rfl : 0 + 0 ≤ _), (own_b rfl : 0 + 0 ≤ _)⟩)
  dsimp only [Pt.U, Pt.locs, Pt.cells, Pt.slots] at X1 l1 y1 z1 st1 hQ1
  obtain ⟨rfl, Nq1, eq1⟩ := hQ1
  obtain ⟨L1, X1, N1⟩ := own_absC (K := 0) (K' := 0) X1 l1 y1 z1 N0 Nq1
  have e1 : T1.heap = h0 := eq1
  refine own_tr (B := (T1.setTop (mkF m 4 #[rv th, iv pv] []))) st1 ?_
  refine own_go (B := (T1.setTop (mkF m 5 #[rv th, iv pv] [(.ref th)]))) (fun t k => XS.aloadN X1.here hx rfl (hb hby own_ict_d4) rfl rfl k) ?_
  refine own_go (B := (T1.setTop (mkF m 6 #[rv th, iv pv] [(.int pv), (.ref th)]))) (fun t k => XS.iloadN X1.here hx rfl (hb hby own_ict_d5) rfl k) ?_
  obtain ⟨T2, h2, X2, e2, W2, st2⟩ := putF X1 hx hZ hown (host := "") (Or.inl w_48) Via.refl e1 F9000 E0 (Or.inr ⟨w_49, rfl, hnm⟩) w_51 (ty := .int) (by decide) rfl rfl (g := (mkF m 6 #[rv th, iv pv] [(.int pv), (.ref th)])) rfl rfl (hb hby own_ict_d6)
  refine own_go (B := (T2.setTop (mkF m 9 #[rv th, iv pv] []))) st2 ?_
  obtain ⟨L2, X2, N2⟩ := own_abs X2 (Fr.snoc X2 N1 g0)
  have F3 : n0 ≤ h2.size := by rw [W2.size]; exact Z0
  have F4 := Exa.wr W2 E0
  have F5 := Keep.wr K0 W2 (Or.inl (List.mem_of_getElem? (i := 0) rfl))
  have F6 := Fld.same W2 F9000
  exact own_retV X2 hx hlk Bd.returns (hb hby own_ict_d9) (own_b rfl) (own_b rfl) (Q := (own_ict_Q Z th pv h0 n0)) (by rw [e2]; exact ⟨rfl, N2, F5, F4, F6⟩)

theorem own_vo_d0 : decode jdk_33_method_22_code 0 = .ok (.iload_n 0, 1) := by decide +kernel
theorem own_vo_d1 : decode jdk_33_method_22_code 1 = .ok (.bipush (-128), 2) := by decide +kernel
theorem own_vo_d3 : decode jdk_33_method_22_code 3 = .ok (.if_icmp .lt 20, 3) := by decide +kernel
theorem own_vo_d6 : decode jdk_33_method_22_code 6 = .ok (.iload_n 0, 1) := by decide +kernel
theorem own_vo_d7 : decode jdk_33_method_22_code 7 = .ok (.getstatic 191, 3) := by decide +kernel
theorem own_vo_d10 : decode jdk_33_method_22_code 10 = .ok (.if_icmp .gt 13, 3) := by decide +kernel
theorem own_vo_d13 : decode jdk_33_method_22_code 13 = .ok (.getstatic 195, 3) := by decide +kernel
theorem own_vo_d16 : decode jdk_33_method_22_code 16 = .ok (.iload_n 0, 1) := by decide +kernel
theorem own_vo_d17 : decode jdk_33_method_22_code 17 = .ok (.sipush 128, 3) := by decide +kernel
theorem own_vo_d20 : decode jdk_33_method_22_code 20 = .ok (.iadd, 1) := by decide +kernel
theorem own_vo_d21 : decode jdk_33_method_22_code 21 = .ok (.aaload, 1) := by decide +kernel
theorem own_vo_d22 : decode jdk_33_method_22_code 22 = .ok (.areturn, 1) := by decide +kernel
theorem own_vo_d23 : decode jdk_33_method_22_code 23 = .ok (.new 1, 3) := by decide +kernel
theorem own_vo_d26 : decode jdk_33_method_22_code 26 = .ok (.dup, 1) := by decide +kernel
theorem own_vo_d27 : decode jdk_33_method_22_code 27 = .ok (.iload_n 0, 1) := by decide +kernel
theorem own_vo_d28 : decode jdk_33_method_22_code 28 = .ok (.invokespecial 199, 3) := by decide +kernel
theorem own_vo_d31 : decode jdk_33_method_22_code 31 = .ok (.areturn, 1) := by decide +kernel
theorem own_vo_pn : plainName "java/lang/Integer" = true := by first | (simp [plainName, overriddenIn]; done) | decide +kernel
theorem own_vo_ef (m : MethodId) (pi : Int32) : entryFrame m #[(.int pi)] 1 = mkF m 0 #[iv pi] [] := by first | (simp [entryFrame, mkF, argsToLocals, Value.category]; done) | rfl
def own_vo_Q (Z : State) (pi : Int32) (ca : Addr) (h0 : Heap) (n0 : Nat) (v : Option Value) (h : Heap) (L : List Loc) : Prop := ∃ a, v = some (.ref a) ∧ Fr n0 L ∧ Keep h0 h [] ∧ Exa Z h a "java/lang/Integer" ∧ Fld Z h a "java/lang/Integer" "value" "I" (.int pi)
set_option maxRecDepth 65536 in
set_option maxHeartbeats 40000000 in
theorem own_vo (l : Launch) (Z : State) (a0 : Array Value) (hw : ∀ d ∈ tables_1, d.before a0 Z = true) (ws : List Jvm.Cond) (pi : Int32) (ca : Addr) (h0 : Heap) (n0 : Nat) (Z0 : n0 ≤ h0.size) (S1 : Sta Z h0 "java/lang/Integer$IntegerCache" "high" "I" (.int (127 : Int32))) (S2 : Sta Z h0 "java/lang/Integer$IntegerCache" "cache" "[Ljava/lang/Integer;" (.ref ca)) (hC : own_Cache Z h0 ca) :
    MetFree l own_y4 (head1 (Jvm.Cond.code own_y4 jdk_33_method_22_code 1 (some (.object "java/lang/Integer")) :: ws) ({ frames := 3, cells := 1, slots := 1, locals := 38 } : Room)) (fun a U => a = #[(.int pi)] ∧ Z.Warmed39 U.vm ∧ U.heap = h0) (fun _ _ _ _ _ => True) (fun _ U o U' => ∃ v L, o = .returned v ∧ (own_vo_Q Z pi ca h0 n0) v U'.heap L ∧ FrameEnd U o U' L ({ frames := 3, cells := 1, slots := 1, locals := 38 } : Room).cells ({ frames := 3, cells := 1, slots := 1, locals := 38 } : Room).slots) := by
  refine MetFree.of_bodySF (plainFor_of_name own_vo_pn) hisR ?_
  intro p e s m args below meth c s₁ Bd hml0 hP hK
  obtain ⟨rfl, hZ, hh⟩ := hP
  have hx := Bd.exec
  have hby := Bd.bytes
  have hml : c.maxLocals = 1 := hml0
  have hown : s.vm.findClass "java/lang/Integer" = some m.cls := findClass_of_methodNamed Bd.named
  have hnm := (name_of_methodNamed Bd.named Bd.method).1
  have hlk : meth.locks = false := Bd.notSynchronized
  have X0 : Stand p l e ({ frames := 3, cells := 1, slots := 1, locals := 38 } : Room) s m #[(.int pi)] below meth c s₁ [] 0 0 := Stand.of_body Bd
  have e0 : s₁.heap = h0 := by rw [← hh, Bd.state]; rfl
  have N0 := Fr.nil n0
  have w_2 := hw _ (List.mem_of_getElem? (l := tables_1) (i := 2) rfl)
  have w_4 := hw _ (List.mem_of_getElem? (l := tables_1) (i := 4) rfl)
  have w_6 := hw _ (List.mem_of_getElem? (l := tables_1) (i := 6) rfl)
  have w_49 := hw _ (List.mem_of_getElem? (l := tables_1) (i := 49) rfl)
  have w_50 := hw _ (List.mem_of_getElem? (l := tables_1) (i := 50) rfl)
  have w_51 := hw _ (List.mem_of_getElem? (l := tables_1) (i := 51) rfl)
  have w_52 := hw _ (List.mem_of_getElem? (l := tables_1) (i := 52) rfl)
  have w_53 := hw _ (List.mem_of_getElem? (l := tables_1) (i := 53) rfl)
  have w_54 := hw _ (List.mem_of_getElem? (l := tables_1) (i := 54) rfl)
  show own_G p.tables e below (fun o U' => ∃ v L, o = .returned v ∧ (own_vo_Q Z pi ca h0 n0) v U'.heap L ∧ FrameEnd s o U' L ({ frames := 3, cells := 1, slots := 1, locals := 38 } : Room).cells ({ frames := 3, cells := 1, slots := 1, locals := 38 } : Room).slots) (s₁.setTop (entryFrame m #[(.int pi)] 1))
  refine own_go (B := s₁.setTop (mkF m 0 #[iv pi] [])) (fun t k => castTop (own_vo_ef m pi) k) ?_
  have K0 := Keep.refl h0 []
  obtain ⟨Lc, hCA, hCL⟩ := hC
  refine own_go (B := (s₁.setTop (mkF m 1 #[iv pi] [(.int pi)]))) (fun t k => XS.iloadN X0.here hx rfl (hb hby own_vo_d0) rfl k) ?_
  refine own_go (B := (s₁.setTop (mkF m 3 #[iv pi] [(.int (-128 : Int32)), (.int pi)]))) (fun t k => own_bipush (v := (-128 : Int32)) X0.here hx rfl (hb hby own_vo_d1) (by decide) k) ?_
  refine own_icmp X0 hx (hb hby own_vo_d3) (pc' := 23) (pn := 6) (by decide) (by decide) rfl (fun (hc3 : pi < (-128 : Int32)) => ?_) (fun (hc3 : ¬ pi < (-128 : Int32)) => ?_)
  · obtain ⟨T1, h1, X1, e1, E1, A1, D1, U1, st1⟩ := newO X0 hx hZ hown w_50 w_51 w_2 e0 (g := (mkF m 23 #[iv pi] [])) rfl (hb hby own_vo_d23) (own_b rfl) (own_b rfl)
    obtain ⟨a1, ga1⟩ : ∃ z, z = h0.size := ⟨_, rfl⟩
    rw [← ga1] at A1 D1 U1 st1
    refine own_go (B := (T1.setTop (mkF m 26 #[iv pi] [(.ref a1)]))) st1 ?_
    have Z2 : n0 ≤ h1.size := Nat.le_trans Z0 E1.1
    have K3 := Keep.ext K0 E1
    have gn1 : n0 ≤ a1 := Nat.le_trans Z0 (Nat.le_of_eq ga1.symm)
    have F4 : Fld Z h1 a1 "java/lang/Integer" "value" "I" (.int (0 : Int32)) := D1 (Or.inr w_49) (ty := .int) (by decide)
    refine own_go (B := (T1.setTop (mkF m 27 #[iv pi] [(.ref a1), (.ref a1)]))) (fun t k => XS.dup X1.here hx rfl (hb hby own_vo_d26) rfl rfl k) ?_
    refine own_go (B := (T1.setTop (mkF m 28 #[iv pi] [(.int pi), (.ref a1), (.ref a1)]))) (fun t k => XS.iloadN X1.here hx rfl (hb hby own_vo_d27) rfl k) ?_
    obtain ⟨_, _, ⟨T5, L5, k5, n5⟩, -, X5, ⟨Lc5, hQ5, l5, y5, z5⟩, st5⟩ := X1.specialBack hx (y := own_y2) rfl hown (mvT hZ w_52) (mvT hZ w_53) (mvT hZ w_54) (by decide) (backOf (W := 1) (own_ict l Z a0 hw [] a1 pi h1 n0 Z2 A1 gn1 F4) hZ w_54 w_2 (by decide) (by decide)) (g := (mkF m 28 #[iv pi] [(.int pi), (.ref a1), (.ref a1)])) rfl (by rw [hml]; rfl) (Steps.refl _) (a := a1) (argsL := [(.int pi)]) (rest := [(.ref a1)]) (lenOf own_pd2 rfl) rfl (by show 2 * 0 + _ ≤ _; exact own_b rfl) (hb hby own_vo_d28) (fun _ _ => ⟨rfl, e1, (own_b rfl : 1 + 0 ≤ _), (own_b rfl : 1 + 0 ≤ _)⟩)
    dsimp only [Pt.U, Pt.locs, Pt.cells, Pt.slots] at X5 l5 y5 z5 st5 hQ5
    obtain ⟨rfl, Nq5, K5, Ex5, g0_5⟩ := hQ5
    obtain ⟨L5, X5, N5⟩ := own_absC (K := 1) (K' := 1) X5 l5 y5 z5 N0 Nq5
    have F6 : n0 ≤ T5.heap.size := Nat.le_trans Z2 K5.1
    have F7 := Keep.trans K3 K5 (allS (Or.inr (Nat.le_trans K0.1 (Nat.le_of_eq ga1.symm))) all0)
    have F8 := Exa.keep A1 K5
    refine own_tr (B := (T5.setTop (mkF m 31 #[iv pi] [(.ref a1)]))) st5 ?_
    exact own_retA X5 hx hlk Bd.returns rfl rfl (hb hby own_vo_d31) (own_b rfl) (own_b rfl) (Q := (own_vo_Q Z pi ca h0 n0)) ⟨a1, rfl, N5, F7, Ex5, g0_5⟩
  · refine own_go (B := (s₁.setTop (mkF m 7 #[iv pi] [(.int pi)]))) (fun t k => XS.iloadN X0.here hx rfl (hb hby own_vo_d6) rfl k) ?_
    obtain ⟨T10, X10, e10, st10⟩ := getS X0 hx hZ hown (host := "") w_4 Via.refl e0 S1 (g := (mkF m 7 #[iv pi] [(.int pi)])) rfl (hb hby own_vo_d7)
    refine own_go (B := (T10.setTop (mkF m 10 #[iv pi] [(.int (127 : Int32)), (.int pi)]))) st10 ?_
    refine own_icmp X10 hx (hb hby own_vo_d10) (pc' := 23) (pn := 13) (by decide) (by decide) rfl (fun (hc10 : (127 : Int32) < pi) => ?_) (fun (hc10 : ¬ (127 : Int32) < pi) => ?_)
    · obtain ⟨T11, h11, X11, e11, E11, A11, D11, U11, st11⟩ := newO X10 hx hZ hown w_50 w_51 w_2 e10 (g := (mkF m 23 #[iv pi] [])) rfl (hb hby own_vo_d23) (own_b rfl) (own_b rfl)
      obtain ⟨a11, ga11⟩ : ∃ z, z = h0.size := ⟨_, rfl⟩
      rw [← ga11] at A11 D11 U11 st11
      refine own_go (B := (T11.setTop (mkF m 26 #[iv pi] [(.ref a11)]))) st11 ?_
      have Z12 : n0 ≤ h11.size := Nat.le_trans Z0 E11.1
      have K13 := Keep.ext K0 E11
      have gn11 : n0 ≤ a11 := Nat.le_trans Z0 (Nat.le_of_eq ga11.symm)
      have F14 : Fld Z h11 a11 "java/lang/Integer" "value" "I" (.int (0 : Int32)) := D11 (Or.inr w_49) (ty := .int) (by decide)
      refine own_go (B := (T11.setTop (mkF m 27 #[iv pi] [(.ref a11), (.ref a11)]))) (fun t k => XS.dup X11.here hx rfl (hb hby own_vo_d26) rfl rfl k) ?_
      refine own_go (B := (T11.setTop (mkF m 28 #[iv pi] [(.int pi), (.ref a11), (.ref a11)]))) (fun t k => XS.iloadN X11.here hx rfl (hb hby own_vo_d27) rfl k) ?_
      obtain ⟨_, _, ⟨T15, L15, k15, n15⟩, -, X15, ⟨Lc15, hQ15, l15, y15, z15⟩, st15⟩ := X11.specialBack hx (y := own_y2) rfl hown (mvT hZ w_52) (mvT hZ w_53) (mvT hZ w_54) (by decide) (backOf (W := 1) (own_ict l Z a0 hw [] a11 pi h11 n0 Z12 A11 gn11 F14) hZ w_54 w_2 (by decide) (by decide)) (g := (mkF m 28 #[iv pi] [(.int pi), (.ref a11), (.ref a11)])) rfl (by rw [hml]; rfl) (Steps.refl _) (a := a11) (argsL := [(.int pi)]) (rest := [(.ref a11)]) (lenOf own_pd2 rfl) rfl (by show 2 * 0 + _ ≤ _; exact own_b rfl) (hb hby own_vo_d28) (fun _ _ => ⟨rfl, e11, (own_b rfl : 1 + 0 ≤ _), (own_b rfl : 1 + 0 ≤ _)⟩)
      dsimp only [Pt.U, Pt.locs, Pt.cells, Pt.slots] at X15 l15 y15 z15 st15 hQ15
      obtain ⟨rfl, Nq15, K15, Ex15, g0_15⟩ := hQ15
      obtain ⟨L15, X15, N15⟩ := own_absC (K := 1) (K' := 1) X15 l15 y15 z15 N0 Nq15
      have F16 : n0 ≤ T15.heap.size := Nat.le_trans Z12 K15.1
      have F17 := Keep.trans K13 K15 (allS (Or.inr (Nat.le_trans K0.1 (Nat.le_of_eq ga11.symm))) all0)
      have F18 := Exa.keep A11 K15
      refine own_tr (B := (T15.setTop (mkF m 31 #[iv pi] [(.ref a11)]))) st15 ?_
      exact own_retA X15 hx hlk Bd.returns rfl rfl (hb hby own_vo_d31) (own_b rfl) (own_b rfl) (Q := (own_vo_Q Z pi ca h0 n0)) ⟨a11, rfl, N15, F17, Ex15, g0_15⟩
    · obtain ⟨T20, X20, e20, st20⟩ := getS X10 hx hZ hown (host := "") w_6 Via.refl e10 S2 (g := (mkF m 13 #[iv pi] [])) rfl (hb hby own_vo_d13)
      refine own_go (B := (T20.setTop (mkF m 16 #[iv pi] [(.ref ca)]))) st20 ?_
      refine own_go (B := (T20.setTop (mkF m 17 #[iv pi] [(.int pi), (.ref ca)]))) (fun t k => XS.iloadN X20.here hx rfl (hb hby own_vo_d16) rfl k) ?_
      refine own_go (B := (T20.setTop (mkF m 20 #[iv pi] [(.int (128 : Int32)), (.int pi), (.ref ca)]))) (fun t k => own_sipush (v := (128 : Int32)) X20.here hx rfl (hb hby own_vo_d17) (by decide) k) ?_
      refine own_go (B := (T20.setTop (mkF m 21 #[iv pi] [(.int (pi + (128 : Int32))), (.ref ca)]))) (fun t k => XS.iadd (x := pi) (y := (128 : Int32)) X20.here hx rfl (hb hby own_vo_d20) rfl k) ?_
      obtain ⟨y, hy1, hy2, hy3⟩ := hCL _ hc3 hc10
      refine own_go (B := (T20.setTop (mkF m 22 #[iv pi] [(.ref y)]))) (own_ldR X20 hx hZ e20 hCA rfl (v := (.ref y)) (own_j128 hc3 hc10) hy1 (g := (mkF m 21 #[iv pi] [(.int (pi + (128 : Int32))), (.ref ca)])) rfl rfl (hb hby own_vo_d21)) ?_
      exact own_retA X20 hx hlk Bd.returns rfl rfl (hb hby own_vo_d22) (own_b rfl) (own_b rfl) (Q := (own_vo_Q Z pi ca h0 n0)) (by rw [e20]; exact ⟨y, rfl, N0, K0, hy2, hy3⟩)

theorem own_sct_d0 : decode prog_71_method_1_code 0 = .ok (.aload_n 0, 1) := by decide +kernel
theorem own_sct_d1 : decode prog_71_method_1_code 1 = .ok (.invokespecial 1, 3) := by decide +kernel
theorem own_sct_d4 : decode prog_71_method_1_code 4 = .ok (.aload_n 0, 1) := by decide +kernel
theorem own_sct_d5 : decode prog_71_method_1_code 5 = .ok (.iload_n 1, 1) := by decide +kernel
theorem own_sct_d6 : decode prog_71_method_1_code 6 = .ok (.anewarray 2, 3) := by decide +kernel
theorem own_sct_d9 : decode prog_71_method_1_code 9 = .ok (.putfield 7, 3) := by decide +kernel
theorem own_sct_d12 : decode prog_71_method_1_code 12 = .ok (.return_, 1) := by decide +kernel
theorem own_sct_pn : plainName "com/example/pagemason/pagemason/core/Spares" = true := by first | (simp [plainName, overriddenIn]; done) | decide +kernel
theorem own_sct_ef (m : MethodId) (th : Addr) (pn : Int32) : entryFrame m #[(.ref th), (.int pn)] 2 = mkF m 0 #[rv th, iv pn] [] := by first | (simp [entryFrame, mkF, argsToLocals, Value.category]; done) | rfl
def own_sct_Q (Z : State) (th : Addr) (pn : Int32) (h0 : Heap) (n0 : Nat) (v : Option Value) (h : Heap) (L : List Loc) : Prop := v = none ∧ Fr n0 L ∧ Keep h0 h [th] ∧ Exa Z h th "com/example/pagemason/pagemason/core/Spares" ∧ ∃ ar, h0.size ≤ ar ∧ Fld Z h th "com/example/pagemason/pagemason/core/Spares" "kept" "[Ljava/lang/Object;" (.ref ar) ∧ Fld Z h th "com/example/pagemason/pagemason/core/Spares" "count" "I" (.int (0 : Int32)) ∧ own_Ao Z h ar "java/lang/Object" (List.replicate pn.toNatClampNeg .null)
set_option maxRecDepth 65536 in
set_option maxHeartbeats 40000000 in
theorem own_sct (l : Launch) (Z : State) (a0 : Array Value) (hw : ∀ d ∈ tables_1, d.before a0 Z = true) (ws : List Jvm.Cond) (th : Addr) (pn : Int32) (h0 : Heap) (n0 : Nat) (Z0 : n0 ≤ h0.size) (E0 : Exa Z h0 th "com/example/pagemason/pagemason/core/Spares") (g0 : n0 ≤ th) (F9000 : Fld Z h0 th "com/example/pagemason/pagemason/core/Spares" "kept" "[Ljava/lang/Object;" .null) (F9001 : Fld Z h0 th "com/example/pagemason/pagemason/core/Spares" "count" "I" (.int (0 : Int32))) (q1 : ¬ pn < 0) (q2 : pn.toNatClampNeg ≤ 3) :
    MetFree l own_y5 (head1 (Jvm.Cond.code own_y5 prog_71_method_1_code 2 none :: ws) ({ frames := 1, cells := 1, slots := 3, locals := 12 } : Room)) (fun a U => a = #[(.ref th), (.int pn)] ∧ Z.Warmed39 U.vm ∧ U.heap = h0) (fun _ _ _ _ _ => True) (fun _ U o U' => ∃ v L, o = .returned v ∧ (own_sct_Q Z th pn h0 n0) v U'.heap L ∧ FrameEnd U o U' L ({ frames := 1, cells := 1, slots := 3, locals := 12 } : Room).cells ({ frames := 1, cells := 1, slots := 3, locals := 12 } : Room).slots) := by
  refine MetFree.of_bodySF (plainFor_of_name own_sct_pn) hisR ?_
  intro p e s m args below meth c s₁ Bd hml0 hP hK
  obtain ⟨rfl, hZ, hh⟩ := hP
  have hx := Bd.exec
  have hby := Bd.bytes
  have hml : c.maxLocals = 2 := hml0
  have hown : s.vm.findClass "com/example/pagemason/pagemason/core/Spares" = some m.cls := findClass_of_methodNamed Bd.named
  have hnm := (name_of_methodNamed Bd.named Bd.method).1
  have hlk : meth.locks = false := Bd.notSynchronized
  have X0 : Stand p l e ({ frames := 1, cells := 1, slots := 3, locals := 12 } : Room) s m #[(.ref th), (.int pn)] below meth c s₁ [] 0 0 := Stand.of_body Bd
  have e0 : s₁.heap = h0 := by rw [← hh, Bd.state]; rfl
  have N0 := Fr.nil n0
  have w_8 := hw _ (List.mem_of_getElem? (l := tables_1) (i := 8) rfl)
  have w_13 := hw _ (List.mem_of_getElem? (l := tables_1) (i := 13) rfl)
  have w_14 := hw _ (List.mem_of_getElem? (l := tables_1) (i := 14) rfl)
  have w_15 := hw _ (List.mem_of_getElem? (l := tables_1) (i := 15) rfl)
  have w_16 := hw _ (List.mem_of_getElem? (l := tables_1) (i := 16) rfl)
  have w_17 := hw _ (List.mem_of_getElem? (l := tables_1) (i := 17) rfl)
  have w_18 := hw _ (List.mem_of_getElem? (l := tables_1) (i := 18) rfl)
  have w_19 := hw _ (List.mem_of_getElem? (l := tables_1) (i := 19) rfl)
  have w_26 := hw _ (List.mem_of_getElem? (l := tables_1) (i := 26) rfl)
  show own_G p.tables e below (fun o U' => ∃ v L, o = .returned v ∧ (own_sct_Q Z th pn h0 n0) v U'.heap L ∧ FrameEnd s o U' L ({ frames := 1, cells := 1, slots := 3, locals := 12 } : Room).cells ({ frames := 1, cells := 1, slots := 3, locals := 12 } : Room).slots) (s₁.setTop (entryFrame m #[(.ref th), (.int pn)] 2))
  refine own_go (B := s₁.setTop (mkF m 0 #[rv th, iv pn] [])) (fun t k => castTop (own_sct_ef m th pn) k) ?_
  have K0 := Keep.refl h0 [th]
  refine own_go (B := (s₁.setTop (mkF m 1 #[rv th, iv pn] [(.ref th)]))) (fun t k => XS.aloadN X0.here hx rfl (hb hby own_sct_d0) rfl rfl k) ?_
  obtain ⟨T1, X1, e1, st1⟩ := initO X0 hx hZ hown w_13 w_14 w_15 e0 (g := (mkF m 1 #[rv th, iv pn] [(.ref th)])) rfl (by rw [hml]; rfl) rfl (hb hby own_sct_d1) (by decide) (W := 0) (by show 2 * 0 + _ ≤ _; exact own_b rfl) (by decide)
  refine own_go (B := (T1.setTop (mkF m 4 #[rv th, iv pn] []))) st1 ?_
  refine own_go (B := (T1.setTop (mkF m 5 #[rv th, iv pn] [(.ref th)]))) (fun t k => XS.aloadN X1.here hx rfl (hb hby own_sct_d4) rfl rfl k) ?_
  refine own_go (B := (T1.setTop (mkF m 6 #[rv th, iv pn] [(.int pn), (.ref th)]))) (fun t k => XS.iloadN X1.here hx rfl (hb hby own_sct_d5) rfl k) ?_
  obtain ⟨T2, h2, c2, X2, e2, E2, A2, O2, st2⟩ := newR X1 hx hZ hown w_16 w_17 e1 (g := (mkF m 6 #[rv th, iv pn] [(.int pn), (.ref th)])) rfl (hb hby own_sct_d6) rfl q1 (cap := 3) q2 (by decide) (own_b rfl) (own_b rfl)
  obtain ⟨a2, ga2⟩ : ∃ z, z = h0.size := ⟨_, rfl⟩
  rw [← ga2] at A2 st2
  refine own_go (B := (T2.setTop (mkF m 9 #[rv th, iv pn] [(.ref a2), (.ref th)]))) st2 ?_
  have Z3 : n0 ≤ h2.size := Nat.le_trans Z0 E2.1
  have F4 := Exa.ext E2 E0
  have K5 := Keep.ext K0 E2
  have F6 := Fld.ext E2 F9000
  have F7 := Fld.ext E2 F9001
  have gn2 : n0 ≤ a2 := Nat.le_trans Z0 (Nat.le_of_eq ga2.symm)
  have ne2_th : a2 ≠ th := fun q => absurd (E0.lt) (by rw [← q, ga2]; exact Nat.lt_irrefl _)
  have V2 := own_Ao_new A2 O2
  obtain ⟨T8, h8, X8, e8, W8, st8⟩ := putF X2 hx hZ hown (host := "") (Or.inl w_18) Via.refl e2 F6 F4 (Or.inr ⟨w_19, rfl, hnm⟩) w_8 (ty := (.array (.object "java/lang/Object"))) (by decide) rfl rfl (g := (mkF m 9 #[rv th, iv pn] [(.ref a2), (.ref th)])) rfl rfl (hb hby own_sct_d9)
  refine own_go (B := (T8.setTop (mkF m 12 #[rv th, iv pn] []))) st8 ?_
  obtain ⟨L8, X8, N8⟩ := own_abs X8 (Fr.snoc X8 N0 g0)
  have F9 : n0 ≤ h8.size := by rw [W8.size]; exact Z3
  have F10 := Exa.wr W8 F4
  have F11 := Keep.wr K5 W8 (Or.inl (List.mem_of_getElem? (i := 0) rfl))
  have F12 := Fld.same W8 F6
  have F13 := Fld.other W8 F7 (Or.inr (slot_ne (t := .int) (t' := (.array (.object "java/lang/Object"))) (Or.inl w_26) (Or.inr w_19) (by decide) (by decide) (by decide)))
  have F14 := own_Ao_other V2 W8 ne2_th
  exact own_retV X8 hx hlk Bd.returns (hb hby own_sct_d12) (own_b rfl) (own_b rfl) (Q := (own_sct_Q Z th pn h0 n0)) (by rw [e8]; exact ⟨rfl, N8, F11, F10, a2, Nat.le_of_eq ga2.symm, F12, F13, F14⟩)

theorem own_kfull_d0 : decode prog_71_method_2_code 0 = .ok (.aload_n 0, 1) := by decide +kernel
theorem own_kfull_d1 : decode prog_71_method_2_code 1 = .ok (.getfield 13, 3) := by decide +kernel
theorem own_kfull_d4 : decode prog_71_method_2_code 4 = .ok (.aload_n 0, 1) := by decide +kernel
theorem own_kfull_d5 : decode prog_71_method_2_code 5 = .ok (.getfield 7, 3) := by decide +kernel
theorem own_kfull_d8 : decode prog_71_method_2_code 8 = .ok (.arraylength, 1) := by decide +kernel
theorem own_kfull_d9 : decode prog_71_method_2_code 9 = .ok (.if_icmp .ge 20, 3) := by decide +kernel
theorem own_kfull_d29 : decode prog_71_method_2_code 29 = .ok (.return_, 1) := by decide +kernel
theorem own_kfull_pn : plainName "com/example/pagemason/pagemason/core/Spares" = true := by first | (simp [plainName, overriddenIn]; done) | decide +kernel
theorem own_kfull_ef (m : MethodId) (th : Addr) (xx : Addr) : entryFrame m #[(.ref th), (.ref xx)] 2 = mkF m 0 #[rv th, rv xx] [] := by first | (simp [entryFrame, mkF, argsToLocals, Value.category]; done) | rfl
def own_kfull_Q (Z : State) (th : Addr) (xx : Addr) (ar : Addr) (cn ln : Int32) (Lv : List Value) (h0 : Heap) (n0 : Nat) (v : Option Value) (h : Heap) (L : List Loc) : Prop := v = none ∧ Fr n0 L ∧ h = h0
set_option maxRecDepth 65536 in
set_option maxHeartbeats 40000000 in
theorem own_kfull (l : Launch) (Z : State) (a0 : Array Value) (hw : ∀ d ∈ tables_1, d.before a0 Z = true) (ws : List Jvm.Cond) (th : Addr) (xx : Addr) (ar : Addr) (cn ln : Int32) (Lv : List Value) (h0 : Heap) (n0 : Nat) (E0 : Exa Z h0 th "com/example/pagemason/pagemason/core/Spares") (F9000 : Fld Z h0 th "com/example/pagemason/pagemason/core/Spares" "kept" "[Ljava/lang/Object;" (.ref ar)) (F9001 : Fld Z h0 th "com/example/pagemason/pagemason/core/Spares" "count" "I" (.int cn)) (V0 : own_Ao Z h0 ar "java/lang/Object" Lv) (hln : Lv.length.toInt32 = ln) (q1 : ¬ cn < ln) :
    MetFree l own_y9 (head1 (Jvm.Cond.code own_y9 prog_71_method_2_code 2 none :: ws) ({ frames := 0, cells := 0, slots := 0, locals := 0 } : Room)) (fun a U => a = #[(.ref th), (.ref xx)] ∧ Z.Warmed39 U.vm ∧ U.heap = h0) (fun _ _ _ _ _ => True) (fun _ U o U' => ∃ v L, o = .returned v ∧ (own_kfull_Q Z th xx ar cn ln Lv h0 n0) v U'.heap L ∧ FrameEnd U o U' L ({ frames := 0, cells := 0, slots := 0, locals := 0 } : Room).cells ({ frames := 0, cells := 0, slots := 0, locals := 0 } : Room).slots) := by
  refine MetFree.of_bodySF (plainFor_of_name own_kfull_pn) hisR ?_
  intro p e s m args below meth c s₁ Bd hml0 hP hK
  obtain ⟨rfl, hZ, hh⟩ := hP
  have hx := Bd.exec
  have hby := Bd.bytes
  have hml : c.maxLocals = 2 := hml0
  have hown : s.vm.findClass "com/example/pagemason/pagemason/core/Spares" = some m.cls := findClass_of_methodNamed Bd.named
  have hnm := (name_of_methodNamed Bd.named Bd.method).1
  have hlk : meth.locks = false := Bd.notSynchronized
  have X0 : Stand p l e ({ frames := 0, cells := 0, slots := 0, locals := 0 } : Room) s m #[(.ref th), (.ref xx)] below meth c s₁ [] 0 0 := Stand.of_body Bd
  have e0 : s₁.heap = h0 := by rw [← hh, Bd.state]; rfl
  have N0 := Fr.nil n0
  have w_18 := hw _ (List.mem_of_getElem? (l := tables_1) (i := 18) rfl)
  have w_25 := hw _ (List.mem_of_getElem? (l := tables_1) (i := 25) rfl)
  show own_G p.tables e below (fun o U' => ∃ v L, o = .returned v ∧ (own_kfull_Q Z th xx ar cn ln Lv h0 n0) v U'.heap L ∧ FrameEnd s o U' L ({ frames := 0, cells := 0, slots := 0, locals := 0 } : Room).cells ({ frames := 0, cells := 0, slots := 0, locals := 0 } : Room).slots) (s₁.setTop (entryFrame m #[(.ref th), (.ref xx)] 2))
  refine own_go (B := s₁.setTop (mkF m 0 #[rv th, rv xx] [])) (fun t k => castTop (own_kfull_ef m th xx) k) ?_
  refine own_go (B := (s₁.setTop (mkF m 1 #[rv th, rv xx] [(.ref th)]))) (fun t k => XS.aloadN X0.here hx rfl (hb hby own_kfull_d0) rfl rfl k) ?_
  obtain ⟨T1, X1, e1, st1⟩ := getF X0 hx hZ hown (host := "") (Or.inl w_25) Via.refl e0 F9001 (g := (mkF m 1 #[rv th, rv xx] [(.ref th)])) rfl rfl (hb hby own_kfull_d1)
  refine own_go (B := (T1.setTop (mkF m 4 #[rv th, rv xx] [(.int cn)]))) st1 ?_
  refine own_go (B := (T1.setTop (mkF m 5 #[rv th, rv xx] [(.ref th), (.int cn)]))) (fun t k => XS.aloadN X1.here hx rfl (hb hby own_kfull_d4) rfl rfl k) ?_
  obtain ⟨T2, X2, e2, st2⟩ := getF X1 hx hZ hown (host := "") (Or.inl w_18) Via.refl e1 F9000 (g := (mkF m 5 #[rv th, rv xx] [(.ref th), (.int cn)])) rfl rfl (hb hby own_kfull_d5)
  refine own_go (B := (T2.setTop (mkF m 8 #[rv th, rv xx] [(.ref ar), (.int cn)]))) st2 ?_
  refine own_go (B := (T2.setTop (mkF m 9 #[rv th, rv xx] [(.int ln), (.int cn)]))) (own_alen X2 hx hZ e2 (own_Ao_ar V0) (n := ln) hln (g := (mkF m 8 #[rv th, rv xx] [(.ref ar), (.int cn)])) rfl rfl (hb hby own_kfull_d8)) ?_
  have hc9 : ¬ cn < ln := q1
  refine own_icmpY X2 hx (hb hby own_kfull_d9) (pc' := 29) (by decide) (by decide) hc9 ?_
  exact own_retV X2 hx hlk Bd.returns (hb hby own_kfull_d29) (own_b rfl) (own_b rfl) (Q := (own_kfull_Q Z th xx ar cn ln Lv h0 n0)) ⟨rfl, N0, e2⟩

theorem own_kone_d0 : decode prog_71_method_2_code 0 = .ok (.aload_n 0, 1) := by decide +kernel
theorem own_kone_d1 : decode prog_71_method_2_code 1 = .ok (.getfield 13, 3) := by decide +kernel
theorem own_kone_d4 : decode prog_71_method_2_code 4 = .ok (.aload_n 0, 1) := by decide +kernel
theorem own_kone_d5 : decode prog_71_method_2_code 5 = .ok (.getfield 7, 3) := by decide +kernel
theorem own_kone_d8 : decode prog_71_method_2_code 8 = .ok (.arraylength, 1) := by decide +kernel
theorem own_kone_d9 : decode prog_71_method_2_code 9 = .ok (.if_icmp .ge 20, 3) := by decide +kernel
theorem own_kone_d12 : decode prog_71_method_2_code 12 = .ok (.aload_n 0, 1) := by decide +kernel
theorem own_kone_d13 : decode prog_71_method_2_code 13 = .ok (.getfield 7, 3) := by decide +kernel
theorem own_kone_d16 : decode prog_71_method_2_code 16 = .ok (.aload_n 0, 1) := by decide +kernel
theorem own_kone_d17 : decode prog_71_method_2_code 17 = .ok (.dup, 1) := by decide +kernel
theorem own_kone_d18 : decode prog_71_method_2_code 18 = .ok (.getfield 13, 3) := by decide +kernel
theorem own_kone_d21 : decode prog_71_method_2_code 21 = .ok (.dup_x1, 1) := by decide +kernel
theorem own_kone_d22 : decode prog_71_method_2_code 22 = .ok (.iconst 1, 1) := by decide +kernel
theorem own_kone_d23 : decode prog_71_method_2_code 23 = .ok (.iadd, 1) := by decide +kernel
theorem own_kone_d24 : decode prog_71_method_2_code 24 = .ok (.putfield 13, 3) := by decide +kernel
theorem own_kone_d27 : decode prog_71_method_2_code 27 = .ok (.aload_n 1, 1) := by decide +kernel
theorem own_kone_d28 : decode prog_71_method_2_code 28 = .ok (.aastore, 1) := by decide +kernel
theorem own_kone_d29 : decode prog_71_method_2_code 29 = .ok (.return_, 1) := by decide +kernel
theorem own_kone_pn : plainName "com/example/pagemason/pagemason/core/Spares" = true := by first | (simp [plainName, overriddenIn]; done) | decide +kernel
theorem own_kone_ef (m : MethodId) (th : Addr) (xx : Addr) : entryFrame m #[(.ref th), (.ref xx)] 2 = mkF m 0 #[rv th, rv xx] [] := by first | (simp [entryFrame, mkF, argsToLocals, Value.category]; done) | rfl
def own_kone_Q (Z : State) (th : Addr) (xx : Addr) (ar : Addr) (cn ln c1 : Int32) (Lv L2 : List Value) (h0 : Heap) (n0 : Nat) (v : Option Value) (h : Heap) (L : List Loc) : Prop := v = none ∧ Fr n0 L ∧ Keep h0 h [th, ar] ∧ Exa Z h th "com/example/pagemason/pagemason/core/Spares" ∧ Fld Z h th "com/example/pagemason/pagemason/core/Spares" "kept" "[Ljava/lang/Object;" (.ref ar) ∧ Fld Z h th "com/example/pagemason/pagemason/core/Spares" "count" "I" (.int c1) ∧ own_Ao Z h ar "java/lang/Object" L2
set_option maxRecDepth 65536 in
set_option maxHeartbeats 40000000 in
theorem own_kone (l : Launch) (Z : State) (a0 : Array Value) (hw : ∀ d ∈ tables_1, d.before a0 Z = true) (ws : List Jvm.Cond) (th : Addr) (xx : Addr) (ar : Addr) (cn ln c1 : Int32) (Lv L2 : List Value) (h0 : Heap) (n0 : Nat) (E0 : Exa Z h0 th "com/example/pagemason/pagemason/core/Spares") (F9000 : Fld Z h0 th "com/example/pagemason/pagemason/core/Spares" "kept" "[Ljava/lang/Object;" (.ref ar)) (F9001 : Fld Z h0 th "com/example/pagemason/pagemason/core/Spares" "count" "I" (.int cn)) (V0 : own_Ao Z h0 ar "java/lang/Object" Lv) (Z0 : n0 ≤ h0.size) (g0 : n0 ≤ th) (g1 : n0 ≤ ar) (nz : ar ≠ th) (hln : Lv.length.toInt32 = ln) (q1 : cn < ln) (q2 : ¬ cn < 0) (q3 : cn.toNatClampNeg < Lv.length) (hc1 : cn + (1 : Int32) = c1) (hI : Ins Z h0 xx "java/lang/Object" true) (hL : Lv.set cn.toNatClampNeg (.ref xx) = L2) :
    MetFree l own_y9 (head1 (Jvm.Cond.code own_y9 prog_71_method_2_code 2 none :: ws) ({ frames := 0, cells := 0, slots := 0, locals := 0 } : Room)) (fun a U => a = #[(.ref th), (.ref xx)] ∧ Z.Warmed39 U.vm ∧ U.heap = h0) (fun _ _ _ _ _ => True) (fun _ U o U' => ∃ v L, o = .returned v ∧ (own_kone_Q Z th xx ar cn ln c1 Lv L2 h0 n0) v U'.heap L ∧ FrameEnd U o U' L ({ frames := 0, cells := 0, slots := 0, locals := 0 } : Room).cells ({ frames := 0, cells := 0, slots := 0, locals := 0 } : Room).slots) := by
  refine MetFree.of_bodySF (plainFor_of_name own_kone_pn) hisR ?_
  intro p e s m args below meth c s₁ Bd hml0 hP hK
  obtain ⟨rfl, hZ, hh⟩ := hP
  have hx := Bd.exec
  have hby := Bd.bytes
  have hml : c.maxLocals = 2 := hml0
  have hown : s.vm.findClass "com/example/pagemason/pagemason/core/Spares" = some m.cls := findClass_of_methodNamed Bd.named
  have hnm := (name_of_methodNamed Bd.named Bd.method).1
  have hlk : meth.locks = false := Bd.notSynchronized
  have X0 : Stand p l e ({ frames := 0, cells := 0, slots := 0, locals := 0 } : Room) s m #[(.ref th), (.ref xx)] below meth c s₁ [] 0 0 := Stand.of_body Bd
  have e0 : s₁.heap = h0 := by rw [← hh, Bd.state]; rfl
  have N0 := Fr.nil n0
  have w_8 := hw _ (List.mem_of_getElem? (l := tables_1) (i := 8) rfl)
  have w_18 := hw _ (List.mem_of_getElem? (l := tables_1) (i := 18) rfl)
  have w_19 := hw _ (List.mem_of_getElem? (l := tables_1) (i := 19) rfl)
  have w_25 := hw _ (List.mem_of_getElem? (l := tables_1) (i := 25) rfl)
  have w_26 := hw _ (List.mem_of_getElem? (l := tables_1) (i := 26) rfl)
  show own_G p.tables e below (fun o U' => ∃ v L, o = .returned v ∧ (own_kone_Q Z th xx ar cn ln c1 Lv L2 h0 n0) v U'.heap L ∧ FrameEnd s o U' L ({ frames := 0, cells := 0, slots := 0, locals := 0 } : Room).cells ({ frames := 0, cells := 0, slots := 0, locals := 0 } : Room).slots) (s₁.setTop (entryFrame m #[(.ref th), (.ref xx)] 2))
  refine own_go (B := s₁.setTop (mkF m 0 #[rv th, rv xx] [])) (fun t k => castTop (own_kone_ef m th xx) k) ?_
  have K0 := Keep.refl h0 [th, ar]
  refine own_go (B := (s₁.setTop (mkF m 1 #[rv th, rv xx] [(.ref th)]))) (fun t k => XS.aloadN X0.here hx rfl (hb hby own_kone_d0) rfl rfl k) ?_
  obtain ⟨T1, X1, e1, st1⟩ := getF X0 hx hZ hown (host := "") (Or.inl w_25) Via.refl e0 F9001 (g := (mkF m 1 #[rv th, rv xx] [(.ref th)])) rfl rfl (hb hby own_kone_d1)
  refine own_go (B := (T1.setTop (mkF m 4 #[rv th, rv xx] [(.int cn)]))) st1 ?_
  refine own_go (B := (T1.setTop (mkF m 5 #[rv th, rv xx] [(.ref th), (.int cn)]))) (fun t k => XS.aloadN X1.here hx rfl (hb hby own_kone_d4) rfl rfl k) ?_
  obtain ⟨T2, X2, e2, st2⟩ := getF X1 hx hZ hown (host := "") (Or.inl w_18) Via.refl e1 F9000 (g := (mkF m 5 #[rv th, rv xx] [(.ref th), (.int cn)])) rfl rfl (hb hby own_kone_d5)
  refine own_go (B := (T2.setTop (mkF m 8 #[rv th, rv xx] [(.ref ar), (.int cn)]))) st2 ?_
  refine own_go (B := (T2.setTop (mkF m 9 #[rv th, rv xx] [(.int ln), (.int cn)]))) (own_alen X2 hx hZ e2 (own_Ao_ar V0) (n := ln) hln (g := (mkF m 8 #[rv th, rv xx] [(.ref ar), (.int cn)])) rfl rfl (hb hby own_kone_d8)) ?_
  have hc9 : cn < ln := q1
  refine own_icmpN X2 hx (hb hby own_kone_d9) (pn := 12) rfl hc9 ?_
  refine own_go (B := (T2.setTop (mkF m 13 #[rv th, rv xx] [(.ref th)]))) (fun t k => XS.aloadN X2.here hx rfl (hb hby own_kone_d12) rfl rfl k) ?_
  obtain ⟨T3, X3, e3, st3⟩ := getF X2 hx hZ hown (host := "") (Or.inl w_18) Via.refl e2 F9000 (g := (mkF m 13 #[rv th, rv xx] [(.ref th)])) rfl rfl (hb hby own_kone_d13)
  refine own_go (B := (T3.setTop (mkF m 16 #[rv th, rv xx] [(.ref ar)]))) st3 ?_
  refine own_go (B := (T3.setTop (mkF m 17 #[rv th, rv xx] [(.ref th), (.ref ar)]))) (fun t k => XS.aloadN X3.here hx rfl (hb hby own_kone_d16) rfl rfl k) ?_
  refine own_go (B := (T3.setTop (mkF m 18 #[rv th, rv xx] [(.ref th), (.ref th), (.ref ar)]))) (fun t k => XS.dup X3.here hx rfl (hb hby own_kone_d17) rfl rfl k) ?_
  obtain ⟨T4, X4, e4, st4⟩ := getF X3 hx hZ hown (host := "") (Or.inl w_25) Via.refl e3 F9001 (g := (mkF m 18 #[rv th, rv xx] [(.ref th), (.ref th), (.ref ar)])) rfl rfl (hb hby own_kone_d18)
  refine own_go (B := (T4.setTop (mkF m 21 #[rv th, rv xx] [(.int cn), (.ref th), (.ref ar)]))) st4 ?_
  refine own_go (B := (T4.setTop (mkF m 22 #[rv th, rv xx] [(.int cn), (.ref th), (.int cn), (.ref ar)]))) (fun t k => XS.dupX1 X4.here hx rfl (hb hby own_kone_d21) rfl rfl rfl k) ?_
  refine own_go (B := (T4.setTop (mkF m 23 #[rv th, rv xx] [(.int (1 : Int32)), (.int cn), (.ref th), (.int cn), (.ref ar)]))) (fun t k => own_iconst (v := (1 : Int32)) X4.here hx rfl (hb hby own_kone_d22) (by decide) k) ?_
  refine own_go (B := (T4.setTop (mkF m 24 #[rv th, rv xx] [(.int (cn + (1 : Int32))), (.ref th), (.int cn), (.ref ar)]))) (fun t k => XS.iadd (x := cn) (y := (1 : Int32)) X4.here hx rfl (hb hby own_kone_d23) rfl k) ?_
  rw [hc1]
  obtain ⟨T5, h5, X5, e5, W5, st5⟩ := putF X4 hx hZ hown (host := "") (Or.inl w_25) Via.refl e4 F9001 E0 (Or.inl w_26) w_8 (ty := .int) (by decide) rfl rfl (g := (mkF m 24 #[rv th, rv xx] [(.int c1), (.ref th), (.int cn), (.ref ar)])) rfl rfl (hb hby own_kone_d24)
  refine own_go (B := (T5.setTop (mkF m 27 #[rv th, rv xx] [(.int cn), (.ref ar)]))) st5 ?_
  obtain ⟨L5, X5, N5⟩ := own_abs X5 (Fr.snoc X5 N0 g0)
  have F6 := Exa.wr W5 E0
  have F7 := Fld.other W5 F9000 (Or.inr (slot_ne (t := (.array (.object "java/lang/Object"))) (t' := .int) (Or.inr w_19) (Or.inl w_26) (by decide) (by decide) (by decide)))
  have F8 := Fld.same W5 F9001
  have F9 := own_Ao_other V0 W5 nz
  have F10 : n0 ≤ h5.size := by rw [W5.size]; exact Z0
  have F11 := Keep.wr K0 W5 (Or.inl (List.mem_of_getElem? (i := 0) rfl))
  have F12 := Ins.wr W5 hI
  refine own_go (B := (T5.setTop (mkF m 28 #[rv th, rv xx] [(.ref xx), (.int cn), (.ref ar)]))) (fun t k => XS.aloadN X5.here hx rfl (hb hby own_kone_d27) rfl rfl k) ?_
  obtain ⟨T13, h13, X13, e13, W13, V13, st13⟩ := own_stR X5 hx hZ e5 F9 (Or.inr ⟨_, rfl, F12⟩) q2 q3 (g := (mkF m 28 #[rv th, rv xx] [(.ref xx), (.int cn), (.ref ar)])) rfl rfl (hb hby own_kone_d28)
  refine own_go (B := (T13.setTop (mkF m 29 #[rv th, rv xx] []))) st13 ?_
  obtain ⟨L13, X13, N13⟩ := own_abs X13 (Fr.snoc X13 N5 g1)
  have F14 := Exa.wr W13 F6
  have F15 := Fld.other W13 F7 (Or.inl (Ne.symm nz))
  have F16 := Fld.other W13 F8 (Or.inl (Ne.symm nz))
  have F18 : n0 ≤ h13.size := by rw [W13.size]; exact F10
  have F19 := Keep.wr F11 W13 (Or.inl (List.mem_of_getElem? (i := 1) rfl))
  have F20 := Ins.wr W13 F12
  exact own_retV X13 hx hlk Bd.returns (hb hby own_kone_d29) (own_b rfl) (own_b rfl) (Q := (own_kone_Q Z th xx ar cn ln c1 Lv L2 h0 n0)) (by rw [e13]; exact ⟨rfl, N13, F19, F14, F15, F16, hL ▸ V13⟩)

theorem own_tnone_d0 : decode prog_71_method_3_code 0 = .ok (.aload_n 0, 1) := by decide +kernel
theorem own_tnone_d1 : decode prog_71_method_3_code 1 = .ok (.getfield 13, 3) := by decide +kernel
theorem own_tnone_d4 : decode prog_71_method_3_code 4 = .ok (.ifCond .ne 5, 3) := by decide +kernel
theorem own_tnone_d7 : decode prog_71_method_3_code 7 = .ok (.aconst_null, 1) := by decide +kernel
theorem own_tnone_d8 : decode prog_71_method_3_code 8 = .ok (.areturn, 1) := by decide +kernel
theorem own_tnone_pn : plainName "com/example/pagemason/pagemason/core/Spares" = true := by first | (simp [plainName, overriddenIn]; done) | decide +kernel
theorem own_tnone_ef (m : MethodId) (th : Addr) : entryFrame m #[(.ref th)] 2 = mkF m 0 #[rv th, .unset] [] := by first | (simp [entryFrame, mkF, argsToLocals, Value.category]; done) | rfl
def own_tnone_Q (Z : State) (th : Addr) (h0 : Heap) (n0 : Nat) (v : Option Value) (h : Heap) (L : List Loc) : Prop := v = some .null ∧ Fr n0 L ∧ h = h0
set_option maxRecDepth 65536 in
set_option maxHeartbeats 40000000 in
theorem own_tnone (l : Launch) (Z : State) (a0 : Array Value) (hw : ∀ d ∈ tables_1, d.before a0 Z = true) (ws : List Jvm.Cond) (th : Addr) (h0 : Heap) (n0 : Nat) (F9001 : Fld Z h0 th "com/example/pagemason/pagemason/core/Spares" "count" "I" (.int (0 : Int32))) :
    MetFree l own_y7 (head1 (Jvm.Cond.code own_y7 prog_71_method_3_code 2 (some (.object "java/lang/Object")) :: ws) ({ frames := 0, cells := 0, slots := 0, locals := 0 } : Room)) (fun a U => a = #[(.ref th)] ∧ Z.Warmed39 U.vm ∧ U.heap = h0) (fun _ _ _ _ _ => True) (fun _ U o U' => ∃ v L, o = .returned v ∧ (own_tnone_Q Z th h0 n0) v U'.heap L ∧ FrameEnd U o U' L ({ frames := 0, cells := 0, slots := 0, locals := 0 } : Room).cells ({ frames := 0, cells := 0, slots := 0, locals := 0 } : Room).slots) := by
  refine MetFree.of_bodySF (plainFor_of_name own_tnone_pn) hisR ?_
  intro p e s m args below meth c s₁ Bd hml0 hP hK
  obtain ⟨rfl, hZ, hh⟩ := hP
  have hx := Bd.exec
  have hby := Bd.bytes
  have hml : c.maxLocals = 2 := hml0
  have hown : s.vm.findClass "com/example/pagemason/pagemason/core/Spares" = some m.cls := findClass_of_methodNamed Bd.named
  have hnm := (name_of_methodNamed Bd.named Bd.method).1
  have hlk : meth.locks = false := Bd.notSynchronized
  have X0 : Stand p l e ({ frames := 0, cells := 0, slots := 0, locals := 0 } : Room) s m #[(.ref th)] below meth c s₁ [] 0 0 := Stand.of_body Bd
  have e0 : s₁.heap = h0 := by rw [← hh, Bd.state]; rfl
  have N0 := Fr.nil n0
  have w_25 := hw _ (List.mem_of_getElem? (l := tables_1) (i := 25) rfl)
  show own_G p.tables e below (fun o U' => ∃ v L, o = .returned v ∧ (own_tnone_Q Z th h0 n0) v U'.heap L ∧ FrameEnd s o U' L ({ frames := 0, cells := 0, slots := 0, locals := 0 } : Room).cells ({ frames := 0, cells := 0, slots := 0, locals := 0 } : Room).slots) (s₁.setTop (entryFrame m #[(.ref th)] 2))
  refine own_go (B := s₁.setTop (mkF m 0 #[rv th, .unset] [])) (fun t k => castTop (own_tnone_ef m th) k) ?_
  refine own_go (B := (s₁.setTop (mkF m 1 #[rv th, .unset] [(.ref th)]))) (fun t k => XS.aloadN X0.here hx rfl (hb hby own_tnone_d0) rfl rfl k) ?_
  obtain ⟨T1, X1, e1, st1⟩ := getF X0 hx hZ hown (host := "") (Or.inl w_25) Via.refl e0 F9001 (g := (mkF m 1 #[rv th, .unset] [(.ref th)])) rfl rfl (hb hby own_tnone_d1)
  refine own_go (B := (T1.setTop (mkF m 4 #[rv th, .unset] [(.int (0 : Int32))]))) st1 ?_
  have hc4 : (0 : Int32) = (0 : Int32) := (by decide)
  refine own_ifN X1 hx (hb hby own_tnone_d4) (pn := 7) rfl hc4 ?_
  refine own_go (B := (T1.setTop (mkF m 8 #[rv th, .unset] [.null]))) (fun t k => XS.aconstNull X1.here hx rfl (hb hby own_tnone_d7) k) ?_
  exact own_retA X1 hx hlk Bd.returns rfl rfl (hb hby own_tnone_d8) (own_b rfl) (own_b rfl) (Q := (own_tnone_Q Z th h0 n0)) ⟨rfl, N0, e1⟩

theorem own_tone_d0 : decode prog_71_method_3_code 0 = .ok (.aload_n 0, 1) := by decide +kernel
theorem own_tone_d1 : decode prog_71_method_3_code 1 = .ok (.getfield 13, 3) := by decide +kernel
theorem own_tone_d4 : decode prog_71_method_3_code 4 = .ok (.ifCond .ne 5, 3) := by decide +kernel
theorem own_tone_d9 : decode prog_71_method_3_code 9 = .ok (.aload_n 0, 1) := by decide +kernel
theorem own_tone_d10 : decode prog_71_method_3_code 10 = .ok (.getfield 7, 3) := by decide +kernel
theorem own_tone_d13 : decode prog_71_method_3_code 13 = .ok (.aload_n 0, 1) := by decide +kernel
theorem own_tone_d14 : decode prog_71_method_3_code 14 = .ok (.dup, 1) := by decide +kernel
theorem own_tone_d15 : decode prog_71_method_3_code 15 = .ok (.getfield 13, 3) := by decide +kernel
theorem own_tone_d18 : decode prog_71_method_3_code 18 = .ok (.iconst 1, 1) := by decide +kernel
theorem own_tone_d19 : decode prog_71_method_3_code 19 = .ok (.isub, 1) := by decide +kernel
theorem own_tone_d20 : decode prog_71_method_3_code 20 = .ok (.dup_x1, 1) := by decide +kernel
theorem own_tone_d21 : decode prog_71_method_3_code 21 = .ok (.putfield 13, 3) := by decide +kernel
theorem own_tone_d24 : decode prog_71_method_3_code 24 = .ok (.aaload, 1) := by decide +kernel
theorem own_tone_d25 : decode prog_71_method_3_code 25 = .ok (.astore_n 1, 1) := by decide +kernel
theorem own_tone_d26 : decode prog_71_method_3_code 26 = .ok (.aload_n 0, 1) := by decide +kernel
theorem own_tone_d27 : decode prog_71_method_3_code 27 = .ok (.getfield 7, 3) := by decide +kernel
theorem own_tone_d30 : decode prog_71_method_3_code 30 = .ok (.aload_n 0, 1) := by decide +kernel
theorem own_tone_d31 : decode prog_71_method_3_code 31 = .ok (.getfield 13, 3) := by decide +kernel
theorem own_tone_d34 : decode prog_71_method_3_code 34 = .ok (.aconst_null, 1) := by decide +kernel
theorem own_tone_d35 : decode prog_71_method_3_code 35 = .ok (.aastore, 1) := by decide +kernel
theorem own_tone_d36 : decode prog_71_method_3_code 36 = .ok (.aload_n 1, 1) := by decide +kernel
theorem own_tone_d37 : decode prog_71_method_3_code 37 = .ok (.areturn, 1) := by decide +kernel
theorem own_tone_pn : plainName "com/example/pagemason/pagemason/core/Spares" = true := by first | (simp [plainName, overriddenIn]; done) | decide +kernel
theorem own_tone_ef (m : MethodId) (th : Addr) : entryFrame m #[(.ref th)] 2 = mkF m 0 #[rv th, .unset] [] := by first | (simp [entryFrame, mkF, argsToLocals, Value.category]; done) | rfl
def own_tone_Q (Z : State) (th : Addr) (ar xx : Addr) (cn c1 : Int32) (Lv L2 : List Value) (h0 : Heap) (n0 : Nat) (v : Option Value) (h : Heap) (L : List Loc) : Prop := v = some (.ref xx) ∧ Fr n0 L ∧ Keep h0 h [th, ar] ∧ Exa Z h th "com/example/pagemason/pagemason/core/Spares" ∧ Fld Z h th "com/example/pagemason/pagemason/core/Spares" "kept" "[Ljava/lang/Object;" (.ref ar) ∧ Fld Z h th "com/example/pagemason/pagemason/core/Spares" "count" "I" (.int c1) ∧ own_Ao Z h ar "java/lang/Object" L2
set_option maxRecDepth 65536 in
set_option maxHeartbeats 40000000 in
theorem own_tone (l : Launch) (Z : State) (a0 : Array Value) (hw : ∀ d ∈ tables_1, d.before a0 Z = true) (ws : List Jvm.Cond) (th : Addr) (ar xx : Addr) (cn c1 : Int32) (Lv L2 : List Value) (h0 : Heap) (n0 : Nat) (E0 : Exa Z h0 th "com/example/pagemason/pagemason/core/Spares") (F9000 : Fld Z h0 th "com/example/pagemason/pagemason/core/Spares" "kept" "[Ljava/lang/Object;" (.ref ar)) (F9001 : Fld Z h0 th "com/example/pagemason/pagemason/core/Spares" "count" "I" (.int cn)) (V0 : own_Ao Z h0 ar "java/lang/Object" Lv) (Z0 : n0 ≤ h0.size) (g0 : n0 ≤ th) (g1 : n0 ≤ ar) (nz : ar ≠ th) (q1 : ¬ cn = 0) (hc1 : cn - (1 : Int32) = c1) (q2 : ¬ c1 < 0) (hv : Lv[c1.toNatClampNeg]? = some (.ref xx)) (hL : Lv.set c1.toNatClampNeg .null = L2) :
    MetFree l own_y7 (head1 (Jvm.Cond.code own_y7 prog_71_method_3_code 2 (some (.object "java/lang/Object")) :: ws) ({ frames := 0, cells := 0, slots := 0, locals := 0 } : Room)) (fun a U => a = #[(.ref th)] ∧ Z.Warmed39 U.vm ∧ U.heap = h0) (fun _ _ _ _ _ => True) (fun _ U o U' => ∃ v L, o = .returned v ∧ (own_tone_Q Z th ar xx cn c1 Lv L2 h0 n0) v U'.heap L ∧ FrameEnd U o U' L ({ frames := 0, cells := 0, slots := 0, locals := 0 } : Room).cells ({ frames := 0, cells := 0, slots := 0, locals := 0 } : Room).slots) := by
  refine MetFree.of_bodySF (plainFor_of_name own_tone_pn) hisR ?_
  intro p e s m args below meth c s₁ Bd hml0 hP hK
  obtain ⟨rfl, hZ, hh⟩ := hP
  have hx := Bd.exec
  have hby := Bd.bytes
  have hml : c.maxLocals = 2 := hml0
  have hown : s.vm.findClass "com/example/pagemason/pagemason/core/Spares" = some m.cls := findClass_of_methodNamed Bd.named
  have hnm := (name_of_methodNamed Bd.named Bd.method).1
  have hlk : meth.locks = false := Bd.notSynchronized
  have X0 : Stand p l e ({ frames := 0, cells := 0, slots := 0, locals := 0 } : Room) s m #[(.ref th)] below meth c s₁ [] 0 0 := Stand.of_body Bd
  have e0 : s₁.heap = h0 := by rw [← hh, Bd.state]; rfl
  have N0 := Fr.nil n0
  have w_8 := hw _ (List.mem_of_getElem? (l := tables_1) (i := 8) rfl)
  have w_18 := hw _ (List.mem_of_getElem? (l := tables_1) (i := 18) rfl)
  have w_19 := hw _ (List.mem_of_getElem? (l := tables_1) (i := 19) rfl)
  have w_25 := hw _ (List.mem_of_getElem? (l := tables_1) (i := 25) rfl)
  have w_26 := hw _ (List.mem_of_getElem? (l := tables_1) (i := 26) rfl)
  show own_G p.tables e below (fun o U' => ∃ v L, o = .returned v ∧ (own_tone_Q Z th ar xx cn c1 Lv L2 h0 n0) v U'.heap L ∧ FrameEnd s o U' L ({ frames := 0, cells := 0, slots := 0, locals := 0 } : Room).cells ({ frames := 0, cells := 0, slots := 0, locals := 0 } : Room).slots) (s₁.setTop (entryFrame m #[(.ref th)] 2))
  refine own_go (B := s₁.setTop (mkF m 0 #[rv th, .unset] [])) (fun t k => castTop (own_tone_ef m th) k) ?_
  have K0 := Keep.refl h0 [th, ar]
  refine own_go (B := (s₁.setTop (mkF m 1 #[rv th, .unset] [(.ref th)]))) (fun t k => XS.aloadN X0.here hx rfl (hb hby own_tone_d0) rfl rfl k) ?_
  obtain ⟨T1, X1, e1, st1⟩ := getF X0 hx hZ hown (host := "") (Or.inl w_25) Via.refl e0 F9001 (g := (mkF m 1 #[rv th, .unset] [(.ref th)])) rfl rfl (hb hby own_tone_d1)
  refine own_go (B := (T1.setTop (mkF m 4 #[rv th, .unset] [(.int cn)]))) st1 ?_
  have hc4 : ¬ cn = (0 : Int32) := q1
  refine own_ifY X1 hx (hb hby own_tone_d4) (pc' := 9) (by decide) (by decide) hc4 ?_
  refine own_go (B := (T1.setTop (mkF m 10 #[rv th, .unset] [(.ref th)]))) (fun t k => XS.aloadN X1.here hx rfl (hb hby own_tone_d9) rfl rfl k) ?_
  obtain ⟨T2, X2, e2, st2⟩ := getF X1 hx hZ hown (host := "") (Or.inl w_18) Via.refl e1 F9000 (g := (mkF m 10 #[rv th, .unset] [(.ref th)])) rfl rfl (hb hby own_tone_d10)
  refine own_go (B := (T2.setTop (mkF m 13 #[rv th, .unset] [(.ref ar)]))) st2 ?_
  refine own_go (B := (T2.setTop (mkF m 14 #[rv th, .unset] [(.ref th), (.ref ar)]))) (fun t k => XS.aloadN X2.here hx rfl (hb hby own_tone_d13) rfl rfl k) ?_
  refine own_go (B := (T2.setTop (mkF m 15 #[rv th, .unset] [(.ref th), (.ref th), (.ref ar)]))) (fun t k => XS.dup X2.here hx rfl (hb hby own_tone_d14) rfl rfl k) ?_
  obtain ⟨T3, X3, e3, st3⟩ := getF X2 hx hZ hown (host := "") (Or.inl w_25) Via.refl e2 F9001 (g := (mkF m 15 #[rv th, .unset] [(.ref th), (.ref th), (.ref ar)])) rfl rfl (hb hby own_tone_d15)
  refine own_go (B := (T3.setTop (mkF m 18 #[rv th, .unset] [(.int cn), (.ref th), (.ref ar)]))) st3 ?_
  refine own_go (B := (T3.setTop (mkF m 19 #[rv th, .unset] [(.int (1 : Int32)), (.int cn), (.ref th), (.ref ar)]))) (fun t k => own_iconst (v := (1 : Int32)) X3.here hx rfl (hb hby own_tone_d18) (by decide) k) ?_
  refine own_go (B := (T3.setTop (mkF m 20 #[rv th, .unset] [(.int (cn - (1 : Int32))), (.ref th), (.ref ar)]))) (fun t k => XS.isub (x := cn) (y := (1 : Int32)) X3.here hx rfl (hb hby own_tone_d19) rfl k) ?_
  rw [hc1]
  refine own_go (B := (T3.setTop (mkF m 21 #[rv th, .unset] [(.int c1), (.ref th), (.int c1), (.ref ar)]))) (fun t k => XS.dupX1 X3.here hx rfl (hb hby own_tone_d20) rfl rfl rfl k) ?_
  obtain ⟨T4, h4, X4, e4, W4, st4⟩ := putF X3 hx hZ hown (host := "") (Or.inl w_25) Via.refl e3 F9001 E0 (Or.inl w_26) w_8 (ty := .int) (by decide) rfl rfl (g := (mkF m 21 #[rv th, .unset] [(.int c1), (.ref th), (.int c1), (.ref ar)])) rfl rfl (hb hby own_tone_d21)
  refine own_go (B := (T4.setTop (mkF m 24 #[rv th, .unset] [(.int c1), (.ref ar)]))) st4 ?_
  obtain ⟨L4, X4, N4⟩ := own_abs X4 (Fr.snoc X4 N0 g0)
  have F5 := Exa.wr W4 E0
  have F6 := Fld.other W4 F9000 (Or.inr (slot_ne (t := (.array (.object "java/lang/Object"))) (t' := .int) (Or.inr w_19) (Or.inl w_26) (by decide) (by decide) (by decide)))
  have F7 := Fld.same W4 F9001
  have F8 := own_Ao_other V0 W4 nz
  have F9 : n0 ≤ h4.size := by rw [W4.size]; exact Z0
  have F10 := Keep.wr K0 W4 (Or.inl (List.mem_of_getElem? (i := 0) rfl))
  refine own_go (B := (T4.setTop (mkF m 25 #[rv th, .unset] [(.ref xx)]))) (own_ldR X4 hx hZ e4 (own_Ao_ar F8) rfl (v := (.ref xx)) q2 hv (g := (mkF m 24 #[rv th, .unset] [(.int c1), (.ref ar)])) rfl rfl (hb hby own_tone_d24)) ?_
  refine own_go (B := (T4.setTop (mkF m 26 #[rv th, rv xx] []))) (fun t k => XS.astoreN X4.here hx rfl (hb hby own_tone_d25) rfl rfl (l' := #[rv th, rv xx]) rfl k) ?_
  refine own_go (B := (T4.setTop (mkF m 27 #[rv th, rv xx] [(.ref th)]))) (fun t k => XS.aloadN X4.here hx rfl (hb hby own_tone_d26) rfl rfl k) ?_
  obtain ⟨T11, X11, e11, st11⟩ := getF X4 hx hZ hown (host := "") (Or.inl w_18) Via.refl e4 F6 (g := (mkF m 27 #[rv th, rv xx] [(.ref th)])) rfl rfl (hb hby own_tone_d27)
  refine own_go (B := (T11.setTop (mkF m 30 #[rv th, rv xx] [(.ref ar)]))) st11 ?_
  refine own_go (B := (T11.setTop (mkF m 31 #[rv th, rv xx] [(.ref th), (.ref ar)]))) (fun t k => XS.aloadN X11.here hx rfl (hb hby own_tone_d30) rfl rfl k) ?_
  obtain ⟨T12, X12, e12, st12⟩ := getF X11 hx hZ hown (host := "") (Or.inl w_25) Via.refl e11 F7 (g := (mkF m 31 #[rv th, rv xx] [(.ref th), (.ref ar)])) rfl rfl (hb hby own_tone_d31)
  refine own_go (B := (T12.setTop (mkF m 34 #[rv th, rv xx] [(.int c1), (.ref ar)]))) st12 ?_
  refine own_go (B := (T12.setTop (mkF m 35 #[rv th, rv xx] [.null, (.int c1), (.ref ar)]))) (fun t k => XS.aconstNull X12.here hx rfl (hb hby own_tone_d34) k) ?_
  obtain ⟨T13, h13, X13, e13, W13, V13, st13⟩ := own_stR X12 hx hZ e12 F8 (Or.inl rfl) q2 (own_lt_of hv) (g := (mkF m 35 #[rv th, rv xx] [.null, (.int c1), (.ref ar)])) rfl rfl (hb hby own_tone_d35)
  refine own_go (B := (T13.setTop (mkF m 36 #[rv th, rv xx] []))) st13 ?_
  obtain ⟨L13, X13, N13⟩ := own_abs X13 (Fr.snoc X13 N4 g1)
  have F14 := Exa.wr W13 F5
  have F15 := Fld.other W13 F6 (Or.inl (Ne.symm nz))
  have F16 := Fld.other W13 F7 (Or.inl (Ne.symm nz))
  have F18 : n0 ≤ h13.size := by rw [W13.size]; exact F9
  have F19 := Keep.wr F10 W13 (Or.inl (List.mem_of_getElem? (i := 1) rfl))
  refine own_go (B := (T13.setTop (mkF m 37 #[rv th, rv xx] [(.ref xx)]))) (fun t k => XS.aloadN X13.here hx rfl (hb hby own_tone_d36) rfl rfl k) ?_
  exact own_retA X13 hx hlk Bd.returns rfl rfl (hb hby own_tone_d37) (own_b rfl) (own_b rfl) (Q := (own_tone_Q Z th ar xx cn c1 Lv L2 h0 n0)) (by rw [e13]; exact ⟨rfl, N13, F19, F14, F15, F16, hL ▸ V13⟩)

theorem own_mmin_d0 : decode jdk_29_method_69_code 0 = .ok (.iload_n 0, 1) := by decide +kernel
theorem own_mmin_d1 : decode jdk_29_method_69_code 1 = .ok (.iload_n 1, 1) := by decide +kernel
theorem own_mmin_d2 : decode jdk_29_method_69_code 2 = .ok (.if_icmp .gt 7, 3) := by decide +kernel
theorem own_mmin_d5 : decode jdk_29_method_69_code 5 = .ok (.iload_n 0, 1) := by decide +kernel
theorem own_mmin_d6 : decode jdk_29_method_69_code 6 = .ok (.goto 4, 3) := by decide +kernel
theorem own_mmin_d9 : decode jdk_29_method_69_code 9 = .ok (.iload_n 1, 1) := by decide +kernel
theorem own_mmin_d10 : decode jdk_29_method_69_code 10 = .ok (.ireturn, 1) := by decide +kernel
theorem own_mmin_ef (m : MethodId) (pa : Int32) (pb : Int32) : entryFrame m #[(.int pa), (.int pb)] 2 = mkF m 0 #[iv pa, iv pb] [] := by first | (simp [entryFrame, mkF, argsToLocals, Value.category]; done) | rfl
def own_mmin_Q (Z : State) (pa : Int32) (pb : Int32) (h0 : Heap) (n0 : Nat) (v : Option Value) (h : Heap) (L : List Loc) : Prop := v = some (.int (own_min pa pb)) ∧ Fr n0 L ∧ h = h0
set_option maxRecDepth 65536 in
set_option maxHeartbeats 40000000 in
theorem own_mmin (l : Launch) (Z : State) (a0 : Array Value) (hw : ∀ d ∈ tables_1, d.before a0 Z = true) (ws : List Jvm.Cond) (pa : Int32) (pb : Int32) (h0 : Heap) (n0 : Nat) :
    MetFree l own_y6 (head1 (Jvm.Cond.code own_y6 jdk_29_method_69_code 2 (some .int) :: ws) ({ frames := 0, cells := 0, slots := 0, locals := 0 } : Room)) (fun a U => a = #[(.int pa), (.int pb)] ∧ Z.Warmed39 U.vm ∧ U.heap = h0) (fun _ _ _ _ _ => True) (fun _ U o U' => ∃ v L, o = .returned v ∧ (own_mmin_Q Z pa pb h0 n0) v U'.heap L ∧ FrameEnd U o U' L ({ frames := 0, cells := 0, slots := 0, locals := 0 } : Room).cells ({ frames := 0, cells := 0, slots := 0, locals := 0 } : Room).slots) := by
  refine MetFree.of_bodySF (Jvm.Free.JP.mathPlain rfl (by decide +kernel)) hisR ?_
  intro p e s m args below meth c s₁ Bd hml0 hP hK
  obtain ⟨rfl, hZ, hh⟩ := hP
  have hx := Bd.exec
  have hby := Bd.bytes
  have hml : c.maxLocals = 2 := hml0
  have hown : s.vm.findClass "java/lang/Math" = some m.cls := findClass_of_methodNamed Bd.named
  have hnm := (name_of_methodNamed Bd.named Bd.method).1
  have hlk : meth.locks = false := Bd.notSynchronized
  have X0 : Stand p l e ({ frames := 0, cells := 0, slots := 0, locals := 0 } : Room) s m #[(.int pa), (.int pb)] below meth c s₁ [] 0 0 := Stand.of_body Bd
  have e0 : s₁.heap = h0 := by rw [← hh, Bd.state]; rfl
  have N0 := Fr.nil n0
  show own_G p.tables e below (fun o U' => ∃ v L, o = .returned v ∧ (own_mmin_Q Z pa pb h0 n0) v U'.heap L ∧ FrameEnd s o U' L ({ frames := 0, cells := 0, slots := 0, locals := 0 } : Room).cells ({ frames := 0, cells := 0, slots := 0, locals := 0 } : Room).slots) (s₁.setTop (entryFrame m #[(.int pa), (.int pb)] 2))
  refine own_go (B := s₁.setTop (mkF m 0 #[iv pa, iv pb] [])) (fun t k => castTop (own_mmin_ef m pa pb) k) ?_
  refine own_go (B := (s₁.setTop (mkF m 1 #[iv pa, iv pb] [(.int pa)]))) (fun t k => XS.iloadN X0.here hx rfl (hb hby own_mmin_d0) rfl k) ?_
  refine own_go (B := (s₁.setTop (mkF m 2 #[iv pa, iv pb] [(.int pb), (.int pa)]))) (fun t k => XS.iloadN X0.here hx rfl (hb hby own_mmin_d1) rfl k) ?_
  refine own_icmp X0 hx (hb hby own_mmin_d2) (pc' := 9) (pn := 5) (by decide) (by decide) rfl (fun (hc2 : pb < pa) => ?_) (fun (hc2 : ¬ pb < pa) => ?_)
  · refine own_go (B := (s₁.setTop (mkF m 10 #[iv pa, iv pb] [(.int pb)]))) (fun t k => XS.iloadN X0.here hx rfl (hb hby own_mmin_d9) rfl k) ?_
    exact own_retI X0 hx hlk Bd.returns (hb hby own_mmin_d10) (own_b rfl) (own_b rfl) (Q := (own_mmin_Q Z pa pb h0 n0)) ⟨by rw [own_min, if_pos hc2], N0, e0⟩
  · refine own_go (B := (s₁.setTop (mkF m 6 #[iv pa, iv pb] [(.int pa)]))) (fun t k => XS.iloadN X0.here hx rfl (hb hby own_mmin_d5) rfl k) ?_
    refine own_go (B := (s₁.setTop (mkF m 10 #[iv pa, iv pb] [(.int pa)]))) (fun t k => XS.goto X0.here hx rfl (pc0 := 6) (pc' := 10) rfl (hb hby own_mmin_d6) (by decide) (by decide) k) ?_
    exact own_retI X0 hx hlk Bd.returns (hb hby own_mmin_d10) (own_b rfl) (own_b rfl) (Q := (own_mmin_Q Z pa pb h0 n0)) ⟨by rw [own_min, if_neg hc2], N0, e0⟩

theorem own_iv_d0 : decode jdk_33_method_27_code 0 = .ok (.aload_n 0, 1) := by decide +kernel
theorem own_iv_d1 : decode jdk_33_method_27_code 1 = .ok (.getfield 205, 3) := by decide +kernel
theorem own_iv_d4 : decode jdk_33_method_27_code 4 = .ok (.ireturn, 1) := by decide +kernel
theorem own_iv_pn : plainName "java/lang/Integer" = true := by first | (simp [plainName, overriddenIn]; done) | decide +kernel
theorem own_iv_ef (m : MethodId) (th : Addr) : entryFrame m #[(.ref th)] 1 = mkF m 0 #[rv th] [] := by first | (simp [entryFrame, mkF, argsToLocals, Value.category]; done) | rfl
def own_iv_Q (Z : State) (th : Addr) (vv : Int32) (h0 : Heap) (n0 : Nat) (v : Option Value) (h : Heap) (L : List Loc) : Prop := v = some (.int vv) ∧ Fr n0 L ∧ h = h0
set_option maxRecDepth 65536 in
set_option maxHeartbeats 40000000 in
theorem own_iv (l : Launch) (Z : State) (a0 : Array Value) (hw : ∀ d ∈ tables_1, d.before a0 Z = true) (ws : List Jvm.Cond) (th : Addr) (vv : Int32) (h0 : Heap) (n0 : Nat) (F1 : Fld Z h0 th "java/lang/Integer" "value" "I" (.int vv)) :
    MetFree l own_y3 (head1 (Jvm.Cond.code own_y3 jdk_33_method_27_code 1 (some .int) :: ws) ({ frames := 0, cells := 0, slots := 0, locals := 0 } : Room)) (fun a U => a = #[(.ref th)] ∧ Z.Warmed39 U.vm ∧ U.heap = h0) (fun _ _ _ _ _ => True) (fun _ U o U' => ∃ v L, o = .returned v ∧ (own_iv_Q Z th vv h0 n0) v U'.heap L ∧ FrameEnd U o U' L ({ frames := 0, cells := 0, slots := 0, locals := 0 } : Room).cells ({ frames := 0, cells := 0, slots := 0, locals := 0 } : Room).slots) := by
  refine MetFree.of_bodySF (plainFor_of_name own_iv_pn) hisR ?_
  intro p e s m args below meth c s₁ Bd hml0 hP hK
  obtain ⟨rfl, hZ, hh⟩ := hP
  have hx := Bd.exec
  have hby := Bd.bytes
  have hml : c.maxLocals = 1 := hml0
  have hown : s.vm.findClass "java/lang/Integer" = some m.cls := findClass_of_methodNamed Bd.named
  have hnm := (name_of_methodNamed Bd.named Bd.method).1
  have hlk : meth.locks = false := Bd.notSynchronized
  have X0 : Stand p l e ({ frames := 0, cells := 0, slots := 0, locals := 0 } : Room) s m #[(.ref th)] below meth c s₁ [] 0 0 := Stand.of_body Bd
  have e0 : s₁.heap = h0 := by rw [← hh, Bd.state]; rfl
  have N0 := Fr.nil n0
  have w_48 := hw _ (List.mem_of_getElem? (l := tables_1) (i := 48) rfl)
  show own_G p.tables e below (fun o U' => ∃ v L, o = .returned v ∧ (own_iv_Q Z th vv h0 n0) v U'.heap L ∧ FrameEnd s o U' L ({ frames := 0, cells := 0, slots := 0, locals := 0 } : Room).cells ({ frames := 0, cells := 0, slots := 0, locals := 0 } : Room).slots) (s₁.setTop (entryFrame m #[(.ref th)] 1))
  refine own_go (B := s₁.setTop (mkF m 0 #[rv th] [])) (fun t k => castTop (own_iv_ef m th) k) ?_
  refine own_go (B := (s₁.setTop (mkF m 1 #[rv th] [(.ref th)]))) (fun t k => XS.aloadN X0.here hx rfl (hb hby own_iv_d0) rfl rfl k) ?_
  obtain ⟨T1, X1, e1, st1⟩ := getF X0 hx hZ hown (host := "") (Or.inl w_48) Via.refl e0 F1 (g := (mkF m 1 #[rv th] [(.ref th)])) rfl rfl (hb hby own_iv_d1)
  refine own_go (B := (T1.setTop (mkF m 4 #[rv th] [(.int vv)]))) st1 ?_
  exact own_retI X1 hx hlk Bd.returns (hb hby own_iv_d4) (own_b rfl) (own_b rfl) (Q := (own_iv_Q Z th vv h0 n0)) ⟨rfl, N0, e1⟩

theorem own_same0_d0 : decode method_3_code 0 = .ok (.iload_n 1, 1) := by decide +kernel
theorem own_same0_d1 : decode method_3_code 1 = .ok (.iconst 1, 1) := by decide +kernel
theorem own_same0_d2 : decode method_3_code 2 = .ok (.isub, 1) := by decide +kernel
theorem own_same0_d3 : decode method_3_code 3 = .ok (.iload_n 2, 1) := by decide +kernel
theorem own_same0_d4 : decode method_3_code 4 = .ok (.isub, 1) := by decide +kernel
theorem own_same0_d5 : decode method_3_code 5 = .ok (.istore 4, 2) := by decide +kernel
theorem own_same0_d7 : decode method_3_code 7 = .ok (.iload 4, 2) := by decide +kernel
theorem own_same0_d9 : decode method_3_code 9 = .ok (.ifCond .ge 13, 3) := by decide +kernel
theorem own_same0_d12 : decode method_3_code 12 = .ok (.aload_n 0, 1) := by decide +kernel
theorem own_same0_d13 : decode method_3_code 13 = .ok (.ifnonnull 7, 3) := by decide +kernel
theorem own_same0_d16 : decode method_3_code 16 = .ok (.iconst 1, 1) := by decide +kernel
theorem own_same0_d17 : decode method_3_code 17 = .ok (.goto 4, 3) := by decide +kernel
theorem own_same0_d21 : decode method_3_code 21 = .ok (.ireturn, 1) := by decide +kernel
theorem own_same0_pn : plainName "com/example/pagemason/pagemason/core/SparesKeepPinLaw" = true := by first | (simp [plainName, overriddenIn]; done) | decide +kernel
theorem own_same0_ef (m : MethodId) (pm : Int32) (pj : Int32) (pv : Int32) : entryFrame m #[.null, (.int pm), (.int pj), (.int pv)] 5 = mkF m 0 #[.val .null, iv pm, iv pj, iv pv, .unset] [] := by first | (simp [entryFrame, mkF, argsToLocals, Value.category]; done) | rfl
def own_same0_Q (Z : State) (pm : Int32) (pj : Int32) (pv : Int32) (h0 : Heap) (n0 : Nat) (v : Option Value) (h : Heap) (L : List Loc) : Prop := v = some (.int 1) ∧ Fr n0 L ∧ h = h0
set_option maxRecDepth 65536 in
set_option maxHeartbeats 40000000 in
theorem own_same0 (l : Launch) (Z : State) (a0 : Array Value) (hw : ∀ d ∈ tables_1, d.before a0 Z = true) (ws : List Jvm.Cond) (pm : Int32) (pj : Int32) (pv : Int32) (h0 : Heap) (n0 : Nat) (q1 : ((pm - (1 : Int32)) - pj) < 0) :
    MetFree l own_y8 (head1 (Jvm.Cond.code own_y8 method_3_code 5 (some .boolean) :: ws) ({ frames := 0, cells := 0, slots := 0, locals := 0 } : Room)) (fun a U => a = #[.null, (.int pm), (.int pj), (.int pv)] ∧ Z.Warmed39 U.vm ∧ U.heap = h0) (fun _ _ _ _ _ => True) (fun _ U o U' => ∃ v L, o = .returned v ∧ (own_same0_Q Z pm pj pv h0 n0) v U'.heap L ∧ FrameEnd U o U' L ({ frames := 0, cells := 0, slots := 0, locals := 0 } : Room).cells ({ frames := 0, cells := 0, slots := 0, locals := 0 } : Room).slots) := by
  refine MetFree.of_bodySF (plainFor_of_name own_same0_pn) hisR ?_
  intro p e s m args below meth c s₁ Bd hml0 hP hK
  obtain ⟨rfl, hZ, hh⟩ := hP
  have hx := Bd.exec
  have hby := Bd.bytes
  have hml : c.maxLocals = 5 := hml0
  have hown : s.vm.findClass "com/example/pagemason/pagemason/core/SparesKeepPinLaw" = some m.cls := findClass_of_methodNamed Bd.named
  have hnm := (name_of_methodNamed Bd.named Bd.method).1
  have hlk : meth.locks = false := Bd.notSynchronized
  have X0 : Stand p l e ({ frames := 0, cells := 0, slots := 0, locals := 0 } : Room) s m #[.null, (.int pm), (.int pj), (.int pv)] below meth c s₁ [] 0 0 := Stand.of_body Bd
  have e0 : s₁.heap = h0 := by rw [← hh, Bd.state]; rfl
  have N0 := Fr.nil n0
  show own_G p.tables e below (fun o U' => ∃ v L, o = .returned v ∧ (own_same0_Q Z pm pj pv h0 n0) v U'.heap L ∧ FrameEnd s o U' L ({ frames := 0, cells := 0, slots := 0, locals := 0 } : Room).cells ({ frames := 0, cells := 0, slots := 0, locals := 0 } : Room).slots) (s₁.setTop (entryFrame m #[.null, (.int pm), (.int pj), (.int pv)] 5))
  refine own_go (B := s₁.setTop (mkF m 0 #[.val .null, iv pm, iv pj, iv pv, .unset] [])) (fun t k => castTop (own_same0_ef m pm pj pv) k) ?_
  refine own_go (B := (s₁.setTop (mkF m 1 #[.val .null, iv pm, iv pj, iv pv, .unset] [(.int pm)]))) (fun t k => XS.iloadN X0.here hx rfl (hb hby own_same0_d0) rfl k) ?_
  refine own_go (B := (s₁.setTop (mkF m 2 #[.val .null, iv pm, iv pj, iv pv, .unset] [(.int (1 : Int32)), (.int pm)]))) (fun t k => own_iconst (v := (1 : Int32)) X0.here hx rfl (hb hby own_same0_d1) (by decide) k) ?_
  refine own_go (B := (s₁.setTop (mkF m 3 #[.val .null, iv pm, iv pj, iv pv, .unset] [(.int (pm - (1 : Int32)))]))) (fun t k => XS.isub (x := pm) (y := (1 : Int32)) X0.here hx rfl (hb hby own_same0_d2) rfl k) ?_
  refine own_go (B := (s₁.setTop (mkF m 4 #[.val .null, iv pm, iv pj, iv pv, .unset] [(.int pj), (.int (pm - (1 : Int32)))]))) (fun t k => XS.iloadN X0.here hx rfl (hb hby own_same0_d3) rfl k) ?_
  refine own_go (B := (s₁.setTop (mkF m 5 #[.val .null, iv pm, iv pj, iv pv, .unset] [(.int ((pm - (1 : Int32)) - pj))]))) (fun t k => XS.isub (x := (pm - (1 : Int32))) (y := pj) X0.here hx rfl (hb hby own_same0_d4) rfl k) ?_
  obtain ⟨z5, hz5⟩ : ∃ z : Int32, z = ((pm - (1 : Int32)) - pj) := ⟨_, rfl⟩
  rw [← hz5]
  refine own_go (B := (s₁.setTop (mkF m 7 #[.val .null, iv pm, iv pj, iv pv, iv z5] []))) (fun t k => XS.istore X0.here hx rfl (hb hby own_same0_d5) rfl (l' := #[.val .null, iv pm, iv pj, iv pv, iv z5]) rfl k) ?_
  refine own_go (B := (s₁.setTop (mkF m 9 #[.val .null, iv pm, iv pj, iv pv, iv z5] [(.int z5)]))) (fun t k => XS.iload X0.here hx rfl (hb hby own_same0_d7) rfl k) ?_
  have hc9 : z5 < (0 : Int32) := (by rw [hz5]; exact q1)
  refine own_ifN X0 hx (hb hby own_same0_d9) (pn := 12) rfl hc9 ?_
  refine own_go (B := (s₁.setTop (mkF m 13 #[.val .null, iv pm, iv pj, iv pv, iv z5] [.null]))) (fun t k => XS.aloadN X0.here hx rfl (hb hby own_same0_d12) rfl rfl k) ?_
  refine own_go (B := (s₁.setTop (mkF m 16 #[.val .null, iv pm, iv pj, iv pv, iv z5] []))) (fun t k => XS.ifnonnullNo X0.here hx rfl (hb hby own_same0_d13) rfl k) ?_
  refine own_go (B := (s₁.setTop (mkF m 17 #[.val .null, iv pm, iv pj, iv pv, iv z5] [(.int (1 : Int32))]))) (fun t k => own_iconst (v := (1 : Int32)) X0.here hx rfl (hb hby own_same0_d16) (by decide) k) ?_
  refine own_go (B := (s₁.setTop (mkF m 21 #[.val .null, iv pm, iv pj, iv pv, iv z5] [(.int (1 : Int32))]))) (fun t k => XS.goto X0.here hx rfl (pc0 := 17) (pc' := 21) rfl (hb hby own_same0_d17) (by decide) (by decide) k) ?_
  exact own_retZ X0 hx hlk Bd.returns (hb hby own_same0_d21) (by decide) (own_b rfl) (own_b rfl) (Q := (own_same0_Q Z pm pj pv h0 n0)) ⟨rfl, N0, e0⟩

theorem own_same1_d0 : decode method_3_code 0 = .ok (.iload_n 1, 1) := by decide +kernel
theorem own_same1_d1 : decode method_3_code 1 = .ok (.iconst 1, 1) := by decide +kernel
theorem own_same1_d2 : decode method_3_code 2 = .ok (.isub, 1) := by decide +kernel
theorem own_same1_d3 : decode method_3_code 3 = .ok (.iload_n 2, 1) := by decide +kernel
theorem own_same1_d4 : decode method_3_code 4 = .ok (.isub, 1) := by decide +kernel
theorem own_same1_d5 : decode method_3_code 5 = .ok (.istore 4, 2) := by decide +kernel
theorem own_same1_d7 : decode method_3_code 7 = .ok (.iload 4, 2) := by decide +kernel
theorem own_same1_d9 : decode method_3_code 9 = .ok (.ifCond .ge 13, 3) := by decide +kernel
theorem own_same1_d22 : decode method_3_code 22 = .ok (.aload_n 0, 1) := by decide +kernel
theorem own_same1_d23 : decode method_3_code 23 = .ok (.ifnull 18, 3) := by decide +kernel
theorem own_same1_d26 : decode method_3_code 26 = .ok (.aload_n 0, 1) := by decide +kernel
theorem own_same1_d27 : decode method_3_code 27 = .ok (.invokevirtual 38, 3) := by decide +kernel
theorem own_same1_d30 : decode method_3_code 30 = .ok (.iload_n 3, 1) := by decide +kernel
theorem own_same1_d31 : decode method_3_code 31 = .ok (.iload 4, 2) := by decide +kernel
theorem own_same1_d33 : decode method_3_code 33 = .ok (.iadd, 1) := by decide +kernel
theorem own_same1_d34 : decode method_3_code 34 = .ok (.if_icmp .ne 7, 3) := by decide +kernel
theorem own_same1_d37 : decode method_3_code 37 = .ok (.iconst 1, 1) := by decide +kernel
theorem own_same1_d38 : decode method_3_code 38 = .ok (.goto 4, 3) := by decide +kernel
theorem own_same1_d42 : decode method_3_code 42 = .ok (.ireturn, 1) := by decide +kernel
theorem own_same1_pn : plainName "com/example/pagemason/pagemason/core/SparesKeepPinLaw" = true := by first | (simp [plainName, overriddenIn]; done) | decide +kernel
theorem own_same1_ef (m : MethodId) (gt : Addr) (pm : Int32) (pj : Int32) (pv : Int32) : entryFrame m #[(.ref gt), (.int pm), (.int pj), (.int pv)] 5 = mkF m 0 #[rv gt, iv pm, iv pj, iv pv, .unset] [] := by first | (simp [entryFrame, mkF, argsToLocals, Value.category]; done) | rfl
def own_same1_Q (Z : State) (gt : Addr) (pm : Int32) (pj : Int32) (pv : Int32) (vv : Int32) (h0 : Heap) (n0 : Nat) (v : Option Value) (h : Heap) (L : List Loc) : Prop := v = some (.int 1) ∧ Fr n0 L ∧ h = h0
set_option maxRecDepth 65536 in
set_option maxHeartbeats 40000000 in
theorem own_same1 (l : Launch) (Z : State) (a0 : Array Value) (hw : ∀ d ∈ tables_1, d.before a0 Z = true) (ws : List Jvm.Cond) (gt : Addr) (pm : Int32) (pj : Int32) (pv : Int32) (vv : Int32) (h0 : Heap) (n0 : Nat) (E1 : Exa Z h0 gt "java/lang/Integer") (F1 : Fld Z h0 gt "java/lang/Integer" "value" "I" (.int vv)) (q1 : ¬ ((pm - (1 : Int32)) - pj) < 0) (q2 : vv = pv + ((pm - (1 : Int32)) - pj)) :
    MetFree l own_y8 (head1 (Jvm.Cond.code own_y8 method_3_code 5 (some .boolean) :: ws) ({ frames := 1, cells := 0, slots := 0, locals := 12 } : Room)) (fun a U => a = #[(.ref gt), (.int pm), (.int pj), (.int pv)] ∧ Z.Warmed39 U.vm ∧ U.heap = h0) (fun _ _ _ _ _ => True) (fun _ U o U' => ∃ v L, o = .returned v ∧ (own_same1_Q Z gt pm pj pv vv h0 n0) v U'.heap L ∧ FrameEnd U o U' L ({ frames := 1, cells := 0, slots := 0, locals := 12 } : Room).cells ({ frames := 1, cells := 0, slots := 0, locals := 12 } : Room).slots) := by
  refine MetFree.of_bodySF (plainFor_of_name own_same1_pn) hisR ?_
  intro p e s m args below meth c s₁ Bd hml0 hP hK
  obtain ⟨rfl, hZ, hh⟩ := hP
  have hx := Bd.exec
  have hby := Bd.bytes
  have hml : c.maxLocals = 5 := hml0
  have hown : s.vm.findClass "com/example/pagemason/pagemason/core/SparesKeepPinLaw" = some m.cls := findClass_of_methodNamed Bd.named
  have hnm := (name_of_methodNamed Bd.named Bd.method).1
  have hlk : meth.locks = false := Bd.notSynchronized
  have X0 : Stand p l e ({ frames := 1, cells := 0, slots := 0, locals := 12 } : Room) s m #[(.ref gt), (.int pm), (.int pj), (.int pv)] below meth c s₁ [] 0 0 := Stand.of_body Bd
  have e0 : s₁.heap = h0 := by rw [← hh, Bd.state]; rfl
  have N0 := Fr.nil n0
  have w_2 := hw _ (List.mem_of_getElem? (l := tables_1) (i := 2) rfl)
  have w_43 := hw _ (List.mem_of_getElem? (l := tables_1) (i := 43) rfl)
  have w_44 := hw _ (List.mem_of_getElem? (l := tables_1) (i := 44) rfl)
  have w_45 := hw _ (List.mem_of_getElem? (l := tables_1) (i := 45) rfl)
  have w_46 := hw _ (List.mem_of_getElem? (l := tables_1) (i := 46) rfl)
  have w_47 := hw _ (List.mem_of_getElem? (l := tables_1) (i := 47) rfl)
  show own_G p.tables e below (fun o U' => ∃ v L, o = .returned v ∧ (own_same1_Q Z gt pm pj pv vv h0 n0) v U'.heap L ∧ FrameEnd s o U' L ({ frames := 1, cells := 0, slots := 0, locals := 12 } : Room).cells ({ frames := 1, cells := 0, slots := 0, locals := 12 } : Room).slots) (s₁.setTop (entryFrame m #[(.ref gt), (.int pm), (.int pj), (.int pv)] 5))
  refine own_go (B := s₁.setTop (mkF m 0 #[rv gt, iv pm, iv pj, iv pv, .unset] [])) (fun t k => castTop (own_same1_ef m gt pm pj pv) k) ?_
  refine own_go (B := (s₁.setTop (mkF m 1 #[rv gt, iv pm, iv pj, iv pv, .unset] [(.int pm)]))) (fun t k => XS.iloadN X0.here hx rfl (hb hby own_same1_d0) rfl k) ?_
  refine own_go (B := (s₁.setTop (mkF m 2 #[rv gt, iv pm, iv pj, iv pv, .unset] [(.int (1 : Int32)), (.int pm)]))) (fun t k => own_iconst (v := (1 : Int32)) X0.here hx rfl (hb hby own_same1_d1) (by decide) k) ?_
  refine own_go (B := (s₁.setTop (mkF m 3 #[rv gt, iv pm, iv pj, iv pv, .unset] [(.int (pm - (1 : Int32)))]))) (fun t k => XS.isub (x := pm) (y := (1 : Int32)) X0.here hx rfl (hb hby own_same1_d2) rfl k) ?_
  refine own_go (B := (s₁.setTop (mkF m 4 #[rv gt, iv pm, iv pj, iv pv, .unset] [(.int pj), (.int (pm - (1 : Int32)))]))) (fun t k => XS.iloadN X0.here hx rfl (hb hby own_same1_d3) rfl k) ?_
  refine own_go (B := (s₁.setTop (mkF m 5 #[rv gt, iv pm, iv pj, iv pv, .unset] [(.int ((pm - (1 : Int32)) - pj))]))) (fun t k => XS.isub (x := (pm - (1 : Int32))) (y := pj) X0.here hx rfl (hb hby own_same1_d4) rfl k) ?_
  obtain ⟨z5, hz5⟩ : ∃ z : Int32, z = ((pm - (1 : Int32)) - pj) := ⟨_, rfl⟩
  rw [← hz5]
  refine own_go (B := (s₁.setTop (mkF m 7 #[rv gt, iv pm, iv pj, iv pv, iv z5] []))) (fun t k => XS.istore X0.here hx rfl (hb hby own_same1_d5) rfl (l' := #[rv gt, iv pm, iv pj, iv pv, iv z5]) rfl k) ?_
  refine own_go (B := (s₁.setTop (mkF m 9 #[rv gt, iv pm, iv pj, iv pv, iv z5] [(.int z5)]))) (fun t k => XS.iload X0.here hx rfl (hb hby own_same1_d7) rfl k) ?_
  have hc9 : ¬ z5 < (0 : Int32) := (by rw [hz5]; exact q1)
  refine own_ifY X0 hx (hb hby own_same1_d9) (pc' := 22) (by decide) (by decide) hc9 ?_
  refine own_go (B := (s₁.setTop (mkF m 23 #[rv gt, iv pm, iv pj, iv pv, iv z5] [(.ref gt)]))) (fun t k => XS.aloadN X0.here hx rfl (hb hby own_same1_d22) rfl rfl k) ?_
  refine own_go (B := (s₁.setTop (mkF m 26 #[rv gt, iv pm, iv pj, iv pv, iv z5] []))) (fun t k => XS.ifnullNo X0.here hx rfl (hb hby own_same1_d23) rfl k) ?_
  refine own_go (B := (s₁.setTop (mkF m 27 #[rv gt, iv pm, iv pj, iv pv, iv z5] [(.ref gt)]))) (fun t k => XS.aloadN X0.here hx rfl (hb hby own_same1_d26) rfl rfl k) ?_
  obtain ⟨cq1, kq1, qa1, qb1, qc1⟩ := isOf hZ e0 E1
  obtain ⟨_, _, ⟨T1, L1, k1, n1⟩, -, X1, ⟨Lc1, hQ1, l1, y1, z1⟩, st1⟩ := X0.virtualBack hx (y := own_y3) (z := own_y3) hown (mvT hZ w_43) (mvT hZ w_44) (notFace_of_selects (args := #[]) (mvT hZ w_46)) (mvT hZ w_46) (mvT hZ w_45) (by decide) (backOf (W := 0) (own_iv l Z a0 hw [] gt vv h0 n0 F1) hZ w_47 w_2 (by decide) (by decide)) qa1 qc1 (g := (mkF m 27 #[rv gt, iv pm, iv pj, iv pv, iv z5] [(.ref gt)])) rfl (by rw [hml]; rfl) (Steps.refl _) (argsL := []) (rest := []) (lenOf own_pd3 rfl) rfl (by show 2 * 0 + _ ≤ _; exact own_b rfl) (hb hby own_same1_d27) (fun _ _ => ⟨rfl, e0, (own_b rfl : 0 + 0 ≤ _), (own_b rfl : 0 + 0 ≤ _)⟩)
  dsimp only [Pt.U, Pt.locs, Pt.cells, Pt.slots] at X1 l1 y1 z1 st1 hQ1
  obtain ⟨rfl, Nq1, eq1⟩ := hQ1
  obtain ⟨L1, X1, N1⟩ := own_absC (K := 0) (K' := 0) X1 l1 y1 z1 N0 Nq1
  have e1 : T1.heap = h0 := eq1
  refine own_tr (B := (T1.setTop (mkF m 30 #[rv gt, iv pm, iv pj, iv pv, iv z5] [(.int vv)]))) st1 ?_
  refine own_go (B := (T1.setTop (mkF m 31 #[rv gt, iv pm, iv pj, iv pv, iv z5] [(.int pv), (.int vv)]))) (fun t k => XS.iloadN X1.here hx rfl (hb hby own_same1_d30) rfl k) ?_
  refine own_go (B := (T1.setTop (mkF m 33 #[rv gt, iv pm, iv pj, iv pv, iv z5] [(.int z5), (.int pv), (.int vv)]))) (fun t k => XS.iload X1.here hx rfl (hb hby own_same1_d31) rfl k) ?_
  refine own_go (B := (T1.setTop (mkF m 34 #[rv gt, iv pm, iv pj, iv pv, iv z5] [(.int (pv + z5)), (.int vv)]))) (fun t k => XS.iadd (x := pv) (y := z5) X1.here hx rfl (hb hby own_same1_d33) rfl k) ?_
  have hc34 : vv = (pv + z5) := (by rw [hz5]; exact q2)
  refine own_icmpN X1 hx (hb hby own_same1_d34) (pn := 37) rfl hc34 ?_
  refine own_go (B := (T1.setTop (mkF m 38 #[rv gt, iv pm, iv pj, iv pv, iv z5] [(.int (1 : Int32))]))) (fun t k => own_iconst (v := (1 : Int32)) X1.here hx rfl (hb hby own_same1_d37) (by decide) k) ?_
  refine own_go (B := (T1.setTop (mkF m 42 #[rv gt, iv pm, iv pj, iv pv, iv z5] [(.int (1 : Int32))]))) (fun t k => XS.goto X1.here hx rfl (pc0 := 38) (pc' := 42) rfl (hb hby own_same1_d38) (by decide) (by decide) k) ?_
  exact own_retZ X1 hx hlk Bd.returns (hb hby own_same1_d42) (by decide) (own_b rfl) (own_b rfl) (Q := (own_same1_Q Z gt pm pj pv vv h0 n0)) ⟨rfl, N1, e1⟩

theorem own_law_pn : plainName "com/example/pagemason/pagemason/core/SparesKeepPinLaw" = true := by first | (simp [plainName, overriddenIn]; done) | decide +kernel
theorem own_law_ef (m : MethodId) (p0 : Int32) (p1 : Int32) (p2 : Int32) : entryFrame m #[(.int p0), (.int p1), (.int p2)] maxLocals = mkF m 0 #[iv p0, iv p1, iv p2, .unset, .unset, .unset, .unset, .unset, .unset, .unset, .unset, .unset, .unset, .unset, .unset] [] := by first | (simp [entryFrame, mkF, argsToLocals, Value.category, maxLocals]; done) | rfl
def own_law_Q (Z : State) (p0 : Int32) (p1 : Int32) (p2 : Int32) (ca : Addr) (h0 : Heap) (n0 : Nat) (v : Option Value) (h : Heap) (L : List Loc) : Prop := v = some (.int 1) ∧ Fr n0 L
set_option maxRecDepth 65536 in
set_option maxHeartbeats 40000000 in
theorem own_law (l : Launch) (Z : State) (a0 : Array Value) (hw : ∀ d ∈ tables_1, d.before a0 Z = true) (ws : List Jvm.Cond) (p0 : Int32) (p1 : Int32) (p2 : Int32) (ca : Addr) (h0 : Heap) (n0 : Nat) (Z0 : n0 ≤ h0.size) (hS1 : Sta Z h0 "java/lang/Integer$IntegerCache" "high" "I" (.int (127 : Int32))) (hS2 : Sta Z h0 "java/lang/Integer$IntegerCache" "cache" "[Ljava/lang/Integer;" (.ref ca)) (hC : own_Cache Z h0 ca) :
    MetFree l x (head1 (Jvm.Cond.code x code maxLocals ret :: ws) room_1) (fun a U => a = #[(.int p0), (.int p1), (.int p2)] ∧ Z.Warmed39 U.vm ∧ U.heap = h0) (fun _ _ _ _ _ => True) (fun _ U o U' => ∃ v L, o = .returned v ∧ (own_law_Q Z p0 p1 p2 ca h0 n0) v U'.heap L ∧ FrameEnd U o U' L 24 128) := by
  refine MetFree.of_bodySF (plainFor_of_name own_law_pn) hisR ?_
  intro p e s m args below meth c s₁ Bd hml0 hP hK
  obtain ⟨rfl, hZ, hh⟩ := hP
  have hx := Bd.exec
  have hby := Bd.bytes
  have hml : c.maxLocals = 15 := hml0
  have hown : s.vm.findClass "com/example/pagemason/pagemason/core/SparesKeepPinLaw" = some m.cls := findClass_of_methodNamed Bd.named
  have hnm := (name_of_methodNamed Bd.named Bd.method).1
  have hlk : meth.locks = false := Bd.notSynchronized
  have X0 : Stand p l e room_1 s m #[(.int p0), (.int p1), (.int p2)] below meth c s₁ [] 0 0 := Stand.of_body Bd
  have e0 : s₁.heap = h0 := by rw [← hh, Bd.state]; rfl
  have N0 := Fr.nil n0
  have w_0 := hw _ (List.mem_of_getElem? (l := tables_1) (i := 0) rfl)
  have w_1 := hw _ (List.mem_of_getElem? (l := tables_1) (i := 1) rfl)
  have w_2 := hw _ (List.mem_of_getElem? (l := tables_1) (i := 2) rfl)
  have w_3 := hw _ (List.mem_of_getElem? (l := tables_1) (i := 3) rfl)
  have w_7 := hw _ (List.mem_of_getElem? (l := tables_1) (i := 7) rfl)
  have w_8 := hw _ (List.mem_of_getElem? (l := tables_1) (i := 8) rfl)
  have w_9 := hw _ (List.mem_of_getElem? (l := tables_1) (i := 9) rfl)
  have w_10 := hw _ (List.mem_of_getElem? (l := tables_1) (i := 10) rfl)
  have w_11 := hw _ (List.mem_of_getElem? (l := tables_1) (i := 11) rfl)
  have w_12 := hw _ (List.mem_of_getElem? (l := tables_1) (i := 12) rfl)
  have w_19 := hw _ (List.mem_of_getElem? (l := tables_1) (i := 19) rfl)
  have w_20 := hw _ (List.mem_of_getElem? (l := tables_1) (i := 20) rfl)
  have w_21 := hw _ (List.mem_of_getElem? (l := tables_1) (i := 21) rfl)
  have w_22 := hw _ (List.mem_of_getElem? (l := tables_1) (i := 22) rfl)
  have w_23 := hw _ (List.mem_of_getElem? (l := tables_1) (i := 23) rfl)
  have w_24 := hw _ (List.mem_of_getElem? (l := tables_1) (i := 24) rfl)
  have w_26 := hw _ (List.mem_of_getElem? (l := tables_1) (i := 26) rfl)
  have w_27 := hw _ (List.mem_of_getElem? (l := tables_1) (i := 27) rfl)
  have w_28 := hw _ (List.mem_of_getElem? (l := tables_1) (i := 28) rfl)
  have w_29 := hw _ (List.mem_of_getElem? (l := tables_1) (i := 29) rfl)
  have w_30 := hw _ (List.mem_of_getElem? (l := tables_1) (i := 30) rfl)
  have w_31 := hw _ (List.mem_of_getElem? (l := tables_1) (i := 31) rfl)
  have w_32 := hw _ (List.mem_of_getElem? (l := tables_1) (i := 32) rfl)
  have w_33 := hw _ (List.mem_of_getElem? (l := tables_1) (i := 33) rfl)
  have w_34 := hw _ (List.mem_of_getElem? (l := tables_1) (i := 34) rfl)
  have w_35 := hw _ (List.mem_of_getElem? (l := tables_1) (i := 35) rfl)
  have w_36 := hw _ (List.mem_of_getElem? (l := tables_1) (i := 36) rfl)
  have w_37 := hw _ (List.mem_of_getElem? (l := tables_1) (i := 37) rfl)
  have w_38 := hw _ (List.mem_of_getElem? (l := tables_1) (i := 38) rfl)
  have w_39 := hw _ (List.mem_of_getElem? (l := tables_1) (i := 39) rfl)
  have w_40 := hw _ (List.mem_of_getElem? (l := tables_1) (i := 40) rfl)
  have w_41 := hw _ (List.mem_of_getElem? (l := tables_1) (i := 41) rfl)
  have w_42 := hw _ (List.mem_of_getElem? (l := tables_1) (i := 42) rfl)
  show own_G p.tables e below (fun o U' => ∃ v L, o = .returned v ∧ (own_law_Q Z p0 p1 p2 ca h0 n0) v U'.heap L ∧ FrameEnd s o U' L 24 128) (s₁.setTop (entryFrame m #[(.int p0), (.int p1), (.int p2)] maxLocals))
  refine own_go (B := s₁.setTop (mkF m 0 #[iv p0, iv p1, iv p2, .unset, .unset, .unset, .unset, .unset, .unset, .unset, .unset, .unset, .unset, .unset, .unset] [])) (fun t k => castTop (own_law_ef m p0 p1 p2) k) ?_
  have K0 := Keep.refl h0 []
  refine own_go (B := (s₁.setTop (mkF m 1 #[iv p0, iv p1, iv p2, .unset, .unset, .unset, .unset, .unset, .unset, .unset, .unset, .unset, .unset, .unset, .unset] [(.int p0)]))) (fun t k => XS.iloadN X0.here hx rfl (hb hby at_0) rfl k) ?_
  refine own_go (B := (s₁.setTop (mkF m 2 #[iv p0, iv p1, iv p2, .unset, .unset, .unset, .unset, .unset, .unset, .unset, .unset, .unset, .unset, .unset, .unset] [(.int (3 : Int32)), (.int p0)]))) (fun t k => own_iconst (v := (3 : Int32)) X0.here hx rfl (hb hby at_1) (by decide) k) ?_
  refine own_go (B := (s₁.setTop (mkF m 3 #[iv p0, iv p1, iv p2, .unset, .unset, .unset, .unset, .unset, .unset, .unset, .unset, .unset, .unset, .unset, .unset] [(.int (p0 &&& (3 : Int32)))]))) (fun t k => XS.iand (x := p0) (y := (3 : Int32)) X0.here hx rfl (hb hby at_2) rfl k) ?_
  obtain ⟨z3, hz3⟩ : ∃ z : Int32, z = (p0 &&& (3 : Int32)) := ⟨_, rfl⟩
  rw [← hz3]
  refine own_go (B := (s₁.setTop (mkF m 4 #[iv p0, iv p1, iv p2, iv z3, .unset, .unset, .unset, .unset, .unset, .unset, .unset, .unset, .unset, .unset, .unset] []))) (fun t k => XS.istoreN X0.here hx rfl (hb hby at_3) rfl (l' := #[iv p0, iv p1, iv p2, iv z3, .unset, .unset, .unset, .unset, .unset, .unset, .unset, .unset, .unset, .unset, .unset]) rfl k) ?_
  refine own_go (B := (s₁.setTop (mkF m 5 #[iv p0, iv p1, iv p2, iv z3, .unset, .unset, .unset, .unset, .unset, .unset, .unset, .unset, .unset, .unset, .unset] [(.int p1)]))) (fun t k => XS.iloadN X0.here hx rfl (hb hby at_4) rfl k) ?_
  refine own_go (B := (s₁.setTop (mkF m 7 #[iv p0, iv p1, iv p2, iv z3, .unset, .unset, .unset, .unset, .unset, .unset, .unset, .unset, .unset, .unset, .unset] [(.int (7 : Int32)), (.int p1)]))) (fun t k => own_bipush (v := (7 : Int32)) X0.here hx rfl (hb hby at_5) (by decide) k) ?_
  refine own_go (B := (s₁.setTop (mkF m 8 #[iv p0, iv p1, iv p2, iv z3, .unset, .unset, .unset, .unset, .unset, .unset, .unset, .unset, .unset, .unset, .unset] [(.int (p1 &&& (7 : Int32)))]))) (fun t k => XS.iand (x := p1) (y := (7 : Int32)) X0.here hx rfl (hb hby at_7) rfl k) ?_
  refine own_go (B := (s₁.setTop (mkF m 9 #[iv p0, iv p1, iv p2, iv z3, .unset, .unset, .unset, .unset, .unset, .unset, .unset, .unset, .unset, .unset, .unset] [(.int (5 : Int32)), (.int (p1 &&& (7 : Int32)))]))) (fun t k => own_iconst (v := (5 : Int32)) X0.here hx rfl (hb hby at_8) (by decide) k) ?_
  refine own_go (B := (s₁.setTop (mkF m 10 #[iv p0, iv p1, iv p2, iv z3, .unset, .unset, .unset, .unset, .unset, .unset, .unset, .unset, .unset, .unset, .unset] [(.int ((p1 &&& (7 : Int32)) % (5 : Int32)))]))) (fun t k => iremM (x := (p1 &&& (7 : Int32))) (y := (5 : Int32)) X0 hx rfl (hb hby at_9) rfl (by decide) k) ?_
  obtain ⟨z10, hz10⟩ : ∃ z : Int32, z = ((p1 &&& (7 : Int32)) % (5 : Int32)) := ⟨_, rfl⟩
  rw [← hz10]
  refine own_go (B := (s₁.setTop (mkF m 12 #[iv p0, iv p1, iv p2, iv z3, iv z10, .unset, .unset, .unset, .unset, .unset, .unset, .unset, .unset, .unset, .unset] []))) (fun t k => XS.istore X0.here hx rfl (hb hby at_10) rfl (l' := #[iv p0, iv p1, iv p2, iv z3, iv z10, .unset, .unset, .unset, .unset, .unset, .unset, .unset, .unset, .unset, .unset]) rfl k) ?_
  refine own_go (B := (s₁.setTop (mkF m 13 #[iv p0, iv p1, iv p2, iv z3, iv z10, .unset, .unset, .unset, .unset, .unset, .unset, .unset, .unset, .unset, .unset] [(.int p2)]))) (fun t k => XS.iloadN X0.here hx rfl (hb hby at_12) rfl k) ?_
  obtain ⟨_, _, ⟨T1, L1, k1, n1⟩, -, X1, ⟨Lc1, hQ1, l1, y1, z1⟩, st1⟩ := Jvm.LawKit.callS X0 hx (y := own_y4) hown (mvT hZ w_0) (mvT hZ w_1) (mvT hZ w_2) (mvT hZ w_3) (by decide) (backOf (W := 0) (own_vo l Z a0 hw [] p2 ca h0 n0 Z0 (own_sta_keep hS1 K0 (fun _ q => nomatch q)) (own_sta_keep hS2 K0 (fun _ q => nomatch q)) (own_Cache_keep hC K0)) hZ w_3 w_2 (by decide) (by decide)) (g := (mkF m 13 #[iv p0, iv p1, iv p2, iv z3, iv z10, .unset, .unset, .unset, .unset, .unset, .unset, .unset, .unset, .unset, .unset] [(.int p2)])) rfl (by rw [hml]; rfl) (argsL := [(.int p2)]) (rest := []) (lenOf own_pd4 rfl) rfl (by show 2 * 0 + _ ≤ _; exact own_b rfl) (hb hby at_13) (fun _ _ => ⟨rfl, e0, (own_b rfl : 0 + 1 ≤ _), (own_b rfl : 0 + 1 ≤ _)⟩)
  dsimp only [Pt.U, Pt.locs, Pt.cells, Pt.slots] at X1 l1 y1 z1 st1 hQ1
  obtain ⟨a1, rfl, Nq1, K1, Ex1, gv1⟩ := hQ1
  obtain ⟨L1, X1, N1⟩ := own_absC (K := 1) (K' := 1) X1 l1 y1 z1 N0 Nq1
  have F2 : n0 ≤ T1.heap.size := Nat.le_trans Z0 K1.1
  have F3 := Keep.trans K0 K1 all0
  refine own_go (B := (T1.setTop (mkF m 16 #[iv p0, iv p1, iv p2, iv z3, iv z10, .unset, .unset, .unset, .unset, .unset, .unset, .unset, .unset, .unset, .unset] [(.ref a1)]))) st1 ?_
  refine own_go (B := (T1.setTop (mkF m 18 #[iv p0, iv p1, iv p2, iv z3, iv z10, rv a1, .unset, .unset, .unset, .unset, .unset, .unset, .unset, .unset, .unset] []))) (fun t k => XS.astore X1.here hx rfl (hb hby at_16) rfl rfl (l' := #[iv p0, iv p1, iv p2, iv z3, iv z10, rv a1, .unset, .unset, .unset, .unset, .unset, .unset, .unset, .unset, .unset]) rfl k) ?_
  refine own_go (B := (T1.setTop (mkF m 19 #[iv p0, iv p1, iv p2, iv z3, iv z10, rv a1, .unset, .unset, .unset, .unset, .unset, .unset, .unset, .unset, .unset] [(.int p2)]))) (fun t k => XS.iloadN X1.here hx rfl (hb hby at_18) rfl k) ?_
  refine own_go (B := (T1.setTop (mkF m 20 #[iv p0, iv p1, iv p2, iv z3, iv z10, rv a1, .unset, .unset, .unset, .unset, .unset, .unset, .unset, .unset, .unset] [(.int (1 : Int32)), (.int p2)]))) (fun t k => own_iconst (v := (1 : Int32)) X1.here hx rfl (hb hby at_19) (by decide) k) ?_
  refine own_go (B := (T1.setTop (mkF m 21 #[iv p0, iv p1, iv p2, iv z3, iv z10, rv a1, .unset, .unset, .unset, .unset, .unset, .unset, .unset, .unset, .unset] [(.int (p2 + (1 : Int32)))]))) (fun t k => XS.iadd (x := p2) (y := (1 : Int32)) X1.here hx rfl (hb hby at_20) rfl k) ?_
  obtain ⟨_, _, ⟨T4, L4, k4, n4⟩, -, X4, ⟨Lc4, hQ4, l4, y4, z4⟩, st4⟩ := Jvm.LawKit.callS X1 hx (y := own_y4) hown (mvT hZ w_0) (mvT hZ w_1) (mvT hZ w_2) (mvT hZ w_3) (by decide) (backOf (W := 0) (own_vo l Z a0 hw [] (p2 + (1 : Int32)) ca T1.heap n0 F2 (own_sta_keep hS1 F3 (fun _ q => nomatch q)) (own_sta_keep hS2 F3 (fun _ q => nomatch q)) (own_Cache_keep hC F3)) hZ w_3 w_2 (by decide) (by decide)) (g := (mkF m 21 #[iv p0, iv p1, iv p2, iv z3, iv z10, rv a1, .unset, .unset, .unset, .unset, .unset, .unset, .unset, .unset, .unset] [(.int (p2 + (1 : Int32)))])) rfl (by rw [hml]; rfl) (argsL := [(.int (p2 + (1 : Int32)))]) (rest := []) (lenOf own_pd4 rfl) rfl (by show 2 * 0 + _ ≤ _; exact own_b rfl) (hb hby at_21) (fun _ _ => ⟨rfl, rfl, (own_b rfl : 1 + 1 ≤ _), (own_b rfl : 1 + 1 ≤ _)⟩)
  dsimp only [Pt.U, Pt.locs, Pt.cells, Pt.slots] at X4 l4 y4 z4 st4 hQ4
  obtain ⟨a4, rfl, Nq4, K4, Ex4, gv4⟩ := hQ4
  obtain ⟨L4, X4, N4⟩ := own_absC (K := 2) (K' := 2) X4 l4 y4 z4 N1 Nq4
  have F5 : n0 ≤ T4.heap.size := Nat.le_trans F2 K4.1
  have F6 := Keep.trans F3 K4 all0
  have F7 := Exa.keep Ex1 K4
  have F8 := Fld.keep gv1 K4 nin0
  refine own_go (B := (T4.setTop (mkF m 24 #[iv p0, iv p1, iv p2, iv z3, iv z10, rv a1, .unset, .unset, .unset, .unset, .unset, .unset, .unset, .unset, .unset] [(.ref a4)]))) st4 ?_
  refine own_go (B := (T4.setTop (mkF m 26 #[iv p0, iv p1, iv p2, iv z3, iv z10, rv a1, rv a4, .unset, .unset, .unset, .unset, .unset, .unset, .unset, .unset] []))) (fun t k => XS.astore X4.here hx rfl (hb hby at_24) rfl rfl (l' := #[iv p0, iv p1, iv p2, iv z3, iv z10, rv a1, rv a4, .unset, .unset, .unset, .unset, .unset, .unset, .unset, .unset]) rfl k) ?_
  refine own_go (B := (T4.setTop (mkF m 27 #[iv p0, iv p1, iv p2, iv z3, iv z10, rv a1, rv a4, .unset, .unset, .unset, .unset, .unset, .unset, .unset, .unset] [(.int p2)]))) (fun t k => XS.iloadN X4.here hx rfl (hb hby at_26) rfl k) ?_
  refine own_go (B := (T4.setTop (mkF m 28 #[iv p0, iv p1, iv p2, iv z3, iv z10, rv a1, rv a4, .unset, .unset, .unset, .unset, .unset, .unset, .unset, .unset] [(.int (2 : Int32)), (.int p2)]))) (fun t k => own_iconst (v := (2 : Int32)) X4.here hx rfl (hb hby at_27) (by decide) k) ?_
  refine own_go (B := (T4.setTop (mkF m 29 #[iv p0, iv p1, iv p2, iv z3, iv z10, rv a1, rv a4, .unset, .unset, .unset, .unset, .unset, .unset, .unset, .unset] [(.int (p2 + (2 : Int32)))]))) (fun t k => XS.iadd (x := p2) (y := (2 : Int32)) X4.here hx rfl (hb hby at_28) rfl k) ?_
  obtain ⟨_, _, ⟨T9, L9, k9, n9⟩, -, X9, ⟨Lc9, hQ9, l9, y9, z9⟩, st9⟩ := Jvm.LawKit.callS X4 hx (y := own_y4) hown (mvT hZ w_0) (mvT hZ w_1) (mvT hZ w_2) (mvT hZ w_3) (by decide) (backOf (W := 0) (own_vo l Z a0 hw [] (p2 + (2 : Int32)) ca T4.heap n0 F5 (own_sta_keep hS1 F6 (fun _ q => nomatch q)) (own_sta_keep hS2 F6 (fun _ q => nomatch q)) (own_Cache_keep hC F6)) hZ w_3 w_2 (by decide) (by decide)) (g := (mkF m 29 #[iv p0, iv p1, iv p2, iv z3, iv z10, rv a1, rv a4, .unset, .unset, .unset, .unset, .unset, .unset, .unset, .unset] [(.int (p2 + (2 : Int32)))])) rfl (by rw [hml]; rfl) (argsL := [(.int (p2 + (2 : Int32)))]) (rest := []) (lenOf own_pd4 rfl) rfl (by show 2 * 0 + _ ≤ _; exact own_b rfl) (hb hby at_29) (fun _ _ => ⟨rfl, rfl, (own_b rfl : 2 + 1 ≤ _), (own_b rfl : 2 + 1 ≤ _)⟩)
  dsimp only [Pt.U, Pt.locs, Pt.cells, Pt.slots] at X9 l9 y9 z9 st9 hQ9
  obtain ⟨a9, rfl, Nq9, K9, Ex9, gv9⟩ := hQ9
  obtain ⟨L9, X9, N9⟩ := own_absC (K := 3) (K' := 3) X9 l9 y9 z9 N4 Nq9
  have F10 : n0 ≤ T9.heap.size := Nat.le_trans F5 K9.1
  have F11 := Keep.trans F6 K9 all0
  have F12 := Exa.keep F7 K9
  have F13 := Fld.keep F8 K9 nin0
  have F14 := Exa.keep Ex4 K9
  have F15 := Fld.keep gv4 K9 nin0
  refine own_go (B := (T9.setTop (mkF m 32 #[iv p0, iv p1, iv p2, iv z3, iv z10, rv a1, rv a4, .unset, .unset, .unset, .unset, .unset, .unset, .unset, .unset] [(.ref a9)]))) st9 ?_
  refine own_go (B := (T9.setTop (mkF m 34 #[iv p0, iv p1, iv p2, iv z3, iv z10, rv a1, rv a4, rv a9, .unset, .unset, .unset, .unset, .unset, .unset, .unset] []))) (fun t k => XS.astore X9.here hx rfl (hb hby at_32) rfl rfl (l' := #[iv p0, iv p1, iv p2, iv z3, iv z10, rv a1, rv a4, rv a9, .unset, .unset, .unset, .unset, .unset, .unset, .unset]) rfl k) ?_
  refine own_go (B := (T9.setTop (mkF m 35 #[iv p0, iv p1, iv p2, iv z3, iv z10, rv a1, rv a4, rv a9, .unset, .unset, .unset, .unset, .unset, .unset, .unset] [(.int p2)]))) (fun t k => XS.iloadN X9.here hx rfl (hb hby at_34) rfl k) ?_
  refine own_go (B := (T9.setTop (mkF m 36 #[iv p0, iv p1, iv p2, iv z3, iv z10, rv a1, rv a4, rv a9, .unset, .unset, .unset, .unset, .unset, .unset, .unset] [(.int (3 : Int32)), (.int p2)]))) (fun t k => own_iconst (v := (3 : Int32)) X9.here hx rfl (hb hby at_35) (by decide) k) ?_
  refine own_go (B := (T9.setTop (mkF m 37 #[iv p0, iv p1, iv p2, iv z3, iv z10, rv a1, rv a4, rv a9, .unset, .unset, .unset, .unset, .unset, .unset, .unset] [(.int (p2 + (3 : Int32)))]))) (fun t k => XS.iadd (x := p2) (y := (3 : Int32)) X9.here hx rfl (hb hby at_36) rfl k) ?_
  obtain ⟨_, _, ⟨T16, L16, k16, n16⟩, -, X16, ⟨Lc16, hQ16, l16, y16, z16⟩, st16⟩ := Jvm.LawKit.callS X9 hx (y := own_y4) hown (mvT hZ w_0) (mvT hZ w_1) (mvT hZ w_2) (mvT hZ w_3) (by decide) (backOf (W := 0) (own_vo l Z a0 hw [] (p2 + (3 : Int32)) ca T9.heap n0 F10 (own_sta_keep hS1 F11 (fun _ q => nomatch q)) (own_sta_keep hS2 F11 (fun _ q => nomatch q)) (own_Cache_keep hC F11)) hZ w_3 w_2 (by decide) (by decide)) (g := (mkF m 37 #[iv p0, iv p1, iv p2, iv z3, iv z10, rv a1, rv a4, rv a9, .unset, .unset, .unset, .unset, .unset, .unset, .unset] [(.int (p2 + (3 : Int32)))])) rfl (by rw [hml]; rfl) (argsL := [(.int (p2 + (3 : Int32)))]) (rest := []) (lenOf own_pd4 rfl) rfl (by show 2 * 0 + _ ≤ _; exact own_b rfl) (hb hby at_37) (fun _ _ => ⟨rfl, rfl, (own_b rfl : 3 + 1 ≤ _), (own_b rfl : 3 + 1 ≤ _)⟩)
  dsimp only [Pt.U, Pt.locs, Pt.cells, Pt.slots] at X16 l16 y16 z16 st16 hQ16
  obtain ⟨a16, rfl, Nq16, K16, Ex16, gv16⟩ := hQ16
  obtain ⟨L16, X16, N16⟩ := own_absC (K := 4) (K' := 4) X16 l16 y16 z16 N9 Nq16
  have F17 : n0 ≤ T16.heap.size := Nat.le_trans F10 K16.1
  have F18 := Keep.trans F11 K16 all0
  have F19 := Exa.keep F12 K16
  have F20 := Fld.keep F13 K16 nin0
  have F21 := Exa.keep F14 K16
  have F22 := Fld.keep F15 K16 nin0
  have F23 := Exa.keep Ex9 K16
  have F24 := Fld.keep gv9 K16 nin0
  refine own_go (B := (T16.setTop (mkF m 40 #[iv p0, iv p1, iv p2, iv z3, iv z10, rv a1, rv a4, rv a9, .unset, .unset, .unset, .unset, .unset, .unset, .unset] [(.ref a16)]))) st16 ?_
  refine own_go (B := (T16.setTop (mkF m 42 #[iv p0, iv p1, iv p2, iv z3, iv z10, rv a1, rv a4, rv a9, rv a16, .unset, .unset, .unset, .unset, .unset, .unset] []))) (fun t k => XS.astore X16.here hx rfl (hb hby at_40) rfl rfl (l' := #[iv p0, iv p1, iv p2, iv z3, iv z10, rv a1, rv a4, rv a9, rv a16, .unset, .unset, .unset, .unset, .unset, .unset]) rfl k) ?_
  obtain ⟨T25, h25, X25, e25, E25, A25, D25, U25, st25⟩ := newO X16 hx hZ hown w_7 w_8 w_9 rfl (g := (mkF m 42 #[iv p0, iv p1, iv p2, iv z3, iv z10, rv a1, rv a4, rv a9, rv a16, .unset, .unset, .unset, .unset, .unset, .unset] [])) rfl (hb hby at_42) (own_b rfl) (own_b rfl)
  obtain ⟨a25, ga25⟩ : ∃ z, z = T16.heap.size := ⟨_, rfl⟩
  rw [← ga25] at A25 D25 U25 st25
  refine own_go (B := (T25.setTop (mkF m 45 #[iv p0, iv p1, iv p2, iv z3, iv z10, rv a1, rv a4, rv a9, rv a16, .unset, .unset, .unset, .unset, .unset, .unset] [(.ref a25)]))) st25 ?_
  have Z26 : n0 ≤ h25.size := Nat.le_trans F17 E25.1
  have K27 := Keep.ext F18 E25
  have F28 := Exa.ext E25 F19
  have F29 := Fld.ext E25 F20
  have F30 := Exa.ext E25 F21
  have F31 := Fld.ext E25 F22
  have F32 := Exa.ext E25 F23
  have F33 := Fld.ext E25 F24
  have F34 := Exa.ext E25 Ex16
  have F35 := Fld.ext E25 gv16
  have gn25 : n0 ≤ a25 := Nat.le_trans F17 (Nat.le_of_eq ga25.symm)
  have ne25_a1 : a25 ≠ a1 := fun q => absurd (F19.lt) (by rw [← q, ga25]; exact Nat.lt_irrefl _)
  have ne25_a4 : a25 ≠ a4 := fun q => absurd (F21.lt) (by rw [← q, ga25]; exact Nat.lt_irrefl _)
  have ne25_a9 : a25 ≠ a9 := fun q => absurd (F23.lt) (by rw [← q, ga25]; exact Nat.lt_irrefl _)
  have ne25_a16 : a25 ≠ a16 := fun q => absurd (Ex16.lt) (by rw [← q, ga25]; exact Nat.lt_irrefl _)
  have F36 : Fld Z h25 a25 "com/example/pagemason/pagemason/core/Spares" "kept" "[Ljava/lang/Object;" .null := D25 (Or.inr w_19) (ty := (.array (.object "java/lang/Object"))) (by decide)
  have F37 : Fld Z h25 a25 "com/example/pagemason/pagemason/core/Spares" "count" "I" (.int (0 : Int32)) := D25 (Or.inl w_26) (ty := .int) (by decide)
  refine own_go (B := (T25.setTop (mkF m 46 #[iv p0, iv p1, iv p2, iv z3, iv z10, rv a1, rv a4, rv a9, rv a16, .unset, .unset, .unset, .unset, .unset, .unset] [(.ref a25), (.ref a25)]))) (fun t k => XS.dup X25.here hx rfl (hb hby at_45) rfl rfl k) ?_
  refine own_go (B := (T25.setTop (mkF m 47 #[iv p0, iv p1, iv p2, iv z3, iv z10, rv a1, rv a4, rv a9, rv a16, .unset, .unset, .unset, .unset, .unset, .unset] [(.int z3), (.ref a25), (.ref a25)]))) (fun t k => XS.iloadN X25.here hx rfl (hb hby at_46) rfl k) ?_
  obtain ⟨hb1, hb2⟩ := own_b3 hz3
  obtain ⟨_, _, ⟨T38, L38, k38, n38⟩, -, X38, ⟨Lc38, hQ38, l38, y38, z38⟩, st38⟩ := X25.specialBack hx (y := own_y5) rfl hown (mvT hZ w_10) (mvT hZ w_11) (mvT hZ w_12) (by decide) (backOf (W := 1) (own_sct l Z a0 hw [] a25 z3 h25 n0 Z26 A25 gn25 F36 F37 hb1 hb2) hZ w_12 w_9 (by decide) (by decide)) (g := (mkF m 47 #[iv p0, iv p1, iv p2, iv z3, iv z10, rv a1, rv a4, rv a9, rv a16, .unset, .unset, .unset, .unset, .unset, .unset] [(.int z3), (.ref a25), (.ref a25)])) rfl (by rw [hml]; rfl) (Steps.refl _) (a := a25) (argsL := [(.int z3)]) (rest := [(.ref a25)]) (lenOf own_pd2 rfl) rfl (by show 2 * 0 + _ ≤ _; exact own_b rfl) (hb hby at_47) (fun _ _ => ⟨rfl, e25, (own_b rfl : 5 + 1 ≤ _), (own_b rfl : 6 + 3 ≤ _)⟩)
  dsimp only [Pt.U, Pt.locs, Pt.cells, Pt.slots] at X38 l38 y38 z38 st38 hQ38
  obtain ⟨rfl, Nq38, K38, Ex38, ar38, gz38, gk38, gc38, gv38⟩ := hQ38
  obtain ⟨L38, X38, N38⟩ := own_absC (K := 6) (K' := 9) X38 l38 y38 z38 N16 Nq38
  have gn_ar38 : n0 ≤ ar38 := Nat.le_trans Z26 gz38
  have ne_ar38_a1 : ar38 ≠ a1 := fun q => absurd F28.lt (by rw [← q]; exact Nat.not_lt.mpr gz38)
  have ne_ar38_a4 : ar38 ≠ a4 := fun q => absurd F30.lt (by rw [← q]; exact Nat.not_lt.mpr gz38)
  have ne_ar38_a9 : ar38 ≠ a9 := fun q => absurd F32.lt (by rw [← q]; exact Nat.not_lt.mpr gz38)
  have ne_ar38_a16 : ar38 ≠ a16 := fun q => absurd F34.lt (by rw [← q]; exact Nat.not_lt.mpr gz38)
  have ne_ar38_a25 : ar38 ≠ a25 := fun q => absurd A25.lt (by rw [← q]; exact Nat.not_lt.mpr gz38)
  have F39 : n0 ≤ T38.heap.size := Nat.le_trans Z26 K38.1
  have F40 := Keep.trans K27 K38 (allS (Or.inr (Nat.le_trans F18.1 (Nat.le_of_eq ga25.symm))) all0)
  have F41 := Exa.keep F28 K38
  have F42 := Fld.keep F29 K38 (ninS (Ne.symm ne25_a1) nin0)
  have F43 := Exa.keep F30 K38
  have F44 := Fld.keep F31 K38 (ninS (Ne.symm ne25_a4) nin0)
  have F45 := Exa.keep F32 K38
  have F46 := Fld.keep F33 K38 (ninS (Ne.symm ne25_a9) nin0)
  have F47 := Exa.keep F34 K38
  have F48 := Fld.keep F35 K38 (ninS (Ne.symm ne25_a16) nin0)
  have F49 := Exa.keep A25 K38
  refine own_tr (B := (T38.setTop (mkF m 50 #[iv p0, iv p1, iv p2, iv z3, iv z10, rv a1, rv a4, rv a9, rv a16, .unset, .unset, .unset, .unset, .unset, .unset] [(.ref a25)]))) st38 ?_
  refine own_go (B := (T38.setTop (mkF m 52 #[iv p0, iv p1, iv p2, iv z3, iv z10, rv a1, rv a4, rv a9, rv a16, rv a25, .unset, .unset, .unset, .unset, .unset] []))) (fun t k => XS.astore X38.here hx rfl (hb hby at_50) rfl rfl (l' := #[iv p0, iv p1, iv p2, iv z3, iv z10, rv a1, rv a4, rv a9, rv a16, rv a25, .unset, .unset, .unset, .unset, .unset]) rfl k) ?_
  have BB : own_Bn Z T38.heap [(a1, p2), (a4, (p2 + (1 : Int32))), (a9, (p2 + (2 : Int32))), (a16, (p2 + (3 : Int32)))] := own_Bn_cons F41 F42 (own_Bn_cons F43 F44 (own_Bn_cons F45 F46 (own_Bn_cons F47 F48 (own_Bn_nil Z _))))
  have hbq : ∀ x ∈ ([(a1, p2), (a4, (p2 + (1 : Int32))), (a9, (p2 + (2 : Int32))), (a16, (p2 + (3 : Int32)))] : List (Addr × Int32)), x.1 ∉ [a25, ar38] := by
    intro x hx
    simp only [List.mem_cons, List.not_mem_nil, or_false] at hx
    rcases hx with rfl | rfl | rfl | rfl
    · exact ninS (Ne.symm ne25_a1) (ninS (Ne.symm ne_ar38_a1) nin0)
    · exact ninS (Ne.symm ne25_a4) (ninS (Ne.symm ne_ar38_a4) nin0)
    · exact ninS (Ne.symm ne25_a9) (ninS (Ne.symm ne_ar38_a9) nin0)
    · exact ninS (Ne.symm ne25_a16) (ninS (Ne.symm ne_ar38_a16) nin0)
  rcases own_c4 hz3 with rfl | rfl | rfl | rfl
  · have Vb : own_Ao Z T38.heap ar38 "java/lang/Object" [] := by have q := gv38; rw [show (0 : Int32).toNatClampNeg = 0 from by decide] at q; exact q
    rcases own_c5 hz10 with rfl | rfl | rfl | rfl | rfl
    · refine own_go (B := (T38.setTop (mkF m 54 #[iv p0, iv p1, iv p2, iv (0 : Int32), iv (0 : Int32), rv a1, rv a4, rv a9, rv a16, rv a25, .unset, .unset, .unset, .unset, .unset] [(.int (0 : Int32))]))) (fun t k => XS.iload X38.here hx rfl (hb hby at_52) rfl k) ?_
      have hc54 : ¬ (0 : Int32) < (0 : Int32) := (by decide)
      refine own_ifY X38 hx (hb hby at_54) (pc' := 64) (by decide) (by decide) hc54 ?_
      refine own_go (B := (T38.setTop (mkF m 66 #[iv p0, iv p1, iv p2, iv (0 : Int32), iv (0 : Int32), rv a1, rv a4, rv a9, rv a16, rv a25, .unset, .unset, .unset, .unset, .unset] [(.int (0 : Int32))]))) (fun t k => XS.iload X38.here hx rfl (hb hby at_64) rfl k) ?_
      refine own_go (B := (T38.setTop (mkF m 67 #[iv p0, iv p1, iv p2, iv (0 : Int32), iv (0 : Int32), rv a1, rv a4, rv a9, rv a16, rv a25, .unset, .unset, .unset, .unset, .unset] [(.int (1 : Int32)), (.int (0 : Int32))]))) (fun t k => own_iconst (v := (1 : Int32)) X38.here hx rfl (hb hby at_66) (by decide) k) ?_
      have hc67 : ¬ (1 : Int32) < (0 : Int32) := (by decide)
      refine own_icmpY X38 hx (hb hby at_67) (pc' := 77) (by decide) (by decide) hc67 ?_
      refine own_go (B := (T38.setTop (mkF m 79 #[iv p0, iv p1, iv p2, iv (0 : Int32), iv (0 : Int32), rv a1, rv a4, rv a9, rv a16, rv a25, .unset, .unset, .unset, .unset, .unset] [(.int (0 : Int32))]))) (fun t k => XS.iload X38.here hx rfl (hb hby at_77) rfl k) ?_
      refine own_go (B := (T38.setTop (mkF m 80 #[iv p0, iv p1, iv p2, iv (0 : Int32), iv (0 : Int32), rv a1, rv a4, rv a9, rv a16, rv a25, .unset, .unset, .unset, .unset, .unset] [(.int (2 : Int32)), (.int (0 : Int32))]))) (fun t k => own_iconst (v := (2 : Int32)) X38.here hx rfl (hb hby at_79) (by decide) k) ?_
      have hc80 : ¬ (2 : Int32) < (0 : Int32) := (by decide)
      refine own_icmpY X38 hx (hb hby at_80) (pc' := 90) (by decide) (by decide) hc80 ?_
      refine own_go (B := (T38.setTop (mkF m 92 #[iv p0, iv p1, iv p2, iv (0 : Int32), iv (0 : Int32), rv a1, rv a4, rv a9, rv a16, rv a25, .unset, .unset, .unset, .unset, .unset] [(.int (0 : Int32))]))) (fun t k => XS.iload X38.here hx rfl (hb hby at_90) rfl k) ?_
      refine own_go (B := (T38.setTop (mkF m 93 #[iv p0, iv p1, iv p2, iv (0 : Int32), iv (0 : Int32), rv a1, rv a4, rv a9, rv a16, rv a25, .unset, .unset, .unset, .unset, .unset] [(.int (3 : Int32)), (.int (0 : Int32))]))) (fun t k => own_iconst (v := (3 : Int32)) X38.here hx rfl (hb hby at_92) (by decide) k) ?_
      have hc93 : ¬ (3 : Int32) < (0 : Int32) := (by decide)
      refine own_icmpY X38 hx (hb hby at_93) (pc' := 103) (by decide) (by decide) hc93 ?_
      refine own_go (B := (T38.setTop (mkF m 105 #[iv p0, iv p1, iv p2, iv (0 : Int32), iv (0 : Int32), rv a1, rv a4, rv a9, rv a16, rv a25, .unset, .unset, .unset, .unset, .unset] [(.int (0 : Int32))]))) (fun t k => XS.iload X38.here hx rfl (hb hby at_103) rfl k) ?_
      refine own_go (B := (T38.setTop (mkF m 106 #[iv p0, iv p1, iv p2, iv (0 : Int32), iv (0 : Int32), rv a1, rv a4, rv a9, rv a16, rv a25, .unset, .unset, .unset, .unset, .unset] [(.int (0 : Int32)), (.int (0 : Int32))]))) (fun t k => XS.iloadN X38.here hx rfl (hb hby at_105) rfl k) ?_
      obtain ⟨_, _, ⟨T52, L52, k52, n52⟩, -, X52, ⟨Lc52, hQ52, l52, y52, z52⟩, st52⟩ := Jvm.LawKit.callS X38 hx (y := own_y6) hown (mvT hZ w_27) (mvT hZ w_28) (mvT hZ w_29) (mvT hZ w_30) (by decide) (backOf (W := 0) (own_mmin l Z a0 hw [] (0 : Int32) (0 : Int32) T38.heap n0) hZ w_30 w_29 (by decide) (by decide)) (g := (mkF m 106 #[iv p0, iv p1, iv p2, iv (0 : Int32), iv (0 : Int32), rv a1, rv a4, rv a9, rv a16, rv a25, .unset, .unset, .unset, .unset, .unset] [(.int (0 : Int32)), (.int (0 : Int32))])) rfl (by rw [hml]; rfl) (argsL := [(.int (0 : Int32)), (.int (0 : Int32))]) (rest := []) (lenOf own_pd5 rfl) rfl (by show 2 * 0 + _ ≤ _; exact own_b rfl) (hb hby at_106) (fun _ _ => ⟨rfl, rfl, (own_b rfl : 6 + 0 ≤ _), (own_b rfl : 9 + 0 ≤ _)⟩)
      dsimp only [Pt.U, Pt.locs, Pt.cells, Pt.slots] at X52 l52 y52 z52 st52 hQ52
      obtain ⟨rfl, Nq52, eq52⟩ := hQ52
      obtain ⟨L52, X52, N52⟩ := own_absC (K := 6) (K' := 9) X52 l52 y52 z52 N38 Nq52
      have e52 : T52.heap = T38.heap := eq52
      refine own_go (B := (T52.setTop (mkF m 109 #[iv p0, iv p1, iv p2, iv (0 : Int32), iv (0 : Int32), rv a1, rv a4, rv a9, rv a16, rv a25, .unset, .unset, .unset, .unset, .unset] [(.int (own_min (0 : Int32) (0 : Int32)))]))) st52 ?_
      rw [show own_min (0 : Int32) (0 : Int32) = (0 : Int32) from by decide]
      refine own_go (B := (T52.setTop (mkF m 111 #[iv p0, iv p1, iv p2, iv (0 : Int32), iv (0 : Int32), rv a1, rv a4, rv a9, rv a16, rv a25, iv (0 : Int32), .unset, .unset, .unset, .unset] []))) (fun t k => XS.istore X52.here hx rfl (hb hby at_109) rfl (l' := #[iv p0, iv p1, iv p2, iv (0 : Int32), iv (0 : Int32), rv a1, rv a4, rv a9, rv a16, rv a25, iv (0 : Int32), .unset, .unset, .unset, .unset]) rfl k) ?_
      refine own_go (B := (T52.setTop (mkF m 113 #[iv p0, iv p1, iv p2, iv (0 : Int32), iv (0 : Int32), rv a1, rv a4, rv a9, rv a16, rv a25, iv (0 : Int32), .unset, .unset, .unset, .unset] [(.ref a25)]))) (fun t k => XS.aload X52.here hx rfl (hb hby at_111) rfl rfl k) ?_
      obtain ⟨cq53, kq53, qa53, qb53, qc53⟩ := isOf hZ e52 Ex38
      obtain ⟨_, _, ⟨T53, L53, k53, n53⟩, -, X53, ⟨Lc53, hQ53, l53, y53, z53⟩, st53⟩ := X52.virtualBack hx (y := own_y7) (z := own_y7) hown (mvT hZ w_31) (mvT hZ w_32) (notFace_of_selects (args := #[]) (mvT hZ w_34)) (mvT hZ w_34) (mvT hZ w_33) (by decide) (backOf (W := 0) (own_tnone l Z a0 hw [] a25 T38.heap n0 gc38) hZ w_35 w_9 (by decide) (by decide)) qa53 qc53 (g := (mkF m 113 #[iv p0, iv p1, iv p2, iv (0 : Int32), iv (0 : Int32), rv a1, rv a4, rv a9, rv a16, rv a25, iv (0 : Int32), .unset, .unset, .unset, .unset] [(.ref a25)])) rfl (by rw [hml]; rfl) (Steps.refl _) (argsL := []) (rest := []) (lenOf own_pd6 rfl) rfl (by show 2 * 0 + _ ≤ _; exact own_b rfl) (hb hby at_113) (fun _ _ => ⟨rfl, e52, (own_b rfl : 6 + 0 ≤ _), (own_b rfl : 9 + 0 ≤ _)⟩)
      dsimp only [Pt.U, Pt.locs, Pt.cells, Pt.slots] at X53 l53 y53 z53 st53 hQ53
      obtain ⟨rfl, Nq53, eq53⟩ := hQ53
      obtain ⟨L53, X53, N53⟩ := own_absC (K := 6) (K' := 9) X53 l53 y53 z53 N52 Nq53
      have e53 : T53.heap = T38.heap := eq53
      refine own_tr (B := (T53.setTop (mkF m 116 #[iv p0, iv p1, iv p2, iv (0 : Int32), iv (0 : Int32), rv a1, rv a4, rv a9, rv a16, rv a25, iv (0 : Int32), .unset, .unset, .unset, .unset] [.null]))) st53 ?_
      refine own_go (B := (T53.setTop (mkF m 119 #[iv p0, iv p1, iv p2, iv (0 : Int32), iv (0 : Int32), rv a1, rv a4, rv a9, rv a16, rv a25, iv (0 : Int32), .unset, .unset, .unset, .unset] [.null]))) (X53.checkcastNull hx (g := (mkF m 116 #[iv p0, iv p1, iv p2, iv (0 : Int32), iv (0 : Int32), rv a1, rv a4, rv a9, rv a16, rv a25, iv (0 : Int32), .unset, .unset, .unset, .unset] [.null])) rfl rfl (hb hby at_116)) ?_
      refine own_go (B := (T53.setTop (mkF m 121 #[iv p0, iv p1, iv p2, iv (0 : Int32), iv (0 : Int32), rv a1, rv a4, rv a9, rv a16, rv a25, iv (0 : Int32), .val .null, .unset, .unset, .unset] []))) (fun t k => XS.astore X53.here hx rfl (hb hby at_119) rfl rfl (l' := #[iv p0, iv p1, iv p2, iv (0 : Int32), iv (0 : Int32), rv a1, rv a4, rv a9, rv a16, rv a25, iv (0 : Int32), .val .null, .unset, .unset, .unset]) rfl k) ?_
      refine own_go (B := (T53.setTop (mkF m 123 #[iv p0, iv p1, iv p2, iv (0 : Int32), iv (0 : Int32), rv a1, rv a4, rv a9, rv a16, rv a25, iv (0 : Int32), .val .null, .unset, .unset, .unset] [(.ref a25)]))) (fun t k => XS.aload X53.here hx rfl (hb hby at_121) rfl rfl k) ?_
      obtain ⟨cq55, kq55, qa55, qb55, qc55⟩ := isOf hZ e53 Ex38
      obtain ⟨_, _, ⟨T55, L55, k55, n55⟩, -, X55, ⟨Lc55, hQ55, l55, y55, z55⟩, st55⟩ := X53.virtualBack hx (y := own_y7) (z := own_y7) hown (mvT hZ w_31) (mvT hZ w_32) (notFace_of_selects (args := #[]) (mvT hZ w_34)) (mvT hZ w_34) (mvT hZ w_33) (by decide) (backOf (W := 0) (own_tnone l Z a0 hw [] a25 T38.heap n0 gc38) hZ w_35 w_9 (by decide) (by decide)) qa55 qc55 (g := (mkF m 123 #[iv p0, iv p1, iv p2, iv (0 : Int32), iv (0 : Int32), rv a1, rv a4, rv a9, rv a16, rv a25, iv (0 : Int32), .val .null, .unset, .unset, .unset] [(.ref a25)])) rfl (by rw [hml]; rfl) (Steps.refl _) (argsL := []) (rest := []) (lenOf own_pd6 rfl) rfl (by show 2 * 0 + _ ≤ _; exact own_b rfl) (hb hby at_123) (fun _ _ => ⟨rfl, e53, (own_b rfl : 6 + 0 ≤ _), (own_b rfl : 9 + 0 ≤ _)⟩)
      dsimp only [Pt.U, Pt.locs, Pt.cells, Pt.slots] at X55 l55 y55 z55 st55 hQ55
      obtain ⟨rfl, Nq55, eq55⟩ := hQ55
      obtain ⟨L55, X55, N55⟩ := own_absC (K := 6) (K' := 9) X55 l55 y55 z55 N53 Nq55
      have e55 : T55.heap = T38.heap := eq55
      refine own_tr (B := (T55.setTop (mkF m 126 #[iv p0, iv p1, iv p2, iv (0 : Int32), iv (0 : Int32), rv a1, rv a4, rv a9, rv a16, rv a25, iv (0 : Int32), .val .null, .unset, .unset, .unset] [.null]))) st55 ?_
      refine own_go (B := (T55.setTop (mkF m 129 #[iv p0, iv p1, iv p2, iv (0 : Int32), iv (0 : Int32), rv a1, rv a4, rv a9, rv a16, rv a25, iv (0 : Int32), .val .null, .unset, .unset, .unset] [.null]))) (X55.checkcastNull hx (g := (mkF m 126 #[iv p0, iv p1, iv p2, iv (0 : Int32), iv (0 : Int32), rv a1, rv a4, rv a9, rv a16, rv a25, iv (0 : Int32), .val .null, .unset, .unset, .unset] [.null])) rfl rfl (hb hby at_126)) ?_
      refine own_go (B := (T55.setTop (mkF m 131 #[iv p0, iv p1, iv p2, iv (0 : Int32), iv (0 : Int32), rv a1, rv a4, rv a9, rv a16, rv a25, iv (0 : Int32), .val .null, .val .null, .unset, .unset] []))) (fun t k => XS.astore X55.here hx rfl (hb hby at_129) rfl rfl (l' := #[iv p0, iv p1, iv p2, iv (0 : Int32), iv (0 : Int32), rv a1, rv a4, rv a9, rv a16, rv a25, iv (0 : Int32), .val .null, .val .null, .unset, .unset]) rfl k) ?_
      refine own_go (B := (T55.setTop (mkF m 133 #[iv p0, iv p1, iv p2, iv (0 : Int32), iv (0 : Int32), rv a1, rv a4, rv a9, rv a16, rv a25, iv (0 : Int32), .val .null, .val .null, .unset, .unset] [(.ref a25)]))) (fun t k => XS.aload X55.here hx rfl (hb hby at_131) rfl rfl k) ?_
      obtain ⟨cq57, kq57, qa57, qb57, qc57⟩ := isOf hZ e55 Ex38
      obtain ⟨_, _, ⟨T57, L57, k57, n57⟩, -, X57, ⟨Lc57, hQ57, l57, y57, z57⟩, st57⟩ := X55.virtualBack hx (y := own_y7) (z := own_y7) hown (mvT hZ w_31) (mvT hZ w_32) (notFace_of_selects (args := #[]) (mvT hZ w_34)) (mvT hZ w_34) (mvT hZ w_33) (by decide) (backOf (W := 0) (own_tnone l Z a0 hw [] a25 T38.heap n0 gc38) hZ w_35 w_9 (by decide) (by decide)) qa57 qc57 (g := (mkF m 133 #[iv p0, iv p1, iv p2, iv (0 : Int32), iv (0 : Int32), rv a1, rv a4, rv a9, rv a16, rv a25, iv (0 : Int32), .val .null, .val .null, .unset, .unset] [(.ref a25)])) rfl (by rw [hml]; rfl) (Steps.refl _) (argsL := []) (rest := []) (lenOf own_pd6 rfl) rfl (by show 2 * 0 + _ ≤ _; exact own_b rfl) (hb hby at_133) (fun _ _ => ⟨rfl, e55, (own_b rfl : 6 + 0 ≤ _), (own_b rfl : 9 + 0 ≤ _)⟩)
      dsimp only [Pt.U, Pt.locs, Pt.cells, Pt.slots] at X57 l57 y57 z57 st57 hQ57
      obtain ⟨rfl, Nq57, eq57⟩ := hQ57
      obtain ⟨L57, X57, N57⟩ := own_absC (K := 6) (K' := 9) X57 l57 y57 z57 N55 Nq57
      have e57 : T57.heap = T38.heap := eq57
      refine own_tr (B := (T57.setTop (mkF m 136 #[iv p0, iv p1, iv p2, iv (0 : Int32), iv (0 : Int32), rv a1, rv a4, rv a9, rv a16, rv a25, iv (0 : Int32), .val .null, .val .null, .unset, .unset] [.null]))) st57 ?_
      refine own_go (B := (T57.setTop (mkF m 139 #[iv p0, iv p1, iv p2, iv (0 : Int32), iv (0 : Int32), rv a1, rv a4, rv a9, rv a16, rv a25, iv (0 : Int32), .val .null, .val .null, .unset, .unset] [.null]))) (X57.checkcastNull hx (g := (mkF m 136 #[iv p0, iv p1, iv p2, iv (0 : Int32), iv (0 : Int32), rv a1, rv a4, rv a9, rv a16, rv a25, iv (0 : Int32), .val .null, .val .null, .unset, .unset] [.null])) rfl rfl (hb hby at_136)) ?_
      refine own_go (B := (T57.setTop (mkF m 141 #[iv p0, iv p1, iv p2, iv (0 : Int32), iv (0 : Int32), rv a1, rv a4, rv a9, rv a16, rv a25, iv (0 : Int32), .val .null, .val .null, .val .null, .unset] []))) (fun t k => XS.astore X57.here hx rfl (hb hby at_139) rfl rfl (l' := #[iv p0, iv p1, iv p2, iv (0 : Int32), iv (0 : Int32), rv a1, rv a4, rv a9, rv a16, rv a25, iv (0 : Int32), .val .null, .val .null, .val .null, .unset]) rfl k) ?_
      refine own_go (B := (T57.setTop (mkF m 143 #[iv p0, iv p1, iv p2, iv (0 : Int32), iv (0 : Int32), rv a1, rv a4, rv a9, rv a16, rv a25, iv (0 : Int32), .val .null, .val .null, .val .null, .unset] [(.ref a25)]))) (fun t k => XS.aload X57.here hx rfl (hb hby at_141) rfl rfl k) ?_
      obtain ⟨cq59, kq59, qa59, qb59, qc59⟩ := isOf hZ e57 Ex38
      obtain ⟨_, _, ⟨T59, L59, k59, n59⟩, -, X59, ⟨Lc59, hQ59, l59, y59, z59⟩, st59⟩ := X57.virtualBack hx (y := own_y7) (z := own_y7) hown (mvT hZ w_31) (mvT hZ w_32) (notFace_of_selects (args := #[]) (mvT hZ w_34)) (mvT hZ w_34) (mvT hZ w_33) (by decide) (backOf (W := 0) (own_tnone l Z a0 hw [] a25 T38.heap n0 gc38) hZ w_35 w_9 (by decide) (by decide)) qa59 qc59 (g := (mkF m 143 #[iv p0, iv p1, iv p2, iv (0 : Int32), iv (0 : Int32), rv a1, rv a4, rv a9, rv a16, rv a25, iv (0 : Int32), .val .null, .val .null, .val .null, .unset] [(.ref a25)])) rfl (by rw [hml]; rfl) (Steps.refl _) (argsL := []) (rest := []) (lenOf own_pd6 rfl) rfl (by show 2 * 0 + _ ≤ _; exact own_b rfl) (hb hby at_143) (fun _ _ => ⟨rfl, e57, (own_b rfl : 6 + 0 ≤ _), (own_b rfl : 9 + 0 ≤ _)⟩)
      dsimp only [Pt.U, Pt.locs, Pt.cells, Pt.slots] at X59 l59 y59 z59 st59 hQ59
      obtain ⟨rfl, Nq59, eq59⟩ := hQ59
      obtain ⟨L59, X59, N59⟩ := own_absC (K := 6) (K' := 9) X59 l59 y59 z59 N57 Nq59
      have e59 : T59.heap = T38.heap := eq59
      refine own_tr (B := (T59.setTop (mkF m 146 #[iv p0, iv p1, iv p2, iv (0 : Int32), iv (0 : Int32), rv a1, rv a4, rv a9, rv a16, rv a25, iv (0 : Int32), .val .null, .val .null, .val .null, .unset] [.null]))) st59 ?_
      refine own_go (B := (T59.setTop (mkF m 149 #[iv p0, iv p1, iv p2, iv (0 : Int32), iv (0 : Int32), rv a1, rv a4, rv a9, rv a16, rv a25, iv (0 : Int32), .val .null, .val .null, .val .null, .unset] [.null]))) (X59.checkcastNull hx (g := (mkF m 146 #[iv p0, iv p1, iv p2, iv (0 : Int32), iv (0 : Int32), rv a1, rv a4, rv a9, rv a16, rv a25, iv (0 : Int32), .val .null, .val .null, .val .null, .unset] [.null])) rfl rfl (hb hby at_146)) ?_
      refine own_go (B := (T59.setTop (mkF m 151 #[iv p0, iv p1, iv p2, iv (0 : Int32), iv (0 : Int32), rv a1, rv a4, rv a9, rv a16, rv a25, iv (0 : Int32), .val .null, .val .null, .val .null, .val .null] []))) (fun t k => XS.astore X59.here hx rfl (hb hby at_149) rfl rfl (l' := #[iv p0, iv p1, iv p2, iv (0 : Int32), iv (0 : Int32), rv a1, rv a4, rv a9, rv a16, rv a25, iv (0 : Int32), .val .null, .val .null, .val .null, .val .null]) rfl k) ?_
      refine own_go (B := (T59.setTop (mkF m 153 #[iv p0, iv p1, iv p2, iv (0 : Int32), iv (0 : Int32), rv a1, rv a4, rv a9, rv a16, rv a25, iv (0 : Int32), .val .null, .val .null, .val .null, .val .null] [.null]))) (fun t k => XS.aload X59.here hx rfl (hb hby at_151) rfl rfl k) ?_
      refine own_go (B := (T59.setTop (mkF m 155 #[iv p0, iv p1, iv p2, iv (0 : Int32), iv (0 : Int32), rv a1, rv a4, rv a9, rv a16, rv a25, iv (0 : Int32), .val .null, .val .null, .val .null, .val .null] [(.int (0 : Int32)), .null]))) (fun t k => XS.iload X59.here hx rfl (hb hby at_153) rfl k) ?_
      refine own_go (B := (T59.setTop (mkF m 156 #[iv p0, iv p1, iv p2, iv (0 : Int32), iv (0 : Int32), rv a1, rv a4, rv a9, rv a16, rv a25, iv (0 : Int32), .val .null, .val .null, .val .null, .val .null] [(.int (0 : Int32)), (.int (0 : Int32)), .null]))) (fun t k => own_iconst (v := (0 : Int32)) X59.here hx rfl (hb hby at_155) (by decide) k) ?_
      refine own_go (B := (T59.setTop (mkF m 157 #[iv p0, iv p1, iv p2, iv (0 : Int32), iv (0 : Int32), rv a1, rv a4, rv a9, rv a16, rv a25, iv (0 : Int32), .val .null, .val .null, .val .null, .val .null] [(.int p2), (.int (0 : Int32)), (.int (0 : Int32)), .null]))) (fun t k => XS.iloadN X59.here hx rfl (hb hby at_156) rfl k) ?_
      obtain ⟨_, _, ⟨T61, L61, k61, n61⟩, -, X61, ⟨Lc61, hQ61, l61, y61, z61⟩, st61⟩ := Jvm.LawKit.callS X59 hx (y := own_y8) hown (mvT hZ w_36) (mvT hZ w_37) (mvT hZ w_38) (mvT hZ w_39) (by decide) (backOf (W := 0) (own_same0 l Z a0 hw [] (0 : Int32) (0 : Int32) p2 T38.heap n0 (by decide)) hZ w_39 w_38 (by decide) (by decide)) (g := (mkF m 157 #[iv p0, iv p1, iv p2, iv (0 : Int32), iv (0 : Int32), rv a1, rv a4, rv a9, rv a16, rv a25, iv (0 : Int32), .val .null, .val .null, .val .null, .val .null] [(.int p2), (.int (0 : Int32)), (.int (0 : Int32)), .null])) rfl (by rw [hml]; rfl) (argsL := [.null, (.int (0 : Int32)), (.int (0 : Int32)), (.int p2)]) (rest := []) (lenOf own_pd7 rfl) rfl (by show 2 * 0 + _ ≤ _; exact own_b rfl) (hb hby at_157) (fun _ _ => ⟨rfl, e59, (own_b rfl : 6 + 0 ≤ _), (own_b rfl : 9 + 0 ≤ _)⟩)
      dsimp only [Pt.U, Pt.locs, Pt.cells, Pt.slots] at X61 l61 y61 z61 st61 hQ61
      obtain ⟨rfl, Nq61, eq61⟩ := hQ61
      obtain ⟨L61, X61, N61⟩ := own_absC (K := 6) (K' := 9) X61 l61 y61 z61 N59 Nq61
      have e61 : T61.heap = T38.heap := eq61
      refine own_go (B := (T61.setTop (mkF m 160 #[iv p0, iv p1, iv p2, iv (0 : Int32), iv (0 : Int32), rv a1, rv a4, rv a9, rv a16, rv a25, iv (0 : Int32), .val .null, .val .null, .val .null, .val .null] [(.int (1 : Int32))]))) st61 ?_
      have hc160 : ¬ (1 : Int32) = (0 : Int32) := (by decide)
      refine own_ifN X61 hx (hb hby at_160) (pn := 163) rfl hc160 ?_
      refine own_go (B := (T61.setTop (mkF m 165 #[iv p0, iv p1, iv p2, iv (0 : Int32), iv (0 : Int32), rv a1, rv a4, rv a9, rv a16, rv a25, iv (0 : Int32), .val .null, .val .null, .val .null, .val .null] [.null]))) (fun t k => XS.aload X61.here hx rfl (hb hby at_163) rfl rfl k) ?_
      refine own_go (B := (T61.setTop (mkF m 167 #[iv p0, iv p1, iv p2, iv (0 : Int32), iv (0 : Int32), rv a1, rv a4, rv a9, rv a16, rv a25, iv (0 : Int32), .val .null, .val .null, .val .null, .val .null] [(.int (0 : Int32)), .null]))) (fun t k => XS.iload X61.here hx rfl (hb hby at_165) rfl k) ?_
      refine own_go (B := (T61.setTop (mkF m 168 #[iv p0, iv p1, iv p2, iv (0 : Int32), iv (0 : Int32), rv a1, rv a4, rv a9, rv a16, rv a25, iv (0 : Int32), .val .null, .val .null, .val .null, .val .null] [(.int (1 : Int32)), (.int (0 : Int32)), .null]))) (fun t k => own_iconst (v := (1 : Int32)) X61.here hx rfl (hb hby at_167) (by decide) k) ?_
      refine own_go (B := (T61.setTop (mkF m 169 #[iv p0, iv p1, iv p2, iv (0 : Int32), iv (0 : Int32), rv a1, rv a4, rv a9, rv a16, rv a25, iv (0 : Int32), .val .null, .val .null, .val .null, .val .null] [(.int p2), (.int (1 : Int32)), (.int (0 : Int32)), .null]))) (fun t k => XS.iloadN X61.here hx rfl (hb hby at_168) rfl k) ?_
      obtain ⟨_, _, ⟨T62, L62, k62, n62⟩, -, X62, ⟨Lc62, hQ62, l62, y62, z62⟩, st62⟩ := Jvm.LawKit.callS X61 hx (y := own_y8) hown (mvT hZ w_36) (mvT hZ w_37) (mvT hZ w_38) (mvT hZ w_39) (by decide) (backOf (W := 0) (own_same0 l Z a0 hw [] (0 : Int32) (1 : Int32) p2 T38.heap n0 (by decide)) hZ w_39 w_38 (by decide) (by decide)) (g := (mkF m 169 #[iv p0, iv p1, iv p2, iv (0 : Int32), iv (0 : Int32), rv a1, rv a4, rv a9, rv a16, rv a25, iv (0 : Int32), .val .null, .val .null, .val .null, .val .null] [(.int p2), (.int (1 : Int32)), (.int (0 : Int32)), .null])) rfl (by rw [hml]; rfl) (argsL := [.null, (.int (0 : Int32)), (.int (1 : Int32)), (.int p2)]) (rest := []) (lenOf own_pd7 rfl) rfl (by show 2 * 0 + _ ≤ _; exact own_b rfl) (hb hby at_169) (fun _ _ => ⟨rfl, e61, (own_b rfl : 6 + 0 ≤ _), (own_b rfl : 9 + 0 ≤ _)⟩)
      dsimp only [Pt.U, Pt.locs, Pt.cells, Pt.slots] at X62 l62 y62 z62 st62 hQ62
      obtain ⟨rfl, Nq62, eq62⟩ := hQ62
      obtain ⟨L62, X62, N62⟩ := own_absC (K := 6) (K' := 9) X62 l62 y62 z62 N61 Nq62
      have e62 : T62.heap = T38.heap := eq62
      refine own_go (B := (T62.setTop (mkF m 172 #[iv p0, iv p1, iv p2, iv (0 : Int32), iv (0 : Int32), rv a1, rv a4, rv a9, rv a16, rv a25, iv (0 : Int32), .val .null, .val .null, .val .null, .val .null] [(.int (1 : Int32))]))) st62 ?_
      have hc172 : ¬ (1 : Int32) = (0 : Int32) := (by decide)
      refine own_ifN X62 hx (hb hby at_172) (pn := 175) rfl hc172 ?_
      refine own_go (B := (T62.setTop (mkF m 177 #[iv p0, iv p1, iv p2, iv (0 : Int32), iv (0 : Int32), rv a1, rv a4, rv a9, rv a16, rv a25, iv (0 : Int32), .val .null, .val .null, .val .null, .val .null] [.null]))) (fun t k => XS.aload X62.here hx rfl (hb hby at_175) rfl rfl k) ?_
      refine own_go (B := (T62.setTop (mkF m 179 #[iv p0, iv p1, iv p2, iv (0 : Int32), iv (0 : Int32), rv a1, rv a4, rv a9, rv a16, rv a25, iv (0 : Int32), .val .null, .val .null, .val .null, .val .null] [(.int (0 : Int32)), .null]))) (fun t k => XS.iload X62.here hx rfl (hb hby at_177) rfl k) ?_
      refine own_go (B := (T62.setTop (mkF m 180 #[iv p0, iv p1, iv p2, iv (0 : Int32), iv (0 : Int32), rv a1, rv a4, rv a9, rv a16, rv a25, iv (0 : Int32), .val .null, .val .null, .val .null, .val .null] [(.int (2 : Int32)), (.int (0 : Int32)), .null]))) (fun t k => own_iconst (v := (2 : Int32)) X62.here hx rfl (hb hby at_179) (by decide) k) ?_
      refine own_go (B := (T62.setTop (mkF m 181 #[iv p0, iv p1, iv p2, iv (0 : Int32), iv (0 : Int32), rv a1, rv a4, rv a9, rv a16, rv a25, iv (0 : Int32), .val .null, .val .null, .val .null, .val .null] [(.int p2), (.int (2 : Int32)), (.int (0 : Int32)), .null]))) (fun t k => XS.iloadN X62.here hx rfl (hb hby at_180) rfl k) ?_
      obtain ⟨_, _, ⟨T63, L63, k63, n63⟩, -, X63, ⟨Lc63, hQ63, l63, y63, z63⟩, st63⟩ := Jvm.LawKit.callS X62 hx (y := own_y8) hown (mvT hZ w_36) (mvT hZ w_37) (mvT hZ w_38) (mvT hZ w_39) (by decide) (backOf (W := 0) (own_same0 l Z a0 hw [] (0 : Int32) (2 : Int32) p2 T38.heap n0 (by decide)) hZ w_39 w_38 (by decide) (by decide)) (g := (mkF m 181 #[iv p0, iv p1, iv p2, iv (0 : Int32), iv (0 : Int32), rv a1, rv a4, rv a9, rv a16, rv a25, iv (0 : Int32), .val .null, .val .null, .val .null, .val .null] [(.int p2), (.int (2 : Int32)), (.int (0 : Int32)), .null])) rfl (by rw [hml]; rfl) (argsL := [.null, (.int (0 : Int32)), (.int (2 : Int32)), (.int p2)]) (rest := []) (lenOf own_pd7 rfl) rfl (by show 2 * 0 + _ ≤ _; exact own_b rfl) (hb hby at_181) (fun _ _ => ⟨rfl, e62, (own_b rfl : 6 + 0 ≤ _), (own_b rfl : 9 + 0 ≤ _)⟩)
      dsimp only [Pt.U, Pt.locs, Pt.cells, Pt.slots] at X63 l63 y63 z63 st63 hQ63
      obtain ⟨rfl, Nq63, eq63⟩ := hQ63
      obtain ⟨L63, X63, N63⟩ := own_absC (K := 6) (K' := 9) X63 l63 y63 z63 N62 Nq63
      have e63 : T63.heap = T38.heap := eq63
      refine own_go (B := (T63.setTop (mkF m 184 #[iv p0, iv p1, iv p2, iv (0 : Int32), iv (0 : Int32), rv a1, rv a4, rv a9, rv a16, rv a25, iv (0 : Int32), .val .null, .val .null, .val .null, .val .null] [(.int (1 : Int32))]))) st63 ?_
      have hc184 : ¬ (1 : Int32) = (0 : Int32) := (by decide)
      refine own_ifN X63 hx (hb hby at_184) (pn := 187) rfl hc184 ?_
      refine own_go (B := (T63.setTop (mkF m 189 #[iv p0, iv p1, iv p2, iv (0 : Int32), iv (0 : Int32), rv a1, rv a4, rv a9, rv a16, rv a25, iv (0 : Int32), .val .null, .val .null, .val .null, .val .null] [.null]))) (fun t k => XS.aload X63.here hx rfl (hb hby at_187) rfl rfl k) ?_
      refine own_go (B := (T63.setTop (mkF m 191 #[iv p0, iv p1, iv p2, iv (0 : Int32), iv (0 : Int32), rv a1, rv a4, rv a9, rv a16, rv a25, iv (0 : Int32), .val .null, .val .null, .val .null, .val .null] [(.int (0 : Int32)), .null]))) (fun t k => XS.iload X63.here hx rfl (hb hby at_189) rfl k) ?_
      refine own_go (B := (T63.setTop (mkF m 192 #[iv p0, iv p1, iv p2, iv (0 : Int32), iv (0 : Int32), rv a1, rv a4, rv a9, rv a16, rv a25, iv (0 : Int32), .val .null, .val .null, .val .null, .val .null] [(.int (3 : Int32)), (.int (0 : Int32)), .null]))) (fun t k => own_iconst (v := (3 : Int32)) X63.here hx rfl (hb hby at_191) (by decide) k) ?_
      refine own_go (B := (T63.setTop (mkF m 193 #[iv p0, iv p1, iv p2, iv (0 : Int32), iv (0 : Int32), rv a1, rv a4, rv a9, rv a16, rv a25, iv (0 : Int32), .val .null, .val .null, .val .null, .val .null] [(.int p2), (.int (3 : Int32)), (.int (0 : Int32)), .null]))) (fun t k => XS.iloadN X63.here hx rfl (hb hby at_192) rfl k) ?_
      obtain ⟨_, _, ⟨T64, L64, k64, n64⟩, -, X64, ⟨Lc64, hQ64, l64, y64, z64⟩, st64⟩ := Jvm.LawKit.callS X63 hx (y := own_y8) hown (mvT hZ w_36) (mvT hZ w_37) (mvT hZ w_38) (mvT hZ w_39) (by decide) (backOf (W := 0) (own_same0 l Z a0 hw [] (0 : Int32) (3 : Int32) p2 T38.heap n0 (by decide)) hZ w_39 w_38 (by decide) (by decide)) (g := (mkF m 193 #[iv p0, iv p1, iv p2, iv (0 : Int32), iv (0 : Int32), rv a1, rv a4, rv a9, rv a16, rv a25, iv (0 : Int32), .val .null, .val .null, .val .null, .val .null] [(.int p2), (.int (3 : Int32)), (.int (0 : Int32)), .null])) rfl (by rw [hml]; rfl) (argsL := [.null, (.int (0 : Int32)), (.int (3 : Int32)), (.int p2)]) (rest := []) (lenOf own_pd7 rfl) rfl (by show 2 * 0 + _ ≤ _; exact own_b rfl) (hb hby at_193) (fun _ _ => ⟨rfl, e63, (own_b rfl : 6 + 0 ≤ _), (own_b rfl : 9 + 0 ≤ _)⟩)
      dsimp only [Pt.U, Pt.locs, Pt.cells, Pt.slots] at X64 l64 y64 z64 st64 hQ64
      obtain ⟨rfl, Nq64, eq64⟩ := hQ64
      obtain ⟨L64, X64, N64⟩ := own_absC (K := 6) (K' := 9) X64 l64 y64 z64 N63 Nq64
      have e64 : T64.heap = T38.heap := eq64
      refine own_go (B := (T64.setTop (mkF m 196 #[iv p0, iv p1, iv p2, iv (0 : Int32), iv (0 : Int32), rv a1, rv a4, rv a9, rv a16, rv a25, iv (0 : Int32), .val .null, .val .null, .val .null, .val .null] [(.int (1 : Int32))]))) st64 ?_
      have hc196 : ¬ (1 : Int32) = (0 : Int32) := (by decide)
      refine own_ifN X64 hx (hb hby at_196) (pn := 199) rfl hc196 ?_
      refine own_go (B := (T64.setTop (mkF m 200 #[iv p0, iv p1, iv p2, iv (0 : Int32), iv (0 : Int32), rv a1, rv a4, rv a9, rv a16, rv a25, iv (0 : Int32), .val .null, .val .null, .val .null, .val .null] [(.int (1 : Int32))]))) (fun t k => own_iconst (v := (1 : Int32)) X64.here hx rfl (hb hby at_199) (by decide) k) ?_
      refine own_go (B := (T64.setTop (mkF m 204 #[iv p0, iv p1, iv p2, iv (0 : Int32), iv (0 : Int32), rv a1, rv a4, rv a9, rv a16, rv a25, iv (0 : Int32), .val .null, .val .null, .val .null, .val .null] [(.int (1 : Int32))]))) (fun t k => XS.goto X64.here hx rfl (pc0 := 200) (pc' := 204) rfl (hb hby at_200) (by decide) (by decide) k) ?_
      exact own_retZ X64 hx hlk Bd.returns (hb hby at_204) (by decide) (own_b rfl) (own_b rfl) (Q := (own_law_Q Z p0 p1 p2 ca h0 n0)) ⟨rfl, N64⟩
    · refine own_go (B := (T38.setTop (mkF m 54 #[iv p0, iv p1, iv p2, iv (0 : Int32), iv (1 : Int32), rv a1, rv a4, rv a9, rv a16, rv a25, .unset, .unset, .unset, .unset, .unset] [(.int (1 : Int32))]))) (fun t k => XS.iload X38.here hx rfl (hb hby at_52) rfl k) ?_
      have hc54 : (0 : Int32) < (1 : Int32) := (by decide)
      refine own_ifN X38 hx (hb hby at_54) (pn := 57) rfl hc54 ?_
      refine own_go (B := (T38.setTop (mkF m 59 #[iv p0, iv p1, iv p2, iv (0 : Int32), iv (1 : Int32), rv a1, rv a4, rv a9, rv a16, rv a25, .unset, .unset, .unset, .unset, .unset] [(.ref a25)]))) (fun t k => XS.aload X38.here hx rfl (hb hby at_57) rfl rfl k) ?_
      refine own_go (B := (T38.setTop (mkF m 61 #[iv p0, iv p1, iv p2, iv (0 : Int32), iv (1 : Int32), rv a1, rv a4, rv a9, rv a16, rv a25, .unset, .unset, .unset, .unset, .unset] [(.ref a1), (.ref a25)]))) (fun t k => XS.aload X38.here hx rfl (hb hby at_59) rfl rfl k) ?_
      obtain ⟨cq65, kq65, qa65, qb65, qc65⟩ := isOf hZ rfl Ex38
      obtain ⟨_, _, ⟨T65, L65, k65, n65⟩, -, X65, ⟨Lc65, hQ65, l65, y65, z65⟩, st65⟩ := X38.virtualBack hx (y := own_y9) (z := own_y9) hown (mvT hZ w_20) (mvT hZ w_21) (notFace_of_selects (args := #[]) (mvT hZ w_23)) (mvT hZ w_23) (mvT hZ w_22) (by decide) (backOf (W := 0) (own_kfull l Z a0 hw [] a25 a1 ar38 (0 : Int32) (0 : Int32) [] T38.heap n0 Ex38 gk38 gc38 Vb (own_lenL (n := 0) rfl (by decide)) (by decide)) hZ w_24 w_9 (by decide) (by decide)) qa65 qc65 (g := (mkF m 61 #[iv p0, iv p1, iv p2, iv (0 : Int32), iv (1 : Int32), rv a1, rv a4, rv a9, rv a16, rv a25, .unset, .unset, .unset, .unset, .unset] [(.ref a1), (.ref a25)])) rfl (by rw [hml]; rfl) (Steps.refl _) (argsL := [(.ref a1)]) (rest := []) (lenOf own_pd8 rfl) rfl (by show 2 * 0 + _ ≤ _; exact own_b rfl) (hb hby at_61) (fun _ _ => ⟨rfl, rfl, (own_b rfl : 6 + 0 ≤ _), (own_b rfl : 9 + 0 ≤ _)⟩)
      dsimp only [Pt.U, Pt.locs, Pt.cells, Pt.slots] at X65 l65 y65 z65 st65 hQ65
      obtain ⟨rfl, Nq65, eq65⟩ := hQ65
      obtain ⟨L65, X65, N65⟩ := own_absC (K := 6) (K' := 9) X65 l65 y65 z65 N38 Nq65
      have e65 : T65.heap = T38.heap := eq65
      refine own_tr (B := (T65.setTop (mkF m 64 #[iv p0, iv p1, iv p2, iv (0 : Int32), iv (1 : Int32), rv a1, rv a4, rv a9, rv a16, rv a25, .unset, .unset, .unset, .unset, .unset] []))) st65 ?_
      refine own_go (B := (T65.setTop (mkF m 66 #[iv p0, iv p1, iv p2, iv (0 : Int32), iv (1 : Int32), rv a1, rv a4, rv a9, rv a16, rv a25, .unset, .unset, .unset, .unset, .unset] [(.int (1 : Int32))]))) (fun t k => XS.iload X65.here hx rfl (hb hby at_64) rfl k) ?_
      refine own_go (B := (T65.setTop (mkF m 67 #[iv p0, iv p1, iv p2, iv (0 : Int32), iv (1 : Int32), rv a1, rv a4, rv a9, rv a16, rv a25, .unset, .unset, .unset, .unset, .unset] [(.int (1 : Int32)), (.int (1 : Int32))]))) (fun t k => own_iconst (v := (1 : Int32)) X65.here hx rfl (hb hby at_66) (by decide) k) ?_
      have hc67 : ¬ (1 : Int32) < (1 : Int32) := (by decide)
      refine own_icmpY X65 hx (hb hby at_67) (pc' := 77) (by decide) (by decide) hc67 ?_
      refine own_go (B := (T65.setTop (mkF m 79 #[iv p0, iv p1, iv p2, iv (0 : Int32), iv (1 : Int32), rv a1, rv a4, rv a9, rv a16, rv a25, .unset, .unset, .unset, .unset, .unset] [(.int (1 : Int32))]))) (fun t k => XS.iload X65.here hx rfl (hb hby at_77) rfl k) ?_
      refine own_go (B := (T65.setTop (mkF m 80 #[iv p0, iv p1, iv p2, iv (0 : Int32), iv (1 : Int32), rv a1, rv a4, rv a9, rv a16, rv a25, .unset, .unset, .unset, .unset, .unset] [(.int (2 : Int32)), (.int (1 : Int32))]))) (fun t k => own_iconst (v := (2 : Int32)) X65.here hx rfl (hb hby at_79) (by decide) k) ?_
      have hc80 : ¬ (2 : Int32) < (1 : Int32) := (by decide)
      refine own_icmpY X65 hx (hb hby at_80) (pc' := 90) (by decide) (by decide) hc80 ?_
      refine own_go (B := (T65.setTop (mkF m 92 #[iv p0, iv p1, iv p2, iv (0 : Int32), iv (1 : Int32), rv a1, rv a4, rv a9, rv a16, rv a25, .unset, .unset, .unset, .unset, .unset] [(.int (1 : Int32))]))) (fun t k => XS.iload X65.here hx rfl (hb hby at_90) rfl k) ?_
      refine own_go (B := (T65.setTop (mkF m 93 #[iv p0, iv p1, iv p2, iv (0 : Int32), iv (1 : Int32), rv a1, rv a4, rv a9, rv a16, rv a25, .unset, .unset, .unset, .unset, .unset] [(.int (3 : Int32)), (.int (1 : Int32))]))) (fun t k => own_iconst (v := (3 : Int32)) X65.here hx rfl (hb hby at_92) (by decide) k) ?_
      have hc93 : ¬ (3 : Int32) < (1 : Int32) := (by decide)
      refine own_icmpY X65 hx (hb hby at_93) (pc' := 103) (by decide) (by decide) hc93 ?_
      refine own_go (B := (T65.setTop (mkF m 105 #[iv p0, iv p1, iv p2, iv (0 : Int32), iv (1 : Int32), rv a1, rv a4, rv a9, rv a16, rv a25, .unset, .unset, .unset, .unset, .unset] [(.int (1 : Int32))]))) (fun t k => XS.iload X65.here hx rfl (hb hby at_103) rfl k) ?_
      refine own_go (B := (T65.setTop (mkF m 106 #[iv p0, iv p1, iv p2, iv (0 : Int32), iv (1 : Int32), rv a1, rv a4, rv a9, rv a16, rv a25, .unset, .unset, .unset, .unset, .unset] [(.int (0 : Int32)), (.int (1 : Int32))]))) (fun t k => XS.iloadN X65.here hx rfl (hb hby at_105) rfl k) ?_
      obtain ⟨_, _, ⟨T66, L66, k66, n66⟩, -, X66, ⟨Lc66, hQ66, l66, y66, z66⟩, st66⟩ := Jvm.LawKit.callS X65 hx (y := own_y6) hown (mvT hZ w_27) (mvT hZ w_28) (mvT hZ w_29) (mvT hZ w_30) (by decide) (backOf (W := 0) (own_mmin l Z a0 hw [] (1 : Int32) (0 : Int32) T38.heap n0) hZ w_30 w_29 (by decide) (by decide)) (g := (mkF m 106 #[iv p0, iv p1, iv p2, iv (0 : Int32), iv (1 : Int32), rv a1, rv a4, rv a9, rv a16, rv a25, .unset, .unset, .unset, .unset, .unset] [(.int (0 : Int32)), (.int (1 : Int32))])) rfl (by rw [hml]; rfl) (argsL := [(.int (1 : Int32)), (.int (0 : Int32))]) (rest := []) (lenOf own_pd5 rfl) rfl (by show 2 * 0 + _ ≤ _; exact own_b rfl) (hb hby at_106) (fun _ _ => ⟨rfl, e65, (own_b rfl : 6 + 0 ≤ _), (own_b rfl : 9 + 0 ≤ _)⟩)
      dsimp only [Pt.U, Pt.locs, Pt.cells, Pt.slots] at X66 l66 y66 z66 st66 hQ66
      obtain ⟨rfl, Nq66, eq66⟩ := hQ66
      obtain ⟨L66, X66, N66⟩ := own_absC (K := 6) (K' := 9) X66 l66 y66 z66 N65 Nq66
      have e66 : T66.heap = T38.heap := eq66
      refine own_go (B := (T66.setTop (mkF m 109 #[iv p0, iv p1, iv p2, iv (0 : Int32), iv (1 : Int32), rv a1, rv a4, rv a9, rv a16, rv a25, .unset, .unset, .unset, .unset, .unset] [(.int (own_min (1 : Int32) (0 : Int32)))]))) st66 ?_
      rw [show own_min (1 : Int32) (0 : Int32) = (0 : Int32) from by decide]
      refine own_go (B := (T66.setTop (mkF m 111 #[iv p0, iv p1, iv p2, iv (0 : Int32), iv (1 : Int32), rv a1, rv a4, rv a9, rv a16, rv a25, iv (0 : Int32), .unset, .unset, .unset, .unset] []))) (fun t k => XS.istore X66.here hx rfl (hb hby at_109) rfl (l' := #[iv p0, iv p1, iv p2, iv (0 : Int32), iv (1 : Int32), rv a1, rv a4, rv a9, rv a16, rv a25, iv (0 : Int32), .unset, .unset, .unset, .unset]) rfl k) ?_
      refine own_go (B := (T66.setTop (mkF m 113 #[iv p0, iv p1, iv p2, iv (0 : Int32), iv (1 : Int32), rv a1, rv a4, rv a9, rv a16, rv a25, iv (0 : Int32), .unset, .unset, .unset, .unset] [(.ref a25)]))) (fun t k => XS.aload X66.here hx rfl (hb hby at_111) rfl rfl k) ?_
      obtain ⟨cq67, kq67, qa67, qb67, qc67⟩ := isOf hZ e66 Ex38
      obtain ⟨_, _, ⟨T67, L67, k67, n67⟩, -, X67, ⟨Lc67, hQ67, l67, y67, z67⟩, st67⟩ := X66.virtualBack hx (y := own_y7) (z := own_y7) hown (mvT hZ w_31) (mvT hZ w_32) (notFace_of_selects (args := #[]) (mvT hZ w_34)) (mvT hZ w_34) (mvT hZ w_33) (by decide) (backOf (W := 0) (own_tnone l Z a0 hw [] a25 T38.heap n0 gc38) hZ w_35 w_9 (by decide) (by decide)) qa67 qc67 (g := (mkF m 113 #[iv p0, iv p1, iv p2, iv (0 : Int32), iv (1 : Int32), rv a1, rv a4, rv a9, rv a16, rv a25, iv (0 : Int32), .unset, .unset, .unset, .unset] [(.ref a25)])) rfl (by rw [hml]; rfl) (Steps.refl _) (argsL := []) (rest := []) (lenOf own_pd6 rfl) rfl (by show 2 * 0 + _ ≤ _; exact own_b rfl) (hb hby at_113) (fun _ _ => ⟨rfl, e66, (own_b rfl : 6 + 0 ≤ _), (own_b rfl : 9 + 0 ≤ _)⟩)
      dsimp only [Pt.U, Pt.locs, Pt.cells, Pt.slots] at X67 l67 y67 z67 st67 hQ67
      obtain ⟨rfl, Nq67, eq67⟩ := hQ67
      obtain ⟨L67, X67, N67⟩ := own_absC (K := 6) (K' := 9) X67 l67 y67 z67 N66 Nq67
      have e67 : T67.heap = T38.heap := eq67
      refine own_tr (B := (T67.setTop (mkF m 116 #[iv p0, iv p1, iv p2, iv (0 : Int32), iv (1 : Int32), rv a1, rv a4, rv a9, rv a16, rv a25, iv (0 : Int32), .unset, .unset, .unset, .unset] [.null]))) st67 ?_
      refine own_go (B := (T67.setTop (mkF m 119 #[iv p0, iv p1, iv p2, iv (0 : Int32), iv (1 : Int32), rv a1, rv a4, rv a9, rv a16, rv a25, iv (0 : Int32), .unset, .unset, .unset, .unset] [.null]))) (X67.checkcastNull hx (g := (mkF m 116 #[iv p0, iv p1, iv p2, iv (0 : Int32), iv (1 : Int32), rv a1, rv a4, rv a9, rv a16, rv a25, iv (0 : Int32), .unset, .unset, .unset, .unset] [.null])) rfl rfl (hb hby at_116)) ?_
      refine own_go (B := (T67.setTop (mkF m 121 #[iv p0, iv p1, iv p2, iv (0 : Int32), iv (1 : Int32), rv a1, rv a4, rv a9, rv a16, rv a25, iv (0 : Int32), .val .null, .unset, .unset, .unset] []))) (fun t k => XS.astore X67.here hx rfl (hb hby at_119) rfl rfl (l' := #[iv p0, iv p1, iv p2, iv (0 : Int32), iv (1 : Int32), rv a1, rv a4, rv a9, rv a16, rv a25, iv (0 : Int32), .val .null, .unset, .unset, .unset]) rfl k) ?_
      refine own_go (B := (T67.setTop (mkF m 123 #[iv p0, iv p1, iv p2, iv (0 : Int32), iv (1 : Int32), rv a1, rv a4, rv a9, rv a16, rv a25, iv (0 : Int32), .val .null, .unset, .unset, .unset] [(.ref a25)]))) (fun t k => XS.aload X67.here hx rfl (hb hby at_121) rfl rfl k) ?_
      obtain ⟨cq69, kq69, qa69, qb69, qc69⟩ := isOf hZ e67 Ex38
      obtain ⟨_, _, ⟨T69, L69, k69, n69⟩, -, X69, ⟨Lc69, hQ69, l69, y69, z69⟩, st69⟩ := X67.virtualBack hx (y := own_y7) (z := own_y7) hown (mvT hZ w_31) (mvT hZ w_32) (notFace_of_selects (args := #[]) (mvT hZ w_34)) (mvT hZ w_34) (mvT hZ w_33) (by decide) (backOf (W := 0) (own_tnone l Z a0 hw [] a25 T38.heap n0 gc38) hZ w_35 w_9 (by decide) (by decide)) qa69 qc69 (g := (mkF m 123 #[iv p0, iv p1, iv p2, iv (0 : Int32), iv (1 : Int32), rv a1, rv a4, rv a9, rv a16, rv a25, iv (0 : Int32), .val .null, .unset, .unset, .unset] [(.ref a25)])) rfl (by rw [hml]; rfl) (Steps.refl _) (argsL := []) (rest := []) (lenOf own_pd6 rfl) rfl (by show 2 * 0 + _ ≤ _; exact own_b rfl) (hb hby at_123) (fun _ _ => ⟨rfl, e67, (own_b rfl : 6 + 0 ≤ _), (own_b rfl : 9 + 0 ≤ _)⟩)
      dsimp only [Pt.U, Pt.locs, Pt.cells, Pt.slots] at X69 l69 y69 z69 st69 hQ69
      obtain ⟨rfl, Nq69, eq69⟩ := hQ69
      obtain ⟨L69, X69, N69⟩ := own_absC (K := 6) (K' := 9) X69 l69 y69 z69 N67 Nq69
      have e69 : T69.heap = T38.heap := eq69
      refine own_tr (B := (T69.setTop (mkF m 126 #[iv p0, iv p1, iv p2, iv (0 : Int32), iv (1 : Int32), rv a1, rv a4, rv a9, rv a16, rv a25, iv (0 : Int32), .val .null, .unset, .unset, .unset] [.null]))) st69 ?_
      refine own_go (B := (T69.setTop (mkF m 129 #[iv p0, iv p1, iv p2, iv (0 : Int32), iv (1 : Int32), rv a1, rv a4, rv a9, rv a16, rv a25, iv (0 : Int32), .val .null, .unset, .unset, .unset] [.null]))) (X69.checkcastNull hx (g := (mkF m 126 #[iv p0, iv p1, iv p2, iv (0 : Int32), iv (1 : Int32), rv a1, rv a4, rv a9, rv a16, rv a25, iv (0 : Int32), .val .null, .unset, .unset, .unset] [.null])) rfl rfl (hb hby at_126)) ?_
      refine own_go (B := (T69.setTop (mkF m 131 #[iv p0, iv p1, iv p2, iv (0 : Int32), iv (1 : Int32), rv a1, rv a4, rv a9, rv a16, rv a25, iv (0 : Int32), .val .null, .val .null, .unset, .unset] []))) (fun t k => XS.astore X69.here hx rfl (hb hby at_129) rfl rfl (l' := #[iv p0, iv p1, iv p2, iv (0 : Int32), iv (1 : Int32), rv a1, rv a4, rv a9, rv a16, rv a25, iv (0 : Int32), .val .null, .val .null, .unset, .unset]) rfl k) ?_
      refine own_go (B := (T69.setTop (mkF m 133 #[iv p0, iv p1, iv p2, iv (0 : Int32), iv (1 : Int32), rv a1, rv a4, rv a9, rv a16, rv a25, iv (0 : Int32), .val .null, .val .null, .unset, .unset] [(.ref a25)]))) (fun t k => XS.aload X69.here hx rfl (hb hby at_131) rfl rfl k) ?_
      obtain ⟨cq71, kq71, qa71, qb71, qc71⟩ := isOf hZ e69 Ex38
      obtain ⟨_, _, ⟨T71, L71, k71, n71⟩, -, X71, ⟨Lc71, hQ71, l71, y71, z71⟩, st71⟩ := X69.virtualBack hx (y := own_y7) (z := own_y7) hown (mvT hZ w_31) (mvT hZ w_32) (notFace_of_selects (args := #[]) (mvT hZ w_34)) (mvT hZ w_34) (mvT hZ w_33) (by decide) (backOf (W := 0) (own_tnone l Z a0 hw [] a25 T38.heap n0 gc38) hZ w_35 w_9 (by decide) (by decide)) qa71 qc71 (g := (mkF m 133 #[iv p0, iv p1, iv p2, iv (0 : Int32), iv (1 : Int32), rv a1, rv a4, rv a9, rv a16, rv a25, iv (0 : Int32), .val .null, .val .null, .unset, .unset] [(.ref a25)])) rfl (by rw [hml]; rfl) (Steps.refl _) (argsL := []) (rest := []) (lenOf own_pd6 rfl) rfl (by show 2 * 0 + _ ≤ _; exact own_b rfl) (hb hby at_133) (fun _ _ => ⟨rfl, e69, (own_b rfl : 6 + 0 ≤ _), (own_b rfl : 9 + 0 ≤ _)⟩)
      dsimp only [Pt.U, Pt.locs, Pt.cells, Pt.slots] at X71 l71 y71 z71 st71 hQ71
      obtain ⟨rfl, Nq71, eq71⟩ := hQ71
      obtain ⟨L71, X71, N71⟩ := own_absC (K := 6) (K' := 9) X71 l71 y71 z71 N69 Nq71
      have e71 : T71.heap = T38.heap := eq71
      refine own_tr (B := (T71.setTop (mkF m 136 #[iv p0, iv p1, iv p2, iv (0 : Int32), iv (1 : Int32), rv a1, rv a4, rv a9, rv a16, rv a25, iv (0 : Int32), .val .null, .val .null, .unset, .unset] [.null]))) st71 ?_
      refine own_go (B := (T71.setTop (mkF m 139 #[iv p0, iv p1, iv p2, iv (0 : Int32), iv (1 : Int32), rv a1, rv a4, rv a9, rv a16, rv a25, iv (0 : Int32), .val .null, .val .null, .unset, .unset] [.null]))) (X71.checkcastNull hx (g := (mkF m 136 #[iv p0, iv p1, iv p2, iv (0 : Int32), iv (1 : Int32), rv a1, rv a4, rv a9, rv a16, rv a25, iv (0 : Int32), .val .null, .val .null, .unset, .unset] [.null])) rfl rfl (hb hby at_136)) ?_
      refine own_go (B := (T71.setTop (mkF m 141 #[iv p0, iv p1, iv p2, iv (0 : Int32), iv (1 : Int32), rv a1, rv a4, rv a9, rv a16, rv a25, iv (0 : Int32), .val .null, .val .null, .val .null, .unset] []))) (fun t k => XS.astore X71.here hx rfl (hb hby at_139) rfl rfl (l' := #[iv p0, iv p1, iv p2, iv (0 : Int32), iv (1 : Int32), rv a1, rv a4, rv a9, rv a16, rv a25, iv (0 : Int32), .val .null, .val .null, .val .null, .unset]) rfl k) ?_
      refine own_go (B := (T71.setTop (mkF m 143 #[iv p0, iv p1, iv p2, iv (0 : Int32), iv (1 : Int32), rv a1, rv a4, rv a9, rv a16, rv a25, iv (0 : Int32), .val .null, .val .null, .val .null, .unset] [(.ref a25)]))) (fun t k => XS.aload X71.here hx rfl (hb hby at_141) rfl rfl k) ?_
      obtain ⟨cq73, kq73, qa73, qb73, qc73⟩ := isOf hZ e71 Ex38
      obtain ⟨_, _, ⟨T73, L73, k73, n73⟩, -, X73, ⟨Lc73, hQ73, l73, y73, z73⟩, st73⟩ := X71.virtualBack hx (y := own_y7) (z := own_y7) hown (mvT hZ w_31) (mvT hZ w_32) (notFace_of_selects (args := #[]) (mvT hZ w_34)) (mvT hZ w_34) (mvT hZ w_33) (by decide) (backOf (W := 0) (own_tnone l Z a0 hw [] a25 T38.heap n0 gc38) hZ w_35 w_9 (by decide) (by decide)) qa73 qc73 (g := (mkF m 143 #[iv p0, iv p1, iv p2, iv (0 : Int32), iv (1 : Int32), rv a1, rv a4, rv a9, rv a16, rv a25, iv (0 : Int32), .val .null, .val .null, .val .null, .unset] [(.ref a25)])) rfl (by rw [hml]; rfl) (Steps.refl _) (argsL := []) (rest := []) (lenOf own_pd6 rfl) rfl (by show 2 * 0 + _ ≤ _; exact own_b rfl) (hb hby at_143) (fun _ _ => ⟨rfl, e71, (own_b rfl : 6 + 0 ≤ _), (own_b rfl : 9 + 0 ≤ _)⟩)
      dsimp only [Pt.U, Pt.locs, Pt.cells, Pt.slots] at X73 l73 y73 z73 st73 hQ73
      obtain ⟨rfl, Nq73, eq73⟩ := hQ73
      obtain ⟨L73, X73, N73⟩ := own_absC (K := 6) (K' := 9) X73 l73 y73 z73 N71 Nq73
      have e73 : T73.heap = T38.heap := eq73
      refine own_tr (B := (T73.setTop (mkF m 146 #[iv p0, iv p1, iv p2, iv (0 : Int32), iv (1 : Int32), rv a1, rv a4, rv a9, rv a16, rv a25, iv (0 : Int32), .val .null, .val .null, .val .null, .unset] [.null]))) st73 ?_
      refine own_go (B := (T73.setTop (mkF m 149 #[iv p0, iv p1, iv p2, iv (0 : Int32), iv (1 : Int32), rv a1, rv a4, rv a9, rv a16, rv a25, iv (0 : Int32), .val .null, .val .null, .val .null, .unset] [.null]))) (X73.checkcastNull hx (g := (mkF m 146 #[iv p0, iv p1, iv p2, iv (0 : Int32), iv (1 : Int32), rv a1, rv a4, rv a9, rv a16, rv a25, iv (0 : Int32), .val .null, .val .null, .val .null, .unset] [.null])) rfl rfl (hb hby at_146)) ?_
      refine own_go (B := (T73.setTop (mkF m 151 #[iv p0, iv p1, iv p2, iv (0 : Int32), iv (1 : Int32), rv a1, rv a4, rv a9, rv a16, rv a25, iv (0 : Int32), .val .null, .val .null, .val .null, .val .null] []))) (fun t k => XS.astore X73.here hx rfl (hb hby at_149) rfl rfl (l' := #[iv p0, iv p1, iv p2, iv (0 : Int32), iv (1 : Int32), rv a1, rv a4, rv a9, rv a16, rv a25, iv (0 : Int32), .val .null, .val .null, .val .null, .val .null]) rfl k) ?_
      refine own_go (B := (T73.setTop (mkF m 153 #[iv p0, iv p1, iv p2, iv (0 : Int32), iv (1 : Int32), rv a1, rv a4, rv a9, rv a16, rv a25, iv (0 : Int32), .val .null, .val .null, .val .null, .val .null] [.null]))) (fun t k => XS.aload X73.here hx rfl (hb hby at_151) rfl rfl k) ?_
      refine own_go (B := (T73.setTop (mkF m 155 #[iv p0, iv p1, iv p2, iv (0 : Int32), iv (1 : Int32), rv a1, rv a4, rv a9, rv a16, rv a25, iv (0 : Int32), .val .null, .val .null, .val .null, .val .null] [(.int (0 : Int32)), .null]))) (fun t k => XS.iload X73.here hx rfl (hb hby at_153) rfl k) ?_
      refine own_go (B := (T73.setTop (mkF m 156 #[iv p0, iv p1, iv p2, iv (0 : Int32), iv (1 : Int32), rv a1, rv a4, rv a9, rv a16, rv a25, iv (0 : Int32), .val .null, .val .null, .val .null, .val .null] [(.int (0 : Int32)), (.int (0 : Int32)), .null]))) (fun t k => own_iconst (v := (0 : Int32)) X73.here hx rfl (hb hby at_155) (by decide) k) ?_
      refine own_go (B := (T73.setTop (mkF m 157 #[iv p0, iv p1, iv p2, iv (0 : Int32), iv (1 : Int32), rv a1, rv a4, rv a9, rv a16, rv a25, iv (0 : Int32), .val .null, .val .null, .val .null, .val .null] [(.int p2), (.int (0 : Int32)), (.int (0 : Int32)), .null]))) (fun t k => XS.iloadN X73.here hx rfl (hb hby at_156) rfl k) ?_
      obtain ⟨_, _, ⟨T75, L75, k75, n75⟩, -, X75, ⟨Lc75, hQ75, l75, y75, z75⟩, st75⟩ := Jvm.LawKit.callS X73 hx (y := own_y8) hown (mvT hZ w_36) (mvT hZ w_37) (mvT hZ w_38) (mvT hZ w_39) (by decide) (backOf (W := 0) (own_same0 l Z a0 hw [] (0 : Int32) (0 : Int32) p2 T38.heap n0 (by decide)) hZ w_39 w_38 (by decide) (by decide)) (g := (mkF m 157 #[iv p0, iv p1, iv p2, iv (0 : Int32), iv (1 : Int32), rv a1, rv a4, rv a9, rv a16, rv a25, iv (0 : Int32), .val .null, .val .null, .val .null, .val .null] [(.int p2), (.int (0 : Int32)), (.int (0 : Int32)), .null])) rfl (by rw [hml]; rfl) (argsL := [.null, (.int (0 : Int32)), (.int (0 : Int32)), (.int p2)]) (rest := []) (lenOf own_pd7 rfl) rfl (by show 2 * 0 + _ ≤ _; exact own_b rfl) (hb hby at_157) (fun _ _ => ⟨rfl, e73, (own_b rfl : 6 + 0 ≤ _), (own_b rfl : 9 + 0 ≤ _)⟩)
      dsimp only [Pt.U, Pt.locs, Pt.cells, Pt.slots] at X75 l75 y75 z75 st75 hQ75
      obtain ⟨rfl, Nq75, eq75⟩ := hQ75
      obtain ⟨L75, X75, N75⟩ := own_absC (K := 6) (K' := 9) X75 l75 y75 z75 N73 Nq75
      have e75 : T75.heap = T38.heap := eq75
      refine own_go (B := (T75.setTop (mkF m 160 #[iv p0, iv p1, iv p2, iv (0 : Int32), iv (1 : Int32), rv a1, rv a4, rv a9, rv a16, rv a25, iv (0 : Int32), .val .null, .val .null, .val .null, .val .null] [(.int (1 : Int32))]))) st75 ?_
      have hc160 : ¬ (1 : Int32) = (0 : Int32) := (by decide)
      refine own_ifN X75 hx (hb hby at_160) (pn := 163) rfl hc160 ?_
      refine own_go (B := (T75.setTop (mkF m 165 #[iv p0, iv p1, iv p2, iv (0 : Int32), iv (1 : Int32), rv a1, rv a4, rv a9, rv a16, rv a25, iv (0 : Int32), .val .null, .val .null, .val .null, .val .null] [.null]))) (fun t k => XS.aload X75.here hx rfl (hb hby at_163) rfl rfl k) ?_
      refine own_go (B := (T75.setTop (mkF m 167 #[iv p0, iv p1, iv p2, iv (0 : Int32), iv (1 : Int32), rv a1, rv a4, rv a9, rv a16, rv a25, iv (0 : Int32), .val .null, .val .null, .val .null, .val .null] [(.int (0 : Int32)), .null]))) (fun t k => XS.iload X75.here hx rfl (hb hby at_165) rfl k) ?_
      refine own_go (B := (T75.setTop (mkF m 168 #[iv p0, iv p1, iv p2, iv (0 : Int32), iv (1 : Int32), rv a1, rv a4, rv a9, rv a16, rv a25, iv (0 : Int32), .val .null, .val .null, .val .null, .val .null] [(.int (1 : Int32)), (.int (0 : Int32)), .null]))) (fun t k => own_iconst (v := (1 : Int32)) X75.here hx rfl (hb hby at_167) (by decide) k) ?_
      refine own_go (B := (T75.setTop (mkF m 169 #[iv p0, iv p1, iv p2, iv (0 : Int32), iv (1 : Int32), rv a1, rv a4, rv a9, rv a16, rv a25, iv (0 : Int32), .val .null, .val .null, .val .null, .val .null] [(.int p2), (.int (1 : Int32)), (.int (0 : Int32)), .null]))) (fun t k => XS.iloadN X75.here hx rfl (hb hby at_168) rfl k) ?_
      obtain ⟨_, _, ⟨T76, L76, k76, n76⟩, -, X76, ⟨Lc76, hQ76, l76, y76, z76⟩, st76⟩ := Jvm.LawKit.callS X75 hx (y := own_y8) hown (mvT hZ w_36) (mvT hZ w_37) (mvT hZ w_38) (mvT hZ w_39) (by decide) (backOf (W := 0) (own_same0 l Z a0 hw [] (0 : Int32) (1 : Int32) p2 T38.heap n0 (by decide)) hZ w_39 w_38 (by decide) (by decide)) (g := (mkF m 169 #[iv p0, iv p1, iv p2, iv (0 : Int32), iv (1 : Int32), rv a1, rv a4, rv a9, rv a16, rv a25, iv (0 : Int32), .val .null, .val .null, .val .null, .val .null] [(.int p2), (.int (1 : Int32)), (.int (0 : Int32)), .null])) rfl (by rw [hml]; rfl) (argsL := [.null, (.int (0 : Int32)), (.int (1 : Int32)), (.int p2)]) (rest := []) (lenOf own_pd7 rfl) rfl (by show 2 * 0 + _ ≤ _; exact own_b rfl) (hb hby at_169) (fun _ _ => ⟨rfl, e75, (own_b rfl : 6 + 0 ≤ _), (own_b rfl : 9 + 0 ≤ _)⟩)
      dsimp only [Pt.U, Pt.locs, Pt.cells, Pt.slots] at X76 l76 y76 z76 st76 hQ76
      obtain ⟨rfl, Nq76, eq76⟩ := hQ76
      obtain ⟨L76, X76, N76⟩ := own_absC (K := 6) (K' := 9) X76 l76 y76 z76 N75 Nq76
      have e76 : T76.heap = T38.heap := eq76
      refine own_go (B := (T76.setTop (mkF m 172 #[iv p0, iv p1, iv p2, iv (0 : Int32), iv (1 : Int32), rv a1, rv a4, rv a9, rv a16, rv a25, iv (0 : Int32), .val .null, .val .null, .val .null, .val .null] [(.int (1 : Int32))]))) st76 ?_
      have hc172 : ¬ (1 : Int32) = (0 : Int32) := (by decide)
      refine own_ifN X76 hx (hb hby at_172) (pn := 175) rfl hc172 ?_
      refine own_go (B := (T76.setTop (mkF m 177 #[iv p0, iv p1, iv p2, iv (0 : Int32), iv (1 : Int32), rv a1, rv a4, rv a9, rv a16, rv a25, iv (0 : Int32), .val .null, .val .null, .val .null, .val .null] [.null]))) (fun t k => XS.aload X76.here hx rfl (hb hby at_175) rfl rfl k) ?_
      refine own_go (B := (T76.setTop (mkF m 179 #[iv p0, iv p1, iv p2, iv (0 : Int32), iv (1 : Int32), rv a1, rv a4, rv a9, rv a16, rv a25, iv (0 : Int32), .val .null, .val .null, .val .null, .val .null] [(.int (0 : Int32)), .null]))) (fun t k => XS.iload X76.here hx rfl (hb hby at_177) rfl k) ?_
      refine own_go (B := (T76.setTop (mkF m 180 #[iv p0, iv p1, iv p2, iv (0 : Int32), iv (1 : Int32), rv a1, rv a4, rv a9, rv a16, rv a25, iv (0 : Int32), .val .null, .val .null, .val .null, .val .null] [(.int (2 : Int32)), (.int (0 : Int32)), .null]))) (fun t k => own_iconst (v := (2 : Int32)) X76.here hx rfl (hb hby at_179) (by decide) k) ?_
      refine own_go (B := (T76.setTop (mkF m 181 #[iv p0, iv p1, iv p2, iv (0 : Int32), iv (1 : Int32), rv a1, rv a4, rv a9, rv a16, rv a25, iv (0 : Int32), .val .null, .val .null, .val .null, .val .null] [(.int p2), (.int (2 : Int32)), (.int (0 : Int32)), .null]))) (fun t k => XS.iloadN X76.here hx rfl (hb hby at_180) rfl k) ?_
      obtain ⟨_, _, ⟨T77, L77, k77, n77⟩, -, X77, ⟨Lc77, hQ77, l77, y77, z77⟩, st77⟩ := Jvm.LawKit.callS X76 hx (y := own_y8) hown (mvT hZ w_36) (mvT hZ w_37) (mvT hZ w_38) (mvT hZ w_39) (by decide) (backOf (W := 0) (own_same0 l Z a0 hw [] (0 : Int32) (2 : Int32) p2 T38.heap n0 (by decide)) hZ w_39 w_38 (by decide) (by decide)) (g := (mkF m 181 #[iv p0, iv p1, iv p2, iv (0 : Int32), iv (1 : Int32), rv a1, rv a4, rv a9, rv a16, rv a25, iv (0 : Int32), .val .null, .val .null, .val .null, .val .null] [(.int p2), (.int (2 : Int32)), (.int (0 : Int32)), .null])) rfl (by rw [hml]; rfl) (argsL := [.null, (.int (0 : Int32)), (.int (2 : Int32)), (.int p2)]) (rest := []) (lenOf own_pd7 rfl) rfl (by show 2 * 0 + _ ≤ _; exact own_b rfl) (hb hby at_181) (fun _ _ => ⟨rfl, e76, (own_b rfl : 6 + 0 ≤ _), (own_b rfl : 9 + 0 ≤ _)⟩)
      dsimp only [Pt.U, Pt.locs, Pt.cells, Pt.slots] at X77 l77 y77 z77 st77 hQ77
      obtain ⟨rfl, Nq77, eq77⟩ := hQ77
      obtain ⟨L77, X77, N77⟩ := own_absC (K := 6) (K' := 9) X77 l77 y77 z77 N76 Nq77
      have e77 : T77.heap = T38.heap := eq77
      refine own_go (B := (T77.setTop (mkF m 184 #[iv p0, iv p1, iv p2, iv (0 : Int32), iv (1 : Int32), rv a1, rv a4, rv a9, rv a16, rv a25, iv (0 : Int32), .val .null, .val .null, .val .null, .val .null] [(.int (1 : Int32))]))) st77 ?_
      have hc184 : ¬ (1 : Int32) = (0 : Int32) := (by decide)
      refine own_ifN X77 hx (hb hby at_184) (pn := 187) rfl hc184 ?_
      refine own_go (B := (T77.setTop (mkF m 189 #[iv p0, iv p1, iv p2, iv (0 : Int32), iv (1 : Int32), rv a1, rv a4, rv a9, rv a16, rv a25, iv (0 : Int32), .val .null, .val .null, .val .null, .val .null] [.null]))) (fun t k => XS.aload X77.here hx rfl (hb hby at_187) rfl rfl k) ?_
      refine own_go (B := (T77.setTop (mkF m 191 #[iv p0, iv p1, iv p2, iv (0 : Int32), iv (1 : Int32), rv a1, rv a4, rv a9, rv a16, rv a25, iv (0 : Int32), .val .null, .val .null, .val .null, .val .null] [(.int (0 : Int32)), .null]))) (fun t k => XS.iload X77.here hx rfl (hb hby at_189) rfl k) ?_
      refine own_go (B := (T77.setTop (mkF m 192 #[iv p0, iv p1, iv p2, iv (0 : Int32), iv (1 : Int32), rv a1, rv a4, rv a9, rv a16, rv a25, iv (0 : Int32), .val .null, .val .null, .val .null, .val .null] [(.int (3 : Int32)), (.int (0 : Int32)), .null]))) (fun t k => own_iconst (v := (3 : Int32)) X77.here hx rfl (hb hby at_191) (by decide) k) ?_
      refine own_go (B := (T77.setTop (mkF m 193 #[iv p0, iv p1, iv p2, iv (0 : Int32), iv (1 : Int32), rv a1, rv a4, rv a9, rv a16, rv a25, iv (0 : Int32), .val .null, .val .null, .val .null, .val .null] [(.int p2), (.int (3 : Int32)), (.int (0 : Int32)), .null]))) (fun t k => XS.iloadN X77.here hx rfl (hb hby at_192) rfl k) ?_
      obtain ⟨_, _, ⟨T78, L78, k78, n78⟩, -, X78, ⟨Lc78, hQ78, l78, y78, z78⟩, st78⟩ := Jvm.LawKit.callS X77 hx (y := own_y8) hown (mvT hZ w_36) (mvT hZ w_37) (mvT hZ w_38) (mvT hZ w_39) (by decide) (backOf (W := 0) (own_same0 l Z a0 hw [] (0 : Int32) (3 : Int32) p2 T38.heap n0 (by decide)) hZ w_39 w_38 (by decide) (by decide)) (g := (mkF m 193 #[iv p0, iv p1, iv p2, iv (0 : Int32), iv (1 : Int32), rv a1, rv a4, rv a9, rv a16, rv a25, iv (0 : Int32), .val .null, .val .null, .val .null, .val .null] [(.int p2), (.int (3 : Int32)), (.int (0 : Int32)), .null])) rfl (by rw [hml]; rfl) (argsL := [.null, (.int (0 : Int32)), (.int (3 : Int32)), (.int p2)]) (rest := []) (lenOf own_pd7 rfl) rfl (by show 2 * 0 + _ ≤ _; exact own_b rfl) (hb hby at_193) (fun _ _ => ⟨rfl, e77, (own_b rfl : 6 + 0 ≤ _), (own_b rfl : 9 + 0 ≤ _)⟩)
      dsimp only [Pt.U, Pt.locs, Pt.cells, Pt.slots] at X78 l78 y78 z78 st78 hQ78
      obtain ⟨rfl, Nq78, eq78⟩ := hQ78
      obtain ⟨L78, X78, N78⟩ := own_absC (K := 6) (K' := 9) X78 l78 y78 z78 N77 Nq78
      have e78 : T78.heap = T38.heap := eq78
      refine own_go (B := (T78.setTop (mkF m 196 #[iv p0, iv p1, iv p2, iv (0 : Int32), iv (1 : Int32), rv a1, rv a4, rv a9, rv a16, rv a25, iv (0 : Int32), .val .null, .val .null, .val .null, .val .null] [(.int (1 : Int32))]))) st78 ?_
      have hc196 : ¬ (1 : Int32) = (0 : Int32) := (by decide)
      refine own_ifN X78 hx (hb hby at_196) (pn := 199) rfl hc196 ?_
      refine own_go (B := (T78.setTop (mkF m 200 #[iv p0, iv p1, iv p2, iv (0 : Int32), iv (1 : Int32), rv a1, rv a4, rv a9, rv a16, rv a25, iv (0 : Int32), .val .null, .val .null, .val .null, .val .null] [(.int (1 : Int32))]))) (fun t k => own_iconst (v := (1 : Int32)) X78.here hx rfl (hb hby at_199) (by decide) k) ?_
      refine own_go (B := (T78.setTop (mkF m 204 #[iv p0, iv p1, iv p2, iv (0 : Int32), iv (1 : Int32), rv a1, rv a4, rv a9, rv a16, rv a25, iv (0 : Int32), .val .null, .val .null, .val .null, .val .null] [(.int (1 : Int32))]))) (fun t k => XS.goto X78.here hx rfl (pc0 := 200) (pc' := 204) rfl (hb hby at_200) (by decide) (by decide) k) ?_
      exact own_retZ X78 hx hlk Bd.returns (hb hby at_204) (by decide) (own_b rfl) (own_b rfl) (Q := (own_law_Q Z p0 p1 p2 ca h0 n0)) ⟨rfl, N78⟩
    · refine own_go (B := (T38.setTop (mkF m 54 #[iv p0, iv p1, iv p2, iv (0 : Int32), iv (2 : Int32), rv a1, rv a4, rv a9, rv a16, rv a25, .unset, .unset, .unset, .unset, .unset] [(.int (2 : Int32))]))) (fun t k => XS.iload X38.here hx rfl (hb hby at_52) rfl k) ?_
      have hc54 : (0 : Int32) < (2 : Int32) := (by decide)
      refine own_ifN X38 hx (hb hby at_54) (pn := 57) rfl hc54 ?_
      refine own_go (B := (T38.setTop (mkF m 59 #[iv p0, iv p1, iv p2, iv (0 : Int32), iv (2 : Int32), rv a1, rv a4, rv a9, rv a16, rv a25, .unset, .unset, .unset, .unset, .unset] [(.ref a25)]))) (fun t k => XS.aload X38.here hx rfl (hb hby at_57) rfl rfl k) ?_
      refine own_go (B := (T38.setTop (mkF m 61 #[iv p0, iv p1, iv p2, iv (0 : Int32), iv (2 : Int32), rv a1, rv a4, rv a9, rv a16, rv a25, .unset, .unset, .unset, .unset, .unset] [(.ref a1), (.ref a25)]))) (fun t k => XS.aload X38.here hx rfl (hb hby at_59) rfl rfl k) ?_
      obtain ⟨cq79, kq79, qa79, qb79, qc79⟩ := isOf hZ rfl Ex38
      obtain ⟨_, _, ⟨T79, L79, k79, n79⟩, -, X79, ⟨Lc79, hQ79, l79, y79, z79⟩, st79⟩ := X38.virtualBack hx (y := own_y9) (z := own_y9) hown (mvT hZ w_20) (mvT hZ w_21) (notFace_of_selects (args := #[]) (mvT hZ w_23)) (mvT hZ w_23) (mvT hZ w_22) (by decide) (backOf (W := 0) (own_kfull l Z a0 hw [] a25 a1 ar38 (0 : Int32) (0 : Int32) [] T38.heap n0 Ex38 gk38 gc38 Vb (own_lenL (n := 0) rfl (by decide)) (by decide)) hZ w_24 w_9 (by decide) (by decide)) qa79 qc79 (g := (mkF m 61 #[iv p0, iv p1, iv p2, iv (0 : Int32), iv (2 : Int32), rv a1, rv a4, rv a9, rv a16, rv a25, .unset, .unset, .unset, .unset, .unset] [(.ref a1), (.ref a25)])) rfl (by rw [hml]; rfl) (Steps.refl _) (argsL := [(.ref a1)]) (rest := []) (lenOf own_pd8 rfl) rfl (by show 2 * 0 + _ ≤ _; exact own_b rfl) (hb hby at_61) (fun _ _ => ⟨rfl, rfl, (own_b rfl : 6 + 0 ≤ _), (own_b rfl : 9 + 0 ≤ _)⟩)
      dsimp only [Pt.U, Pt.locs, Pt.cells, Pt.slots] at X79 l79 y79 z79 st79 hQ79
      obtain ⟨rfl, Nq79, eq79⟩ := hQ79
      obtain ⟨L79, X79, N79⟩ := own_absC (K := 6) (K' := 9) X79 l79 y79 z79 N38 Nq79
      have e79 : T79.heap = T38.heap := eq79
      refine own_tr (B := (T79.setTop (mkF m 64 #[iv p0, iv p1, iv p2, iv (0 : Int32), iv (2 : Int32), rv a1, rv a4, rv a9, rv a16, rv a25, .unset, .unset, .unset, .unset, .unset] []))) st79 ?_
      refine own_go (B := (T79.setTop (mkF m 66 #[iv p0, iv p1, iv p2, iv (0 : Int32), iv (2 : Int32), rv a1, rv a4, rv a9, rv a16, rv a25, .unset, .unset, .unset, .unset, .unset] [(.int (2 : Int32))]))) (fun t k => XS.iload X79.here hx rfl (hb hby at_64) rfl k) ?_
      refine own_go (B := (T79.setTop (mkF m 67 #[iv p0, iv p1, iv p2, iv (0 : Int32), iv (2 : Int32), rv a1, rv a4, rv a9, rv a16, rv a25, .unset, .unset, .unset, .unset, .unset] [(.int (1 : Int32)), (.int (2 : Int32))]))) (fun t k => own_iconst (v := (1 : Int32)) X79.here hx rfl (hb hby at_66) (by decide) k) ?_
      have hc67 : (1 : Int32) < (2 : Int32) := (by decide)
      refine own_icmpN X79 hx (hb hby at_67) (pn := 70) rfl hc67 ?_
      refine own_go (B := (T79.setTop (mkF m 72 #[iv p0, iv p1, iv p2, iv (0 : Int32), iv (2 : Int32), rv a1, rv a4, rv a9, rv a16, rv a25, .unset, .unset, .unset, .unset, .unset] [(.ref a25)]))) (fun t k => XS.aload X79.here hx rfl (hb hby at_70) rfl rfl k) ?_
      refine own_go (B := (T79.setTop (mkF m 74 #[iv p0, iv p1, iv p2, iv (0 : Int32), iv (2 : Int32), rv a1, rv a4, rv a9, rv a16, rv a25, .unset, .unset, .unset, .unset, .unset] [(.ref a4), (.ref a25)]))) (fun t k => XS.aload X79.here hx rfl (hb hby at_72) rfl rfl k) ?_
      obtain ⟨cq80, kq80, qa80, qb80, qc80⟩ := isOf hZ e79 Ex38
      obtain ⟨_, _, ⟨T80, L80, k80, n80⟩, -, X80, ⟨Lc80, hQ80, l80, y80, z80⟩, st80⟩ := X79.virtualBack hx (y := own_y9) (z := own_y9) hown (mvT hZ w_20) (mvT hZ w_21) (notFace_of_selects (args := #[]) (mvT hZ w_23)) (mvT hZ w_23) (mvT hZ w_22) (by decide) (backOf (W := 0) (own_kfull l Z a0 hw [] a25 a4 ar38 (0 : Int32) (0 : Int32) [] T38.heap n0 Ex38 gk38 gc38 Vb (own_lenL (n := 0) rfl (by decide)) (by decide)) hZ w_24 w_9 (by decide) (by decide)) qa80 qc80 (g := (mkF m 74 #[iv p0, iv p1, iv p2, iv (0 : Int32), iv (2 : Int32), rv a1, rv a4, rv a9, rv a16, rv a25, .unset, .unset, .unset, .unset, .unset] [(.ref a4), (.ref a25)])) rfl (by rw [hml]; rfl) (Steps.refl _) (argsL := [(.ref a4)]) (rest := []) (lenOf own_pd8 rfl) rfl (by show 2 * 0 + _ ≤ _; exact own_b rfl) (hb hby at_74) (fun _ _ => ⟨rfl, e79, (own_b rfl : 6 + 0 ≤ _), (own_b rfl : 9 + 0 ≤ _)⟩)
      dsimp only [Pt.U, Pt.locs, Pt.cells, Pt.slots] at X80 l80 y80 z80 st80 hQ80
      obtain ⟨rfl, Nq80, eq80⟩ := hQ80
      obtain ⟨L80, X80, N80⟩ := own_absC (K := 6) (K' := 9) X80 l80 y80 z80 N79 Nq80
      have e80 : T80.heap = T38.heap := eq80
      refine own_tr (B := (T80.setTop (mkF m 77 #[iv p0, iv p1, iv p2, iv (0 : Int32), iv (2 : Int32), rv a1, rv a4, rv a9, rv a16, rv a25, .unset, .unset, .unset, .unset, .unset] []))) st80 ?_
      refine own_go (B := (T80.setTop (mkF m 79 #[iv p0, iv p1, iv p2, iv (0 : Int32), iv (2 : Int32), rv a1, rv a4, rv a9, rv a16, rv a25, .unset, .unset, .unset, .unset, .unset] [(.int (2 : Int32))]))) (fun t k => XS.iload X80.here hx rfl (hb hby at_77) rfl k) ?_
      refine own_go (B := (T80.setTop (mkF m 80 #[iv p0, iv p1, iv p2, iv (0 : Int32), iv (2 : Int32), rv a1, rv a4, rv a9, rv a16, rv a25, .unset, .unset, .unset, .unset, .unset] [(.int (2 : Int32)), (.int (2 : Int32))]))) (fun t k => own_iconst (v := (2 : Int32)) X80.here hx rfl (hb hby at_79) (by decide) k) ?_
      have hc80 : ¬ (2 : Int32) < (2 : Int32) := (by decide)
      refine own_icmpY X80 hx (hb hby at_80) (pc' := 90) (by decide) (by decide) hc80 ?_
      refine own_go (B := (T80.setTop (mkF m 92 #[iv p0, iv p1, iv p2, iv (0 : Int32), iv (2 : Int32), rv a1, rv a4, rv a9, rv a16, rv a25, .unset, .unset, .unset, .unset, .unset] [(.int (2 : Int32))]))) (fun t k => XS.iload X80.here hx rfl (hb hby at_90) rfl k) ?_
      refine own_go (B := (T80.setTop (mkF m 93 #[iv p0, iv p1, iv p2, iv (0 : Int32), iv (2 : Int32), rv a1, rv a4, rv a9, rv a16, rv a25, .unset, .unset, .unset, .unset, .unset] [(.int (3 : Int32)), (.int (2 : Int32))]))) (fun t k => own_iconst (v := (3 : Int32)) X80.here hx rfl (hb hby at_92) (by decide) k) ?_
      have hc93 : ¬ (3 : Int32) < (2 : Int32) := (by decide)
      refine own_icmpY X80 hx (hb hby at_93) (pc' := 103) (by decide) (by decide) hc93 ?_
      refine own_go (B := (T80.setTop (mkF m 105 #[iv p0, iv p1, iv p2, iv (0 : Int32), iv (2 : Int32), rv a1, rv a4, rv a9, rv a16, rv a25, .unset, .unset, .unset, .unset, .unset] [(.int (2 : Int32))]))) (fun t k => XS.iload X80.here hx rfl (hb hby at_103) rfl k) ?_
      refine own_go (B := (T80.setTop (mkF m 106 #[iv p0, iv p1, iv p2, iv (0 : Int32), iv (2 : Int32), rv a1, rv a4, rv a9, rv a16, rv a25, .unset, .unset, .unset, .unset, .unset] [(.int (0 : Int32)), (.int (2 : Int32))]))) (fun t k => XS.iloadN X80.here hx rfl (hb hby at_105) rfl k) ?_
      obtain ⟨_, _, ⟨T81, L81, k81, n81⟩, -, X81, ⟨Lc81, hQ81, l81, y81, z81⟩, st81⟩ := Jvm.LawKit.callS X80 hx (y := own_y6) hown (mvT hZ w_27) (mvT hZ w_28) (mvT hZ w_29) (mvT hZ w_30) (by decide) (backOf (W := 0) (own_mmin l Z a0 hw [] (2 : Int32) (0 : Int32) T38.heap n0) hZ w_30 w_29 (by decide) (by decide)) (g := (mkF m 106 #[iv p0, iv p1, iv p2, iv (0 : Int32), iv (2 : Int32), rv a1, rv a4, rv a9, rv a16, rv a25, .unset, .unset, .unset, .unset, .unset] [(.int (0 : Int32)), (.int (2 : Int32))])) rfl (by rw [hml]; rfl) (argsL := [(.int (2 : Int32)), (.int (0 : Int32))]) (rest := []) (lenOf own_pd5 rfl) rfl (by show 2 * 0 + _ ≤ _; exact own_b rfl) (hb hby at_106) (fun _ _ => ⟨rfl, e80, (own_b rfl : 6 + 0 ≤ _), (own_b rfl : 9 + 0 ≤ _)⟩)
      dsimp only [Pt.U, Pt.locs, Pt.cells, Pt.slots] at X81 l81 y81 z81 st81 hQ81
      obtain ⟨rfl, Nq81, eq81⟩ := hQ81
      obtain ⟨L81, X81, N81⟩ := own_absC (K := 6) (K' := 9) X81 l81 y81 z81 N80 Nq81
      have e81 : T81.heap = T38.heap := eq81
      refine own_go (B := (T81.setTop (mkF m 109 #[iv p0, iv p1, iv p2, iv (0 : Int32), iv (2 : Int32), rv a1, rv a4, rv a9, rv a16, rv a25, .unset, .unset, .unset, .unset, .unset] [(.int (own_min (2 : Int32) (0 : Int32)))]))) st81 ?_
      rw [show own_min (2 : Int32) (0 : Int32) = (0 : Int32) from by decide]
      refine own_go (B := (T81.setTop (mkF m 111 #[iv p0, iv p1, iv p2, iv (0 : Int32), iv (2 : Int32), rv a1, rv a4, rv a9, rv a16, rv a25, iv (0 : Int32), .unset, .unset, .unset, .unset] []))) (fun t k => XS.istore X81.here hx rfl (hb hby at_109) rfl (l' := #[iv p0, iv p1, iv p2, iv (0 : Int32), iv (2 : Int32), rv a1, rv a4, rv a9, rv a16, rv a25, iv (0 : Int32), .unset, .unset, .unset, .unset]) rfl k) ?_
      refine own_go (B := (T81.setTop (mkF m 113 #[iv p0, iv p1, iv p2, iv (0 : Int32), iv (2 : Int32), rv a1, rv a4, rv a9, rv a16, rv a25, iv (0 : Int32), .unset, .unset, .unset, .unset] [(.ref a25)]))) (fun t k => XS.aload X81.here hx rfl (hb hby at_111) rfl rfl k) ?_
      obtain ⟨cq82, kq82, qa82, qb82, qc82⟩ := isOf hZ e81 Ex38
      obtain ⟨_, _, ⟨T82, L82, k82, n82⟩, -, X82, ⟨Lc82, hQ82, l82, y82, z82⟩, st82⟩ := X81.virtualBack hx (y := own_y7) (z := own_y7) hown (mvT hZ w_31) (mvT hZ w_32) (notFace_of_selects (args := #[]) (mvT hZ w_34)) (mvT hZ w_34) (mvT hZ w_33) (by decide) (backOf (W := 0) (own_tnone l Z a0 hw [] a25 T38.heap n0 gc38) hZ w_35 w_9 (by decide) (by decide)) qa82 qc82 (g := (mkF m 113 #[iv p0, iv p1, iv p2, iv (0 : Int32), iv (2 : Int32), rv a1, rv a4, rv a9, rv a16, rv a25, iv (0 : Int32), .unset, .unset, .unset, .unset] [(.ref a25)])) rfl (by rw [hml]; rfl) (Steps.refl _) (argsL := []) (rest := []) (lenOf own_pd6 rfl) rfl (by show 2 * 0 + _ ≤ _; exact own_b rfl) (hb hby at_113) (fun _ _ => ⟨rfl, e81, (own_b rfl : 6 + 0 ≤ _), (own_b rfl : 9 + 0 ≤ _)⟩)
      dsimp only [Pt.U, Pt.locs, Pt.cells, Pt.slots] at X82 l82 y82 z82 st82 hQ82
      obtain ⟨rfl, Nq82, eq82⟩ := hQ82
      obtain ⟨L82, X82, N82⟩ := own_absC (K := 6) (K' := 9) X82 l82 y82 z82 N81 Nq82
      have e82 : T82.heap = T38.heap := eq82
      refine own_tr (B := (T82.setTop (mkF m 116 #[iv p0, iv p1, iv p2, iv (0 : Int32), iv (2 : Int32), rv a1, rv a4, rv a9, rv a16, rv a25, iv (0 : Int32), .unset, .unset, .unset, .unset] [.null]))) st82 ?_
      refine own_go (B := (T82.setTop (mkF m 119 #[iv p0, iv p1, iv p2, iv (0 : Int32), iv (2 : Int32), rv a1, rv a4, rv a9, rv a16, rv a25, iv (0 : Int32), .unset, .unset, .unset, .unset] [.null]))) (X82.checkcastNull hx (g := (mkF m 116 #[iv p0, iv p1, iv p2, iv (0 : Int32), iv (2 : Int32), rv a1, rv a4, rv a9, rv a16, rv a25, iv (0 : Int32), .unset, .unset, .unset, .unset] [.null])) rfl rfl (hb hby at_116)) ?_
      refine own_go (B := (T82.setTop (mkF m 121 #[iv p0, iv p1, iv p2, iv (0 : Int32), iv (2 : Int32), rv a1, rv a4, rv a9, rv a16, rv a25, iv (0 : Int32), .val .null, .unset, .unset, .unset] []))) (fun t k => XS.astore X82.here hx rfl (hb hby at_119) rfl rfl (l' := #[iv p0, iv p1, iv p2, iv (0 : Int32), iv (2 : Int32), rv a1, rv a4, rv a9, rv a16, rv a25, iv (0 : Int32), .val .null, .unset, .unset, .unset]) rfl k) ?_
      refine own_go (B := (T82.setTop (mkF m 123 #[iv p0, iv p1, iv p2, iv (0 : Int32), iv (2 : Int32), rv a1, rv a4, rv a9, rv a16, rv a25, iv (0 : Int32), .val .null, .unset, .unset, .unset] [(.ref a25)]))) (fun t k => XS.aload X82.here hx rfl (hb hby at_121) rfl rfl k) ?_
      obtain ⟨cq84, kq84, qa84, qb84, qc84⟩ := isOf hZ e82 Ex38
      obtain ⟨_, _, ⟨T84, L84, k84, n84⟩, -, X84, ⟨Lc84, hQ84, l84, y84, z84⟩, st84⟩ := X82.virtualBack hx (y := own_y7) (z := own_y7) hown (mvT hZ w_31) (mvT hZ w_32) (notFace_of_selects (args := #[]) (mvT hZ w_34)) (mvT hZ w_34) (mvT hZ w_33) (by decide) (backOf (W := 0) (own_tnone l Z a0 hw [] a25 T38.heap n0 gc38) hZ w_35 w_9 (by decide) (by decide)) qa84 qc84 (g := (mkF m 123 #[iv p0, iv p1, iv p2, iv (0 : Int32), iv (2 : Int32), rv a1, rv a4, rv a9, rv a16, rv a25, iv (0 : Int32), .val .null, .unset, .unset, .unset] [(.ref a25)])) rfl (by rw [hml]; rfl) (Steps.refl _) (argsL := []) (rest := []) (lenOf own_pd6 rfl) rfl (by show 2 * 0 + _ ≤ _; exact own_b rfl) (hb hby at_123) (fun _ _ => ⟨rfl, e82, (own_b rfl : 6 + 0 ≤ _), (own_b rfl : 9 + 0 ≤ _)⟩)
      dsimp only [Pt.U, Pt.locs, Pt.cells, Pt.slots] at X84 l84 y84 z84 st84 hQ84
      obtain ⟨rfl, Nq84, eq84⟩ := hQ84
      obtain ⟨L84, X84, N84⟩ := own_absC (K := 6) (K' := 9) X84 l84 y84 z84 N82 Nq84
      have e84 : T84.heap = T38.heap := eq84
      refine own_tr (B := (T84.setTop (mkF m 126 #[iv p0, iv p1, iv p2, iv (0 : Int32), iv (2 : Int32), rv a1, rv a4, rv a9, rv a16, rv a25, iv (0 : Int32), .val .null, .unset, .unset, .unset] [.null]))) st84 ?_
      refine own_go (B := (T84.setTop (mkF m 129 #[iv p0, iv p1, iv p2, iv (0 : Int32), iv (2 : Int32), rv a1, rv a4, rv a9, rv a16, rv a25, iv (0 : Int32), .val .null, .unset, .unset, .unset] [.null]))) (X84.checkcastNull hx (g := (mkF m 126 #[iv p0, iv p1, iv p2, iv (0 : Int32), iv (2 : Int32), rv a1, rv a4, rv a9, rv a16, rv a25, iv (0 : Int32), .val .null, .unset, .unset, .unset] [.null])) rfl rfl (hb hby at_126)) ?_
      refine own_go (B := (T84.setTop (mkF m 131 #[iv p0, iv p1, iv p2, iv (0 : Int32), iv (2 : Int32), rv a1, rv a4, rv a9, rv a16, rv a25, iv (0 : Int32), .val .null, .val .null, .unset, .unset] []))) (fun t k => XS.astore X84.here hx rfl (hb hby at_129) rfl rfl (l' := #[iv p0, iv p1, iv p2, iv (0 : Int32), iv (2 : Int32), rv a1, rv a4, rv a9, rv a16, rv a25, iv (0 : Int32), .val .null, .val .null, .unset, .unset]) rfl k) ?_
      refine own_go (B := (T84.setTop (mkF m 133 #[iv p0, iv p1, iv p2, iv (0 : Int32), iv (2 : Int32), rv a1, rv a4, rv a9, rv a16, rv a25, iv (0 : Int32), .val .null, .val .null, .unset, .unset] [(.ref a25)]))) (fun t k => XS.aload X84.here hx rfl (hb hby at_131) rfl rfl k) ?_
      obtain ⟨cq86, kq86, qa86, qb86, qc86⟩ := isOf hZ e84 Ex38
      obtain ⟨_, _, ⟨T86, L86, k86, n86⟩, -, X86, ⟨Lc86, hQ86, l86, y86, z86⟩, st86⟩ := X84.virtualBack hx (y := own_y7) (z := own_y7) hown (mvT hZ w_31) (mvT hZ w_32) (notFace_of_selects (args := #[]) (mvT hZ w_34)) (mvT hZ w_34) (mvT hZ w_33) (by decide) (backOf (W := 0) (own_tnone l Z a0 hw [] a25 T38.heap n0 gc38) hZ w_35 w_9 (by decide) (by decide)) qa86 qc86 (g := (mkF m 133 #[iv p0, iv p1, iv p2, iv (0 : Int32), iv (2 : Int32), rv a1, rv a4, rv a9, rv a16, rv a25, iv (0 : Int32), .val .null, .val .null, .unset, .unset] [(.ref a25)])) rfl (by rw [hml]; rfl) (Steps.refl _) (argsL := []) (rest := []) (lenOf own_pd6 rfl) rfl (by show 2 * 0 + _ ≤ _; exact own_b rfl) (hb hby at_133) (fun _ _ => ⟨rfl, e84, (own_b rfl : 6 + 0 ≤ _), (own_b rfl : 9 + 0 ≤ _)⟩)
      dsimp only [Pt.U, Pt.locs, Pt.cells, Pt.slots] at X86 l86 y86 z86 st86 hQ86
      obtain ⟨rfl, Nq86, eq86⟩ := hQ86
      obtain ⟨L86, X86, N86⟩ := own_absC (K := 6) (K' := 9) X86 l86 y86 z86 N84 Nq86
      have e86 : T86.heap = T38.heap := eq86
      refine own_tr (B := (T86.setTop (mkF m 136 #[iv p0, iv p1, iv p2, iv (0 : Int32), iv (2 : Int32), rv a1, rv a4, rv a9, rv a16, rv a25, iv (0 : Int32), .val .null, .val .null, .unset, .unset] [.null]))) st86 ?_
      refine own_go (B := (T86.setTop (mkF m 139 #[iv p0, iv p1, iv p2, iv (0 : Int32), iv (2 : Int32), rv a1, rv a4, rv a9, rv a16, rv a25, iv (0 : Int32), .val .null, .val .null, .unset, .unset] [.null]))) (X86.checkcastNull hx (g := (mkF m 136 #[iv p0, iv p1, iv p2, iv (0 : Int32), iv (2 : Int32), rv a1, rv a4, rv a9, rv a16, rv a25, iv (0 : Int32), .val .null, .val .null, .unset, .unset] [.null])) rfl rfl (hb hby at_136)) ?_
      refine own_go (B := (T86.setTop (mkF m 141 #[iv p0, iv p1, iv p2, iv (0 : Int32), iv (2 : Int32), rv a1, rv a4, rv a9, rv a16, rv a25, iv (0 : Int32), .val .null, .val .null, .val .null, .unset] []))) (fun t k => XS.astore X86.here hx rfl (hb hby at_139) rfl rfl (l' := #[iv p0, iv p1, iv p2, iv (0 : Int32), iv (2 : Int32), rv a1, rv a4, rv a9, rv a16, rv a25, iv (0 : Int32), .val .null, .val .null, .val .null, .unset]) rfl k) ?_
      refine own_go (B := (T86.setTop (mkF m 143 #[iv p0, iv p1, iv p2, iv (0 : Int32), iv (2 : Int32), rv a1, rv a4, rv a9, rv a16, rv a25, iv (0 : Int32), .val .null, .val .null, .val .null, .unset] [(.ref a25)]))) (fun t k => XS.aload X86.here hx rfl (hb hby at_141) rfl rfl k) ?_
      obtain ⟨cq88, kq88, qa88, qb88, qc88⟩ := isOf hZ e86 Ex38
      obtain ⟨_, _, ⟨T88, L88, k88, n88⟩, -, X88, ⟨Lc88, hQ88, l88, y88, z88⟩, st88⟩ := X86.virtualBack hx (y := own_y7) (z := own_y7) hown (mvT hZ w_31) (mvT hZ w_32) (notFace_of_selects (args := #[]) (mvT hZ w_34)) (mvT hZ w_34) (mvT hZ w_33) (by decide) (backOf (W := 0) (own_tnone l Z a0 hw [] a25 T38.heap n0 gc38) hZ w_35 w_9 (by decide) (by decide)) qa88 qc88 (g := (mkF m 143 #[iv p0, iv p1, iv p2, iv (0 : Int32), iv (2 : Int32), rv a1, rv a4, rv a9, rv a16, rv a25, iv (0 : Int32), .val .null, .val .null, .val .null, .unset] [(.ref a25)])) rfl (by rw [hml]; rfl) (Steps.refl _) (argsL := []) (rest := []) (lenOf own_pd6 rfl) rfl (by show 2 * 0 + _ ≤ _; exact own_b rfl) (hb hby at_143) (fun _ _ => ⟨rfl, e86, (own_b rfl : 6 + 0 ≤ _), (own_b rfl : 9 + 0 ≤ _)⟩)
      dsimp only [Pt.U, Pt.locs, Pt.cells, Pt.slots] at X88 l88 y88 z88 st88 hQ88
      obtain ⟨rfl, Nq88, eq88⟩ := hQ88
      obtain ⟨L88, X88, N88⟩ := own_absC (K := 6) (K' := 9) X88 l88 y88 z88 N86 Nq88
      have e88 : T88.heap = T38.heap := eq88
      refine own_tr (B := (T88.setTop (mkF m 146 #[iv p0, iv p1, iv p2, iv (0 : Int32), iv (2 : Int32), rv a1, rv a4, rv a9, rv a16, rv a25, iv (0 : Int32), .val .null, .val .null, .val .null, .unset] [.null]))) st88 ?_
      refine own_go (B := (T88.setTop (mkF m 149 #[iv p0, iv p1, iv p2, iv (0 : Int32), iv (2 : Int32), rv a1, rv a4, rv a9, rv a16, rv a25, iv (0 : Int32), .val .null, .val .null, .val .null, .unset] [.null]))) (X88.checkcastNull hx (g := (mkF m 146 #[iv p0, iv p1, iv p2, iv (0 : Int32), iv (2 : Int32), rv a1, rv a4, rv a9, rv a16, rv a25, iv (0 : Int32), .val .null, .val .null, .val .null, .unset] [.null])) rfl rfl (hb hby at_146)) ?_
      refine own_go (B := (T88.setTop (mkF m 151 #[iv p0, iv p1, iv p2, iv (0 : Int32), iv (2 : Int32), rv a1, rv a4, rv a9, rv a16, rv a25, iv (0 : Int32), .val .null, .val .null, .val .null, .val .null] []))) (fun t k => XS.astore X88.here hx rfl (hb hby at_149) rfl rfl (l' := #[iv p0, iv p1, iv p2, iv (0 : Int32), iv (2 : Int32), rv a1, rv a4, rv a9, rv a16, rv a25, iv (0 : Int32), .val .null, .val .null, .val .null, .val .null]) rfl k) ?_
      refine own_go (B := (T88.setTop (mkF m 153 #[iv p0, iv p1, iv p2, iv (0 : Int32), iv (2 : Int32), rv a1, rv a4, rv a9, rv a16, rv a25, iv (0 : Int32), .val .null, .val .null, .val .null, .val .null] [.null]))) (fun t k => XS.aload X88.here hx rfl (hb hby at_151) rfl rfl k) ?_
      refine own_go (B := (T88.setTop (mkF m 155 #[iv p0, iv p1, iv p2, iv (0 : Int32), iv (2 : Int32), rv a1, rv a4, rv a9, rv a16, rv a25, iv (0 : Int32), .val .null, .val .null, .val .null, .val .null] [(.int (0 : Int32)), .null]))) (fun t k => XS.iload X88.here hx rfl (hb hby at_153) rfl k) ?_
      refine own_go (B := (T88.setTop (mkF m 156 #[iv p0, iv p1, iv p2, iv (0 : Int32), iv (2 : Int32), rv a1, rv a4, rv a9, rv a16, rv a25, iv (0 : Int32), .val .null, .val .null, .val .null, .val .null] [(.int (0 : Int32)), (.int (0 : Int32)), .null]))) (fun t k => own_iconst (v := (0 : Int32)) X88.here hx rfl (hb hby at_155) (by decide) k) ?_
      refine own_go (B := (T88.setTop (mkF m 157 #[iv p0, iv p1, iv p2, iv (0 : Int32), iv (2 : Int32), rv a1, rv a4, rv a9, rv a16, rv a25, iv (0 : Int32), .val .null, .val .null, .val .null, .val .null] [(.int p2), (.int (0 : Int32)), (.int (0 : Int32)), .null]))) (fun t k => XS.iloadN X88.here hx rfl (hb hby at_156) rfl k) ?_
      obtain ⟨_, _, ⟨T90, L90, k90, n90⟩, -, X90, ⟨Lc90, hQ90, l90, y90, z90⟩, st90⟩ := Jvm.LawKit.callS X88 hx (y := own_y8) hown (mvT hZ w_36) (mvT hZ w_37) (mvT hZ w_38) (mvT hZ w_39) (by decide) (backOf (W := 0) (own_same0 l Z a0 hw [] (0 : Int32) (0 : Int32) p2 T38.heap n0 (by decide)) hZ w_39 w_38 (by decide) (by decide)) (g := (mkF m 157 #[iv p0, iv p1, iv p2, iv (0 : Int32), iv (2 : Int32), rv a1, rv a4, rv a9, rv a16, rv a25, iv (0 : Int32), .val .null, .val .null, .val .null, .val .null] [(.int p2), (.int (0 : Int32)), (.int (0 : Int32)), .null])) rfl (by rw [hml]; rfl) (argsL := [.null, (.int (0 : Int32)), (.int (0 : Int32)), (.int p2)]) (rest := []) (lenOf own_pd7 rfl) rfl (by show 2 * 0 + _ ≤ _; exact own_b rfl) (hb hby at_157) (fun _ _ => ⟨rfl, e88, (own_b rfl : 6 + 0 ≤ _), (own_b rfl : 9 + 0 ≤ _)⟩)
      dsimp only [Pt.U, Pt.locs, Pt.cells, Pt.slots] at X90 l90 y90 z90 st90 hQ90
      obtain ⟨rfl, Nq90, eq90⟩ := hQ90
      obtain ⟨L90, X90, N90⟩ := own_absC (K := 6) (K' := 9) X90 l90 y90 z90 N88 Nq90
      have e90 : T90.heap = T38.heap := eq90
      refine own_go (B := (T90.setTop (mkF m 160 #[iv p0, iv p1, iv p2, iv (0 : Int32), iv (2 : Int32), rv a1, rv a4, rv a9, rv a16, rv a25, iv (0 : Int32), .val .null, .val .null, .val .null, .val .null] [(.int (1 : Int32))]))) st90 ?_
      have hc160 : ¬ (1 : Int32) = (0 : Int32) := (by decide)
      refine own_ifN X90 hx (hb hby at_160) (pn := 163) rfl hc160 ?_
      refine own_go (B := (T90.setTop (mkF m 165 #[iv p0, iv p1, iv p2, iv (0 : Int32), iv (2 : Int32), rv a1, rv a4, rv a9, rv a16, rv a25, iv (0 : Int32), .val .null, .val .null, .val .null, .val .null] [.null]))) (fun t k => XS.aload X90.here hx rfl (hb hby at_163) rfl rfl k) ?_
      refine own_go (B := (T90.setTop (mkF m 167 #[iv p0, iv p1, iv p2, iv (0 : Int32), iv (2 : Int32), rv a1, rv a4, rv a9, rv a16, rv a25, iv (0 : Int32), .val .null, .val .null, .val .null, .val .null] [(.int (0 : Int32)), .null]))) (fun t k => XS.iload X90.here hx rfl (hb hby at_165) rfl k) ?_
      refine own_go (B := (T90.setTop (mkF m 168 #[iv p0, iv p1, iv p2, iv (0 : Int32), iv (2 : Int32), rv a1, rv a4, rv a9, rv a16, rv a25, iv (0 : Int32), .val .null, .val .null, .val .null, .val .null] [(.int (1 : Int32)), (.int (0 : Int32)), .null]))) (fun t k => own_iconst (v := (1 : Int32)) X90.here hx rfl (hb hby at_167) (by decide) k) ?_
      refine own_go (B := (T90.setTop (mkF m 169 #[iv p0, iv p1, iv p2, iv (0 : Int32), iv (2 : Int32), rv a1, rv a4, rv a9, rv a16, rv a25, iv (0 : Int32), .val .null, .val .null, .val .null, .val .null] [(.int p2), (.int (1 : Int32)), (.int (0 : Int32)), .null]))) (fun t k => XS.iloadN X90.here hx rfl (hb hby at_168) rfl k) ?_
      obtain ⟨_, _, ⟨T91, L91, k91, n91⟩, -, X91, ⟨Lc91, hQ91, l91, y91, z91⟩, st91⟩ := Jvm.LawKit.callS X90 hx (y := own_y8) hown (mvT hZ w_36) (mvT hZ w_37) (mvT hZ w_38) (mvT hZ w_39) (by decide) (backOf (W := 0) (own_same0 l Z a0 hw [] (0 : Int32) (1 : Int32) p2 T38.heap n0 (by decide)) hZ w_39 w_38 (by decide) (by decide)) (g := (mkF m 169 #[iv p0, iv p1, iv p2, iv (0 : Int32), iv (2 : Int32), rv a1, rv a4, rv a9, rv a16, rv a25, iv (0 : Int32), .val .null, .val .null, .val .null, .val .null] [(.int p2), (.int (1 : Int32)), (.int (0 : Int32)), .null])) rfl (by rw [hml]; rfl) (argsL := [.null, (.int (0 : Int32)), (.int (1 : Int32)), (.int p2)]) (rest := []) (lenOf own_pd7 rfl) rfl (by show 2 * 0 + _ ≤ _; exact own_b rfl) (hb hby at_169) (fun _ _ => ⟨rfl, e90, (own_b rfl : 6 + 0 ≤ _), (own_b rfl : 9 + 0 ≤ _)⟩)
      dsimp only [Pt.U, Pt.locs, Pt.cells, Pt.slots] at X91 l91 y91 z91 st91 hQ91
      obtain ⟨rfl, Nq91, eq91⟩ := hQ91
      obtain ⟨L91, X91, N91⟩ := own_absC (K := 6) (K' := 9) X91 l91 y91 z91 N90 Nq91
      have e91 : T91.heap = T38.heap := eq91
      refine own_go (B := (T91.setTop (mkF m 172 #[iv p0, iv p1, iv p2, iv (0 : Int32), iv (2 : Int32), rv a1, rv a4, rv a9, rv a16, rv a25, iv (0 : Int32), .val .null, .val .null, .val .null, .val .null] [(.int (1 : Int32))]))) st91 ?_
      have hc172 : ¬ (1 : Int32) = (0 : Int32) := (by decide)
      refine own_ifN X91 hx (hb hby at_172) (pn := 175) rfl hc172 ?_
      refine own_go (B := (T91.setTop (mkF m 177 #[iv p0, iv p1, iv p2, iv (0 : Int32), iv (2 : Int32), rv a1, rv a4, rv a9, rv a16, rv a25, iv (0 : Int32), .val .null, .val .null, .val .null, .val .null] [.null]))) (fun t k => XS.aload X91.here hx rfl (hb hby at_175) rfl rfl k) ?_
      refine own_go (B := (T91.setTop (mkF m 179 #[iv p0, iv p1, iv p2, iv (0 : Int32), iv (2 : Int32), rv a1, rv a4, rv a9, rv a16, rv a25, iv (0 : Int32), .val .null, .val .null, .val .null, .val .null] [(.int (0 : Int32)), .null]))) (fun t k => XS.iload X91.here hx rfl (hb hby at_177) rfl k) ?_
      refine own_go (B := (T91.setTop (mkF m 180 #[iv p0, iv p1, iv p2, iv (0 : Int32), iv (2 : Int32), rv a1, rv a4, rv a9, rv a16, rv a25, iv (0 : Int32), .val .null, .val .null, .val .null, .val .null] [(.int (2 : Int32)), (.int (0 : Int32)), .null]))) (fun t k => own_iconst (v := (2 : Int32)) X91.here hx rfl (hb hby at_179) (by decide) k) ?_
      refine own_go (B := (T91.setTop (mkF m 181 #[iv p0, iv p1, iv p2, iv (0 : Int32), iv (2 : Int32), rv a1, rv a4, rv a9, rv a16, rv a25, iv (0 : Int32), .val .null, .val .null, .val .null, .val .null] [(.int p2), (.int (2 : Int32)), (.int (0 : Int32)), .null]))) (fun t k => XS.iloadN X91.here hx rfl (hb hby at_180) rfl k) ?_
      obtain ⟨_, _, ⟨T92, L92, k92, n92⟩, -, X92, ⟨Lc92, hQ92, l92, y92, z92⟩, st92⟩ := Jvm.LawKit.callS X91 hx (y := own_y8) hown (mvT hZ w_36) (mvT hZ w_37) (mvT hZ w_38) (mvT hZ w_39) (by decide) (backOf (W := 0) (own_same0 l Z a0 hw [] (0 : Int32) (2 : Int32) p2 T38.heap n0 (by decide)) hZ w_39 w_38 (by decide) (by decide)) (g := (mkF m 181 #[iv p0, iv p1, iv p2, iv (0 : Int32), iv (2 : Int32), rv a1, rv a4, rv a9, rv a16, rv a25, iv (0 : Int32), .val .null, .val .null, .val .null, .val .null] [(.int p2), (.int (2 : Int32)), (.int (0 : Int32)), .null])) rfl (by rw [hml]; rfl) (argsL := [.null, (.int (0 : Int32)), (.int (2 : Int32)), (.int p2)]) (rest := []) (lenOf own_pd7 rfl) rfl (by show 2 * 0 + _ ≤ _; exact own_b rfl) (hb hby at_181) (fun _ _ => ⟨rfl, e91, (own_b rfl : 6 + 0 ≤ _), (own_b rfl : 9 + 0 ≤ _)⟩)
      dsimp only [Pt.U, Pt.locs, Pt.cells, Pt.slots] at X92 l92 y92 z92 st92 hQ92
      obtain ⟨rfl, Nq92, eq92⟩ := hQ92
      obtain ⟨L92, X92, N92⟩ := own_absC (K := 6) (K' := 9) X92 l92 y92 z92 N91 Nq92
      have e92 : T92.heap = T38.heap := eq92
      refine own_go (B := (T92.setTop (mkF m 184 #[iv p0, iv p1, iv p2, iv (0 : Int32), iv (2 : Int32), rv a1, rv a4, rv a9, rv a16, rv a25, iv (0 : Int32), .val .null, .val .null, .val .null, .val .null] [(.int (1 : Int32))]))) st92 ?_
      have hc184 : ¬ (1 : Int32) = (0 : Int32) := (by decide)
      refine own_ifN X92 hx (hb hby at_184) (pn := 187) rfl hc184 ?_
      refine own_go (B := (T92.setTop (mkF m 189 #[iv p0, iv p1, iv p2, iv (0 : Int32), iv (2 : Int32), rv a1, rv a4, rv a9, rv a16, rv a25, iv (0 : Int32), .val .null, .val .null, .val .null, .val .null] [.null]))) (fun t k => XS.aload X92.here hx rfl (hb hby at_187) rfl rfl k) ?_
      refine own_go (B := (T92.setTop (mkF m 191 #[iv p0, iv p1, iv p2, iv (0 : Int32), iv (2 : Int32), rv a1, rv a4, rv a9, rv a16, rv a25, iv (0 : Int32), .val .null, .val .null, .val .null, .val .null] [(.int (0 : Int32)), .null]))) (fun t k => XS.iload X92.here hx rfl (hb hby at_189) rfl k) ?_
      refine own_go (B := (T92.setTop (mkF m 192 #[iv p0, iv p1, iv p2, iv (0 : Int32), iv (2 : Int32), rv a1, rv a4, rv a9, rv a16, rv a25, iv (0 : Int32), .val .null, .val .null, .val .null, .val .null] [(.int (3 : Int32)), (.int (0 : Int32)), .null]))) (fun t k => own_iconst (v := (3 : Int32)) X92.here hx rfl (hb hby at_191) (by decide) k) ?_
      refine own_go (B := (T92.setTop (mkF m 193 #[iv p0, iv p1, iv p2, iv (0 : Int32), iv (2 : Int32), rv a1, rv a4, rv a9, rv a16, rv a25, iv (0 : Int32), .val .null, .val .null, .val .null, .val .null] [(.int p2), (.int (3 : Int32)), (.int (0 : Int32)), .null]))) (fun t k => XS.iloadN X92.here hx rfl (hb hby at_192) rfl k) ?_
      obtain ⟨_, _, ⟨T93, L93, k93, n93⟩, -, X93, ⟨Lc93, hQ93, l93, y93, z93⟩, st93⟩ := Jvm.LawKit.callS X92 hx (y := own_y8) hown (mvT hZ w_36) (mvT hZ w_37) (mvT hZ w_38) (mvT hZ w_39) (by decide) (backOf (W := 0) (own_same0 l Z a0 hw [] (0 : Int32) (3 : Int32) p2 T38.heap n0 (by decide)) hZ w_39 w_38 (by decide) (by decide)) (g := (mkF m 193 #[iv p0, iv p1, iv p2, iv (0 : Int32), iv (2 : Int32), rv a1, rv a4, rv a9, rv a16, rv a25, iv (0 : Int32), .val .null, .val .null, .val .null, .val .null] [(.int p2), (.int (3 : Int32)), (.int (0 : Int32)), .null])) rfl (by rw [hml]; rfl) (argsL := [.null, (.int (0 : Int32)), (.int (3 : Int32)), (.int p2)]) (rest := []) (lenOf own_pd7 rfl) rfl (by show 2 * 0 + _ ≤ _; exact own_b rfl) (hb hby at_193) (fun _ _ => ⟨rfl, e92, (own_b rfl : 6 + 0 ≤ _), (own_b rfl : 9 + 0 ≤ _)⟩)
      dsimp only [Pt.U, Pt.locs, Pt.cells, Pt.slots] at X93 l93 y93 z93 st93 hQ93
      obtain ⟨rfl, Nq93, eq93⟩ := hQ93
      obtain ⟨L93, X93, N93⟩ := own_absC (K := 6) (K' := 9) X93 l93 y93 z93 N92 Nq93
      have e93 : T93.heap = T38.heap := eq93
      refine own_go (B := (T93.setTop (mkF m 196 #[iv p0, iv p1, iv p2, iv (0 : Int32), iv (2 : Int32), rv a1, rv a4, rv a9, rv a16, rv a25, iv (0 : Int32), .val .null, .val .null, .val .null, .val .null] [(.int (1 : Int32))]))) st93 ?_
      have hc196 : ¬ (1 : Int32) = (0 : Int32) := (by decide)
      refine own_ifN X93 hx (hb hby at_196) (pn := 199) rfl hc196 ?_
      refine own_go (B := (T93.setTop (mkF m 200 #[iv p0, iv p1, iv p2, iv (0 : Int32), iv (2 : Int32), rv a1, rv a4, rv a9, rv a16, rv a25, iv (0 : Int32), .val .null, .val .null, .val .null, .val .null] [(.int (1 : Int32))]))) (fun t k => own_iconst (v := (1 : Int32)) X93.here hx rfl (hb hby at_199) (by decide) k) ?_
      refine own_go (B := (T93.setTop (mkF m 204 #[iv p0, iv p1, iv p2, iv (0 : Int32), iv (2 : Int32), rv a1, rv a4, rv a9, rv a16, rv a25, iv (0 : Int32), .val .null, .val .null, .val .null, .val .null] [(.int (1 : Int32))]))) (fun t k => XS.goto X93.here hx rfl (pc0 := 200) (pc' := 204) rfl (hb hby at_200) (by decide) (by decide) k) ?_
      exact own_retZ X93 hx hlk Bd.returns (hb hby at_204) (by decide) (own_b rfl) (own_b rfl) (Q := (own_law_Q Z p0 p1 p2 ca h0 n0)) ⟨rfl, N93⟩
    · refine own_go (B := (T38.setTop (mkF m 54 #[iv p0, iv p1, iv p2, iv (0 : Int32), iv (3 : Int32), rv a1, rv a4, rv a9, rv a16, rv a25, .unset, .unset, .unset, .unset, .unset] [(.int (3 : Int32))]))) (fun t k => XS.iload X38.here hx rfl (hb hby at_52) rfl k) ?_
      have hc54 : (0 : Int32) < (3 : Int32) := (by decide)
      refine own_ifN X38 hx (hb hby at_54) (pn := 57) rfl hc54 ?_
      refine own_go (B := (T38.setTop (mkF m 59 #[iv p0, iv p1, iv p2, iv (0 : Int32), iv (3 : Int32), rv a1, rv a4, rv a9, rv a16, rv a25, .unset, .unset, .unset, .unset, .unset] [(.ref a25)]))) (fun t k => XS.aload X38.here hx rfl (hb hby at_57) rfl rfl k) ?_
      refine own_go (B := (T38.setTop (mkF m 61 #[iv p0, iv p1, iv p2, iv (0 : Int32), iv (3 : Int32), rv a1, rv a4, rv a9, rv a16, rv a25, .unset, .unset, .unset, .unset, .unset] [(.ref a1), (.ref a25)]))) (fun t k => XS.aload X38.here hx rfl (hb hby at_59) rfl rfl k) ?_
      obtain ⟨cq94, kq94, qa94, qb94, qc94⟩ := isOf hZ rfl Ex38
      obtain ⟨_, _, ⟨T94, L94, k94, n94⟩, -, X94, ⟨Lc94, hQ94, l94, y94, z94⟩, st94⟩ := X38.virtualBack hx (y := own_y9) (z := own_y9) hown (mvT hZ w_20) (mvT hZ w_21) (notFace_of_selects (args := #[]) (mvT hZ w_23)) (mvT hZ w_23) (mvT hZ w_22) (by decide) (backOf (W := 0) (own_kfull l Z a0 hw [] a25 a1 ar38 (0 : Int32) (0 : Int32) [] T38.heap n0 Ex38 gk38 gc38 Vb (own_lenL (n := 0) rfl (by decide)) (by decide)) hZ w_24 w_9 (by decide) (by decide)) qa94 qc94 (g := (mkF m 61 #[iv p0, iv p1, iv p2, iv (0 : Int32), iv (3 : Int32), rv a1, rv a4, rv a9, rv a16, rv a25, .unset, .unset, .unset, .unset, .unset] [(.ref a1), (.ref a25)])) rfl (by rw [hml]; rfl) (Steps.refl _) (argsL := [(.ref a1)]) (rest := []) (lenOf own_pd8 rfl) rfl (by show 2 * 0 + _ ≤ _; exact own_b rfl) (hb hby at_61) (fun _ _ => ⟨rfl, rfl, (own_b rfl : 6 + 0 ≤ _), (own_b rfl : 9 + 0 ≤ _)⟩)
      dsimp only [Pt.U, Pt.locs, Pt.cells, Pt.slots] at X94 l94 y94 z94 st94 hQ94
      obtain ⟨rfl, Nq94, eq94⟩ := hQ94
      obtain ⟨L94, X94, N94⟩ := own_absC (K := 6) (K' := 9) X94 l94 y94 z94 N38 Nq94
      have e94 : T94.heap = T38.heap := eq94
      refine own_tr (B := (T94.setTop (mkF m 64 #[iv p0, iv p1, iv p2, iv (0 : Int32), iv (3 : Int32), rv a1, rv a4, rv a9, rv a16, rv a25, .unset, .unset, .unset, .unset, .unset] []))) st94 ?_
      refine own_go (B := (T94.setTop (mkF m 66 #[iv p0, iv p1, iv p2, iv (0 : Int32), iv (3 : Int32), rv a1, rv a4, rv a9, rv a16, rv a25, .unset, .unset, .unset, .unset, .unset] [(.int (3 : Int32))]))) (fun t k => XS.iload X94.here hx rfl (hb hby at_64) rfl k) ?_
      refine own_go (B := (T94.setTop (mkF m 67 #[iv p0, iv p1, iv p2, iv (0 : Int32), iv (3 : Int32), rv a1, rv a4, rv a9, rv a16, rv a25, .unset, .unset, .unset, .unset, .unset] [(.int (1 : Int32)), (.int (3 : Int32))]))) (fun t k => own_iconst (v := (1 : Int32)) X94.here hx rfl (hb hby at_66) (by decide) k) ?_
      have hc67 : (1 : Int32) < (3 : Int32) := (by decide)
      refine own_icmpN X94 hx (hb hby at_67) (pn := 70) rfl hc67 ?_
      refine own_go (B := (T94.setTop (mkF m 72 #[iv p0, iv p1, iv p2, iv (0 : Int32), iv (3 : Int32), rv a1, rv a4, rv a9, rv a16, rv a25, .unset, .unset, .unset, .unset, .unset] [(.ref a25)]))) (fun t k => XS.aload X94.here hx rfl (hb hby at_70) rfl rfl k) ?_
      refine own_go (B := (T94.setTop (mkF m 74 #[iv p0, iv p1, iv p2, iv (0 : Int32), iv (3 : Int32), rv a1, rv a4, rv a9, rv a16, rv a25, .unset, .unset, .unset, .unset, .unset] [(.ref a4), (.ref a25)]))) (fun t k => XS.aload X94.here hx rfl (hb hby at_72) rfl rfl k) ?_
      obtain ⟨cq95, kq95, qa95, qb95, qc95⟩ := isOf hZ e94 Ex38
      obtain ⟨_, _, ⟨T95, L95, k95, n95⟩, -, X95, ⟨Lc95, hQ95, l95, y95, z95⟩, st95⟩ := X94.virtualBack hx (y := own_y9) (z := own_y9) hown (mvT hZ w_20) (mvT hZ w_21) (notFace_of_selects (args := #[]) (mvT hZ w_23)) (mvT hZ w_23) (mvT hZ w_22) (by decide) (backOf (W := 0) (own_kfull l Z a0 hw [] a25 a4 ar38 (0 : Int32) (0 : Int32) [] T38.heap n0 Ex38 gk38 gc38 Vb (own_lenL (n := 0) rfl (by decide)) (by decide)) hZ w_24 w_9 (by decide) (by decide)) qa95 qc95 (g := (mkF m 74 #[iv p0, iv p1, iv p2, iv (0 : Int32), iv (3 : Int32), rv a1, rv a4, rv a9, rv a16, rv a25, .unset, .unset, .unset, .unset, .unset] [(.ref a4), (.ref a25)])) rfl (by rw [hml]; rfl) (Steps.refl _) (argsL := [(.ref a4)]) (rest := []) (lenOf own_pd8 rfl) rfl (by show 2 * 0 + _ ≤ _; exact own_b rfl) (hb hby at_74) (fun _ _ => ⟨rfl, e94, (own_b rfl : 6 + 0 ≤ _), (own_b rfl : 9 + 0 ≤ _)⟩)
      dsimp only [Pt.U, Pt.locs, Pt.cells, Pt.slots] at X95 l95 y95 z95 st95 hQ95
      obtain ⟨rfl, Nq95, eq95⟩ := hQ95
      obtain ⟨L95, X95, N95⟩ := own_absC (K := 6) (K' := 9) X95 l95 y95 z95 N94 Nq95
      have e95 : T95.heap = T38.heap := eq95
      refine own_tr (B := (T95.setTop (mkF m 77 #[iv p0, iv p1, iv p2, iv (0 : Int32), iv (3 : Int32), rv a1, rv a4, rv a9, rv a16, rv a25, .unset, .unset, .unset, .unset, .unset] []))) st95 ?_
      refine own_go (B := (T95.setTop (mkF m 79 #[iv p0, iv p1, iv p2, iv (0 : Int32), iv (3 : Int32), rv a1, rv a4, rv a9, rv a16, rv a25, .unset, .unset, .unset, .unset, .unset] [(.int (3 : Int32))]))) (fun t k => XS.iload X95.here hx rfl (hb hby at_77) rfl k) ?_
      refine own_go (B := (T95.setTop (mkF m 80 #[iv p0, iv p1, iv p2, iv (0 : Int32), iv (3 : Int32), rv a1, rv a4, rv a9, rv a16, rv a25, .unset, .unset, .unset, .unset, .unset] [(.int (2 : Int32)), (.int (3 : Int32))]))) (fun t k => own_iconst (v := (2 : Int32)) X95.here hx rfl (hb hby at_79) (by decide) k) ?_
      have hc80 : (2 : Int32) < (3 : Int32) := (by decide)
      refine own_icmpN X95 hx (hb hby at_80) (pn := 83) rfl hc80 ?_
      refine own_go (B := (T95.setTop (mkF m 85 #[iv p0, iv p1, iv p2, iv (0 : Int32), iv (3 : Int32), rv a1, rv a4, rv a9, rv a16, rv a25, .unset, .unset, .unset, .unset, .unset] [(.ref a25)]))) (fun t k => XS.aload X95.here hx rfl (hb hby at_83) rfl rfl k) ?_
      refine own_go (B := (T95.setTop (mkF m 87 #[iv p0, iv p1, iv p2, iv (0 : Int32), iv (3 : Int32), rv a1, rv a4, rv a9, rv a16, rv a25, .unset, .unset, .unset, .unset, .unset] [(.ref a9), (.ref a25)]))) (fun t k => XS.aload X95.here hx rfl (hb hby at_85) rfl rfl k) ?_
      obtain ⟨cq96, kq96, qa96, qb96, qc96⟩ := isOf hZ e95 Ex38
      obtain ⟨_, _, ⟨T96, L96, k96, n96⟩, -, X96, ⟨Lc96, hQ96, l96, y96, z96⟩, st96⟩ := X95.virtualBack hx (y := own_y9) (z := own_y9) hown (mvT hZ w_20) (mvT hZ w_21) (notFace_of_selects (args := #[]) (mvT hZ w_23)) (mvT hZ w_23) (mvT hZ w_22) (by decide) (backOf (W := 0) (own_kfull l Z a0 hw [] a25 a9 ar38 (0 : Int32) (0 : Int32) [] T38.heap n0 Ex38 gk38 gc38 Vb (own_lenL (n := 0) rfl (by decide)) (by decide)) hZ w_24 w_9 (by decide) (by decide)) qa96 qc96 (g := (mkF m 87 #[iv p0, iv p1, iv p2, iv (0 : Int32), iv (3 : Int32), rv a1, rv a4, rv a9, rv a16, rv a25, .unset, .unset, .unset, .unset, .unset] [(.ref a9), (.ref a25)])) rfl (by rw [hml]; rfl) (Steps.refl _) (argsL := [(.ref a9)]) (rest := []) (lenOf own_pd8 rfl) rfl (by show 2 * 0 + _ ≤ _; exact own_b rfl) (hb hby at_87) (fun _ _ => ⟨rfl, e95, (own_b rfl : 6 + 0 ≤ _), (own_b rfl : 9 + 0 ≤ _)⟩)
      dsimp only [Pt.U, Pt.locs, Pt.cells, Pt.slots] at X96 l96 y96 z96 st96 hQ96
      obtain ⟨rfl, Nq96, eq96⟩ := hQ96
      obtain ⟨L96, X96, N96⟩ := own_absC (K := 6) (K' := 9) X96 l96 y96 z96 N95 Nq96
      have e96 : T96.heap = T38.heap := eq96
      refine own_tr (B := (T96.setTop (mkF m 90 #[iv p0, iv p1, iv p2, iv (0 : Int32), iv (3 : Int32), rv a1, rv a4, rv a9, rv a16, rv a25, .unset, .unset, .unset, .unset, .unset] []))) st96 ?_
      refine own_go (B := (T96.setTop (mkF m 92 #[iv p0, iv p1, iv p2, iv (0 : Int32), iv (3 : Int32), rv a1, rv a4, rv a9, rv a16, rv a25, .unset, .unset, .unset, .unset, .unset] [(.int (3 : Int32))]))) (fun t k => XS.iload X96.here hx rfl (hb hby at_90) rfl k) ?_
      refine own_go (B := (T96.setTop (mkF m 93 #[iv p0, iv p1, iv p2, iv (0 : Int32), iv (3 : Int32), rv a1, rv a4, rv a9, rv a16, rv a25, .unset, .unset, .unset, .unset, .unset] [(.int (3 : Int32)), (.int (3 : Int32))]))) (fun t k => own_iconst (v := (3 : Int32)) X96.here hx rfl (hb hby at_92) (by decide) k) ?_
      have hc93 : ¬ (3 : Int32) < (3 : Int32) := (by decide)
      refine own_icmpY X96 hx (hb hby at_93) (pc' := 103) (by decide) (by decide) hc93 ?_
      refine own_go (B := (T96.setTop (mkF m 105 #[iv p0, iv p1, iv p2, iv (0 : Int32), iv (3 : Int32), rv a1, rv a4, rv a9, rv a16, rv a25, .unset, .unset, .unset, .unset, .unset] [(.int (3 : Int32))]))) (fun t k => XS.iload X96.here hx rfl (hb hby at_103) rfl k) ?_
      refine own_go (B := (T96.setTop (mkF m 106 #[iv p0, iv p1, iv p2, iv (0 : Int32), iv (3 : Int32), rv a1, rv a4, rv a9, rv a16, rv a25, .unset, .unset, .unset, .unset, .unset] [(.int (0 : Int32)), (.int (3 : Int32))]))) (fun t k => XS.iloadN X96.here hx rfl (hb hby at_105) rfl k) ?_
      obtain ⟨_, _, ⟨T97, L97, k97, n97⟩, -, X97, ⟨Lc97, hQ97, l97, y97, z97⟩, st97⟩ := Jvm.LawKit.callS X96 hx (y := own_y6) hown (mvT hZ w_27) (mvT hZ w_28) (mvT hZ w_29) (mvT hZ w_30) (by decide) (backOf (W := 0) (own_mmin l Z a0 hw [] (3 : Int32) (0 : Int32) T38.heap n0) hZ w_30 w_29 (by decide) (by decide)) (g := (mkF m 106 #[iv p0, iv p1, iv p2, iv (0 : Int32), iv (3 : Int32), rv a1, rv a4, rv a9, rv a16, rv a25, .unset, .unset, .unset, .unset, .unset] [(.int (0 : Int32)), (.int (3 : Int32))])) rfl (by rw [hml]; rfl) (argsL := [(.int (3 : Int32)), (.int (0 : Int32))]) (rest := []) (lenOf own_pd5 rfl) rfl (by show 2 * 0 + _ ≤ _; exact own_b rfl) (hb hby at_106) (fun _ _ => ⟨rfl, e96, (own_b rfl : 6 + 0 ≤ _), (own_b rfl : 9 + 0 ≤ _)⟩)
      dsimp only [Pt.U, Pt.locs, Pt.cells, Pt.slots] at X97 l97 y97 z97 st97 hQ97
      obtain ⟨rfl, Nq97, eq97⟩ := hQ97
      obtain ⟨L97, X97, N97⟩ := own_absC (K := 6) (K' := 9) X97 l97 y97 z97 N96 Nq97
      have e97 : T97.heap = T38.heap := eq97
      refine own_go (B := (T97.setTop (mkF m 109 #[iv p0, iv p1, iv p2, iv (0 : Int32), iv (3 : Int32), rv a1, rv a4, rv a9, rv a16, rv a25, .unset, .unset, .unset, .unset, .unset] [(.int (own_min (3 : Int32) (0 : Int32)))]))) st97 ?_
      rw [show own_min (3 : Int32) (0 : Int32) = (0 : Int32) from by decide]
      refine own_go (B := (T97.setTop (mkF m 111 #[iv p0, iv p1, iv p2, iv (0 : Int32), iv (3 : Int32), rv a1, rv a4, rv a9, rv a16, rv a25, iv (0 : Int32), .unset, .unset, .unset, .unset] []))) (fun t k => XS.istore X97.here hx rfl (hb hby at_109) rfl (l' := #[iv p0, iv p1, iv p2, iv (0 : Int32), iv (3 : Int32), rv a1, rv a4, rv a9, rv a16, rv a25, iv (0 : Int32), .unset, .unset, .unset, .unset]) rfl k) ?_
      refine own_go (B := (T97.setTop (mkF m 113 #[iv p0, iv p1, iv p2, iv (0 : Int32), iv (3 : Int32), rv a1, rv a4, rv a9, rv a16, rv a25, iv (0 : Int32), .unset, .unset, .unset, .unset] [(.ref a25)]))) (fun t k => XS.aload X97.here hx rfl (hb hby at_111) rfl rfl k) ?_
      obtain ⟨cq98, kq98, qa98, qb98, qc98⟩ := isOf hZ e97 Ex38
      obtain ⟨_, _, ⟨T98, L98, k98, n98⟩, -, X98, ⟨Lc98, hQ98, l98, y98, z98⟩, st98⟩ := X97.virtualBack hx (y := own_y7) (z := own_y7) hown (mvT hZ w_31) (mvT hZ w_32) (notFace_of_selects (args := #[]) (mvT hZ w_34)) (mvT hZ w_34) (mvT hZ w_33) (by decide) (backOf (W := 0) (own_tnone l Z a0 hw [] a25 T38.heap n0 gc38) hZ w_35 w_9 (by decide) (by decide)) qa98 qc98 (g := (mkF m 113 #[iv p0, iv p1, iv p2, iv (0 : Int32), iv (3 : Int32), rv a1, rv a4, rv a9, rv a16, rv a25, iv (0 : Int32), .unset, .unset, .unset, .unset] [(.ref a25)])) rfl (by rw [hml]; rfl) (Steps.refl _) (argsL := []) (rest := []) (lenOf own_pd6 rfl) rfl (by show 2 * 0 + _ ≤ _; exact own_b rfl) (hb hby at_113) (fun _ _ => ⟨rfl, e97, (own_b rfl : 6 + 0 ≤ _), (own_b rfl : 9 + 0 ≤ _)⟩)
      dsimp only [Pt.U, Pt.locs, Pt.cells, Pt.slots] at X98 l98 y98 z98 st98 hQ98
      obtain ⟨rfl, Nq98, eq98⟩ := hQ98
      obtain ⟨L98, X98, N98⟩ := own_absC (K := 6) (K' := 9) X98 l98 y98 z98 N97 Nq98
      have e98 : T98.heap = T38.heap := eq98
      refine own_tr (B := (T98.setTop (mkF m 116 #[iv p0, iv p1, iv p2, iv (0 : Int32), iv (3 : Int32), rv a1, rv a4, rv a9, rv a16, rv a25, iv (0 : Int32), .unset, .unset, .unset, .unset] [.null]))) st98 ?_
      refine own_go (B := (T98.setTop (mkF m 119 #[iv p0, iv p1, iv p2, iv (0 : Int32), iv (3 : Int32), rv a1, rv a4, rv a9, rv a16, rv a25, iv (0 : Int32), .unset, .unset, .unset, .unset] [.null]))) (X98.checkcastNull hx (g := (mkF m 116 #[iv p0, iv p1, iv p2, iv (0 : Int32), iv (3 : Int32), rv a1, rv a4, rv a9, rv a16, rv a25, iv (0 : Int32), .unset, .unset, .unset, .unset] [.null])) rfl rfl (hb hby at_116)) ?_
      refine own_go (B := (T98.setTop (mkF m 121 #[iv p0, iv p1, iv p2, iv (0 : Int32), iv (3 : Int32), rv a1, rv a4, rv a9, rv a16, rv a25, iv (0 : Int32), .val .null, .unset, .unset, .unset] []))) (fun t k => XS.astore X98.here hx rfl (hb hby at_119) rfl rfl (l' := #[iv p0, iv p1, iv p2, iv (0 : Int32), iv (3 : Int32), rv a1, rv a4, rv a9, rv a16, rv a25, iv (0 : Int32), .val .null, .unset, .unset, .unset]) rfl k) ?_
      refine own_go (B := (T98.setTop (mkF m 123 #[iv p0, iv p1, iv p2, iv (0 : Int32), iv (3 : Int32), rv a1, rv a4, rv a9, rv a16, rv a25, iv (0 : Int32), .val .null, .unset, .unset, .unset] [(.ref a25)]))) (fun t k => XS.aload X98.here hx rfl (hb hby at_121) rfl rfl k) ?_
      obtain ⟨cq100, kq100, qa100, qb100, qc100⟩ := isOf hZ e98 Ex38
      obtain ⟨_, _, ⟨T100, L100, k100, n100⟩, -, X100, ⟨Lc100, hQ100, l100, y100, z100⟩, st100⟩ := X98.virtualBack hx (y := own_y7) (z := own_y7) hown (mvT hZ w_31) (mvT hZ w_32) (notFace_of_selects (args := #[]) (mvT hZ w_34)) (mvT hZ w_34) (mvT hZ w_33) (by decide) (backOf (W := 0) (own_tnone l Z a0 hw [] a25 T38.heap n0 gc38) hZ w_35 w_9 (by decide) (by decide)) qa100 qc100 (g := (mkF m 123 #[iv p0, iv p1, iv p2, iv (0 : Int32), iv (3 : Int32), rv a1, rv a4, rv a9, rv a16, rv a25, iv (0 : Int32), .val .null, .unset, .unset, .unset] [(.ref a25)])) rfl (by rw [hml]; rfl) (Steps.refl _) (argsL := []) (rest := []) (lenOf own_pd6 rfl) rfl (by show 2 * 0 + _ ≤ _; exact own_b rfl) (hb hby at_123) (fun _ _ => ⟨rfl, e98, (own_b rfl : 6 + 0 ≤ _), (own_b rfl : 9 + 0 ≤ _)⟩)
      dsimp only [Pt.U, Pt.locs, Pt.cells, Pt.slots] at X100 l100 y100 z100 st100 hQ100
      obtain ⟨rfl, Nq100, eq100⟩ := hQ100
      obtain ⟨L100, X100, N100⟩ := own_absC (K := 6) (K' := 9) X100 l100 y100 z100 N98 Nq100
      have e100 : T100.heap = T38.heap := eq100
      refine own_tr (B := (T100.setTop (mkF m 126 #[iv p0, iv p1, iv p2, iv (0 : Int32), iv (3 : Int32), rv a1, rv a4, rv a9, rv a16, rv a25, iv (0 : Int32), .val .null, .unset, .unset, .unset] [.null]))) st100 ?_
      refine own_go (B := (T100.setTop (mkF m 129 #[iv p0, iv p1, iv p2, iv (0 : Int32), iv (3 : Int32), rv a1, rv a4, rv a9, rv a16, rv a25, iv (0 : Int32), .val .null, .unset, .unset, .unset] [.null]))) (X100.checkcastNull hx (g := (mkF m 126 #[iv p0, iv p1, iv p2, iv (0 : Int32), iv (3 : Int32), rv a1, rv a4, rv a9, rv a16, rv a25, iv (0 : Int32), .val .null, .unset, .unset, .unset] [.null])) rfl rfl (hb hby at_126)) ?_
      refine own_go (B := (T100.setTop (mkF m 131 #[iv p0, iv p1, iv p2, iv (0 : Int32), iv (3 : Int32), rv a1, rv a4, rv a9, rv a16, rv a25, iv (0 : Int32), .val .null, .val .null, .unset, .unset] []))) (fun t k => XS.astore X100.here hx rfl (hb hby at_129) rfl rfl (l' := #[iv p0, iv p1, iv p2, iv (0 : Int32), iv (3 : Int32), rv a1, rv a4, rv a9, rv a16, rv a25, iv (0 : Int32), .val .null, .val .null, .unset, .unset]) rfl k) ?_
      refine own_go (B := (T100.setTop (mkF m 133 #[iv p0, iv p1, iv p2, iv (0 : Int32), iv (3 : Int32), rv a1, rv a4, rv a9, rv a16, rv a25, iv (0 : Int32), .val .null, .val .null, .unset, .unset] [(.ref a25)]))) (fun t k => XS.aload X100.here hx rfl (hb hby at_131) rfl rfl k) ?_
      obtain ⟨cq102, kq102, qa102, qb102, qc102⟩ := isOf hZ e100 Ex38
      obtain ⟨_, _, ⟨T102, L102, k102, n102⟩, -, X102, ⟨Lc102, hQ102, l102, y102, z102⟩, st102⟩ := X100.virtualBack hx (y := own_y7) (z := own_y7) hown (mvT hZ w_31) (mvT hZ w_32) (notFace_of_selects (args := #[]) (mvT hZ w_34)) (mvT hZ w_34) (mvT hZ w_33) (by decide) (backOf (W := 0) (own_tnone l Z a0 hw [] a25 T38.heap n0 gc38) hZ w_35 w_9 (by decide) (by decide)) qa102 qc102 (g := (mkF m 133 #[iv p0, iv p1, iv p2, iv (0 : Int32), iv (3 : Int32), rv a1, rv a4, rv a9, rv a16, rv a25, iv (0 : Int32), .val .null, .val .null, .unset, .unset] [(.ref a25)])) rfl (by rw [hml]; rfl) (Steps.refl _) (argsL := []) (rest := []) (lenOf own_pd6 rfl) rfl (by show 2 * 0 + _ ≤ _; exact own_b rfl) (hb hby at_133) (fun _ _ => ⟨rfl, e100, (own_b rfl : 6 + 0 ≤ _), (own_b rfl : 9 + 0 ≤ _)⟩)
      dsimp only [Pt.U, Pt.locs, Pt.cells, Pt.slots] at X102 l102 y102 z102 st102 hQ102
      obtain ⟨rfl, Nq102, eq102⟩ := hQ102
      obtain ⟨L102, X102, N102⟩ := own_absC (K := 6) (K' := 9) X102 l102 y102 z102 N100 Nq102
      have e102 : T102.heap = T38.heap := eq102
      refine own_tr (B := (T102.setTop (mkF m 136 #[iv p0, iv p1, iv p2, iv (0 : Int32), iv (3 : Int32), rv a1, rv a4, rv a9, rv a16, rv a25, iv (0 : Int32), .val .null, .val .null, .unset, .unset] [.null]))) st102 ?_
      refine own_go (B := (T102.setTop (mkF m 139 #[iv p0, iv p1, iv p2, iv (0 : Int32), iv (3 : Int32), rv a1, rv a4, rv a9, rv a16, rv a25, iv (0 : Int32), .val .null, .val .null, .unset, .unset] [.null]))) (X102.checkcastNull hx (g := (mkF m 136 #[iv p0, iv p1, iv p2, iv (0 : Int32), iv (3 : Int32), rv a1, rv a4, rv a9, rv a16, rv a25, iv (0 : Int32), .val .null, .val .null, .unset, .unset] [.null])) rfl rfl (hb hby at_136)) ?_
      refine own_go (B := (T102.setTop (mkF m 141 #[iv p0, iv p1, iv p2, iv (0 : Int32), iv (3 : Int32), rv a1, rv a4, rv a9, rv a16, rv a25, iv (0 : Int32), .val .null, .val .null, .val .null, .unset] []))) (fun t k => XS.astore X102.here hx rfl (hb hby at_139) rfl rfl (l' := #[iv p0, iv p1, iv p2, iv (0 : Int32), iv (3 : Int32), rv a1, rv a4, rv a9, rv a16, rv a25, iv (0 : Int32), .val .null, .val .null, .val .null, .unset]) rfl k) ?_
      refine own_go (B := (T102.setTop (mkF m 143 #[iv p0, iv p1, iv p2, iv (0 : Int32), iv (3 : Int32), rv a1, rv a4, rv a9, rv a16, rv a25, iv (0 : Int32), .val .null, .val .null, .val .null, .unset] [(.ref a25)]))) (fun t k => XS.aload X102.here hx rfl (hb hby at_141) rfl rfl k) ?_
      obtain ⟨cq104, kq104, qa104, qb104, qc104⟩ := isOf hZ e102 Ex38
      obtain ⟨_, _, ⟨T104, L104, k104, n104⟩, -, X104, ⟨Lc104, hQ104, l104, y104, z104⟩, st104⟩ := X102.virtualBack hx (y := own_y7) (z := own_y7) hown (mvT hZ w_31) (mvT hZ w_32) (notFace_of_selects (args := #[]) (mvT hZ w_34)) (mvT hZ w_34) (mvT hZ w_33) (by decide) (backOf (W := 0) (own_tnone l Z a0 hw [] a25 T38.heap n0 gc38) hZ w_35 w_9 (by decide) (by decide)) qa104 qc104 (g := (mkF m 143 #[iv p0, iv p1, iv p2, iv (0 : Int32), iv (3 : Int32), rv a1, rv a4, rv a9, rv a16, rv a25, iv (0 : Int32), .val .null, .val .null, .val .null, .unset] [(.ref a25)])) rfl (by rw [hml]; rfl) (Steps.refl _) (argsL := []) (rest := []) (lenOf own_pd6 rfl) rfl (by show 2 * 0 + _ ≤ _; exact own_b rfl) (hb hby at_143) (fun _ _ => ⟨rfl, e102, (own_b rfl : 6 + 0 ≤ _), (own_b rfl : 9 + 0 ≤ _)⟩)
      dsimp only [Pt.U, Pt.locs, Pt.cells, Pt.slots] at X104 l104 y104 z104 st104 hQ104
      obtain ⟨rfl, Nq104, eq104⟩ := hQ104
      obtain ⟨L104, X104, N104⟩ := own_absC (K := 6) (K' := 9) X104 l104 y104 z104 N102 Nq104
      have e104 : T104.heap = T38.heap := eq104
      refine own_tr (B := (T104.setTop (mkF m 146 #[iv p0, iv p1, iv p2, iv (0 : Int32), iv (3 : Int32), rv a1, rv a4, rv a9, rv a16, rv a25, iv (0 : Int32), .val .null, .val .null, .val .null, .unset] [.null]))) st104 ?_
      refine own_go (B := (T104.setTop (mkF m 149 #[iv p0, iv p1, iv p2, iv (0 : Int32), iv (3 : Int32), rv a1, rv a4, rv a9, rv a16, rv a25, iv (0 : Int32), .val .null, .val .null, .val .null, .unset] [.null]))) (X104.checkcastNull hx (g := (mkF m 146 #[iv p0, iv p1, iv p2, iv (0 : Int32), iv (3 : Int32), rv a1, rv a4, rv a9, rv a16, rv a25, iv (0 : Int32), .val .null, .val .null, .val .null, .unset] [.null])) rfl rfl (hb hby at_146)) ?_
      refine own_go (B := (T104.setTop (mkF m 151 #[iv p0, iv p1, iv p2, iv (0 : Int32), iv (3 : Int32), rv a1, rv a4, rv a9, rv a16, rv a25, iv (0 : Int32), .val .null, .val .null, .val .null, .val .null] []))) (fun t k => XS.astore X104.here hx rfl (hb hby at_149) rfl rfl (l' := #[iv p0, iv p1, iv p2, iv (0 : Int32), iv (3 : Int32), rv a1, rv a4, rv a9, rv a16, rv a25, iv (0 : Int32), .val .null, .val .null, .val .null, .val .null]) rfl k) ?_
      refine own_go (B := (T104.setTop (mkF m 153 #[iv p0, iv p1, iv p2, iv (0 : Int32), iv (3 : Int32), rv a1, rv a4, rv a9, rv a16, rv a25, iv (0 : Int32), .val .null, .val .null, .val .null, .val .null] [.null]))) (fun t k => XS.aload X104.here hx rfl (hb hby at_151) rfl rfl k) ?_
      refine own_go (B := (T104.setTop (mkF m 155 #[iv p0, iv p1, iv p2, iv (0 : Int32), iv (3 : Int32), rv a1, rv a4, rv a9, rv a16, rv a25, iv (0 : Int32), .val .null, .val .null, .val .null, .val .null] [(.int (0 : Int32)), .null]))) (fun t k => XS.iload X104.here hx rfl (hb hby at_153) rfl k) ?_
      refine own_go (B := (T104.setTop (mkF m 156 #[iv p0, iv p1, iv p2, iv (0 : Int32), iv (3 : Int32), rv a1, rv a4, rv a9, rv a16, rv a25, iv (0 : Int32), .val .null, .val .null, .val .null, .val .null] [(.int (0 : Int32)), (.int (0 : Int32)), .null]))) (fun t k => own_iconst (v := (0 : Int32)) X104.here hx rfl (hb hby at_155) (by decide) k) ?_
      refine own_go (B := (T104.setTop (mkF m 157 #[iv p0, iv p1, iv p2, iv (0 : Int32), iv (3 : Int32), rv a1, rv a4, rv a9, rv a16, rv a25, iv (0 : Int32), .val .null, .val .null, .val .null, .val .null] [(.int p2), (.int (0 : Int32)), (.int (0 : Int32)), .null]))) (fun t k => XS.iloadN X104.here hx rfl (hb hby at_156) rfl k) ?_
      obtain ⟨_, _, ⟨T106, L106, k106, n106⟩, -, X106, ⟨Lc106, hQ106, l106, y106, z106⟩, st106⟩ := Jvm.LawKit.callS X104 hx (y := own_y8) hown (mvT hZ w_36) (mvT hZ w_37) (mvT hZ w_38) (mvT hZ w_39) (by decide) (backOf (W := 0) (own_same0 l Z a0 hw [] (0 : Int32) (0 : Int32) p2 T38.heap n0 (by decide)) hZ w_39 w_38 (by decide) (by decide)) (g := (mkF m 157 #[iv p0, iv p1, iv p2, iv (0 : Int32), iv (3 : Int32), rv a1, rv a4, rv a9, rv a16, rv a25, iv (0 : Int32), .val .null, .val .null, .val .null, .val .null] [(.int p2), (.int (0 : Int32)), (.int (0 : Int32)), .null])) rfl (by rw [hml]; rfl) (argsL := [.null, (.int (0 : Int32)), (.int (0 : Int32)), (.int p2)]) (rest := []) (lenOf own_pd7 rfl) rfl (by show 2 * 0 + _ ≤ _; exact own_b rfl) (hb hby at_157) (fun _ _ => ⟨rfl, e104, (own_b rfl : 6 + 0 ≤ _), (own_b rfl : 9 + 0 ≤ _)⟩)
      dsimp only [Pt.U, Pt.locs, Pt.cells, Pt.slots] at X106 l106 y106 z106 st106 hQ106
      obtain ⟨rfl, Nq106, eq106⟩ := hQ106
      obtain ⟨L106, X106, N106⟩ := own_absC (K := 6) (K' := 9) X106 l106 y106 z106 N104 Nq106
      have e106 : T106.heap = T38.heap := eq106
      refine own_go (B := (T106.setTop (mkF m 160 #[iv p0, iv p1, iv p2, iv (0 : Int32), iv (3 : Int32), rv a1, rv a4, rv a9, rv a16, rv a25, iv (0 : Int32), .val .null, .val .null, .val .null, .val .null] [(.int (1 : Int32))]))) st106 ?_
      have hc160 : ¬ (1 : Int32) = (0 : Int32) := (by decide)
      refine own_ifN X106 hx (hb hby at_160) (pn := 163) rfl hc160 ?_
      refine own_go (B := (T106.setTop (mkF m 165 #[iv p0, iv p1, iv p2, iv (0 : Int32), iv (3 : Int32), rv a1, rv a4, rv a9, rv a16, rv a25, iv (0 : Int32), .val .null, .val .null, .val .null, .val .null] [.null]))) (fun t k => XS.aload X106.here hx rfl (hb hby at_163) rfl rfl k) ?_
      refine own_go (B := (T106.setTop (mkF m 167 #[iv p0, iv p1, iv p2, iv (0 : Int32), iv (3 : Int32), rv a1, rv a4, rv a9, rv a16, rv a25, iv (0 : Int32), .val .null, .val .null, .val .null, .val .null] [(.int (0 : Int32)), .null]))) (fun t k => XS.iload X106.here hx rfl (hb hby at_165) rfl k) ?_
      refine own_go (B := (T106.setTop (mkF m 168 #[iv p0, iv p1, iv p2, iv (0 : Int32), iv (3 : Int32), rv a1, rv a4, rv a9, rv a16, rv a25, iv (0 : Int32), .val .null, .val .null, .val .null, .val .null] [(.int (1 : Int32)), (.int (0 : Int32)), .null]))) (fun t k => own_iconst (v := (1 : Int32)) X106.here hx rfl (hb hby at_167) (by decide) k) ?_
      refine own_go (B := (T106.setTop (mkF m 169 #[iv p0, iv p1, iv p2, iv (0 : Int32), iv (3 : Int32), rv a1, rv a4, rv a9, rv a16, rv a25, iv (0 : Int32), .val .null, .val .null, .val .null, .val .null] [(.int p2), (.int (1 : Int32)), (.int (0 : Int32)), .null]))) (fun t k => XS.iloadN X106.here hx rfl (hb hby at_168) rfl k) ?_
      obtain ⟨_, _, ⟨T107, L107, k107, n107⟩, -, X107, ⟨Lc107, hQ107, l107, y107, z107⟩, st107⟩ := Jvm.LawKit.callS X106 hx (y := own_y8) hown (mvT hZ w_36) (mvT hZ w_37) (mvT hZ w_38) (mvT hZ w_39) (by decide) (backOf (W := 0) (own_same0 l Z a0 hw [] (0 : Int32) (1 : Int32) p2 T38.heap n0 (by decide)) hZ w_39 w_38 (by decide) (by decide)) (g := (mkF m 169 #[iv p0, iv p1, iv p2, iv (0 : Int32), iv (3 : Int32), rv a1, rv a4, rv a9, rv a16, rv a25, iv (0 : Int32), .val .null, .val .null, .val .null, .val .null] [(.int p2), (.int (1 : Int32)), (.int (0 : Int32)), .null])) rfl (by rw [hml]; rfl) (argsL := [.null, (.int (0 : Int32)), (.int (1 : Int32)), (.int p2)]) (rest := []) (lenOf own_pd7 rfl) rfl (by show 2 * 0 + _ ≤ _; exact own_b rfl) (hb hby at_169) (fun _ _ => ⟨rfl, e106, (own_b rfl : 6 + 0 ≤ _), (own_b rfl : 9 + 0 ≤ _)⟩)
      dsimp only [Pt.U, Pt.locs, Pt.cells, Pt.slots] at X107 l107 y107 z107 st107 hQ107
      obtain ⟨rfl, Nq107, eq107⟩ := hQ107
      obtain ⟨L107, X107, N107⟩ := own_absC (K := 6) (K' := 9) X107 l107 y107 z107 N106 Nq107
      have e107 : T107.heap = T38.heap := eq107
      refine own_go (B := (T107.setTop (mkF m 172 #[iv p0, iv p1, iv p2, iv (0 : Int32), iv (3 : Int32), rv a1, rv a4, rv a9, rv a16, rv a25, iv (0 : Int32), .val .null, .val .null, .val .null, .val .null] [(.int (1 : Int32))]))) st107 ?_
      have hc172 : ¬ (1 : Int32) = (0 : Int32) := (by decide)
      refine own_ifN X107 hx (hb hby at_172) (pn := 175) rfl hc172 ?_
      refine own_go (B := (T107.setTop (mkF m 177 #[iv p0, iv p1, iv p2, iv (0 : Int32), iv (3 : Int32), rv a1, rv a4, rv a9, rv a16, rv a25, iv (0 : Int32), .val .null, .val .null, .val .null, .val .null] [.null]))) (fun t k => XS.aload X107.here hx rfl (hb hby at_175) rfl rfl k) ?_
      refine own_go (B := (T107.setTop (mkF m 179 #[iv p0, iv p1, iv p2, iv (0 : Int32), iv (3 : Int32), rv a1, rv a4, rv a9, rv a16, rv a25, iv (0 : Int32), .val .null, .val .null, .val .null, .val .null] [(.int (0 : Int32)), .null]))) (fun t k => XS.iload X107.here hx rfl (hb hby at_177) rfl k) ?_
      refine own_go (B := (T107.setTop (mkF m 180 #[iv p0, iv p1, iv p2, iv (0 : Int32), iv (3 : Int32), rv a1, rv a4, rv a9, rv a16, rv a25, iv (0 : Int32), .val .null, .val .null, .val .null, .val .null] [(.int (2 : Int32)), (.int (0 : Int32)), .null]))) (fun t k => own_iconst (v := (2 : Int32)) X107.here hx rfl (hb hby at_179) (by decide) k) ?_
      refine own_go (B := (T107.setTop (mkF m 181 #[iv p0, iv p1, iv p2, iv (0 : Int32), iv (3 : Int32), rv a1, rv a4, rv a9, rv a16, rv a25, iv (0 : Int32), .val .null, .val .null, .val .null, .val .null] [(.int p2), (.int (2 : Int32)), (.int (0 : Int32)), .null]))) (fun t k => XS.iloadN X107.here hx rfl (hb hby at_180) rfl k) ?_
      obtain ⟨_, _, ⟨T108, L108, k108, n108⟩, -, X108, ⟨Lc108, hQ108, l108, y108, z108⟩, st108⟩ := Jvm.LawKit.callS X107 hx (y := own_y8) hown (mvT hZ w_36) (mvT hZ w_37) (mvT hZ w_38) (mvT hZ w_39) (by decide) (backOf (W := 0) (own_same0 l Z a0 hw [] (0 : Int32) (2 : Int32) p2 T38.heap n0 (by decide)) hZ w_39 w_38 (by decide) (by decide)) (g := (mkF m 181 #[iv p0, iv p1, iv p2, iv (0 : Int32), iv (3 : Int32), rv a1, rv a4, rv a9, rv a16, rv a25, iv (0 : Int32), .val .null, .val .null, .val .null, .val .null] [(.int p2), (.int (2 : Int32)), (.int (0 : Int32)), .null])) rfl (by rw [hml]; rfl) (argsL := [.null, (.int (0 : Int32)), (.int (2 : Int32)), (.int p2)]) (rest := []) (lenOf own_pd7 rfl) rfl (by show 2 * 0 + _ ≤ _; exact own_b rfl) (hb hby at_181) (fun _ _ => ⟨rfl, e107, (own_b rfl : 6 + 0 ≤ _), (own_b rfl : 9 + 0 ≤ _)⟩)
      dsimp only [Pt.U, Pt.locs, Pt.cells, Pt.slots] at X108 l108 y108 z108 st108 hQ108
      obtain ⟨rfl, Nq108, eq108⟩ := hQ108
      obtain ⟨L108, X108, N108⟩ := own_absC (K := 6) (K' := 9) X108 l108 y108 z108 N107 Nq108
      have e108 : T108.heap = T38.heap := eq108
      refine own_go (B := (T108.setTop (mkF m 184 #[iv p0, iv p1, iv p2, iv (0 : Int32), iv (3 : Int32), rv a1, rv a4, rv a9, rv a16, rv a25, iv (0 : Int32), .val .null, .val .null, .val .null, .val .null] [(.int (1 : Int32))]))) st108 ?_
      have hc184 : ¬ (1 : Int32) = (0 : Int32) := (by decide)
      refine own_ifN X108 hx (hb hby at_184) (pn := 187) rfl hc184 ?_
      refine own_go (B := (T108.setTop (mkF m 189 #[iv p0, iv p1, iv p2, iv (0 : Int32), iv (3 : Int32), rv a1, rv a4, rv a9, rv a16, rv a25, iv (0 : Int32), .val .null, .val .null, .val .null, .val .null] [.null]))) (fun t k => XS.aload X108.here hx rfl (hb hby at_187) rfl rfl k) ?_
      refine own_go (B := (T108.setTop (mkF m 191 #[iv p0, iv p1, iv p2, iv (0 : Int32), iv (3 : Int32), rv a1, rv a4, rv a9, rv a16, rv a25, iv (0 : Int32), .val .null, .val .null, .val .null, .val .null] [(.int (0 : Int32)), .null]))) (fun t k => XS.iload X108.here hx rfl (hb hby at_189) rfl k) ?_
      refine own_go (B := (T108.setTop (mkF m 192 #[iv p0, iv p1, iv p2, iv (0 : Int32), iv (3 : Int32), rv a1, rv a4, rv a9, rv a16, rv a25, iv (0 : Int32), .val .null, .val .null, .val .null, .val .null] [(.int (3 : Int32)), (.int (0 : Int32)), .null]))) (fun t k => own_iconst (v := (3 : Int32)) X108.here hx rfl (hb hby at_191) (by decide) k) ?_
      refine own_go (B := (T108.setTop (mkF m 193 #[iv p0, iv p1, iv p2, iv (0 : Int32), iv (3 : Int32), rv a1, rv a4, rv a9, rv a16, rv a25, iv (0 : Int32), .val .null, .val .null, .val .null, .val .null] [(.int p2), (.int (3 : Int32)), (.int (0 : Int32)), .null]))) (fun t k => XS.iloadN X108.here hx rfl (hb hby at_192) rfl k) ?_
      obtain ⟨_, _, ⟨T109, L109, k109, n109⟩, -, X109, ⟨Lc109, hQ109, l109, y109, z109⟩, st109⟩ := Jvm.LawKit.callS X108 hx (y := own_y8) hown (mvT hZ w_36) (mvT hZ w_37) (mvT hZ w_38) (mvT hZ w_39) (by decide) (backOf (W := 0) (own_same0 l Z a0 hw [] (0 : Int32) (3 : Int32) p2 T38.heap n0 (by decide)) hZ w_39 w_38 (by decide) (by decide)) (g := (mkF m 193 #[iv p0, iv p1, iv p2, iv (0 : Int32), iv (3 : Int32), rv a1, rv a4, rv a9, rv a16, rv a25, iv (0 : Int32), .val .null, .val .null, .val .null, .val .null] [(.int p2), (.int (3 : Int32)), (.int (0 : Int32)), .null])) rfl (by rw [hml]; rfl) (argsL := [.null, (.int (0 : Int32)), (.int (3 : Int32)), (.int p2)]) (rest := []) (lenOf own_pd7 rfl) rfl (by show 2 * 0 + _ ≤ _; exact own_b rfl) (hb hby at_193) (fun _ _ => ⟨rfl, e108, (own_b rfl : 6 + 0 ≤ _), (own_b rfl : 9 + 0 ≤ _)⟩)
      dsimp only [Pt.U, Pt.locs, Pt.cells, Pt.slots] at X109 l109 y109 z109 st109 hQ109
      obtain ⟨rfl, Nq109, eq109⟩ := hQ109
      obtain ⟨L109, X109, N109⟩ := own_absC (K := 6) (K' := 9) X109 l109 y109 z109 N108 Nq109
      have e109 : T109.heap = T38.heap := eq109
      refine own_go (B := (T109.setTop (mkF m 196 #[iv p0, iv p1, iv p2, iv (0 : Int32), iv (3 : Int32), rv a1, rv a4, rv a9, rv a16, rv a25, iv (0 : Int32), .val .null, .val .null, .val .null, .val .null] [(.int (1 : Int32))]))) st109 ?_
      have hc196 : ¬ (1 : Int32) = (0 : Int32) := (by decide)
      refine own_ifN X109 hx (hb hby at_196) (pn := 199) rfl hc196 ?_
      refine own_go (B := (T109.setTop (mkF m 200 #[iv p0, iv p1, iv p2, iv (0 : Int32), iv (3 : Int32), rv a1, rv a4, rv a9, rv a16, rv a25, iv (0 : Int32), .val .null, .val .null, .val .null, .val .null] [(.int (1 : Int32))]))) (fun t k => own_iconst (v := (1 : Int32)) X109.here hx rfl (hb hby at_199) (by decide) k) ?_
      refine own_go (B := (T109.setTop (mkF m 204 #[iv p0, iv p1, iv p2, iv (0 : Int32), iv (3 : Int32), rv a1, rv a4, rv a9, rv a16, rv a25, iv (0 : Int32), .val .null, .val .null, .val .null, .val .null] [(.int (1 : Int32))]))) (fun t k => XS.goto X109.here hx rfl (pc0 := 200) (pc' := 204) rfl (hb hby at_200) (by decide) (by decide) k) ?_
      exact own_retZ X109 hx hlk Bd.returns (hb hby at_204) (by decide) (own_b rfl) (own_b rfl) (Q := (own_law_Q Z p0 p1 p2 ca h0 n0)) ⟨rfl, N109⟩
    · refine own_go (B := (T38.setTop (mkF m 54 #[iv p0, iv p1, iv p2, iv (0 : Int32), iv (4 : Int32), rv a1, rv a4, rv a9, rv a16, rv a25, .unset, .unset, .unset, .unset, .unset] [(.int (4 : Int32))]))) (fun t k => XS.iload X38.here hx rfl (hb hby at_52) rfl k) ?_
      have hc54 : (0 : Int32) < (4 : Int32) := (by decide)
      refine own_ifN X38 hx (hb hby at_54) (pn := 57) rfl hc54 ?_
      refine own_go (B := (T38.setTop (mkF m 59 #[iv p0, iv p1, iv p2, iv (0 : Int32), iv (4 : Int32), rv a1, rv a4, rv a9, rv a16, rv a25, .unset, .unset, .unset, .unset, .unset] [(.ref a25)]))) (fun t k => XS.aload X38.here hx rfl (hb hby at_57) rfl rfl k) ?_
      refine own_go (B := (T38.setTop (mkF m 61 #[iv p0, iv p1, iv p2, iv (0 : Int32), iv (4 : Int32), rv a1, rv a4, rv a9, rv a16, rv a25, .unset, .unset, .unset, .unset, .unset] [(.ref a1), (.ref a25)]))) (fun t k => XS.aload X38.here hx rfl (hb hby at_59) rfl rfl k) ?_
      obtain ⟨cq110, kq110, qa110, qb110, qc110⟩ := isOf hZ rfl Ex38
      obtain ⟨_, _, ⟨T110, L110, k110, n110⟩, -, X110, ⟨Lc110, hQ110, l110, y110, z110⟩, st110⟩ := X38.virtualBack hx (y := own_y9) (z := own_y9) hown (mvT hZ w_20) (mvT hZ w_21) (notFace_of_selects (args := #[]) (mvT hZ w_23)) (mvT hZ w_23) (mvT hZ w_22) (by decide) (backOf (W := 0) (own_kfull l Z a0 hw [] a25 a1 ar38 (0 : Int32) (0 : Int32) [] T38.heap n0 Ex38 gk38 gc38 Vb (own_lenL (n := 0) rfl (by decide)) (by decide)) hZ w_24 w_9 (by decide) (by decide)) qa110 qc110 (g := (mkF m 61 #[iv p0, iv p1, iv p2, iv (0 : Int32), iv (4 : Int32), rv a1, rv a4, rv a9, rv a16, rv a25, .unset, .unset, .unset, .unset, .unset] [(.ref a1), (.ref a25)])) rfl (by rw [hml]; rfl) (Steps.refl _) (argsL := [(.ref a1)]) (rest := []) (lenOf own_pd8 rfl) rfl (by show 2 * 0 + _ ≤ _; exact own_b rfl) (hb hby at_61) (fun _ _ => ⟨rfl, rfl, (own_b rfl : 6 + 0 ≤ _), (own_b rfl : 9 + 0 ≤ _)⟩)
      dsimp only [Pt.U, Pt.locs, Pt.cells, Pt.slots] at X110 l110 y110 z110 st110 hQ110
      obtain ⟨rfl, Nq110, eq110⟩ := hQ110
      obtain ⟨L110, X110, N110⟩ := own_absC (K := 6) (K' := 9) X110 l110 y110 z110 N38 Nq110
      have e110 : T110.heap = T38.heap := eq110
      refine own_tr (B := (T110.setTop (mkF m 64 #[iv p0, iv p1, iv p2, iv (0 : Int32), iv (4 : Int32), rv a1, rv a4, rv a9, rv a16, rv a25, .unset, .unset, .unset, .unset, .unset] []))) st110 ?_
      refine own_go (B := (T110.setTop (mkF m 66 #[iv p0, iv p1, iv p2, iv (0 : Int32), iv (4 : Int32), rv a1, rv a4, rv a9, rv a16, rv a25, .unset, .unset, .unset, .unset, .unset] [(.int (4 : Int32))]))) (fun t k => XS.iload X110.here hx rfl (hb hby at_64) rfl k) ?_
      refine own_go (B := (T110.setTop (mkF m 67 #[iv p0, iv p1, iv p2, iv (0 : Int32), iv (4 : Int32), rv a1, rv a4, rv a9, rv a16, rv a25, .unset, .unset, .unset, .unset, .unset] [(.int (1 : Int32)), (.int (4 : Int32))]))) (fun t k => own_iconst (v := (1 : Int32)) X110.here hx rfl (hb hby at_66) (by decide) k) ?_
      have hc67 : (1 : Int32) < (4 : Int32) := (by decide)
      refine own_icmpN X110 hx (hb hby at_67) (pn := 70) rfl hc67 ?_
      refine own_go (B := (T110.setTop (mkF m 72 #[iv p0, iv p1, iv p2, iv (0 : Int32), iv (4 : Int32), rv a1, rv a4, rv a9, rv a16, rv a25, .unset, .unset, .unset, .unset, .unset] [(.ref a25)]))) (fun t k => XS.aload X110.here hx rfl (hb hby at_70) rfl rfl k) ?_
      refine own_go (B := (T110.setTop (mkF m 74 #[iv p0, iv p1, iv p2, iv (0 : Int32), iv (4 : Int32), rv a1, rv a4, rv a9, rv a16, rv a25, .unset, .unset, .unset, .unset, .unset] [(.ref a4), (.ref a25)]))) (fun t k => XS.aload X110.here hx rfl (hb hby at_72) rfl rfl k) ?_
      obtain ⟨cq111, kq111, qa111, qb111, qc111⟩ := isOf hZ e110 Ex38
      obtain ⟨_, _, ⟨T111, L111, k111, n111⟩, -, X111, ⟨Lc111, hQ111, l111, y111, z111⟩, st111⟩ := X110.virtualBack hx (y := own_y9) (z := own_y9) hown (mvT hZ w_20) (mvT hZ w_21) (notFace_of_selects (args := #[]) (mvT hZ w_23)) (mvT hZ w_23) (mvT hZ w_22) (by decide) (backOf (W := 0) (own_kfull l Z a0 hw [] a25 a4 ar38 (0 : Int32) (0 : Int32) [] T38.heap n0 Ex38 gk38 gc38 Vb (own_lenL (n := 0) rfl (by decide)) (by decide)) hZ w_24 w_9 (by decide) (by decide)) qa111 qc111 (g := (mkF m 74 #[iv p0, iv p1, iv p2, iv (0 : Int32), iv (4 : Int32), rv a1, rv a4, rv a9, rv a16, rv a25, .unset, .unset, .unset, .unset, .unset] [(.ref a4), (.ref a25)])) rfl (by rw [hml]; rfl) (Steps.refl _) (argsL := [(.ref a4)]) (rest := []) (lenOf own_pd8 rfl) rfl (by show 2 * 0 + _ ≤ _; exact own_b rfl) (hb hby at_74) (fun _ _ => ⟨rfl, e110, (own_b rfl : 6 + 0 ≤ _), (own_b rfl : 9 + 0 ≤ _)⟩)
      dsimp only [Pt.U, Pt.locs, Pt.cells, Pt.slots] at X111 l111 y111 z111 st111 hQ111
      obtain ⟨rfl, Nq111, eq111⟩ := hQ111
      obtain ⟨L111, X111, N111⟩ := own_absC (K := 6) (K' := 9) X111 l111 y111 z111 N110 Nq111
      have e111 : T111.heap = T38.heap := eq111
      refine own_tr (B := (T111.setTop (mkF m 77 #[iv p0, iv p1, iv p2, iv (0 : Int32), iv (4 : Int32), rv a1, rv a4, rv a9, rv a16, rv a25, .unset, .unset, .unset, .unset, .unset] []))) st111 ?_
      refine own_go (B := (T111.setTop (mkF m 79 #[iv p0, iv p1, iv p2, iv (0 : Int32), iv (4 : Int32), rv a1, rv a4, rv a9, rv a16, rv a25, .unset, .unset, .unset, .unset, .unset] [(.int (4 : Int32))]))) (fun t k => XS.iload X111.here hx rfl (hb hby at_77) rfl k) ?_
      refine own_go (B := (T111.setTop (mkF m 80 #[iv p0, iv p1, iv p2, iv (0 : Int32), iv (4 : Int32), rv a1, rv a4, rv a9, rv a16, rv a25, .unset, .unset, .unset, .unset, .unset] [(.int (2 : Int32)), (.int (4 : Int32))]))) (fun t k => own_iconst (v := (2 : Int32)) X111.here hx rfl (hb hby at_79) (by decide) k) ?_
      have hc80 : (2 : Int32) < (4 : Int32) := (by decide)
      refine own_icmpN X111 hx (hb hby at_80) (pn := 83) rfl hc80 ?_
      refine own_go (B := (T111.setTop (mkF m 85 #[iv p0, iv p1, iv p2, iv (0 : Int32), iv (4 : Int32), rv a1, rv a4, rv a9, rv a16, rv a25, .unset, .unset, .unset, .unset, .unset] [(.ref a25)]))) (fun t k => XS.aload X111.here hx rfl (hb hby at_83) rfl rfl k) ?_
      refine own_go (B := (T111.setTop (mkF m 87 #[iv p0, iv p1, iv p2, iv (0 : Int32), iv (4 : Int32), rv a1, rv a4, rv a9, rv a16, rv a25, .unset, .unset, .unset, .unset, .unset] [(.ref a9), (.ref a25)]))) (fun t k => XS.aload X111.here hx rfl (hb hby at_85) rfl rfl k) ?_
      obtain ⟨cq112, kq112, qa112, qb112, qc112⟩ := isOf hZ e111 Ex38
      obtain ⟨_, _, ⟨T112, L112, k112, n112⟩, -, X112, ⟨Lc112, hQ112, l112, y112, z112⟩, st112⟩ := X111.virtualBack hx (y := own_y9) (z := own_y9) hown (mvT hZ w_20) (mvT hZ w_21) (notFace_of_selects (args := #[]) (mvT hZ w_23)) (mvT hZ w_23) (mvT hZ w_22) (by decide) (backOf (W := 0) (own_kfull l Z a0 hw [] a25 a9 ar38 (0 : Int32) (0 : Int32) [] T38.heap n0 Ex38 gk38 gc38 Vb (own_lenL (n := 0) rfl (by decide)) (by decide)) hZ w_24 w_9 (by decide) (by decide)) qa112 qc112 (g := (mkF m 87 #[iv p0, iv p1, iv p2, iv (0 : Int32), iv (4 : Int32), rv a1, rv a4, rv a9, rv a16, rv a25, .unset, .unset, .unset, .unset, .unset] [(.ref a9), (.ref a25)])) rfl (by rw [hml]; rfl) (Steps.refl _) (argsL := [(.ref a9)]) (rest := []) (lenOf own_pd8 rfl) rfl (by show 2 * 0 + _ ≤ _; exact own_b rfl) (hb hby at_87) (fun _ _ => ⟨rfl, e111, (own_b rfl : 6 + 0 ≤ _), (own_b rfl : 9 + 0 ≤ _)⟩)
      dsimp only [Pt.U, Pt.locs, Pt.cells, Pt.slots] at X112 l112 y112 z112 st112 hQ112
      obtain ⟨rfl, Nq112, eq112⟩ := hQ112
      obtain ⟨L112, X112, N112⟩ := own_absC (K := 6) (K' := 9) X112 l112 y112 z112 N111 Nq112
      have e112 : T112.heap = T38.heap := eq112
      refine own_tr (B := (T112.setTop (mkF m 90 #[iv p0, iv p1, iv p2, iv (0 : Int32), iv (4 : Int32), rv a1, rv a4, rv a9, rv a16, rv a25, .unset, .unset, .unset, .unset, .unset] []))) st112 ?_
      refine own_go (B := (T112.setTop (mkF m 92 #[iv p0, iv p1, iv p2, iv (0 : Int32), iv (4 : Int32), rv a1, rv a4, rv a9, rv a16, rv a25, .unset, .unset, .unset, .unset, .unset] [(.int (4 : Int32))]))) (fun t k => XS.iload X112.here hx rfl (hb hby at_90) rfl k) ?_
      refine own_go (B := (T112.setTop (mkF m 93 #[iv p0, iv p1, iv p2, iv (0 : Int32), iv (4 : Int32), rv a1, rv a4, rv a9, rv a16, rv a25, .unset, .unset, .unset, .unset, .unset] [(.int (3 : Int32)), (.int (4 : Int32))]))) (fun t k => own_iconst (v := (3 : Int32)) X112.here hx rfl (hb hby at_92) (by decide) k) ?_
      have hc93 : (3 : Int32) < (4 : Int32) := (by decide)
      refine own_icmpN X112 hx (hb hby at_93) (pn := 96) rfl hc93 ?_
      refine own_go (B := (T112.setTop (mkF m 98 #[iv p0, iv p1, iv p2, iv (0 : Int32), iv (4 : Int32), rv a1, rv a4, rv a9, rv a16, rv a25, .unset, .unset, .unset, .unset, .unset] [(.ref a25)]))) (fun t k => XS.aload X112.here hx rfl (hb hby at_96) rfl rfl k) ?_
      refine own_go (B := (T112.setTop (mkF m 100 #[iv p0, iv p1, iv p2, iv (0 : Int32), iv (4 : Int32), rv a1, rv a4, rv a9, rv a16, rv a25, .unset, .unset, .unset, .unset, .unset] [(.ref a16), (.ref a25)]))) (fun t k => XS.aload X112.here hx rfl (hb hby at_98) rfl rfl k) ?_
      obtain ⟨cq113, kq113, qa113, qb113, qc113⟩ := isOf hZ e112 Ex38
      obtain ⟨_, _, ⟨T113, L113, k113, n113⟩, -, X113, ⟨Lc113, hQ113, l113, y113, z113⟩, st113⟩ := X112.virtualBack hx (y := own_y9) (z := own_y9) hown (mvT hZ w_20) (mvT hZ w_21) (notFace_of_selects (args := #[]) (mvT hZ w_23)) (mvT hZ w_23) (mvT hZ w_22) (by decide) (backOf (W := 0) (own_kfull l Z a0 hw [] a25 a16 ar38 (0 : Int32) (0 : Int32) [] T38.heap n0 Ex38 gk38 gc38 Vb (own_lenL (n := 0) rfl (by decide)) (by decide)) hZ w_24 w_9 (by decide) (by decide)) qa113 qc113 (g := (mkF m 100 #[iv p0, iv p1, iv p2, iv (0 : Int32), iv (4 : Int32), rv a1, rv a4, rv a9, rv a16, rv a25, .unset, .unset, .unset, .unset, .unset] [(.ref a16), (.ref a25)])) rfl (by rw [hml]; rfl) (Steps.refl _) (argsL := [(.ref a16)]) (rest := []) (lenOf own_pd8 rfl) rfl (by show 2 * 0 + _ ≤ _; exact own_b rfl) (hb hby at_100) (fun _ _ => ⟨rfl, e112, (own_b rfl : 6 + 0 ≤ _), (own_b rfl : 9 + 0 ≤ _)⟩)
      dsimp only [Pt.U, Pt.locs, Pt.cells, Pt.slots] at X113 l113 y113 z113 st113 hQ113
      obtain ⟨rfl, Nq113, eq113⟩ := hQ113
      obtain ⟨L113, X113, N113⟩ := own_absC (K := 6) (K' := 9) X113 l113 y113 z113 N112 Nq113
      have e113 : T113.heap = T38.heap := eq113
      refine own_tr (B := (T113.setTop (mkF m 103 #[iv p0, iv p1, iv p2, iv (0 : Int32), iv (4 : Int32), rv a1, rv a4, rv a9, rv a16, rv a25, .unset, .unset, .unset, .unset, .unset] []))) st113 ?_
      refine own_go (B := (T113.setTop (mkF m 105 #[iv p0, iv p1, iv p2, iv (0 : Int32), iv (4 : Int32), rv a1, rv a4, rv a9, rv a16, rv a25, .unset, .unset, .unset, .unset, .unset] [(.int (4 : Int32))]))) (fun t k => XS.iload X113.here hx rfl (hb hby at_103) rfl k) ?_
      refine own_go (B := (T113.setTop (mkF m 106 #[iv p0, iv p1, iv p2, iv (0 : Int32), iv (4 : Int32), rv a1, rv a4, rv a9, rv a16, rv a25, .unset, .unset, .unset, .unset, .unset] [(.int (0 : Int32)), (.int (4 : Int32))]))) (fun t k => XS.iloadN X113.here hx rfl (hb hby at_105) rfl k) ?_
      obtain ⟨_, _, ⟨T114, L114, k114, n114⟩, -, X114, ⟨Lc114, hQ114, l114, y114, z114⟩, st114⟩ := Jvm.LawKit.callS X113 hx (y := own_y6) hown (mvT hZ w_27) (mvT hZ w_28) (mvT hZ w_29) (mvT hZ w_30) (by decide) (backOf (W := 0) (own_mmin l Z a0 hw [] (4 : Int32) (0 : Int32) T38.heap n0) hZ w_30 w_29 (by decide) (by decide)) (g := (mkF m 106 #[iv p0, iv p1, iv p2, iv (0 : Int32), iv (4 : Int32), rv a1, rv a4, rv a9, rv a16, rv a25, .unset, .unset, .unset, .unset, .unset] [(.int (0 : Int32)), (.int (4 : Int32))])) rfl (by rw [hml]; rfl) (argsL := [(.int (4 : Int32)), (.int (0 : Int32))]) (rest := []) (lenOf own_pd5 rfl) rfl (by show 2 * 0 + _ ≤ _; exact own_b rfl) (hb hby at_106) (fun _ _ => ⟨rfl, e113, (own_b rfl : 6 + 0 ≤ _), (own_b rfl : 9 + 0 ≤ _)⟩)
      dsimp only [Pt.U, Pt.locs, Pt.cells, Pt.slots] at X114 l114 y114 z114 st114 hQ114
      obtain ⟨rfl, Nq114, eq114⟩ := hQ114
      obtain ⟨L114, X114, N114⟩ := own_absC (K := 6) (K' := 9) X114 l114 y114 z114 N113 Nq114
      have e114 : T114.heap = T38.heap := eq114
      refine own_go (B := (T114.setTop (mkF m 109 #[iv p0, iv p1, iv p2, iv (0 : Int32), iv (4 : Int32), rv a1, rv a4, rv a9, rv a16, rv a25, .unset, .unset, .unset, .unset, .unset] [(.int (own_min (4 : Int32) (0 : Int32)))]))) st114 ?_
      rw [show own_min (4 : Int32) (0 : Int32) = (0 : Int32) from by decide]
      refine own_go (B := (T114.setTop (mkF m 111 #[iv p0, iv p1, iv p2, iv (0 : Int32), iv (4 : Int32), rv a1, rv a4, rv a9, rv a16, rv a25, iv (0 : Int32), .unset, .unset, .unset, .unset] []))) (fun t k => XS.istore X114.here hx rfl (hb hby at_109) rfl (l' := #[iv p0, iv p1, iv p2, iv (0 : Int32), iv (4 : Int32), rv a1, rv a4, rv a9, rv a16, rv a25, iv (0 : Int32), .unset, .unset, .unset, .unset]) rfl k) ?_
      refine own_go (B := (T114.setTop (mkF m 113 #[iv p0, iv p1, iv p2, iv (0 : Int32), iv (4 : Int32), rv a1, rv a4, rv a9, rv a16, rv a25, iv (0 : Int32), .unset, .unset, .unset, .unset] [(.ref a25)]))) (fun t k => XS.aload X114.here hx rfl (hb hby at_111) rfl rfl k) ?_
      obtain ⟨cq115, kq115, qa115, qb115, qc115⟩ := isOf hZ e114 Ex38
      obtain ⟨_, _, ⟨T115, L115, k115, n115⟩, -, X115, ⟨Lc115, hQ115, l115, y115, z115⟩, st115⟩ := X114.virtualBack hx (y := own_y7) (z := own_y7) hown (mvT hZ w_31) (mvT hZ w_32) (notFace_of_selects (args := #[]) (mvT hZ w_34)) (mvT hZ w_34) (mvT hZ w_33) (by decide) (backOf (W := 0) (own_tnone l Z a0 hw [] a25 T38.heap n0 gc38) hZ w_35 w_9 (by decide) (by decide)) qa115 qc115 (g := (mkF m 113 #[iv p0, iv p1, iv p2, iv (0 : Int32), iv (4 : Int32), rv a1, rv a4, rv a9, rv a16, rv a25, iv (0 : Int32), .unset, .unset, .unset, .unset] [(.ref a25)])) rfl (by rw [hml]; rfl) (Steps.refl _) (argsL := []) (rest := []) (lenOf own_pd6 rfl) rfl (by show 2 * 0 + _ ≤ _; exact own_b rfl) (hb hby at_113) (fun _ _ => ⟨rfl, e114, (own_b rfl : 6 + 0 ≤ _), (own_b rfl : 9 + 0 ≤ _)⟩)
      dsimp only [Pt.U, Pt.locs, Pt.cells, Pt.slots] at X115 l115 y115 z115 st115 hQ115
      obtain ⟨rfl, Nq115, eq115⟩ := hQ115
      obtain ⟨L115, X115, N115⟩ := own_absC (K := 6) (K' := 9) X115 l115 y115 z115 N114 Nq115
      have e115 : T115.heap = T38.heap := eq115
      refine own_tr (B := (T115.setTop (mkF m 116 #[iv p0, iv p1, iv p2, iv (0 : Int32), iv (4 : Int32), rv a1, rv a4, rv a9, rv a16, rv a25, iv (0 : Int32), .unset, .unset, .unset, .unset] [.null]))) st115 ?_
      refine own_go (B := (T115.setTop (mkF m 119 #[iv p0, iv p1, iv p2, iv (0 : Int32), iv (4 : Int32), rv a1, rv a4, rv a9, rv a16, rv a25, iv (0 : Int32), .unset, .unset, .unset, .unset] [.null]))) (X115.checkcastNull hx (g := (mkF m 116 #[iv p0, iv p1, iv p2, iv (0 : Int32), iv (4 : Int32), rv a1, rv a4, rv a9, rv a16, rv a25, iv (0 : Int32), .unset, .unset, .unset, .unset] [.null])) rfl rfl (hb hby at_116)) ?_
      refine own_go (B := (T115.setTop (mkF m 121 #[iv p0, iv p1, iv p2, iv (0 : Int32), iv (4 : Int32), rv a1, rv a4, rv a9, rv a16, rv a25, iv (0 : Int32), .val .null, .unset, .unset, .unset] []))) (fun t k => XS.astore X115.here hx rfl (hb hby at_119) rfl rfl (l' := #[iv p0, iv p1, iv p2, iv (0 : Int32), iv (4 : Int32), rv a1, rv a4, rv a9, rv a16, rv a25, iv (0 : Int32), .val .null, .unset, .unset, .unset]) rfl k) ?_
      refine own_go (B := (T115.setTop (mkF m 123 #[iv p0, iv p1, iv p2, iv (0 : Int32), iv (4 : Int32), rv a1, rv a4, rv a9, rv a16, rv a25, iv (0 : Int32), .val .null, .unset, .unset, .unset] [(.ref a25)]))) (fun t k => XS.aload X115.here hx rfl (hb hby at_121) rfl rfl k) ?_
      obtain ⟨cq117, kq117, qa117, qb117, qc117⟩ := isOf hZ e115 Ex38
      obtain ⟨_, _, ⟨T117, L117, k117, n117⟩, -, X117, ⟨Lc117, hQ117, l117, y117, z117⟩, st117⟩ := X115.virtualBack hx (y := own_y7) (z := own_y7) hown (mvT hZ w_31) (mvT hZ w_32) (notFace_of_selects (args := #[]) (mvT hZ w_34)) (mvT hZ w_34) (mvT hZ w_33) (by decide) (backOf (W := 0) (own_tnone l Z a0 hw [] a25 T38.heap n0 gc38) hZ w_35 w_9 (by decide) (by decide)) qa117 qc117 (g := (mkF m 123 #[iv p0, iv p1, iv p2, iv (0 : Int32), iv (4 : Int32), rv a1, rv a4, rv a9, rv a16, rv a25, iv (0 : Int32), .val .null, .unset, .unset, .unset] [(.ref a25)])) rfl (by rw [hml]; rfl) (Steps.refl _) (argsL := []) (rest := []) (lenOf own_pd6 rfl) rfl (by show 2 * 0 + _ ≤ _; exact own_b rfl) (hb hby at_123) (fun _ _ => ⟨rfl, e115, (own_b rfl : 6 + 0 ≤ _), (own_b rfl : 9 + 0 ≤ _)⟩)
      dsimp only [Pt.U, Pt.locs, Pt.cells, Pt.slots] at X117 l117 y117 z117 st117 hQ117
      obtain ⟨rfl, Nq117, eq117⟩ := hQ117
      obtain ⟨L117, X117, N117⟩ := own_absC (K := 6) (K' := 9) X117 l117 y117 z117 N115 Nq117
      have e117 : T117.heap = T38.heap := eq117
      refine own_tr (B := (T117.setTop (mkF m 126 #[iv p0, iv p1, iv p2, iv (0 : Int32), iv (4 : Int32), rv a1, rv a4, rv a9, rv a16, rv a25, iv (0 : Int32), .val .null, .unset, .unset, .unset] [.null]))) st117 ?_
      refine own_go (B := (T117.setTop (mkF m 129 #[iv p0, iv p1, iv p2, iv (0 : Int32), iv (4 : Int32), rv a1, rv a4, rv a9, rv a16, rv a25, iv (0 : Int32), .val .null, .unset, .unset, .unset] [.null]))) (X117.checkcastNull hx (g := (mkF m 126 #[iv p0, iv p1, iv p2, iv (0 : Int32), iv (4 : Int32), rv a1, rv a4, rv a9, rv a16, rv a25, iv (0 : Int32), .val .null, .unset, .unset, .unset] [.null])) rfl rfl (hb hby at_126)) ?_
      refine own_go (B := (T117.setTop (mkF m 131 #[iv p0, iv p1, iv p2, iv (0 : Int32), iv (4 : Int32), rv a1, rv a4, rv a9, rv a16, rv a25, iv (0 : Int32), .val .null, .val .null, .unset, .unset] []))) (fun t k => XS.astore X117.here hx rfl (hb hby at_129) rfl rfl (l' := #[iv p0, iv p1, iv p2, iv (0 : Int32), iv (4 : Int32), rv a1, rv a4, rv a9, rv a16, rv a25, iv (0 : Int32), .val .null, .val .null, .unset, .unset]) rfl k) ?_
      refine own_go (B := (T117.setTop (mkF m 133 #[iv p0, iv p1, iv p2, iv (0 : Int32), iv (4 : Int32), rv a1, rv a4, rv a9, rv a16, rv a25, iv (0 : Int32), .val .null, .val .null, .unset, .unset] [(.ref a25)]))) (fun t k => XS.aload X117.here hx rfl (hb hby at_131) rfl rfl k) ?_
      obtain ⟨cq119, kq119, qa119, qb119, qc119⟩ := isOf hZ e117 Ex38
      obtain ⟨_, _, ⟨T119, L119, k119, n119⟩, -, X119, ⟨Lc119, hQ119, l119, y119, z119⟩, st119⟩ := X117.virtualBack hx (y := own_y7) (z := own_y7) hown (mvT hZ w_31) (mvT hZ w_32) (notFace_of_selects (args := #[]) (mvT hZ w_34)) (mvT hZ w_34) (mvT hZ w_33) (by decide) (backOf (W := 0) (own_tnone l Z a0 hw [] a25 T38.heap n0 gc38) hZ w_35 w_9 (by decide) (by decide)) qa119 qc119 (g := (mkF m 133 #[iv p0, iv p1, iv p2, iv (0 : Int32), iv (4 : Int32), rv a1, rv a4, rv a9, rv a16, rv a25, iv (0 : Int32), .val .null, .val .null, .unset, .unset] [(.ref a25)])) rfl (by rw [hml]; rfl) (Steps.refl _) (argsL := []) (rest := []) (lenOf own_pd6 rfl) rfl (by show 2 * 0 + _ ≤ _; exact own_b rfl) (hb hby at_133) (fun _ _ => ⟨rfl, e117, (own_b rfl : 6 + 0 ≤ _), (own_b rfl : 9 + 0 ≤ _)⟩)
      dsimp only [Pt.U, Pt.locs, Pt.cells, Pt.slots] at X119 l119 y119 z119 st119 hQ119
      obtain ⟨rfl, Nq119, eq119⟩ := hQ119
      obtain ⟨L119, X119, N119⟩ := own_absC (K := 6) (K' := 9) X119 l119 y119 z119 N117 Nq119
      have e119 : T119.heap = T38.heap := eq119
      refine own_tr (B := (T119.setTop (mkF m 136 #[iv p0, iv p1, iv p2, iv (0 : Int32), iv (4 : Int32), rv a1, rv a4, rv a9, rv a16, rv a25, iv (0 : Int32), .val .null, .val .null, .unset, .unset] [.null]))) st119 ?_
      refine own_go (B := (T119.setTop (mkF m 139 #[iv p0, iv p1, iv p2, iv (0 : Int32), iv (4 : Int32), rv a1, rv a4, rv a9, rv a16, rv a25, iv (0 : Int32), .val .null, .val .null, .unset, .unset] [.null]))) (X119.checkcastNull hx (g := (mkF m 136 #[iv p0, iv p1, iv p2, iv (0 : Int32), iv (4 : Int32), rv a1, rv a4, rv a9, rv a16, rv a25, iv (0 : Int32), .val .null, .val .null, .unset, .unset] [.null])) rfl rfl (hb hby at_136)) ?_
      refine own_go (B := (T119.setTop (mkF m 141 #[iv p0, iv p1, iv p2, iv (0 : Int32), iv (4 : Int32), rv a1, rv a4, rv a9, rv a16, rv a25, iv (0 : Int32), .val .null, .val .null, .val .null, .unset] []))) (fun t k => XS.astore X119.here hx rfl (hb hby at_139) rfl rfl (l' := #[iv p0, iv p1, iv p2, iv (0 : Int32), iv (4 : Int32), rv a1, rv a4, rv a9, rv a16, rv a25, iv (0 : Int32), .val .null, .val .null, .val .null, .unset]) rfl k) ?_
      refine own_go (B := (T119.setTop (mkF m 143 #[iv p0, iv p1, iv p2, iv (0 : Int32), iv (4 : Int32), rv a1, rv a4, rv a9, rv a16, rv a25, iv (0 : Int32), .val .null, .val .null, .val .null, .unset] [(.ref a25)]))) (fun t k => XS.aload X119.here hx rfl (hb hby at_141) rfl rfl k) ?_
      obtain ⟨cq121, kq121, qa121, qb121, qc121⟩ := isOf hZ e119 Ex38
      obtain ⟨_, _, ⟨T121, L121, k121, n121⟩, -, X121, ⟨Lc121, hQ121, l121, y121, z121⟩, st121⟩ := X119.virtualBack hx (y := own_y7) (z := own_y7) hown (mvT hZ w_31) (mvT hZ w_32) (notFace_of_selects (args := #[]) (mvT hZ w_34)) (mvT hZ w_34) (mvT hZ w_33) (by decide) (backOf (W := 0) (own_tnone l Z a0 hw [] a25 T38.heap n0 gc38) hZ w_35 w_9 (by decide) (by decide)) qa121 qc121 (g := (mkF m 143 #[iv p0, iv p1, iv p2, iv (0 : Int32), iv (4 : Int32), rv a1, rv a4, rv a9, rv a16, rv a25, iv (0 : Int32), .val .null, .val .null, .val .null, .unset] [(.ref a25)])) rfl (by rw [hml]; rfl) (Steps.refl _) (argsL := []) (rest := []) (lenOf own_pd6 rfl) rfl (by show 2 * 0 + _ ≤ _; exact own_b rfl) (hb hby at_143) (fun _ _ => ⟨rfl, e119, (own_b rfl : 6 + 0 ≤ _), (own_b rfl : 9 + 0 ≤ _)⟩)
      dsimp only [Pt.U, Pt.locs, Pt.cells, Pt.slots] at X121 l121 y121 z121 st121 hQ121
      obtain ⟨rfl, Nq121, eq121⟩ := hQ121
      obtain ⟨L121, X121, N121⟩ := own_absC (K := 6) (K' := 9) X121 l121 y121 z121 N119 Nq121
      have e121 : T121.heap = T38.heap := eq121
      refine own_tr (B := (T121.setTop (mkF m 146 #[iv p0, iv p1, iv p2, iv (0 : Int32), iv (4 : Int32), rv a1, rv a4, rv a9, rv a16, rv a25, iv (0 : Int32), .val .null, .val .null, .val .null, .unset] [.null]))) st121 ?_
      refine own_go (B := (T121.setTop (mkF m 149 #[iv p0, iv p1, iv p2, iv (0 : Int32), iv (4 : Int32), rv a1, rv a4, rv a9, rv a16, rv a25, iv (0 : Int32), .val .null, .val .null, .val .null, .unset] [.null]))) (X121.checkcastNull hx (g := (mkF m 146 #[iv p0, iv p1, iv p2, iv (0 : Int32), iv (4 : Int32), rv a1, rv a4, rv a9, rv a16, rv a25, iv (0 : Int32), .val .null, .val .null, .val .null, .unset] [.null])) rfl rfl (hb hby at_146)) ?_
      refine own_go (B := (T121.setTop (mkF m 151 #[iv p0, iv p1, iv p2, iv (0 : Int32), iv (4 : Int32), rv a1, rv a4, rv a9, rv a16, rv a25, iv (0 : Int32), .val .null, .val .null, .val .null, .val .null] []))) (fun t k => XS.astore X121.here hx rfl (hb hby at_149) rfl rfl (l' := #[iv p0, iv p1, iv p2, iv (0 : Int32), iv (4 : Int32), rv a1, rv a4, rv a9, rv a16, rv a25, iv (0 : Int32), .val .null, .val .null, .val .null, .val .null]) rfl k) ?_
      refine own_go (B := (T121.setTop (mkF m 153 #[iv p0, iv p1, iv p2, iv (0 : Int32), iv (4 : Int32), rv a1, rv a4, rv a9, rv a16, rv a25, iv (0 : Int32), .val .null, .val .null, .val .null, .val .null] [.null]))) (fun t k => XS.aload X121.here hx rfl (hb hby at_151) rfl rfl k) ?_
      refine own_go (B := (T121.setTop (mkF m 155 #[iv p0, iv p1, iv p2, iv (0 : Int32), iv (4 : Int32), rv a1, rv a4, rv a9, rv a16, rv a25, iv (0 : Int32), .val .null, .val .null, .val .null, .val .null] [(.int (0 : Int32)), .null]))) (fun t k => XS.iload X121.here hx rfl (hb hby at_153) rfl k) ?_
      refine own_go (B := (T121.setTop (mkF m 156 #[iv p0, iv p1, iv p2, iv (0 : Int32), iv (4 : Int32), rv a1, rv a4, rv a9, rv a16, rv a25, iv (0 : Int32), .val .null, .val .null, .val .null, .val .null] [(.int (0 : Int32)), (.int (0 : Int32)), .null]))) (fun t k => own_iconst (v := (0 : Int32)) X121.here hx rfl (hb hby at_155) (by decide) k) ?_
      refine own_go (B := (T121.setTop (mkF m 157 #[iv p0, iv p1, iv p2, iv (0 : Int32), iv (4 : Int32), rv a1, rv a4, rv a9, rv a16, rv a25, iv (0 : Int32), .val .null, .val .null, .val .null, .val .null] [(.int p2), (.int (0 : Int32)), (.int (0 : Int32)), .null]))) (fun t k => XS.iloadN X121.here hx rfl (hb hby at_156) rfl k) ?_
      obtain ⟨_, _, ⟨T123, L123, k123, n123⟩, -, X123, ⟨Lc123, hQ123, l123, y123, z123⟩, st123⟩ := Jvm.LawKit.callS X121 hx (y := own_y8) hown (mvT hZ w_36) (mvT hZ w_37) (mvT hZ w_38) (mvT hZ w_39) (by decide) (backOf (W := 0) (own_same0 l Z a0 hw [] (0 : Int32) (0 : Int32) p2 T38.heap n0 (by decide)) hZ w_39 w_38 (by decide) (by decide)) (g := (mkF m 157 #[iv p0, iv p1, iv p2, iv (0 : Int32), iv (4 : Int32), rv a1, rv a4, rv a9, rv a16, rv a25, iv (0 : Int32), .val .null, .val .null, .val .null, .val .null] [(.int p2), (.int (0 : Int32)), (.int (0 : Int32)), .null])) rfl (by rw [hml]; rfl) (argsL := [.null, (.int (0 : Int32)), (.int (0 : Int32)), (.int p2)]) (rest := []) (lenOf own_pd7 rfl) rfl (by show 2 * 0 + _ ≤ _; exact own_b rfl) (hb hby at_157) (fun _ _ => ⟨rfl, e121, (own_b rfl : 6 + 0 ≤ _), (own_b rfl : 9 + 0 ≤ _)⟩)
      dsimp only [Pt.U, Pt.locs, Pt.cells, Pt.slots] at X123 l123 y123 z123 st123 hQ123
      obtain ⟨rfl, Nq123, eq123⟩ := hQ123
      obtain ⟨L123, X123, N123⟩ := own_absC (K := 6) (K' := 9) X123 l123 y123 z123 N121 Nq123
      have e123 : T123.heap = T38.heap := eq123
      refine own_go (B := (T123.setTop (mkF m 160 #[iv p0, iv p1, iv p2, iv (0 : Int32), iv (4 : Int32), rv a1, rv a4, rv a9, rv a16, rv a25, iv (0 : Int32), .val .null, .val .null, .val .null, .val .null] [(.int (1 : Int32))]))) st123 ?_
      have hc160 : ¬ (1 : Int32) = (0 : Int32) := (by decide)
      refine own_ifN X123 hx (hb hby at_160) (pn := 163) rfl hc160 ?_
      refine own_go (B := (T123.setTop (mkF m 165 #[iv p0, iv p1, iv p2, iv (0 : Int32), iv (4 : Int32), rv a1, rv a4, rv a9, rv a16, rv a25, iv (0 : Int32), .val .null, .val .null, .val .null, .val .null] [.null]))) (fun t k => XS.aload X123.here hx rfl (hb hby at_163) rfl rfl k) ?_
      refine own_go (B := (T123.setTop (mkF m 167 #[iv p0, iv p1, iv p2, iv (0 : Int32), iv (4 : Int32), rv a1, rv a4, rv a9, rv a16, rv a25, iv (0 : Int32), .val .null, .val .null, .val .null, .val .null] [(.int (0 : Int32)), .null]))) (fun t k => XS.iload X123.here hx rfl (hb hby at_165) rfl k) ?_
      refine own_go (B := (T123.setTop (mkF m 168 #[iv p0, iv p1, iv p2, iv (0 : Int32), iv (4 : Int32), rv a1, rv a4, rv a9, rv a16, rv a25, iv (0 : Int32), .val .null, .val .null, .val .null, .val .null] [(.int (1 : Int32)), (.int (0 : Int32)), .null]))) (fun t k => own_iconst (v := (1 : Int32)) X123.here hx rfl (hb hby at_167) (by decide) k) ?_
      refine own_go (B := (T123.setTop (mkF m 169 #[iv p0, iv p1, iv p2, iv (0 : Int32), iv (4 : Int32), rv a1, rv a4, rv a9, rv a16, rv a25, iv (0 : Int32), .val .null, .val .null, .val .null, .val .null] [(.int p2), (.int (1 : Int32)), (.int (0 : Int32)), .null]))) (fun t k => XS.iloadN X123.here hx rfl (hb hby at_168) rfl k) ?_
      obtain ⟨_, _, ⟨T124, L124, k124, n124⟩, -, X124, ⟨Lc124, hQ124, l124, y124, z124⟩, st124⟩ := Jvm.LawKit.callS X123 hx (y := own_y8) hown (mvT hZ w_36) (mvT hZ w_37) (mvT hZ w_38) (mvT hZ w_39) (by decide) (backOf (W := 0) (own_same0 l Z a0 hw [] (0 : Int32) (1 : Int32) p2 T38.heap n0 (by decide)) hZ w_39 w_38 (by decide) (by decide)) (g := (mkF m 169 #[iv p0, iv p1, iv p2, iv (0 : Int32), iv (4 : Int32), rv a1, rv a4, rv a9, rv a16, rv a25, iv (0 : Int32), .val .null, .val .null, .val .null, .val .null] [(.int p2), (.int (1 : Int32)), (.int (0 : Int32)), .null])) rfl (by rw [hml]; rfl) (argsL := [.null, (.int (0 : Int32)), (.int (1 : Int32)), (.int p2)]) (rest := []) (lenOf own_pd7 rfl) rfl (by show 2 * 0 + _ ≤ _; exact own_b rfl) (hb hby at_169) (fun _ _ => ⟨rfl, e123, (own_b rfl : 6 + 0 ≤ _), (own_b rfl : 9 + 0 ≤ _)⟩)
      dsimp only [Pt.U, Pt.locs, Pt.cells, Pt.slots] at X124 l124 y124 z124 st124 hQ124
      obtain ⟨rfl, Nq124, eq124⟩ := hQ124
      obtain ⟨L124, X124, N124⟩ := own_absC (K := 6) (K' := 9) X124 l124 y124 z124 N123 Nq124
      have e124 : T124.heap = T38.heap := eq124
      refine own_go (B := (T124.setTop (mkF m 172 #[iv p0, iv p1, iv p2, iv (0 : Int32), iv (4 : Int32), rv a1, rv a4, rv a9, rv a16, rv a25, iv (0 : Int32), .val .null, .val .null, .val .null, .val .null] [(.int (1 : Int32))]))) st124 ?_
      have hc172 : ¬ (1 : Int32) = (0 : Int32) := (by decide)
      refine own_ifN X124 hx (hb hby at_172) (pn := 175) rfl hc172 ?_
      refine own_go (B := (T124.setTop (mkF m 177 #[iv p0, iv p1, iv p2, iv (0 : Int32), iv (4 : Int32), rv a1, rv a4, rv a9, rv a16, rv a25, iv (0 : Int32), .val .null, .val .null, .val .null, .val .null] [.null]))) (fun t k => XS.aload X124.here hx rfl (hb hby at_175) rfl rfl k) ?_
      refine own_go (B := (T124.setTop (mkF m 179 #[iv p0, iv p1, iv p2, iv (0 : Int32), iv (4 : Int32), rv a1, rv a4, rv a9, rv a16, rv a25, iv (0 : Int32), .val .null, .val .null, .val .null, .val .null] [(.int (0 : Int32)), .null]))) (fun t k => XS.iload X124.here hx rfl (hb hby at_177) rfl k) ?_
      refine own_go (B := (T124.setTop (mkF m 180 #[iv p0, iv p1, iv p2, iv (0 : Int32), iv (4 : Int32), rv a1, rv a4, rv a9, rv a16, rv a25, iv (0 : Int32), .val .null, .val .null, .val .null, .val .null] [(.int (2 : Int32)), (.int (0 : Int32)), .null]))) (fun t k => own_iconst (v := (2 : Int32)) X124.here hx rfl (hb hby at_179) (by decide) k) ?_
      refine own_go (B := (T124.setTop (mkF m 181 #[iv p0, iv p1, iv p2, iv (0 : Int32), iv (4 : Int32), rv a1, rv a4, rv a9, rv a16, rv a25, iv (0 : Int32), .val .null, .val .null, .val .null, .val .null] [(.int p2), (.int (2 : Int32)), (.int (0 : Int32)), .null]))) (fun t k => XS.iloadN X124.here hx rfl (hb hby at_180) rfl k) ?_
      obtain ⟨_, _, ⟨T125, L125, k125, n125⟩, -, X125, ⟨Lc125, hQ125, l125, y125, z125⟩, st125⟩ := Jvm.LawKit.callS X124 hx (y := own_y8) hown (mvT hZ w_36) (mvT hZ w_37) (mvT hZ w_38) (mvT hZ w_39) (by decide) (backOf (W := 0) (own_same0 l Z a0 hw [] (0 : Int32) (2 : Int32) p2 T38.heap n0 (by decide)) hZ w_39 w_38 (by decide) (by decide)) (g := (mkF m 181 #[iv p0, iv p1, iv p2, iv (0 : Int32), iv (4 : Int32), rv a1, rv a4, rv a9, rv a16, rv a25, iv (0 : Int32), .val .null, .val .null, .val .null, .val .null] [(.int p2), (.int (2 : Int32)), (.int (0 : Int32)), .null])) rfl (by rw [hml]; rfl) (argsL := [.null, (.int (0 : Int32)), (.int (2 : Int32)), (.int p2)]) (rest := []) (lenOf own_pd7 rfl) rfl (by show 2 * 0 + _ ≤ _; exact own_b rfl) (hb hby at_181) (fun _ _ => ⟨rfl, e124, (own_b rfl : 6 + 0 ≤ _), (own_b rfl : 9 + 0 ≤ _)⟩)
      dsimp only [Pt.U, Pt.locs, Pt.cells, Pt.slots] at X125 l125 y125 z125 st125 hQ125
      obtain ⟨rfl, Nq125, eq125⟩ := hQ125
      obtain ⟨L125, X125, N125⟩ := own_absC (K := 6) (K' := 9) X125 l125 y125 z125 N124 Nq125
      have e125 : T125.heap = T38.heap := eq125
      refine own_go (B := (T125.setTop (mkF m 184 #[iv p0, iv p1, iv p2, iv (0 : Int32), iv (4 : Int32), rv a1, rv a4, rv a9, rv a16, rv a25, iv (0 : Int32), .val .null, .val .null, .val .null, .val .null] [(.int (1 : Int32))]))) st125 ?_
      have hc184 : ¬ (1 : Int32) = (0 : Int32) := (by decide)
      refine own_ifN X125 hx (hb hby at_184) (pn := 187) rfl hc184 ?_
      refine own_go (B := (T125.setTop (mkF m 189 #[iv p0, iv p1, iv p2, iv (0 : Int32), iv (4 : Int32), rv a1, rv a4, rv a9, rv a16, rv a25, iv (0 : Int32), .val .null, .val .null, .val .null, .val .null] [.null]))) (fun t k => XS.aload X125.here hx rfl (hb hby at_187) rfl rfl k) ?_
      refine own_go (B := (T125.setTop (mkF m 191 #[iv p0, iv p1, iv p2, iv (0 : Int32), iv (4 : Int32), rv a1, rv a4, rv a9, rv a16, rv a25, iv (0 : Int32), .val .null, .val .null, .val .null, .val .null] [(.int (0 : Int32)), .null]))) (fun t k => XS.iload X125.here hx rfl (hb hby at_189) rfl k) ?_
      refine own_go (B := (T125.setTop (mkF m 192 #[iv p0, iv p1, iv p2, iv (0 : Int32), iv (4 : Int32), rv a1, rv a4, rv a9, rv a16, rv a25, iv (0 : Int32), .val .null, .val .null, .val .null, .val .null] [(.int (3 : Int32)), (.int (0 : Int32)), .null]))) (fun t k => own_iconst (v := (3 : Int32)) X125.here hx rfl (hb hby at_191) (by decide) k) ?_
      refine own_go (B := (T125.setTop (mkF m 193 #[iv p0, iv p1, iv p2, iv (0 : Int32), iv (4 : Int32), rv a1, rv a4, rv a9, rv a16, rv a25, iv (0 : Int32), .val .null, .val .null, .val .null, .val .null] [(.int p2), (.int (3 : Int32)), (.int (0 : Int32)), .null]))) (fun t k => XS.iloadN X125.here hx rfl (hb hby at_192) rfl k) ?_
      obtain ⟨_, _, ⟨T126, L126, k126, n126⟩, -, X126, ⟨Lc126, hQ126, l126, y126, z126⟩, st126⟩ := Jvm.LawKit.callS X125 hx (y := own_y8) hown (mvT hZ w_36) (mvT hZ w_37) (mvT hZ w_38) (mvT hZ w_39) (by decide) (backOf (W := 0) (own_same0 l Z a0 hw [] (0 : Int32) (3 : Int32) p2 T38.heap n0 (by decide)) hZ w_39 w_38 (by decide) (by decide)) (g := (mkF m 193 #[iv p0, iv p1, iv p2, iv (0 : Int32), iv (4 : Int32), rv a1, rv a4, rv a9, rv a16, rv a25, iv (0 : Int32), .val .null, .val .null, .val .null, .val .null] [(.int p2), (.int (3 : Int32)), (.int (0 : Int32)), .null])) rfl (by rw [hml]; rfl) (argsL := [.null, (.int (0 : Int32)), (.int (3 : Int32)), (.int p2)]) (rest := []) (lenOf own_pd7 rfl) rfl (by show 2 * 0 + _ ≤ _; exact own_b rfl) (hb hby at_193) (fun _ _ => ⟨rfl, e125, (own_b rfl : 6 + 0 ≤ _), (own_b rfl : 9 + 0 ≤ _)⟩)
      dsimp only [Pt.U, Pt.locs, Pt.cells, Pt.slots] at X126 l126 y126 z126 st126 hQ126
      obtain ⟨rfl, Nq126, eq126⟩ := hQ126
      obtain ⟨L126, X126, N126⟩ := own_absC (K := 6) (K' := 9) X126 l126 y126 z126 N125 Nq126
      have e126 : T126.heap = T38.heap := eq126
      refine own_go (B := (T126.setTop (mkF m 196 #[iv p0, iv p1, iv p2, iv (0 : Int32), iv (4 : Int32), rv a1, rv a4, rv a9, rv a16, rv a25, iv (0 : Int32), .val .null, .val .null, .val .null, .val .null] [(.int (1 : Int32))]))) st126 ?_
      have hc196 : ¬ (1 : Int32) = (0 : Int32) := (by decide)
      refine own_ifN X126 hx (hb hby at_196) (pn := 199) rfl hc196 ?_
      refine own_go (B := (T126.setTop (mkF m 200 #[iv p0, iv p1, iv p2, iv (0 : Int32), iv (4 : Int32), rv a1, rv a4, rv a9, rv a16, rv a25, iv (0 : Int32), .val .null, .val .null, .val .null, .val .null] [(.int (1 : Int32))]))) (fun t k => own_iconst (v := (1 : Int32)) X126.here hx rfl (hb hby at_199) (by decide) k) ?_
      refine own_go (B := (T126.setTop (mkF m 204 #[iv p0, iv p1, iv p2, iv (0 : Int32), iv (4 : Int32), rv a1, rv a4, rv a9, rv a16, rv a25, iv (0 : Int32), .val .null, .val .null, .val .null, .val .null] [(.int (1 : Int32))]))) (fun t k => XS.goto X126.here hx rfl (pc0 := 200) (pc' := 204) rfl (hb hby at_200) (by decide) (by decide) k) ?_
      exact own_retZ X126 hx hlk Bd.returns (hb hby at_204) (by decide) (own_b rfl) (own_b rfl) (Q := (own_law_Q Z p0 p1 p2 ca h0 n0)) ⟨rfl, N126⟩
  · have Vb : own_Ao Z T38.heap ar38 "java/lang/Object" [.null] := by have q := gv38; rw [show (1 : Int32).toNatClampNeg = 1 from by decide] at q; exact q
    rcases own_c5 hz10 with rfl | rfl | rfl | rfl | rfl
    · refine own_go (B := (T38.setTop (mkF m 54 #[iv p0, iv p1, iv p2, iv (1 : Int32), iv (0 : Int32), rv a1, rv a4, rv a9, rv a16, rv a25, .unset, .unset, .unset, .unset, .unset] [(.int (0 : Int32))]))) (fun t k => XS.iload X38.here hx rfl (hb hby at_52) rfl k) ?_
      have hc54 : ¬ (0 : Int32) < (0 : Int32) := (by decide)
      refine own_ifY X38 hx (hb hby at_54) (pc' := 64) (by decide) (by decide) hc54 ?_
      refine own_go (B := (T38.setTop (mkF m 66 #[iv p0, iv p1, iv p2, iv (1 : Int32), iv (0 : Int32), rv a1, rv a4, rv a9, rv a16, rv a25, .unset, .unset, .unset, .unset, .unset] [(.int (0 : Int32))]))) (fun t k => XS.iload X38.here hx rfl (hb hby at_64) rfl k) ?_
      refine own_go (B := (T38.setTop (mkF m 67 #[iv p0, iv p1, iv p2, iv (1 : Int32), iv (0 : Int32), rv a1, rv a4, rv a9, rv a16, rv a25, .unset, .unset, .unset, .unset, .unset] [(.int (1 : Int32)), (.int (0 : Int32))]))) (fun t k => own_iconst (v := (1 : Int32)) X38.here hx rfl (hb hby at_66) (by decide) k) ?_
      have hc67 : ¬ (1 : Int32) < (0 : Int32) := (by decide)
      refine own_icmpY X38 hx (hb hby at_67) (pc' := 77) (by decide) (by decide) hc67 ?_
      refine own_go (B := (T38.setTop (mkF m 79 #[iv p0, iv p1, iv p2, iv (1 : Int32), iv (0 : Int32), rv a1, rv a4, rv a9, rv a16, rv a25, .unset, .unset, .unset, .unset, .unset] [(.int (0 : Int32))]))) (fun t k => XS.iload X38.here hx rfl (hb hby at_77) rfl k) ?_
      refine own_go (B := (T38.setTop (mkF m 80 #[iv p0, iv p1, iv p2, iv (1 : Int32), iv (0 : Int32), rv a1, rv a4, rv a9, rv a16, rv a25, .unset, .unset, .unset, .unset, .unset] [(.int (2 : Int32)), (.int (0 : Int32))]))) (fun t k => own_iconst (v := (2 : Int32)) X38.here hx rfl (hb hby at_79) (by decide) k) ?_
      have hc80 : ¬ (2 : Int32) < (0 : Int32) := (by decide)
      refine own_icmpY X38 hx (hb hby at_80) (pc' := 90) (by decide) (by decide) hc80 ?_
      refine own_go (B := (T38.setTop (mkF m 92 #[iv p0, iv p1, iv p2, iv (1 : Int32), iv (0 : Int32), rv a1, rv a4, rv a9, rv a16, rv a25, .unset, .unset, .unset, .unset, .unset] [(.int (0 : Int32))]))) (fun t k => XS.iload X38.here hx rfl (hb hby at_90) rfl k) ?_
      refine own_go (B := (T38.setTop (mkF m 93 #[iv p0, iv p1, iv p2, iv (1 : Int32), iv (0 : Int32), rv a1, rv a4, rv a9, rv a16, rv a25, .unset, .unset, .unset, .unset, .unset] [(.int (3 : Int32)), (.int (0 : Int32))]))) (fun t k => own_iconst (v := (3 : Int32)) X38.here hx rfl (hb hby at_92) (by decide) k) ?_
      have hc93 : ¬ (3 : Int32) < (0 : Int32) := (by decide)
      refine own_icmpY X38 hx (hb hby at_93) (pc' := 103) (by decide) (by decide) hc93 ?_
      refine own_go (B := (T38.setTop (mkF m 105 #[iv p0, iv p1, iv p2, iv (1 : Int32), iv (0 : Int32), rv a1, rv a4, rv a9, rv a16, rv a25, .unset, .unset, .unset, .unset, .unset] [(.int (0 : Int32))]))) (fun t k => XS.iload X38.here hx rfl (hb hby at_103) rfl k) ?_
      refine own_go (B := (T38.setTop (mkF m 106 #[iv p0, iv p1, iv p2, iv (1 : Int32), iv (0 : Int32), rv a1, rv a4, rv a9, rv a16, rv a25, .unset, .unset, .unset, .unset, .unset] [(.int (1 : Int32)), (.int (0 : Int32))]))) (fun t k => XS.iloadN X38.here hx rfl (hb hby at_105) rfl k) ?_
      obtain ⟨_, _, ⟨T127, L127, k127, n127⟩, -, X127, ⟨Lc127, hQ127, l127, y127, z127⟩, st127⟩ := Jvm.LawKit.callS X38 hx (y := own_y6) hown (mvT hZ w_27) (mvT hZ w_28) (mvT hZ w_29) (mvT hZ w_30) (by decide) (backOf (W := 0) (own_mmin l Z a0 hw [] (0 : Int32) (1 : Int32) T38.heap n0) hZ w_30 w_29 (by decide) (by decide)) (g := (mkF m 106 #[iv p0, iv p1, iv p2, iv (1 : Int32), iv (0 : Int32), rv a1, rv a4, rv a9, rv a16, rv a25, .unset, .unset, .unset, .unset, .unset] [(.int (1 : Int32)), (.int (0 : Int32))])) rfl (by rw [hml]; rfl) (argsL := [(.int (0 : Int32)), (.int (1 : Int32))]) (rest := []) (lenOf own_pd5 rfl) rfl (by show 2 * 0 + _ ≤ _; exact own_b rfl) (hb hby at_106) (fun _ _ => ⟨rfl, rfl, (own_b rfl : 6 + 0 ≤ _), (own_b rfl : 9 + 0 ≤ _)⟩)
      dsimp only [Pt.U, Pt.locs, Pt.cells, Pt.slots] at X127 l127 y127 z127 st127 hQ127
      obtain ⟨rfl, Nq127, eq127⟩ := hQ127
      obtain ⟨L127, X127, N127⟩ := own_absC (K := 6) (K' := 9) X127 l127 y127 z127 N38 Nq127
      have e127 : T127.heap = T38.heap := eq127
      refine own_go (B := (T127.setTop (mkF m 109 #[iv p0, iv p1, iv p2, iv (1 : Int32), iv (0 : Int32), rv a1, rv a4, rv a9, rv a16, rv a25, .unset, .unset, .unset, .unset, .unset] [(.int (own_min (0 : Int32) (1 : Int32)))]))) st127 ?_
      rw [show own_min (0 : Int32) (1 : Int32) = (0 : Int32) from by decide]
      refine own_go (B := (T127.setTop (mkF m 111 #[iv p0, iv p1, iv p2, iv (1 : Int32), iv (0 : Int32), rv a1, rv a4, rv a9, rv a16, rv a25, iv (0 : Int32), .unset, .unset, .unset, .unset] []))) (fun t k => XS.istore X127.here hx rfl (hb hby at_109) rfl (l' := #[iv p0, iv p1, iv p2, iv (1 : Int32), iv (0 : Int32), rv a1, rv a4, rv a9, rv a16, rv a25, iv (0 : Int32), .unset, .unset, .unset, .unset]) rfl k) ?_
      refine own_go (B := (T127.setTop (mkF m 113 #[iv p0, iv p1, iv p2, iv (1 : Int32), iv (0 : Int32), rv a1, rv a4, rv a9, rv a16, rv a25, iv (0 : Int32), .unset, .unset, .unset, .unset] [(.ref a25)]))) (fun t k => XS.aload X127.here hx rfl (hb hby at_111) rfl rfl k) ?_
      obtain ⟨cq128, kq128, qa128, qb128, qc128⟩ := isOf hZ e127 Ex38
      obtain ⟨_, _, ⟨T128, L128, k128, n128⟩, -, X128, ⟨Lc128, hQ128, l128, y128, z128⟩, st128⟩ := X127.virtualBack hx (y := own_y7) (z := own_y7) hown (mvT hZ w_31) (mvT hZ w_32) (notFace_of_selects (args := #[]) (mvT hZ w_34)) (mvT hZ w_34) (mvT hZ w_33) (by decide) (backOf (W := 0) (own_tnone l Z a0 hw [] a25 T38.heap n0 gc38) hZ w_35 w_9 (by decide) (by decide)) qa128 qc128 (g := (mkF m 113 #[iv p0, iv p1, iv p2, iv (1 : Int32), iv (0 : Int32), rv a1, rv a4, rv a9, rv a16, rv a25, iv (0 : Int32), .unset, .unset, .unset, .unset] [(.ref a25)])) rfl (by rw [hml]; rfl) (Steps.refl _) (argsL := []) (rest := []) (lenOf own_pd6 rfl) rfl (by show 2 * 0 + _ ≤ _; exact own_b rfl) (hb hby at_113) (fun _ _ => ⟨rfl, e127, (own_b rfl : 6 + 0 ≤ _), (own_b rfl : 9 + 0 ≤ _)⟩)
      dsimp only [Pt.U, Pt.locs, Pt.cells, Pt.slots] at X128 l128 y128 z128 st128 hQ128
      obtain ⟨rfl, Nq128, eq128⟩ := hQ128
      obtain ⟨L128, X128, N128⟩ := own_absC (K := 6) (K' := 9) X128 l128 y128 z128 N127 Nq128
      have e128 : T128.heap = T38.heap := eq128
      refine own_tr (B := (T128.setTop (mkF m 116 #[iv p0, iv p1, iv p2, iv (1 : Int32), iv (0 : Int32), rv a1, rv a4, rv a9, rv a16, rv a25, iv (0 : Int32), .unset, .unset, .unset, .unset] [.null]))) st128 ?_
      refine own_go (B := (T128.setTop (mkF m 119 #[iv p0, iv p1, iv p2, iv (1 : Int32), iv (0 : Int32), rv a1, rv a4, rv a9, rv a16, rv a25, iv (0 : Int32), .unset, .unset, .unset, .unset] [.null]))) (X128.checkcastNull hx (g := (mkF m 116 #[iv p0, iv p1, iv p2, iv (1 : Int32), iv (0 : Int32), rv a1, rv a4, rv a9, rv a16, rv a25, iv (0 : Int32), .unset, .unset, .unset, .unset] [.null])) rfl rfl (hb hby at_116)) ?_
      refine own_go (B := (T128.setTop (mkF m 121 #[iv p0, iv p1, iv p2, iv (1 : Int32), iv (0 : Int32), rv a1, rv a4, rv a9, rv a16, rv a25, iv (0 : Int32), .val .null, .unset, .unset, .unset] []))) (fun t k => XS.astore X128.here hx rfl (hb hby at_119) rfl rfl (l' := #[iv p0, iv p1, iv p2, iv (1 : Int32), iv (0 : Int32), rv a1, rv a4, rv a9, rv a16, rv a25, iv (0 : Int32), .val .null, .unset, .unset, .unset]) rfl k) ?_
      refine own_go (B := (T128.setTop (mkF m 123 #[iv p0, iv p1, iv p2, iv (1 : Int32), iv (0 : Int32), rv a1, rv a4, rv a9, rv a16, rv a25, iv (0 : Int32), .val .null, .unset, .unset, .unset] [(.ref a25)]))) (fun t k => XS.aload X128.here hx rfl (hb hby at_121) rfl rfl k) ?_
      obtain ⟨cq130, kq130, qa130, qb130, qc130⟩ := isOf hZ e128 Ex38
      obtain ⟨_, _, ⟨T130, L130, k130, n130⟩, -, X130, ⟨Lc130, hQ130, l130, y130, z130⟩, st130⟩ := X128.virtualBack hx (y := own_y7) (z := own_y7) hown (mvT hZ w_31) (mvT hZ w_32) (notFace_of_selects (args := #[]) (mvT hZ w_34)) (mvT hZ w_34) (mvT hZ w_33) (by decide) (backOf (W := 0) (own_tnone l Z a0 hw [] a25 T38.heap n0 gc38) hZ w_35 w_9 (by decide) (by decide)) qa130 qc130 (g := (mkF m 123 #[iv p0, iv p1, iv p2, iv (1 : Int32), iv (0 : Int32), rv a1, rv a4, rv a9, rv a16, rv a25, iv (0 : Int32), .val .null, .unset, .unset, .unset] [(.ref a25)])) rfl (by rw [hml]; rfl) (Steps.refl _) (argsL := []) (rest := []) (lenOf own_pd6 rfl) rfl (by show 2 * 0 + _ ≤ _; exact own_b rfl) (hb hby at_123) (fun _ _ => ⟨rfl, e128, (own_b rfl : 6 + 0 ≤ _), (own_b rfl : 9 + 0 ≤ _)⟩)
      dsimp only [Pt.U, Pt.locs, Pt.cells, Pt.slots] at X130 l130 y130 z130 st130 hQ130
      obtain ⟨rfl, Nq130, eq130⟩ := hQ130
      obtain ⟨L130, X130, N130⟩ := own_absC (K := 6) (K' := 9) X130 l130 y130 z130 N128 Nq130
      have e130 : T130.heap = T38.heap := eq130
      refine own_tr (B := (T130.setTop (mkF m 126 #[iv p0, iv p1, iv p2, iv (1 : Int32), iv (0 : Int32), rv a1, rv a4, rv a9, rv a16, rv a25, iv (0 : Int32), .val .null, .unset, .unset, .unset] [.null]))) st130 ?_
      refine own_go (B := (T130.setTop (mkF m 129 #[iv p0, iv p1, iv p2, iv (1 : Int32), iv (0 : Int32), rv a1, rv a4, rv a9, rv a16, rv a25, iv (0 : Int32), .val .null, .unset, .unset, .unset] [.null]))) (X130.checkcastNull hx (g := (mkF m 126 #[iv p0, iv p1, iv p2, iv (1 : Int32), iv (0 : Int32), rv a1, rv a4, rv a9, rv a16, rv a25, iv (0 : Int32), .val .null, .unset, .unset, .unset] [.null])) rfl rfl (hb hby at_126)) ?_
      refine own_go (B := (T130.setTop (mkF m 131 #[iv p0, iv p1, iv p2, iv (1 : Int32), iv (0 : Int32), rv a1, rv a4, rv a9, rv a16, rv a25, iv (0 : Int32), .val .null, .val .null, .unset, .unset] []))) (fun t k => XS.astore X130.here hx rfl (hb hby at_129) rfl rfl (l' := #[iv p0, iv p1, iv p2, iv (1 : Int32), iv (0 : Int32), rv a1, rv a4, rv a9, rv a16, rv a25, iv (0 : Int32), .val .null, .val .null, .unset, .unset]) rfl k) ?_
      refine own_go (B := (T130.setTop (mkF m 133 #[iv p0, iv p1, iv p2, iv (1 : Int32), iv (0 : Int32), rv a1, rv a4, rv a9, rv a16, rv a25, iv (0 : Int32), .val .null, .val .null, .unset, .unset] [(.ref a25)]))) (fun t k => XS.aload X130.here hx rfl (hb hby at_131) rfl rfl k) ?_
      obtain ⟨cq132, kq132, qa132, qb132, qc132⟩ := isOf hZ e130 Ex38
      obtain ⟨_, _, ⟨T132, L132, k132, n132⟩, -, X132, ⟨Lc132, hQ132, l132, y132, z132⟩, st132⟩ := X130.virtualBack hx (y := own_y7) (z := own_y7) hown (mvT hZ w_31) (mvT hZ w_32) (notFace_of_selects (args := #[]) (mvT hZ w_34)) (mvT hZ w_34) (mvT hZ w_33) (by decide) (backOf (W := 0) (own_tnone l Z a0 hw [] a25 T38.heap n0 gc38) hZ w_35 w_9 (by decide) (by decide)) qa132 qc132 (g := (mkF m 133 #[iv p0, iv p1, iv p2, iv (1 : Int32), iv (0 : Int32), rv a1, rv a4, rv a9, rv a16, rv a25, iv (0 : Int32), .val .null, .val .null, .unset, .unset] [(.ref a25)])) rfl (by rw [hml]; rfl) (Steps.refl _) (argsL := []) (rest := []) (lenOf own_pd6 rfl) rfl (by show 2 * 0 + _ ≤ _; exact own_b rfl) (hb hby at_133) (fun _ _ => ⟨rfl, e130, (own_b rfl : 6 + 0 ≤ _), (own_b rfl : 9 + 0 ≤ _)⟩)
      dsimp only [Pt.U, Pt.locs, Pt.cells, Pt.slots] at X132 l132 y132 z132 st132 hQ132
      obtain ⟨rfl, Nq132, eq132⟩ := hQ132
      obtain ⟨L132, X132, N132⟩ := own_absC (K := 6) (K' := 9) X132 l132 y132 z132 N130 Nq132
      have e132 : T132.heap = T38.heap := eq132
      refine own_tr (B := (T132.setTop (mkF m 136 #[iv p0, iv p1, iv p2, iv (1 : Int32), iv (0 : Int32), rv a1, rv a4, rv a9, rv a16, rv a25, iv (0 : Int32), .val .null, .val .null, .unset, .unset] [.null]))) st132 ?_
      refine own_go (B := (T132.setTop (mkF m 139 #[iv p0, iv p1, iv p2, iv (1 : Int32), iv (0 : Int32), rv a1, rv a4, rv a9, rv a16, rv a25, iv (0 : Int32), .val .null, .val .null, .unset, .unset] [.null]))) (X132.checkcastNull hx (g := (mkF m 136 #[iv p0, iv p1, iv p2, iv (1 : Int32), iv (0 : Int32), rv a1, rv a4, rv a9, rv a16, rv a25, iv (0 : Int32), .val .null, .val .null, .unset, .unset] [.null])) rfl rfl (hb hby at_136)) ?_
      refine own_go (B := (T132.setTop (mkF m 141 #[iv p0, iv p1, iv p2, iv (1 : Int32), iv (0 : Int32), rv a1, rv a4, rv a9, rv a16, rv a25, iv (0 : Int32), .val .null, .val .null, .val .null, .unset] []))) (fun t k => XS.astore X132.here hx rfl (hb hby at_139) rfl rfl (l' := #[iv p0, iv p1, iv p2, iv (1 : Int32), iv (0 : Int32), rv a1, rv a4, rv a9, rv a16, rv a25, iv (0 : Int32), .val .null, .val .null, .val .null, .unset]) rfl k) ?_
      refine own_go (B := (T132.setTop (mkF m 143 #[iv p0, iv p1, iv p2, iv (1 : Int32), iv (0 : Int32), rv a1, rv a4, rv a9, rv a16, rv a25, iv (0 : Int32), .val .null, .val .null, .val .null, .unset] [(.ref a25)]))) (fun t k => XS.aload X132.here hx rfl (hb hby at_141) rfl rfl k) ?_
      obtain ⟨cq134, kq134, qa134, qb134, qc134⟩ := isOf hZ e132 Ex38
      obtain ⟨_, _, ⟨T134, L134, k134, n134⟩, -, X134, ⟨Lc134, hQ134, l134, y134, z134⟩, st134⟩ := X132.virtualBack hx (y := own_y7) (z := own_y7) hown (mvT hZ w_31) (mvT hZ w_32) (notFace_of_selects (args := #[]) (mvT hZ w_34)) (mvT hZ w_34) (mvT hZ w_33) (by decide) (backOf (W := 0) (own_tnone l Z a0 hw [] a25 T38.heap n0 gc38) hZ w_35 w_9 (by decide) (by decide)) qa134 qc134 (g := (mkF m 143 #[iv p0, iv p1, iv p2, iv (1 : Int32), iv (0 : Int32), rv a1, rv a4, rv a9, rv a16, rv a25, iv (0 : Int32), .val .null, .val .null, .val .null, .unset] [(.ref a25)])) rfl (by rw [hml]; rfl) (Steps.refl _) (argsL := []) (rest := []) (lenOf own_pd6 rfl) rfl (by show 2 * 0 + _ ≤ _; exact own_b rfl) (hb hby at_143) (fun _ _ => ⟨rfl, e132, (own_b rfl : 6 + 0 ≤ _), (own_b rfl : 9 + 0 ≤ _)⟩)
      dsimp only [Pt.U, Pt.locs, Pt.cells, Pt.slots] at X134 l134 y134 z134 st134 hQ134
      obtain ⟨rfl, Nq134, eq134⟩ := hQ134
      obtain ⟨L134, X134, N134⟩ := own_absC (K := 6) (K' := 9) X134 l134 y134 z134 N132 Nq134
      have e134 : T134.heap = T38.heap := eq134
      refine own_tr (B := (T134.setTop (mkF m 146 #[iv p0, iv p1, iv p2, iv (1 : Int32), iv (0 : Int32), rv a1, rv a4, rv a9, rv a16, rv a25, iv (0 : Int32), .val .null, .val .null, .val .null, .unset] [.null]))) st134 ?_
      refine own_go (B := (T134.setTop (mkF m 149 #[iv p0, iv p1, iv p2, iv (1 : Int32), iv (0 : Int32), rv a1, rv a4, rv a9, rv a16, rv a25, iv (0 : Int32), .val .null, .val .null, .val .null, .unset] [.null]))) (X134.checkcastNull hx (g := (mkF m 146 #[iv p0, iv p1, iv p2, iv (1 : Int32), iv (0 : Int32), rv a1, rv a4, rv a9, rv a16, rv a25, iv (0 : Int32), .val .null, .val .null, .val .null, .unset] [.null])) rfl rfl (hb hby at_146)) ?_
      refine own_go (B := (T134.setTop (mkF m 151 #[iv p0, iv p1, iv p2, iv (1 : Int32), iv (0 : Int32), rv a1, rv a4, rv a9, rv a16, rv a25, iv (0 : Int32), .val .null, .val .null, .val .null, .val .null] []))) (fun t k => XS.astore X134.here hx rfl (hb hby at_149) rfl rfl (l' := #[iv p0, iv p1, iv p2, iv (1 : Int32), iv (0 : Int32), rv a1, rv a4, rv a9, rv a16, rv a25, iv (0 : Int32), .val .null, .val .null, .val .null, .val .null]) rfl k) ?_
      refine own_go (B := (T134.setTop (mkF m 153 #[iv p0, iv p1, iv p2, iv (1 : Int32), iv (0 : Int32), rv a1, rv a4, rv a9, rv a16, rv a25, iv (0 : Int32), .val .null, .val .null, .val .null, .val .null] [.null]))) (fun t k => XS.aload X134.here hx rfl (hb hby at_151) rfl rfl k) ?_
      refine own_go (B := (T134.setTop (mkF m 155 #[iv p0, iv p1, iv p2, iv (1 : Int32), iv (0 : Int32), rv a1, rv a4, rv a9, rv a16, rv a25, iv (0 : Int32), .val .null, .val .null, .val .null, .val .null] [(.int (0 : Int32)), .null]))) (fun t k => XS.iload X134.here hx rfl (hb hby at_153) rfl k) ?_
      refine own_go (B := (T134.setTop (mkF m 156 #[iv p0, iv p1, iv p2, iv (1 : Int32), iv (0 : Int32), rv a1, rv a4, rv a9, rv a16, rv a25, iv (0 : Int32), .val .null, .val .null, .val .null, .val .null] [(.int (0 : Int32)), (.int (0 : Int32)), .null]))) (fun t k => own_iconst (v := (0 : Int32)) X134.here hx rfl (hb hby at_155) (by decide) k) ?_
      refine own_go (B := (T134.setTop (mkF m 157 #[iv p0, iv p1, iv p2, iv (1 : Int32), iv (0 : Int32), rv a1, rv a4, rv a9, rv a16, rv a25, iv (0 : Int32), .val .null, .val .null, .val .null, .val .null] [(.int p2), (.int (0 : Int32)), (.int (0 : Int32)), .null]))) (fun t k => XS.iloadN X134.here hx rfl (hb hby at_156) rfl k) ?_
      obtain ⟨_, _, ⟨T136, L136, k136, n136⟩, -, X136, ⟨Lc136, hQ136, l136, y136, z136⟩, st136⟩ := Jvm.LawKit.callS X134 hx (y := own_y8) hown (mvT hZ w_36) (mvT hZ w_37) (mvT hZ w_38) (mvT hZ w_39) (by decide) (backOf (W := 0) (own_same0 l Z a0 hw [] (0 : Int32) (0 : Int32) p2 T38.heap n0 (by decide)) hZ w_39 w_38 (by decide) (by decide)) (g := (mkF m 157 #[iv p0, iv p1, iv p2, iv (1 : Int32), iv (0 : Int32), rv a1, rv a4, rv a9, rv a16, rv a25, iv (0 : Int32), .val .null, .val .null, .val .null, .val .null] [(.int p2), (.int (0 : Int32)), (.int (0 : Int32)), .null])) rfl (by rw [hml]; rfl) (argsL := [.null, (.int (0 : Int32)), (.int (0 : Int32)), (.int p2)]) (rest := []) (lenOf own_pd7 rfl) rfl (by show 2 * 0 + _ ≤ _; exact own_b rfl) (hb hby at_157) (fun _ _ => ⟨rfl, e134, (own_b rfl : 6 + 0 ≤ _), (own_b rfl : 9 + 0 ≤ _)⟩)
      dsimp only [Pt.U, Pt.locs, Pt.cells, Pt.slots] at X136 l136 y136 z136 st136 hQ136
      obtain ⟨rfl, Nq136, eq136⟩ := hQ136
      obtain ⟨L136, X136, N136⟩ := own_absC (K := 6) (K' := 9) X136 l136 y136 z136 N134 Nq136
      have e136 : T136.heap = T38.heap := eq136
      refine own_go (B := (T136.setTop (mkF m 160 #[iv p0, iv p1, iv p2, iv (1 : Int32), iv (0 : Int32), rv a1, rv a4, rv a9, rv a16, rv a25, iv (0 : Int32), .val .null, .val .null, .val .null, .val .null] [(.int (1 : Int32))]))) st136 ?_
      have hc160 : ¬ (1 : Int32) = (0 : Int32) := (by decide)
      refine own_ifN X136 hx (hb hby at_160) (pn := 163) rfl hc160 ?_
      refine own_go (B := (T136.setTop (mkF m 165 #[iv p0, iv p1, iv p2, iv (1 : Int32), iv (0 : Int32), rv a1, rv a4, rv a9, rv a16, rv a25, iv (0 : Int32), .val .null, .val .null, .val .null, .val .null] [.null]))) (fun t k => XS.aload X136.here hx rfl (hb hby at_163) rfl rfl k) ?_
      refine own_go (B := (T136.setTop (mkF m 167 #[iv p0, iv p1, iv p2, iv (1 : Int32), iv (0 : Int32), rv a1, rv a4, rv a9, rv a16, rv a25, iv (0 : Int32), .val .null, .val .null, .val .null, .val .null] [(.int (0 : Int32)), .null]))) (fun t k => XS.iload X136.here hx rfl (hb hby at_165) rfl k) ?_
      refine own_go (B := (T136.setTop (mkF m 168 #[iv p0, iv p1, iv p2, iv (1 : Int32), iv (0 : Int32), rv a1, rv a4, rv a9, rv a16, rv a25, iv (0 : Int32), .val .null, .val .null, .val .null, .val .null] [(.int (1 : Int32)), (.int (0 : Int32)), .null]))) (fun t k => own_iconst (v := (1 : Int32)) X136.here hx rfl (hb hby at_167) (by decide) k) ?_
      refine own_go (B := (T136.setTop (mkF m 169 #[iv p0, iv p1, iv p2, iv (1 : Int32), iv (0 : Int32), rv a1, rv a4, rv a9, rv a16, rv a25, iv (0 : Int32), .val .null, .val .null, .val .null, .val .null] [(.int p2), (.int (1 : Int32)), (.int (0 : Int32)), .null]))) (fun t k => XS.iloadN X136.here hx rfl (hb hby at_168) rfl k) ?_
      obtain ⟨_, _, ⟨T137, L137, k137, n137⟩, -, X137, ⟨Lc137, hQ137, l137, y137, z137⟩, st137⟩ := Jvm.LawKit.callS X136 hx (y := own_y8) hown (mvT hZ w_36) (mvT hZ w_37) (mvT hZ w_38) (mvT hZ w_39) (by decide) (backOf (W := 0) (own_same0 l Z a0 hw [] (0 : Int32) (1 : Int32) p2 T38.heap n0 (by decide)) hZ w_39 w_38 (by decide) (by decide)) (g := (mkF m 169 #[iv p0, iv p1, iv p2, iv (1 : Int32), iv (0 : Int32), rv a1, rv a4, rv a9, rv a16, rv a25, iv (0 : Int32), .val .null, .val .null, .val .null, .val .null] [(.int p2), (.int (1 : Int32)), (.int (0 : Int32)), .null])) rfl (by rw [hml]; rfl) (argsL := [.null, (.int (0 : Int32)), (.int (1 : Int32)), (.int p2)]) (rest := []) (lenOf own_pd7 rfl) rfl (by show 2 * 0 + _ ≤ _; exact own_b rfl) (hb hby at_169) (fun _ _ => ⟨rfl, e136, (own_b rfl : 6 + 0 ≤ _), (own_b rfl : 9 + 0 ≤ _)⟩)
      dsimp only [Pt.U, Pt.locs, Pt.cells, Pt.slots] at X137 l137 y137 z137 st137 hQ137
      obtain ⟨rfl, Nq137, eq137⟩ := hQ137
      obtain ⟨L137, X137, N137⟩ := own_absC (K := 6) (K' := 9) X137 l137 y137 z137 N136 Nq137
      have e137 : T137.heap = T38.heap := eq137
      refine own_go (B := (T137.setTop (mkF m 172 #[iv p0, iv p1, iv p2, iv (1 : Int32), iv (0 : Int32), rv a1, rv a4, rv a9, rv a16, rv a25, iv (0 : Int32), .val .null, .val .null, .val .null, .val .null] [(.int (1 : Int32))]))) st137 ?_
      have hc172 : ¬ (1 : Int32) = (0 : Int32) := (by decide)
      refine own_ifN X137 hx (hb hby at_172) (pn := 175) rfl hc172 ?_
      refine own_go (B := (T137.setTop (mkF m 177 #[iv p0, iv p1, iv p2, iv (1 : Int32), iv (0 : Int32), rv a1, rv a4, rv a9, rv a16, rv a25, iv (0 : Int32), .val .null, .val .null, .val .null, .val .null] [.null]))) (fun t k => XS.aload X137.here hx rfl (hb hby at_175) rfl rfl k) ?_
      refine own_go (B := (T137.setTop (mkF m 179 #[iv p0, iv p1, iv p2, iv (1 : Int32), iv (0 : Int32), rv a1, rv a4, rv a9, rv a16, rv a25, iv (0 : Int32), .val .null, .val .null, .val .null, .val .null] [(.int (0 : Int32)), .null]))) (fun t k => XS.iload X137.here hx rfl (hb hby at_177) rfl k) ?_
      refine own_go (B := (T137.setTop (mkF m 180 #[iv p0, iv p1, iv p2, iv (1 : Int32), iv (0 : Int32), rv a1, rv a4, rv a9, rv a16, rv a25, iv (0 : Int32), .val .null, .val .null, .val .null, .val .null] [(.int (2 : Int32)), (.int (0 : Int32)), .null]))) (fun t k => own_iconst (v := (2 : Int32)) X137.here hx rfl (hb hby at_179) (by decide) k) ?_
      refine own_go (B := (T137.setTop (mkF m 181 #[iv p0, iv p1, iv p2, iv (1 : Int32), iv (0 : Int32), rv a1, rv a4, rv a9, rv a16, rv a25, iv (0 : Int32), .val .null, .val .null, .val .null, .val .null] [(.int p2), (.int (2 : Int32)), (.int (0 : Int32)), .null]))) (fun t k => XS.iloadN X137.here hx rfl (hb hby at_180) rfl k) ?_
      obtain ⟨_, _, ⟨T138, L138, k138, n138⟩, -, X138, ⟨Lc138, hQ138, l138, y138, z138⟩, st138⟩ := Jvm.LawKit.callS X137 hx (y := own_y8) hown (mvT hZ w_36) (mvT hZ w_37) (mvT hZ w_38) (mvT hZ w_39) (by decide) (backOf (W := 0) (own_same0 l Z a0 hw [] (0 : Int32) (2 : Int32) p2 T38.heap n0 (by decide)) hZ w_39 w_38 (by decide) (by decide)) (g := (mkF m 181 #[iv p0, iv p1, iv p2, iv (1 : Int32), iv (0 : Int32), rv a1, rv a4, rv a9, rv a16, rv a25, iv (0 : Int32), .val .null, .val .null, .val .null, .val .null] [(.int p2), (.int (2 : Int32)), (.int (0 : Int32)), .null])) rfl (by rw [hml]; rfl) (argsL := [.null, (.int (0 : Int32)), (.int (2 : Int32)), (.int p2)]) (rest := []) (lenOf own_pd7 rfl) rfl (by show 2 * 0 + _ ≤ _; exact own_b rfl) (hb hby at_181) (fun _ _ => ⟨rfl, e137, (own_b rfl : 6 + 0 ≤ _), (own_b rfl : 9 + 0 ≤ _)⟩)
      dsimp only [Pt.U, Pt.locs, Pt.cells, Pt.slots] at X138 l138 y138 z138 st138 hQ138
      obtain ⟨rfl, Nq138, eq138⟩ := hQ138
      obtain ⟨L138, X138, N138⟩ := own_absC (K := 6) (K' := 9) X138 l138 y138 z138 N137 Nq138
      have e138 : T138.heap = T38.heap := eq138
      refine own_go (B := (T138.setTop (mkF m 184 #[iv p0, iv p1, iv p2, iv (1 : Int32), iv (0 : Int32), rv a1, rv a4, rv a9, rv a16, rv a25, iv (0 : Int32), .val .null, .val .null, .val .null, .val .null] [(.int (1 : Int32))]))) st138 ?_
      have hc184 : ¬ (1 : Int32) = (0 : Int32) := (by decide)
      refine own_ifN X138 hx (hb hby at_184) (pn := 187) rfl hc184 ?_
      refine own_go (B := (T138.setTop (mkF m 189 #[iv p0, iv p1, iv p2, iv (1 : Int32), iv (0 : Int32), rv a1, rv a4, rv a9, rv a16, rv a25, iv (0 : Int32), .val .null, .val .null, .val .null, .val .null] [.null]))) (fun t k => XS.aload X138.here hx rfl (hb hby at_187) rfl rfl k) ?_
      refine own_go (B := (T138.setTop (mkF m 191 #[iv p0, iv p1, iv p2, iv (1 : Int32), iv (0 : Int32), rv a1, rv a4, rv a9, rv a16, rv a25, iv (0 : Int32), .val .null, .val .null, .val .null, .val .null] [(.int (0 : Int32)), .null]))) (fun t k => XS.iload X138.here hx rfl (hb hby at_189) rfl k) ?_
      refine own_go (B := (T138.setTop (mkF m 192 #[iv p0, iv p1, iv p2, iv (1 : Int32), iv (0 : Int32), rv a1, rv a4, rv a9, rv a16, rv a25, iv (0 : Int32), .val .null, .val .null, .val .null, .val .null] [(.int (3 : Int32)), (.int (0 : Int32)), .null]))) (fun t k => own_iconst (v := (3 : Int32)) X138.here hx rfl (hb hby at_191) (by decide) k) ?_
      refine own_go (B := (T138.setTop (mkF m 193 #[iv p0, iv p1, iv p2, iv (1 : Int32), iv (0 : Int32), rv a1, rv a4, rv a9, rv a16, rv a25, iv (0 : Int32), .val .null, .val .null, .val .null, .val .null] [(.int p2), (.int (3 : Int32)), (.int (0 : Int32)), .null]))) (fun t k => XS.iloadN X138.here hx rfl (hb hby at_192) rfl k) ?_
      obtain ⟨_, _, ⟨T139, L139, k139, n139⟩, -, X139, ⟨Lc139, hQ139, l139, y139, z139⟩, st139⟩ := Jvm.LawKit.callS X138 hx (y := own_y8) hown (mvT hZ w_36) (mvT hZ w_37) (mvT hZ w_38) (mvT hZ w_39) (by decide) (backOf (W := 0) (own_same0 l Z a0 hw [] (0 : Int32) (3 : Int32) p2 T38.heap n0 (by decide)) hZ w_39 w_38 (by decide) (by decide)) (g := (mkF m 193 #[iv p0, iv p1, iv p2, iv (1 : Int32), iv (0 : Int32), rv a1, rv a4, rv a9, rv a16, rv a25, iv (0 : Int32), .val .null, .val .null, .val .null, .val .null] [(.int p2), (.int (3 : Int32)), (.int (0 : Int32)), .null])) rfl (by rw [hml]; rfl) (argsL := [.null, (.int (0 : Int32)), (.int (3 : Int32)), (.int p2)]) (rest := []) (lenOf own_pd7 rfl) rfl (by show 2 * 0 + _ ≤ _; exact own_b rfl) (hb hby at_193) (fun _ _ => ⟨rfl, e138, (own_b rfl : 6 + 0 ≤ _), (own_b rfl : 9 + 0 ≤ _)⟩)
      dsimp only [Pt.U, Pt.locs, Pt.cells, Pt.slots] at X139 l139 y139 z139 st139 hQ139
      obtain ⟨rfl, Nq139, eq139⟩ := hQ139
      obtain ⟨L139, X139, N139⟩ := own_absC (K := 6) (K' := 9) X139 l139 y139 z139 N138 Nq139
      have e139 : T139.heap = T38.heap := eq139
      refine own_go (B := (T139.setTop (mkF m 196 #[iv p0, iv p1, iv p2, iv (1 : Int32), iv (0 : Int32), rv a1, rv a4, rv a9, rv a16, rv a25, iv (0 : Int32), .val .null, .val .null, .val .null, .val .null] [(.int (1 : Int32))]))) st139 ?_
      have hc196 : ¬ (1 : Int32) = (0 : Int32) := (by decide)
      refine own_ifN X139 hx (hb hby at_196) (pn := 199) rfl hc196 ?_
      refine own_go (B := (T139.setTop (mkF m 200 #[iv p0, iv p1, iv p2, iv (1 : Int32), iv (0 : Int32), rv a1, rv a4, rv a9, rv a16, rv a25, iv (0 : Int32), .val .null, .val .null, .val .null, .val .null] [(.int (1 : Int32))]))) (fun t k => own_iconst (v := (1 : Int32)) X139.here hx rfl (hb hby at_199) (by decide) k) ?_
      refine own_go (B := (T139.setTop (mkF m 204 #[iv p0, iv p1, iv p2, iv (1 : Int32), iv (0 : Int32), rv a1, rv a4, rv a9, rv a16, rv a25, iv (0 : Int32), .val .null, .val .null, .val .null, .val .null] [(.int (1 : Int32))]))) (fun t k => XS.goto X139.here hx rfl (pc0 := 200) (pc' := 204) rfl (hb hby at_200) (by decide) (by decide) k) ?_
      exact own_retZ X139 hx hlk Bd.returns (hb hby at_204) (by decide) (own_b rfl) (own_b rfl) (Q := (own_law_Q Z p0 p1 p2 ca h0 n0)) ⟨rfl, N139⟩
    · refine own_go (B := (T38.setTop (mkF m 54 #[iv p0, iv p1, iv p2, iv (1 : Int32), iv (1 : Int32), rv a1, rv a4, rv a9, rv a16, rv a25, .unset, .unset, .unset, .unset, .unset] [(.int (1 : Int32))]))) (fun t k => XS.iload X38.here hx rfl (hb hby at_52) rfl k) ?_
      have hc54 : (0 : Int32) < (1 : Int32) := (by decide)
      refine own_ifN X38 hx (hb hby at_54) (pn := 57) rfl hc54 ?_
      refine own_go (B := (T38.setTop (mkF m 59 #[iv p0, iv p1, iv p2, iv (1 : Int32), iv (1 : Int32), rv a1, rv a4, rv a9, rv a16, rv a25, .unset, .unset, .unset, .unset, .unset] [(.ref a25)]))) (fun t k => XS.aload X38.here hx rfl (hb hby at_57) rfl rfl k) ?_
      refine own_go (B := (T38.setTop (mkF m 61 #[iv p0, iv p1, iv p2, iv (1 : Int32), iv (1 : Int32), rv a1, rv a4, rv a9, rv a16, rv a25, .unset, .unset, .unset, .unset, .unset] [(.ref a1), (.ref a25)]))) (fun t k => XS.aload X38.here hx rfl (hb hby at_59) rfl rfl k) ?_
      obtain ⟨cq140, kq140, qa140, qb140, qc140⟩ := isOf hZ rfl Ex38
      obtain ⟨_, _, ⟨T140, L140, k140, n140⟩, -, X140, ⟨Lc140, hQ140, l140, y140, z140⟩, st140⟩ := X38.virtualBack hx (y := own_y9) (z := own_y9) hown (mvT hZ w_20) (mvT hZ w_21) (notFace_of_selects (args := #[]) (mvT hZ w_23)) (mvT hZ w_23) (mvT hZ w_22) (by decide) (backOf (W := 0) (own_kone l Z a0 hw [] a25 a1 ar38 (0 : Int32) (1 : Int32) (1 : Int32) [.null] [(.ref a1)] T38.heap n0 Ex38 gk38 gc38 Vb F39 gn25 gn_ar38 ne_ar38_a25 (own_lenL (n := 1) rfl (by decide)) (by decide) (by decide) (Nat.lt_of_lt_of_eq (by decide : _ < 1) rfl) (by decide) (Ins.of_exa (own_Bn_exa BB (List.mem_of_getElem? (i := 0) rfl)) w_40) rfl) hZ w_24 w_9 (by decide) (by decide)) qa140 qc140 (g := (mkF m 61 #[iv p0, iv p1, iv p2, iv (1 : Int32), iv (1 : Int32), rv a1, rv a4, rv a9, rv a16, rv a25, .unset, .unset, .unset, .unset, .unset] [(.ref a1), (.ref a25)])) rfl (by rw [hml]; rfl) (Steps.refl _) (argsL := [(.ref a1)]) (rest := []) (lenOf own_pd8 rfl) rfl (by show 2 * 0 + _ ≤ _; exact own_b rfl) (hb hby at_61) (fun _ _ => ⟨rfl, rfl, (own_b rfl : 6 + 0 ≤ _), (own_b rfl : 9 + 0 ≤ _)⟩)
      dsimp only [Pt.U, Pt.locs, Pt.cells, Pt.slots] at X140 l140 y140 z140 st140 hQ140
      obtain ⟨rfl, Nq140, K140, Ex140, gk140, gc140, gv140⟩ := hQ140
      obtain ⟨L140, X140, N140⟩ := own_absC (K := 6) (K' := 9) X140 l140 y140 z140 N38 Nq140
      have F141 : n0 ≤ T140.heap.size := Nat.le_trans F39 K140.1
      have F142 := Keep.trans F40 K140 (allS (Or.inr (Nat.le_trans F18.1 (Nat.le_of_eq ga25.symm))) (allS (Or.inr (Nat.le_trans K27.1 gz38)) all0))
      have F143 := Exa.keep Ex38 K140
      have F147 := own_Bn_keep BB K140 hbq
      refine own_tr (B := (T140.setTop (mkF m 64 #[iv p0, iv p1, iv p2, iv (1 : Int32), iv (1 : Int32), rv a1, rv a4, rv a9, rv a16, rv a25, .unset, .unset, .unset, .unset, .unset] []))) st140 ?_
      refine own_go (B := (T140.setTop (mkF m 66 #[iv p0, iv p1, iv p2, iv (1 : Int32), iv (1 : Int32), rv a1, rv a4, rv a9, rv a16, rv a25, .unset, .unset, .unset, .unset, .unset] [(.int (1 : Int32))]))) (fun t k => XS.iload X140.here hx rfl (hb hby at_64) rfl k) ?_
      refine own_go (B := (T140.setTop (mkF m 67 #[iv p0, iv p1, iv p2, iv (1 : Int32), iv (1 : Int32), rv a1, rv a4, rv a9, rv a16, rv a25, .unset, .unset, .unset, .unset, .unset] [(.int (1 : Int32)), (.int (1 : Int32))]))) (fun t k => own_iconst (v := (1 : Int32)) X140.here hx rfl (hb hby at_66) (by decide) k) ?_
      have hc67 : ¬ (1 : Int32) < (1 : Int32) := (by decide)
      refine own_icmpY X140 hx (hb hby at_67) (pc' := 77) (by decide) (by decide) hc67 ?_
      refine own_go (B := (T140.setTop (mkF m 79 #[iv p0, iv p1, iv p2, iv (1 : Int32), iv (1 : Int32), rv a1, rv a4, rv a9, rv a16, rv a25, .unset, .unset, .unset, .unset, .unset] [(.int (1 : Int32))]))) (fun t k => XS.iload X140.here hx rfl (hb hby at_77) rfl k) ?_
      refine own_go (B := (T140.setTop (mkF m 80 #[iv p0, iv p1, iv p2, iv (1 : Int32), iv (1 : Int32), rv a1, rv a4, rv a9, rv a16, rv a25, .unset, .unset, .unset, .unset, .unset] [(.int (2 : Int32)), (.int (1 : Int32))]))) (fun t k => own_iconst (v := (2 : Int32)) X140.here hx rfl (hb hby at_79) (by decide) k) ?_
      have hc80 : ¬ (2 : Int32) < (1 : Int32) := (by decide)
      refine own_icmpY X140 hx (hb hby at_80) (pc' := 90) (by decide) (by decide) hc80 ?_
      refine own_go (B := (T140.setTop (mkF m 92 #[iv p0, iv p1, iv p2, iv (1 : Int32), iv (1 : Int32), rv a1, rv a4, rv a9, rv a16, rv a25, .unset, .unset, .unset, .unset, .unset] [(.int (1 : Int32))]))) (fun t k => XS.iload X140.here hx rfl (hb hby at_90) rfl k) ?_
      refine own_go (B := (T140.setTop (mkF m 93 #[iv p0, iv p1, iv p2, iv (1 : Int32), iv (1 : Int32), rv a1, rv a4, rv a9, rv a16, rv a25, .unset, .unset, .unset, .unset, .unset] [(.int (3 : Int32)), (.int (1 : Int32))]))) (fun t k => own_iconst (v := (3 : Int32)) X140.here hx rfl (hb hby at_92) (by decide) k) ?_
      have hc93 : ¬ (3 : Int32) < (1 : Int32) := (by decide)
      refine own_icmpY X140 hx (hb hby at_93) (pc' := 103) (by decide) (by decide) hc93 ?_
      refine own_go (B := (T140.setTop (mkF m 105 #[iv p0, iv p1, iv p2, iv (1 : Int32), iv (1 : Int32), rv a1, rv a4, rv a9, rv a16, rv a25, .unset, .unset, .unset, .unset, .unset] [(.int (1 : Int32))]))) (fun t k => XS.iload X140.here hx rfl (hb hby at_103) rfl k) ?_
      refine own_go (B := (T140.setTop (mkF m 106 #[iv p0, iv p1, iv p2, iv (1 : Int32), iv (1 : Int32), rv a1, rv a4, rv a9, rv a16, rv a25, .unset, .unset, .unset, .unset, .unset] [(.int (1 : Int32)), (.int (1 : Int32))]))) (fun t k => XS.iloadN X140.here hx rfl (hb hby at_105) rfl k) ?_
      obtain ⟨_, _, ⟨T148, L148, k148, n148⟩, -, X148, ⟨Lc148, hQ148, l148, y148, z148⟩, st148⟩ := Jvm.LawKit.callS X140 hx (y := own_y6) hown (mvT hZ w_27) (mvT hZ w_28) (mvT hZ w_29) (mvT hZ w_30) (by decide) (backOf (W := 0) (own_mmin l Z a0 hw [] (1 : Int32) (1 : Int32) T140.heap n0) hZ w_30 w_29 (by decide) (by decide)) (g := (mkF m 106 #[iv p0, iv p1, iv p2, iv (1 : Int32), iv (1 : Int32), rv a1, rv a4, rv a9, rv a16, rv a25, .unset, .unset, .unset, .unset, .unset] [(.int (1 : Int32)), (.int (1 : Int32))])) rfl (by rw [hml]; rfl) (argsL := [(.int (1 : Int32)), (.int (1 : Int32))]) (rest := []) (lenOf own_pd5 rfl) rfl (by show 2 * 0 + _ ≤ _; exact own_b rfl) (hb hby at_106) (fun _ _ => ⟨rfl, rfl, (own_b rfl : 6 + 0 ≤ _), (own_b rfl : 9 + 0 ≤ _)⟩)
      dsimp only [Pt.U, Pt.locs, Pt.cells, Pt.slots] at X148 l148 y148 z148 st148 hQ148
      obtain ⟨rfl, Nq148, eq148⟩ := hQ148
      obtain ⟨L148, X148, N148⟩ := own_absC (K := 6) (K' := 9) X148 l148 y148 z148 N140 Nq148
      have e148 : T148.heap = T140.heap := eq148
      refine own_go (B := (T148.setTop (mkF m 109 #[iv p0, iv p1, iv p2, iv (1 : Int32), iv (1 : Int32), rv a1, rv a4, rv a9, rv a16, rv a25, .unset, .unset, .unset, .unset, .unset] [(.int (own_min (1 : Int32) (1 : Int32)))]))) st148 ?_
      rw [show own_min (1 : Int32) (1 : Int32) = (1 : Int32) from by decide]
      refine own_go (B := (T148.setTop (mkF m 111 #[iv p0, iv p1, iv p2, iv (1 : Int32), iv (1 : Int32), rv a1, rv a4, rv a9, rv a16, rv a25, iv (1 : Int32), .unset, .unset, .unset, .unset] []))) (fun t k => XS.istore X148.here hx rfl (hb hby at_109) rfl (l' := #[iv p0, iv p1, iv p2, iv (1 : Int32), iv (1 : Int32), rv a1, rv a4, rv a9, rv a16, rv a25, iv (1 : Int32), .unset, .unset, .unset, .unset]) rfl k) ?_
      refine own_go (B := (T148.setTop (mkF m 113 #[iv p0, iv p1, iv p2, iv (1 : Int32), iv (1 : Int32), rv a1, rv a4, rv a9, rv a16, rv a25, iv (1 : Int32), .unset, .unset, .unset, .unset] [(.ref a25)]))) (fun t k => XS.aload X148.here hx rfl (hb hby at_111) rfl rfl k) ?_
      obtain ⟨cq149, kq149, qa149, qb149, qc149⟩ := isOf hZ e148 Ex140
      obtain ⟨_, _, ⟨T149, L149, k149, n149⟩, -, X149, ⟨Lc149, hQ149, l149, y149, z149⟩, st149⟩ := X148.virtualBack hx (y := own_y7) (z := own_y7) hown (mvT hZ w_31) (mvT hZ w_32) (notFace_of_selects (args := #[]) (mvT hZ w_34)) (mvT hZ w_34) (mvT hZ w_33) (by decide) (backOf (W := 0) (own_tone l Z a0 hw [] a25 ar38 a1 (1 : Int32) (0 : Int32) [(.ref a1)] [.null] T140.heap n0 Ex140 gk140 gc140 gv140 F141 gn25 gn_ar38 ne_ar38_a25 (by decide) (by decide) (by decide) rfl rfl) hZ w_35 w_9 (by decide) (by decide)) qa149 qc149 (g := (mkF m 113 #[iv p0, iv p1, iv p2, iv (1 : Int32), iv (1 : Int32), rv a1, rv a4, rv a9, rv a16, rv a25, iv (1 : Int32), .unset, .unset, .unset, .unset] [(.ref a25)])) rfl (by rw [hml]; rfl) (Steps.refl _) (argsL := []) (rest := []) (lenOf own_pd6 rfl) rfl (by show 2 * 0 + _ ≤ _; exact own_b rfl) (hb hby at_113) (fun _ _ => ⟨rfl, e148, (own_b rfl : 6 + 0 ≤ _), (own_b rfl : 9 + 0 ≤ _)⟩)
      dsimp only [Pt.U, Pt.locs, Pt.cells, Pt.slots] at X149 l149 y149 z149 st149 hQ149
      obtain ⟨rfl, Nq149, K149, Ex149, gk149, gc149, gv149⟩ := hQ149
      obtain ⟨L149, X149, N149⟩ := own_absC (K := 6) (K' := 9) X149 l149 y149 z149 N148 Nq149
      have F150 : n0 ≤ T149.heap.size := Nat.le_trans F141 K149.1
      have F151 := Keep.trans F142 K149 (allS (Or.inr (Nat.le_trans F18.1 (Nat.le_of_eq ga25.symm))) (allS (Or.inr (Nat.le_trans K27.1 gz38)) all0))
      have F152 := Exa.keep Ex140 K149
      have F153 := own_Bn_keep F147 K149 hbq
      refine own_tr (B := (T149.setTop (mkF m 116 #[iv p0, iv p1, iv p2, iv (1 : Int32), iv (1 : Int32), rv a1, rv a4, rv a9, rv a16, rv a25, iv (1 : Int32), .unset, .unset, .unset, .unset] [(.ref a1)]))) st149 ?_
      obtain ⟨T157, X157, e157, st157⟩ := castY X149 hx hZ hown w_41 rfl (Ins.of_exa (own_Bn_exa F153 (List.mem_of_getElem? (i := 0) rfl)) w_42) (g := (mkF m 116 #[iv p0, iv p1, iv p2, iv (1 : Int32), iv (1 : Int32), rv a1, rv a4, rv a9, rv a16, rv a25, iv (1 : Int32), .unset, .unset, .unset, .unset] [(.ref a1)])) rfl rfl (hb hby at_116)
      refine own_go (B := (T157.setTop (mkF m 119 #[iv p0, iv p1, iv p2, iv (1 : Int32), iv (1 : Int32), rv a1, rv a4, rv a9, rv a16, rv a25, iv (1 : Int32), .unset, .unset, .unset, .unset] [(.ref a1)]))) st157 ?_
      refine own_go (B := (T157.setTop (mkF m 121 #[iv p0, iv p1, iv p2, iv (1 : Int32), iv (1 : Int32), rv a1, rv a4, rv a9, rv a16, rv a25, iv (1 : Int32), rv a1, .unset, .unset, .unset] []))) (fun t k => XS.astore X157.here hx rfl (hb hby at_119) rfl rfl (l' := #[iv p0, iv p1, iv p2, iv (1 : Int32), iv (1 : Int32), rv a1, rv a4, rv a9, rv a16, rv a25, iv (1 : Int32), rv a1, .unset, .unset, .unset]) rfl k) ?_
      refine own_go (B := (T157.setTop (mkF m 123 #[iv p0, iv p1, iv p2, iv (1 : Int32), iv (1 : Int32), rv a1, rv a4, rv a9, rv a16, rv a25, iv (1 : Int32), rv a1, .unset, .unset, .unset] [(.ref a25)]))) (fun t k => XS.aload X157.here hx rfl (hb hby at_121) rfl rfl k) ?_
      obtain ⟨cq158, kq158, qa158, qb158, qc158⟩ := isOf hZ e157 Ex149
      obtain ⟨_, _, ⟨T158, L158, k158, n158⟩, -, X158, ⟨Lc158, hQ158, l158, y158, z158⟩, st158⟩ := X157.virtualBack hx (y := own_y7) (z := own_y7) hown (mvT hZ w_31) (mvT hZ w_32) (notFace_of_selects (args := #[]) (mvT hZ w_34)) (mvT hZ w_34) (mvT hZ w_33) (by decide) (backOf (W := 0) (own_tnone l Z a0 hw [] a25 T149.heap n0 gc149) hZ w_35 w_9 (by decide) (by decide)) qa158 qc158 (g := (mkF m 123 #[iv p0, iv p1, iv p2, iv (1 : Int32), iv (1 : Int32), rv a1, rv a4, rv a9, rv a16, rv a25, iv (1 : Int32), rv a1, .unset, .unset, .unset] [(.ref a25)])) rfl (by rw [hml]; rfl) (Steps.refl _) (argsL := []) (rest := []) (lenOf own_pd6 rfl) rfl (by show 2 * 0 + _ ≤ _; exact own_b rfl) (hb hby at_123) (fun _ _ => ⟨rfl, e157, (own_b rfl : 6 + 0 ≤ _), (own_b rfl : 9 + 0 ≤ _)⟩)
      dsimp only [Pt.U, Pt.locs, Pt.cells, Pt.slots] at X158 l158 y158 z158 st158 hQ158
      obtain ⟨rfl, Nq158, eq158⟩ := hQ158
      obtain ⟨L158, X158, N158⟩ := own_absC (K := 6) (K' := 9) X158 l158 y158 z158 N149 Nq158
      have e158 : T158.heap = T149.heap := eq158
      refine own_tr (B := (T158.setTop (mkF m 126 #[iv p0, iv p1, iv p2, iv (1 : Int32), iv (1 : Int32), rv a1, rv a4, rv a9, rv a16, rv a25, iv (1 : Int32), rv a1, .unset, .unset, .unset] [.null]))) st158 ?_
      refine own_go (B := (T158.setTop (mkF m 129 #[iv p0, iv p1, iv p2, iv (1 : Int32), iv (1 : Int32), rv a1, rv a4, rv a9, rv a16, rv a25, iv (1 : Int32), rv a1, .unset, .unset, .unset] [.null]))) (X158.checkcastNull hx (g := (mkF m 126 #[iv p0, iv p1, iv p2, iv (1 : Int32), iv (1 : Int32), rv a1, rv a4, rv a9, rv a16, rv a25, iv (1 : Int32), rv a1, .unset, .unset, .unset] [.null])) rfl rfl (hb hby at_126)) ?_
      refine own_go (B := (T158.setTop (mkF m 131 #[iv p0, iv p1, iv p2, iv (1 : Int32), iv (1 : Int32), rv a1, rv a4, rv a9, rv a16, rv a25, iv (1 : Int32), rv a1, .val .null, .unset, .unset] []))) (fun t k => XS.astore X158.here hx rfl (hb hby at_129) rfl rfl (l' := #[iv p0, iv p1, iv p2, iv (1 : Int32), iv (1 : Int32), rv a1, rv a4, rv a9, rv a16, rv a25, iv (1 : Int32), rv a1, .val .null, .unset, .unset]) rfl k) ?_
      refine own_go (B := (T158.setTop (mkF m 133 #[iv p0, iv p1, iv p2, iv (1 : Int32), iv (1 : Int32), rv a1, rv a4, rv a9, rv a16, rv a25, iv (1 : Int32), rv a1, .val .null, .unset, .unset] [(.ref a25)]))) (fun t k => XS.aload X158.here hx rfl (hb hby at_131) rfl rfl k) ?_
      obtain ⟨cq160, kq160, qa160, qb160, qc160⟩ := isOf hZ e158 Ex149
      obtain ⟨_, _, ⟨T160, L160, k160, n160⟩, -, X160, ⟨Lc160, hQ160, l160, y160, z160⟩, st160⟩ := X158.virtualBack hx (y := own_y7) (z := own_y7) hown (mvT hZ w_31) (mvT hZ w_32) (notFace_of_selects (args := #[]) (mvT hZ w_34)) (mvT hZ w_34) (mvT hZ w_33) (by decide) (backOf (W := 0) (own_tnone l Z a0 hw [] a25 T149.heap n0 gc149) hZ w_35 w_9 (by decide) (by decide)) qa160 qc160 (g := (mkF m 133 #[iv p0, iv p1, iv p2, iv (1 : Int32), iv (1 : Int32), rv a1, rv a4, rv a9, rv a16, rv a25, iv (1 : Int32), rv a1, .val .null, .unset, .unset] [(.ref a25)])) rfl (by rw [hml]; rfl) (Steps.refl _) (argsL := []) (rest := []) (lenOf own_pd6 rfl) rfl (by show 2 * 0 + _ ≤ _; exact own_b rfl) (hb hby at_133) (fun _ _ => ⟨rfl, e158, (own_b rfl : 6 + 0 ≤ _), (own_b rfl : 9 + 0 ≤ _)⟩)
      dsimp only [Pt.U, Pt.locs, Pt.cells, Pt.slots] at X160 l160 y160 z160 st160 hQ160
      obtain ⟨rfl, Nq160, eq160⟩ := hQ160
      obtain ⟨L160, X160, N160⟩ := own_absC (K := 6) (K' := 9) X160 l160 y160 z160 N158 Nq160
      have e160 : T160.heap = T149.heap := eq160
      refine own_tr (B := (T160.setTop (mkF m 136 #[iv p0, iv p1, iv p2, iv (1 : Int32), iv (1 : Int32), rv a1, rv a4, rv a9, rv a16, rv a25, iv (1 : Int32), rv a1, .val .null, .unset, .unset] [.null]))) st160 ?_
      refine own_go (B := (T160.setTop (mkF m 139 #[iv p0, iv p1, iv p2, iv (1 : Int32), iv (1 : Int32), rv a1, rv a4, rv a9, rv a16, rv a25, iv (1 : Int32), rv a1, .val .null, .unset, .unset] [.null]))) (X160.checkcastNull hx (g := (mkF m 136 #[iv p0, iv p1, iv p2, iv (1 : Int32), iv (1 : Int32), rv a1, rv a4, rv a9, rv a16, rv a25, iv (1 : Int32), rv a1, .val .null, .unset, .unset] [.null])) rfl rfl (hb hby at_136)) ?_
      refine own_go (B := (T160.setTop (mkF m 141 #[iv p0, iv p1, iv p2, iv (1 : Int32), iv (1 : Int32), rv a1, rv a4, rv a9, rv a16, rv a25, iv (1 : Int32), rv a1, .val .null, .val .null, .unset] []))) (fun t k => XS.astore X160.here hx rfl (hb hby at_139) rfl rfl (l' := #[iv p0, iv p1, iv p2, iv (1 : Int32), iv (1 : Int32), rv a1, rv a4, rv a9, rv a16, rv a25, iv (1 : Int32), rv a1, .val .null, .val .null, .unset]) rfl k) ?_
      refine own_go (B := (T160.setTop (mkF m 143 #[iv p0, iv p1, iv p2, iv (1 : Int32), iv (1 : Int32), rv a1, rv a4, rv a9, rv a16, rv a25, iv (1 : Int32), rv a1, .val .null, .val .null, .unset] [(.ref a25)]))) (fun t k => XS.aload X160.here hx rfl (hb hby at_141) rfl rfl k) ?_
      obtain ⟨cq162, kq162, qa162, qb162, qc162⟩ := isOf hZ e160 Ex149
      obtain ⟨_, _, ⟨T162, L162, k162, n162⟩, -, X162, ⟨Lc162, hQ162, l162, y162, z162⟩, st162⟩ := X160.virtualBack hx (y := own_y7) (z := own_y7) hown (mvT hZ w_31) (mvT hZ w_32) (notFace_of_selects (args := #[]) (mvT hZ w_34)) (mvT hZ w_34) (mvT hZ w_33) (by decide) (backOf (W := 0) (own_tnone l Z a0 hw [] a25 T149.heap n0 gc149) hZ w_35 w_9 (by decide) (by decide)) qa162 qc162 (g := (mkF m 143 #[iv p0, iv p1, iv p2, iv (1 : Int32), iv (1 : Int32), rv a1, rv a4, rv a9, rv a16, rv a25, iv (1 : Int32), rv a1, .val .null, .val .null, .unset] [(.ref a25)])) rfl (by rw [hml]; rfl) (Steps.refl _) (argsL := []) (rest := []) (lenOf own_pd6 rfl) rfl (by show 2 * 0 + _ ≤ _; exact own_b rfl) (hb hby at_143) (fun _ _ => ⟨rfl, e160, (own_b rfl : 6 + 0 ≤ _), (own_b rfl : 9 + 0 ≤ _)⟩)
      dsimp only [Pt.U, Pt.locs, Pt.cells, Pt.slots] at X162 l162 y162 z162 st162 hQ162
      obtain ⟨rfl, Nq162, eq162⟩ := hQ162
      obtain ⟨L162, X162, N162⟩ := own_absC (K := 6) (K' := 9) X162 l162 y162 z162 N160 Nq162
      have e162 : T162.heap = T149.heap := eq162
      refine own_tr (B := (T162.setTop (mkF m 146 #[iv p0, iv p1, iv p2, iv (1 : Int32), iv (1 : Int32), rv a1, rv a4, rv a9, rv a16, rv a25, iv (1 : Int32), rv a1, .val .null, .val .null, .unset] [.null]))) st162 ?_
      refine own_go (B := (T162.setTop (mkF m 149 #[iv p0, iv p1, iv p2, iv (1 : Int32), iv (1 : Int32), rv a1, rv a4, rv a9, rv a16, rv a25, iv (1 : Int32), rv a1, .val .null, .val .null, .unset] [.null]))) (X162.checkcastNull hx (g := (mkF m 146 #[iv p0, iv p1, iv p2, iv (1 : Int32), iv (1 : Int32), rv a1, rv a4, rv a9, rv a16, rv a25, iv (1 : Int32), rv a1, .val .null, .val .null, .unset] [.null])) rfl rfl (hb hby at_146)) ?_
      refine own_go (B := (T162.setTop (mkF m 151 #[iv p0, iv p1, iv p2, iv (1 : Int32), iv (1 : Int32), rv a1, rv a4, rv a9, rv a16, rv a25, iv (1 : Int32), rv a1, .val .null, .val .null, .val .null] []))) (fun t k => XS.astore X162.here hx rfl (hb hby at_149) rfl rfl (l' := #[iv p0, iv p1, iv p2, iv (1 : Int32), iv (1 : Int32), rv a1, rv a4, rv a9, rv a16, rv a25, iv (1 : Int32), rv a1, .val .null, .val .null, .val .null]) rfl k) ?_
      refine own_go (B := (T162.setTop (mkF m 153 #[iv p0, iv p1, iv p2, iv (1 : Int32), iv (1 : Int32), rv a1, rv a4, rv a9, rv a16, rv a25, iv (1 : Int32), rv a1, .val .null, .val .null, .val .null] [(.ref a1)]))) (fun t k => XS.aload X162.here hx rfl (hb hby at_151) rfl rfl k) ?_
      refine own_go (B := (T162.setTop (mkF m 155 #[iv p0, iv p1, iv p2, iv (1 : Int32), iv (1 : Int32), rv a1, rv a4, rv a9, rv a16, rv a25, iv (1 : Int32), rv a1, .val .null, .val .null, .val .null] [(.int (1 : Int32)), (.ref a1)]))) (fun t k => XS.iload X162.here hx rfl (hb hby at_153) rfl k) ?_
      refine own_go (B := (T162.setTop (mkF m 156 #[iv p0, iv p1, iv p2, iv (1 : Int32), iv (1 : Int32), rv a1, rv a4, rv a9, rv a16, rv a25, iv (1 : Int32), rv a1, .val .null, .val .null, .val .null] [(.int (0 : Int32)), (.int (1 : Int32)), (.ref a1)]))) (fun t k => own_iconst (v := (0 : Int32)) X162.here hx rfl (hb hby at_155) (by decide) k) ?_
      refine own_go (B := (T162.setTop (mkF m 157 #[iv p0, iv p1, iv p2, iv (1 : Int32), iv (1 : Int32), rv a1, rv a4, rv a9, rv a16, rv a25, iv (1 : Int32), rv a1, .val .null, .val .null, .val .null] [(.int p2), (.int (0 : Int32)), (.int (1 : Int32)), (.ref a1)]))) (fun t k => XS.iloadN X162.here hx rfl (hb hby at_156) rfl k) ?_
      obtain ⟨_, _, ⟨T164, L164, k164, n164⟩, -, X164, ⟨Lc164, hQ164, l164, y164, z164⟩, st164⟩ := Jvm.LawKit.callS X162 hx (y := own_y8) hown (mvT hZ w_36) (mvT hZ w_37) (mvT hZ w_38) (mvT hZ w_39) (by decide) (backOf (W := 0) (own_same1 l Z a0 hw [] a1 (1 : Int32) (0 : Int32) p2 p2 T149.heap n0 (own_Bn_exa F153 (List.mem_of_getElem? (i := 0) rfl)) (own_Bn_fld F153 (List.mem_of_getElem? (i := 0) rfl)) (by decide) (own_v0 (by decide))) hZ w_39 w_38 (by decide) (by decide)) (g := (mkF m 157 #[iv p0, iv p1, iv p2, iv (1 : Int32), iv (1 : Int32), rv a1, rv a4, rv a9, rv a16, rv a25, iv (1 : Int32), rv a1, .val .null, .val .null, .val .null] [(.int p2), (.int (0 : Int32)), (.int (1 : Int32)), (.ref a1)])) rfl (by rw [hml]; rfl) (argsL := [(.ref a1), (.int (1 : Int32)), (.int (0 : Int32)), (.int p2)]) (rest := []) (lenOf own_pd7 rfl) rfl (by show 2 * 0 + _ ≤ _; exact own_b rfl) (hb hby at_157) (fun _ _ => ⟨rfl, e162, (own_b rfl : 6 + 0 ≤ _), (own_b rfl : 9 + 0 ≤ _)⟩)
      dsimp only [Pt.U, Pt.locs, Pt.cells, Pt.slots] at X164 l164 y164 z164 st164 hQ164
      obtain ⟨rfl, Nq164, eq164⟩ := hQ164
      obtain ⟨L164, X164, N164⟩ := own_absC (K := 6) (K' := 9) X164 l164 y164 z164 N162 Nq164
      have e164 : T164.heap = T149.heap := eq164
      refine own_go (B := (T164.setTop (mkF m 160 #[iv p0, iv p1, iv p2, iv (1 : Int32), iv (1 : Int32), rv a1, rv a4, rv a9, rv a16, rv a25, iv (1 : Int32), rv a1, .val .null, .val .null, .val .null] [(.int (1 : Int32))]))) st164 ?_
      have hc160 : ¬ (1 : Int32) = (0 : Int32) := (by decide)
      refine own_ifN X164 hx (hb hby at_160) (pn := 163) rfl hc160 ?_
      refine own_go (B := (T164.setTop (mkF m 165 #[iv p0, iv p1, iv p2, iv (1 : Int32), iv (1 : Int32), rv a1, rv a4, rv a9, rv a16, rv a25, iv (1 : Int32), rv a1, .val .null, .val .null, .val .null] [.null]))) (fun t k => XS.aload X164.here hx rfl (hb hby at_163) rfl rfl k) ?_
      refine own_go (B := (T164.setTop (mkF m 167 #[iv p0, iv p1, iv p2, iv (1 : Int32), iv (1 : Int32), rv a1, rv a4, rv a9, rv a16, rv a25, iv (1 : Int32), rv a1, .val .null, .val .null, .val .null] [(.int (1 : Int32)), .null]))) (fun t k => XS.iload X164.here hx rfl (hb hby at_165) rfl k) ?_
      refine own_go (B := (T164.setTop (mkF m 168 #[iv p0, iv p1, iv p2, iv (1 : Int32), iv (1 : Int32), rv a1, rv a4, rv a9, rv a16, rv a25, iv (1 : Int32), rv a1, .val .null, .val .null, .val .null] [(.int (1 : Int32)), (.int (1 : Int32)), .null]))) (fun t k => own_iconst (v := (1 : Int32)) X164.here hx rfl (hb hby at_167) (by decide) k) ?_
      refine own_go (B := (T164.setTop (mkF m 169 #[iv p0, iv p1, iv p2, iv (1 : Int32), iv (1 : Int32), rv a1, rv a4, rv a9, rv a16, rv a25, iv (1 : Int32), rv a1, .val .null, .val .null, .val .null] [(.int p2), (.int (1 : Int32)), (.int (1 : Int32)), .null]))) (fun t k => XS.iloadN X164.here hx rfl (hb hby at_168) rfl k) ?_
      obtain ⟨_, _, ⟨T165, L165, k165, n165⟩, -, X165, ⟨Lc165, hQ165, l165, y165, z165⟩, st165⟩ := Jvm.LawKit.callS X164 hx (y := own_y8) hown (mvT hZ w_36) (mvT hZ w_37) (mvT hZ w_38) (mvT hZ w_39) (by decide) (backOf (W := 0) (own_same0 l Z a0 hw [] (1 : Int32) (1 : Int32) p2 T149.heap n0 (by decide)) hZ w_39 w_38 (by decide) (by decide)) (g := (mkF m 169 #[iv p0, iv p1, iv p2, iv (1 : Int32), iv (1 : Int32), rv a1, rv a4, rv a9, rv a16, rv a25, iv (1 : Int32), rv a1, .val .null, .val .null, .val .null] [(.int p2), (.int (1 : Int32)), (.int (1 : Int32)), .null])) rfl (by rw [hml]; rfl) (argsL := [.null, (.int (1 : Int32)), (.int (1 : Int32)), (.int p2)]) (rest := []) (lenOf own_pd7 rfl) rfl (by show 2 * 0 + _ ≤ _; exact own_b rfl) (hb hby at_169) (fun _ _ => ⟨rfl, e164, (own_b rfl : 6 + 0 ≤ _), (own_b rfl : 9 + 0 ≤ _)⟩)
      dsimp only [Pt.U, Pt.locs, Pt.cells, Pt.slots] at X165 l165 y165 z165 st165 hQ165
      obtain ⟨rfl, Nq165, eq165⟩ := hQ165
      obtain ⟨L165, X165, N165⟩ := own_absC (K := 6) (K' := 9) X165 l165 y165 z165 N164 Nq165
      have e165 : T165.heap = T149.heap := eq165
      refine own_go (B := (T165.setTop (mkF m 172 #[iv p0, iv p1, iv p2, iv (1 : Int32), iv (1 : Int32), rv a1, rv a4, rv a9, rv a16, rv a25, iv (1 : Int32), rv a1, .val .null, .val .null, .val .null] [(.int (1 : Int32))]))) st165 ?_
      have hc172 : ¬ (1 : Int32) = (0 : Int32) := (by decide)
      refine own_ifN X165 hx (hb hby at_172) (pn := 175) rfl hc172 ?_
      refine own_go (B := (T165.setTop (mkF m 177 #[iv p0, iv p1, iv p2, iv (1 : Int32), iv (1 : Int32), rv a1, rv a4, rv a9, rv a16, rv a25, iv (1 : Int32), rv a1, .val .null, .val .null, .val .null] [.null]))) (fun t k => XS.aload X165.here hx rfl (hb hby at_175) rfl rfl k) ?_
      refine own_go (B := (T165.setTop (mkF m 179 #[iv p0, iv p1, iv p2, iv (1 : Int32), iv (1 : Int32), rv a1, rv a4, rv a9, rv a16, rv a25, iv (1 : Int32), rv a1, .val .null, .val .null, .val .null] [(.int (1 : Int32)), .null]))) (fun t k => XS.iload X165.here hx rfl (hb hby at_177) rfl k) ?_
      refine own_go (B := (T165.setTop (mkF m 180 #[iv p0, iv p1, iv p2, iv (1 : Int32), iv (1 : Int32), rv a1, rv a4, rv a9, rv a16, rv a25, iv (1 : Int32), rv a1, .val .null, .val .null, .val .null] [(.int (2 : Int32)), (.int (1 : Int32)), .null]))) (fun t k => own_iconst (v := (2 : Int32)) X165.here hx rfl (hb hby at_179) (by decide) k) ?_
      refine own_go (B := (T165.setTop (mkF m 181 #[iv p0, iv p1, iv p2, iv (1 : Int32), iv (1 : Int32), rv a1, rv a4, rv a9, rv a16, rv a25, iv (1 : Int32), rv a1, .val .null, .val .null, .val .null] [(.int p2), (.int (2 : Int32)), (.int (1 : Int32)), .null]))) (fun t k => XS.iloadN X165.here hx rfl (hb hby at_180) rfl k) ?_
      obtain ⟨_, _, ⟨T166, L166, k166, n166⟩, -, X166, ⟨Lc166, hQ166, l166, y166, z166⟩, st166⟩ := Jvm.LawKit.callS X165 hx (y := own_y8) hown (mvT hZ w_36) (mvT hZ w_37) (mvT hZ w_38) (mvT hZ w_39) (by decide) (backOf (W := 0) (own_same0 l Z a0 hw [] (1 : Int32) (2 : Int32) p2 T149.heap n0 (by decide)) hZ w_39 w_38 (by decide) (by decide)) (g := (mkF m 181 #[iv p0, iv p1, iv p2, iv (1 : Int32), iv (1 : Int32), rv a1, rv a4, rv a9, rv a16, rv a25, iv (1 : Int32), rv a1, .val .null, .val .null, .val .null] [(.int p2), (.int (2 : Int32)), (.int (1 : Int32)), .null])) rfl (by rw [hml]; rfl) (argsL := [.null, (.int (1 : Int32)), (.int (2 : Int32)), (.int p2)]) (rest := []) (lenOf own_pd7 rfl) rfl (by show 2 * 0 + _ ≤ _; exact own_b rfl) (hb hby at_181) (fun _ _ => ⟨rfl, e165, (own_b rfl : 6 + 0 ≤ _), (own_b rfl : 9 + 0 ≤ _)⟩)
      dsimp only [Pt.U, Pt.locs, Pt.cells, Pt.slots] at X166 l166 y166 z166 st166 hQ166
      obtain ⟨rfl, Nq166, eq166⟩ := hQ166
      obtain ⟨L166, X166, N166⟩ := own_absC (K := 6) (K' := 9) X166 l166 y166 z166 N165 Nq166
      have e166 : T166.heap = T149.heap := eq166
      refine own_go (B := (T166.setTop (mkF m 184 #[iv p0, iv p1, iv p2, iv (1 : Int32), iv (1 : Int32), rv a1, rv a4, rv a9, rv a16, rv a25, iv (1 : Int32), rv a1, .val .null, .val .null, .val .null] [(.int (1 : Int32))]))) st166 ?_
      have hc184 : ¬ (1 : Int32) = (0 : Int32) := (by decide)
      refine own_ifN X166 hx (hb hby at_184) (pn := 187) rfl hc184 ?_
      refine own_go (B := (T166.setTop (mkF m 189 #[iv p0, iv p1, iv p2, iv (1 : Int32), iv (1 : Int32), rv a1, rv a4, rv a9, rv a16, rv a25, iv (1 : Int32), rv a1, .val .null, .val .null, .val .null] [.null]))) (fun t k => XS.aload X166.here hx rfl (hb hby at_187) rfl rfl k) ?_
      refine own_go (B := (T166.setTop (mkF m 191 #[iv p0, iv p1, iv p2, iv (1 : Int32), iv (1 : Int32), rv a1, rv a4, rv a9, rv a16, rv a25, iv (1 : Int32), rv a1, .val .null, .val .null, .val .null] [(.int (1 : Int32)), .null]))) (fun t k => XS.iload X166.here hx rfl (hb hby at_189) rfl k) ?_
      refine own_go (B := (T166.setTop (mkF m 192 #[iv p0, iv p1, iv p2, iv (1 : Int32), iv (1 : Int32), rv a1, rv a4, rv a9, rv a16, rv a25, iv (1 : Int32), rv a1, .val .null, .val .null, .val .null] [(.int (3 : Int32)), (.int (1 : Int32)), .null]))) (fun t k => own_iconst (v := (3 : Int32)) X166.here hx rfl (hb hby at_191) (by decide) k) ?_
      refine own_go (B := (T166.setTop (mkF m 193 #[iv p0, iv p1, iv p2, iv (1 : Int32), iv (1 : Int32), rv a1, rv a4, rv a9, rv a16, rv a25, iv (1 : Int32), rv a1, .val .null, .val .null, .val .null] [(.int p2), (.int (3 : Int32)), (.int (1 : Int32)), .null]))) (fun t k => XS.iloadN X166.here hx rfl (hb hby at_192) rfl k) ?_
      obtain ⟨_, _, ⟨T167, L167, k167, n167⟩, -, X167, ⟨Lc167, hQ167, l167, y167, z167⟩, st167⟩ := Jvm.LawKit.callS X166 hx (y := own_y8) hown (mvT hZ w_36) (mvT hZ w_37) (mvT hZ w_38) (mvT hZ w_39) (by decide) (backOf (W := 0) (own_same0 l Z a0 hw [] (1 : Int32) (3 : Int32) p2 T149.heap n0 (by decide)) hZ w_39 w_38 (by decide) (by decide)) (g := (mkF m 193 #[iv p0, iv p1, iv p2, iv (1 : Int32), iv (1 : Int32), rv a1, rv a4, rv a9, rv a16, rv a25, iv (1 : Int32), rv a1, .val .null, .val .null, .val .null] [(.int p2), (.int (3 : Int32)), (.int (1 : Int32)), .null])) rfl (by rw [hml]; rfl) (argsL := [.null, (.int (1 : Int32)), (.int (3 : Int32)), (.int p2)]) (rest := []) (lenOf own_pd7 rfl) rfl (by show 2 * 0 + _ ≤ _; exact own_b rfl) (hb hby at_193) (fun _ _ => ⟨rfl, e166, (own_b rfl : 6 + 0 ≤ _), (own_b rfl : 9 + 0 ≤ _)⟩)
      dsimp only [Pt.U, Pt.locs, Pt.cells, Pt.slots] at X167 l167 y167 z167 st167 hQ167
      obtain ⟨rfl, Nq167, eq167⟩ := hQ167
      obtain ⟨L167, X167, N167⟩ := own_absC (K := 6) (K' := 9) X167 l167 y167 z167 N166 Nq167
      have e167 : T167.heap = T149.heap := eq167
      refine own_go (B := (T167.setTop (mkF m 196 #[iv p0, iv p1, iv p2, iv (1 : Int32), iv (1 : Int32), rv a1, rv a4, rv a9, rv a16, rv a25, iv (1 : Int32), rv a1, .val .null, .val .null, .val .null] [(.int (1 : Int32))]))) st167 ?_
      have hc196 : ¬ (1 : Int32) = (0 : Int32) := (by decide)
      refine own_ifN X167 hx (hb hby at_196) (pn := 199) rfl hc196 ?_
      refine own_go (B := (T167.setTop (mkF m 200 #[iv p0, iv p1, iv p2, iv (1 : Int32), iv (1 : Int32), rv a1, rv a4, rv a9, rv a16, rv a25, iv (1 : Int32), rv a1, .val .null, .val .null, .val .null] [(.int (1 : Int32))]))) (fun t k => own_iconst (v := (1 : Int32)) X167.here hx rfl (hb hby at_199) (by decide) k) ?_
      refine own_go (B := (T167.setTop (mkF m 204 #[iv p0, iv p1, iv p2, iv (1 : Int32), iv (1 : Int32), rv a1, rv a4, rv a9, rv a16, rv a25, iv (1 : Int32), rv a1, .val .null, .val .null, .val .null] [(.int (1 : Int32))]))) (fun t k => XS.goto X167.here hx rfl (pc0 := 200) (pc' := 204) rfl (hb hby at_200) (by decide) (by decide) k) ?_
      exact own_retZ X167 hx hlk Bd.returns (hb hby at_204) (by decide) (own_b rfl) (own_b rfl) (Q := (own_law_Q Z p0 p1 p2 ca h0 n0)) ⟨rfl, N167⟩
    · refine own_go (B := (T38.setTop (mkF m 54 #[iv p0, iv p1, iv p2, iv (1 : Int32), iv (2 : Int32), rv a1, rv a4, rv a9, rv a16, rv a25, .unset, .unset, .unset, .unset, .unset] [(.int (2 : Int32))]))) (fun t k => XS.iload X38.here hx rfl (hb hby at_52) rfl k) ?_
      have hc54 : (0 : Int32) < (2 : Int32) := (by decide)
      refine own_ifN X38 hx (hb hby at_54) (pn := 57) rfl hc54 ?_
      refine own_go (B := (T38.setTop (mkF m 59 #[iv p0, iv p1, iv p2, iv (1 : Int32), iv (2 : Int32), rv a1, rv a4, rv a9, rv a16, rv a25, .unset, .unset, .unset, .unset, .unset] [(.ref a25)]))) (fun t k => XS.aload X38.here hx rfl (hb hby at_57) rfl rfl k) ?_
      refine own_go (B := (T38.setTop (mkF m 61 #[iv p0, iv p1, iv p2, iv (1 : Int32), iv (2 : Int32), rv a1, rv a4, rv a9, rv a16, rv a25, .unset, .unset, .unset, .unset, .unset] [(.ref a1), (.ref a25)]))) (fun t k => XS.aload X38.here hx rfl (hb hby at_59) rfl rfl k) ?_
      obtain ⟨cq168, kq168, qa168, qb168, qc168⟩ := isOf hZ rfl Ex38
      obtain ⟨_, _, ⟨T168, L168, k168, n168⟩, -, X168, ⟨Lc168, hQ168, l168, y168, z168⟩, st168⟩ := X38.virtualBack hx (y := own_y9) (z := own_y9) hown (mvT hZ w_20) (mvT hZ w_21) (notFace_of_selects (args := #[]) (mvT hZ w_23)) (mvT hZ w_23) (mvT hZ w_22) (by decide) (backOf (W := 0) (own_kone l Z a0 hw [] a25 a1 ar38 (0 : Int32) (1 : Int32) (1 : Int32) [.null] [(.ref a1)] T38.heap n0 Ex38 gk38 gc38 Vb F39 gn25 gn_ar38 ne_ar38_a25 (own_lenL (n := 1) rfl (by decide)) (by decide) (by decide) (Nat.lt_of_lt_of_eq (by decide : _ < 1) rfl) (by decide) (Ins.of_exa (own_Bn_exa BB (List.mem_of_getElem? (i := 0) rfl)) w_40) rfl) hZ w_24 w_9 (by decide) (by decide)) qa168 qc168 (g := (mkF m 61 #[iv p0, iv p1, iv p2, iv (1 : Int32), iv (2 : Int32), rv a1, rv a4, rv a9, rv a16, rv a25, .unset, .unset, .unset, .unset, .unset] [(.ref a1), (.ref a25)])) rfl (by rw [hml]; rfl) (Steps.refl _) (argsL := [(.ref a1)]) (rest := []) (lenOf own_pd8 rfl) rfl (by show 2 * 0 + _ ≤ _; exact own_b rfl) (hb hby at_61) (fun _ _ => ⟨rfl, rfl, (own_b rfl : 6 + 0 ≤ _), (own_b rfl : 9 + 0 ≤ _)⟩)
      dsimp only [Pt.U, Pt.locs, Pt.cells, Pt.slots] at X168 l168 y168 z168 st168 hQ168
      obtain ⟨rfl, Nq168, K168, Ex168, gk168, gc168, gv168⟩ := hQ168
      obtain ⟨L168, X168, N168⟩ := own_absC (K := 6) (K' := 9) X168 l168 y168 z168 N38 Nq168
      have F169 : n0 ≤ T168.heap.size := Nat.le_trans F39 K168.1
      have F170 := Keep.trans F40 K168 (allS (Or.inr (Nat.le_trans F18.1 (Nat.le_of_eq ga25.symm))) (allS (Or.inr (Nat.le_trans K27.1 gz38)) all0))
      have F171 := Exa.keep Ex38 K168
      have F175 := own_Bn_keep BB K168 hbq
      refine own_tr (B := (T168.setTop (mkF m 64 #[iv p0, iv p1, iv p2, iv (1 : Int32), iv (2 : Int32), rv a1, rv a4, rv a9, rv a16, rv a25, .unset, .unset, .unset, .unset, .unset] []))) st168 ?_
      refine own_go (B := (T168.setTop (mkF m 66 #[iv p0, iv p1, iv p2, iv (1 : Int32), iv (2 : Int32), rv a1, rv a4, rv a9, rv a16, rv a25, .unset, .unset, .unset, .unset, .unset] [(.int (2 : Int32))]))) (fun t k => XS.iload X168.here hx rfl (hb hby at_64) rfl k) ?_
      refine own_go (B := (T168.setTop (mkF m 67 #[iv p0, iv p1, iv p2, iv (1 : Int32), iv (2 : Int32), rv a1, rv a4, rv a9, rv a16, rv a25, .unset, .unset, .unset, .unset, .unset] [(.int (1 : Int32)), (.int (2 : Int32))]))) (fun t k => own_iconst (v := (1 : Int32)) X168.here hx rfl (hb hby at_66) (by decide) k) ?_
      have hc67 : (1 : Int32) < (2 : Int32) := (by decide)
      refine own_icmpN X168 hx (hb hby at_67) (pn := 70) rfl hc67 ?_
      refine own_go (B := (T168.setTop (mkF m 72 #[iv p0, iv p1, iv p2, iv (1 : Int32), iv (2 : Int32), rv a1, rv a4, rv a9, rv a16, rv a25, .unset, .unset, .unset, .unset, .unset] [(.ref a25)]))) (fun t k => XS.aload X168.here hx rfl (hb hby at_70) rfl rfl k) ?_
      refine own_go (B := (T168.setTop (mkF m 74 #[iv p0, iv p1, iv p2, iv (1 : Int32), iv (2 : Int32), rv a1, rv a4, rv a9, rv a16, rv a25, .unset, .unset, .unset, .unset, .unset] [(.ref a4), (.ref a25)]))) (fun t k => XS.aload X168.here hx rfl (hb hby at_72) rfl rfl k) ?_
      obtain ⟨cq176, kq176, qa176, qb176, qc176⟩ := isOf hZ rfl Ex168
      obtain ⟨_, _, ⟨T176, L176, k176, n176⟩, -, X176, ⟨Lc176, hQ176, l176, y176, z176⟩, st176⟩ := X168.virtualBack hx (y := own_y9) (z := own_y9) hown (mvT hZ w_20) (mvT hZ w_21) (notFace_of_selects (args := #[]) (mvT hZ w_23)) (mvT hZ w_23) (mvT hZ w_22) (by decide) (backOf (W := 0) (own_kfull l Z a0 hw [] a25 a4 ar38 (1 : Int32) (1 : Int32) [(.ref a1)] T168.heap n0 Ex168 gk168 gc168 gv168 (own_lenL (n := 1) rfl (by decide)) (by decide)) hZ w_24 w_9 (by decide) (by decide)) qa176 qc176 (g := (mkF m 74 #[iv p0, iv p1, iv p2, iv (1 : Int32), iv (2 : Int32), rv a1, rv a4, rv a9, rv a16, rv a25, .unset, .unset, .unset, .unset, .unset] [(.ref a4), (.ref a25)])) rfl (by rw [hml]; rfl) (Steps.refl _) (argsL := [(.ref a4)]) (rest := []) (lenOf own_pd8 rfl) rfl (by show 2 * 0 + _ ≤ _; exact own_b rfl) (hb hby at_74) (fun _ _ => ⟨rfl, rfl, (own_b rfl : 6 + 0 ≤ _), (own_b rfl : 9 + 0 ≤ _)⟩)
      dsimp only [Pt.U, Pt.locs, Pt.cells, Pt.slots] at X176 l176 y176 z176 st176 hQ176
      obtain ⟨rfl, Nq176, eq176⟩ := hQ176
      obtain ⟨L176, X176, N176⟩ := own_absC (K := 6) (K' := 9) X176 l176 y176 z176 N168 Nq176
      have e176 : T176.heap = T168.heap := eq176
      refine own_tr (B := (T176.setTop (mkF m 77 #[iv p0, iv p1, iv p2, iv (1 : Int32), iv (2 : Int32), rv a1, rv a4, rv a9, rv a16, rv a25, .unset, .unset, .unset, .unset, .unset] []))) st176 ?_
      refine own_go (B := (T176.setTop (mkF m 79 #[iv p0, iv p1, iv p2, iv (1 : Int32), iv (2 : Int32), rv a1, rv a4, rv a9, rv a16, rv a25, .unset, .unset, .unset, .unset, .unset] [(.int (2 : Int32))]))) (fun t k => XS.iload X176.here hx rfl (hb hby at_77) rfl k) ?_
      refine own_go (B := (T176.setTop (mkF m 80 #[iv p0, iv p1, iv p2, iv (1 : Int32), iv (2 : Int32), rv a1, rv a4, rv a9, rv a16, rv a25, .unset, .unset, .unset, .unset, .unset] [(.int (2 : Int32)), (.int (2 : Int32))]))) (fun t k => own_iconst (v := (2 : Int32)) X176.here hx rfl (hb hby at_79) (by decide) k) ?_
      have hc80 : ¬ (2 : Int32) < (2 : Int32) := (by decide)
      refine own_icmpY X176 hx (hb hby at_80) (pc' := 90) (by decide) (by decide) hc80 ?_
      refine own_go (B := (T176.setTop (mkF m 92 #[iv p0, iv p1, iv p2, iv (1 : Int32), iv (2 : Int32), rv a1, rv a4, rv a9, rv a16, rv a25, .unset, .unset, .unset, .unset, .unset] [(.int (2 : Int32))]))) (fun t k => XS.iload X176.here hx rfl (hb hby at_90) rfl k) ?_
      refine own_go (B := (T176.setTop (mkF m 93 #[iv p0, iv p1, iv p2, iv (1 : Int32), iv (2 : Int32), rv a1, rv a4, rv a9, rv a16, rv a25, .unset, .unset, .unset, .unset, .unset] [(.int (3 : Int32)), (.int (2 : Int32))]))) (fun t k => own_iconst (v := (3 : Int32)) X176.here hx rfl (hb hby at_92) (by decide) k) ?_
      have hc93 : ¬ (3 : Int32) < (2 : Int32) := (by decide)
      refine own_icmpY X176 hx (hb hby at_93) (pc' := 103) (by decide) (by decide) hc93 ?_
      refine own_go (B := (T176.setTop (mkF m 105 #[iv p0, iv p1, iv p2, iv (1 : Int32), iv (2 : Int32), rv a1, rv a4, rv a9, rv a16, rv a25, .unset, .unset, .unset, .unset, .unset] [(.int (2 : Int32))]))) (fun t k => XS.iload X176.here hx rfl (hb hby at_103) rfl k) ?_
      refine own_go (B := (T176.setTop (mkF m 106 #[iv p0, iv p1, iv p2, iv (1 : Int32), iv (2 : Int32), rv a1, rv a4, rv a9, rv a16, rv a25, .unset, .unset, .unset, .unset, .unset] [(.int (1 : Int32)), (.int (2 : Int32))]))) (fun t k => XS.iloadN X176.here hx rfl (hb hby at_105) rfl k) ?_
      obtain ⟨_, _, ⟨T177, L177, k177, n177⟩, -, X177, ⟨Lc177, hQ177, l177, y177, z177⟩, st177⟩ := Jvm.LawKit.callS X176 hx (y := own_y6) hown (mvT hZ w_27) (mvT hZ w_28) (mvT hZ w_29) (mvT hZ w_30) (by decide) (backOf (W := 0) (own_mmin l Z a0 hw [] (2 : Int32) (1 : Int32) T168.heap n0) hZ w_30 w_29 (by decide) (by decide)) (g := (mkF m 106 #[iv p0, iv p1, iv p2, iv (1 : Int32), iv (2 : Int32), rv a1, rv a4, rv a9, rv a16, rv a25, .unset, .unset, .unset, .unset, .unset] [(.int (1 : Int32)), (.int (2 : Int32))])) rfl (by rw [hml]; rfl) (argsL := [(.int (2 : Int32)), (.int (1 : Int32))]) (rest := []) (lenOf own_pd5 rfl) rfl (by show 2 * 0 + _ ≤ _; exact own_b rfl) (hb hby at_106) (fun _ _ => ⟨rfl, e176, (own_b rfl : 6 + 0 ≤ _), (own_b rfl : 9 + 0 ≤ _)⟩)
      dsimp only [Pt.U, Pt.locs, Pt.cells, Pt.slots] at X177 l177 y177 z177 st177 hQ177
      obtain ⟨rfl, Nq177, eq177⟩ := hQ177
      obtain ⟨L177, X177, N177⟩ := own_absC (K := 6) (K' := 9) X177 l177 y177 z177 N176 Nq177
      have e177 : T177.heap = T168.heap := eq177
      refine own_go (B := (T177.setTop (mkF m 109 #[iv p0, iv p1, iv p2, iv (1 : Int32), iv (2 : Int32), rv a1, rv a4, rv a9, rv a16, rv a25, .unset, .unset, .unset, .unset, .unset] [(.int (own_min (2 : Int32) (1 : Int32)))]))) st177 ?_
      rw [show own_min (2 : Int32) (1 : Int32) = (1 : Int32) from by decide]
      refine own_go (B := (T177.setTop (mkF m 111 #[iv p0, iv p1, iv p2, iv (1 : Int32), iv (2 : Int32), rv a1, rv a4, rv a9, rv a16, rv a25, iv (1 : Int32), .unset, .unset, .unset, .unset] []))) (fun t k => XS.istore X177.here hx rfl (hb hby at_109) rfl (l' := #[iv p0, iv p1, iv p2, iv (1 : Int32), iv (2 : Int32), rv a1, rv a4, rv a9, rv a16, rv a25, iv (1 : Int32), .unset, .unset, .unset, .unset]) rfl k) ?_
      refine own_go (B := (T177.setTop (mkF m 113 #[iv p0, iv p1, iv p2, iv (1 : Int32), iv (2 : Int32), rv a1, rv a4, rv a9, rv a16, rv a25, iv (1 : Int32), .unset, .unset, .unset, .unset] [(.ref a25)]))) (fun t k => XS.aload X177.here hx rfl (hb hby at_111) rfl rfl k) ?_
      obtain ⟨cq178, kq178, qa178, qb178, qc178⟩ := isOf hZ e177 Ex168
      obtain ⟨_, _, ⟨T178, L178, k178, n178⟩, -, X178, ⟨Lc178, hQ178, l178, y178, z178⟩, st178⟩ := X177.virtualBack hx (y := own_y7) (z := own_y7) hown (mvT hZ w_31) (mvT hZ w_32) (notFace_of_selects (args := #[]) (mvT hZ w_34)) (mvT hZ w_34) (mvT hZ w_33) (by decide) (backOf (W := 0) (own_tone l Z a0 hw [] a25 ar38 a1 (1 : Int32) (0 : Int32) [(.ref a1)] [.null] T168.heap n0 Ex168 gk168 gc168 gv168 F169 gn25 gn_ar38 ne_ar38_a25 (by decide) (by decide) (by decide) rfl rfl) hZ w_35 w_9 (by decide) (by decide)) qa178 qc178 (g := (mkF m 113 #[iv p0, iv p1, iv p2, iv (1 : Int32), iv (2 : Int32), rv a1, rv a4, rv a9, rv a16, rv a25, iv (1 : Int32), .unset, .unset, .unset, .unset] [(.ref a25)])) rfl (by rw [hml]; rfl) (Steps.refl _) (argsL := []) (rest := []) (lenOf own_pd6 rfl) rfl (by show 2 * 0 + _ ≤ _; exact own_b rfl) (hb hby at_113) (fun _ _ => ⟨rfl, e177, (own_b rfl : 6 + 0 ≤ _), (own_b rfl : 9 + 0 ≤ _)⟩)
      dsimp only [Pt.U, Pt.locs, Pt.cells, Pt.slots] at X178 l178 y178 z178 st178 hQ178
      obtain ⟨rfl, Nq178, K178, Ex178, gk178, gc178, gv178⟩ := hQ178
      obtain ⟨L178, X178, N178⟩ := own_absC (K := 6) (K' := 9) X178 l178 y178 z178 N177 Nq178
      have F179 : n0 ≤ T178.heap.size := Nat.le_trans F169 K178.1
      have F180 := Keep.trans F170 K178 (allS (Or.inr (Nat.le_trans F18.1 (Nat.le_of_eq ga25.symm))) (allS (Or.inr (Nat.le_trans K27.1 gz38)) all0))
      have F181 := Exa.keep Ex168 K178
      have F182 := own_Bn_keep F175 K178 hbq
      refine own_tr (B := (T178.setTop (mkF m 116 #[iv p0, iv p1, iv p2, iv (1 : Int32), iv (2 : Int32), rv a1, rv a4, rv a9, rv a16, rv a25, iv (1 : Int32), .unset, .unset, .unset, .unset] [(.ref a1)]))) st178 ?_
      obtain ⟨T186, X186, e186, st186⟩ := castY X178 hx hZ hown w_41 rfl (Ins.of_exa (own_Bn_exa F182 (List.mem_of_getElem? (i := 0) rfl)) w_42) (g := (mkF m 116 #[iv p0, iv p1, iv p2, iv (1 : Int32), iv (2 : Int32), rv a1, rv a4, rv a9, rv a16, rv a25, iv (1 : Int32), .unset, .unset, .unset, .unset] [(.ref a1)])) rfl rfl (hb hby at_116)
      refine own_go (B := (T186.setTop (mkF m 119 #[iv p0, iv p1, iv p2, iv (1 : Int32), iv (2 : Int32), rv a1, rv a4, rv a9, rv a16, rv a25, iv (1 : Int32), .unset, .unset, .unset, .unset] [(.ref a1)]))) st186 ?_
      refine own_go (B := (T186.setTop (mkF m 121 #[iv p0, iv p1, iv p2, iv (1 : Int32), iv (2 : Int32), rv a1, rv a4, rv a9, rv a16, rv a25, iv (1 : Int32), rv a1, .unset, .unset, .unset] []))) (fun t k => XS.astore X186.here hx rfl (hb hby at_119) rfl rfl (l' := #[iv p0, iv p1, iv p2, iv (1 : Int32), iv (2 : Int32), rv a1, rv a4, rv a9, rv a16, rv a25, iv (1 : Int32), rv a1, .unset, .unset, .unset]) rfl k) ?_
      refine own_go (B := (T186.setTop (mkF m 123 #[iv p0, iv p1, iv p2, iv (1 : Int32), iv (2 : Int32), rv a1, rv a4, rv a9, rv a16, rv a25, iv (1 : Int32), rv a1, .unset, .unset, .unset] [(.ref a25)]))) (fun t k => XS.aload X186.here hx rfl (hb hby at_121) rfl rfl k) ?_
      obtain ⟨cq187, kq187, qa187, qb187, qc187⟩ := isOf hZ e186 Ex178
      obtain ⟨_, _, ⟨T187, L187, k187, n187⟩, -, X187, ⟨Lc187, hQ187, l187, y187, z187⟩, st187⟩ := X186.virtualBack hx (y := own_y7) (z := own_y7) hown (mvT hZ w_31) (mvT hZ w_32) (notFace_of_selects (args := #[]) (mvT hZ w_34)) (mvT hZ w_34) (mvT hZ w_33) (by decide) (backOf (W := 0) (own_tnone l Z a0 hw [] a25 T178.heap n0 gc178) hZ w_35 w_9 (by decide) (by decide)) qa187 qc187 (g := (mkF m 123 #[iv p0, iv p1, iv p2, iv (1 : Int32), iv (2 : Int32), rv a1, rv a4, rv a9, rv a16, rv a25, iv (1 : Int32), rv a1, .unset, .unset, .unset] [(.ref a25)])) rfl (by rw [hml]; rfl) (Steps.refl _) (argsL := []) (rest := []) (lenOf own_pd6 rfl) rfl (by show 2 * 0 + _ ≤ _; exact own_b rfl) (hb hby at_123) (fun _ _ => ⟨rfl, e186, (own_b rfl : 6 + 0 ≤ _), (own_b rfl : 9 + 0 ≤ _)⟩)
      dsimp only [Pt.U, Pt.locs, Pt.cells, Pt.slots] at X187 l187 y187 z187 st187 hQ187
      obtain ⟨rfl, Nq187, eq187⟩ := hQ187
      obtain ⟨L187, X187, N187⟩ := own_absC (K := 6) (K' := 9) X187 l187 y187 z187 N178 Nq187
      have e187 : T187.heap = T178.heap := eq187
      refine own_tr (B := (T187.setTop (mkF m 126 #[iv p0, iv p1, iv p2, iv (1 : Int32), iv (2 : Int32), rv a1, rv a4, rv a9, rv a16, rv a25, iv (1 : Int32), rv a1, .unset, .unset, .unset] [.null]))) st187 ?_
      refine own_go (B := (T187.setTop (mkF m 129 #[iv p0, iv p1, iv p2, iv (1 : Int32), iv (2 : Int32), rv a1, rv a4, rv a9, rv a16, rv a25, iv (1 : Int32), rv a1, .unset, .unset, .unset] [.null]))) (X187.checkcastNull hx (g := (mkF m 126 #[iv p0, iv p1, iv p2, iv (1 : Int32), iv (2 : Int32), rv a1, rv a4, rv a9, rv a16, rv a25, iv (1 : Int32), rv a1, .unset, .unset, .unset] [.null])) rfl rfl (hb hby at_126)) ?_
      refine own_go (B := (T187.setTop (mkF m 131 #[iv p0, iv p1, iv p2, iv (1 : Int32), iv (2 : Int32), rv a1, rv a4, rv a9, rv a16, rv a25, iv (1 : Int32), rv a1, .val .null, .unset, .unset] []))) (fun t k => XS.astore X187.here hx rfl (hb hby at_129) rfl rfl (l' := #[iv p0, iv p1, iv p2, iv (1 : Int32), iv (2 : Int32), rv a1, rv a4, rv a9, rv a16, rv a25, iv (1 : Int32), rv a1, .val .null, .unset, .unset]) rfl k) ?_
      refine own_go (B := (T187.setTop (mkF m 133 #[iv p0, iv p1, iv p2, iv (1 : Int32), iv (2 : Int32), rv a1, rv a4, rv a9, rv a16, rv a25, iv (1 : Int32), rv a1, .val .null, .unset, .unset] [(.ref a25)]))) (fun t k => XS.aload X187.here hx rfl (hb hby at_131) rfl rfl k) ?_
      obtain ⟨cq189, kq189, qa189, qb189, qc189⟩ := isOf hZ e187 Ex178
      obtain ⟨_, _, ⟨T189, L189, k189, n189⟩, -, X189, ⟨Lc189, hQ189, l189, y189, z189⟩, st189⟩ := X187.virtualBack hx (y := own_y7) (z := own_y7) hown (mvT hZ w_31) (mvT hZ w_32) (notFace_of_selects (args := #[]) (mvT hZ w_34)) (mvT hZ w_34) (mvT hZ w_33) (by decide) (backOf (W := 0) (own_tnone l Z a0 hw [] a25 T178.heap n0 gc178) hZ w_35 w_9 (by decide) (by decide)) qa189 qc189 (g := (mkF m 133 #[iv p0, iv p1, iv p2, iv (1 : Int32), iv (2 : Int32), rv a1, rv a4, rv a9, rv a16, rv a25, iv (1 : Int32), rv a1, .val .null, .unset, .unset] [(.ref a25)])) rfl (by rw [hml]; rfl) (Steps.refl _) (argsL := []) (rest := []) (lenOf own_pd6 rfl) rfl (by show 2 * 0 + _ ≤ _; exact own_b rfl) (hb hby at_133) (fun _ _ => ⟨rfl, e187, (own_b rfl : 6 + 0 ≤ _), (own_b rfl : 9 + 0 ≤ _)⟩)
      dsimp only [Pt.U, Pt.locs, Pt.cells, Pt.slots] at X189 l189 y189 z189 st189 hQ189
      obtain ⟨rfl, Nq189, eq189⟩ := hQ189
      obtain ⟨L189, X189, N189⟩ := own_absC (K := 6) (K' := 9) X189 l189 y189 z189 N187 Nq189
      have e189 : T189.heap = T178.heap := eq189
      refine own_tr (B := (T189.setTop (mkF m 136 #[iv p0, iv p1, iv p2, iv (1 : Int32), iv (2 : Int32), rv a1, rv a4, rv a9, rv a16, rv a25, iv (1 : Int32), rv a1, .val .null, .unset, .unset] [.null]))) st189 ?_
      refine own_go (B := (T189.setTop (mkF m 139 #[iv p0, iv p1, iv p2, iv (1 : Int32), iv (2 : Int32), rv a1, rv a4, rv a9, rv a16, rv a25, iv (1 : Int32), rv a1, .val .null, .unset, .unset] [.null]))) (X189.checkcastNull hx (g := (mkF m 136 #[iv p0, iv p1, iv p2, iv (1 : Int32), iv (2 : Int32), rv a1, rv a4, rv a9, rv a16, rv a25, iv (1 : Int32), rv a1, .val .null, .unset, .unset] [.null])) rfl rfl (hb hby at_136)) ?_
      refine own_go (B := (T189.setTop (mkF m 141 #[iv p0, iv p1, iv p2, iv (1 : Int32), iv (2 : Int32), rv a1, rv a4, rv a9, rv a16, rv a25, iv (1 : Int32), rv a1, .val .null, .val .null, .unset] []))) (fun t k => XS.astore X189.here hx rfl (hb hby at_139) rfl rfl (l' := #[iv p0, iv p1, iv p2, iv (1 : Int32), iv (2 : Int32), rv a1, rv a4, rv a9, rv a16, rv a25, iv (1 : Int32), rv a1, .val .null, .val .null, .unset]) rfl k) ?_
      refine own_go (B := (T189.setTop (mkF m 143 #[iv p0, iv p1, iv p2, iv (1 : Int32), iv (2 : Int32), rv a1, rv a4, rv a9, rv a16, rv a25, iv (1 : Int32), rv a1, .val .null, .val .null, .unset] [(.ref a25)]))) (fun t k => XS.aload X189.here hx rfl (hb hby at_141) rfl rfl k) ?_
      obtain ⟨cq191, kq191, qa191, qb191, qc191⟩ := isOf hZ e189 Ex178
      obtain ⟨_, _, ⟨T191, L191, k191, n191⟩, -, X191, ⟨Lc191, hQ191, l191, y191, z191⟩, st191⟩ := X189.virtualBack hx (y := own_y7) (z := own_y7) hown (mvT hZ w_31) (mvT hZ w_32) (notFace_of_selects (args := #[]) (mvT hZ w_34)) (mvT hZ w_34) (mvT hZ w_33) (by decide) (backOf (W := 0) (own_tnone l Z a0 hw [] a25 T178.heap n0 gc178) hZ w_35 w_9 (by decide) (by decide)) qa191 qc191 (g := (mkF m 143 #[iv p0, iv p1, iv p2, iv (1 : Int32), iv (2 : Int32), rv a1, rv a4, rv a9, rv a16, rv a25, iv (1 : Int32), rv a1, .val .null, .val .null, .unset] [(.ref a25)])) rfl (by rw [hml]; rfl) (Steps.refl _) (argsL := []) (rest := []) (lenOf own_pd6 rfl) rfl (by show 2 * 0 + _ ≤ _; exact own_b rfl) (hb hby at_143) (fun _ _ => ⟨rfl, e189, (own_b rfl : 6 + 0 ≤ _), (own_b rfl : 9 + 0 ≤ _)⟩)
      dsimp only [Pt.U, Pt.locs, Pt.cells, Pt.slots] at X191 l191 y191 z191 st191 hQ191
      obtain ⟨rfl, Nq191, eq191⟩ := hQ191
      obtain ⟨L191, X191, N191⟩ := own_absC (K := 6) (K' := 9) X191 l191 y191 z191 N189 Nq191
      have e191 : T191.heap = T178.heap := eq191
      refine own_tr (B := (T191.setTop (mkF m 146 #[iv p0, iv p1, iv p2, iv (1 : Int32), iv (2 : Int32), rv a1, rv a4, rv a9, rv a16, rv a25, iv (1 : Int32), rv a1, .val .null, .val .null, .unset] [.null]))) st191 ?_
      refine own_go (B := (T191.setTop (mkF m 149 #[iv p0, iv p1, iv p2, iv (1 : Int32), iv (2 : Int32), rv a1, rv a4, rv a9, rv a16, rv a25, iv (1 : Int32), rv a1, .val .null, .val .null, .unset] [.null]))) (X191.checkcastNull hx (g := (mkF m 146 #[iv p0, iv p1, iv p2, iv (1 : Int32), iv (2 : Int32), rv a1, rv a4, rv a9, rv a16, rv a25, iv (1 : Int32), rv a1, .val .null, .val .null, .unset] [.null])) rfl rfl (hb hby at_146)) ?_
      refine own_go (B := (T191.setTop (mkF m 151 #[iv p0, iv p1, iv p2, iv (1 : Int32), iv (2 : Int32), rv a1, rv a4, rv a9, rv a16, rv a25, iv (1 : Int32), rv a1, .val .null, .val .null, .val .null] []))) (fun t k => XS.astore X191.here hx rfl (hb hby at_149) rfl rfl (l' := #[iv p0, iv p1, iv p2, iv (1 : Int32), iv (2 : Int32), rv a1, rv a4, rv a9, rv a16, rv a25, iv (1 : Int32), rv a1, .val .null, .val .null, .val .null]) rfl k) ?_
      refine own_go (B := (T191.setTop (mkF m 153 #[iv p0, iv p1, iv p2, iv (1 : Int32), iv (2 : Int32), rv a1, rv a4, rv a9, rv a16, rv a25, iv (1 : Int32), rv a1, .val .null, .val .null, .val .null] [(.ref a1)]))) (fun t k => XS.aload X191.here hx rfl (hb hby at_151) rfl rfl k) ?_
      refine own_go (B := (T191.setTop (mkF m 155 #[iv p0, iv p1, iv p2, iv (1 : Int32), iv (2 : Int32), rv a1, rv a4, rv a9, rv a16, rv a25, iv (1 : Int32), rv a1, .val .null, .val .null, .val .null] [(.int (1 : Int32)), (.ref a1)]))) (fun t k => XS.iload X191.here hx rfl (hb hby at_153) rfl k) ?_
      refine own_go (B := (T191.setTop (mkF m 156 #[iv p0, iv p1, iv p2, iv (1 : Int32), iv (2 : Int32), rv a1, rv a4, rv a9, rv a16, rv a25, iv (1 : Int32), rv a1, .val .null, .val .null, .val .null] [(.int (0 : Int32)), (.int (1 : Int32)), (.ref a1)]))) (fun t k => own_iconst (v := (0 : Int32)) X191.here hx rfl (hb hby at_155) (by decide) k) ?_
      refine own_go (B := (T191.setTop (mkF m 157 #[iv p0, iv p1, iv p2, iv (1 : Int32), iv (2 : Int32), rv a1, rv a4, rv a9, rv a16, rv a25, iv (1 : Int32), rv a1, .val .null, .val .null, .val .null] [(.int p2), (.int (0 : Int32)), (.int (1 : Int32)), (.ref a1)]))) (fun t k => XS.iloadN X191.here hx rfl (hb hby at_156) rfl k) ?_
      obtain ⟨_, _, ⟨T193, L193, k193, n193⟩, -, X193, ⟨Lc193, hQ193, l193, y193, z193⟩, st193⟩ := Jvm.LawKit.callS X191 hx (y := own_y8) hown (mvT hZ w_36) (mvT hZ w_37) (mvT hZ w_38) (mvT hZ w_39) (by decide) (backOf (W := 0) (own_same1 l Z a0 hw [] a1 (1 : Int32) (0 : Int32) p2 p2 T178.heap n0 (own_Bn_exa F182 (List.mem_of_getElem? (i := 0) rfl)) (own_Bn_fld F182 (List.mem_of_getElem? (i := 0) rfl)) (by decide) (own_v0 (by decide))) hZ w_39 w_38 (by decide) (by decide)) (g := (mkF m 157 #[iv p0, iv p1, iv p2, iv (1 : Int32), iv (2 : Int32), rv a1, rv a4, rv a9, rv a16, rv a25, iv (1 : Int32), rv a1, .val .null, .val .null, .val .null] [(.int p2), (.int (0 : Int32)), (.int (1 : Int32)), (.ref a1)])) rfl (by rw [hml]; rfl) (argsL := [(.ref a1), (.int (1 : Int32)), (.int (0 : Int32)), (.int p2)]) (rest := []) (lenOf own_pd7 rfl) rfl (by show 2 * 0 + _ ≤ _; exact own_b rfl) (hb hby at_157) (fun _ _ => ⟨rfl, e191, (own_b rfl : 6 + 0 ≤ _), (own_b rfl : 9 + 0 ≤ _)⟩)
      dsimp only [Pt.U, Pt.locs, Pt.cells, Pt.slots] at X193 l193 y193 z193 st193 hQ193
      obtain ⟨rfl, Nq193, eq193⟩ := hQ193
      obtain ⟨L193, X193, N193⟩ := own_absC (K := 6) (K' := 9) X193 l193 y193 z193 N191 Nq193
      have e193 : T193.heap = T178.heap := eq193
      refine own_go (B := (T193.setTop (mkF m 160 #[iv p0, iv p1, iv p2, iv (1 : Int32), iv (2 : Int32), rv a1, rv a4, rv a9, rv a16, rv a25, iv (1 : Int32), rv a1, .val .null, .val .null, .val .null] [(.int (1 : Int32))]))) st193 ?_
      have hc160 : ¬ (1 : Int32) = (0 : Int32) := (by decide)
      refine own_ifN X193 hx (hb hby at_160) (pn := 163) rfl hc160 ?_
      refine own_go (B := (T193.setTop (mkF m 165 #[iv p0, iv p1, iv p2, iv (1 : Int32), iv (2 : Int32), rv a1, rv a4, rv a9, rv a16, rv a25, iv (1 : Int32), rv a1, .val .null, .val .null, .val .null] [.null]))) (fun t k => XS.aload X193.here hx rfl (hb hby at_163) rfl rfl k) ?_
      refine own_go (B := (T193.setTop (mkF m 167 #[iv p0, iv p1, iv p2, iv (1 : Int32), iv (2 : Int32), rv a1, rv a4, rv a9, rv a16, rv a25, iv (1 : Int32), rv a1, .val .null, .val .null, .val .null] [(.int (1 : Int32)), .null]))) (fun t k => XS.iload X193.here hx rfl (hb hby at_165) rfl k) ?_
      refine own_go (B := (T193.setTop (mkF m 168 #[iv p0, iv p1, iv p2, iv (1 : Int32), iv (2 : Int32), rv a1, rv a4, rv a9, rv a16, rv a25, iv (1 : Int32), rv a1, .val .null, .val .null, .val .null] [(.int (1 : Int32)), (.int (1 : Int32)), .null]))) (fun t k => own_iconst (v := (1 : Int32)) X193.here hx rfl (hb hby at_167) (by decide) k) ?_
      refine own_go (B := (T193.setTop (mkF m 169 #[iv p0, iv p1, iv p2, iv (1 : Int32), iv (2 : Int32), rv a1, rv a4, rv a9, rv a16, rv a25, iv (1 : Int32), rv a1, .val .null, .val .null, .val .null] [(.int p2), (.int (1 : Int32)), (.int (1 : Int32)), .null]))) (fun t k => XS.iloadN X193.here hx rfl (hb hby at_168) rfl k) ?_
      obtain ⟨_, _, ⟨T194, L194, k194, n194⟩, -, X194, ⟨Lc194, hQ194, l194, y194, z194⟩, st194⟩ := Jvm.LawKit.callS X193 hx (y := own_y8) hown (mvT hZ w_36) (mvT hZ w_37) (mvT hZ w_38) (mvT hZ w_39) (by decide) (backOf (W := 0) (own_same0 l Z a0 hw [] (1 : Int32) (1 : Int32) p2 T178.heap n0 (by decide)) hZ w_39 w_38 (by decide) (by decide)) (g := (mkF m 169 #[iv p0, iv p1, iv p2, iv (1 : Int32), iv (2 : Int32), rv a1, rv a4, rv a9, rv a16, rv a25, iv (1 : Int32), rv a1, .val .null, .val .null, .val .null] [(.int p2), (.int (1 : Int32)), (.int (1 : Int32)), .null])) rfl (by rw [hml]; rfl) (argsL := [.null, (.int (1 : Int32)), (.int (1 : Int32)), (.int p2)]) (rest := []) (lenOf own_pd7 rfl) rfl (by show 2 * 0 + _ ≤ _; exact own_b rfl) (hb hby at_169) (fun _ _ => ⟨rfl, e193, (own_b rfl : 6 + 0 ≤ _), (own_b rfl : 9 + 0 ≤ _)⟩)
      dsimp only [Pt.U, Pt.locs, Pt.cells, Pt.slots] at X194 l194 y194 z194 st194 hQ194
      obtain ⟨rfl, Nq194, eq194⟩ := hQ194
      obtain ⟨L194, X194, N194⟩ := own_absC (K := 6) (K' := 9) X194 l194 y194 z194 N193 Nq194
      have e194 : T194.heap = T178.heap := eq194
      refine own_go (B := (T194.setTop (mkF m 172 #[iv p0, iv p1, iv p2, iv (1 : Int32), iv (2 : Int32), rv a1, rv a4, rv a9, rv a16, rv a25, iv (1 : Int32), rv a1, .val .null, .val .null, .val .null] [(.int (1 : Int32))]))) st194 ?_
      have hc172 : ¬ (1 : Int32) = (0 : Int32) := (by decide)
      refine own_ifN X194 hx (hb hby at_172) (pn := 175) rfl hc172 ?_
      refine own_go (B := (T194.setTop (mkF m 177 #[iv p0, iv p1, iv p2, iv (1 : Int32), iv (2 : Int32), rv a1, rv a4, rv a9, rv a16, rv a25, iv (1 : Int32), rv a1, .val .null, .val .null, .val .null] [.null]))) (fun t k => XS.aload X194.here hx rfl (hb hby at_175) rfl rfl k) ?_
      refine own_go (B := (T194.setTop (mkF m 179 #[iv p0, iv p1, iv p2, iv (1 : Int32), iv (2 : Int32), rv a1, rv a4, rv a9, rv a16, rv a25, iv (1 : Int32), rv a1, .val .null, .val .null, .val .null] [(.int (1 : Int32)), .null]))) (fun t k => XS.iload X194.here hx rfl (hb hby at_177) rfl k) ?_
      refine own_go (B := (T194.setTop (mkF m 180 #[iv p0, iv p1, iv p2, iv (1 : Int32), iv (2 : Int32), rv a1, rv a4, rv a9, rv a16, rv a25, iv (1 : Int32), rv a1, .val .null, .val .null, .val .null] [(.int (2 : Int32)), (.int (1 : Int32)), .null]))) (fun t k => own_iconst (v := (2 : Int32)) X194.here hx rfl (hb hby at_179) (by decide) k) ?_
      refine own_go (B := (T194.setTop (mkF m 181 #[iv p0, iv p1, iv p2, iv (1 : Int32), iv (2 : Int32), rv a1, rv a4, rv a9, rv a16, rv a25, iv (1 : Int32), rv a1, .val .null, .val .null, .val .null] [(.int p2), (.int (2 : Int32)), (.int (1 : Int32)), .null]))) (fun t k => XS.iloadN X194.here hx rfl (hb hby at_180) rfl k) ?_
      obtain ⟨_, _, ⟨T195, L195, k195, n195⟩, -, X195, ⟨Lc195, hQ195, l195, y195, z195⟩, st195⟩ := Jvm.LawKit.callS X194 hx (y := own_y8) hown (mvT hZ w_36) (mvT hZ w_37) (mvT hZ w_38) (mvT hZ w_39) (by decide) (backOf (W := 0) (own_same0 l Z a0 hw [] (1 : Int32) (2 : Int32) p2 T178.heap n0 (by decide)) hZ w_39 w_38 (by decide) (by decide)) (g := (mkF m 181 #[iv p0, iv p1, iv p2, iv (1 : Int32), iv (2 : Int32), rv a1, rv a4, rv a9, rv a16, rv a25, iv (1 : Int32), rv a1, .val .null, .val .null, .val .null] [(.int p2), (.int (2 : Int32)), (.int (1 : Int32)), .null])) rfl (by rw [hml]; rfl) (argsL := [.null, (.int (1 : Int32)), (.int (2 : Int32)), (.int p2)]) (rest := []) (lenOf own_pd7 rfl) rfl (by show 2 * 0 + _ ≤ _; exact own_b rfl) (hb hby at_181) (fun _ _ => ⟨rfl, e194, (own_b rfl : 6 + 0 ≤ _), (own_b rfl : 9 + 0 ≤ _)⟩)
      dsimp only [Pt.U, Pt.locs, Pt.cells, Pt.slots] at X195 l195 y195 z195 st195 hQ195
      obtain ⟨rfl, Nq195, eq195⟩ := hQ195
      obtain ⟨L195, X195, N195⟩ := own_absC (K := 6) (K' := 9) X195 l195 y195 z195 N194 Nq195
      have e195 : T195.heap = T178.heap := eq195
      refine own_go (B := (T195.setTop (mkF m 184 #[iv p0, iv p1, iv p2, iv (1 : Int32), iv (2 : Int32), rv a1, rv a4, rv a9, rv a16, rv a25, iv (1 : Int32), rv a1, .val .null, .val .null, .val .null] [(.int (1 : Int32))]))) st195 ?_
      have hc184 : ¬ (1 : Int32) = (0 : Int32) := (by decide)
      refine own_ifN X195 hx (hb hby at_184) (pn := 187) rfl hc184 ?_
      refine own_go (B := (T195.setTop (mkF m 189 #[iv p0, iv p1, iv p2, iv (1 : Int32), iv (2 : Int32), rv a1, rv a4, rv a9, rv a16, rv a25, iv (1 : Int32), rv a1, .val .null, .val .null, .val .null] [.null]))) (fun t k => XS.aload X195.here hx rfl (hb hby at_187) rfl rfl k) ?_
      refine own_go (B := (T195.setTop (mkF m 191 #[iv p0, iv p1, iv p2, iv (1 : Int32), iv (2 : Int32), rv a1, rv a4, rv a9, rv a16, rv a25, iv (1 : Int32), rv a1, .val .null, .val .null, .val .null] [(.int (1 : Int32)), .null]))) (fun t k => XS.iload X195.here hx rfl (hb hby at_189) rfl k) ?_
      refine own_go (B := (T195.setTop (mkF m 192 #[iv p0, iv p1, iv p2, iv (1 : Int32), iv (2 : Int32), rv a1, rv a4, rv a9, rv a16, rv a25, iv (1 : Int32), rv a1, .val .null, .val .null, .val .null] [(.int (3 : Int32)), (.int (1 : Int32)), .null]))) (fun t k => own_iconst (v := (3 : Int32)) X195.here hx rfl (hb hby at_191) (by decide) k) ?_
      refine own_go (B := (T195.setTop (mkF m 193 #[iv p0, iv p1, iv p2, iv (1 : Int32), iv (2 : Int32), rv a1, rv a4, rv a9, rv a16, rv a25, iv (1 : Int32), rv a1, .val .null, .val .null, .val .null] [(.int p2), (.int (3 : Int32)), (.int (1 : Int32)), .null]))) (fun t k => XS.iloadN X195.here hx rfl (hb hby at_192) rfl k) ?_
      obtain ⟨_, _, ⟨T196, L196, k196, n196⟩, -, X196, ⟨Lc196, hQ196, l196, y196, z196⟩, st196⟩ := Jvm.LawKit.callS X195 hx (y := own_y8) hown (mvT hZ w_36) (mvT hZ w_37) (mvT hZ w_38) (mvT hZ w_39) (by decide) (backOf (W := 0) (own_same0 l Z a0 hw [] (1 : Int32) (3 : Int32) p2 T178.heap n0 (by decide)) hZ w_39 w_38 (by decide) (by decide)) (g := (mkF m 193 #[iv p0, iv p1, iv p2, iv (1 : Int32), iv (2 : Int32), rv a1, rv a4, rv a9, rv a16, rv a25, iv (1 : Int32), rv a1, .val .null, .val .null, .val .null] [(.int p2), (.int (3 : Int32)), (.int (1 : Int32)), .null])) rfl (by rw [hml]; rfl) (argsL := [.null, (.int (1 : Int32)), (.int (3 : Int32)), (.int p2)]) (rest := []) (lenOf own_pd7 rfl) rfl (by show 2 * 0 + _ ≤ _; exact own_b rfl) (hb hby at_193) (fun _ _ => ⟨rfl, e195, (own_b rfl : 6 + 0 ≤ _), (own_b rfl : 9 + 0 ≤ _)⟩)
      dsimp only [Pt.U, Pt.locs, Pt.cells, Pt.slots] at X196 l196 y196 z196 st196 hQ196
      obtain ⟨rfl, Nq196, eq196⟩ := hQ196
      obtain ⟨L196, X196, N196⟩ := own_absC (K := 6) (K' := 9) X196 l196 y196 z196 N195 Nq196
      have e196 : T196.heap = T178.heap := eq196
      refine own_go (B := (T196.setTop (mkF m 196 #[iv p0, iv p1, iv p2, iv (1 : Int32), iv (2 : Int32), rv a1, rv a4, rv a9, rv a16, rv a25, iv (1 : Int32), rv a1, .val .null, .val .null, .val .null] [(.int (1 : Int32))]))) st196 ?_
      have hc196 : ¬ (1 : Int32) = (0 : Int32) := (by decide)
      refine own_ifN X196 hx (hb hby at_196) (pn := 199) rfl hc196 ?_
      refine own_go (B := (T196.setTop (mkF m 200 #[iv p0, iv p1, iv p2, iv (1 : Int32), iv (2 : Int32), rv a1, rv a4, rv a9, rv a16, rv a25, iv (1 : Int32), rv a1, .val .null, .val .null, .val .null] [(.int (1 : Int32))]))) (fun t k => own_iconst (v := (1 : Int32)) X196.here hx rfl (hb hby at_199) (by decide) k) ?_
      refine own_go (B := (T196.setTop (mkF m 204 #[iv p0, iv p1, iv p2, iv (1 : Int32), iv (2 : Int32), rv a1, rv a4, rv a9, rv a16, rv a25, iv (1 : Int32), rv a1, .val .null, .val .null, .val .null] [(.int (1 : Int32))]))) (fun t k => XS.goto X196.here hx rfl (pc0 := 200) (pc' := 204) rfl (hb hby at_200) (by decide) (by decide) k) ?_
      exact own_retZ X196 hx hlk Bd.returns (hb hby at_204) (by decide) (own_b rfl) (own_b rfl) (Q := (own_law_Q Z p0 p1 p2 ca h0 n0)) ⟨rfl, N196⟩
    · refine own_go (B := (T38.setTop (mkF m 54 #[iv p0, iv p1, iv p2, iv (1 : Int32), iv (3 : Int32), rv a1, rv a4, rv a9, rv a16, rv a25, .unset, .unset, .unset, .unset, .unset] [(.int (3 : Int32))]))) (fun t k => XS.iload X38.here hx rfl (hb hby at_52) rfl k) ?_
      have hc54 : (0 : Int32) < (3 : Int32) := (by decide)
      refine own_ifN X38 hx (hb hby at_54) (pn := 57) rfl hc54 ?_
      refine own_go (B := (T38.setTop (mkF m 59 #[iv p0, iv p1, iv p2, iv (1 : Int32), iv (3 : Int32), rv a1, rv a4, rv a9, rv a16, rv a25, .unset, .unset, .unset, .unset, .unset] [(.ref a25)]))) (fun t k => XS.aload X38.here hx rfl (hb hby at_57) rfl rfl k) ?_
      refine own_go (B := (T38.setTop (mkF m 61 #[iv p0, iv p1, iv p2, iv (1 : Int32), iv (3 : Int32), rv a1, rv a4, rv a9, rv a16, rv a25, .unset, .unset, .unset, .unset, .unset] [(.ref a1), (.ref a25)]))) (fun t k => XS.aload X38.here hx rfl (hb hby at_59) rfl rfl k) ?_
      obtain ⟨cq197, kq197, qa197, qb197, qc197⟩ := isOf hZ rfl Ex38
      obtain ⟨_, _, ⟨T197, L197, k197, n197⟩, -, X197, ⟨Lc197, hQ197, l197, y197, z197⟩, st197⟩ := X38.virtualBack hx (y := own_y9) (z := own_y9) hown (mvT hZ w_20) (mvT hZ w_21) (notFace_of_selects (args := #[]) (mvT hZ w_23)) (mvT hZ w_23) (mvT hZ w_22) (by decide) (backOf (W := 0) (own_kone l Z a0 hw [] a25 a1 ar38 (0 : Int32) (1 : Int32) (1 : Int32) [.null] [(.ref a1)] T38.heap n0 Ex38 gk38 gc38 Vb F39 gn25 gn_ar38 ne_ar38_a25 (own_lenL (n := 1) rfl (by decide)) (by decide) (by decide) (Nat.lt_of_lt_of_eq (by decide : _ < 1) rfl) (by decide) (Ins.of_exa (own_Bn_exa BB (List.mem_of_getElem? (i := 0) rfl)) w_40) rfl) hZ w_24 w_9 (by decide) (by decide)) qa197 qc197 (g := (mkF m 61 #[iv p0, iv p1, iv p2, iv (1 : Int32), iv (3 : Int32), rv a1, rv a4, rv a9, rv a16, rv a25, .unset, .unset, .unset, .unset, .unset] [(.ref a1), (.ref a25)])) rfl (by rw [hml]; rfl) (Steps.refl _) (argsL := [(.ref a1)]) (rest := []) (lenOf own_pd8 rfl) rfl (by show 2 * 0 + _ ≤ _; exact own_b rfl) (hb hby at_61) (fun _ _ => ⟨rfl, rfl, (own_b rfl : 6 + 0 ≤ _), (own_b rfl : 9 + 0 ≤ _)⟩)
      dsimp only [Pt.U, Pt.locs, Pt.cells, Pt.slots] at X197 l197 y197 z197 st197 hQ197
      obtain ⟨rfl, Nq197, K197, Ex197, gk197, gc197, gv197⟩ := hQ197
      obtain ⟨L197, X197, N197⟩ := own_absC (K := 6) (K' := 9) X197 l197 y197 z197 N38 Nq197
      have F198 : n0 ≤ T197.heap.size := Nat.le_trans F39 K197.1
      have F199 := Keep.trans F40 K197 (allS (Or.inr (Nat.le_trans F18.1 (Nat.le_of_eq ga25.symm))) (allS (Or.inr (Nat.le_trans K27.1 gz38)) all0))
      have F200 := Exa.keep Ex38 K197
      have F204 := own_Bn_keep BB K197 hbq
      refine own_tr (B := (T197.setTop (mkF m 64 #[iv p0, iv p1, iv p2, iv (1 : Int32), iv (3 : Int32), rv a1, rv a4, rv a9, rv a16, rv a25, .unset, .unset, .unset, .unset, .unset] []))) st197 ?_
      refine own_go (B := (T197.setTop (mkF m 66 #[iv p0, iv p1, iv p2, iv (1 : Int32), iv (3 : Int32), rv a1, rv a4, rv a9, rv a16, rv a25, .unset, .unset, .unset, .unset, .unset] [(.int (3 : Int32))]))) (fun t k => XS.iload X197.here hx rfl (hb hby at_64) rfl k) ?_
      refine own_go (B := (T197.setTop (mkF m 67 #[iv p0, iv p1, iv p2, iv (1 : Int32), iv (3 : Int32), rv a1, rv a4, rv a9, rv a16, rv a25, .unset, .unset, .unset, .unset, .unset] [(.int (1 : Int32)), (.int (3 : Int32))]))) (fun t k => own_iconst (v := (1 : Int32)) X197.here hx rfl (hb hby at_66) (by decide) k) ?_
      have hc67 : (1 : Int32) < (3 : Int32) := (by decide)
      refine own_icmpN X197 hx (hb hby at_67) (pn := 70) rfl hc67 ?_
      refine own_go (B := (T197.setTop (mkF m 72 #[iv p0, iv p1, iv p2, iv (1 : Int32), iv (3 : Int32), rv a1, rv a4, rv a9, rv a16, rv a25, .unset, .unset, .unset, .unset, .unset] [(.ref a25)]))) (fun t k => XS.aload X197.here hx rfl (hb hby at_70) rfl rfl k) ?_
      refine own_go (B := (T197.setTop (mkF m 74 #[iv p0, iv p1, iv p2, iv (1 : Int32), iv (3 : Int32), rv a1, rv a4, rv a9, rv a16, rv a25, .unset, .unset, .unset, .unset, .unset] [(.ref a4), (.ref a25)]))) (fun t k => XS.aload X197.here hx rfl (hb hby at_72) rfl rfl k) ?_
      obtain ⟨cq205, kq205, qa205, qb205, qc205⟩ := isOf hZ rfl Ex197
      obtain ⟨_, _, ⟨T205, L205, k205, n205⟩, -, X205, ⟨Lc205, hQ205, l205, y205, z205⟩, st205⟩ := X197.virtualBack hx (y := own_y9) (z := own_y9) hown (mvT hZ w_20) (mvT hZ w_21) (notFace_of_selects (args := #[]) (mvT hZ w_23)) (mvT hZ w_23) (mvT hZ w_22) (by decide) (backOf (W := 0) (own_kfull l Z a0 hw [] a25 a4 ar38 (1 : Int32) (1 : Int32) [(.ref a1)] T197.heap n0 Ex197 gk197 gc197 gv197 (own_lenL (n := 1) rfl (by decide)) (by decide)) hZ w_24 w_9 (by decide) (by decide)) qa205 qc205 (g := (mkF m 74 #[iv p0, iv p1, iv p2, iv (1 : Int32), iv (3 : Int32), rv a1, rv a4, rv a9, rv a16, rv a25, .unset, .unset, .unset, .unset, .unset] [(.ref a4), (.ref a25)])) rfl (by rw [hml]; rfl) (Steps.refl _) (argsL := [(.ref a4)]) (rest := []) (lenOf own_pd8 rfl) rfl (by show 2 * 0 + _ ≤ _; exact own_b rfl) (hb hby at_74) (fun _ _ => ⟨rfl, rfl, (own_b rfl : 6 + 0 ≤ _), (own_b rfl : 9 + 0 ≤ _)⟩)
      dsimp only [Pt.U, Pt.locs, Pt.cells, Pt.slots] at X205 l205 y205 z205 st205 hQ205
      obtain ⟨rfl, Nq205, eq205⟩ := hQ205
      obtain ⟨L205, X205, N205⟩ := own_absC (K := 6) (K' := 9) X205 l205 y205 z205 N197 Nq205
      have e205 : T205.heap = T197.heap := eq205
      refine own_tr (B := (T205.setTop (mkF m 77 #[iv p0, iv p1, iv p2, iv (1 : Int32), iv (3 : Int32), rv a1, rv a4, rv a9, rv a16, rv a25, .unset, .unset, .unset, .unset, .unset] []))) st205 ?_
      refine own_go (B := (T205.setTop (mkF m 79 #[iv p0, iv p1, iv p2, iv (1 : Int32), iv (3 : Int32), rv a1, rv a4, rv a9, rv a16, rv a25, .unset, .unset, .unset, .unset, .unset] [(.int (3 : Int32))]))) (fun t k => XS.iload X205.here hx rfl (hb hby at_77) rfl k) ?_
      refine own_go (B := (T205.setTop (mkF m 80 #[iv p0, iv p1, iv p2, iv (1 : Int32), iv (3 : Int32), rv a1, rv a4, rv a9, rv a16, rv a25, .unset, .unset, .unset, .unset, .unset] [(.int (2 : Int32)), (.int (3 : Int32))]))) (fun t k => own_iconst (v := (2 : Int32)) X205.here hx rfl (hb hby at_79) (by decide) k) ?_
      have hc80 : (2 : Int32) < (3 : Int32) := (by decide)
      refine own_icmpN X205 hx (hb hby at_80) (pn := 83) rfl hc80 ?_
      refine own_go (B := (T205.setTop (mkF m 85 #[iv p0, iv p1, iv p2, iv (1 : Int32), iv (3 : Int32), rv a1, rv a4, rv a9, rv a16, rv a25, .unset, .unset, .unset, .unset, .unset] [(.ref a25)]))) (fun t k => XS.aload X205.here hx rfl (hb hby at_83) rfl rfl k) ?_
      refine own_go (B := (T205.setTop (mkF m 87 #[iv p0, iv p1, iv p2, iv (1 : Int32), iv (3 : Int32), rv a1, rv a4, rv a9, rv a16, rv a25, .unset, .unset, .unset, .unset, .unset] [(.ref a9), (.ref a25)]))) (fun t k => XS.aload X205.here hx rfl (hb hby at_85) rfl rfl k) ?_
      obtain ⟨cq206, kq206, qa206, qb206, qc206⟩ := isOf hZ e205 Ex197
      obtain ⟨_, _, ⟨T206, L206, k206, n206⟩, -, X206, ⟨Lc206, hQ206, l206, y206, z206⟩, st206⟩ := X205.virtualBack hx (y := own_y9) (z := own_y9) hown (mvT hZ w_20) (mvT hZ w_21) (notFace_of_selects (args := #[]) (mvT hZ w_23)) (mvT hZ w_23) (mvT hZ w_22) (by decide) (backOf (W := 0) (own_kfull l Z a0 hw [] a25 a9 ar38 (1 : Int32) (1 : Int32) [(.ref a1)] T197.heap n0 Ex197 gk197 gc197 gv197 (own_lenL (n := 1) rfl (by decide)) (by decide)) hZ w_24 w_9 (by decide) (by decide)) qa206 qc206 (g := (mkF m 87 #[iv p0, iv p1, iv p2, iv (1 : Int32), iv (3 : Int32), rv a1, rv a4, rv a9, rv a16, rv a25, .unset, .unset, .unset, .unset, .unset] [(.ref a9), (.ref a25)])) rfl (by rw [hml]; rfl) (Steps.refl _) (argsL := [(.ref a9)]) (rest := []) (lenOf own_pd8 rfl) rfl (by show 2 * 0 + _ ≤ _; exact own_b rfl) (hb hby at_87) (fun _ _ => ⟨rfl, e205, (own_b rfl : 6 + 0 ≤ _), (own_b rfl : 9 + 0 ≤ _)⟩)
      dsimp only [Pt.U, Pt.locs, Pt.cells, Pt.slots] at X206 l206 y206 z206 st206 hQ206
      obtain ⟨rfl, Nq206, eq206⟩ := hQ206
      obtain ⟨L206, X206, N206⟩ := own_absC (K := 6) (K' := 9) X206 l206 y206 z206 N205 Nq206
      have e206 : T206.heap = T197.heap := eq206
      refine own_tr (B := (T206.setTop (mkF m 90 #[iv p0, iv p1, iv p2, iv (1 : Int32), iv (3 : Int32), rv a1, rv a4, rv a9, rv a16, rv a25, .unset, .unset, .unset, .unset, .unset] []))) st206 ?_
      refine own_go (B := (T206.setTop (mkF m 92 #[iv p0, iv p1, iv p2, iv (1 : Int32), iv (3 : Int32), rv a1, rv a4, rv a9, rv a16, rv a25, .unset, .unset, .unset, .unset, .unset] [(.int (3 : Int32))]))) (fun t k => XS.iload X206.here hx rfl (hb hby at_90) rfl k) ?_
      refine own_go (B := (T206.setTop (mkF m 93 #[iv p0, iv p1, iv p2, iv (1 : Int32), iv (3 : Int32), rv a1, rv a4, rv a9, rv a16, rv a25, .unset, .unset, .unset, .unset, .unset] [(.int (3 : Int32)), (.int (3 : Int32))]))) (fun t k => own_iconst (v := (3 : Int32)) X206.here hx rfl (hb hby at_92) (by decide) k) ?_
      have hc93 : ¬ (3 : Int32) < (3 : Int32) := (by decide)
      refine own_icmpY X206 hx (hb hby at_93) (pc' := 103) (by decide) (by decide) hc93 ?_
      refine own_go (B := (T206.setTop (mkF m 105 #[iv p0, iv p1, iv p2, iv (1 : Int32), iv (3 : Int32), rv a1, rv a4, rv a9, rv a16, rv a25, .unset, .unset, .unset, .unset, .unset] [(.int (3 : Int32))]))) (fun t k => XS.iload X206.here hx rfl (hb hby at_103) rfl k) ?_
      refine own_go (B := (T206.setTop (mkF m 106 #[iv p0, iv p1, iv p2, iv (1 : Int32), iv (3 : Int32), rv a1, rv a4, rv a9, rv a16, rv a25, .unset, .unset, .unset, .unset, .unset] [(.int (1 : Int32)), (.int (3 : Int32))]))) (fun t k => XS.iloadN X206.here hx rfl (hb hby at_105) rfl k) ?_
      obtain ⟨_, _, ⟨T207, L207, k207, n207⟩, -, X207, ⟨Lc207, hQ207, l207, y207, z207⟩, st207⟩ := Jvm.LawKit.callS X206 hx (y := own_y6) hown (mvT hZ w_27) (mvT hZ w_28) (mvT hZ w_29) (mvT hZ w_30) (by decide) (backOf (W := 0) (own_mmin l Z a0 hw [] (3 : Int32) (1 : Int32) T197.heap n0) hZ w_30 w_29 (by decide) (by decide)) (g := (mkF m 106 #[iv p0, iv p1, iv p2, iv (1 : Int32), iv (3 : Int32), rv a1, rv a4, rv a9, rv a16, rv a25, .unset, .unset, .unset, .unset, .unset] [(.int (1 : Int32)), (.int (3 : Int32))])) rfl (by rw [hml]; rfl) (argsL := [(.int (3 : Int32)), (.int (1 : Int32))]) (rest := []) (lenOf own_pd5 rfl) rfl (by show 2 * 0 + _ ≤ _; exact own_b rfl) (hb hby at_106) (fun _ _ => ⟨rfl, e206, (own_b rfl : 6 + 0 ≤ _), (own_b rfl : 9 + 0 ≤ _)⟩)
      dsimp only [Pt.U, Pt.locs, Pt.cells, Pt.slots] at X207 l207 y207 z207 st207 hQ207
      obtain ⟨rfl, Nq207, eq207⟩ := hQ207
      obtain ⟨L207, X207, N207⟩ := own_absC (K := 6) (K' := 9) X207 l207 y207 z207 N206 Nq207
      have e207 : T207.heap = T197.heap := eq207
      refine own_go (B := (T207.setTop (mkF m 109 #[iv p0, iv p1, iv p2, iv (1 : Int32), iv (3 : Int32), rv a1, rv a4, rv a9, rv a16, rv a25, .unset, .unset, .unset, .unset, .unset] [(.int (own_min (3 : Int32) (1 : Int32)))]))) st207 ?_
      rw [show own_min (3 : Int32) (1 : Int32) = (1 : Int32) from by decide]
      refine own_go (B := (T207.setTop (mkF m 111 #[iv p0, iv p1, iv p2, iv (1 : Int32), iv (3 : Int32), rv a1, rv a4, rv a9, rv a16, rv a25, iv (1 : Int32), .unset, .unset, .unset, .unset] []))) (fun t k => XS.istore X207.here hx rfl (hb hby at_109) rfl (l' := #[iv p0, iv p1, iv p2, iv (1 : Int32), iv (3 : Int32), rv a1, rv a4, rv a9, rv a16, rv a25, iv (1 : Int32), .unset, .unset, .unset, .unset]) rfl k) ?_
      refine own_go (B := (T207.setTop (mkF m 113 #[iv p0, iv p1, iv p2, iv (1 : Int32), iv (3 : Int32), rv a1, rv a4, rv a9, rv a16, rv a25, iv (1 : Int32), .unset, .unset, .unset, .unset] [(.ref a25)]))) (fun t k => XS.aload X207.here hx rfl (hb hby at_111) rfl rfl k) ?_
      obtain ⟨cq208, kq208, qa208, qb208, qc208⟩ := isOf hZ e207 Ex197
      obtain ⟨_, _, ⟨T208, L208, k208, n208⟩, -, X208, ⟨Lc208, hQ208, l208, y208, z208⟩, st208⟩ := X207.virtualBack hx (y := own_y7) (z := own_y7) hown (mvT hZ w_31) (mvT hZ w_32) (notFace_of_selects (args := #[]) (mvT hZ w_34)) (mvT hZ w_34) (mvT hZ w_33) (by decide) (backOf (W := 0) (own_tone l Z a0 hw [] a25 ar38 a1 (1 : Int32) (0 : Int32) [(.ref a1)] [.null] T197.heap n0 Ex197 gk197 gc197 gv197 F198 gn25 gn_ar38 ne_ar38_a25 (by decide) (by decide) (by decide) rfl rfl) hZ w_35 w_9 (by decide) (by decide)) qa208 qc208 (g := (mkF m 113 #[iv p0, iv p1, iv p2, iv (1 : Int32), iv (3 : Int32), rv a1, rv a4, rv a9, rv a16, rv a25, iv (1 : Int32), .unset, .unset, .unset, .unset] [(.ref a25)])) rfl (by rw [hml]; rfl) (Steps.refl _) (argsL := []) (rest := []) (lenOf own_pd6 rfl) rfl (by show 2 * 0 + _ ≤ _; exact own_b rfl) (hb hby at_113) (fun _ _ => ⟨rfl, e207, (own_b rfl : 6 + 0 ≤ _), (own_b rfl : 9 + 0 ≤ _)⟩)
      dsimp only [Pt.U, Pt.locs, Pt.cells, Pt.slots] at X208 l208 y208 z208 st208 hQ208
      obtain ⟨rfl, Nq208, K208, Ex208, gk208, gc208, gv208⟩ := hQ208
      obtain ⟨L208, X208, N208⟩ := own_absC (K := 6) (K' := 9) X208 l208 y208 z208 N207 Nq208
      have F209 : n0 ≤ T208.heap.size := Nat.le_trans F198 K208.1
      have F210 := Keep.trans F199 K208 (allS (Or.inr (Nat.le_trans F18.1 (Nat.le_of_eq ga25.symm))) (allS (Or.inr (Nat.le_trans K27.1 gz38)) all0))
      have F211 := Exa.keep Ex197 K208
      have F212 := own_Bn_keep F204 K208 hbq
      refine own_tr (B := (T208.setTop (mkF m 116 #[iv p0, iv p1, iv p2, iv (1 : Int32), iv (3 : Int32), rv a1, rv a4, rv a9, rv a16, rv a25, iv (1 : Int32), .unset, .unset, .unset, .unset] [(.ref a1)]))) st208 ?_
      obtain ⟨T216, X216, e216, st216⟩ := castY X208 hx hZ hown w_41 rfl (Ins.of_exa (own_Bn_exa F212 (List.mem_of_getElem? (i := 0) rfl)) w_42) (g := (mkF m 116 #[iv p0, iv p1, iv p2, iv (1 : Int32), iv (3 : Int32), rv a1, rv a4, rv a9, rv a16, rv a25, iv (1 : Int32), .unset, .unset, .unset, .unset] [(.ref a1)])) rfl rfl (hb hby at_116)
      refine own_go (B := (T216.setTop (mkF m 119 #[iv p0, iv p1, iv p2, iv (1 : Int32), iv (3 : Int32), rv a1, rv a4, rv a9, rv a16, rv a25, iv (1 : Int32), .unset, .unset, .unset, .unset] [(.ref a1)]))) st216 ?_
      refine own_go (B := (T216.setTop (mkF m 121 #[iv p0, iv p1, iv p2, iv (1 : Int32), iv (3 : Int32), rv a1, rv a4, rv a9, rv a16, rv a25, iv (1 : Int32), rv a1, .unset, .unset, .unset] []))) (fun t k => XS.astore X216.here hx rfl (hb hby at_119) rfl rfl (l' := #[iv p0, iv p1, iv p2, iv (1 : Int32), iv (3 : Int32), rv a1, rv a4, rv a9, rv a16, rv a25, iv (1 : Int32), rv a1, .unset, .unset, .unset]) rfl k) ?_
      refine own_go (B := (T216.setTop (mkF m 123 #[iv p0, iv p1, iv p2, iv (1 : Int32), iv (3 : Int32), rv a1, rv a4, rv a9, rv a16, rv a25, iv (1 : Int32), rv a1, .unset, .unset, .unset] [(.ref a25)]))) (fun t k => XS.aload X216.here hx rfl (hb hby at_121) rfl rfl k) ?_
      obtain ⟨cq217, kq217, qa217, qb217, qc217⟩ := isOf hZ e216 Ex208
      obtain ⟨_, _, ⟨T217, L217, k217, n217⟩, -, X217, ⟨Lc217, hQ217, l217, y217, z217⟩, st217⟩ := X216.virtualBack hx (y := own_y7) (z := own_y7) hown (mvT hZ w_31) (mvT hZ w_32) (notFace_of_selects (args := #[]) (mvT hZ w_34)) (mvT hZ w_34) (mvT hZ w_33) (by decide) (backOf (W := 0) (own_tnone l Z a0 hw [] a25 T208.heap n0 gc208) hZ w_35 w_9 (by decide) (by decide)) qa217 qc217 (g := (mkF m 123 #[iv p0, iv p1, iv p2, iv (1 : Int32), iv (3 : Int32), rv a1, rv a4, rv a9, rv a16, rv a25, iv (1 : Int32), rv a1, .unset, .unset, .unset] [(.ref a25)])) rfl (by rw [hml]; rfl) (Steps.refl _) (argsL := []) (rest := []) (lenOf own_pd6 rfl) rfl (by show 2 * 0 + _ ≤ _; exact own_b rfl) (hb hby at_123) (fun _ _ => ⟨rfl, e216, (own_b rfl : 6 + 0 ≤ _), (own_b rfl : 9 + 0 ≤ _)⟩)
      dsimp only [Pt.U, Pt.locs, Pt.cells, Pt.slots] at X217 l217 y217 z217 st217 hQ217
      obtain ⟨rfl, Nq217, eq217⟩ := hQ217
      obtain ⟨L217, X217, N217⟩ := own_absC (K := 6) (K' := 9) X217 l217 y217 z217 N208 Nq217
      have e217 : T217.heap = T208.heap := eq217
      refine own_tr (B := (T217.setTop (mkF m 126 #[iv p0, iv p1, iv p2, iv (1 : Int32), iv (3 : Int32), rv a1, rv a4, rv a9, rv a16, rv a25, iv (1 : Int32), rv a1, .unset, .unset, .unset] [.null]))) st217 ?_
      refine own_go (B := (T217.setTop (mkF m 129 #[iv p0, iv p1, iv p2, iv (1 : Int32), iv (3 : Int32), rv a1, rv a4, rv a9, rv a16, rv a25, iv (1 : Int32), rv a1, .unset, .unset, .unset] [.null]))) (X217.checkcastNull hx (g := (mkF m 126 #[iv p0, iv p1, iv p2, iv (1 : Int32), iv (3 : Int32), rv a1, rv a4, rv a9, rv a16, rv a25, iv (1 : Int32), rv a1, .unset, .unset, .unset] [.null])) rfl rfl (hb hby at_126)) ?_
      refine own_go (B := (T217.setTop (mkF m 131 #[iv p0, iv p1, iv p2, iv (1 : Int32), iv (3 : Int32), rv a1, rv a4, rv a9, rv a16, rv a25, iv (1 : Int32), rv a1, .val .null, .unset, .unset] []))) (fun t k => XS.astore X217.here hx rfl (hb hby at_129) rfl rfl (l' := #[iv p0, iv p1, iv p2, iv (1 : Int32), iv (3 : Int32), rv a1, rv a4, rv a9, rv a16, rv a25, iv (1 : Int32), rv a1, .val .null, .unset, .unset]) rfl k) ?_
      refine own_go (B := (T217.setTop (mkF m 133 #[iv p0, iv p1, iv p2, iv (1 : Int32), iv (3 : Int32), rv a1, rv a4, rv a9, rv a16, rv a25, iv (1 : Int32), rv a1, .val .null, .unset, .unset] [(.ref a25)]))) (fun t k => XS.aload X217.here hx rfl (hb hby at_131) rfl rfl k) ?_
      obtain ⟨cq219, kq219, qa219, qb219, qc219⟩ := isOf hZ e217 Ex208
      obtain ⟨_, _, ⟨T219, L219, k219, n219⟩, -, X219, ⟨Lc219, hQ219, l219, y219, z219⟩, st219⟩ := X217.virtualBack hx (y := own_y7) (z := own_y7) hown (mvT hZ w_31) (mvT hZ w_32) (notFace_of_selects (args := #[]) (mvT hZ w_34)) (mvT hZ w_34) (mvT hZ w_33) (by decide) (backOf (W := 0) (own_tnone l Z a0 hw [] a25 T208.heap n0 gc208) hZ w_35 w_9 (by decide) (by decide)) qa219 qc219 (g := (mkF m 133 #[iv p0, iv p1, iv p2, iv (1 : Int32), iv (3 : Int32), rv a1, rv a4, rv a9, rv a16, rv a25, iv (1 : Int32), rv a1, .val .null, .unset, .unset] [(.ref a25)])) rfl (by rw [hml]; rfl) (Steps.refl _) (argsL := []) (rest := []) (lenOf own_pd6 rfl) rfl (by show 2 * 0 + _ ≤ _; exact own_b rfl) (hb hby at_133) (fun _ _ => ⟨rfl, e217, (own_b rfl : 6 + 0 ≤ _), (own_b rfl : 9 + 0 ≤ _)⟩)
      dsimp only [Pt.U, Pt.locs, Pt.cells, Pt.slots] at X219 l219 y219 z219 st219 hQ219
      obtain ⟨rfl, Nq219, eq219⟩ := hQ219
      obtain ⟨L219, X219, N219⟩ := own_absC (K := 6) (K' := 9) X219 l219 y219 z219 N217 Nq219
      have e219 : T219.heap = T208.heap := eq219
      refine own_tr (B := (T219.setTop (mkF m 136 #[iv p0, iv p1, iv p2, iv (1 : Int32), iv (3 : Int32), rv a1, rv a4, rv a9, rv a16, rv a25, iv (1 : Int32), rv a1, .val .null, .unset, .unset] [.null]))) st219 ?_
      refine own_go (B := (T219.setTop (mkF m 139 #[iv p0, iv p1, iv p2, iv (1 : Int32), iv (3 : Int32), rv a1, rv a4, rv a9, rv a16, rv a25, iv (1 : Int32), rv a1, .val .null, .unset, .unset] [.null]))) (X219.checkcastNull hx (g := (mkF m 136 #[iv p0, iv p1, iv p2, iv (1 : Int32), iv (3 : Int32), rv a1, rv a4, rv a9, rv a16, rv a25, iv (1 : Int32), rv a1, .val .null, .unset, .unset] [.null])) rfl rfl (hb hby at_136)) ?_
      refine own_go (B := (T219.setTop (mkF m 141 #[iv p0, iv p1, iv p2, iv (1 : Int32), iv (3 : Int32), rv a1, rv a4, rv a9, rv a16, rv a25, iv (1 : Int32), rv a1, .val .null, .val .null, .unset] []))) (fun t k => XS.astore X219.here hx rfl (hb hby at_139) rfl rfl (l' := #[iv p0, iv p1, iv p2, iv (1 : Int32), iv (3 : Int32), rv a1, rv a4, rv a9, rv a16, rv a25, iv (1 : Int32), rv a1, .val .null, .val .null, .unset]) rfl k) ?_
      refine own_go (B := (T219.setTop (mkF m 143 #[iv p0, iv p1, iv p2, iv (1 : Int32), iv (3 : Int32), rv a1, rv a4, rv a9, rv a16, rv a25, iv (1 : Int32), rv a1, .val .null, .val .null, .unset] [(.ref a25)]))) (fun t k => XS.aload X219.here hx rfl (hb hby at_141) rfl rfl k) ?_
      obtain ⟨cq221, kq221, qa221, qb221, qc221⟩ := isOf hZ e219 Ex208
      obtain ⟨_, _, ⟨T221, L221, k221, n221⟩, -, X221, ⟨Lc221, hQ221, l221, y221, z221⟩, st221⟩ := X219.virtualBack hx (y := own_y7) (z := own_y7) hown (mvT hZ w_31) (mvT hZ w_32) (notFace_of_selects (args := #[]) (mvT hZ w_34)) (mvT hZ w_34) (mvT hZ w_33) (by decide) (backOf (W := 0) (own_tnone l Z a0 hw [] a25 T208.heap n0 gc208) hZ w_35 w_9 (by decide) (by decide)) qa221 qc221 (g := (mkF m 143 #[iv p0, iv p1, iv p2, iv (1 : Int32), iv (3 : Int32), rv a1, rv a4, rv a9, rv a16, rv a25, iv (1 : Int32), rv a1, .val .null, .val .null, .unset] [(.ref a25)])) rfl (by rw [hml]; rfl) (Steps.refl _) (argsL := []) (rest := []) (lenOf own_pd6 rfl) rfl (by show 2 * 0 + _ ≤ _; exact own_b rfl) (hb hby at_143) (fun _ _ => ⟨rfl, e219, (own_b rfl : 6 + 0 ≤ _), (own_b rfl : 9 + 0 ≤ _)⟩)
      dsimp only [Pt.U, Pt.locs, Pt.cells, Pt.slots] at X221 l221 y221 z221 st221 hQ221
      obtain ⟨rfl, Nq221, eq221⟩ := hQ221
      obtain ⟨L221, X221, N221⟩ := own_absC (K := 6) (K' := 9) X221 l221 y221 z221 N219 Nq221
      have e221 : T221.heap = T208.heap := eq221
      refine own_tr (B := (T221.setTop (mkF m 146 #[iv p0, iv p1, iv p2, iv (1 : Int32), iv (3 : Int32), rv a1, rv a4, rv a9, rv a16, rv a25, iv (1 : Int32), rv a1, .val .null, .val .null, .unset] [.null]))) st221 ?_
      refine own_go (B := (T221.setTop (mkF m 149 #[iv p0, iv p1, iv p2, iv (1 : Int32), iv (3 : Int32), rv a1, rv a4, rv a9, rv a16, rv a25, iv (1 : Int32), rv a1, .val .null, .val .null, .unset] [.null]))) (X221.checkcastNull hx (g := (mkF m 146 #[iv p0, iv p1, iv p2, iv (1 : Int32), iv (3 : Int32), rv a1, rv a4, rv a9, rv a16, rv a25, iv (1 : Int32), rv a1, .val .null, .val .null, .unset] [.null])) rfl rfl (hb hby at_146)) ?_
      refine own_go (B := (T221.setTop (mkF m 151 #[iv p0, iv p1, iv p2, iv (1 : Int32), iv (3 : Int32), rv a1, rv a4, rv a9, rv a16, rv a25, iv (1 : Int32), rv a1, .val .null, .val .null, .val .null] []))) (fun t k => XS.astore X221.here hx rfl (hb hby at_149) rfl rfl (l' := #[iv p0, iv p1, iv p2, iv (1 : Int32), iv (3 : Int32), rv a1, rv a4, rv a9, rv a16, rv a25, iv (1 : Int32), rv a1, .val .null, .val .null, .val .null]) rfl k) ?_
      refine own_go (B := (T221.setTop (mkF m 153 #[iv p0, iv p1, iv p2, iv (1 : Int32), iv (3 : Int32), rv a1, rv a4, rv a9, rv a16, rv a25, iv (1 : Int32), rv a1, .val .null, .val .null, .val .null] [(.ref a1)]))) (fun t k => XS.aload X221.here hx rfl (hb hby at_151) rfl rfl k) ?_
      refine own_go (B := (T221.setTop (mkF m 155 #[iv p0, iv p1, iv p2, iv (1 : Int32), iv (3 : Int32), rv a1, rv a4, rv a9, rv a16, rv a25, iv (1 : Int32), rv a1, .val .null, .val .null, .val .null] [(.int (1 : Int32)), (.ref a1)]))) (fun t k => XS.iload X221.here hx rfl (hb hby at_153) rfl k) ?_
      refine own_go (B := (T221.setTop (mkF m 156 #[iv p0, iv p1, iv p2, iv (1 : Int32), iv (3 : Int32), rv a1, rv a4, rv a9, rv a16, rv a25, iv (1 : Int32), rv a1, .val .null, .val .null, .val .null] [(.int (0 : Int32)), (.int (1 : Int32)), (.ref a1)]))) (fun t k => own_iconst (v := (0 : Int32)) X221.here hx rfl (hb hby at_155) (by decide) k) ?_
      refine own_go (B := (T221.setTop (mkF m 157 #[iv p0, iv p1, iv p2, iv (1 : Int32), iv (3 : Int32), rv a1, rv a4, rv a9, rv a16, rv a25, iv (1 : Int32), rv a1, .val .null, .val .null, .val .null] [(.int p2), (.int (0 : Int32)), (.int (1 : Int32)), (.ref a1)]))) (fun t k => XS.iloadN X221.here hx rfl (hb hby at_156) rfl k) ?_
      obtain ⟨_, _, ⟨T223, L223, k223, n223⟩, -, X223, ⟨Lc223, hQ223, l223, y223, z223⟩, st223⟩ := Jvm.LawKit.callS X221 hx (y := own_y8) hown (mvT hZ w_36) (mvT hZ w_37) (mvT hZ w_38) (mvT hZ w_39) (by decide) (backOf (W := 0) (own_same1 l Z a0 hw [] a1 (1 : Int32) (0 : Int32) p2 p2 T208.heap n0 (own_Bn_exa F212 (List.mem_of_getElem? (i := 0) rfl)) (own_Bn_fld F212 (List.mem_of_getElem? (i := 0) rfl)) (by decide) (own_v0 (by decide))) hZ w_39 w_38 (by decide) (by decide)) (g := (mkF m 157 #[iv p0, iv p1, iv p2, iv (1 : Int32), iv (3 : Int32), rv a1, rv a4, rv a9, rv a16, rv a25, iv (1 : Int32), rv a1, .val .null, .val .null, .val .null] [(.int p2), (.int (0 : Int32)), (.int (1 : Int32)), (.ref a1)])) rfl (by rw [hml]; rfl) (argsL := [(.ref a1), (.int (1 : Int32)), (.int (0 : Int32)), (.int p2)]) (rest := []) (lenOf own_pd7 rfl) rfl (by show 2 * 0 + _ ≤ _; exact own_b rfl) (hb hby at_157) (fun _ _ => ⟨rfl, e221, (own_b rfl : 6 + 0 ≤ _), (own_b rfl : 9 + 0 ≤ _)⟩)
      dsimp only [Pt.U, Pt.locs, Pt.cells, Pt.slots] at X223 l223 y223 z223 st223 hQ223
      obtain ⟨rfl, Nq223, eq223⟩ := hQ223
      obtain ⟨L223, X223, N223⟩ := own_absC (K := 6) (K' := 9) X223 l223 y223 z223 N221 Nq223
      have e223 : T223.heap = T208.heap := eq223
      refine own_go (B := (T223.setTop (mkF m 160 #[iv p0, iv p1, iv p2, iv (1 : Int32), iv (3 : Int32), rv a1, rv a4, rv a9, rv a16, rv a25, iv (1 : Int32), rv a1, .val .null, .val .null, .val .null] [(.int (1 : Int32))]))) st223 ?_
      have hc160 : ¬ (1 : Int32) = (0 : Int32) := (by decide)
      refine own_ifN X223 hx (hb hby at_160) (pn := 163) rfl hc160 ?_
      refine own_go (B := (T223.setTop (mkF m 165 #[iv p0, iv p1, iv p2, iv (1 : Int32), iv (3 : Int32), rv a1, rv a4, rv a9, rv a16, rv a25, iv (1 : Int32), rv a1, .val .null, .val .null, .val .null] [.null]))) (fun t k => XS.aload X223.here hx rfl (hb hby at_163) rfl rfl k) ?_
      refine own_go (B := (T223.setTop (mkF m 167 #[iv p0, iv p1, iv p2, iv (1 : Int32), iv (3 : Int32), rv a1, rv a4, rv a9, rv a16, rv a25, iv (1 : Int32), rv a1, .val .null, .val .null, .val .null] [(.int (1 : Int32)), .null]))) (fun t k => XS.iload X223.here hx rfl (hb hby at_165) rfl k) ?_
      refine own_go (B := (T223.setTop (mkF m 168 #[iv p0, iv p1, iv p2, iv (1 : Int32), iv (3 : Int32), rv a1, rv a4, rv a9, rv a16, rv a25, iv (1 : Int32), rv a1, .val .null, .val .null, .val .null] [(.int (1 : Int32)), (.int (1 : Int32)), .null]))) (fun t k => own_iconst (v := (1 : Int32)) X223.here hx rfl (hb hby at_167) (by decide) k) ?_
      refine own_go (B := (T223.setTop (mkF m 169 #[iv p0, iv p1, iv p2, iv (1 : Int32), iv (3 : Int32), rv a1, rv a4, rv a9, rv a16, rv a25, iv (1 : Int32), rv a1, .val .null, .val .null, .val .null] [(.int p2), (.int (1 : Int32)), (.int (1 : Int32)), .null]))) (fun t k => XS.iloadN X223.here hx rfl (hb hby at_168) rfl k) ?_
      obtain ⟨_, _, ⟨T224, L224, k224, n224⟩, -, X224, ⟨Lc224, hQ224, l224, y224, z224⟩, st224⟩ := Jvm.LawKit.callS X223 hx (y := own_y8) hown (mvT hZ w_36) (mvT hZ w_37) (mvT hZ w_38) (mvT hZ w_39) (by decide) (backOf (W := 0) (own_same0 l Z a0 hw [] (1 : Int32) (1 : Int32) p2 T208.heap n0 (by decide)) hZ w_39 w_38 (by decide) (by decide)) (g := (mkF m 169 #[iv p0, iv p1, iv p2, iv (1 : Int32), iv (3 : Int32), rv a1, rv a4, rv a9, rv a16, rv a25, iv (1 : Int32), rv a1, .val .null, .val .null, .val .null] [(.int p2), (.int (1 : Int32)), (.int (1 : Int32)), .null])) rfl (by rw [hml]; rfl) (argsL := [.null, (.int (1 : Int32)), (.int (1 : Int32)), (.int p2)]) (rest := []) (lenOf own_pd7 rfl) rfl (by show 2 * 0 + _ ≤ _; exact own_b rfl) (hb hby at_169) (fun _ _ => ⟨rfl, e223, (own_b rfl : 6 + 0 ≤ _), (own_b rfl : 9 + 0 ≤ _)⟩)
      dsimp only [Pt.U, Pt.locs, Pt.cells, Pt.slots] at X224 l224 y224 z224 st224 hQ224
      obtain ⟨rfl, Nq224, eq224⟩ := hQ224
      obtain ⟨L224, X224, N224⟩ := own_absC (K := 6) (K' := 9) X224 l224 y224 z224 N223 Nq224
      have e224 : T224.heap = T208.heap := eq224
      refine own_go (B := (T224.setTop (mkF m 172 #[iv p0, iv p1, iv p2, iv (1 : Int32), iv (3 : Int32), rv a1, rv a4, rv a9, rv a16, rv a25, iv (1 : Int32), rv a1, .val .null, .val .null, .val .null] [(.int (1 : Int32))]))) st224 ?_
      have hc172 : ¬ (1 : Int32) = (0 : Int32) := (by decide)
      refine own_ifN X224 hx (hb hby at_172) (pn := 175) rfl hc172 ?_
      refine own_go (B := (T224.setTop (mkF m 177 #[iv p0, iv p1, iv p2, iv (1 : Int32), iv (3 : Int32), rv a1, rv a4, rv a9, rv a16, rv a25, iv (1 : Int32), rv a1, .val .null, .val .null, .val .null] [.null]))) (fun t k => XS.aload X224.here hx rfl (hb hby at_175) rfl rfl k) ?_
      refine own_go (B := (T224.setTop (mkF m 179 #[iv p0, iv p1, iv p2, iv (1 : Int32), iv (3 : Int32), rv a1, rv a4, rv a9, rv a16, rv a25, iv (1 : Int32), rv a1, .val .null, .val .null, .val .null] [(.int (1 : Int32)), .null]))) (fun t k => XS.iload X224.here hx rfl (hb hby at_177) rfl k) ?_
      refine own_go (B := (T224.setTop (mkF m 180 #[iv p0, iv p1, iv p2, iv (1 : Int32), iv (3 : Int32), rv a1, rv a4, rv a9, rv a16, rv a25, iv (1 : Int32), rv a1, .val .null, .val .null, .val .null] [(.int (2 : Int32)), (.int (1 : Int32)), .null]))) (fun t k => own_iconst (v := (2 : Int32)) X224.here hx rfl (hb hby at_179) (by decide) k) ?_
      refine own_go (B := (T224.setTop (mkF m 181 #[iv p0, iv p1, iv p2, iv (1 : Int32), iv (3 : Int32), rv a1, rv a4, rv a9, rv a16, rv a25, iv (1 : Int32), rv a1, .val .null, .val .null, .val .null] [(.int p2), (.int (2 : Int32)), (.int (1 : Int32)), .null]))) (fun t k => XS.iloadN X224.here hx rfl (hb hby at_180) rfl k) ?_
      obtain ⟨_, _, ⟨T225, L225, k225, n225⟩, -, X225, ⟨Lc225, hQ225, l225, y225, z225⟩, st225⟩ := Jvm.LawKit.callS X224 hx (y := own_y8) hown (mvT hZ w_36) (mvT hZ w_37) (mvT hZ w_38) (mvT hZ w_39) (by decide) (backOf (W := 0) (own_same0 l Z a0 hw [] (1 : Int32) (2 : Int32) p2 T208.heap n0 (by decide)) hZ w_39 w_38 (by decide) (by decide)) (g := (mkF m 181 #[iv p0, iv p1, iv p2, iv (1 : Int32), iv (3 : Int32), rv a1, rv a4, rv a9, rv a16, rv a25, iv (1 : Int32), rv a1, .val .null, .val .null, .val .null] [(.int p2), (.int (2 : Int32)), (.int (1 : Int32)), .null])) rfl (by rw [hml]; rfl) (argsL := [.null, (.int (1 : Int32)), (.int (2 : Int32)), (.int p2)]) (rest := []) (lenOf own_pd7 rfl) rfl (by show 2 * 0 + _ ≤ _; exact own_b rfl) (hb hby at_181) (fun _ _ => ⟨rfl, e224, (own_b rfl : 6 + 0 ≤ _), (own_b rfl : 9 + 0 ≤ _)⟩)
      dsimp only [Pt.U, Pt.locs, Pt.cells, Pt.slots] at X225 l225 y225 z225 st225 hQ225
      obtain ⟨rfl, Nq225, eq225⟩ := hQ225
      obtain ⟨L225, X225, N225⟩ := own_absC (K := 6) (K' := 9) X225 l225 y225 z225 N224 Nq225
      have e225 : T225.heap = T208.heap := eq225
      refine own_go (B := (T225.setTop (mkF m 184 #[iv p0, iv p1, iv p2, iv (1 : Int32), iv (3 : Int32), rv a1, rv a4, rv a9, rv a16, rv a25, iv (1 : Int32), rv a1, .val .null, .val .null, .val .null] [(.int (1 : Int32))]))) st225 ?_
      have hc184 : ¬ (1 : Int32) = (0 : Int32) := (by decide)
      refine own_ifN X225 hx (hb hby at_184) (pn := 187) rfl hc184 ?_
      refine own_go (B := (T225.setTop (mkF m 189 #[iv p0, iv p1, iv p2, iv (1 : Int32), iv (3 : Int32), rv a1, rv a4, rv a9, rv a16, rv a25, iv (1 : Int32), rv a1, .val .null, .val .null, .val .null] [.null]))) (fun t k => XS.aload X225.here hx rfl (hb hby at_187) rfl rfl k) ?_
      refine own_go (B := (T225.setTop (mkF m 191 #[iv p0, iv p1, iv p2, iv (1 : Int32), iv (3 : Int32), rv a1, rv a4, rv a9, rv a16, rv a25, iv (1 : Int32), rv a1, .val .null, .val .null, .val .null] [(.int (1 : Int32)), .null]))) (fun t k => XS.iload X225.here hx rfl (hb hby at_189) rfl k) ?_
      refine own_go (B := (T225.setTop (mkF m 192 #[iv p0, iv p1, iv p2, iv (1 : Int32), iv (3 : Int32), rv a1, rv a4, rv a9, rv a16, rv a25, iv (1 : Int32), rv a1, .val .null, .val .null, .val .null] [(.int (3 : Int32)), (.int (1 : Int32)), .null]))) (fun t k => own_iconst (v := (3 : Int32)) X225.here hx rfl (hb hby at_191) (by decide) k) ?_
      refine own_go (B := (T225.setTop (mkF m 193 #[iv p0, iv p1, iv p2, iv (1 : Int32), iv (3 : Int32), rv a1, rv a4, rv a9, rv a16, rv a25, iv (1 : Int32), rv a1, .val .null, .val .null, .val .null] [(.int p2), (.int (3 : Int32)), (.int (1 : Int32)), .null]))) (fun t k => XS.iloadN X225.here hx rfl (hb hby at_192) rfl k) ?_
      obtain ⟨_, _, ⟨T226, L226, k226, n226⟩, -, X226, ⟨Lc226, hQ226, l226, y226, z226⟩, st226⟩ := Jvm.LawKit.callS X225 hx (y := own_y8) hown (mvT hZ w_36) (mvT hZ w_37) (mvT hZ w_38) (mvT hZ w_39) (by decide) (backOf (W := 0) (own_same0 l Z a0 hw [] (1 : Int32) (3 : Int32) p2 T208.heap n0 (by decide)) hZ w_39 w_38 (by decide) (by decide)) (g := (mkF m 193 #[iv p0, iv p1, iv p2, iv (1 : Int32), iv (3 : Int32), rv a1, rv a4, rv a9, rv a16, rv a25, iv (1 : Int32), rv a1, .val .null, .val .null, .val .null] [(.int p2), (.int (3 : Int32)), (.int (1 : Int32)), .null])) rfl (by rw [hml]; rfl) (argsL := [.null, (.int (1 : Int32)), (.int (3 : Int32)), (.int p2)]) (rest := []) (lenOf own_pd7 rfl) rfl (by show 2 * 0 + _ ≤ _; exact own_b rfl) (hb hby at_193) (fun _ _ => ⟨rfl, e225, (own_b rfl : 6 + 0 ≤ _), (own_b rfl : 9 + 0 ≤ _)⟩)
      dsimp only [Pt.U, Pt.locs, Pt.cells, Pt.slots] at X226 l226 y226 z226 st226 hQ226
      obtain ⟨rfl, Nq226, eq226⟩ := hQ226
      obtain ⟨L226, X226, N226⟩ := own_absC (K := 6) (K' := 9) X226 l226 y226 z226 N225 Nq226
      have e226 : T226.heap = T208.heap := eq226
      refine own_go (B := (T226.setTop (mkF m 196 #[iv p0, iv p1, iv p2, iv (1 : Int32), iv (3 : Int32), rv a1, rv a4, rv a9, rv a16, rv a25, iv (1 : Int32), rv a1, .val .null, .val .null, .val .null] [(.int (1 : Int32))]))) st226 ?_
      have hc196 : ¬ (1 : Int32) = (0 : Int32) := (by decide)
      refine own_ifN X226 hx (hb hby at_196) (pn := 199) rfl hc196 ?_
      refine own_go (B := (T226.setTop (mkF m 200 #[iv p0, iv p1, iv p2, iv (1 : Int32), iv (3 : Int32), rv a1, rv a4, rv a9, rv a16, rv a25, iv (1 : Int32), rv a1, .val .null, .val .null, .val .null] [(.int (1 : Int32))]))) (fun t k => own_iconst (v := (1 : Int32)) X226.here hx rfl (hb hby at_199) (by decide) k) ?_
      refine own_go (B := (T226.setTop (mkF m 204 #[iv p0, iv p1, iv p2, iv (1 : Int32), iv (3 : Int32), rv a1, rv a4, rv a9, rv a16, rv a25, iv (1 : Int32), rv a1, .val .null, .val .null, .val .null] [(.int (1 : Int32))]))) (fun t k => XS.goto X226.here hx rfl (pc0 := 200) (pc' := 204) rfl (hb hby at_200) (by decide) (by decide) k) ?_
      exact own_retZ X226 hx hlk Bd.returns (hb hby at_204) (by decide) (own_b rfl) (own_b rfl) (Q := (own_law_Q Z p0 p1 p2 ca h0 n0)) ⟨rfl, N226⟩
    · refine own_go (B := (T38.setTop (mkF m 54 #[iv p0, iv p1, iv p2, iv (1 : Int32), iv (4 : Int32), rv a1, rv a4, rv a9, rv a16, rv a25, .unset, .unset, .unset, .unset, .unset] [(.int (4 : Int32))]))) (fun t k => XS.iload X38.here hx rfl (hb hby at_52) rfl k) ?_
      have hc54 : (0 : Int32) < (4 : Int32) := (by decide)
      refine own_ifN X38 hx (hb hby at_54) (pn := 57) rfl hc54 ?_
      refine own_go (B := (T38.setTop (mkF m 59 #[iv p0, iv p1, iv p2, iv (1 : Int32), iv (4 : Int32), rv a1, rv a4, rv a9, rv a16, rv a25, .unset, .unset, .unset, .unset, .unset] [(.ref a25)]))) (fun t k => XS.aload X38.here hx rfl (hb hby at_57) rfl rfl k) ?_
      refine own_go (B := (T38.setTop (mkF m 61 #[iv p0, iv p1, iv p2, iv (1 : Int32), iv (4 : Int32), rv a1, rv a4, rv a9, rv a16, rv a25, .unset, .unset, .unset, .unset, .unset] [(.ref a1), (.ref a25)]))) (fun t k => XS.aload X38.here hx rfl (hb hby at_59) rfl rfl k) ?_
      obtain ⟨cq227, kq227, qa227, qb227, qc227⟩ := isOf hZ rfl Ex38
      obtain ⟨_, _, ⟨T227, L227, k227, n227⟩, -, X227, ⟨Lc227, hQ227, l227, y227, z227⟩, st227⟩ := X38.virtualBack hx (y := own_y9) (z := own_y9) hown (mvT hZ w_20) (mvT hZ w_21) (notFace_of_selects (args := #[]) (mvT hZ w_23)) (mvT hZ w_23) (mvT hZ w_22) (by decide) (backOf (W := 0) (own_kone l Z a0 hw [] a25 a1 ar38 (0 : Int32) (1 : Int32) (1 : Int32) [.null] [(.ref a1)] T38.heap n0 Ex38 gk38 gc38 Vb F39 gn25 gn_ar38 ne_ar38_a25 (own_lenL (n := 1) rfl (by decide)) (by decide) (by decide) (Nat.lt_of_lt_of_eq (by decide : _ < 1) rfl) (by decide) (Ins.of_exa (own_Bn_exa BB (List.mem_of_getElem? (i := 0) rfl)) w_40) rfl) hZ w_24 w_9 (by decide) (by decide)) qa227 qc227 (g := (mkF m 61 #[iv p0, iv p1, iv p2, iv (1 : Int32), iv (4 : Int32), rv a1, rv a4, rv a9, rv a16, rv a25, .unset, .unset, .unset, .unset, .unset] [(.ref a1), (.ref a25)])) rfl (by rw [hml]; rfl) (Steps.refl _) (argsL := [(.ref a1)]) (rest := []) (lenOf own_pd8 rfl) rfl (by show 2 * 0 + _ ≤ _; exact own_b rfl) (hb hby at_61) (fun _ _ => ⟨rfl, rfl, (own_b rfl : 6 + 0 ≤ _), (own_b rfl : 9 + 0 ≤ _)⟩)
      dsimp only [Pt.U, Pt.locs, Pt.cells, Pt.slots] at X227 l227 y227 z227 st227 hQ227
      obtain ⟨rfl, Nq227, K227, Ex227, gk227, gc227, gv227⟩ := hQ227
      obtain ⟨L227, X227, N227⟩ := own_absC (K := 6) (K' := 9) X227 l227 y227 z227 N38 Nq227
      have F228 : n0 ≤ T227.heap.size := Nat.le_trans F39 K227.1
      have F229 := Keep.trans F40 K227 (allS (Or.inr (Nat.le_trans F18.1 (Nat.le_of_eq ga25.symm))) (allS (Or.inr (Nat.le_trans K27.1 gz38)) all0))
      have F230 := Exa.keep Ex38 K227
      have F234 := own_Bn_keep BB K227 hbq
      refine own_tr (B := (T227.setTop (mkF m 64 #[iv p0, iv p1, iv p2, iv (1 : Int32), iv (4 : Int32), rv a1, rv a4, rv a9, rv a16, rv a25, .unset, .unset, .unset, .unset, .unset] []))) st227 ?_
      refine own_go (B := (T227.setTop (mkF m 66 #[iv p0, iv p1, iv p2, iv (1 : Int32), iv (4 : Int32), rv a1, rv a4, rv a9, rv a16, rv a25, .unset, .unset, .unset, .unset, .unset] [(.int (4 : Int32))]))) (fun t k => XS.iload X227.here hx rfl (hb hby at_64) rfl k) ?_
      refine own_go (B := (T227.setTop (mkF m 67 #[iv p0, iv p1, iv p2, iv (1 : Int32), iv (4 : Int32), rv a1, rv a4, rv a9, rv a16, rv a25, .unset, .unset, .unset, .unset, .unset] [(.int (1 : Int32)), (.int (4 : Int32))]))) (fun t k => own_iconst (v := (1 : Int32)) X227.here hx rfl (hb hby at_66) (by decide) k) ?_
      have hc67 : (1 : Int32) < (4 : Int32) := (by decide)
      refine own_icmpN X227 hx (hb hby at_67) (pn := 70) rfl hc67 ?_
      refine own_go (B := (T227.setTop (mkF m 72 #[iv p0, iv p1, iv p2, iv (1 : Int32), iv (4 : Int32), rv a1, rv a4, rv a9, rv a16, rv a25, .unset, .unset, .unset, .unset, .unset] [(.ref a25)]))) (fun t k => XS.aload X227.here hx rfl (hb hby at_70) rfl rfl k) ?_
      refine own_go (B := (T227.setTop (mkF m 74 #[iv p0, iv p1, iv p2, iv (1 : Int32), iv (4 : Int32), rv a1, rv a4, rv a9, rv a16, rv a25, .unset, .unset, .unset, .unset, .unset] [(.ref a4), (.ref a25)]))) (fun t k => XS.aload X227.here hx rfl (hb hby at_72) rfl rfl k) ?_
      obtain ⟨cq235, kq235, qa235, qb235, qc235⟩ := isOf hZ rfl Ex227
      obtain ⟨_, _, ⟨T235, L235, k235, n235⟩, -, X235, ⟨Lc235, hQ235, l235, y235, z235⟩, st235⟩ := X227.virtualBack hx (y := own_y9) (z := own_y9) hown (mvT hZ w_20) (mvT hZ w_21) (notFace_of_selects (args := #[]) (mvT hZ w_23)) (mvT hZ w_23) (mvT hZ w_22) (by decide) (backOf (W := 0) (own_kfull l Z a0 hw [] a25 a4 ar38 (1 : Int32) (1 : Int32) [(.ref a1)] T227.heap n0 Ex227 gk227 gc227 gv227 (own_lenL (n := 1) rfl (by decide)) (by decide)) hZ w_24 w_9 (by decide) (by decide)) qa235 qc235 (g := (mkF m 74 #[iv p0, iv p1, iv p2, iv (1 : Int32), iv (4 : Int32), rv a1, rv a4, rv a9, rv a16, rv a25, .unset, .unset, .unset, .unset, .unset] [(.ref a4), (.ref a25)])) rfl (by rw [hml]; rfl) (Steps.refl _) (argsL := [(.ref a4)]) (rest := []) (lenOf own_pd8 rfl) rfl (by show 2 * 0 + _ ≤ _; exact own_b rfl) (hb hby at_74) (fun _ _ => ⟨rfl, rfl, (own_b rfl : 6 + 0 ≤ _), (own_b rfl : 9 + 0 ≤ _)⟩)
      dsimp only [Pt.U, Pt.locs, Pt.cells, Pt.slots] at X235 l235 y235 z235 st235 hQ235
      obtain ⟨rfl, Nq235, eq235⟩ := hQ235
      obtain ⟨L235, X235, N235⟩ := own_absC (K := 6) (K' := 9) X235 l235 y235 z235 N227 Nq235
      have e235 : T235.heap = T227.heap := eq235
      refine own_tr (B := (T235.setTop (mkF m 77 #[iv p0, iv p1, iv p2, iv (1 : Int32), iv (4 : Int32), rv a1, rv a4, rv a9, rv a16, rv a25, .unset, .unset, .unset, .unset, .unset] []))) st235 ?_
      refine own_go (B := (T235.setTop (mkF m 79 #[iv p0, iv p1, iv p2, iv (1 : Int32), iv (4 : Int32), rv a1, rv a4, rv a9, rv a16, rv a25, .unset, .unset, .unset, .unset, .unset] [(.int (4 : Int32))]))) (fun t k => XS.iload X235.here hx rfl (hb hby at_77) rfl k) ?_
      refine own_go (B := (T235.setTop (mkF m 80 #[iv p0, iv p1, iv p2, iv (1 : Int32), iv (4 : Int32), rv a1, rv a4, rv a9, rv a16, rv a25, .unset, .unset, .unset, .unset, .unset] [(.int (2 : Int32)), (.int (4 : Int32))]))) (fun t k => own_iconst (v := (2 : Int32)) X235.here hx rfl (hb hby at_79) (by decide) k) ?_
      have hc80 : (2 : Int32) < (4 : Int32) := (by decide)
      refine own_icmpN X235 hx (hb hby at_80) (pn := 83) rfl hc80 ?_
      refine own_go (B := (T235.setTop (mkF m 85 #[iv p0, iv p1, iv p2, iv (1 : Int32), iv (4 : Int32), rv a1, rv a4, rv a9, rv a16, rv a25, .unset, .unset, .unset, .unset, .unset] [(.ref a25)]))) (fun t k => XS.aload X235.here hx rfl (hb hby at_83) rfl rfl k) ?_
      refine own_go (B := (T235.setTop (mkF m 87 #[iv p0, iv p1, iv p2, iv (1 : Int32), iv (4 : Int32), rv a1, rv a4, rv a9, rv a16, rv a25, .unset, .unset, .unset, .unset, .unset] [(.ref a9), (.ref a25)]))) (fun t k => XS.aload X235.here hx rfl (hb hby at_85) rfl rfl k) ?_
      obtain ⟨cq236, kq236, qa236, qb236, qc236⟩ := isOf hZ e235 Ex227
      obtain ⟨_, _, ⟨T236, L236, k236, n236⟩, -, X236, ⟨Lc236, hQ236, l236, y236, z236⟩, st236⟩ := X235.virtualBack hx (y := own_y9) (z := own_y9) hown (mvT hZ w_20) (mvT hZ w_21) (notFace_of_selects (args := #[]) (mvT hZ w_23)) (mvT hZ w_23) (mvT hZ w_22) (by decide) (backOf (W := 0) (own_kfull l Z a0 hw [] a25 a9 ar38 (1 : Int32) (1 : Int32) [(.ref a1)] T227.heap n0 Ex227 gk227 gc227 gv227 (own_lenL (n := 1) rfl (by decide)) (by decide)) hZ w_24 w_9 (by decide) (by decide)) qa236 qc236 (g := (mkF m 87 #[iv p0, iv p1, iv p2, iv (1 : Int32), iv (4 : Int32), rv a1, rv a4, rv a9, rv a16, rv a25, .unset, .unset, .unset, .unset, .unset] [(.ref a9), (.ref a25)])) rfl (by rw [hml]; rfl) (Steps.refl _) (argsL := [(.ref a9)]) (rest := []) (lenOf own_pd8 rfl) rfl (by show 2 * 0 + _ ≤ _; exact own_b rfl) (hb hby at_87) (fun _ _ => ⟨rfl, e235, (own_b rfl : 6 + 0 ≤ _), (own_b rfl : 9 + 0 ≤ _)⟩)
      dsimp only [Pt.U, Pt.locs, Pt.cells, Pt.slots] at X236 l236 y236 z236 st236 hQ236
      obtain ⟨rfl, Nq236, eq236⟩ := hQ236
      obtain ⟨L236, X236, N236⟩ := own_absC (K := 6) (K' := 9) X236 l236 y236 z236 N235 Nq236
      have e236 : T236.heap = T227.heap := eq236
      refine own_tr (B := (T236.setTop (mkF m 90 #[iv p0, iv p1, iv p2, iv (1 : Int32), iv (4 : Int32), rv a1, rv a4, rv a9, rv a16, rv a25, .unset, .unset, .unset, .unset, .unset] []))) st236 ?_
      refine own_go (B := (T236.setTop (mkF m 92 #[iv p0, iv p1, iv p2, iv (1 : Int32), iv (4 : Int32), rv a1, rv a4, rv a9, rv a16, rv a25, .unset, .unset, .unset, .unset, .unset] [(.int (4 : Int32))]))) (fun t k => XS.iload X236.here hx rfl (hb hby at_90) rfl k) ?_
      refine own_go (B := (T236.setTop (mkF m 93 #[iv p0, iv p1, iv p2, iv (1 : Int32), iv (4 : Int32), rv a1, rv a4, rv a9, rv a16, rv a25, .unset, .unset, .unset, .unset, .unset] [(.int (3 : Int32)), (.int (4 : Int32))]))) (fun t k => own_iconst (v := (3 : Int32)) X236.here hx rfl (hb hby at_92) (by decide) k) ?_
      have hc93 : (3 : Int32) < (4 : Int32) := (by decide)
      refine own_icmpN X236 hx (hb hby at_93) (pn := 96) rfl hc93 ?_
      refine own_go (B := (T236.setTop (mkF m 98 #[iv p0, iv p1, iv p2, iv (1 : Int32), iv (4 : Int32), rv a1, rv a4, rv a9, rv a16, rv a25, .unset, .unset, .unset, .unset, .unset] [(.ref a25)]))) (fun t k => XS.aload X236.here hx rfl (hb hby at_96) rfl rfl k) ?_
      refine own_go (B := (T236.setTop (mkF m 100 #[iv p0, iv p1, iv p2, iv (1 : Int32), iv (4 : Int32), rv a1, rv a4, rv a9, rv a16, rv a25, .unset, .unset, .unset, .unset, .unset] [(.ref a16), (.ref a25)]))) (fun t k => XS.aload X236.here hx rfl (hb hby at_98) rfl rfl k) ?_
      obtain ⟨cq237, kq237, qa237, qb237, qc237⟩ := isOf hZ e236 Ex227
      obtain ⟨_, _, ⟨T237, L237, k237, n237⟩, -, X237, ⟨Lc237, hQ237, l237, y237, z237⟩, st237⟩ := X236.virtualBack hx (y := own_y9) (z := own_y9) hown (mvT hZ w_20) (mvT hZ w_21) (notFace_of_selects (args := #[]) (mvT hZ w_23)) (mvT hZ w_23) (mvT hZ w_22) (by decide) (backOf (W := 0) (own_kfull l Z a0 hw [] a25 a16 ar38 (1 : Int32) (1 : Int32) [(.ref a1)] T227.heap n0 Ex227 gk227 gc227 gv227 (own_lenL (n := 1) rfl (by decide)) (by decide)) hZ w_24 w_9 (by decide) (by decide)) qa237 qc237 (g := (mkF m 100 #[iv p0, iv p1, iv p2, iv (1 : Int32), iv (4 : Int32), rv a1, rv a4, rv a9, rv a16, rv a25, .unset, .unset, .unset, .unset, .unset] [(.ref a16), (.ref a25)])) rfl (by rw [hml]; rfl) (Steps.refl _) (argsL := [(.ref a16)]) (rest := []) (lenOf own_pd8 rfl) rfl (by show 2 * 0 + _ ≤ _; exact own_b rfl) (hb hby at_100) (fun _ _ => ⟨rfl, e236, (own_b rfl : 6 + 0 ≤ _), (own_b rfl : 9 + 0 ≤ _)⟩)
      dsimp only [Pt.U, Pt.locs, Pt.cells, Pt.slots] at X237 l237 y237 z237 st237 hQ237
      obtain ⟨rfl, Nq237, eq237⟩ := hQ237
      obtain ⟨L237, X237, N237⟩ := own_absC (K := 6) (K' := 9) X237 l237 y237 z237 N236 Nq237
      have e237 : T237.heap = T227.heap := eq237
      refine own_tr (B := (T237.setTop (mkF m 103 #[iv p0, iv p1, iv p2, iv (1 : Int32), iv (4 : Int32), rv a1, rv a4, rv a9, rv a16, rv a25, .unset, .unset, .unset, .unset, .unset] []))) st237 ?_
      refine own_go (B := (T237.setTop (mkF m 105 #[iv p0, iv p1, iv p2, iv (1 : Int32), iv (4 : Int32), rv a1, rv a4, rv a9, rv a16, rv a25, .unset, .unset, .unset, .unset, .unset] [(.int (4 : Int32))]))) (fun t k => XS.iload X237.here hx rfl (hb hby at_103) rfl k) ?_
      refine own_go (B := (T237.setTop (mkF m 106 #[iv p0, iv p1, iv p2, iv (1 : Int32), iv (4 : Int32), rv a1, rv a4, rv a9, rv a16, rv a25, .unset, .unset, .unset, .unset, .unset] [(.int (1 : Int32)), (.int (4 : Int32))]))) (fun t k => XS.iloadN X237.here hx rfl (hb hby at_105) rfl k) ?_
      obtain ⟨_, _, ⟨T238, L238, k238, n238⟩, -, X238, ⟨Lc238, hQ238, l238, y238, z238⟩, st238⟩ := Jvm.LawKit.callS X237 hx (y := own_y6) hown (mvT hZ w_27) (mvT hZ w_28) (mvT hZ w_29) (mvT hZ w_30) (by decide) (backOf (W := 0) (own_mmin l Z a0 hw [] (4 : Int32) (1 : Int32) T227.heap n0) hZ w_30 w_29 (by decide) (by decide)) (g := (mkF m 106 #[iv p0, iv p1, iv p2, iv (1 : Int32), iv (4 : Int32), rv a1, rv a4, rv a9, rv a16, rv a25, .unset, .unset, .unset, .unset, .unset] [(.int (1 : Int32)), (.int (4 : Int32))])) rfl (by rw [hml]; rfl) (argsL := [(.int (4 : Int32)), (.int (1 : Int32))]) (rest := []) (lenOf own_pd5 rfl) rfl (by show 2 * 0 + _ ≤ _; exact own_b rfl) (hb hby at_106) (fun _ _ => ⟨rfl, e237, (own_b rfl : 6 + 0 ≤ _), (own_b rfl : 9 + 0 ≤ _)⟩)
      dsimp only [Pt.U, Pt.locs, Pt.cells, Pt.slots] at X238 l238 y238 z238 st238 hQ238
      obtain ⟨rfl, Nq238, eq238⟩ := hQ238
      obtain ⟨L238, X238, N238⟩ := own_absC (K := 6) (K' := 9) X238 l238 y238 z238 N237 Nq238
      have e238 : T238.heap = T227.heap := eq238
      refine own_go (B := (T238.setTop (mkF m 109 #[iv p0, iv p1, iv p2, iv (1 : Int32), iv (4 : Int32), rv a1, rv a4, rv a9, rv a16, rv a25, .unset, .unset, .unset, .unset, .unset] [(.int (own_min (4 : Int32) (1 : Int32)))]))) st238 ?_
      rw [show own_min (4 : Int32) (1 : Int32) = (1 : Int32) from by decide]
      refine own_go (B := (T238.setTop (mkF m 111 #[iv p0, iv p1, iv p2, iv (1 : Int32), iv (4 : Int32), rv a1, rv a4, rv a9, rv a16, rv a25, iv (1 : Int32), .unset, .unset, .unset, .unset] []))) (fun t k => XS.istore X238.here hx rfl (hb hby at_109) rfl (l' := #[iv p0, iv p1, iv p2, iv (1 : Int32), iv (4 : Int32), rv a1, rv a4, rv a9, rv a16, rv a25, iv (1 : Int32), .unset, .unset, .unset, .unset]) rfl k) ?_
      refine own_go (B := (T238.setTop (mkF m 113 #[iv p0, iv p1, iv p2, iv (1 : Int32), iv (4 : Int32), rv a1, rv a4, rv a9, rv a16, rv a25, iv (1 : Int32), .unset, .unset, .unset, .unset] [(.ref a25)]))) (fun t k => XS.aload X238.here hx rfl (hb hby at_111) rfl rfl k) ?_
      obtain ⟨cq239, kq239, qa239, qb239, qc239⟩ := isOf hZ e238 Ex227
      obtain ⟨_, _, ⟨T239, L239, k239, n239⟩, -, X239, ⟨Lc239, hQ239, l239, y239, z239⟩, st239⟩ := X238.virtualBack hx (y := own_y7) (z := own_y7) hown (mvT hZ w_31) (mvT hZ w_32) (notFace_of_selects (args := #[]) (mvT hZ w_34)) (mvT hZ w_34) (mvT hZ w_33) (by decide) (backOf (W := 0) (own_tone l Z a0 hw [] a25 ar38 a1 (1 : Int32) (0 : Int32) [(.ref a1)] [.null] T227.heap n0 Ex227 gk227 gc227 gv227 F228 gn25 gn_ar38 ne_ar38_a25 (by decide) (by decide) (by decide) rfl rfl) hZ w_35 w_9 (by decide) (by decide)) qa239 qc239 (g := (mkF m 113 #[iv p0, iv p1, iv p2, iv (1 : Int32), iv (4 : Int32), rv a1, rv a4, rv a9, rv a16, rv a25, iv (1 : Int32), .unset, .unset, .unset, .unset] [(.ref a25)])) rfl (by rw [hml]; rfl) (Steps.refl _) (argsL := []) (rest := []) (lenOf own_pd6 rfl) rfl (by show 2 * 0 + _ ≤ _; exact own_b rfl) (hb hby at_113) (fun _ _ => ⟨rfl, e238, (own_b rfl : 6 + 0 ≤ _), (own_b rfl : 9 + 0 ≤ _)⟩)
      dsimp only [Pt.U, Pt.locs, Pt.cells, Pt.slots] at X239 l239 y239 z239 st239 hQ239
      obtain ⟨rfl, Nq239, K239, Ex239, gk239, gc239, gv239⟩ := hQ239
      obtain ⟨L239, X239, N239⟩ := own_absC (K := 6) (K' := 9) X239 l239 y239 z239 N238 Nq239
      have F240 : n0 ≤ T239.heap.size := Nat.le_trans F228 K239.1
      have F241 := Keep.trans F229 K239 (allS (Or.inr (Nat.le_trans F18.1 (Nat.le_of_eq ga25.symm))) (allS (Or.inr (Nat.le_trans K27.1 gz38)) all0))
      have F242 := Exa.keep Ex227 K239
      have F243 := own_Bn_keep F234 K239 hbq
      refine own_tr (B := (T239.setTop (mkF m 116 #[iv p0, iv p1, iv p2, iv (1 : Int32), iv (4 : Int32), rv a1, rv a4, rv a9, rv a16, rv a25, iv (1 : Int32), .unset, .unset, .unset, .unset] [(.ref a1)]))) st239 ?_
      obtain ⟨T247, X247, e247, st247⟩ := castY X239 hx hZ hown w_41 rfl (Ins.of_exa (own_Bn_exa F243 (List.mem_of_getElem? (i := 0) rfl)) w_42) (g := (mkF m 116 #[iv p0, iv p1, iv p2, iv (1 : Int32), iv (4 : Int32), rv a1, rv a4, rv a9, rv a16, rv a25, iv (1 : Int32), .unset, .unset, .unset, .unset] [(.ref a1)])) rfl rfl (hb hby at_116)
      refine own_go (B := (T247.setTop (mkF m 119 #[iv p0, iv p1, iv p2, iv (1 : Int32), iv (4 : Int32), rv a1, rv a4, rv a9, rv a16, rv a25, iv (1 : Int32), .unset, .unset, .unset, .unset] [(.ref a1)]))) st247 ?_
      refine own_go (B := (T247.setTop (mkF m 121 #[iv p0, iv p1, iv p2, iv (1 : Int32), iv (4 : Int32), rv a1, rv a4, rv a9, rv a16, rv a25, iv (1 : Int32), rv a1, .unset, .unset, .unset] []))) (fun t k => XS.astore X247.here hx rfl (hb hby at_119) rfl rfl (l' := #[iv p0, iv p1, iv p2, iv (1 : Int32), iv (4 : Int32), rv a1, rv a4, rv a9, rv a16, rv a25, iv (1 : Int32), rv a1, .unset, .unset, .unset]) rfl k) ?_
      refine own_go (B := (T247.setTop (mkF m 123 #[iv p0, iv p1, iv p2, iv (1 : Int32), iv (4 : Int32), rv a1, rv a4, rv a9, rv a16, rv a25, iv (1 : Int32), rv a1, .unset, .unset, .unset] [(.ref a25)]))) (fun t k => XS.aload X247.here hx rfl (hb hby at_121) rfl rfl k) ?_
      obtain ⟨cq248, kq248, qa248, qb248, qc248⟩ := isOf hZ e247 Ex239
      obtain ⟨_, _, ⟨T248, L248, k248, n248⟩, -, X248, ⟨Lc248, hQ248, l248, y248, z248⟩, st248⟩ := X247.virtualBack hx (y := own_y7) (z := own_y7) hown (mvT hZ w_31) (mvT hZ w_32) (notFace_of_selects (args := #[]) (mvT hZ w_34)) (mvT hZ w_34) (mvT hZ w_33) (by decide) (backOf (W := 0) (own_tnone l Z a0 hw [] a25 T239.heap n0 gc239) hZ w_35 w_9 (by decide) (by decide)) qa248 qc248 (g := (mkF m 123 #[iv p0, iv p1, iv p2, iv (1 : Int32), iv (4 : Int32), rv a1, rv a4, rv a9, rv a16, rv a25, iv (1 : Int32), rv a1, .unset, .unset, .unset] [(.ref a25)])) rfl (by rw [hml]; rfl) (Steps.refl _) (argsL := []) (rest := []) (lenOf own_pd6 rfl) rfl (by show 2 * 0 + _ ≤ _; exact own_b rfl) (hb hby at_123) (fun _ _ => ⟨rfl, e247, (own_b rfl : 6 + 0 ≤ _), (own_b rfl : 9 + 0 ≤ _)⟩)
      dsimp only [Pt.U, Pt.locs, Pt.cells, Pt.slots] at X248 l248 y248 z248 st248 hQ248
      obtain ⟨rfl, Nq248, eq248⟩ := hQ248
      obtain ⟨L248, X248, N248⟩ := own_absC (K := 6) (K' := 9) X248 l248 y248 z248 N239 Nq248
      have e248 : T248.heap = T239.heap := eq248
      refine own_tr (B := (T248.setTop (mkF m 126 #[iv p0, iv p1, iv p2, iv (1 : Int32), iv (4 : Int32), rv a1, rv a4, rv a9, rv a16, rv a25, iv (1 : Int32), rv a1, .unset, .unset, .unset] [.null]))) st248 ?_
      refine own_go (B := (T248.setTop (mkF m 129 #[iv p0, iv p1, iv p2, iv (1 : Int32), iv (4 : Int32), rv a1, rv a4, rv a9, rv a16, rv a25, iv (1 : Int32), rv a1, .unset, .unset, .unset] [.null]))) (X248.checkcastNull hx (g := (mkF m 126 #[iv p0, iv p1, iv p2, iv (1 : Int32), iv (4 : Int32), rv a1, rv a4, rv a9, rv a16, rv a25, iv (1 : Int32), rv a1, .unset, .unset, .unset] [.null])) rfl rfl (hb hby at_126)) ?_
      refine own_go (B := (T248.setTop (mkF m 131 #[iv p0, iv p1, iv p2, iv (1 : Int32), iv (4 : Int32), rv a1, rv a4, rv a9, rv a16, rv a25, iv (1 : Int32), rv a1, .val .null, .unset, .unset] []))) (fun t k => XS.astore X248.here hx rfl (hb hby at_129) rfl rfl (l' := #[iv p0, iv p1, iv p2, iv (1 : Int32), iv (4 : Int32), rv a1, rv a4, rv a9, rv a16, rv a25, iv (1 : Int32), rv a1, .val .null, .unset, .unset]) rfl k) ?_
      refine own_go (B := (T248.setTop (mkF m 133 #[iv p0, iv p1, iv p2, iv (1 : Int32), iv (4 : Int32), rv a1, rv a4, rv a9, rv a16, rv a25, iv (1 : Int32), rv a1, .val .null, .unset, .unset] [(.ref a25)]))) (fun t k => XS.aload X248.here hx rfl (hb hby at_131) rfl rfl k) ?_
      obtain ⟨cq250, kq250, qa250, qb250, qc250⟩ := isOf hZ e248 Ex239
      obtain ⟨_, _, ⟨T250, L250, k250, n250⟩, -, X250, ⟨Lc250, hQ250, l250, y250, z250⟩, st250⟩ := X248.virtualBack hx (y := own_y7) (z := own_y7) hown (mvT hZ w_31) (mvT hZ w_32) (notFace_of_selects (args := #[]) (mvT hZ w_34)) (mvT hZ w_34) (mvT hZ w_33) (by decide) (backOf (W := 0) (own_tnone l Z a0 hw [] a25 T239.heap n0 gc239) hZ w_35 w_9 (by decide) (by decide)) qa250 qc250 (g := (mkF m 133 #[iv p0, iv p1, iv p2, iv (1 : Int32), iv (4 : Int32), rv a1, rv a4, rv a9, rv a16, rv a25, iv (1 : Int32), rv a1, .val .null, .unset, .unset] [(.ref a25)])) rfl (by rw [hml]; rfl) (Steps.refl _) (argsL := []) (rest := []) (lenOf own_pd6 rfl) rfl (by show 2 * 0 + _ ≤ _; exact own_b rfl) (hb hby at_133) (fun _ _ => ⟨rfl, e248, (own_b rfl : 6 + 0 ≤ _), (own_b rfl : 9 + 0 ≤ _)⟩)
      dsimp only [Pt.U, Pt.locs, Pt.cells, Pt.slots] at X250 l250 y250 z250 st250 hQ250
      obtain ⟨rfl, Nq250, eq250⟩ := hQ250
      obtain ⟨L250, X250, N250⟩ := own_absC (K := 6) (K' := 9) X250 l250 y250 z250 N248 Nq250
      have e250 : T250.heap = T239.heap := eq250
      refine own_tr (B := (T250.setTop (mkF m 136 #[iv p0, iv p1, iv p2, iv (1 : Int32), iv (4 : Int32), rv a1, rv a4, rv a9, rv a16, rv a25, iv (1 : Int32), rv a1, .val .null, .unset, .unset] [.null]))) st250 ?_
      refine own_go (B := (T250.setTop (mkF m 139 #[iv p0, iv p1, iv p2, iv (1 : Int32), iv (4 : Int32), rv a1, rv a4, rv a9, rv a16, rv a25, iv (1 : Int32), rv a1, .val .null, .unset, .unset] [.null]))) (X250.checkcastNull hx (g := (mkF m 136 #[iv p0, iv p1, iv p2, iv (1 : Int32), iv (4 : Int32), rv a1, rv a4, rv a9, rv a16, rv a25, iv (1 : Int32), rv a1, .val .null, .unset, .unset] [.null])) rfl rfl (hb hby at_136)) ?_
      refine own_go (B := (T250.setTop (mkF m 141 #[iv p0, iv p1, iv p2, iv (1 : Int32), iv (4 : Int32), rv a1, rv a4, rv a9, rv a16, rv a25, iv (1 : Int32), rv a1, .val .null, .val .null, .unset] []))) (fun t k => XS.astore X250.here hx rfl (hb hby at_139) rfl rfl (l' := #[iv p0, iv p1, iv p2, iv (1 : Int32), iv (4 : Int32), rv a1, rv a4, rv a9, rv a16, rv a25, iv (1 : Int32), rv a1, .val .null, .val .null, .unset]) rfl k) ?_
      refine own_go (B := (T250.setTop (mkF m 143 #[iv p0, iv p1, iv p2, iv (1 : Int32), iv (4 : Int32), rv a1, rv a4, rv a9, rv a16, rv a25, iv (1 : Int32), rv a1, .val .null, .val .null, .unset] [(.ref a25)]))) (fun t k => XS.aload X250.here hx rfl (hb hby at_141) rfl rfl k) ?_
      obtain ⟨cq252, kq252, qa252, qb252, qc252⟩ := isOf hZ e250 Ex239
      obtain ⟨_, _, ⟨T252, L252, k252, n252⟩, -, X252, ⟨Lc252, hQ252, l252, y252, z252⟩, st252⟩ := X250.virtualBack hx (y := own_y7) (z := own_y7) hown (mvT hZ w_31) (mvT hZ w_32) (notFace_of_selects (args := #[]) (mvT hZ w_34)) (mvT hZ w_34) (mvT hZ w_33) (by decide) (backOf (W := 0) (own_tnone l Z a0 hw [] a25 T239.heap n0 gc239) hZ w_35 w_9 (by decide) (by decide)) qa252 qc252 (g := (mkF m 143 #[iv p0, iv p1, iv p2, iv (1 : Int32), iv (4 : Int32), rv a1, rv a4, rv a9, rv a16, rv a25, iv (1 : Int32), rv a1, .val .null, .val .null, .unset] [(.ref a25)])) rfl (by rw [hml]; rfl) (Steps.refl _) (argsL := []) (rest := []) (lenOf own_pd6 rfl) rfl (by show 2 * 0 + _ ≤ _; exact own_b rfl) (hb hby at_143) (fun _ _ => ⟨rfl, e250, (own_b rfl : 6 + 0 ≤ _), (own_b rfl : 9 + 0 ≤ _)⟩)
      dsimp only [Pt.U, Pt.locs, Pt.cells, Pt.slots] at X252 l252 y252 z252 st252 hQ252
      obtain ⟨rfl, Nq252, eq252⟩ := hQ252
      obtain ⟨L252, X252, N252⟩ := own_absC (K := 6) (K' := 9) X252 l252 y252 z252 N250 Nq252
      have e252 : T252.heap = T239.heap := eq252
      refine own_tr (B := (T252.setTop (mkF m 146 #[iv p0, iv p1, iv p2, iv (1 : Int32), iv (4 : Int32), rv a1, rv a4, rv a9, rv a16, rv a25, iv (1 : Int32), rv a1, .val .null, .val .null, .unset] [.null]))) st252 ?_
      refine own_go (B := (T252.setTop (mkF m 149 #[iv p0, iv p1, iv p2, iv (1 : Int32), iv (4 : Int32), rv a1, rv a4, rv a9, rv a16, rv a25, iv (1 : Int32), rv a1, .val .null, .val .null, .unset] [.null]))) (X252.checkcastNull hx (g := (mkF m 146 #[iv p0, iv p1, iv p2, iv (1 : Int32), iv (4 : Int32), rv a1, rv a4, rv a9, rv a16, rv a25, iv (1 : Int32), rv a1, .val .null, .val .null, .unset] [.null])) rfl rfl (hb hby at_146)) ?_
      refine own_go (B := (T252.setTop (mkF m 151 #[iv p0, iv p1, iv p2, iv (1 : Int32), iv (4 : Int32), rv a1, rv a4, rv a9, rv a16, rv a25, iv (1 : Int32), rv a1, .val .null, .val .null, .val .null] []))) (fun t k => XS.astore X252.here hx rfl (hb hby at_149) rfl rfl (l' := #[iv p0, iv p1, iv p2, iv (1 : Int32), iv (4 : Int32), rv a1, rv a4, rv a9, rv a16, rv a25, iv (1 : Int32), rv a1, .val .null, .val .null, .val .null]) rfl k) ?_
      refine own_go (B := (T252.setTop (mkF m 153 #[iv p0, iv p1, iv p2, iv (1 : Int32), iv (4 : Int32), rv a1, rv a4, rv a9, rv a16, rv a25, iv (1 : Int32), rv a1, .val .null, .val .null, .val .null] [(.ref a1)]))) (fun t k => XS.aload X252.here hx rfl (hb hby at_151) rfl rfl k) ?_
      refine own_go (B := (T252.setTop (mkF m 155 #[iv p0, iv p1, iv p2, iv (1 : Int32), iv (4 : Int32), rv a1, rv a4, rv a9, rv a16, rv a25, iv (1 : Int32), rv a1, .val .null, .val .null, .val .null] [(.int (1 : Int32)), (.ref a1)]))) (fun t k => XS.iload X252.here hx rfl (hb hby at_153) rfl k) ?_
      refine own_go (B := (T252.setTop (mkF m 156 #[iv p0, iv p1, iv p2, iv (1 : Int32), iv (4 : Int32), rv a1, rv a4, rv a9, rv a16, rv a25, iv (1 : Int32), rv a1, .val .null, .val .null, .val .null] [(.int (0 : Int32)), (.int (1 : Int32)), (.ref a1)]))) (fun t k => own_iconst (v := (0 : Int32)) X252.here hx rfl (hb hby at_155) (by decide) k) ?_
      refine own_go (B := (T252.setTop (mkF m 157 #[iv p0, iv p1, iv p2, iv (1 : Int32), iv (4 : Int32), rv a1, rv a4, rv a9, rv a16, rv a25, iv (1 : Int32), rv a1, .val .null, .val .null, .val .null] [(.int p2), (.int (0 : Int32)), (.int (1 : Int32)), (.ref a1)]))) (fun t k => XS.iloadN X252.here hx rfl (hb hby at_156) rfl k) ?_
      obtain ⟨_, _, ⟨T254, L254, k254, n254⟩, -, X254, ⟨Lc254, hQ254, l254, y254, z254⟩, st254⟩ := Jvm.LawKit.callS X252 hx (y := own_y8) hown (mvT hZ w_36) (mvT hZ w_37) (mvT hZ w_38) (mvT hZ w_39) (by decide) (backOf (W := 0) (own_same1 l Z a0 hw [] a1 (1 : Int32) (0 : Int32) p2 p2 T239.heap n0 (own_Bn_exa F243 (List.mem_of_getElem? (i := 0) rfl)) (own_Bn_fld F243 (List.mem_of_getElem? (i := 0) rfl)) (by decide) (own_v0 (by decide))) hZ w_39 w_38 (by decide) (by decide)) (g := (mkF m 157 #[iv p0, iv p1, iv p2, iv (1 : Int32), iv (4 : Int32), rv a1, rv a4, rv a9, rv a16, rv a25, iv (1 : Int32), rv a1, .val .null, .val .null, .val .null] [(.int p2), (.int (0 : Int32)), (.int (1 : Int32)), (.ref a1)])) rfl (by rw [hml]; rfl) (argsL := [(.ref a1), (.int (1 : Int32)), (.int (0 : Int32)), (.int p2)]) (rest := []) (lenOf own_pd7 rfl) rfl (by show 2 * 0 + _ ≤ _; exact own_b rfl) (hb hby at_157) (fun _ _ => ⟨rfl, e252, (own_b rfl : 6 + 0 ≤ _), (own_b rfl : 9 + 0 ≤ _)⟩)
      dsimp only [Pt.U, Pt.locs, Pt.cells, Pt.slots] at X254 l254 y254 z254 st254 hQ254
      obtain ⟨rfl, Nq254, eq254⟩ := hQ254
      obtain ⟨L254, X254, N254⟩ := own_absC (K := 6) (K' := 9) X254 l254 y254 z254 N252 Nq254
      have e254 : T254.heap = T239.heap := eq254
      refine own_go (B := (T254.setTop (mkF m 160 #[iv p0, iv p1, iv p2, iv (1 : Int32), iv (4 : Int32), rv a1, rv a4, rv a9, rv a16, rv a25, iv (1 : Int32), rv a1, .val .null, .val .null, .val .null] [(.int (1 : Int32))]))) st254 ?_
      have hc160 : ¬ (1 : Int32) = (0 : Int32) := (by decide)
      refine own_ifN X254 hx (hb hby at_160) (pn := 163) rfl hc160 ?_
      refine own_go (B := (T254.setTop (mkF m 165 #[iv p0, iv p1, iv p2, iv (1 : Int32), iv (4 : Int32), rv a1, rv a4, rv a9, rv a16, rv a25, iv (1 : Int32), rv a1, .val .null, .val .null, .val .null] [.null]))) (fun t k => XS.aload X254.here hx rfl (hb hby at_163) rfl rfl k) ?_
      refine own_go (B := (T254.setTop (mkF m 167 #[iv p0, iv p1, iv p2, iv (1 : Int32), iv (4 : Int32), rv a1, rv a4, rv a9, rv a16, rv a25, iv (1 : Int32), rv a1, .val .null, .val .null, .val .null] [(.int (1 : Int32)), .null]))) (fun t k => XS.iload X254.here hx rfl (hb hby at_165) rfl k) ?_
      refine own_go (B := (T254.setTop (mkF m 168 #[iv p0, iv p1, iv p2, iv (1 : Int32), iv (4 : Int32), rv a1, rv a4, rv a9, rv a16, rv a25, iv (1 : Int32), rv a1, .val .null, .val .null, .val .null] [(.int (1 : Int32)), (.int (1 : Int32)), .null]))) (fun t k => own_iconst (v := (1 : Int32)) X254.here hx rfl (hb hby at_167) (by decide) k) ?_
      refine own_go (B := (T254.setTop (mkF m 169 #[iv p0, iv p1, iv p2, iv (1 : Int32), iv (4 : Int32), rv a1, rv a4, rv a9, rv a16, rv a25, iv (1 : Int32), rv a1, .val .null, .val .null, .val .null] [(.int p2), (.int (1 : Int32)), (.int (1 : Int32)), .null]))) (fun t k => XS.iloadN X254.here hx rfl (hb hby at_168) rfl k) ?_
      obtain ⟨_, _, ⟨T255, L255, k255, n255⟩, -, X255, ⟨Lc255, hQ255, l255, y255, z255⟩, st255⟩ := Jvm.LawKit.callS X254 hx (y := own_y8) hown (mvT hZ w_36) (mvT hZ w_37) (mvT hZ w_38) (mvT hZ w_39) (by decide) (backOf (W := 0) (own_same0 l Z a0 hw [] (1 : Int32) (1 : Int32) p2 T239.heap n0 (by decide)) hZ w_39 w_38 (by decide) (by decide)) (g := (mkF m 169 #[iv p0, iv p1, iv p2, iv (1 : Int32), iv (4 : Int32), rv a1, rv a4, rv a9, rv a16, rv a25, iv (1 : Int32), rv a1, .val .null, .val .null, .val .null] [(.int p2), (.int (1 : Int32)), (.int (1 : Int32)), .null])) rfl (by rw [hml]; rfl) (argsL := [.null, (.int (1 : Int32)), (.int (1 : Int32)), (.int p2)]) (rest := []) (lenOf own_pd7 rfl) rfl (by show 2 * 0 + _ ≤ _; exact own_b rfl) (hb hby at_169) (fun _ _ => ⟨rfl, e254, (own_b rfl : 6 + 0 ≤ _), (own_b rfl : 9 + 0 ≤ _)⟩)
      dsimp only [Pt.U, Pt.locs, Pt.cells, Pt.slots] at X255 l255 y255 z255 st255 hQ255
      obtain ⟨rfl, Nq255, eq255⟩ := hQ255
      obtain ⟨L255, X255, N255⟩ := own_absC (K := 6) (K' := 9) X255 l255 y255 z255 N254 Nq255
      have e255 : T255.heap = T239.heap := eq255
      refine own_go (B := (T255.setTop (mkF m 172 #[iv p0, iv p1, iv p2, iv (1 : Int32), iv (4 : Int32), rv a1, rv a4, rv a9, rv a16, rv a25, iv (1 : Int32), rv a1, .val .null, .val .null, .val .null] [(.int (1 : Int32))]))) st255 ?_
      have hc172 : ¬ (1 : Int32) = (0 : Int32) := (by decide)
      refine own_ifN X255 hx (hb hby at_172) (pn := 175) rfl hc172 ?_
      refine own_go (B := (T255.setTop (mkF m 177 #[iv p0, iv p1, iv p2, iv (1 : Int32), iv (4 : Int32), rv a1, rv a4, rv a9, rv a16, rv a25, iv (1 : Int32), rv a1, .val .null, .val .null, .val .null] [.null]))) (fun t k => XS.aload X255.here hx rfl (hb hby at_175) rfl rfl k) ?_
      refine own_go (B := (T255.setTop (mkF m 179 #[iv p0, iv p1, iv p2, iv (1 : Int32), iv (4 : Int32), rv a1, rv a4, rv a9, rv a16, rv a25, iv (1 : Int32), rv a1, .val .null, .val .null, .val .null] [(.int (1 : Int32)), .null]))) (fun t k => XS.iload X255.here hx rfl (hb hby at_177) rfl k) ?_
      refine own_go (B := (T255.setTop (mkF m 180 #[iv p0, iv p1, iv p2, iv (1 : Int32), iv (4 : Int32), rv a1, rv a4, rv a9, rv a16, rv a25, iv (1 : Int32), rv a1, .val .null, .val .null, .val .null] [(.int (2 : Int32)), (.int (1 : Int32)), .null]))) (fun t k => own_iconst (v := (2 : Int32)) X255.here hx rfl (hb hby at_179) (by decide) k) ?_
      refine own_go (B := (T255.setTop (mkF m 181 #[iv p0, iv p1, iv p2, iv (1 : Int32), iv (4 : Int32), rv a1, rv a4, rv a9, rv a16, rv a25, iv (1 : Int32), rv a1, .val .null, .val .null, .val .null] [(.int p2), (.int (2 : Int32)), (.int (1 : Int32)), .null]))) (fun t k => XS.iloadN X255.here hx rfl (hb hby at_180) rfl k) ?_
      obtain ⟨_, _, ⟨T256, L256, k256, n256⟩, -, X256, ⟨Lc256, hQ256, l256, y256, z256⟩, st256⟩ := Jvm.LawKit.callS X255 hx (y := own_y8) hown (mvT hZ w_36) (mvT hZ w_37) (mvT hZ w_38) (mvT hZ w_39) (by decide) (backOf (W := 0) (own_same0 l Z a0 hw [] (1 : Int32) (2 : Int32) p2 T239.heap n0 (by decide)) hZ w_39 w_38 (by decide) (by decide)) (g := (mkF m 181 #[iv p0, iv p1, iv p2, iv (1 : Int32), iv (4 : Int32), rv a1, rv a4, rv a9, rv a16, rv a25, iv (1 : Int32), rv a1, .val .null, .val .null, .val .null] [(.int p2), (.int (2 : Int32)), (.int (1 : Int32)), .null])) rfl (by rw [hml]; rfl) (argsL := [.null, (.int (1 : Int32)), (.int (2 : Int32)), (.int p2)]) (rest := []) (lenOf own_pd7 rfl) rfl (by show 2 * 0 + _ ≤ _; exact own_b rfl) (hb hby at_181) (fun _ _ => ⟨rfl, e255, (own_b rfl : 6 + 0 ≤ _), (own_b rfl : 9 + 0 ≤ _)⟩)
      dsimp only [Pt.U, Pt.locs, Pt.cells, Pt.slots] at X256 l256 y256 z256 st256 hQ256
      obtain ⟨rfl, Nq256, eq256⟩ := hQ256
      obtain ⟨L256, X256, N256⟩ := own_absC (K := 6) (K' := 9) X256 l256 y256 z256 N255 Nq256
      have e256 : T256.heap = T239.heap := eq256
      refine own_go (B := (T256.setTop (mkF m 184 #[iv p0, iv p1, iv p2, iv (1 : Int32), iv (4 : Int32), rv a1, rv a4, rv a9, rv a16, rv a25, iv (1 : Int32), rv a1, .val .null, .val .null, .val .null] [(.int (1 : Int32))]))) st256 ?_
      have hc184 : ¬ (1 : Int32) = (0 : Int32) := (by decide)
      refine own_ifN X256 hx (hb hby at_184) (pn := 187) rfl hc184 ?_
      refine own_go (B := (T256.setTop (mkF m 189 #[iv p0, iv p1, iv p2, iv (1 : Int32), iv (4 : Int32), rv a1, rv a4, rv a9, rv a16, rv a25, iv (1 : Int32), rv a1, .val .null, .val .null, .val .null] [.null]))) (fun t k => XS.aload X256.here hx rfl (hb hby at_187) rfl rfl k) ?_
      refine own_go (B := (T256.setTop (mkF m 191 #[iv p0, iv p1, iv p2, iv (1 : Int32), iv (4 : Int32), rv a1, rv a4, rv a9, rv a16, rv a25, iv (1 : Int32), rv a1, .val .null, .val .null, .val .null] [(.int (1 : Int32)), .null]))) (fun t k => XS.iload X256.here hx rfl (hb hby at_189) rfl k) ?_
      refine own_go (B := (T256.setTop (mkF m 192 #[iv p0, iv p1, iv p2, iv (1 : Int32), iv (4 : Int32), rv a1, rv a4, rv a9, rv a16, rv a25, iv (1 : Int32), rv a1, .val .null, .val .null, .val .null] [(.int (3 : Int32)), (.int (1 : Int32)), .null]))) (fun t k => own_iconst (v := (3 : Int32)) X256.here hx rfl (hb hby at_191) (by decide) k) ?_
      refine own_go (B := (T256.setTop (mkF m 193 #[iv p0, iv p1, iv p2, iv (1 : Int32), iv (4 : Int32), rv a1, rv a4, rv a9, rv a16, rv a25, iv (1 : Int32), rv a1, .val .null, .val .null, .val .null] [(.int p2), (.int (3 : Int32)), (.int (1 : Int32)), .null]))) (fun t k => XS.iloadN X256.here hx rfl (hb hby at_192) rfl k) ?_
      obtain ⟨_, _, ⟨T257, L257, k257, n257⟩, -, X257, ⟨Lc257, hQ257, l257, y257, z257⟩, st257⟩ := Jvm.LawKit.callS X256 hx (y := own_y8) hown (mvT hZ w_36) (mvT hZ w_37) (mvT hZ w_38) (mvT hZ w_39) (by decide) (backOf (W := 0) (own_same0 l Z a0 hw [] (1 : Int32) (3 : Int32) p2 T239.heap n0 (by decide)) hZ w_39 w_38 (by decide) (by decide)) (g := (mkF m 193 #[iv p0, iv p1, iv p2, iv (1 : Int32), iv (4 : Int32), rv a1, rv a4, rv a9, rv a16, rv a25, iv (1 : Int32), rv a1, .val .null, .val .null, .val .null] [(.int p2), (.int (3 : Int32)), (.int (1 : Int32)), .null])) rfl (by rw [hml]; rfl) (argsL := [.null, (.int (1 : Int32)), (.int (3 : Int32)), (.int p2)]) (rest := []) (lenOf own_pd7 rfl) rfl (by show 2 * 0 + _ ≤ _; exact own_b rfl) (hb hby at_193) (fun _ _ => ⟨rfl, e256, (own_b rfl : 6 + 0 ≤ _), (own_b rfl : 9 + 0 ≤ _)⟩)
      dsimp only [Pt.U, Pt.locs, Pt.cells, Pt.slots] at X257 l257 y257 z257 st257 hQ257
      obtain ⟨rfl, Nq257, eq257⟩ := hQ257
      obtain ⟨L257, X257, N257⟩ := own_absC (K := 6) (K' := 9) X257 l257 y257 z257 N256 Nq257
      have e257 : T257.heap = T239.heap := eq257
      refine own_go (B := (T257.setTop (mkF m 196 #[iv p0, iv p1, iv p2, iv (1 : Int32), iv (4 : Int32), rv a1, rv a4, rv a9, rv a16, rv a25, iv (1 : Int32), rv a1, .val .null, .val .null, .val .null] [(.int (1 : Int32))]))) st257 ?_
      have hc196 : ¬ (1 : Int32) = (0 : Int32) := (by decide)
      refine own_ifN X257 hx (hb hby at_196) (pn := 199) rfl hc196 ?_
      refine own_go (B := (T257.setTop (mkF m 200 #[iv p0, iv p1, iv p2, iv (1 : Int32), iv (4 : Int32), rv a1, rv a4, rv a9, rv a16, rv a25, iv (1 : Int32), rv a1, .val .null, .val .null, .val .null] [(.int (1 : Int32))]))) (fun t k => own_iconst (v := (1 : Int32)) X257.here hx rfl (hb hby at_199) (by decide) k) ?_
      refine own_go (B := (T257.setTop (mkF m 204 #[iv p0, iv p1, iv p2, iv (1 : Int32), iv (4 : Int32), rv a1, rv a4, rv a9, rv a16, rv a25, iv (1 : Int32), rv a1, .val .null, .val .null, .val .null] [(.int (1 : Int32))]))) (fun t k => XS.goto X257.here hx rfl (pc0 := 200) (pc' := 204) rfl (hb hby at_200) (by decide) (by decide) k) ?_
      exact own_retZ X257 hx hlk Bd.returns (hb hby at_204) (by decide) (own_b rfl) (own_b rfl) (Q := (own_law_Q Z p0 p1 p2 ca h0 n0)) ⟨rfl, N257⟩
  · have Vb : own_Ao Z T38.heap ar38 "java/lang/Object" [.null, .null] := by have q := gv38; rw [show (2 : Int32).toNatClampNeg = 2 from by decide] at q; exact q
    rcases own_c5 hz10 with rfl | rfl | rfl | rfl | rfl
    · refine own_go (B := (T38.setTop (mkF m 54 #[iv p0, iv p1, iv p2, iv (2 : Int32), iv (0 : Int32), rv a1, rv a4, rv a9, rv a16, rv a25, .unset, .unset, .unset, .unset, .unset] [(.int (0 : Int32))]))) (fun t k => XS.iload X38.here hx rfl (hb hby at_52) rfl k) ?_
      have hc54 : ¬ (0 : Int32) < (0 : Int32) := (by decide)
      refine own_ifY X38 hx (hb hby at_54) (pc' := 64) (by decide) (by decide) hc54 ?_
      refine own_go (B := (T38.setTop (mkF m 66 #[iv p0, iv p1, iv p2, iv (2 : Int32), iv (0 : Int32), rv a1, rv a4, rv a9, rv a16, rv a25, .unset, .unset, .unset, .unset, .unset] [(.int (0 : Int32))]))) (fun t k => XS.iload X38.here hx rfl (hb hby at_64) rfl k) ?_
      refine own_go (B := (T38.setTop (mkF m 67 #[iv p0, iv p1, iv p2, iv (2 : Int32), iv (0 : Int32), rv a1, rv a4, rv a9, rv a16, rv a25, .unset, .unset, .unset, .unset, .unset] [(.int (1 : Int32)), (.int (0 : Int32))]))) (fun t k => own_iconst (v := (1 : Int32)) X38.here hx rfl (hb hby at_66) (by decide) k) ?_
      have hc67 : ¬ (1 : Int32) < (0 : Int32) := (by decide)
      refine own_icmpY X38 hx (hb hby at_67) (pc' := 77) (by decide) (by decide) hc67 ?_
      refine own_go (B := (T38.setTop (mkF m 79 #[iv p0, iv p1, iv p2, iv (2 : Int32), iv (0 : Int32), rv a1, rv a4, rv a9, rv a16, rv a25, .unset, .unset, .unset, .unset, .unset] [(.int (0 : Int32))]))) (fun t k => XS.iload X38.here hx rfl (hb hby at_77) rfl k) ?_
      refine own_go (B := (T38.setTop (mkF m 80 #[iv p0, iv p1, iv p2, iv (2 : Int32), iv (0 : Int32), rv a1, rv a4, rv a9, rv a16, rv a25, .unset, .unset, .unset, .unset, .unset] [(.int (2 : Int32)), (.int (0 : Int32))]))) (fun t k => own_iconst (v := (2 : Int32)) X38.here hx rfl (hb hby at_79) (by decide) k) ?_
      have hc80 : ¬ (2 : Int32) < (0 : Int32) := (by decide)
      refine own_icmpY X38 hx (hb hby at_80) (pc' := 90) (by decide) (by decide) hc80 ?_
      refine own_go (B := (T38.setTop (mkF m 92 #[iv p0, iv p1, iv p2, iv (2 : Int32), iv (0 : Int32), rv a1, rv a4, rv a9, rv a16, rv a25, .unset, .unset, .unset, .unset, .unset] [(.int (0 : Int32))]))) (fun t k => XS.iload X38.here hx rfl (hb hby at_90) rfl k) ?_
      refine own_go (B := (T38.setTop (mkF m 93 #[iv p0, iv p1, iv p2, iv (2 : Int32), iv (0 : Int32), rv a1, rv a4, rv a9, rv a16, rv a25, .unset, .unset, .unset, .unset, .unset] [(.int (3 : Int32)), (.int (0 : Int32))]))) (fun t k => own_iconst (v := (3 : Int32)) X38.here hx rfl (hb hby at_92) (by decide) k) ?_
      have hc93 : ¬ (3 : Int32) < (0 : Int32) := (by decide)
      refine own_icmpY X38 hx (hb hby at_93) (pc' := 103) (by decide) (by decide) hc93 ?_
      refine own_go (B := (T38.setTop (mkF m 105 #[iv p0, iv p1, iv p2, iv (2 : Int32), iv (0 : Int32), rv a1, rv a4, rv a9, rv a16, rv a25, .unset, .unset, .unset, .unset, .unset] [(.int (0 : Int32))]))) (fun t k => XS.iload X38.here hx rfl (hb hby at_103) rfl k) ?_
      refine own_go (B := (T38.setTop (mkF m 106 #[iv p0, iv p1, iv p2, iv (2 : Int32), iv (0 : Int32), rv a1, rv a4, rv a9, rv a16, rv a25, .unset, .unset, .unset, .unset, .unset] [(.int (2 : Int32)), (.int (0 : Int32))]))) (fun t k => XS.iloadN X38.here hx rfl (hb hby at_105) rfl k) ?_
      obtain ⟨_, _, ⟨T258, L258, k258, n258⟩, -, X258, ⟨Lc258, hQ258, l258, y258, z258⟩, st258⟩ := Jvm.LawKit.callS X38 hx (y := own_y6) hown (mvT hZ w_27) (mvT hZ w_28) (mvT hZ w_29) (mvT hZ w_30) (by decide) (backOf (W := 0) (own_mmin l Z a0 hw [] (0 : Int32) (2 : Int32) T38.heap n0) hZ w_30 w_29 (by decide) (by decide)) (g := (mkF m 106 #[iv p0, iv p1, iv p2, iv (2 : Int32), iv (0 : Int32), rv a1, rv a4, rv a9, rv a16, rv a25, .unset, .unset, .unset, .unset, .unset] [(.int (2 : Int32)), (.int (0 : Int32))])) rfl (by rw [hml]; rfl) (argsL := [(.int (0 : Int32)), (.int (2 : Int32))]) (rest := []) (lenOf own_pd5 rfl) rfl (by show 2 * 0 + _ ≤ _; exact own_b rfl) (hb hby at_106) (fun _ _ => ⟨rfl, rfl, (own_b rfl : 6 + 0 ≤ _), (own_b rfl : 9 + 0 ≤ _)⟩)
      dsimp only [Pt.U, Pt.locs, Pt.cells, Pt.slots] at X258 l258 y258 z258 st258 hQ258
      obtain ⟨rfl, Nq258, eq258⟩ := hQ258
      obtain ⟨L258, X258, N258⟩ := own_absC (K := 6) (K' := 9) X258 l258 y258 z258 N38 Nq258
      have e258 : T258.heap = T38.heap := eq258
      refine own_go (B := (T258.setTop (mkF m 109 #[iv p0, iv p1, iv p2, iv (2 : Int32), iv (0 : Int32), rv a1, rv a4, rv a9, rv a16, rv a25, .unset, .unset, .unset, .unset, .unset] [(.int (own_min (0 : Int32) (2 : Int32)))]))) st258 ?_
      rw [show own_min (0 : Int32) (2 : Int32) = (0 : Int32) from by decide]
      refine own_go (B := (T258.setTop (mkF m 111 #[iv p0, iv p1, iv p2, iv (2 : Int32), iv (0 : Int32), rv a1, rv a4, rv a9, rv a16, rv a25, iv (0 : Int32), .unset, .unset, .unset, .unset] []))) (fun t k => XS.istore X258.here hx rfl (hb hby at_109) rfl (l' := #[iv p0, iv p1, iv p2, iv (2 : Int32), iv (0 : Int32), rv a1, rv a4, rv a9, rv a16, rv a25, iv (0 : Int32), .unset, .unset, .unset, .unset]) rfl k) ?_
      refine own_go (B := (T258.setTop (mkF m 113 #[iv p0, iv p1, iv p2, iv (2 : Int32), iv (0 : Int32), rv a1, rv a4, rv a9, rv a16, rv a25, iv (0 : Int32), .unset, .unset, .unset, .unset] [(.ref a25)]))) (fun t k => XS.aload X258.here hx rfl (hb hby at_111) rfl rfl k) ?_
      obtain ⟨cq259, kq259, qa259, qb259, qc259⟩ := isOf hZ e258 Ex38
      obtain ⟨_, _, ⟨T259, L259, k259, n259⟩, -, X259, ⟨Lc259, hQ259, l259, y259, z259⟩, st259⟩ := X258.virtualBack hx (y := own_y7) (z := own_y7) hown (mvT hZ w_31) (mvT hZ w_32) (notFace_of_selects (args := #[]) (mvT hZ w_34)) (mvT hZ w_34) (mvT hZ w_33) (by decide) (backOf (W := 0) (own_tnone l Z a0 hw [] a25 T38.heap n0 gc38) hZ w_35 w_9 (by decide) (by decide)) qa259 qc259 (g := (mkF m 113 #[iv p0, iv p1, iv p2, iv (2 : Int32), iv (0 : Int32), rv a1, rv a4, rv a9, rv a16, rv a25, iv (0 : Int32), .unset, .unset, .unset, .unset] [(.ref a25)])) rfl (by rw [hml]; rfl) (Steps.refl _) (argsL := []) (rest := []) (lenOf own_pd6 rfl) rfl (by show 2 * 0 + _ ≤ _; exact own_b rfl) (hb hby at_113) (fun _ _ => ⟨rfl, e258, (own_b rfl : 6 + 0 ≤ _), (own_b rfl : 9 + 0 ≤ _)⟩)
      dsimp only [Pt.U, Pt.locs, Pt.cells, Pt.slots] at X259 l259 y259 z259 st259 hQ259
      obtain ⟨rfl, Nq259, eq259⟩ := hQ259
      obtain ⟨L259, X259, N259⟩ := own_absC (K := 6) (K' := 9) X259 l259 y259 z259 N258 Nq259
      have e259 : T259.heap = T38.heap := eq259
      refine own_tr (B := (T259.setTop (mkF m 116 #[iv p0, iv p1, iv p2, iv (2 : Int32), iv (0 : Int32), rv a1, rv a4, rv a9, rv a16, rv a25, iv (0 : Int32), .unset, .unset, .unset, .unset] [.null]))) st259 ?_
      refine own_go (B := (T259.setTop (mkF m 119 #[iv p0, iv p1, iv p2, iv (2 : Int32), iv (0 : Int32), rv a1, rv a4, rv a9, rv a16, rv a25, iv (0 : Int32), .unset, .unset, .unset, .unset] [.null]))) (X259.checkcastNull hx (g := (mkF m 116 #[iv p0, iv p1, iv p2, iv (2 : Int32), iv (0 : Int32), rv a1, rv a4, rv a9, rv a16, rv a25, iv (0 : Int32), .unset, .unset, .unset, .unset] [.null])) rfl rfl (hb hby at_116)) ?_
      refine own_go (B := (T259.setTop (mkF m 121 #[iv p0, iv p1, iv p2, iv (2 : Int32), iv (0 : Int32), rv a1, rv a4, rv a9, rv a16, rv a25, iv (0 : Int32), .val .null, .unset, .unset, .unset] []))) (fun t k => XS.astore X259.here hx rfl (hb hby at_119) rfl rfl (l' := #[iv p0, iv p1, iv p2, iv (2 : Int32), iv (0 : Int32), rv a1, rv a4, rv a9, rv a16, rv a25, iv (0 : Int32), .val .null, .unset, .unset, .unset]) rfl k) ?_
      refine own_go (B := (T259.setTop (mkF m 123 #[iv p0, iv p1, iv p2, iv (2 : Int32), iv (0 : Int32), rv a1, rv a4, rv a9, rv a16, rv a25, iv (0 : Int32), .val .null, .unset, .unset, .unset] [(.ref a25)]))) (fun t k => XS.aload X259.here hx rfl (hb hby at_121) rfl rfl k) ?_
      obtain ⟨cq261, kq261, qa261, qb261, qc261⟩ := isOf hZ e259 Ex38
      obtain ⟨_, _, ⟨T261, L261, k261, n261⟩, -, X261, ⟨Lc261, hQ261, l261, y261, z261⟩, st261⟩ := X259.virtualBack hx (y := own_y7) (z := own_y7) hown (mvT hZ w_31) (mvT hZ w_32) (notFace_of_selects (args := #[]) (mvT hZ w_34)) (mvT hZ w_34) (mvT hZ w_33) (by decide) (backOf (W := 0) (own_tnone l Z a0 hw [] a25 T38.heap n0 gc38) hZ w_35 w_9 (by decide) (by decide)) qa261 qc261 (g := (mkF m 123 #[iv p0, iv p1, iv p2, iv (2 : Int32), iv (0 : Int32), rv a1, rv a4, rv a9, rv a16, rv a25, iv (0 : Int32), .val .null, .unset, .unset, .unset] [(.ref a25)])) rfl (by rw [hml]; rfl) (Steps.refl _) (argsL := []) (rest := []) (lenOf own_pd6 rfl) rfl (by show 2 * 0 + _ ≤ _; exact own_b rfl) (hb hby at_123) (fun _ _ => ⟨rfl, e259, (own_b rfl : 6 + 0 ≤ _), (own_b rfl : 9 + 0 ≤ _)⟩)
      dsimp only [Pt.U, Pt.locs, Pt.cells, Pt.slots] at X261 l261 y261 z261 st261 hQ261
      obtain ⟨rfl, Nq261, eq261⟩ := hQ261
      obtain ⟨L261, X261, N261⟩ := own_absC (K := 6) (K' := 9) X261 l261 y261 z261 N259 Nq261
      have e261 : T261.heap = T38.heap := eq261
      refine own_tr (B := (T261.setTop (mkF m 126 #[iv p0, iv p1, iv p2, iv (2 : Int32), iv (0 : Int32), rv a1, rv a4, rv a9, rv a16, rv a25, iv (0 : Int32), .val .null, .unset, .unset, .unset] [.null]))) st261 ?_
      refine own_go (B := (T261.setTop (mkF m 129 #[iv p0, iv p1, iv p2, iv (2 : Int32), iv (0 : Int32), rv a1, rv a4, rv a9, rv a16, rv a25, iv (0 : Int32), .val .null, .unset, .unset, .unset] [.null]))) (X261.checkcastNull hx (g := (mkF m 126 #[iv p0, iv p1, iv p2, iv (2 : Int32), iv (0 : Int32), rv a1, rv a4, rv a9, rv a16, rv a25, iv (0 : Int32), .val .null, .unset, .unset, .unset] [.null])) rfl rfl (hb hby at_126)) ?_
      refine own_go (B := (T261.setTop (mkF m 131 #[iv p0, iv p1, iv p2, iv (2 : Int32), iv (0 : Int32), rv a1, rv a4, rv a9, rv a16, rv a25, iv (0 : Int32), .val .null, .val .null, .unset, .unset] []))) (fun t k => XS.astore X261.here hx rfl (hb hby at_129) rfl rfl (l' := #[iv p0, iv p1, iv p2, iv (2 : Int32), iv (0 : Int32), rv a1, rv a4, rv a9, rv a16, rv a25, iv (0 : Int32), .val .null, .val .null, .unset, .unset]) rfl k) ?_
      refine own_go (B := (T261.setTop (mkF m 133 #[iv p0, iv p1, iv p2, iv (2 : Int32), iv (0 : Int32), rv a1, rv a4, rv a9, rv a16, rv a25, iv (0 : Int32), .val .null, .val .null, .unset, .unset] [(.ref a25)]))) (fun t k => XS.aload X261.here hx rfl (hb hby at_131) rfl rfl k) ?_
      obtain ⟨cq263, kq263, qa263, qb263, qc263⟩ := isOf hZ e261 Ex38
      obtain ⟨_, _, ⟨T263, L263, k263, n263⟩, -, X263, ⟨Lc263, hQ263, l263, y263, z263⟩, st263⟩ := X261.virtualBack hx (y := own_y7) (z := own_y7) hown (mvT hZ w_31) (mvT hZ w_32) (notFace_of_selects (args := #[]) (mvT hZ w_34)) (mvT hZ w_34) (mvT hZ w_33) (by decide) (backOf (W := 0) (own_tnone l Z a0 hw [] a25 T38.heap n0 gc38) hZ w_35 w_9 (by decide) (by decide)) qa263 qc263 (g := (mkF m 133 #[iv p0, iv p1, iv p2, iv (2 : Int32), iv (0 : Int32), rv a1, rv a4, rv a9, rv a16, rv a25, iv (0 : Int32), .val .null, .val .null, .unset, .unset] [(.ref a25)])) rfl (by rw [hml]; rfl) (Steps.refl _) (argsL := []) (rest := []) (lenOf own_pd6 rfl) rfl (by show 2 * 0 + _ ≤ _; exact own_b rfl) (hb hby at_133) (fun _ _ => ⟨rfl, e261, (own_b rfl : 6 + 0 ≤ _), (own_b rfl : 9 + 0 ≤ _)⟩)
      dsimp only [Pt.U, Pt.locs, Pt.cells, Pt.slots] at X263 l263 y263 z263 st263 hQ263
      obtain ⟨rfl, Nq263, eq263⟩ := hQ263
      obtain ⟨L263, X263, N263⟩ := own_absC (K := 6) (K' := 9) X263 l263 y263 z263 N261 Nq263
      have e263 : T263.heap = T38.heap := eq263
      refine own_tr (B := (T263.setTop (mkF m 136 #[iv p0, iv p1, iv p2, iv (2 : Int32), iv (0 : Int32), rv a1, rv a4, rv a9, rv a16, rv a25, iv (0 : Int32), .val .null, .val .null, .unset, .unset] [.null]))) st263 ?_
      refine own_go (B := (T263.setTop (mkF m 139 #[iv p0, iv p1, iv p2, iv (2 : Int32), iv (0 : Int32), rv a1, rv a4, rv a9, rv a16, rv a25, iv (0 : Int32), .val .null, .val .null, .unset, .unset] [.null]))) (X263.checkcastNull hx (g := (mkF m 136 #[iv p0, iv p1, iv p2, iv (2 : Int32), iv (0 : Int32), rv a1, rv a4, rv a9, rv a16, rv a25, iv (0 : Int32), .val .null, .val .null, .unset, .unset] [.null])) rfl rfl (hb hby at_136)) ?_
      refine own_go (B := (T263.setTop (mkF m 141 #[iv p0, iv p1, iv p2, iv (2 : Int32), iv (0 : Int32), rv a1, rv a4, rv a9, rv a16, rv a25, iv (0 : Int32), .val .null, .val .null, .val .null, .unset] []))) (fun t k => XS.astore X263.here hx rfl (hb hby at_139) rfl rfl (l' := #[iv p0, iv p1, iv p2, iv (2 : Int32), iv (0 : Int32), rv a1, rv a4, rv a9, rv a16, rv a25, iv (0 : Int32), .val .null, .val .null, .val .null, .unset]) rfl k) ?_
      refine own_go (B := (T263.setTop (mkF m 143 #[iv p0, iv p1, iv p2, iv (2 : Int32), iv (0 : Int32), rv a1, rv a4, rv a9, rv a16, rv a25, iv (0 : Int32), .val .null, .val .null, .val .null, .unset] [(.ref a25)]))) (fun t k => XS.aload X263.here hx rfl (hb hby at_141) rfl rfl k) ?_
      obtain ⟨cq265, kq265, qa265, qb265, qc265⟩ := isOf hZ e263 Ex38
      obtain ⟨_, _, ⟨T265, L265, k265, n265⟩, -, X265, ⟨Lc265, hQ265, l265, y265, z265⟩, st265⟩ := X263.virtualBack hx (y := own_y7) (z := own_y7) hown (mvT hZ w_31) (mvT hZ w_32) (notFace_of_selects (args := #[]) (mvT hZ w_34)) (mvT hZ w_34) (mvT hZ w_33) (by decide) (backOf (W := 0) (own_tnone l Z a0 hw [] a25 T38.heap n0 gc38) hZ w_35 w_9 (by decide) (by decide)) qa265 qc265 (g := (mkF m 143 #[iv p0, iv p1, iv p2, iv (2 : Int32), iv (0 : Int32), rv a1, rv a4, rv a9, rv a16, rv a25, iv (0 : Int32), .val .null, .val .null, .val .null, .unset] [(.ref a25)])) rfl (by rw [hml]; rfl) (Steps.refl _) (argsL := []) (rest := []) (lenOf own_pd6 rfl) rfl (by show 2 * 0 + _ ≤ _; exact own_b rfl) (hb hby at_143) (fun _ _ => ⟨rfl, e263, (own_b rfl : 6 + 0 ≤ _), (own_b rfl : 9 + 0 ≤ _)⟩)
      dsimp only [Pt.U, Pt.locs, Pt.cells, Pt.slots] at X265 l265 y265 z265 st265 hQ265
      obtain ⟨rfl, Nq265, eq265⟩ := hQ265
      obtain ⟨L265, X265, N265⟩ := own_absC (K := 6) (K' := 9) X265 l265 y265 z265 N263 Nq265
      have e265 : T265.heap = T38.heap := eq265
      refine own_tr (B := (T265.setTop (mkF m 146 #[iv p0, iv p1, iv p2, iv (2 : Int32), iv (0 : Int32), rv a1, rv a4, rv a9, rv a16, rv a25, iv (0 : Int32), .val .null, .val .null, .val .null, .unset] [.null]))) st265 ?_
      refine own_go (B := (T265.setTop (mkF m 149 #[iv p0, iv p1, iv p2, iv (2 : Int32), iv (0 : Int32), rv a1, rv a4, rv a9, rv a16, rv a25, iv (0 : Int32), .val .null, .val .null, .val .null, .unset] [.null]))) (X265.checkcastNull hx (g := (mkF m 146 #[iv p0, iv p1, iv p2, iv (2 : Int32), iv (0 : Int32), rv a1, rv a4, rv a9, rv a16, rv a25, iv (0 : Int32), .val .null, .val .null, .val .null, .unset] [.null])) rfl rfl (hb hby at_146)) ?_
      refine own_go (B := (T265.setTop (mkF m 151 #[iv p0, iv p1, iv p2, iv (2 : Int32), iv (0 : Int32), rv a1, rv a4, rv a9, rv a16, rv a25, iv (0 : Int32), .val .null, .val .null, .val .null, .val .null] []))) (fun t k => XS.astore X265.here hx rfl (hb hby at_149) rfl rfl (l' := #[iv p0, iv p1, iv p2, iv (2 : Int32), iv (0 : Int32), rv a1, rv a4, rv a9, rv a16, rv a25, iv (0 : Int32), .val .null, .val .null, .val .null, .val .null]) rfl k) ?_
      refine own_go (B := (T265.setTop (mkF m 153 #[iv p0, iv p1, iv p2, iv (2 : Int32), iv (0 : Int32), rv a1, rv a4, rv a9, rv a16, rv a25, iv (0 : Int32), .val .null, .val .null, .val .null, .val .null] [.null]))) (fun t k => XS.aload X265.here hx rfl (hb hby at_151) rfl rfl k) ?_
      refine own_go (B := (T265.setTop (mkF m 155 #[iv p0, iv p1, iv p2, iv (2 : Int32), iv (0 : Int32), rv a1, rv a4, rv a9, rv a16, rv a25, iv (0 : Int32), .val .null, .val .null, .val .null, .val .null] [(.int (0 : Int32)), .null]))) (fun t k => XS.iload X265.here hx rfl (hb hby at_153) rfl k) ?_
      refine own_go (B := (T265.setTop (mkF m 156 #[iv p0, iv p1, iv p2, iv (2 : Int32), iv (0 : Int32), rv a1, rv a4, rv a9, rv a16, rv a25, iv (0 : Int32), .val .null, .val .null, .val .null, .val .null] [(.int (0 : Int32)), (.int (0 : Int32)), .null]))) (fun t k => own_iconst (v := (0 : Int32)) X265.here hx rfl (hb hby at_155) (by decide) k) ?_
      refine own_go (B := (T265.setTop (mkF m 157 #[iv p0, iv p1, iv p2, iv (2 : Int32), iv (0 : Int32), rv a1, rv a4, rv a9, rv a16, rv a25, iv (0 : Int32), .val .null, .val .null, .val .null, .val .null] [(.int p2), (.int (0 : Int32)), (.int (0 : Int32)), .null]))) (fun t k => XS.iloadN X265.here hx rfl (hb hby at_156) rfl k) ?_
      obtain ⟨_, _, ⟨T267, L267, k267, n267⟩, -, X267, ⟨Lc267, hQ267, l267, y267, z267⟩, st267⟩ := Jvm.LawKit.callS X265 hx (y := own_y8) hown (mvT hZ w_36) (mvT hZ w_37) (mvT hZ w_38) (mvT hZ w_39) (by decide) (backOf (W := 0) (own_same0 l Z a0 hw [] (0 : Int32) (0 : Int32) p2 T38.heap n0 (by decide)) hZ w_39 w_38 (by decide) (by decide)) (g := (mkF m 157 #[iv p0, iv p1, iv p2, iv (2 : Int32), iv (0 : Int32), rv a1, rv a4, rv a9, rv a16, rv a25, iv (0 : Int32), .val .null, .val .null, .val .null, .val .null] [(.int p2), (.int (0 : Int32)), (.int (0 : Int32)), .null])) rfl (by rw [hml]; rfl) (argsL := [.null, (.int (0 : Int32)), (.int (0 : Int32)), (.int p2)]) (rest := []) (lenOf own_pd7 rfl) rfl (by show 2 * 0 + _ ≤ _; exact own_b rfl) (hb hby at_157) (fun _ _ => ⟨rfl, e265, (own_b rfl : 6 + 0 ≤ _), (own_b rfl : 9 + 0 ≤ _)⟩)
      dsimp only [Pt.U, Pt.locs, Pt.cells, Pt.slots] at X267 l267 y267 z267 st267 hQ267
      obtain ⟨rfl, Nq267, eq267⟩ := hQ267
      obtain ⟨L267, X267, N267⟩ := own_absC (K := 6) (K' := 9) X267 l267 y267 z267 N265 Nq267
      have e267 : T267.heap = T38.heap := eq267
      refine own_go (B := (T267.setTop (mkF m 160 #[iv p0, iv p1, iv p2, iv (2 : Int32), iv (0 : Int32), rv a1, rv a4, rv a9, rv a16, rv a25, iv (0 : Int32), .val .null, .val .null, .val .null, .val .null] [(.int (1 : Int32))]))) st267 ?_
      have hc160 : ¬ (1 : Int32) = (0 : Int32) := (by decide)
      refine own_ifN X267 hx (hb hby at_160) (pn := 163) rfl hc160 ?_
      refine own_go (B := (T267.setTop (mkF m 165 #[iv p0, iv p1, iv p2, iv (2 : Int32), iv (0 : Int32), rv a1, rv a4, rv a9, rv a16, rv a25, iv (0 : Int32), .val .null, .val .null, .val .null, .val .null] [.null]))) (fun t k => XS.aload X267.here hx rfl (hb hby at_163) rfl rfl k) ?_
      refine own_go (B := (T267.setTop (mkF m 167 #[iv p0, iv p1, iv p2, iv (2 : Int32), iv (0 : Int32), rv a1, rv a4, rv a9, rv a16, rv a25, iv (0 : Int32), .val .null, .val .null, .val .null, .val .null] [(.int (0 : Int32)), .null]))) (fun t k => XS.iload X267.here hx rfl (hb hby at_165) rfl k) ?_
      refine own_go (B := (T267.setTop (mkF m 168 #[iv p0, iv p1, iv p2, iv (2 : Int32), iv (0 : Int32), rv a1, rv a4, rv a9, rv a16, rv a25, iv (0 : Int32), .val .null, .val .null, .val .null, .val .null] [(.int (1 : Int32)), (.int (0 : Int32)), .null]))) (fun t k => own_iconst (v := (1 : Int32)) X267.here hx rfl (hb hby at_167) (by decide) k) ?_
      refine own_go (B := (T267.setTop (mkF m 169 #[iv p0, iv p1, iv p2, iv (2 : Int32), iv (0 : Int32), rv a1, rv a4, rv a9, rv a16, rv a25, iv (0 : Int32), .val .null, .val .null, .val .null, .val .null] [(.int p2), (.int (1 : Int32)), (.int (0 : Int32)), .null]))) (fun t k => XS.iloadN X267.here hx rfl (hb hby at_168) rfl k) ?_
      obtain ⟨_, _, ⟨T268, L268, k268, n268⟩, -, X268, ⟨Lc268, hQ268, l268, y268, z268⟩, st268⟩ := Jvm.LawKit.callS X267 hx (y := own_y8) hown (mvT hZ w_36) (mvT hZ w_37) (mvT hZ w_38) (mvT hZ w_39) (by decide) (backOf (W := 0) (own_same0 l Z a0 hw [] (0 : Int32) (1 : Int32) p2 T38.heap n0 (by decide)) hZ w_39 w_38 (by decide) (by decide)) (g := (mkF m 169 #[iv p0, iv p1, iv p2, iv (2 : Int32), iv (0 : Int32), rv a1, rv a4, rv a9, rv a16, rv a25, iv (0 : Int32), .val .null, .val .null, .val .null, .val .null] [(.int p2), (.int (1 : Int32)), (.int (0 : Int32)), .null])) rfl (by rw [hml]; rfl) (argsL := [.null, (.int (0 : Int32)), (.int (1 : Int32)), (.int p2)]) (rest := []) (lenOf own_pd7 rfl) rfl (by show 2 * 0 + _ ≤ _; exact own_b rfl) (hb hby at_169) (fun _ _ => ⟨rfl, e267, (own_b rfl : 6 + 0 ≤ _), (own_b rfl : 9 + 0 ≤ _)⟩)
      dsimp only [Pt.U, Pt.locs, Pt.cells, Pt.slots] at X268 l268 y268 z268 st268 hQ268
      obtain ⟨rfl, Nq268, eq268⟩ := hQ268
      obtain ⟨L268, X268, N268⟩ := own_absC (K := 6) (K' := 9) X268 l268 y268 z268 N267 Nq268
      have e268 : T268.heap = T38.heap := eq268
      refine own_go (B := (T268.setTop (mkF m 172 #[iv p0, iv p1, iv p2, iv (2 : Int32), iv (0 : Int32), rv a1, rv a4, rv a9, rv a16, rv a25, iv (0 : Int32), .val .null, .val .null, .val .null, .val .null] [(.int (1 : Int32))]))) st268 ?_
      have hc172 : ¬ (1 : Int32) = (0 : Int32) := (by decide)
      refine own_ifN X268 hx (hb hby at_172) (pn := 175) rfl hc172 ?_
      refine own_go (B := (T268.setTop (mkF m 177 #[iv p0, iv p1, iv p2, iv (2 : Int32), iv (0 : Int32), rv a1, rv a4, rv a9, rv a16, rv a25, iv (0 : Int32), .val .null, .val .null, .val .null, .val .null] [.null]))) (fun t k => XS.aload X268.here hx rfl (hb hby at_175) rfl rfl k) ?_
      refine own_go (B := (T268.setTop (mkF m 179 #[iv p0, iv p1, iv p2, iv (2 : Int32), iv (0 : Int32), rv a1, rv a4, rv a9, rv a16, rv a25, iv (0 : Int32), .val .null, .val .null, .val .null, .val .null] [(.int (0 : Int32)), .null]))) (fun t k => XS.iload X268.here hx rfl (hb hby at_177) rfl k) ?_
      refine own_go (B := (T268.setTop (mkF m 180 #[iv p0, iv p1, iv p2, iv (2 : Int32), iv (0 : Int32), rv a1, rv a4, rv a9, rv a16, rv a25, iv (0 : Int32), .val .null, .val .null, .val .null, .val .null] [(.int (2 : Int32)), (.int (0 : Int32)), .null]))) (fun t k => own_iconst (v := (2 : Int32)) X268.here hx rfl (hb hby at_179) (by decide) k) ?_
      refine own_go (B := (T268.setTop (mkF m 181 #[iv p0, iv p1, iv p2, iv (2 : Int32), iv (0 : Int32), rv a1, rv a4, rv a9, rv a16, rv a25, iv (0 : Int32), .val .null, .val .null, .val .null, .val .null] [(.int p2), (.int (2 : Int32)), (.int (0 : Int32)), .null]))) (fun t k => XS.iloadN X268.here hx rfl (hb hby at_180) rfl k) ?_
      obtain ⟨_, _, ⟨T269, L269, k269, n269⟩, -, X269, ⟨Lc269, hQ269, l269, y269, z269⟩, st269⟩ := Jvm.LawKit.callS X268 hx (y := own_y8) hown (mvT hZ w_36) (mvT hZ w_37) (mvT hZ w_38) (mvT hZ w_39) (by decide) (backOf (W := 0) (own_same0 l Z a0 hw [] (0 : Int32) (2 : Int32) p2 T38.heap n0 (by decide)) hZ w_39 w_38 (by decide) (by decide)) (g := (mkF m 181 #[iv p0, iv p1, iv p2, iv (2 : Int32), iv (0 : Int32), rv a1, rv a4, rv a9, rv a16, rv a25, iv (0 : Int32), .val .null, .val .null, .val .null, .val .null] [(.int p2), (.int (2 : Int32)), (.int (0 : Int32)), .null])) rfl (by rw [hml]; rfl) (argsL := [.null, (.int (0 : Int32)), (.int (2 : Int32)), (.int p2)]) (rest := []) (lenOf own_pd7 rfl) rfl (by show 2 * 0 + _ ≤ _; exact own_b rfl) (hb hby at_181) (fun _ _ => ⟨rfl, e268, (own_b rfl : 6 + 0 ≤ _), (own_b rfl : 9 + 0 ≤ _)⟩)
      dsimp only [Pt.U, Pt.locs, Pt.cells, Pt.slots] at X269 l269 y269 z269 st269 hQ269
      obtain ⟨rfl, Nq269, eq269⟩ := hQ269
      obtain ⟨L269, X269, N269⟩ := own_absC (K := 6) (K' := 9) X269 l269 y269 z269 N268 Nq269
      have e269 : T269.heap = T38.heap := eq269
      refine own_go (B := (T269.setTop (mkF m 184 #[iv p0, iv p1, iv p2, iv (2 : Int32), iv (0 : Int32), rv a1, rv a4, rv a9, rv a16, rv a25, iv (0 : Int32), .val .null, .val .null, .val .null, .val .null] [(.int (1 : Int32))]))) st269 ?_
      have hc184 : ¬ (1 : Int32) = (0 : Int32) := (by decide)
      refine own_ifN X269 hx (hb hby at_184) (pn := 187) rfl hc184 ?_
      refine own_go (B := (T269.setTop (mkF m 189 #[iv p0, iv p1, iv p2, iv (2 : Int32), iv (0 : Int32), rv a1, rv a4, rv a9, rv a16, rv a25, iv (0 : Int32), .val .null, .val .null, .val .null, .val .null] [.null]))) (fun t k => XS.aload X269.here hx rfl (hb hby at_187) rfl rfl k) ?_
      refine own_go (B := (T269.setTop (mkF m 191 #[iv p0, iv p1, iv p2, iv (2 : Int32), iv (0 : Int32), rv a1, rv a4, rv a9, rv a16, rv a25, iv (0 : Int32), .val .null, .val .null, .val .null, .val .null] [(.int (0 : Int32)), .null]))) (fun t k => XS.iload X269.here hx rfl (hb hby at_189) rfl k) ?_
      refine own_go (B := (T269.setTop (mkF m 192 #[iv p0, iv p1, iv p2, iv (2 : Int32), iv (0 : Int32), rv a1, rv a4, rv a9, rv a16, rv a25, iv (0 : Int32), .val .null, .val .null, .val .null, .val .null] [(.int (3 : Int32)), (.int (0 : Int32)), .null]))) (fun t k => own_iconst (v := (3 : Int32)) X269.here hx rfl (hb hby at_191) (by decide) k) ?_
      refine own_go (B := (T269.setTop (mkF m 193 #[iv p0, iv p1, iv p2, iv (2 : Int32), iv (0 : Int32), rv a1, rv a4, rv a9, rv a16, rv a25, iv (0 : Int32), .val .null, .val .null, .val .null, .val .null] [(.int p2), (.int (3 : Int32)), (.int (0 : Int32)), .null]))) (fun t k => XS.iloadN X269.here hx rfl (hb hby at_192) rfl k) ?_
      obtain ⟨_, _, ⟨T270, L270, k270, n270⟩, -, X270, ⟨Lc270, hQ270, l270, y270, z270⟩, st270⟩ := Jvm.LawKit.callS X269 hx (y := own_y8) hown (mvT hZ w_36) (mvT hZ w_37) (mvT hZ w_38) (mvT hZ w_39) (by decide) (backOf (W := 0) (own_same0 l Z a0 hw [] (0 : Int32) (3 : Int32) p2 T38.heap n0 (by decide)) hZ w_39 w_38 (by decide) (by decide)) (g := (mkF m 193 #[iv p0, iv p1, iv p2, iv (2 : Int32), iv (0 : Int32), rv a1, rv a4, rv a9, rv a16, rv a25, iv (0 : Int32), .val .null, .val .null, .val .null, .val .null] [(.int p2), (.int (3 : Int32)), (.int (0 : Int32)), .null])) rfl (by rw [hml]; rfl) (argsL := [.null, (.int (0 : Int32)), (.int (3 : Int32)), (.int p2)]) (rest := []) (lenOf own_pd7 rfl) rfl (by show 2 * 0 + _ ≤ _; exact own_b rfl) (hb hby at_193) (fun _ _ => ⟨rfl, e269, (own_b rfl : 6 + 0 ≤ _), (own_b rfl : 9 + 0 ≤ _)⟩)
      dsimp only [Pt.U, Pt.locs, Pt.cells, Pt.slots] at X270 l270 y270 z270 st270 hQ270
      obtain ⟨rfl, Nq270, eq270⟩ := hQ270
      obtain ⟨L270, X270, N270⟩ := own_absC (K := 6) (K' := 9) X270 l270 y270 z270 N269 Nq270
      have e270 : T270.heap = T38.heap := eq270
      refine own_go (B := (T270.setTop (mkF m 196 #[iv p0, iv p1, iv p2, iv (2 : Int32), iv (0 : Int32), rv a1, rv a4, rv a9, rv a16, rv a25, iv (0 : Int32), .val .null, .val .null, .val .null, .val .null] [(.int (1 : Int32))]))) st270 ?_
      have hc196 : ¬ (1 : Int32) = (0 : Int32) := (by decide)
      refine own_ifN X270 hx (hb hby at_196) (pn := 199) rfl hc196 ?_
      refine own_go (B := (T270.setTop (mkF m 200 #[iv p0, iv p1, iv p2, iv (2 : Int32), iv (0 : Int32), rv a1, rv a4, rv a9, rv a16, rv a25, iv (0 : Int32), .val .null, .val .null, .val .null, .val .null] [(.int (1 : Int32))]))) (fun t k => own_iconst (v := (1 : Int32)) X270.here hx rfl (hb hby at_199) (by decide) k) ?_
      refine own_go (B := (T270.setTop (mkF m 204 #[iv p0, iv p1, iv p2, iv (2 : Int32), iv (0 : Int32), rv a1, rv a4, rv a9, rv a16, rv a25, iv (0 : Int32), .val .null, .val .null, .val .null, .val .null] [(.int (1 : Int32))]))) (fun t k => XS.goto X270.here hx rfl (pc0 := 200) (pc' := 204) rfl (hb hby at_200) (by decide) (by decide) k) ?_
      exact own_retZ X270 hx hlk Bd.returns (hb hby at_204) (by decide) (own_b rfl) (own_b rfl) (Q := (own_law_Q Z p0 p1 p2 ca h0 n0)) ⟨rfl, N270⟩
    · refine own_go (B := (T38.setTop (mkF m 54 #[iv p0, iv p1, iv p2, iv (2 : Int32), iv (1 : Int32), rv a1, rv a4, rv a9, rv a16, rv a25, .unset, .unset, .unset, .unset, .unset] [(.int (1 : Int32))]))) (fun t k => XS.iload X38.here hx rfl (hb hby at_52) rfl k) ?_
      have hc54 : (0 : Int32) < (1 : Int32) := (by decide)
      refine own_ifN X38 hx (hb hby at_54) (pn := 57) rfl hc54 ?_
      refine own_go (B := (T38.setTop (mkF m 59 #[iv p0, iv p1, iv p2, iv (2 : Int32), iv (1 : Int32), rv a1, rv a4, rv a9, rv a16, rv a25, .unset, .unset, .unset, .unset, .unset] [(.ref a25)]))) (fun t k => XS.aload X38.here hx rfl (hb hby at_57) rfl rfl k) ?_
      refine own_go (B := (T38.setTop (mkF m 61 #[iv p0, iv p1, iv p2, iv (2 : Int32), iv (1 : Int32), rv a1, rv a4, rv a9, rv a16, rv a25, .unset, .unset, .unset, .unset, .unset] [(.ref a1), (.ref a25)]))) (fun t k => XS.aload X38.here hx rfl (hb hby at_59) rfl rfl k) ?_
      obtain ⟨cq271, kq271, qa271, qb271, qc271⟩ := isOf hZ rfl Ex38
      obtain ⟨_, _, ⟨T271, L271, k271, n271⟩, -, X271, ⟨Lc271, hQ271, l271, y271, z271⟩, st271⟩ := X38.virtualBack hx (y := own_y9) (z := own_y9) hown (mvT hZ w_20) (mvT hZ w_21) (notFace_of_selects (args := #[]) (mvT hZ w_23)) (mvT hZ w_23) (mvT hZ w_22) (by decide) (backOf (W := 0) (own_kone l Z a0 hw [] a25 a1 ar38 (0 : Int32) (2 : Int32) (1 : Int32) [.null, .null] [(.ref a1), .null] T38.heap n0 Ex38 gk38 gc38 Vb F39 gn25 gn_ar38 ne_ar38_a25 (own_lenL (n := 2) rfl (by decide)) (by decide) (by decide) (Nat.lt_of_lt_of_eq (by decide : _ < 2) rfl) (by decide) (Ins.of_exa (own_Bn_exa BB (List.mem_of_getElem? (i := 0) rfl)) w_40) rfl) hZ w_24 w_9 (by decide) (by decide)) qa271 qc271 (g := (mkF m 61 #[iv p0, iv p1, iv p2, iv (2 : Int32), iv (1 : Int32), rv a1, rv a4, rv a9, rv a16, rv a25, .unset, .unset, .unset, .unset, .unset] [(.ref a1), (.ref a25)])) rfl (by rw [hml]; rfl) (Steps.refl _) (argsL := [(.ref a1)]) (rest := []) (lenOf own_pd8 rfl) rfl (by show 2 * 0 + _ ≤ _; exact own_b rfl) (hb hby at_61) (fun _ _ => ⟨rfl, rfl, (own_b rfl : 6 + 0 ≤ _), (own_b rfl : 9 + 0 ≤ _)⟩)
      dsimp only [Pt.U, Pt.locs, Pt.cells, Pt.slots] at X271 l271 y271 z271 st271 hQ271
      obtain ⟨rfl, Nq271, K271, Ex271, gk271, gc271, gv271⟩ := hQ271
      obtain ⟨L271, X271, N271⟩ := own_absC (K := 6) (K' := 9) X271 l271 y271 z271 N38 Nq271
      have F272 : n0 ≤ T271.heap.size := Nat.le_trans F39 K271.1
      have F273 := Keep.trans F40 K271 (allS (Or.inr (Nat.le_trans F18.1 (Nat.le_of_eq ga25.symm))) (allS (Or.inr (Nat.le_trans K27.1 gz38)) all0))
      have F274 := Exa.keep Ex38 K271
      have F278 := own_Bn_keep BB K271 hbq
      refine own_tr (B := (T271.setTop (mkF m 64 #[iv p0, iv p1, iv p2, iv (2 : Int32), iv (1 : Int32), rv a1, rv a4, rv a9, rv a16, rv a25, .unset, .unset, .unset, .unset, .unset] []))) st271 ?_
      refine own_go (B := (T271.setTop (mkF m 66 #[iv p0, iv p1, iv p2, iv (2 : Int32), iv (1 : Int32), rv a1, rv a4, rv a9, rv a16, rv a25, .unset, .unset, .unset, .unset, .unset] [(.int (1 : Int32))]))) (fun t k => XS.iload X271.here hx rfl (hb hby at_64) rfl k) ?_
      refine own_go (B := (T271.setTop (mkF m 67 #[iv p0, iv p1, iv p2, iv (2 : Int32), iv (1 : Int32), rv a1, rv a4, rv a9, rv a16, rv a25, .unset, .unset, .unset, .unset, .unset] [(.int (1 : Int32)), (.int (1 : Int32))]))) (fun t k => own_iconst (v := (1 : Int32)) X271.here hx rfl (hb hby at_66) (by decide) k) ?_
      have hc67 : ¬ (1 : Int32) < (1 : Int32) := (by decide)
      refine own_icmpY X271 hx (hb hby at_67) (pc' := 77) (by decide) (by decide) hc67 ?_
      refine own_go (B := (T271.setTop (mkF m 79 #[iv p0, iv p1, iv p2, iv (2 : Int32), iv (1 : Int32), rv a1, rv a4, rv a9, rv a16, rv a25, .unset, .unset, .unset, .unset, .unset] [(.int (1 : Int32))]))) (fun t k => XS.iload X271.here hx rfl (hb hby at_77) rfl k) ?_
      refine own_go (B := (T271.setTop (mkF m 80 #[iv p0, iv p1, iv p2, iv (2 : Int32), iv (1 : Int32), rv a1, rv a4, rv a9, rv a16, rv a25, .unset, .unset, .unset, .unset, .unset] [(.int (2 : Int32)), (.int (1 : Int32))]))) (fun t k => own_iconst (v := (2 : Int32)) X271.here hx rfl (hb hby at_79) (by decide) k) ?_
      have hc80 : ¬ (2 : Int32) < (1 : Int32) := (by decide)
      refine own_icmpY X271 hx (hb hby at_80) (pc' := 90) (by decide) (by decide) hc80 ?_
      refine own_go (B := (T271.setTop (mkF m 92 #[iv p0, iv p1, iv p2, iv (2 : Int32), iv (1 : Int32), rv a1, rv a4, rv a9, rv a16, rv a25, .unset, .unset, .unset, .unset, .unset] [(.int (1 : Int32))]))) (fun t k => XS.iload X271.here hx rfl (hb hby at_90) rfl k) ?_
      refine own_go (B := (T271.setTop (mkF m 93 #[iv p0, iv p1, iv p2, iv (2 : Int32), iv (1 : Int32), rv a1, rv a4, rv a9, rv a16, rv a25, .unset, .unset, .unset, .unset, .unset] [(.int (3 : Int32)), (.int (1 : Int32))]))) (fun t k => own_iconst (v := (3 : Int32)) X271.here hx rfl (hb hby at_92) (by decide) k) ?_
      have hc93 : ¬ (3 : Int32) < (1 : Int32) := (by decide)
      refine own_icmpY X271 hx (hb hby at_93) (pc' := 103) (by decide) (by decide) hc93 ?_
      refine own_go (B := (T271.setTop (mkF m 105 #[iv p0, iv p1, iv p2, iv (2 : Int32), iv (1 : Int32), rv a1, rv a4, rv a9, rv a16, rv a25, .unset, .unset, .unset, .unset, .unset] [(.int (1 : Int32))]))) (fun t k => XS.iload X271.here hx rfl (hb hby at_103) rfl k) ?_
      refine own_go (B := (T271.setTop (mkF m 106 #[iv p0, iv p1, iv p2, iv (2 : Int32), iv (1 : Int32), rv a1, rv a4, rv a9, rv a16, rv a25, .unset, .unset, .unset, .unset, .unset] [(.int (2 : Int32)), (.int (1 : Int32))]))) (fun t k => XS.iloadN X271.here hx rfl (hb hby at_105) rfl k) ?_
      obtain ⟨_, _, ⟨T279, L279, k279, n279⟩, -, X279, ⟨Lc279, hQ279, l279, y279, z279⟩, st279⟩ := Jvm.LawKit.callS X271 hx (y := own_y6) hown (mvT hZ w_27) (mvT hZ w_28) (mvT hZ w_29) (mvT hZ w_30) (by decide) (backOf (W := 0) (own_mmin l Z a0 hw [] (1 : Int32) (2 : Int32) T271.heap n0) hZ w_30 w_29 (by decide) (by decide)) (g := (mkF m 106 #[iv p0, iv p1, iv p2, iv (2 : Int32), iv (1 : Int32), rv a1, rv a4, rv a9, rv a16, rv a25, .unset, .unset, .unset, .unset, .unset] [(.int (2 : Int32)), (.int (1 : Int32))])) rfl (by rw [hml]; rfl) (argsL := [(.int (1 : Int32)), (.int (2 : Int32))]) (rest := []) (lenOf own_pd5 rfl) rfl (by show 2 * 0 + _ ≤ _; exact own_b rfl) (hb hby at_106) (fun _ _ => ⟨rfl, rfl, (own_b rfl : 6 + 0 ≤ _), (own_b rfl : 9 + 0 ≤ _)⟩)
      dsimp only [Pt.U, Pt.locs, Pt.cells, Pt.slots] at X279 l279 y279 z279 st279 hQ279
      obtain ⟨rfl, Nq279, eq279⟩ := hQ279
      obtain ⟨L279, X279, N279⟩ := own_absC (K := 6) (K' := 9) X279 l279 y279 z279 N271 Nq279
      have e279 : T279.heap = T271.heap := eq279
      refine own_go (B := (T279.setTop (mkF m 109 #[iv p0, iv p1, iv p2, iv (2 : Int32), iv (1 : Int32), rv a1, rv a4, rv a9, rv a16, rv a25, .unset, .unset, .unset, .unset, .unset] [(.int (own_min (1 : Int32) (2 : Int32)))]))) st279 ?_
      rw [show own_min (1 : Int32) (2 : Int32) = (1 : Int32) from by decide]
      refine own_go (B := (T279.setTop (mkF m 111 #[iv p0, iv p1, iv p2, iv (2 : Int32), iv (1 : Int32), rv a1, rv a4, rv a9, rv a16, rv a25, iv (1 : Int32), .unset, .unset, .unset, .unset] []))) (fun t k => XS.istore X279.here hx rfl (hb hby at_109) rfl (l' := #[iv p0, iv p1, iv p2, iv (2 : Int32), iv (1 : Int32), rv a1, rv a4, rv a9, rv a16, rv a25, iv (1 : Int32), .unset, .unset, .unset, .unset]) rfl k) ?_
      refine own_go (B := (T279.setTop (mkF m 113 #[iv p0, iv p1, iv p2, iv (2 : Int32), iv (1 : Int32), rv a1, rv a4, rv a9, rv a16, rv a25, iv (1 : Int32), .unset, .unset, .unset, .unset] [(.ref a25)]))) (fun t k => XS.aload X279.here hx rfl (hb hby at_111) rfl rfl k) ?_
      obtain ⟨cq280, kq280, qa280, qb280, qc280⟩ := isOf hZ e279 Ex271
      obtain ⟨_, _, ⟨T280, L280, k280, n280⟩, -, X280, ⟨Lc280, hQ280, l280, y280, z280⟩, st280⟩ := X279.virtualBack hx (y := own_y7) (z := own_y7) hown (mvT hZ w_31) (mvT hZ w_32) (notFace_of_selects (args := #[]) (mvT hZ w_34)) (mvT hZ w_34) (mvT hZ w_33) (by decide) (backOf (W := 0) (own_tone l Z a0 hw [] a25 ar38 a1 (1 : Int32) (0 : Int32) [(.ref a1), .null] [.null, .null] T271.heap n0 Ex271 gk271 gc271 gv271 F272 gn25 gn_ar38 ne_ar38_a25 (by decide) (by decide) (by decide) rfl rfl) hZ w_35 w_9 (by decide) (by decide)) qa280 qc280 (g := (mkF m 113 #[iv p0, iv p1, iv p2, iv (2 : Int32), iv (1 : Int32), rv a1, rv a4, rv a9, rv a16, rv a25, iv (1 : Int32), .unset, .unset, .unset, .unset] [(.ref a25)])) rfl (by rw [hml]; rfl) (Steps.refl _) (argsL := []) (rest := []) (lenOf own_pd6 rfl) rfl (by show 2 * 0 + _ ≤ _; exact own_b rfl) (hb hby at_113) (fun _ _ => ⟨rfl, e279, (own_b rfl : 6 + 0 ≤ _), (own_b rfl : 9 + 0 ≤ _)⟩)
      dsimp only [Pt.U, Pt.locs, Pt.cells, Pt.slots] at X280 l280 y280 z280 st280 hQ280
      obtain ⟨rfl, Nq280, K280, Ex280, gk280, gc280, gv280⟩ := hQ280
      obtain ⟨L280, X280, N280⟩ := own_absC (K := 6) (K' := 9) X280 l280 y280 z280 N279 Nq280
      have F281 : n0 ≤ T280.heap.size := Nat.le_trans F272 K280.1
      have F282 := Keep.trans F273 K280 (allS (Or.inr (Nat.le_trans F18.1 (Nat.le_of_eq ga25.symm))) (allS (Or.inr (Nat.le_trans K27.1 gz38)) all0))
      have F283 := Exa.keep Ex271 K280
      have F284 := own_Bn_keep F278 K280 hbq
      refine own_tr (B := (T280.setTop (mkF m 116 #[iv p0, iv p1, iv p2, iv (2 : Int32), iv (1 : Int32), rv a1, rv a4, rv a9, rv a16, rv a25, iv (1 : Int32), .unset, .unset, .unset, .unset] [(.ref a1)]))) st280 ?_
      obtain ⟨T288, X288, e288, st288⟩ := castY X280 hx hZ hown w_41 rfl (Ins.of_exa (own_Bn_exa F284 (List.mem_of_getElem? (i := 0) rfl)) w_42) (g := (mkF m 116 #[iv p0, iv p1, iv p2, iv (2 : Int32), iv (1 : Int32), rv a1, rv a4, rv a9, rv a16, rv a25, iv (1 : Int32), .unset, .unset, .unset, .unset] [(.ref a1)])) rfl rfl (hb hby at_116)
      refine own_go (B := (T288.setTop (mkF m 119 #[iv p0, iv p1, iv p2, iv (2 : Int32), iv (1 : Int32), rv a1, rv a4, rv a9, rv a16, rv a25, iv (1 : Int32), .unset, .unset, .unset, .unset] [(.ref a1)]))) st288 ?_
      refine own_go (B := (T288.setTop (mkF m 121 #[iv p0, iv p1, iv p2, iv (2 : Int32), iv (1 : Int32), rv a1, rv a4, rv a9, rv a16, rv a25, iv (1 : Int32), rv a1, .unset, .unset, .unset] []))) (fun t k => XS.astore X288.here hx rfl (hb hby at_119) rfl rfl (l' := #[iv p0, iv p1, iv p2, iv (2 : Int32), iv (1 : Int32), rv a1, rv a4, rv a9, rv a16, rv a25, iv (1 : Int32), rv a1, .unset, .unset, .unset]) rfl k) ?_
      refine own_go (B := (T288.setTop (mkF m 123 #[iv p0, iv p1, iv p2, iv (2 : Int32), iv (1 : Int32), rv a1, rv a4, rv a9, rv a16, rv a25, iv (1 : Int32), rv a1, .unset, .unset, .unset] [(.ref a25)]))) (fun t k => XS.aload X288.here hx rfl (hb hby at_121) rfl rfl k) ?_
      obtain ⟨cq289, kq289, qa289, qb289, qc289⟩ := isOf hZ e288 Ex280
      obtain ⟨_, _, ⟨T289, L289, k289, n289⟩, -, X289, ⟨Lc289, hQ289, l289, y289, z289⟩, st289⟩ := X288.virtualBack hx (y := own_y7) (z := own_y7) hown (mvT hZ w_31) (mvT hZ w_32) (notFace_of_selects (args := #[]) (mvT hZ w_34)) (mvT hZ w_34) (mvT hZ w_33) (by decide) (backOf (W := 0) (own_tnone l Z a0 hw [] a25 T280.heap n0 gc280) hZ w_35 w_9 (by decide) (by decide)) qa289 qc289 (g := (mkF m 123 #[iv p0, iv p1, iv p2, iv (2 : Int32), iv (1 : Int32), rv a1, rv a4, rv a9, rv a16, rv a25, iv (1 : Int32), rv a1, .unset, .unset, .unset] [(.ref a25)])) rfl (by rw [hml]; rfl) (Steps.refl _) (argsL := []) (rest := []) (lenOf own_pd6 rfl) rfl (by show 2 * 0 + _ ≤ _; exact own_b rfl) (hb hby at_123) (fun _ _ => ⟨rfl, e288, (own_b rfl : 6 + 0 ≤ _), (own_b rfl : 9 + 0 ≤ _)⟩)
      dsimp only [Pt.U, Pt.locs, Pt.cells, Pt.slots] at X289 l289 y289 z289 st289 hQ289
      obtain ⟨rfl, Nq289, eq289⟩ := hQ289
      obtain ⟨L289, X289, N289⟩ := own_absC (K := 6) (K' := 9) X289 l289 y289 z289 N280 Nq289
      have e289 : T289.heap = T280.heap := eq289
      refine own_tr (B := (T289.setTop (mkF m 126 #[iv p0, iv p1, iv p2, iv (2 : Int32), iv (1 : Int32), rv a1, rv a4, rv a9, rv a16, rv a25, iv (1 : Int32), rv a1, .unset, .unset, .unset] [.null]))) st289 ?_
      refine own_go (B := (T289.setTop (mkF m 129 #[iv p0, iv p1, iv p2, iv (2 : Int32), iv (1 : Int32), rv a1, rv a4, rv a9, rv a16, rv a25, iv (1 : Int32), rv a1, .unset, .unset, .unset] [.null]))) (X289.checkcastNull hx (g := (mkF m 126 #[iv p0, iv p1, iv p2, iv (2 : Int32), iv (1 : Int32), rv a1, rv a4, rv a9, rv a16, rv a25, iv (1 : Int32), rv a1, .unset, .unset, .unset] [.null])) rfl rfl (hb hby at_126)) ?_
      refine own_go (B := (T289.setTop (mkF m 131 #[iv p0, iv p1, iv p2, iv (2 : Int32), iv (1 : Int32), rv a1, rv a4, rv a9, rv a16, rv a25, iv (1 : Int32), rv a1, .val .null, .unset, .unset] []))) (fun t k => XS.astore X289.here hx rfl (hb hby at_129) rfl rfl (l' := #[iv p0, iv p1, iv p2, iv (2 : Int32), iv (1 : Int32), rv a1, rv a4, rv a9, rv a16, rv a25, iv (1 : Int32), rv a1, .val .null, .unset, .unset]) rfl k) ?_
      refine own_go (B := (T289.setTop (mkF m 133 #[iv p0, iv p1, iv p2, iv (2 : Int32), iv (1 : Int32), rv a1, rv a4, rv a9, rv a16, rv a25, iv (1 : Int32), rv a1, .val .null, .unset, .unset] [(.ref a25)]))) (fun t k => XS.aload X289.here hx rfl (hb hby at_131) rfl rfl k) ?_
      obtain ⟨cq291, kq291, qa291, qb291, qc291⟩ := isOf hZ e289 Ex280
      obtain ⟨_, _, ⟨T291, L291, k291, n291⟩, -, X291, ⟨Lc291, hQ291, l291, y291, z291⟩, st291⟩ := X289.virtualBack hx (y := own_y7) (z := own_y7) hown (mvT hZ w_31) (mvT hZ w_32) (notFace_of_selects (args := #[]) (mvT hZ w_34)) (mvT hZ w_34) (mvT hZ w_33) (by decide) (backOf (W := 0) (own_tnone l Z a0 hw [] a25 T280.heap n0 gc280) hZ w_35 w_9 (by decide) (by decide)) qa291 qc291 (g := (mkF m 133 #[iv p0, iv p1, iv p2, iv (2 : Int32), iv (1 : Int32), rv a1, rv a4, rv a9, rv a16, rv a25, iv (1 : Int32), rv a1, .val .null, .unset, .unset] [(.ref a25)])) rfl (by rw [hml]; rfl) (Steps.refl _) (argsL := []) (rest := []) (lenOf own_pd6 rfl) rfl (by show 2 * 0 + _ ≤ _; exact own_b rfl) (hb hby at_133) (fun _ _ => ⟨rfl, e289, (own_b rfl : 6 + 0 ≤ _), (own_b rfl : 9 + 0 ≤ _)⟩)
      dsimp only [Pt.U, Pt.locs, Pt.cells, Pt.slots] at X291 l291 y291 z291 st291 hQ291
      obtain ⟨rfl, Nq291, eq291⟩ := hQ291
      obtain ⟨L291, X291, N291⟩ := own_absC (K := 6) (K' := 9) X291 l291 y291 z291 N289 Nq291
      have e291 : T291.heap = T280.heap := eq291
      refine own_tr (B := (T291.setTop (mkF m 136 #[iv p0, iv p1, iv p2, iv (2 : Int32), iv (1 : Int32), rv a1, rv a4, rv a9, rv a16, rv a25, iv (1 : Int32), rv a1, .val .null, .unset, .unset] [.null]))) st291 ?_
      refine own_go (B := (T291.setTop (mkF m 139 #[iv p0, iv p1, iv p2, iv (2 : Int32), iv (1 : Int32), rv a1, rv a4, rv a9, rv a16, rv a25, iv (1 : Int32), rv a1, .val .null, .unset, .unset] [.null]))) (X291.checkcastNull hx (g := (mkF m 136 #[iv p0, iv p1, iv p2, iv (2 : Int32), iv (1 : Int32), rv a1, rv a4, rv a9, rv a16, rv a25, iv (1 : Int32), rv a1, .val .null, .unset, .unset] [.null])) rfl rfl (hb hby at_136)) ?_
      refine own_go (B := (T291.setTop (mkF m 141 #[iv p0, iv p1, iv p2, iv (2 : Int32), iv (1 : Int32), rv a1, rv a4, rv a9, rv a16, rv a25, iv (1 : Int32), rv a1, .val .null, .val .null, .unset] []))) (fun t k => XS.astore X291.here hx rfl (hb hby at_139) rfl rfl (l' := #[iv p0, iv p1, iv p2, iv (2 : Int32), iv (1 : Int32), rv a1, rv a4, rv a9, rv a16, rv a25, iv (1 : Int32), rv a1, .val .null, .val .null, .unset]) rfl k) ?_
      refine own_go (B := (T291.setTop (mkF m 143 #[iv p0, iv p1, iv p2, iv (2 : Int32), iv (1 : Int32), rv a1, rv a4, rv a9, rv a16, rv a25, iv (1 : Int32), rv a1, .val .null, .val .null, .unset] [(.ref a25)]))) (fun t k => XS.aload X291.here hx rfl (hb hby at_141) rfl rfl k) ?_
      obtain ⟨cq293, kq293, qa293, qb293, qc293⟩ := isOf hZ e291 Ex280
      obtain ⟨_, _, ⟨T293, L293, k293, n293⟩, -, X293, ⟨Lc293, hQ293, l293, y293, z293⟩, st293⟩ := X291.virtualBack hx (y := own_y7) (z := own_y7) hown (mvT hZ w_31) (mvT hZ w_32) (notFace_of_selects (args := #[]) (mvT hZ w_34)) (mvT hZ w_34) (mvT hZ w_33) (by decide) (backOf (W := 0) (own_tnone l Z a0 hw [] a25 T280.heap n0 gc280) hZ w_35 w_9 (by decide) (by decide)) qa293 qc293 (g := (mkF m 143 #[iv p0, iv p1, iv p2, iv (2 : Int32), iv (1 : Int32), rv a1, rv a4, rv a9, rv a16, rv a25, iv (1 : Int32), rv a1, .val .null, .val .null, .unset] [(.ref a25)])) rfl (by rw [hml]; rfl) (Steps.refl _) (argsL := []) (rest := []) (lenOf own_pd6 rfl) rfl (by show 2 * 0 + _ ≤ _; exact own_b rfl) (hb hby at_143) (fun _ _ => ⟨rfl, e291, (own_b rfl : 6 + 0 ≤ _), (own_b rfl : 9 + 0 ≤ _)⟩)
      dsimp only [Pt.U, Pt.locs, Pt.cells, Pt.slots] at X293 l293 y293 z293 st293 hQ293
      obtain ⟨rfl, Nq293, eq293⟩ := hQ293
      obtain ⟨L293, X293, N293⟩ := own_absC (K := 6) (K' := 9) X293 l293 y293 z293 N291 Nq293
      have e293 : T293.heap = T280.heap := eq293
      refine own_tr (B := (T293.setTop (mkF m 146 #[iv p0, iv p1, iv p2, iv (2 : Int32), iv (1 : Int32), rv a1, rv a4, rv a9, rv a16, rv a25, iv (1 : Int32), rv a1, .val .null, .val .null, .unset] [.null]))) st293 ?_
      refine own_go (B := (T293.setTop (mkF m 149 #[iv p0, iv p1, iv p2, iv (2 : Int32), iv (1 : Int32), rv a1, rv a4, rv a9, rv a16, rv a25, iv (1 : Int32), rv a1, .val .null, .val .null, .unset] [.null]))) (X293.checkcastNull hx (g := (mkF m 146 #[iv p0, iv p1, iv p2, iv (2 : Int32), iv (1 : Int32), rv a1, rv a4, rv a9, rv a16, rv a25, iv (1 : Int32), rv a1, .val .null, .val .null, .unset] [.null])) rfl rfl (hb hby at_146)) ?_
      refine own_go (B := (T293.setTop (mkF m 151 #[iv p0, iv p1, iv p2, iv (2 : Int32), iv (1 : Int32), rv a1, rv a4, rv a9, rv a16, rv a25, iv (1 : Int32), rv a1, .val .null, .val .null, .val .null] []))) (fun t k => XS.astore X293.here hx rfl (hb hby at_149) rfl rfl (l' := #[iv p0, iv p1, iv p2, iv (2 : Int32), iv (1 : Int32), rv a1, rv a4, rv a9, rv a16, rv a25, iv (1 : Int32), rv a1, .val .null, .val .null, .val .null]) rfl k) ?_
      refine own_go (B := (T293.setTop (mkF m 153 #[iv p0, iv p1, iv p2, iv (2 : Int32), iv (1 : Int32), rv a1, rv a4, rv a9, rv a16, rv a25, iv (1 : Int32), rv a1, .val .null, .val .null, .val .null] [(.ref a1)]))) (fun t k => XS.aload X293.here hx rfl (hb hby at_151) rfl rfl k) ?_
      refine own_go (B := (T293.setTop (mkF m 155 #[iv p0, iv p1, iv p2, iv (2 : Int32), iv (1 : Int32), rv a1, rv a4, rv a9, rv a16, rv a25, iv (1 : Int32), rv a1, .val .null, .val .null, .val .null] [(.int (1 : Int32)), (.ref a1)]))) (fun t k => XS.iload X293.here hx rfl (hb hby at_153) rfl k) ?_
      refine own_go (B := (T293.setTop (mkF m 156 #[iv p0, iv p1, iv p2, iv (2 : Int32), iv (1 : Int32), rv a1, rv a4, rv a9, rv a16, rv a25, iv (1 : Int32), rv a1, .val .null, .val .null, .val .null] [(.int (0 : Int32)), (.int (1 : Int32)), (.ref a1)]))) (fun t k => own_iconst (v := (0 : Int32)) X293.here hx rfl (hb hby at_155) (by decide) k) ?_
      refine own_go (B := (T293.setTop (mkF m 157 #[iv p0, iv p1, iv p2, iv (2 : Int32), iv (1 : Int32), rv a1, rv a4, rv a9, rv a16, rv a25, iv (1 : Int32), rv a1, .val .null, .val .null, .val .null] [(.int p2), (.int (0 : Int32)), (.int (1 : Int32)), (.ref a1)]))) (fun t k => XS.iloadN X293.here hx rfl (hb hby at_156) rfl k) ?_
      obtain ⟨_, _, ⟨T295, L295, k295, n295⟩, -, X295, ⟨Lc295, hQ295, l295, y295, z295⟩, st295⟩ := Jvm.LawKit.callS X293 hx (y := own_y8) hown (mvT hZ w_36) (mvT hZ w_37) (mvT hZ w_38) (mvT hZ w_39) (by decide) (backOf (W := 0) (own_same1 l Z a0 hw [] a1 (1 : Int32) (0 : Int32) p2 p2 T280.heap n0 (own_Bn_exa F284 (List.mem_of_getElem? (i := 0) rfl)) (own_Bn_fld F284 (List.mem_of_getElem? (i := 0) rfl)) (by decide) (own_v0 (by decide))) hZ w_39 w_38 (by decide) (by decide)) (g := (mkF m 157 #[iv p0, iv p1, iv p2, iv (2 : Int32), iv (1 : Int32), rv a1, rv a4, rv a9, rv a16, rv a25, iv (1 : Int32), rv a1, .val .null, .val .null, .val .null] [(.int p2), (.int (0 : Int32)), (.int (1 : Int32)), (.ref a1)])) rfl (by rw [hml]; rfl) (argsL := [(.ref a1), (.int (1 : Int32)), (.int (0 : Int32)), (.int p2)]) (rest := []) (lenOf own_pd7 rfl) rfl (by show 2 * 0 + _ ≤ _; exact own_b rfl) (hb hby at_157) (fun _ _ => ⟨rfl, e293, (own_b rfl : 6 + 0 ≤ _), (own_b rfl : 9 + 0 ≤ _)⟩)
      dsimp only [Pt.U, Pt.locs, Pt.cells, Pt.slots] at X295 l295 y295 z295 st295 hQ295
      obtain ⟨rfl, Nq295, eq295⟩ := hQ295
      obtain ⟨L295, X295, N295⟩ := own_absC (K := 6) (K' := 9) X295 l295 y295 z295 N293 Nq295
      have e295 : T295.heap = T280.heap := eq295
      refine own_go (B := (T295.setTop (mkF m 160 #[iv p0, iv p1, iv p2, iv (2 : Int32), iv (1 : Int32), rv a1, rv a4, rv a9, rv a16, rv a25, iv (1 : Int32), rv a1, .val .null, .val .null, .val .null] [(.int (1 : Int32))]))) st295 ?_
      have hc160 : ¬ (1 : Int32) = (0 : Int32) := (by decide)
      refine own_ifN X295 hx (hb hby at_160) (pn := 163) rfl hc160 ?_
      refine own_go (B := (T295.setTop (mkF m 165 #[iv p0, iv p1, iv p2, iv (2 : Int32), iv (1 : Int32), rv a1, rv a4, rv a9, rv a16, rv a25, iv (1 : Int32), rv a1, .val .null, .val .null, .val .null] [.null]))) (fun t k => XS.aload X295.here hx rfl (hb hby at_163) rfl rfl k) ?_
      refine own_go (B := (T295.setTop (mkF m 167 #[iv p0, iv p1, iv p2, iv (2 : Int32), iv (1 : Int32), rv a1, rv a4, rv a9, rv a16, rv a25, iv (1 : Int32), rv a1, .val .null, .val .null, .val .null] [(.int (1 : Int32)), .null]))) (fun t k => XS.iload X295.here hx rfl (hb hby at_165) rfl k) ?_
      refine own_go (B := (T295.setTop (mkF m 168 #[iv p0, iv p1, iv p2, iv (2 : Int32), iv (1 : Int32), rv a1, rv a4, rv a9, rv a16, rv a25, iv (1 : Int32), rv a1, .val .null, .val .null, .val .null] [(.int (1 : Int32)), (.int (1 : Int32)), .null]))) (fun t k => own_iconst (v := (1 : Int32)) X295.here hx rfl (hb hby at_167) (by decide) k) ?_
      refine own_go (B := (T295.setTop (mkF m 169 #[iv p0, iv p1, iv p2, iv (2 : Int32), iv (1 : Int32), rv a1, rv a4, rv a9, rv a16, rv a25, iv (1 : Int32), rv a1, .val .null, .val .null, .val .null] [(.int p2), (.int (1 : Int32)), (.int (1 : Int32)), .null]))) (fun t k => XS.iloadN X295.here hx rfl (hb hby at_168) rfl k) ?_
      obtain ⟨_, _, ⟨T296, L296, k296, n296⟩, -, X296, ⟨Lc296, hQ296, l296, y296, z296⟩, st296⟩ := Jvm.LawKit.callS X295 hx (y := own_y8) hown (mvT hZ w_36) (mvT hZ w_37) (mvT hZ w_38) (mvT hZ w_39) (by decide) (backOf (W := 0) (own_same0 l Z a0 hw [] (1 : Int32) (1 : Int32) p2 T280.heap n0 (by decide)) hZ w_39 w_38 (by decide) (by decide)) (g := (mkF m 169 #[iv p0, iv p1, iv p2, iv (2 : Int32), iv (1 : Int32), rv a1, rv a4, rv a9, rv a16, rv a25, iv (1 : Int32), rv a1, .val .null, .val .null, .val .null] [(.int p2), (.int (1 : Int32)), (.int (1 : Int32)), .null])) rfl (by rw [hml]; rfl) (argsL := [.null, (.int (1 : Int32)), (.int (1 : Int32)), (.int p2)]) (rest := []) (lenOf own_pd7 rfl) rfl (by show 2 * 0 + _ ≤ _; exact own_b rfl) (hb hby at_169) (fun _ _ => ⟨rfl, e295, (own_b rfl : 6 + 0 ≤ _), (own_b rfl : 9 + 0 ≤ _)⟩)
      dsimp only [Pt.U, Pt.locs, Pt.cells, Pt.slots] at X296 l296 y296 z296 st296 hQ296
      obtain ⟨rfl, Nq296, eq296⟩ := hQ296
      obtain ⟨L296, X296, N296⟩ := own_absC (K := 6) (K' := 9) X296 l296 y296 z296 N295 Nq296
      have e296 : T296.heap = T280.heap := eq296
      refine own_go (B := (T296.setTop (mkF m 172 #[iv p0, iv p1, iv p2, iv (2 : Int32), iv (1 : Int32), rv a1, rv a4, rv a9, rv a16, rv a25, iv (1 : Int32), rv a1, .val .null, .val .null, .val .null] [(.int (1 : Int32))]))) st296 ?_
      have hc172 : ¬ (1 : Int32) = (0 : Int32) := (by decide)
      refine own_ifN X296 hx (hb hby at_172) (pn := 175) rfl hc172 ?_
      refine own_go (B := (T296.setTop (mkF m 177 #[iv p0, iv p1, iv p2, iv (2 : Int32), iv (1 : Int32), rv a1, rv a4, rv a9, rv a16, rv a25, iv (1 : Int32), rv a1, .val .null, .val .null, .val .null] [.null]))) (fun t k => XS.aload X296.here hx rfl (hb hby at_175) rfl rfl k) ?_
      refine own_go (B := (T296.setTop (mkF m 179 #[iv p0, iv p1, iv p2, iv (2 : Int32), iv (1 : Int32), rv a1, rv a4, rv a9, rv a16, rv a25, iv (1 : Int32), rv a1, .val .null, .val .null, .val .null] [(.int (1 : Int32)), .null]))) (fun t k => XS.iload X296.here hx rfl (hb hby at_177) rfl k) ?_
      refine own_go (B := (T296.setTop (mkF m 180 #[iv p0, iv p1, iv p2, iv (2 : Int32), iv (1 : Int32), rv a1, rv a4, rv a9, rv a16, rv a25, iv (1 : Int32), rv a1, .val .null, .val .null, .val .null] [(.int (2 : Int32)), (.int (1 : Int32)), .null]))) (fun t k => own_iconst (v := (2 : Int32)) X296.here hx rfl (hb hby at_179) (by decide) k) ?_
      refine own_go (B := (T296.setTop (mkF m 181 #[iv p0, iv p1, iv p2, iv (2 : Int32), iv (1 : Int32), rv a1, rv a4, rv a9, rv a16, rv a25, iv (1 : Int32), rv a1, .val .null, .val .null, .val .null] [(.int p2), (.int (2 : Int32)), (.int (1 : Int32)), .null]))) (fun t k => XS.iloadN X296.here hx rfl (hb hby at_180) rfl k) ?_
      obtain ⟨_, _, ⟨T297, L297, k297, n297⟩, -, X297, ⟨Lc297, hQ297, l297, y297, z297⟩, st297⟩ := Jvm.LawKit.callS X296 hx (y := own_y8) hown (mvT hZ w_36) (mvT hZ w_37) (mvT hZ w_38) (mvT hZ w_39) (by decide) (backOf (W := 0) (own_same0 l Z a0 hw [] (1 : Int32) (2 : Int32) p2 T280.heap n0 (by decide)) hZ w_39 w_38 (by decide) (by decide)) (g := (mkF m 181 #[iv p0, iv p1, iv p2, iv (2 : Int32), iv (1 : Int32), rv a1, rv a4, rv a9, rv a16, rv a25, iv (1 : Int32), rv a1, .val .null, .val .null, .val .null] [(.int p2), (.int (2 : Int32)), (.int (1 : Int32)), .null])) rfl (by rw [hml]; rfl) (argsL := [.null, (.int (1 : Int32)), (.int (2 : Int32)), (.int p2)]) (rest := []) (lenOf own_pd7 rfl) rfl (by show 2 * 0 + _ ≤ _; exact own_b rfl) (hb hby at_181) (fun _ _ => ⟨rfl, e296, (own_b rfl : 6 + 0 ≤ _), (own_b rfl : 9 + 0 ≤ _)⟩)
      dsimp only [Pt.U, Pt.locs, Pt.cells, Pt.slots] at X297 l297 y297 z297 st297 hQ297
      obtain ⟨rfl, Nq297, eq297⟩ := hQ297
      obtain ⟨L297, X297, N297⟩ := own_absC (K := 6) (K' := 9) X297 l297 y297 z297 N296 Nq297
      have e297 : T297.heap = T280.heap := eq297
      refine own_go (B := (T297.setTop (mkF m 184 #[iv p0, iv p1, iv p2, iv (2 : Int32), iv (1 : Int32), rv a1, rv a4, rv a9, rv a16, rv a25, iv (1 : Int32), rv a1, .val .null, .val .null, .val .null] [(.int (1 : Int32))]))) st297 ?_
      have hc184 : ¬ (1 : Int32) = (0 : Int32) := (by decide)
      refine own_ifN X297 hx (hb hby at_184) (pn := 187) rfl hc184 ?_
      refine own_go (B := (T297.setTop (mkF m 189 #[iv p0, iv p1, iv p2, iv (2 : Int32), iv (1 : Int32), rv a1, rv a4, rv a9, rv a16, rv a25, iv (1 : Int32), rv a1, .val .null, .val .null, .val .null] [.null]))) (fun t k => XS.aload X297.here hx rfl (hb hby at_187) rfl rfl k) ?_
      refine own_go (B := (T297.setTop (mkF m 191 #[iv p0, iv p1, iv p2, iv (2 : Int32), iv (1 : Int32), rv a1, rv a4, rv a9, rv a16, rv a25, iv (1 : Int32), rv a1, .val .null, .val .null, .val .null] [(.int (1 : Int32)), .null]))) (fun t k => XS.iload X297.here hx rfl (hb hby at_189) rfl k) ?_
      refine own_go (B := (T297.setTop (mkF m 192 #[iv p0, iv p1, iv p2, iv (2 : Int32), iv (1 : Int32), rv a1, rv a4, rv a9, rv a16, rv a25, iv (1 : Int32), rv a1, .val .null, .val .null, .val .null] [(.int (3 : Int32)), (.int (1 : Int32)), .null]))) (fun t k => own_iconst (v := (3 : Int32)) X297.here hx rfl (hb hby at_191) (by decide) k) ?_
      refine own_go (B := (T297.setTop (mkF m 193 #[iv p0, iv p1, iv p2, iv (2 : Int32), iv (1 : Int32), rv a1, rv a4, rv a9, rv a16, rv a25, iv (1 : Int32), rv a1, .val .null, .val .null, .val .null] [(.int p2), (.int (3 : Int32)), (.int (1 : Int32)), .null]))) (fun t k => XS.iloadN X297.here hx rfl (hb hby at_192) rfl k) ?_
      obtain ⟨_, _, ⟨T298, L298, k298, n298⟩, -, X298, ⟨Lc298, hQ298, l298, y298, z298⟩, st298⟩ := Jvm.LawKit.callS X297 hx (y := own_y8) hown (mvT hZ w_36) (mvT hZ w_37) (mvT hZ w_38) (mvT hZ w_39) (by decide) (backOf (W := 0) (own_same0 l Z a0 hw [] (1 : Int32) (3 : Int32) p2 T280.heap n0 (by decide)) hZ w_39 w_38 (by decide) (by decide)) (g := (mkF m 193 #[iv p0, iv p1, iv p2, iv (2 : Int32), iv (1 : Int32), rv a1, rv a4, rv a9, rv a16, rv a25, iv (1 : Int32), rv a1, .val .null, .val .null, .val .null] [(.int p2), (.int (3 : Int32)), (.int (1 : Int32)), .null])) rfl (by rw [hml]; rfl) (argsL := [.null, (.int (1 : Int32)), (.int (3 : Int32)), (.int p2)]) (rest := []) (lenOf own_pd7 rfl) rfl (by show 2 * 0 + _ ≤ _; exact own_b rfl) (hb hby at_193) (fun _ _ => ⟨rfl, e297, (own_b rfl : 6 + 0 ≤ _), (own_b rfl : 9 + 0 ≤ _)⟩)
      dsimp only [Pt.U, Pt.locs, Pt.cells, Pt.slots] at X298 l298 y298 z298 st298 hQ298
      obtain ⟨rfl, Nq298, eq298⟩ := hQ298
      obtain ⟨L298, X298, N298⟩ := own_absC (K := 6) (K' := 9) X298 l298 y298 z298 N297 Nq298
      have e298 : T298.heap = T280.heap := eq298
      refine own_go (B := (T298.setTop (mkF m 196 #[iv p0, iv p1, iv p2, iv (2 : Int32), iv (1 : Int32), rv a1, rv a4, rv a9, rv a16, rv a25, iv (1 : Int32), rv a1, .val .null, .val .null, .val .null] [(.int (1 : Int32))]))) st298 ?_
      have hc196 : ¬ (1 : Int32) = (0 : Int32) := (by decide)
      refine own_ifN X298 hx (hb hby at_196) (pn := 199) rfl hc196 ?_
      refine own_go (B := (T298.setTop (mkF m 200 #[iv p0, iv p1, iv p2, iv (2 : Int32), iv (1 : Int32), rv a1, rv a4, rv a9, rv a16, rv a25, iv (1 : Int32), rv a1, .val .null, .val .null, .val .null] [(.int (1 : Int32))]))) (fun t k => own_iconst (v := (1 : Int32)) X298.here hx rfl (hb hby at_199) (by decide) k) ?_
      refine own_go (B := (T298.setTop (mkF m 204 #[iv p0, iv p1, iv p2, iv (2 : Int32), iv (1 : Int32), rv a1, rv a4, rv a9, rv a16, rv a25, iv (1 : Int32), rv a1, .val .null, .val .null, .val .null] [(.int (1 : Int32))]))) (fun t k => XS.goto X298.here hx rfl (pc0 := 200) (pc' := 204) rfl (hb hby at_200) (by decide) (by decide) k) ?_
      exact own_retZ X298 hx hlk Bd.returns (hb hby at_204) (by decide) (own_b rfl) (own_b rfl) (Q := (own_law_Q Z p0 p1 p2 ca h0 n0)) ⟨rfl, N298⟩
    · refine own_go (B := (T38.setTop (mkF m 54 #[iv p0, iv p1, iv p2, iv (2 : Int32), iv (2 : Int32), rv a1, rv a4, rv a9, rv a16, rv a25, .unset, .unset, .unset, .unset, .unset] [(.int (2 : Int32))]))) (fun t k => XS.iload X38.here hx rfl (hb hby at_52) rfl k) ?_
      have hc54 : (0 : Int32) < (2 : Int32) := (by decide)
      refine own_ifN X38 hx (hb hby at_54) (pn := 57) rfl hc54 ?_
      refine own_go (B := (T38.setTop (mkF m 59 #[iv p0, iv p1, iv p2, iv (2 : Int32), iv (2 : Int32), rv a1, rv a4, rv a9, rv a16, rv a25, .unset, .unset, .unset, .unset, .unset] [(.ref a25)]))) (fun t k => XS.aload X38.here hx rfl (hb hby at_57) rfl rfl k) ?_
      refine own_go (B := (T38.setTop (mkF m 61 #[iv p0, iv p1, iv p2, iv (2 : Int32), iv (2 : Int32), rv a1, rv a4, rv a9, rv a16, rv a25, .unset, .unset, .unset, .unset, .unset] [(.ref a1), (.ref a25)]))) (fun t k => XS.aload X38.here hx rfl (hb hby at_59) rfl rfl k) ?_
      obtain ⟨cq299, kq299, qa299, qb299, qc299⟩ := isOf hZ rfl Ex38
      obtain ⟨_, _, ⟨T299, L299, k299, n299⟩, -, X299, ⟨Lc299, hQ299, l299, y299, z299⟩, st299⟩ := X38.virtualBack hx (y := own_y9) (z := own_y9) hown (mvT hZ w_20) (mvT hZ w_21) (notFace_of_selects (args := #[]) (mvT hZ w_23)) (mvT hZ w_23) (mvT hZ w_22) (by decide) (backOf (W := 0) (own_kone l Z a0 hw [] a25 a1 ar38 (0 : Int32) (2 : Int32) (1 : Int32) [.null, .null] [(.ref a1), .null] T38.heap n0 Ex38 gk38 gc38 Vb F39 gn25 gn_ar38 ne_ar38_a25 (own_lenL (n := 2) rfl (by decide)) (by decide) (by decide) (Nat.lt_of_lt_of_eq (by decide : _ < 2) rfl) (by decide) (Ins.of_exa (own_Bn_exa BB (List.mem_of_getElem? (i := 0) rfl)) w_40) rfl) hZ w_24 w_9 (by decide) (by decide)) qa299 qc299 (g := (mkF m 61 #[iv p0, iv p1, iv p2, iv (2 : Int32), iv (2 : Int32), rv a1, rv a4, rv a9, rv a16, rv a25, .unset, .unset, .unset, .unset, .unset] [(.ref a1), (.ref a25)])) rfl (by rw [hml]; rfl) (Steps.refl _) (argsL := [(.ref a1)]) (rest := []) (lenOf own_pd8 rfl) rfl (by show 2 * 0 + _ ≤ _; exact own_b rfl) (hb hby at_61) (fun _ _ => ⟨rfl, rfl, (own_b rfl : 6 + 0 ≤ _), (own_b rfl : 9 + 0 ≤ _)⟩)
      dsimp only [Pt.U, Pt.locs, Pt.cells, Pt.slots] at X299 l299 y299 z299 st299 hQ299
      obtain ⟨rfl, Nq299, K299, Ex299, gk299, gc299, gv299⟩ := hQ299
      obtain ⟨L299, X299, N299⟩ := own_absC (K := 6) (K' := 9) X299 l299 y299 z299 N38 Nq299
      have F300 : n0 ≤ T299.heap.size := Nat.le_trans F39 K299.1
      have F301 := Keep.trans F40 K299 (allS (Or.inr (Nat.le_trans F18.1 (Nat.le_of_eq ga25.symm))) (allS (Or.inr (Nat.le_trans K27.1 gz38)) all0))
      have F302 := Exa.keep Ex38 K299
      have F306 := own_Bn_keep BB K299 hbq
      refine own_tr (B := (T299.setTop (mkF m 64 #[iv p0, iv p1, iv p2, iv (2 : Int32), iv (2 : Int32), rv a1, rv a4, rv a9, rv a16, rv a25, .unset, .unset, .unset, .unset, .unset] []))) st299 ?_
      refine own_go (B := (T299.setTop (mkF m 66 #[iv p0, iv p1, iv p2, iv (2 : Int32), iv (2 : Int32), rv a1, rv a4, rv a9, rv a16, rv a25, .unset, .unset, .unset, .unset, .unset] [(.int (2 : Int32))]))) (fun t k => XS.iload X299.here hx rfl (hb hby at_64) rfl k) ?_
      refine own_go (B := (T299.setTop (mkF m 67 #[iv p0, iv p1, iv p2, iv (2 : Int32), iv (2 : Int32), rv a1, rv a4, rv a9, rv a16, rv a25, .unset, .unset, .unset, .unset, .unset] [(.int (1 : Int32)), (.int (2 : Int32))]))) (fun t k => own_iconst (v := (1 : Int32)) X299.here hx rfl (hb hby at_66) (by decide) k) ?_
      have hc67 : (1 : Int32) < (2 : Int32) := (by decide)
      refine own_icmpN X299 hx (hb hby at_67) (pn := 70) rfl hc67 ?_
      refine own_go (B := (T299.setTop (mkF m 72 #[iv p0, iv p1, iv p2, iv (2 : Int32), iv (2 : Int32), rv a1, rv a4, rv a9, rv a16, rv a25, .unset, .unset, .unset, .unset, .unset] [(.ref a25)]))) (fun t k => XS.aload X299.here hx rfl (hb hby at_70) rfl rfl k) ?_
      refine own_go (B := (T299.setTop (mkF m 74 #[iv p0, iv p1, iv p2, iv (2 : Int32), iv (2 : Int32), rv a1, rv a4, rv a9, rv a16, rv a25, .unset, .unset, .unset, .unset, .unset] [(.ref a4), (.ref a25)]))) (fun t k => XS.aload X299.here hx rfl (hb hby at_72) rfl rfl k) ?_
      obtain ⟨cq307, kq307, qa307, qb307, qc307⟩ := isOf hZ rfl Ex299
      obtain ⟨_, _, ⟨T307, L307, k307, n307⟩, -, X307, ⟨Lc307, hQ307, l307, y307, z307⟩, st307⟩ := X299.virtualBack hx (y := own_y9) (z := own_y9) hown (mvT hZ w_20) (mvT hZ w_21) (notFace_of_selects (args := #[]) (mvT hZ w_23)) (mvT hZ w_23) (mvT hZ w_22) (by decide) (backOf (W := 0) (own_kone l Z a0 hw [] a25 a4 ar38 (1 : Int32) (2 : Int32) (2 : Int32) [(.ref a1), .null] [(.ref a1), (.ref a4)] T299.heap n0 Ex299 gk299 gc299 gv299 F300 gn25 gn_ar38 ne_ar38_a25 (own_lenL (n := 2) rfl (by decide)) (by decide) (by decide) (Nat.lt_of_lt_of_eq (by decide : _ < 2) rfl) (by decide) (Ins.of_exa (own_Bn_exa F306 (List.mem_of_getElem? (i := 1) rfl)) w_40) rfl) hZ w_24 w_9 (by decide) (by decide)) qa307 qc307 (g := (mkF m 74 #[iv p0, iv p1, iv p2, iv (2 : Int32), iv (2 : Int32), rv a1, rv a4, rv a9, rv a16, rv a25, .unset, .unset, .unset, .unset, .unset] [(.ref a4), (.ref a25)])) rfl (by rw [hml]; rfl) (Steps.refl _) (argsL := [(.ref a4)]) (rest := []) (lenOf own_pd8 rfl) rfl (by show 2 * 0 + _ ≤ _; exact own_b rfl) (hb hby at_74) (fun _ _ => ⟨rfl, rfl, (own_b rfl : 6 + 0 ≤ _), (own_b rfl : 9 + 0 ≤ _)⟩)
      dsimp only [Pt.U, Pt.locs, Pt.cells, Pt.slots] at X307 l307 y307 z307 st307 hQ307
      obtain ⟨rfl, Nq307, K307, Ex307, gk307, gc307, gv307⟩ := hQ307
      obtain ⟨L307, X307, N307⟩ := own_absC (K := 6) (K' := 9) X307 l307 y307 z307 N299 Nq307
      have F308 : n0 ≤ T307.heap.size := Nat.le_trans F300 K307.1
      have F309 := Keep.trans F301 K307 (allS (Or.inr (Nat.le_trans F18.1 (Nat.le_of_eq ga25.symm))) (allS (Or.inr (Nat.le_trans K27.1 gz38)) all0))
      have F310 := Exa.keep Ex299 K307
      have F311 := own_Bn_keep F306 K307 hbq
      refine own_tr (B := (T307.setTop (mkF m 77 #[iv p0, iv p1, iv p2, iv (2 : Int32), iv (2 : Int32), rv a1, rv a4, rv a9, rv a16, rv a25, .unset, .unset, .unset, .unset, .unset] []))) st307 ?_
      refine own_go (B := (T307.setTop (mkF m 79 #[iv p0, iv p1, iv p2, iv (2 : Int32), iv (2 : Int32), rv a1, rv a4, rv a9, rv a16, rv a25, .unset, .unset, .unset, .unset, .unset] [(.int (2 : Int32))]))) (fun t k => XS.iload X307.here hx rfl (hb hby at_77) rfl k) ?_
      refine own_go (B := (T307.setTop (mkF m 80 #[iv p0, iv p1, iv p2, iv (2 : Int32), iv (2 : Int32), rv a1, rv a4, rv a9, rv a16, rv a25, .unset, .unset, .unset, .unset, .unset] [(.int (2 : Int32)), (.int (2 : Int32))]))) (fun t k => own_iconst (v := (2 : Int32)) X307.here hx rfl (hb hby at_79) (by decide) k) ?_
      have hc80 : ¬ (2 : Int32) < (2 : Int32) := (by decide)
      refine own_icmpY X307 hx (hb hby at_80) (pc' := 90) (by decide) (by decide) hc80 ?_
      refine own_go (B := (T307.setTop (mkF m 92 #[iv p0, iv p1, iv p2, iv (2 : Int32), iv (2 : Int32), rv a1, rv a4, rv a9, rv a16, rv a25, .unset, .unset, .unset, .unset, .unset] [(.int (2 : Int32))]))) (fun t k => XS.iload X307.here hx rfl (hb hby at_90) rfl k) ?_
      refine own_go (B := (T307.setTop (mkF m 93 #[iv p0, iv p1, iv p2, iv (2 : Int32), iv (2 : Int32), rv a1, rv a4, rv a9, rv a16, rv a25, .unset, .unset, .unset, .unset, .unset] [(.int (3 : Int32)), (.int (2 : Int32))]))) (fun t k => own_iconst (v := (3 : Int32)) X307.here hx rfl (hb hby at_92) (by decide) k) ?_
      have hc93 : ¬ (3 : Int32) < (2 : Int32) := (by decide)
      refine own_icmpY X307 hx (hb hby at_93) (pc' := 103) (by decide) (by decide) hc93 ?_
      refine own_go (B := (T307.setTop (mkF m 105 #[iv p0, iv p1, iv p2, iv (2 : Int32), iv (2 : Int32), rv a1, rv a4, rv a9, rv a16, rv a25, .unset, .unset, .unset, .unset, .unset] [(.int (2 : Int32))]))) (fun t k => XS.iload X307.here hx rfl (hb hby at_103) rfl k) ?_
      refine own_go (B := (T307.setTop (mkF m 106 #[iv p0, iv p1, iv p2, iv (2 : Int32), iv (2 : Int32), rv a1, rv a4, rv a9, rv a16, rv a25, .unset, .unset, .unset, .unset, .unset] [(.int (2 : Int32)), (.int (2 : Int32))]))) (fun t k => XS.iloadN X307.here hx rfl (hb hby at_105) rfl k) ?_
      obtain ⟨_, _, ⟨T315, L315, k315, n315⟩, -, X315, ⟨Lc315, hQ315, l315, y315, z315⟩, st315⟩ := Jvm.LawKit.callS X307 hx (y := own_y6) hown (mvT hZ w_27) (mvT hZ w_28) (mvT hZ w_29) (mvT hZ w_30) (by decide) (backOf (W := 0) (own_mmin l Z a0 hw [] (2 : Int32) (2 : Int32) T307.heap n0) hZ w_30 w_29 (by decide) (by decide)) (g := (mkF m 106 #[iv p0, iv p1, iv p2, iv (2 : Int32), iv (2 : Int32), rv a1, rv a4, rv a9, rv a16, rv a25, .unset, .unset, .unset, .unset, .unset] [(.int (2 : Int32)), (.int (2 : Int32))])) rfl (by rw [hml]; rfl) (argsL := [(.int (2 : Int32)), (.int (2 : Int32))]) (rest := []) (lenOf own_pd5 rfl) rfl (by show 2 * 0 + _ ≤ _; exact own_b rfl) (hb hby at_106) (fun _ _ => ⟨rfl, rfl, (own_b rfl : 6 + 0 ≤ _), (own_b rfl : 9 + 0 ≤ _)⟩)
      dsimp only [Pt.U, Pt.locs, Pt.cells, Pt.slots] at X315 l315 y315 z315 st315 hQ315
      obtain ⟨rfl, Nq315, eq315⟩ := hQ315
      obtain ⟨L315, X315, N315⟩ := own_absC (K := 6) (K' := 9) X315 l315 y315 z315 N307 Nq315
      have e315 : T315.heap = T307.heap := eq315
      refine own_go (B := (T315.setTop (mkF m 109 #[iv p0, iv p1, iv p2, iv (2 : Int32), iv (2 : Int32), rv a1, rv a4, rv a9, rv a16, rv a25, .unset, .unset, .unset, .unset, .unset] [(.int (own_min (2 : Int32) (2 : Int32)))]))) st315 ?_
      rw [show own_min (2 : Int32) (2 : Int32) = (2 : Int32) from by decide]
      refine own_go (B := (T315.setTop (mkF m 111 #[iv p0, iv p1, iv p2, iv (2 : Int32), iv (2 : Int32), rv a1, rv a4, rv a9, rv a16, rv a25, iv (2 : Int32), .unset, .unset, .unset, .unset] []))) (fun t k => XS.istore X315.here hx rfl (hb hby at_109) rfl (l' := #[iv p0, iv p1, iv p2, iv (2 : Int32), iv (2 : Int32), rv a1, rv a4, rv a9, rv a16, rv a25, iv (2 : Int32), .unset, .unset, .unset, .unset]) rfl k) ?_
      refine own_go (B := (T315.setTop (mkF m 113 #[iv p0, iv p1, iv p2, iv (2 : Int32), iv (2 : Int32), rv a1, rv a4, rv a9, rv a16, rv a25, iv (2 : Int32), .unset, .unset, .unset, .unset] [(.ref a25)]))) (fun t k => XS.aload X315.here hx rfl (hb hby at_111) rfl rfl k) ?_
      obtain ⟨cq316, kq316, qa316, qb316, qc316⟩ := isOf hZ e315 Ex307
      obtain ⟨_, _, ⟨T316, L316, k316, n316⟩, -, X316, ⟨Lc316, hQ316, l316, y316, z316⟩, st316⟩ := X315.virtualBack hx (y := own_y7) (z := own_y7) hown (mvT hZ w_31) (mvT hZ w_32) (notFace_of_selects (args := #[]) (mvT hZ w_34)) (mvT hZ w_34) (mvT hZ w_33) (by decide) (backOf (W := 0) (own_tone l Z a0 hw [] a25 ar38 a4 (2 : Int32) (1 : Int32) [(.ref a1), (.ref a4)] [(.ref a1), .null] T307.heap n0 Ex307 gk307 gc307 gv307 F308 gn25 gn_ar38 ne_ar38_a25 (by decide) (by decide) (by decide) rfl rfl) hZ w_35 w_9 (by decide) (by decide)) qa316 qc316 (g := (mkF m 113 #[iv p0, iv p1, iv p2, iv (2 : Int32), iv (2 : Int32), rv a1, rv a4, rv a9, rv a16, rv a25, iv (2 : Int32), .unset, .unset, .unset, .unset] [(.ref a25)])) rfl (by rw [hml]; rfl) (Steps.refl _) (argsL := []) (rest := []) (lenOf own_pd6 rfl) rfl (by show 2 * 0 + _ ≤ _; exact own_b rfl) (hb hby at_113) (fun _ _ => ⟨rfl, e315, (own_b rfl : 6 + 0 ≤ _), (own_b rfl : 9 + 0 ≤ _)⟩)
      dsimp only [Pt.U, Pt.locs, Pt.cells, Pt.slots] at X316 l316 y316 z316 st316 hQ316
      obtain ⟨rfl, Nq316, K316, Ex316, gk316, gc316, gv316⟩ := hQ316
      obtain ⟨L316, X316, N316⟩ := own_absC (K := 6) (K' := 9) X316 l316 y316 z316 N315 Nq316
      have F317 : n0 ≤ T316.heap.size := Nat.le_trans F308 K316.1
      have F318 := Keep.trans F309 K316 (allS (Or.inr (Nat.le_trans F18.1 (Nat.le_of_eq ga25.symm))) (allS (Or.inr (Nat.le_trans K27.1 gz38)) all0))
      have F319 := Exa.keep Ex307 K316
      have F320 := own_Bn_keep F311 K316 hbq
      refine own_tr (B := (T316.setTop (mkF m 116 #[iv p0, iv p1, iv p2, iv (2 : Int32), iv (2 : Int32), rv a1, rv a4, rv a9, rv a16, rv a25, iv (2 : Int32), .unset, .unset, .unset, .unset] [(.ref a4)]))) st316 ?_
      obtain ⟨T324, X324, e324, st324⟩ := castY X316 hx hZ hown w_41 rfl (Ins.of_exa (own_Bn_exa F320 (List.mem_of_getElem? (i := 1) rfl)) w_42) (g := (mkF m 116 #[iv p0, iv p1, iv p2, iv (2 : Int32), iv (2 : Int32), rv a1, rv a4, rv a9, rv a16, rv a25, iv (2 : Int32), .unset, .unset, .unset, .unset] [(.ref a4)])) rfl rfl (hb hby at_116)
      refine own_go (B := (T324.setTop (mkF m 119 #[iv p0, iv p1, iv p2, iv (2 : Int32), iv (2 : Int32), rv a1, rv a4, rv a9, rv a16, rv a25, iv (2 : Int32), .unset, .unset, .unset, .unset] [(.ref a4)]))) st324 ?_
      refine own_go (B := (T324.setTop (mkF m 121 #[iv p0, iv p1, iv p2, iv (2 : Int32), iv (2 : Int32), rv a1, rv a4, rv a9, rv a16, rv a25, iv (2 : Int32), rv a4, .unset, .unset, .unset] []))) (fun t k => XS.astore X324.here hx rfl (hb hby at_119) rfl rfl (l' := #[iv p0, iv p1, iv p2, iv (2 : Int32), iv (2 : Int32), rv a1, rv a4, rv a9, rv a16, rv a25, iv (2 : Int32), rv a4, .unset, .unset, .unset]) rfl k) ?_
      refine own_go (B := (T324.setTop (mkF m 123 #[iv p0, iv p1, iv p2, iv (2 : Int32), iv (2 : Int32), rv a1, rv a4, rv a9, rv a16, rv a25, iv (2 : Int32), rv a4, .unset, .unset, .unset] [(.ref a25)]))) (fun t k => XS.aload X324.here hx rfl (hb hby at_121) rfl rfl k) ?_
      obtain ⟨cq325, kq325, qa325, qb325, qc325⟩ := isOf hZ e324 Ex316
      obtain ⟨_, _, ⟨T325, L325, k325, n325⟩, -, X325, ⟨Lc325, hQ325, l325, y325, z325⟩, st325⟩ := X324.virtualBack hx (y := own_y7) (z := own_y7) hown (mvT hZ w_31) (mvT hZ w_32) (notFace_of_selects (args := #[]) (mvT hZ w_34)) (mvT hZ w_34) (mvT hZ w_33) (by decide) (backOf (W := 0) (own_tone l Z a0 hw [] a25 ar38 a1 (1 : Int32) (0 : Int32) [(.ref a1), .null] [.null, .null] T316.heap n0 Ex316 gk316 gc316 gv316 F317 gn25 gn_ar38 ne_ar38_a25 (by decide) (by decide) (by decide) rfl rfl) hZ w_35 w_9 (by decide) (by decide)) qa325 qc325 (g := (mkF m 123 #[iv p0, iv p1, iv p2, iv (2 : Int32), iv (2 : Int32), rv a1, rv a4, rv a9, rv a16, rv a25, iv (2 : Int32), rv a4, .unset, .unset, .unset] [(.ref a25)])) rfl (by rw [hml]; rfl) (Steps.refl _) (argsL := []) (rest := []) (lenOf own_pd6 rfl) rfl (by show 2 * 0 + _ ≤ _; exact own_b rfl) (hb hby at_123) (fun _ _ => ⟨rfl, e324, (own_b rfl : 6 + 0 ≤ _), (own_b rfl : 9 + 0 ≤ _)⟩)
      dsimp only [Pt.U, Pt.locs, Pt.cells, Pt.slots] at X325 l325 y325 z325 st325 hQ325
      obtain ⟨rfl, Nq325, K325, Ex325, gk325, gc325, gv325⟩ := hQ325
      obtain ⟨L325, X325, N325⟩ := own_absC (K := 6) (K' := 9) X325 l325 y325 z325 N316 Nq325
      have F326 : n0 ≤ T325.heap.size := Nat.le_trans F317 K325.1
      have F327 := Keep.trans F318 K325 (allS (Or.inr (Nat.le_trans F18.1 (Nat.le_of_eq ga25.symm))) (allS (Or.inr (Nat.le_trans K27.1 gz38)) all0))
      have F328 := Exa.keep Ex316 K325
      have F329 := own_Bn_keep F320 K325 hbq
      refine own_tr (B := (T325.setTop (mkF m 126 #[iv p0, iv p1, iv p2, iv (2 : Int32), iv (2 : Int32), rv a1, rv a4, rv a9, rv a16, rv a25, iv (2 : Int32), rv a4, .unset, .unset, .unset] [(.ref a1)]))) st325 ?_
      obtain ⟨T333, X333, e333, st333⟩ := castY X325 hx hZ hown w_41 rfl (Ins.of_exa (own_Bn_exa F329 (List.mem_of_getElem? (i := 0) rfl)) w_42) (g := (mkF m 126 #[iv p0, iv p1, iv p2, iv (2 : Int32), iv (2 : Int32), rv a1, rv a4, rv a9, rv a16, rv a25, iv (2 : Int32), rv a4, .unset, .unset, .unset] [(.ref a1)])) rfl rfl (hb hby at_126)
      refine own_go (B := (T333.setTop (mkF m 129 #[iv p0, iv p1, iv p2, iv (2 : Int32), iv (2 : Int32), rv a1, rv a4, rv a9, rv a16, rv a25, iv (2 : Int32), rv a4, .unset, .unset, .unset] [(.ref a1)]))) st333 ?_
      refine own_go (B := (T333.setTop (mkF m 131 #[iv p0, iv p1, iv p2, iv (2 : Int32), iv (2 : Int32), rv a1, rv a4, rv a9, rv a16, rv a25, iv (2 : Int32), rv a4, rv a1, .unset, .unset] []))) (fun t k => XS.astore X333.here hx rfl (hb hby at_129) rfl rfl (l' := #[iv p0, iv p1, iv p2, iv (2 : Int32), iv (2 : Int32), rv a1, rv a4, rv a9, rv a16, rv a25, iv (2 : Int32), rv a4, rv a1, .unset, .unset]) rfl k) ?_
      refine own_go (B := (T333.setTop (mkF m 133 #[iv p0, iv p1, iv p2, iv (2 : Int32), iv (2 : Int32), rv a1, rv a4, rv a9, rv a16, rv a25, iv (2 : Int32), rv a4, rv a1, .unset, .unset] [(.ref a25)]))) (fun t k => XS.aload X333.here hx rfl (hb hby at_131) rfl rfl k) ?_
      obtain ⟨cq334, kq334, qa334, qb334, qc334⟩ := isOf hZ e333 Ex325
      obtain ⟨_, _, ⟨T334, L334, k334, n334⟩, -, X334, ⟨Lc334, hQ334, l334, y334, z334⟩, st334⟩ := X333.virtualBack hx (y := own_y7) (z := own_y7) hown (mvT hZ w_31) (mvT hZ w_32) (notFace_of_selects (args := #[]) (mvT hZ w_34)) (mvT hZ w_34) (mvT hZ w_33) (by decide) (backOf (W := 0) (own_tnone l Z a0 hw [] a25 T325.heap n0 gc325) hZ w_35 w_9 (by decide) (by decide)) qa334 qc334 (g := (mkF m 133 #[iv p0, iv p1, iv p2, iv (2 : Int32), iv (2 : Int32), rv a1, rv a4, rv a9, rv a16, rv a25, iv (2 : Int32), rv a4, rv a1, .unset, .unset] [(.ref a25)])) rfl (by rw [hml]; rfl) (Steps.refl _) (argsL := []) (rest := []) (lenOf own_pd6 rfl) rfl (by show 2 * 0 + _ ≤ _; exact own_b rfl) (hb hby at_133) (fun _ _ => ⟨rfl, e333, (own_b rfl : 6 + 0 ≤ _), (own_b rfl : 9 + 0 ≤ _)⟩)
      dsimp only [Pt.U, Pt.locs, Pt.cells, Pt.slots] at X334 l334 y334 z334 st334 hQ334
      obtain ⟨rfl, Nq334, eq334⟩ := hQ334
      obtain ⟨L334, X334, N334⟩ := own_absC (K := 6) (K' := 9) X334 l334 y334 z334 N325 Nq334
      have e334 : T334.heap = T325.heap := eq334
      refine own_tr (B := (T334.setTop (mkF m 136 #[iv p0, iv p1, iv p2, iv (2 : Int32), iv (2 : Int32), rv a1, rv a4, rv a9, rv a16, rv a25, iv (2 : Int32), rv a4, rv a1, .unset, .unset] [.null]))) st334 ?_
      refine own_go (B := (T334.setTop (mkF m 139 #[iv p0, iv p1, iv p2, iv (2 : Int32), iv (2 : Int32), rv a1, rv a4, rv a9, rv a16, rv a25, iv (2 : Int32), rv a4, rv a1, .unset, .unset] [.null]))) (X334.checkcastNull hx (g := (mkF m 136 #[iv p0, iv p1, iv p2, iv (2 : Int32), iv (2 : Int32), rv a1, rv a4, rv a9, rv a16, rv a25, iv (2 : Int32), rv a4, rv a1, .unset, .unset] [.null])) rfl rfl (hb hby at_136)) ?_
      refine own_go (B := (T334.setTop (mkF m 141 #[iv p0, iv p1, iv p2, iv (2 : Int32), iv (2 : Int32), rv a1, rv a4, rv a9, rv a16, rv a25, iv (2 : Int32), rv a4, rv a1, .val .null, .unset] []))) (fun t k => XS.astore X334.here hx rfl (hb hby at_139) rfl rfl (l' := #[iv p0, iv p1, iv p2, iv (2 : Int32), iv (2 : Int32), rv a1, rv a4, rv a9, rv a16, rv a25, iv (2 : Int32), rv a4, rv a1, .val .null, .unset]) rfl k) ?_
      refine own_go (B := (T334.setTop (mkF m 143 #[iv p0, iv p1, iv p2, iv (2 : Int32), iv (2 : Int32), rv a1, rv a4, rv a9, rv a16, rv a25, iv (2 : Int32), rv a4, rv a1, .val .null, .unset] [(.ref a25)]))) (fun t k => XS.aload X334.here hx rfl (hb hby at_141) rfl rfl k) ?_
      obtain ⟨cq336, kq336, qa336, qb336, qc336⟩ := isOf hZ e334 Ex325
      obtain ⟨_, _, ⟨T336, L336, k336, n336⟩, -, X336, ⟨Lc336, hQ336, l336, y336, z336⟩, st336⟩ := X334.virtualBack hx (y := own_y7) (z := own_y7) hown (mvT hZ w_31) (mvT hZ w_32) (notFace_of_selects (args := #[]) (mvT hZ w_34)) (mvT hZ w_34) (mvT hZ w_33) (by decide) (backOf (W := 0) (own_tnone l Z a0 hw [] a25 T325.heap n0 gc325) hZ w_35 w_9 (by decide) (by decide)) qa336 qc336 (g := (mkF m 143 #[iv p0, iv p1, iv p2, iv (2 : Int32), iv (2 : Int32), rv a1, rv a4, rv a9, rv a16, rv a25, iv (2 : Int32), rv a4, rv a1, .val .null, .unset] [(.ref a25)])) rfl (by rw [hml]; rfl) (Steps.refl _) (argsL := []) (rest := []) (lenOf own_pd6 rfl) rfl (by show 2 * 0 + _ ≤ _; exact own_b rfl) (hb hby at_143) (fun _ _ => ⟨rfl, e334, (own_b rfl : 6 + 0 ≤ _), (own_b rfl : 9 + 0 ≤ _)⟩)
      dsimp only [Pt.U, Pt.locs, Pt.cells, Pt.slots] at X336 l336 y336 z336 st336 hQ336
      obtain ⟨rfl, Nq336, eq336⟩ := hQ336
      obtain ⟨L336, X336, N336⟩ := own_absC (K := 6) (K' := 9) X336 l336 y336 z336 N334 Nq336
      have e336 : T336.heap = T325.heap := eq336
      refine own_tr (B := (T336.setTop (mkF m 146 #[iv p0, iv p1, iv p2, iv (2 : Int32), iv (2 : Int32), rv a1, rv a4, rv a9, rv a16, rv a25, iv (2 : Int32), rv a4, rv a1, .val .null, .unset] [.null]))) st336 ?_
      refine own_go (B := (T336.setTop (mkF m 149 #[iv p0, iv p1, iv p2, iv (2 : Int32), iv (2 : Int32), rv a1, rv a4, rv a9, rv a16, rv a25, iv (2 : Int32), rv a4, rv a1, .val .null, .unset] [.null]))) (X336.checkcastNull hx (g := (mkF m 146 #[iv p0, iv p1, iv p2, iv (2 : Int32), iv (2 : Int32), rv a1, rv a4, rv a9, rv a16, rv a25, iv (2 : Int32), rv a4, rv a1, .val .null, .unset] [.null])) rfl rfl (hb hby at_146)) ?_
      refine own_go (B := (T336.setTop (mkF m 151 #[iv p0, iv p1, iv p2, iv (2 : Int32), iv (2 : Int32), rv a1, rv a4, rv a9, rv a16, rv a25, iv (2 : Int32), rv a4, rv a1, .val .null, .val .null] []))) (fun t k => XS.astore X336.here hx rfl (hb hby at_149) rfl rfl (l' := #[iv p0, iv p1, iv p2, iv (2 : Int32), iv (2 : Int32), rv a1, rv a4, rv a9, rv a16, rv a25, iv (2 : Int32), rv a4, rv a1, .val .null, .val .null]) rfl k) ?_
      refine own_go (B := (T336.setTop (mkF m 153 #[iv p0, iv p1, iv p2, iv (2 : Int32), iv (2 : Int32), rv a1, rv a4, rv a9, rv a16, rv a25, iv (2 : Int32), rv a4, rv a1, .val .null, .val .null] [(.ref a4)]))) (fun t k => XS.aload X336.here hx rfl (hb hby at_151) rfl rfl k) ?_
      refine own_go (B := (T336.setTop (mkF m 155 #[iv p0, iv p1, iv p2, iv (2 : Int32), iv (2 : Int32), rv a1, rv a4, rv a9, rv a16, rv a25, iv (2 : Int32), rv a4, rv a1, .val .null, .val .null] [(.int (2 : Int32)), (.ref a4)]))) (fun t k => XS.iload X336.here hx rfl (hb hby at_153) rfl k) ?_
      refine own_go (B := (T336.setTop (mkF m 156 #[iv p0, iv p1, iv p2, iv (2 : Int32), iv (2 : Int32), rv a1, rv a4, rv a9, rv a16, rv a25, iv (2 : Int32), rv a4, rv a1, .val .null, .val .null] [(.int (0 : Int32)), (.int (2 : Int32)), (.ref a4)]))) (fun t k => own_iconst (v := (0 : Int32)) X336.here hx rfl (hb hby at_155) (by decide) k) ?_
      refine own_go (B := (T336.setTop (mkF m 157 #[iv p0, iv p1, iv p2, iv (2 : Int32), iv (2 : Int32), rv a1, rv a4, rv a9, rv a16, rv a25, iv (2 : Int32), rv a4, rv a1, .val .null, .val .null] [(.int p2), (.int (0 : Int32)), (.int (2 : Int32)), (.ref a4)]))) (fun t k => XS.iloadN X336.here hx rfl (hb hby at_156) rfl k) ?_
      obtain ⟨_, _, ⟨T338, L338, k338, n338⟩, -, X338, ⟨Lc338, hQ338, l338, y338, z338⟩, st338⟩ := Jvm.LawKit.callS X336 hx (y := own_y8) hown (mvT hZ w_36) (mvT hZ w_37) (mvT hZ w_38) (mvT hZ w_39) (by decide) (backOf (W := 0) (own_same1 l Z a0 hw [] a4 (2 : Int32) (0 : Int32) p2 (p2 + (1 : Int32)) T325.heap n0 (own_Bn_exa F329 (List.mem_of_getElem? (i := 1) rfl)) (own_Bn_fld F329 (List.mem_of_getElem? (i := 1) rfl)) (by decide) (own_vi (by decide))) hZ w_39 w_38 (by decide) (by decide)) (g := (mkF m 157 #[iv p0, iv p1, iv p2, iv (2 : Int32), iv (2 : Int32), rv a1, rv a4, rv a9, rv a16, rv a25, iv (2 : Int32), rv a4, rv a1, .val .null, .val .null] [(.int p2), (.int (0 : Int32)), (.int (2 : Int32)), (.ref a4)])) rfl (by rw [hml]; rfl) (argsL := [(.ref a4), (.int (2 : Int32)), (.int (0 : Int32)), (.int p2)]) (rest := []) (lenOf own_pd7 rfl) rfl (by show 2 * 0 + _ ≤ _; exact own_b rfl) (hb hby at_157) (fun _ _ => ⟨rfl, e336, (own_b rfl : 6 + 0 ≤ _), (own_b rfl : 9 + 0 ≤ _)⟩)
      dsimp only [Pt.U, Pt.locs, Pt.cells, Pt.slots] at X338 l338 y338 z338 st338 hQ338
      obtain ⟨rfl, Nq338, eq338⟩ := hQ338
      obtain ⟨L338, X338, N338⟩ := own_absC (K := 6) (K' := 9) X338 l338 y338 z338 N336 Nq338
      have e338 : T338.heap = T325.heap := eq338
      refine own_go (B := (T338.setTop (mkF m 160 #[iv p0, iv p1, iv p2, iv (2 : Int32), iv (2 : Int32), rv a1, rv a4, rv a9, rv a16, rv a25, iv (2 : Int32), rv a4, rv a1, .val .null, .val .null] [(.int (1 : Int32))]))) st338 ?_
      have hc160 : ¬ (1 : Int32) = (0 : Int32) := (by decide)
      refine own_ifN X338 hx (hb hby at_160) (pn := 163) rfl hc160 ?_
      refine own_go (B := (T338.setTop (mkF m 165 #[iv p0, iv p1, iv p2, iv (2 : Int32), iv (2 : Int32), rv a1, rv a4, rv a9, rv a16, rv a25, iv (2 : Int32), rv a4, rv a1, .val .null, .val .null] [(.ref a1)]))) (fun t k => XS.aload X338.here hx rfl (hb hby at_163) rfl rfl k) ?_
      refine own_go (B := (T338.setTop (mkF m 167 #[iv p0, iv p1, iv p2, iv (2 : Int32), iv (2 : Int32), rv a1, rv a4, rv a9, rv a16, rv a25, iv (2 : Int32), rv a4, rv a1, .val .null, .val .null] [(.int (2 : Int32)), (.ref a1)]))) (fun t k => XS.iload X338.here hx rfl (hb hby at_165) rfl k) ?_
      refine own_go (B := (T338.setTop (mkF m 168 #[iv p0, iv p1, iv p2, iv (2 : Int32), iv (2 : Int32), rv a1, rv a4, rv a9, rv a16, rv a25, iv (2 : Int32), rv a4, rv a1, .val .null, .val .null] [(.int (1 : Int32)), (.int (2 : Int32)), (.ref a1)]))) (fun t k => own_iconst (v := (1 : Int32)) X338.here hx rfl (hb hby at_167) (by decide) k) ?_
      refine own_go (B := (T338.setTop (mkF m 169 #[iv p0, iv p1, iv p2, iv (2 : Int32), iv (2 : Int32), rv a1, rv a4, rv a9, rv a16, rv a25, iv (2 : Int32), rv a4, rv a1, .val .null, .val .null] [(.int p2), (.int (1 : Int32)), (.int (2 : Int32)), (.ref a1)]))) (fun t k => XS.iloadN X338.here hx rfl (hb hby at_168) rfl k) ?_
      obtain ⟨_, _, ⟨T339, L339, k339, n339⟩, -, X339, ⟨Lc339, hQ339, l339, y339, z339⟩, st339⟩ := Jvm.LawKit.callS X338 hx (y := own_y8) hown (mvT hZ w_36) (mvT hZ w_37) (mvT hZ w_38) (mvT hZ w_39) (by decide) (backOf (W := 0) (own_same1 l Z a0 hw [] a1 (2 : Int32) (1 : Int32) p2 p2 T325.heap n0 (own_Bn_exa F329 (List.mem_of_getElem? (i := 0) rfl)) (own_Bn_fld F329 (List.mem_of_getElem? (i := 0) rfl)) (by decide) (own_v0 (by decide))) hZ w_39 w_38 (by decide) (by decide)) (g := (mkF m 169 #[iv p0, iv p1, iv p2, iv (2 : Int32), iv (2 : Int32), rv a1, rv a4, rv a9, rv a16, rv a25, iv (2 : Int32), rv a4, rv a1, .val .null, .val .null] [(.int p2), (.int (1 : Int32)), (.int (2 : Int32)), (.ref a1)])) rfl (by rw [hml]; rfl) (argsL := [(.ref a1), (.int (2 : Int32)), (.int (1 : Int32)), (.int p2)]) (rest := []) (lenOf own_pd7 rfl) rfl (by show 2 * 0 + _ ≤ _; exact own_b rfl) (hb hby at_169) (fun _ _ => ⟨rfl, e338, (own_b rfl : 6 + 0 ≤ _), (own_b rfl : 9 + 0 ≤ _)⟩)
      dsimp only [Pt.U, Pt.locs, Pt.cells, Pt.slots] at X339 l339 y339 z339 st339 hQ339
      obtain ⟨rfl, Nq339, eq339⟩ := hQ339
      obtain ⟨L339, X339, N339⟩ := own_absC (K := 6) (K' := 9) X339 l339 y339 z339 N338 Nq339
      have e339 : T339.heap = T325.heap := eq339
      refine own_go (B := (T339.setTop (mkF m 172 #[iv p0, iv p1, iv p2, iv (2 : Int32), iv (2 : Int32), rv a1, rv a4, rv a9, rv a16, rv a25, iv (2 : Int32), rv a4, rv a1, .val .null, .val .null] [(.int (1 : Int32))]))) st339 ?_
      have hc172 : ¬ (1 : Int32) = (0 : Int32) := (by decide)
      refine own_ifN X339 hx (hb hby at_172) (pn := 175) rfl hc172 ?_
      refine own_go (B := (T339.setTop (mkF m 177 #[iv p0, iv p1, iv p2, iv (2 : Int32), iv (2 : Int32), rv a1, rv a4, rv a9, rv a16, rv a25, iv (2 : Int32), rv a4, rv a1, .val .null, .val .null] [.null]))) (fun t k => XS.aload X339.here hx rfl (hb hby at_175) rfl rfl k) ?_
      refine own_go (B := (T339.setTop (mkF m 179 #[iv p0, iv p1, iv p2, iv (2 : Int32), iv (2 : Int32), rv a1, rv a4, rv a9, rv a16, rv a25, iv (2 : Int32), rv a4, rv a1, .val .null, .val .null] [(.int (2 : Int32)), .null]))) (fun t k => XS.iload X339.here hx rfl (hb hby at_177) rfl k) ?_
      refine own_go (B := (T339.setTop (mkF m 180 #[iv p0, iv p1, iv p2, iv (2 : Int32), iv (2 : Int32), rv a1, rv a4, rv a9, rv a16, rv a25, iv (2 : Int32), rv a4, rv a1, .val .null, .val .null] [(.int (2 : Int32)), (.int (2 : Int32)), .null]))) (fun t k => own_iconst (v := (2 : Int32)) X339.here hx rfl (hb hby at_179) (by decide) k) ?_
      refine own_go (B := (T339.setTop (mkF m 181 #[iv p0, iv p1, iv p2, iv (2 : Int32), iv (2 : Int32), rv a1, rv a4, rv a9, rv a16, rv a25, iv (2 : Int32), rv a4, rv a1, .val .null, .val .null] [(.int p2), (.int (2 : Int32)), (.int (2 : Int32)), .null]))) (fun t k => XS.iloadN X339.here hx rfl (hb hby at_180) rfl k) ?_
      obtain ⟨_, _, ⟨T340, L340, k340, n340⟩, -, X340, ⟨Lc340, hQ340, l340, y340, z340⟩, st340⟩ := Jvm.LawKit.callS X339 hx (y := own_y8) hown (mvT hZ w_36) (mvT hZ w_37) (mvT hZ w_38) (mvT hZ w_39) (by decide) (backOf (W := 0) (own_same0 l Z a0 hw [] (2 : Int32) (2 : Int32) p2 T325.heap n0 (by decide)) hZ w_39 w_38 (by decide) (by decide)) (g := (mkF m 181 #[iv p0, iv p1, iv p2, iv (2 : Int32), iv (2 : Int32), rv a1, rv a4, rv a9, rv a16, rv a25, iv (2 : Int32), rv a4, rv a1, .val .null, .val .null] [(.int p2), (.int (2 : Int32)), (.int (2 : Int32)), .null])) rfl (by rw [hml]; rfl) (argsL := [.null, (.int (2 : Int32)), (.int (2 : Int32)), (.int p2)]) (rest := []) (lenOf own_pd7 rfl) rfl (by show 2 * 0 + _ ≤ _; exact own_b rfl) (hb hby at_181) (fun _ _ => ⟨rfl, e339, (own_b rfl : 6 + 0 ≤ _), (own_b rfl : 9 + 0 ≤ _)⟩)
      dsimp only [Pt.U, Pt.locs, Pt.cells, Pt.slots] at X340 l340 y340 z340 st340 hQ340
      obtain ⟨rfl, Nq340, eq340⟩ := hQ340
      obtain ⟨L340, X340, N340⟩ := own_absC (K := 6) (K' := 9) X340 l340 y340 z340 N339 Nq340
      have e340 : T340.heap = T325.heap := eq340
      refine own_go (B := (T340.setTop (mkF m 184 #[iv p0, iv p1, iv p2, iv (2 : Int32), iv (2 : Int32), rv a1, rv a4, rv a9, rv a16, rv a25, iv (2 : Int32), rv a4, rv a1, .val .null, .val .null] [(.int (1 : Int32))]))) st340 ?_
      have hc184 : ¬ (1 : Int32) = (0 : Int32) := (by decide)
      refine own_ifN X340 hx (hb hby at_184) (pn := 187) rfl hc184 ?_
      refine own_go (B := (T340.setTop (mkF m 189 #[iv p0, iv p1, iv p2, iv (2 : Int32), iv (2 : Int32), rv a1, rv a4, rv a9, rv a16, rv a25, iv (2 : Int32), rv a4, rv a1, .val .null, .val .null] [.null]))) (fun t k => XS.aload X340.here hx rfl (hb hby at_187) rfl rfl k) ?_
      refine own_go (B := (T340.setTop (mkF m 191 #[iv p0, iv p1, iv p2, iv (2 : Int32), iv (2 : Int32), rv a1, rv a4, rv a9, rv a16, rv a25, iv (2 : Int32), rv a4, rv a1, .val .null, .val .null] [(.int (2 : Int32)), .null]))) (fun t k => XS.iload X340.here hx rfl (hb hby at_189) rfl k) ?_
      refine own_go (B := (T340.setTop (mkF m 192 #[iv p0, iv p1, iv p2, iv (2 : Int32), iv (2 : Int32), rv a1, rv a4, rv a9, rv a16, rv a25, iv (2 : Int32), rv a4, rv a1, .val .null, .val .null] [(.int (3 : Int32)), (.int (2 : Int32)), .null]))) (fun t k => own_iconst (v := (3 : Int32)) X340.here hx rfl (hb hby at_191) (by decide) k) ?_
      refine own_go (B := (T340.setTop (mkF m 193 #[iv p0, iv p1, iv p2, iv (2 : Int32), iv (2 : Int32), rv a1, rv a4, rv a9, rv a16, rv a25, iv (2 : Int32), rv a4, rv a1, .val .null, .val .null] [(.int p2), (.int (3 : Int32)), (.int (2 : Int32)), .null]))) (fun t k => XS.iloadN X340.here hx rfl (hb hby at_192) rfl k) ?_
      obtain ⟨_, _, ⟨T341, L341, k341, n341⟩, -, X341, ⟨Lc341, hQ341, l341, y341, z341⟩, st341⟩ := Jvm.LawKit.callS X340 hx (y := own_y8) hown (mvT hZ w_36) (mvT hZ w_37) (mvT hZ w_38) (mvT hZ w_39) (by decide) (backOf (W := 0) (own_same0 l Z a0 hw [] (2 : Int32) (3 : Int32) p2 T325.heap n0 (by decide)) hZ w_39 w_38 (by decide) (by decide)) (g := (mkF m 193 #[iv p0, iv p1, iv p2, iv (2 : Int32), iv (2 : Int32), rv a1, rv a4, rv a9, rv a16, rv a25, iv (2 : Int32), rv a4, rv a1, .val .null, .val .null] [(.int p2), (.int (3 : Int32)), (.int (2 : Int32)), .null])) rfl (by rw [hml]; rfl) (argsL := [.null, (.int (2 : Int32)), (.int (3 : Int32)), (.int p2)]) (rest := []) (lenOf own_pd7 rfl) rfl (by show 2 * 0 + _ ≤ _; exact own_b rfl) (hb hby at_193) (fun _ _ => ⟨rfl, e340, (own_b rfl : 6 + 0 ≤ _), (own_b rfl : 9 + 0 ≤ _)⟩)
      dsimp only [Pt.U, Pt.locs, Pt.cells, Pt.slots] at X341 l341 y341 z341 st341 hQ341
      obtain ⟨rfl, Nq341, eq341⟩ := hQ341
      obtain ⟨L341, X341, N341⟩ := own_absC (K := 6) (K' := 9) X341 l341 y341 z341 N340 Nq341
      have e341 : T341.heap = T325.heap := eq341
      refine own_go (B := (T341.setTop (mkF m 196 #[iv p0, iv p1, iv p2, iv (2 : Int32), iv (2 : Int32), rv a1, rv a4, rv a9, rv a16, rv a25, iv (2 : Int32), rv a4, rv a1, .val .null, .val .null] [(.int (1 : Int32))]))) st341 ?_
      have hc196 : ¬ (1 : Int32) = (0 : Int32) := (by decide)
      refine own_ifN X341 hx (hb hby at_196) (pn := 199) rfl hc196 ?_
      refine own_go (B := (T341.setTop (mkF m 200 #[iv p0, iv p1, iv p2, iv (2 : Int32), iv (2 : Int32), rv a1, rv a4, rv a9, rv a16, rv a25, iv (2 : Int32), rv a4, rv a1, .val .null, .val .null] [(.int (1 : Int32))]))) (fun t k => own_iconst (v := (1 : Int32)) X341.here hx rfl (hb hby at_199) (by decide) k) ?_
      refine own_go (B := (T341.setTop (mkF m 204 #[iv p0, iv p1, iv p2, iv (2 : Int32), iv (2 : Int32), rv a1, rv a4, rv a9, rv a16, rv a25, iv (2 : Int32), rv a4, rv a1, .val .null, .val .null] [(.int (1 : Int32))]))) (fun t k => XS.goto X341.here hx rfl (pc0 := 200) (pc' := 204) rfl (hb hby at_200) (by decide) (by decide) k) ?_
      exact own_retZ X341 hx hlk Bd.returns (hb hby at_204) (by decide) (own_b rfl) (own_b rfl) (Q := (own_law_Q Z p0 p1 p2 ca h0 n0)) ⟨rfl, N341⟩
    · refine own_go (B := (T38.setTop (mkF m 54 #[iv p0, iv p1, iv p2, iv (2 : Int32), iv (3 : Int32), rv a1, rv a4, rv a9, rv a16, rv a25, .unset, .unset, .unset, .unset, .unset] [(.int (3 : Int32))]))) (fun t k => XS.iload X38.here hx rfl (hb hby at_52) rfl k) ?_
      have hc54 : (0 : Int32) < (3 : Int32) := (by decide)
      refine own_ifN X38 hx (hb hby at_54) (pn := 57) rfl hc54 ?_
      refine own_go (B := (T38.setTop (mkF m 59 #[iv p0, iv p1, iv p2, iv (2 : Int32), iv (3 : Int32), rv a1, rv a4, rv a9, rv a16, rv a25, .unset, .unset, .unset, .unset, .unset] [(.ref a25)]))) (fun t k => XS.aload X38.here hx rfl (hb hby at_57) rfl rfl k) ?_
      refine own_go (B := (T38.setTop (mkF m 61 #[iv p0, iv p1, iv p2, iv (2 : Int32), iv (3 : Int32), rv a1, rv a4, rv a9, rv a16, rv a25, .unset, .unset, .unset, .unset, .unset] [(.ref a1), (.ref a25)]))) (fun t k => XS.aload X38.here hx rfl (hb hby at_59) rfl rfl k) ?_
      obtain ⟨cq342, kq342, qa342, qb342, qc342⟩ := isOf hZ rfl Ex38
      obtain ⟨_, _, ⟨T342, L342, k342, n342⟩, -, X342, ⟨Lc342, hQ342, l342, y342, z342⟩, st342⟩ := X38.virtualBack hx (y := own_y9) (z := own_y9) hown (mvT hZ w_20) (mvT hZ w_21) (notFace_of_selects (args := #[]) (mvT hZ w_23)) (mvT hZ w_23) (mvT hZ w_22) (by decide) (backOf (W := 0) (own_kone l Z a0 hw [] a25 a1 ar38 (0 : Int32) (2 : Int32) (1 : Int32) [.null, .null] [(.ref a1), .null] T38.heap n0 Ex38 gk38 gc38 Vb F39 gn25 gn_ar38 ne_ar38_a25 (own_lenL (n := 2) rfl (by decide)) (by decide) (by decide) (Nat.lt_of_lt_of_eq (by decide : _ < 2) rfl) (by decide) (Ins.of_exa (own_Bn_exa BB (List.mem_of_getElem? (i := 0) rfl)) w_40) rfl) hZ w_24 w_9 (by decide) (by decide)) qa342 qc342 (g := (mkF m 61 #[iv p0, iv p1, iv p2, iv (2 : Int32), iv (3 : Int32), rv a1, rv a4, rv a9, rv a16, rv a25, .unset, .unset, .unset, .unset, .unset] [(.ref a1), (.ref a25)])) rfl (by rw [hml]; rfl) (Steps.refl _) (argsL := [(.ref a1)]) (rest := []) (lenOf own_pd8 rfl) rfl (by show 2 * 0 + _ ≤ _; exact own_b rfl) (hb hby at_61) (fun _ _ => ⟨rfl, rfl, (own_b rfl : 6 + 0 ≤ _), (own_b rfl : 9 + 0 ≤ _)⟩)
      dsimp only [Pt.U, Pt.locs, Pt.cells, Pt.slots] at X342 l342 y342 z342 st342 hQ342
      obtain ⟨rfl, Nq342, K342, Ex342, gk342, gc342, gv342⟩ := hQ342
      obtain ⟨L342, X342, N342⟩ := own_absC (K := 6) (K' := 9) X342 l342 y342 z342 N38 Nq342
      have F343 : n0 ≤ T342.heap.size := Nat.le_trans F39 K342.1
      have F344 := Keep.trans F40 K342 (allS (Or.inr (Nat.le_trans F18.1 (Nat.le_of_eq ga25.symm))) (allS (Or.inr (Nat.le_trans K27.1 gz38)) all0))
      have F345 := Exa.keep Ex38 K342
      have F349 := own_Bn_keep BB K342 hbq
      refine own_tr (B := (T342.setTop (mkF m 64 #[iv p0, iv p1, iv p2, iv (2 : Int32), iv (3 : Int32), rv a1, rv a4, rv a9, rv a16, rv a25, .unset, .unset, .unset, .unset, .unset] []))) st342 ?_
      refine own_go (B := (T342.setTop (mkF m 66 #[iv p0, iv p1, iv p2, iv (2 : Int32), iv (3 : Int32), rv a1, rv a4, rv a9, rv a16, rv a25, .unset, .unset, .unset, .unset, .unset] [(.int (3 : Int32))]))) (fun t k => XS.iload X342.here hx rfl (hb hby at_64) rfl k) ?_
      refine own_go (B := (T342.setTop (mkF m 67 #[iv p0, iv p1, iv p2, iv (2 : Int32), iv (3 : Int32), rv a1, rv a4, rv a9, rv a16, rv a25, .unset, .unset, .unset, .unset, .unset] [(.int (1 : Int32)), (.int (3 : Int32))]))) (fun t k => own_iconst (v := (1 : Int32)) X342.here hx rfl (hb hby at_66) (by decide) k) ?_
      have hc67 : (1 : Int32) < (3 : Int32) := (by decide)
      refine own_icmpN X342 hx (hb hby at_67) (pn := 70) rfl hc67 ?_
      refine own_go (B := (T342.setTop (mkF m 72 #[iv p0, iv p1, iv p2, iv (2 : Int32), iv (3 : Int32), rv a1, rv a4, rv a9, rv a16, rv a25, .unset, .unset, .unset, .unset, .unset] [(.ref a25)]))) (fun t k => XS.aload X342.here hx rfl (hb hby at_70) rfl rfl k) ?_
      refine own_go (B := (T342.setTop (mkF m 74 #[iv p0, iv p1, iv p2, iv (2 : Int32), iv (3 : Int32), rv a1, rv a4, rv a9, rv a16, rv a25, .unset, .unset, .unset, .unset, .unset] [(.ref a4), (.ref a25)]))) (fun t k => XS.aload X342.here hx rfl (hb hby at_72) rfl rfl k) ?_
      obtain ⟨cq350, kq350, qa350, qb350, qc350⟩ := isOf hZ rfl Ex342
      obtain ⟨_, _, ⟨T350, L350, k350, n350⟩, -, X350, ⟨Lc350, hQ350, l350, y350, z350⟩, st350⟩ := X342.virtualBack hx (y := own_y9) (z := own_y9) hown (mvT hZ w_20) (mvT hZ w_21) (notFace_of_selects (args := #[]) (mvT hZ w_23)) (mvT hZ w_23) (mvT hZ w_22) (by decide) (backOf (W := 0) (own_kone l Z a0 hw [] a25 a4 ar38 (1 : Int32) (2 : Int32) (2 : Int32) [(.ref a1), .null] [(.ref a1), (.ref a4)] T342.heap n0 Ex342 gk342 gc342 gv342 F343 gn25 gn_ar38 ne_ar38_a25 (own_lenL (n := 2) rfl (by decide)) (by decide) (by decide) (Nat.lt_of_lt_of_eq (by decide : _ < 2) rfl) (by decide) (Ins.of_exa (own_Bn_exa F349 (List.mem_of_getElem? (i := 1) rfl)) w_40) rfl) hZ w_24 w_9 (by decide) (by decide)) qa350 qc350 (g := (mkF m 74 #[iv p0, iv p1, iv p2, iv (2 : Int32), iv (3 : Int32), rv a1, rv a4, rv a9, rv a16, rv a25, .unset, .unset, .unset, .unset, .unset] [(.ref a4), (.ref a25)])) rfl (by rw [hml]; rfl) (Steps.refl _) (argsL := [(.ref a4)]) (rest := []) (lenOf own_pd8 rfl) rfl (by show 2 * 0 + _ ≤ _; exact own_b rfl) (hb hby at_74) (fun _ _ => ⟨rfl, rfl, (own_b rfl : 6 + 0 ≤ _), (own_b rfl : 9 + 0 ≤ _)⟩)
      dsimp only [Pt.U, Pt.locs, Pt.cells, Pt.slots] at X350 l350 y350 z350 st350 hQ350
      obtain ⟨rfl, Nq350, K350, Ex350, gk350, gc350, gv350⟩ := hQ350
      obtain ⟨L350, X350, N350⟩ := own_absC (K := 6) (K' := 9) X350 l350 y350 z350 N342 Nq350
      have F351 : n0 ≤ T350.heap.size := Nat.le_trans F343 K350.1
      have F352 := Keep.trans F344 K350 (allS (Or.inr (Nat.le_trans F18.1 (Nat.le_of_eq ga25.symm))) (allS (Or.inr (Nat.le_trans K27.1 gz38)) all0))
      have F353 := Exa.keep Ex342 K350
      have F354 := own_Bn_keep F349 K350 hbq
      refine own_tr (B := (T350.setTop (mkF m 77 #[iv p0, iv p1, iv p2, iv (2 : Int32), iv (3 : Int32), rv a1, rv a4, rv a9, rv a16, rv a25, .unset, .unset, .unset, .unset, .unset] []))) st350 ?_
      refine own_go (B := (T350.setTop (mkF m 79 #[iv p0, iv p1, iv p2, iv (2 : Int32), iv (3 : Int32), rv a1, rv a4, rv a9, rv a16, rv a25, .unset, .unset, .unset, .unset, .unset] [(.int (3 : Int32))]))) (fun t k => XS.iload X350.here hx rfl (hb hby at_77) rfl k) ?_
      refine own_go (B := (T350.setTop (mkF m 80 #[iv p0, iv p1, iv p2, iv (2 : Int32), iv (3 : Int32), rv a1, rv a4, rv a9, rv a16, rv a25, .unset, .unset, .unset, .unset, .unset] [(.int (2 : Int32)), (.int (3 : Int32))]))) (fun t k => own_iconst (v := (2 : Int32)) X350.here hx rfl (hb hby at_79) (by decide) k) ?_
      have hc80 : (2 : Int32) < (3 : Int32) := (by decide)
      refine own_icmpN X350 hx (hb hby at_80) (pn := 83) rfl hc80 ?_
      refine own_go (B := (T350.setTop (mkF m 85 #[iv p0, iv p1, iv p2, iv (2 : Int32), iv (3 : Int32), rv a1, rv a4, rv a9, rv a16, rv a25, .unset, .unset, .unset, .unset, .unset] [(.ref a25)]))) (fun t k => XS.aload X350.here hx rfl (hb hby at_83) rfl rfl k) ?_
      refine own_go (B := (T350.setTop (mkF m 87 #[iv p0, iv p1, iv p2, iv (2 : Int32), iv (3 : Int32), rv a1, rv a4, rv a9, rv a16, rv a25, .unset, .unset, .unset, .unset, .unset] [(.ref a9), (.ref a25)]))) (fun t k => XS.aload X350.here hx rfl (hb hby at_85) rfl rfl k) ?_
      obtain ⟨cq358, kq358, qa358, qb358, qc358⟩ := isOf hZ rfl Ex350
      obtain ⟨_, _, ⟨T358, L358, k358, n358⟩, -, X358, ⟨Lc358, hQ358, l358, y358, z358⟩, st358⟩ := X350.virtualBack hx (y := own_y9) (z := own_y9) hown (mvT hZ w_20) (mvT hZ w_21) (notFace_of_selects (args := #[]) (mvT hZ w_23)) (mvT hZ w_23) (mvT hZ w_22) (by decide) (backOf (W := 0) (own_kfull l Z a0 hw [] a25 a9 ar38 (2 : Int32) (2 : Int32) [(.ref a1), (.ref a4)] T350.heap n0 Ex350 gk350 gc350 gv350 (own_lenL (n := 2) rfl (by decide)) (by decide)) hZ w_24 w_9 (by decide) (by decide)) qa358 qc358 (g := (mkF m 87 #[iv p0, iv p1, iv p2, iv (2 : Int32), iv (3 : Int32), rv a1, rv a4, rv a9, rv a16, rv a25, .unset, .unset, .unset, .unset, .unset] [(.ref a9), (.ref a25)])) rfl (by rw [hml]; rfl) (Steps.refl _) (argsL := [(.ref a9)]) (rest := []) (lenOf own_pd8 rfl) rfl (by show 2 * 0 + _ ≤ _; exact own_b rfl) (hb hby at_87) (fun _ _ => ⟨rfl, rfl, (own_b rfl : 6 + 0 ≤ _), (own_b rfl : 9 + 0 ≤ _)⟩)
      dsimp only [Pt.U, Pt.locs, Pt.cells, Pt.slots] at X358 l358 y358 z358 st358 hQ358
      obtain ⟨rfl, Nq358, eq358⟩ := hQ358
      obtain ⟨L358, X358, N358⟩ := own_absC (K := 6) (K' := 9) X358 l358 y358 z358 N350 Nq358
      have e358 : T358.heap = T350.heap := eq358
      refine own_tr (B := (T358.setTop (mkF m 90 #[iv p0, iv p1, iv p2, iv (2 : Int32), iv (3 : Int32), rv a1, rv a4, rv a9, rv a16, rv a25, .unset, .unset, .unset, .unset, .unset] []))) st358 ?_
      refine own_go (B := (T358.setTop (mkF m 92 #[iv p0, iv p1, iv p2, iv (2 : Int32), iv (3 : Int32), rv a1, rv a4, rv a9, rv a16, rv a25, .unset, .unset, .unset, .unset, .unset] [(.int (3 : Int32))]))) (fun t k => XS.iload X358.here hx rfl (hb hby at_90) rfl k) ?_
      refine own_go (B := (T358.setTop (mkF m 93 #[iv p0, iv p1, iv p2, iv (2 : Int32), iv (3 : Int32), rv a1, rv a4, rv a9, rv a16, rv a25, .unset, .unset, .unset, .unset, .unset] [(.int (3 : Int32)), (.int (3 : Int32))]))) (fun t k => own_iconst (v := (3 : Int32)) X358.here hx rfl (hb hby at_92) (by decide) k) ?_
      have hc93 : ¬ (3 : Int32) < (3 : Int32) := (by decide)
      refine own_icmpY X358 hx (hb hby at_93) (pc' := 103) (by decide) (by decide) hc93 ?_
      refine own_go (B := (T358.setTop (mkF m 105 #[iv p0, iv p1, iv p2, iv (2 : Int32), iv (3 : Int32), rv a1, rv a4, rv a9, rv a16, rv a25, .unset, .unset, .unset, .unset, .unset] [(.int (3 : Int32))]))) (fun t k => XS.iload X358.here hx rfl (hb hby at_103) rfl k) ?_
      refine own_go (B := (T358.setTop (mkF m 106 #[iv p0, iv p1, iv p2, iv (2 : Int32), iv (3 : Int32), rv a1, rv a4, rv a9, rv a16, rv a25, .unset, .unset, .unset, .unset, .unset] [(.int (2 : Int32)), (.int (3 : Int32))]))) (fun t k => XS.iloadN X358.here hx rfl (hb hby at_105) rfl k) ?_
      obtain ⟨_, _, ⟨T359, L359, k359, n359⟩, -, X359, ⟨Lc359, hQ359, l359, y359, z359⟩, st359⟩ := Jvm.LawKit.callS X358 hx (y := own_y6) hown (mvT hZ w_27) (mvT hZ w_28) (mvT hZ w_29) (mvT hZ w_30) (by decide) (backOf (W := 0) (own_mmin l Z a0 hw [] (3 : Int32) (2 : Int32) T350.heap n0) hZ w_30 w_29 (by decide) (by decide)) (g := (mkF m 106 #[iv p0, iv p1, iv p2, iv (2 : Int32), iv (3 : Int32), rv a1, rv a4, rv a9, rv a16, rv a25, .unset, .unset, .unset, .unset, .unset] [(.int (2 : Int32)), (.int (3 : Int32))])) rfl (by rw [hml]; rfl) (argsL := [(.int (3 : Int32)), (.int (2 : Int32))]) (rest := []) (lenOf own_pd5 rfl) rfl (by show 2 * 0 + _ ≤ _; exact own_b rfl) (hb hby at_106) (fun _ _ => ⟨rfl, e358, (own_b rfl : 6 + 0 ≤ _), (own_b rfl : 9 + 0 ≤ _)⟩)
      dsimp only [Pt.U, Pt.locs, Pt.cells, Pt.slots] at X359 l359 y359 z359 st359 hQ359
      obtain ⟨rfl, Nq359, eq359⟩ := hQ359
      obtain ⟨L359, X359, N359⟩ := own_absC (K := 6) (K' := 9) X359 l359 y359 z359 N358 Nq359
      have e359 : T359.heap = T350.heap := eq359
      refine own_go (B := (T359.setTop (mkF m 109 #[iv p0, iv p1, iv p2, iv (2 : Int32), iv (3 : Int32), rv a1, rv a4, rv a9, rv a16, rv a25, .unset, .unset, .unset, .unset, .unset] [(.int (own_min (3 : Int32) (2 : Int32)))]))) st359 ?_
      rw [show own_min (3 : Int32) (2 : Int32) = (2 : Int32) from by decide]
      refine own_go (B := (T359.setTop (mkF m 111 #[iv p0, iv p1, iv p2, iv (2 : Int32), iv (3 : Int32), rv a1, rv a4, rv a9, rv a16, rv a25, iv (2 : Int32), .unset, .unset, .unset, .unset] []))) (fun t k => XS.istore X359.here hx rfl (hb hby at_109) rfl (l' := #[iv p0, iv p1, iv p2, iv (2 : Int32), iv (3 : Int32), rv a1, rv a4, rv a9, rv a16, rv a25, iv (2 : Int32), .unset, .unset, .unset, .unset]) rfl k) ?_
      refine own_go (B := (T359.setTop (mkF m 113 #[iv p0, iv p1, iv p2, iv (2 : Int32), iv (3 : Int32), rv a1, rv a4, rv a9, rv a16, rv a25, iv (2 : Int32), .unset, .unset, .unset, .unset] [(.ref a25)]))) (fun t k => XS.aload X359.here hx rfl (hb hby at_111) rfl rfl k) ?_
      obtain ⟨cq360, kq360, qa360, qb360, qc360⟩ := isOf hZ e359 Ex350
      obtain ⟨_, _, ⟨T360, L360, k360, n360⟩, -, X360, ⟨Lc360, hQ360, l360, y360, z360⟩, st360⟩ := X359.virtualBack hx (y := own_y7) (z := own_y7) hown (mvT hZ w_31) (mvT hZ w_32) (notFace_of_selects (args := #[]) (mvT hZ w_34)) (mvT hZ w_34) (mvT hZ w_33) (by decide) (backOf (W := 0) (own_tone l Z a0 hw [] a25 ar38 a4 (2 : Int32) (1 : Int32) [(.ref a1), (.ref a4)] [(.ref a1), .null] T350.heap n0 Ex350 gk350 gc350 gv350 F351 gn25 gn_ar38 ne_ar38_a25 (by decide) (by decide) (by decide) rfl rfl) hZ w_35 w_9 (by decide) (by decide)) qa360 qc360 (g := (mkF m 113 #[iv p0, iv p1, iv p2, iv (2 : Int32), iv (3 : Int32), rv a1, rv a4, rv a9, rv a16, rv a25, iv (2 : Int32), .unset, .unset, .unset, .unset] [(.ref a25)])) rfl (by rw [hml]; rfl) (Steps.refl _) (argsL := []) (rest := []) (lenOf own_pd6 rfl) rfl (by show 2 * 0 + _ ≤ _; exact own_b rfl) (hb hby at_113) (fun _ _ => ⟨rfl, e359, (own_b rfl : 6 + 0 ≤ _), (own_b rfl : 9 + 0 ≤ _)⟩)
      dsimp only [Pt.U, Pt.locs, Pt.cells, Pt.slots] at X360 l360 y360 z360 st360 hQ360
      obtain ⟨rfl, Nq360, K360, Ex360, gk360, gc360, gv360⟩ := hQ360
      obtain ⟨L360, X360, N360⟩ := own_absC (K := 6) (K' := 9) X360 l360 y360 z360 N359 Nq360
      have F361 : n0 ≤ T360.heap.size := Nat.le_trans F351 K360.1
      have F362 := Keep.trans F352 K360 (allS (Or.inr (Nat.le_trans F18.1 (Nat.le_of_eq ga25.symm))) (allS (Or.inr (Nat.le_trans K27.1 gz38)) all0))
      have F363 := Exa.keep Ex350 K360
      have F364 := own_Bn_keep F354 K360 hbq
      refine own_tr (B := (T360.setTop (mkF m 116 #[iv p0, iv p1, iv p2, iv (2 : Int32), iv (3 : Int32), rv a1, rv a4, rv a9, rv a16, rv a25, iv (2 : Int32), .unset, .unset, .unset, .unset] [(.ref a4)]))) st360 ?_
      obtain ⟨T368, X368, e368, st368⟩ := castY X360 hx hZ hown w_41 rfl (Ins.of_exa (own_Bn_exa F364 (List.mem_of_getElem? (i := 1) rfl)) w_42) (g := (mkF m 116 #[iv p0, iv p1, iv p2, iv (2 : Int32), iv (3 : Int32), rv a1, rv a4, rv a9, rv a16, rv a25, iv (2 : Int32), .unset, .unset, .unset, .unset] [(.ref a4)])) rfl rfl (hb hby at_116)
      refine own_go (B := (T368.setTop (mkF m 119 #[iv p0, iv p1, iv p2, iv (2 : Int32), iv (3 : Int32), rv a1, rv a4, rv a9, rv a16, rv a25, iv (2 : Int32), .unset, .unset, .unset, .unset] [(.ref a4)]))) st368 ?_
      refine own_go (B := (T368.setTop (mkF m 121 #[iv p0, iv p1, iv p2, iv (2 : Int32), iv (3 : Int32), rv a1, rv a4, rv a9, rv a16, rv a25, iv (2 : Int32), rv a4, .unset, .unset, .unset] []))) (fun t k => XS.astore X368.here hx rfl (hb hby at_119) rfl rfl (l' := #[iv p0, iv p1, iv p2, iv (2 : Int32), iv (3 : Int32), rv a1, rv a4, rv a9, rv a16, rv a25, iv (2 : Int32), rv a4, .unset, .unset, .unset]) rfl k) ?_
      refine own_go (B := (T368.setTop (mkF m 123 #[iv p0, iv p1, iv p2, iv (2 : Int32), iv (3 : Int32), rv a1, rv a4, rv a9, rv a16, rv a25, iv (2 : Int32), rv a4, .unset, .unset, .unset] [(.ref a25)]))) (fun t k => XS.aload X368.here hx rfl (hb hby at_121) rfl rfl k) ?_
      obtain ⟨cq369, kq369, qa369, qb369, qc369⟩ := isOf hZ e368 Ex360
      obtain ⟨_, _, ⟨T369, L369, k369, n369⟩, -, X369, ⟨Lc369, hQ369, l369, y369, z369⟩, st369⟩ := X368.virtualBack hx (y := own_y7) (z := own_y7) hown (mvT hZ w_31) (mvT hZ w_32) (notFace_of_selects (args := #[]) (mvT hZ w_34)) (mvT hZ w_34) (mvT hZ w_33) (by decide) (backOf (W := 0) (own_tone l Z a0 hw [] a25 ar38 a1 (1 : Int32) (0 : Int32) [(.ref a1), .null] [.null, .null] T360.heap n0 Ex360 gk360 gc360 gv360 F361 gn25 gn_ar38 ne_ar38_a25 (by decide) (by decide) (by decide) rfl rfl) hZ w_35 w_9 (by decide) (by decide)) qa369 qc369 (g := (mkF m 123 #[iv p0, iv p1, iv p2, iv (2 : Int32), iv (3 : Int32), rv a1, rv a4, rv a9, rv a16, rv a25, iv (2 : Int32), rv a4, .unset, .unset, .unset] [(.ref a25)])) rfl (by rw [hml]; rfl) (Steps.refl _) (argsL := []) (rest := []) (lenOf own_pd6 rfl) rfl (by show 2 * 0 + _ ≤ _; exact own_b rfl) (hb hby at_123) (fun _ _ => ⟨rfl, e368, (own_b rfl : 6 + 0 ≤ _), (own_b rfl : 9 + 0 ≤ _)⟩)
      dsimp only [Pt.U, Pt.locs, Pt.cells, Pt.slots] at X369 l369 y369 z369 st369 hQ369
      obtain ⟨rfl, Nq369, K369, Ex369, gk369, gc369, gv369⟩ := hQ369
      obtain ⟨L369, X369, N369⟩ := own_absC (K := 6) (K' := 9) X369 l369 y369 z369 N360 Nq369
      have F370 : n0 ≤ T369.heap.size := Nat.le_trans F361 K369.1
      have F371 := Keep.trans F362 K369 (allS (Or.inr (Nat.le_trans F18.1 (Nat.le_of_eq ga25.symm))) (allS (Or.inr (Nat.le_trans K27.1 gz38)) all0))
      have F372 := Exa.keep Ex360 K369
      have F373 := own_Bn_keep F364 K369 hbq
      refine own_tr (B := (T369.setTop (mkF m 126 #[iv p0, iv p1, iv p2, iv (2 : Int32), iv (3 : Int32), rv a1, rv a4, rv a9, rv a16, rv a25, iv (2 : Int32), rv a4, .unset, .unset, .unset] [(.ref a1)]))) st369 ?_
      obtain ⟨T377, X377, e377, st377⟩ := castY X369 hx hZ hown w_41 rfl (Ins.of_exa (own_Bn_exa F373 (List.mem_of_getElem? (i := 0) rfl)) w_42) (g := (mkF m 126 #[iv p0, iv p1, iv p2, iv (2 : Int32), iv (3 : Int32), rv a1, rv a4, rv a9, rv a16, rv a25, iv (2 : Int32), rv a4, .unset, .unset, .unset] [(.ref a1)])) rfl rfl (hb hby at_126)
      refine own_go (B := (T377.setTop (mkF m 129 #[iv p0, iv p1, iv p2, iv (2 : Int32), iv (3 : Int32), rv a1, rv a4, rv a9, rv a16, rv a25, iv (2 : Int32), rv a4, .unset, .unset, .unset] [(.ref a1)]))) st377 ?_
      refine own_go (B := (T377.setTop (mkF m 131 #[iv p0, iv p1, iv p2, iv (2 : Int32), iv (3 : Int32), rv a1, rv a4, rv a9, rv a16, rv a25, iv (2 : Int32), rv a4, rv a1, .unset, .unset] []))) (fun t k => XS.astore X377.here hx rfl (hb hby at_129) rfl rfl (l' := #[iv p0, iv p1, iv p2, iv (2 : Int32), iv (3 : Int32), rv a1, rv a4, rv a9, rv a16, rv a25, iv (2 : Int32), rv a4, rv a1, .unset, .unset]) rfl k) ?_
      refine own_go (B := (T377.setTop (mkF m 133 #[iv p0, iv p1, iv p2, iv (2 : Int32), iv (3 : Int32), rv a1, rv a4, rv a9, rv a16, rv a25, iv (2 : Int32), rv a4, rv a1, .unset, .unset] [(.ref a25)]))) (fun t k => XS.aload X377.here hx rfl (hb hby at_131) rfl rfl k) ?_
      obtain ⟨cq378, kq378, qa378, qb378, qc378⟩ := isOf hZ e377 Ex369
      obtain ⟨_, _, ⟨T378, L378, k378, n378⟩, -, X378, ⟨Lc378, hQ378, l378, y378, z378⟩, st378⟩ := X377.virtualBack hx (y := own_y7) (z := own_y7) hown (mvT hZ w_31) (mvT hZ w_32) (notFace_of_selects (args := #[]) (mvT hZ w_34)) (mvT hZ w_34) (mvT hZ w_33) (by decide) (backOf (W := 0) (own_tnone l Z a0 hw [] a25 T369.heap n0 gc369) hZ w_35 w_9 (by decide) (by decide)) qa378 qc378 (g := (mkF m 133 #[iv p0, iv p1, iv p2, iv (2 : Int32), iv (3 : Int32), rv a1, rv a4, rv a9, rv a16, rv a25, iv (2 : Int32), rv a4, rv a1, .unset, .unset] [(.ref a25)])) rfl (by rw [hml]; rfl) (Steps.refl _) (argsL := []) (rest := []) (lenOf own_pd6 rfl) rfl (by show 2 * 0 + _ ≤ _; exact own_b rfl) (hb hby at_133) (fun _ _ => ⟨rfl, e377, (own_b rfl : 6 + 0 ≤ _), (own_b rfl : 9 + 0 ≤ _)⟩)
      dsimp only [Pt.U, Pt.locs, Pt.cells, Pt.slots] at X378 l378 y378 z378 st378 hQ378
      obtain ⟨rfl, Nq378, eq378⟩ := hQ378
      obtain ⟨L378, X378, N378⟩ := own_absC (K := 6) (K' := 9) X378 l378 y378 z378 N369 Nq378
      have e378 : T378.heap = T369.heap := eq378
      refine own_tr (B := (T378.setTop (mkF m 136 #[iv p0, iv p1, iv p2, iv (2 : Int32), iv (3 : Int32), rv a1, rv a4, rv a9, rv a16, rv a25, iv (2 : Int32), rv a4, rv a1, .unset, .unset] [.null]))) st378 ?_
      refine own_go (B := (T378.setTop (mkF m 139 #[iv p0, iv p1, iv p2, iv (2 : Int32), iv (3 : Int32), rv a1, rv a4, rv a9, rv a16, rv a25, iv (2 : Int32), rv a4, rv a1, .unset, .unset] [.null]))) (X378.checkcastNull hx (g := (mkF m 136 #[iv p0, iv p1, iv p2, iv (2 : Int32), iv (3 : Int32), rv a1, rv a4, rv a9, rv a16, rv a25, iv (2 : Int32), rv a4, rv a1, .unset, .unset] [.null])) rfl rfl (hb hby at_136)) ?_
      refine own_go (B := (T378.setTop (mkF m 141 #[iv p0, iv p1, iv p2, iv (2 : Int32), iv (3 : Int32), rv a1, rv a4, rv a9, rv a16, rv a25, iv (2 : Int32), rv a4, rv a1, .val .null, .unset] []))) (fun t k => XS.astore X378.here hx rfl (hb hby at_139) rfl rfl (l' := #[iv p0, iv p1, iv p2, iv (2 : Int32), iv (3 : Int32), rv a1, rv a4, rv a9, rv a16, rv a25, iv (2 : Int32), rv a4, rv a1, .val .null, .unset]) rfl k) ?_
      refine own_go (B := (T378.setTop (mkF m 143 #[iv p0, iv p1, iv p2, iv (2 : Int32), iv (3 : Int32), rv a1, rv a4, rv a9, rv a16, rv a25, iv (2 : Int32), rv a4, rv a1, .val .null, .unset] [(.ref a25)]))) (fun t k => XS.aload X378.here hx rfl (hb hby at_141) rfl rfl k) ?_
      obtain ⟨cq380, kq380, qa380, qb380, qc380⟩ := isOf hZ e378 Ex369
      obtain ⟨_, _, ⟨T380, L380, k380, n380⟩, -, X380, ⟨Lc380, hQ380, l380, y380, z380⟩, st380⟩ := X378.virtualBack hx (y := own_y7) (z := own_y7) hown (mvT hZ w_31) (mvT hZ w_32) (notFace_of_selects (args := #[]) (mvT hZ w_34)) (mvT hZ w_34) (mvT hZ w_33) (by decide) (backOf (W := 0) (own_tnone l Z a0 hw [] a25 T369.heap n0 gc369) hZ w_35 w_9 (by decide) (by decide)) qa380 qc380 (g := (mkF m 143 #[iv p0, iv p1, iv p2, iv (2 : Int32), iv (3 : Int32), rv a1, rv a4, rv a9, rv a16, rv a25, iv (2 : Int32), rv a4, rv a1, .val .null, .unset] [(.ref a25)])) rfl (by rw [hml]; rfl) (Steps.refl _) (argsL := []) (rest := []) (lenOf own_pd6 rfl) rfl (by show 2 * 0 + _ ≤ _; exact own_b rfl) (hb hby at_143) (fun _ _ => ⟨rfl, e378, (own_b rfl : 6 + 0 ≤ _), (own_b rfl : 9 + 0 ≤ _)⟩)
      dsimp only [Pt.U, Pt.locs, Pt.cells, Pt.slots] at X380 l380 y380 z380 st380 hQ380
      obtain ⟨rfl, Nq380, eq380⟩ := hQ380
      obtain ⟨L380, X380, N380⟩ := own_absC (K := 6) (K' := 9) X380 l380 y380 z380 N378 Nq380
      have e380 : T380.heap = T369.heap := eq380
      refine own_tr (B := (T380.setTop (mkF m 146 #[iv p0, iv p1, iv p2, iv (2 : Int32), iv (3 : Int32), rv a1, rv a4, rv a9, rv a16, rv a25, iv (2 : Int32), rv a4, rv a1, .val .null, .unset] [.null]))) st380 ?_
      refine own_go (B := (T380.setTop (mkF m 149 #[iv p0, iv p1, iv p2, iv (2 : Int32), iv (3 : Int32), rv a1, rv a4, rv a9, rv a16, rv a25, iv (2 : Int32), rv a4, rv a1, .val .null, .unset] [.null]))) (X380.checkcastNull hx (g := (mkF m 146 #[iv p0, iv p1, iv p2, iv (2 : Int32), iv (3 : Int32), rv a1, rv a4, rv a9, rv a16, rv a25, iv (2 : Int32), rv a4, rv a1, .val .null, .unset] [.null])) rfl rfl (hb hby at_146)) ?_
      refine own_go (B := (T380.setTop (mkF m 151 #[iv p0, iv p1, iv p2, iv (2 : Int32), iv (3 : Int32), rv a1, rv a4, rv a9, rv a16, rv a25, iv (2 : Int32), rv a4, rv a1, .val .null, .val .null] []))) (fun t k => XS.astore X380.here hx rfl (hb hby at_149) rfl rfl (l' := #[iv p0, iv p1, iv p2, iv (2 : Int32), iv (3 : Int32), rv a1, rv a4, rv a9, rv a16, rv a25, iv (2 : Int32), rv a4, rv a1, .val .null, .val .null]) rfl k) ?_
      refine own_go (B := (T380.setTop (mkF m 153 #[iv p0, iv p1, iv p2, iv (2 : Int32), iv (3 : Int32), rv a1, rv a4, rv a9, rv a16, rv a25, iv (2 : Int32), rv a4, rv a1, .val .null, .val .null] [(.ref a4)]))) (fun t k => XS.aload X380.here hx rfl (hb hby at_151) rfl rfl k) ?_
      refine own_go (B := (T380.setTop (mkF m 155 #[iv p0, iv p1, iv p2, iv (2 : Int32), iv (3 : Int32), rv a1, rv a4, rv a9, rv a16, rv a25, iv (2 : Int32), rv a4, rv a1, .val .null, .val .null] [(.int (2 : Int32)), (.ref a4)]))) (fun t k => XS.iload X380.here hx rfl (hb hby at_153) rfl k) ?_
      refine own_go (B := (T380.setTop (mkF m 156 #[iv p0, iv p1, iv p2, iv (2 : Int32), iv (3 : Int32), rv a1, rv a4, rv a9, rv a16, rv a25, iv (2 : Int32), rv a4, rv a1, .val .null, .val .null] [(.int (0 : Int32)), (.int (2 : Int32)), (.ref a4)]))) (fun t k => own_iconst (v := (0 : Int32)) X380.here hx rfl (hb hby at_155) (by decide) k) ?_
      refine own_go (B := (T380.setTop (mkF m 157 #[iv p0, iv p1, iv p2, iv (2 : Int32), iv (3 : Int32), rv a1, rv a4, rv a9, rv a16, rv a25, iv (2 : Int32), rv a4, rv a1, .val .null, .val .null] [(.int p2), (.int (0 : Int32)), (.int (2 : Int32)), (.ref a4)]))) (fun t k => XS.iloadN X380.here hx rfl (hb hby at_156) rfl k) ?_
      obtain ⟨_, _, ⟨T382, L382, k382, n382⟩, -, X382, ⟨Lc382, hQ382, l382, y382, z382⟩, st382⟩ := Jvm.LawKit.callS X380 hx (y := own_y8) hown (mvT hZ w_36) (mvT hZ w_37) (mvT hZ w_38) (mvT hZ w_39) (by decide) (backOf (W := 0) (own_same1 l Z a0 hw [] a4 (2 : Int32) (0 : Int32) p2 (p2 + (1 : Int32)) T369.heap n0 (own_Bn_exa F373 (List.mem_of_getElem? (i := 1) rfl)) (own_Bn_fld F373 (List.mem_of_getElem? (i := 1) rfl)) (by decide) (own_vi (by decide))) hZ w_39 w_38 (by decide) (by decide)) (g := (mkF m 157 #[iv p0, iv p1, iv p2, iv (2 : Int32), iv (3 : Int32), rv a1, rv a4, rv a9, rv a16, rv a25, iv (2 : Int32), rv a4, rv a1, .val .null, .val .null] [(.int p2), (.int (0 : Int32)), (.int (2 : Int32)), (.ref a4)])) rfl (by rw [hml]; rfl) (argsL := [(.ref a4), (.int (2 : Int32)), (.int (0 : Int32)), (.int p2)]) (rest := []) (lenOf own_pd7 rfl) rfl (by show 2 * 0 + _ ≤ _; exact own_b rfl) (hb hby at_157) (fun _ _ => ⟨rfl, e380, (own_b rfl : 6 + 0 ≤ _), (own_b rfl : 9 + 0 ≤ _)⟩)
      dsimp only [Pt.U, Pt.locs, Pt.cells, Pt.slots] at X382 l382 y382 z382 st382 hQ382
      obtain ⟨rfl, Nq382, eq382⟩ := hQ382
      obtain ⟨L382, X382, N382⟩ := own_absC (K := 6) (K' := 9) X382 l382 y382 z382 N380 Nq382
      have e382 : T382.heap = T369.heap := eq382
      refine own_go (B := (T382.setTop (mkF m 160 #[iv p0, iv p1, iv p2, iv (2 : Int32), iv (3 : Int32), rv a1, rv a4, rv a9, rv a16, rv a25, iv (2 : Int32), rv a4, rv a1, .val .null, .val .null] [(.int (1 : Int32))]))) st382 ?_
      have hc160 : ¬ (1 : Int32) = (0 : Int32) := (by decide)
      refine own_ifN X382 hx (hb hby at_160) (pn := 163) rfl hc160 ?_
      refine own_go (B := (T382.setTop (mkF m 165 #[iv p0, iv p1, iv p2, iv (2 : Int32), iv (3 : Int32), rv a1, rv a4, rv a9, rv a16, rv a25, iv (2 : Int32), rv a4, rv a1, .val .null, .val .null] [(.ref a1)]))) (fun t k => XS.aload X382.here hx rfl (hb hby at_163) rfl rfl k) ?_
      refine own_go (B := (T382.setTop (mkF m 167 #[iv p0, iv p1, iv p2, iv (2 : Int32), iv (3 : Int32), rv a1, rv a4, rv a9, rv a16, rv a25, iv (2 : Int32), rv a4, rv a1, .val .null, .val .null] [(.int (2 : Int32)), (.ref a1)]))) (fun t k => XS.iload X382.here hx rfl (hb hby at_165) rfl k) ?_
      refine own_go (B := (T382.setTop (mkF m 168 #[iv p0, iv p1, iv p2, iv (2 : Int32), iv (3 : Int32), rv a1, rv a4, rv a9, rv a16, rv a25, iv (2 : Int32), rv a4, rv a1, .val .null, .val .null] [(.int (1 : Int32)), (.int (2 : Int32)), (.ref a1)]))) (fun t k => own_iconst (v := (1 : Int32)) X382.here hx rfl (hb hby at_167) (by decide) k) ?_
      refine own_go (B := (T382.setTop (mkF m 169 #[iv p0, iv p1, iv p2, iv (2 : Int32), iv (3 : Int32), rv a1, rv a4, rv a9, rv a16, rv a25, iv (2 : Int32), rv a4, rv a1, .val .null, .val .null] [(.int p2), (.int (1 : Int32)), (.int (2 : Int32)), (.ref a1)]))) (fun t k => XS.iloadN X382.here hx rfl (hb hby at_168) rfl k) ?_
      obtain ⟨_, _, ⟨T383, L383, k383, n383⟩, -, X383, ⟨Lc383, hQ383, l383, y383, z383⟩, st383⟩ := Jvm.LawKit.callS X382 hx (y := own_y8) hown (mvT hZ w_36) (mvT hZ w_37) (mvT hZ w_38) (mvT hZ w_39) (by decide) (backOf (W := 0) (own_same1 l Z a0 hw [] a1 (2 : Int32) (1 : Int32) p2 p2 T369.heap n0 (own_Bn_exa F373 (List.mem_of_getElem? (i := 0) rfl)) (own_Bn_fld F373 (List.mem_of_getElem? (i := 0) rfl)) (by decide) (own_v0 (by decide))) hZ w_39 w_38 (by decide) (by decide)) (g := (mkF m 169 #[iv p0, iv p1, iv p2, iv (2 : Int32), iv (3 : Int32), rv a1, rv a4, rv a9, rv a16, rv a25, iv (2 : Int32), rv a4, rv a1, .val .null, .val .null] [(.int p2), (.int (1 : Int32)), (.int (2 : Int32)), (.ref a1)])) rfl (by rw [hml]; rfl) (argsL := [(.ref a1), (.int (2 : Int32)), (.int (1 : Int32)), (.int p2)]) (rest := []) (lenOf own_pd7 rfl) rfl (by show 2 * 0 + _ ≤ _; exact own_b rfl) (hb hby at_169) (fun _ _ => ⟨rfl, e382, (own_b rfl : 6 + 0 ≤ _), (own_b rfl : 9 + 0 ≤ _)⟩)
      dsimp only [Pt.U, Pt.locs, Pt.cells, Pt.slots] at X383 l383 y383 z383 st383 hQ383
      obtain ⟨rfl, Nq383, eq383⟩ := hQ383
      obtain ⟨L383, X383, N383⟩ := own_absC (K := 6) (K' := 9) X383 l383 y383 z383 N382 Nq383
      have e383 : T383.heap = T369.heap := eq383
      refine own_go (B := (T383.setTop (mkF m 172 #[iv p0, iv p1, iv p2, iv (2 : Int32), iv (3 : Int32), rv a1, rv a4, rv a9, rv a16, rv a25, iv (2 : Int32), rv a4, rv a1, .val .null, .val .null] [(.int (1 : Int32))]))) st383 ?_
      have hc172 : ¬ (1 : Int32) = (0 : Int32) := (by decide)
      refine own_ifN X383 hx (hb hby at_172) (pn := 175) rfl hc172 ?_
      refine own_go (B := (T383.setTop (mkF m 177 #[iv p0, iv p1, iv p2, iv (2 : Int32), iv (3 : Int32), rv a1, rv a4, rv a9, rv a16, rv a25, iv (2 : Int32), rv a4, rv a1, .val .null, .val .null] [.null]))) (fun t k => XS.aload X383.here hx rfl (hb hby at_175) rfl rfl k) ?_
      refine own_go (B := (T383.setTop (mkF m 179 #[iv p0, iv p1, iv p2, iv (2 : Int32), iv (3 : Int32), rv a1, rv a4, rv a9, rv a16, rv a25, iv (2 : Int32), rv a4, rv a1, .val .null, .val .null] [(.int (2 : Int32)), .null]))) (fun t k => XS.iload X383.here hx rfl (hb hby at_177) rfl k) ?_
      refine own_go (B := (T383.setTop (mkF m 180 #[iv p0, iv p1, iv p2, iv (2 : Int32), iv (3 : Int32), rv a1, rv a4, rv a9, rv a16, rv a25, iv (2 : Int32), rv a4, rv a1, .val .null, .val .null] [(.int (2 : Int32)), (.int (2 : Int32)), .null]))) (fun t k => own_iconst (v := (2 : Int32)) X383.here hx rfl (hb hby at_179) (by decide) k) ?_
      refine own_go (B := (T383.setTop (mkF m 181 #[iv p0, iv p1, iv p2, iv (2 : Int32), iv (3 : Int32), rv a1, rv a4, rv a9, rv a16, rv a25, iv (2 : Int32), rv a4, rv a1, .val .null, .val .null] [(.int p2), (.int (2 : Int32)), (.int (2 : Int32)), .null]))) (fun t k => XS.iloadN X383.here hx rfl (hb hby at_180) rfl k) ?_
      obtain ⟨_, _, ⟨T384, L384, k384, n384⟩, -, X384, ⟨Lc384, hQ384, l384, y384, z384⟩, st384⟩ := Jvm.LawKit.callS X383 hx (y := own_y8) hown (mvT hZ w_36) (mvT hZ w_37) (mvT hZ w_38) (mvT hZ w_39) (by decide) (backOf (W := 0) (own_same0 l Z a0 hw [] (2 : Int32) (2 : Int32) p2 T369.heap n0 (by decide)) hZ w_39 w_38 (by decide) (by decide)) (g := (mkF m 181 #[iv p0, iv p1, iv p2, iv (2 : Int32), iv (3 : Int32), rv a1, rv a4, rv a9, rv a16, rv a25, iv (2 : Int32), rv a4, rv a1, .val .null, .val .null] [(.int p2), (.int (2 : Int32)), (.int (2 : Int32)), .null])) rfl (by rw [hml]; rfl) (argsL := [.null, (.int (2 : Int32)), (.int (2 : Int32)), (.int p2)]) (rest := []) (lenOf own_pd7 rfl) rfl (by show 2 * 0 + _ ≤ _; exact own_b rfl) (hb hby at_181) (fun _ _ => ⟨rfl, e383, (own_b rfl : 6 + 0 ≤ _), (own_b rfl : 9 + 0 ≤ _)⟩)
      dsimp only [Pt.U, Pt.locs, Pt.cells, Pt.slots] at X384 l384 y384 z384 st384 hQ384
      obtain ⟨rfl, Nq384, eq384⟩ := hQ384
      obtain ⟨L384, X384, N384⟩ := own_absC (K := 6) (K' := 9) X384 l384 y384 z384 N383 Nq384
      have e384 : T384.heap = T369.heap := eq384
      refine own_go (B := (T384.setTop (mkF m 184 #[iv p0, iv p1, iv p2, iv (2 : Int32), iv (3 : Int32), rv a1, rv a4, rv a9, rv a16, rv a25, iv (2 : Int32), rv a4, rv a1, .val .null, .val .null] [(.int (1 : Int32))]))) st384 ?_
      have hc184 : ¬ (1 : Int32) = (0 : Int32) := (by decide)
      refine own_ifN X384 hx (hb hby at_184) (pn := 187) rfl hc184 ?_
      refine own_go (B := (T384.setTop (mkF m 189 #[iv p0, iv p1, iv p2, iv (2 : Int32), iv (3 : Int32), rv a1, rv a4, rv a9, rv a16, rv a25, iv (2 : Int32), rv a4, rv a1, .val .null, .val .null] [.null]))) (fun t k => XS.aload X384.here hx rfl (hb hby at_187) rfl rfl k) ?_
      refine own_go (B := (T384.setTop (mkF m 191 #[iv p0, iv p1, iv p2, iv (2 : Int32), iv (3 : Int32), rv a1, rv a4, rv a9, rv a16, rv a25, iv (2 : Int32), rv a4, rv a1, .val .null, .val .null] [(.int (2 : Int32)), .null]))) (fun t k => XS.iload X384.here hx rfl (hb hby at_189) rfl k) ?_
      refine own_go (B := (T384.setTop (mkF m 192 #[iv p0, iv p1, iv p2, iv (2 : Int32), iv (3 : Int32), rv a1, rv a4, rv a9, rv a16, rv a25, iv (2 : Int32), rv a4, rv a1, .val .null, .val .null] [(.int (3 : Int32)), (.int (2 : Int32)), .null]))) (fun t k => own_iconst (v := (3 : Int32)) X384.here hx rfl (hb hby at_191) (by decide) k) ?_
      refine own_go (B := (T384.setTop (mkF m 193 #[iv p0, iv p1, iv p2, iv (2 : Int32), iv (3 : Int32), rv a1, rv a4, rv a9, rv a16, rv a25, iv (2 : Int32), rv a4, rv a1, .val .null, .val .null] [(.int p2), (.int (3 : Int32)), (.int (2 : Int32)), .null]))) (fun t k => XS.iloadN X384.here hx rfl (hb hby at_192) rfl k) ?_
      obtain ⟨_, _, ⟨T385, L385, k385, n385⟩, -, X385, ⟨Lc385, hQ385, l385, y385, z385⟩, st385⟩ := Jvm.LawKit.callS X384 hx (y := own_y8) hown (mvT hZ w_36) (mvT hZ w_37) (mvT hZ w_38) (mvT hZ w_39) (by decide) (backOf (W := 0) (own_same0 l Z a0 hw [] (2 : Int32) (3 : Int32) p2 T369.heap n0 (by decide)) hZ w_39 w_38 (by decide) (by decide)) (g := (mkF m 193 #[iv p0, iv p1, iv p2, iv (2 : Int32), iv (3 : Int32), rv a1, rv a4, rv a9, rv a16, rv a25, iv (2 : Int32), rv a4, rv a1, .val .null, .val .null] [(.int p2), (.int (3 : Int32)), (.int (2 : Int32)), .null])) rfl (by rw [hml]; rfl) (argsL := [.null, (.int (2 : Int32)), (.int (3 : Int32)), (.int p2)]) (rest := []) (lenOf own_pd7 rfl) rfl (by show 2 * 0 + _ ≤ _; exact own_b rfl) (hb hby at_193) (fun _ _ => ⟨rfl, e384, (own_b rfl : 6 + 0 ≤ _), (own_b rfl : 9 + 0 ≤ _)⟩)
      dsimp only [Pt.U, Pt.locs, Pt.cells, Pt.slots] at X385 l385 y385 z385 st385 hQ385
      obtain ⟨rfl, Nq385, eq385⟩ := hQ385
      obtain ⟨L385, X385, N385⟩ := own_absC (K := 6) (K' := 9) X385 l385 y385 z385 N384 Nq385
      have e385 : T385.heap = T369.heap := eq385
      refine own_go (B := (T385.setTop (mkF m 196 #[iv p0, iv p1, iv p2, iv (2 : Int32), iv (3 : Int32), rv a1, rv a4, rv a9, rv a16, rv a25, iv (2 : Int32), rv a4, rv a1, .val .null, .val .null] [(.int (1 : Int32))]))) st385 ?_
      have hc196 : ¬ (1 : Int32) = (0 : Int32) := (by decide)
      refine own_ifN X385 hx (hb hby at_196) (pn := 199) rfl hc196 ?_
      refine own_go (B := (T385.setTop (mkF m 200 #[iv p0, iv p1, iv p2, iv (2 : Int32), iv (3 : Int32), rv a1, rv a4, rv a9, rv a16, rv a25, iv (2 : Int32), rv a4, rv a1, .val .null, .val .null] [(.int (1 : Int32))]))) (fun t k => own_iconst (v := (1 : Int32)) X385.here hx rfl (hb hby at_199) (by decide) k) ?_
      refine own_go (B := (T385.setTop (mkF m 204 #[iv p0, iv p1, iv p2, iv (2 : Int32), iv (3 : Int32), rv a1, rv a4, rv a9, rv a16, rv a25, iv (2 : Int32), rv a4, rv a1, .val .null, .val .null] [(.int (1 : Int32))]))) (fun t k => XS.goto X385.here hx rfl (pc0 := 200) (pc' := 204) rfl (hb hby at_200) (by decide) (by decide) k) ?_
      exact own_retZ X385 hx hlk Bd.returns (hb hby at_204) (by decide) (own_b rfl) (own_b rfl) (Q := (own_law_Q Z p0 p1 p2 ca h0 n0)) ⟨rfl, N385⟩
    · refine own_go (B := (T38.setTop (mkF m 54 #[iv p0, iv p1, iv p2, iv (2 : Int32), iv (4 : Int32), rv a1, rv a4, rv a9, rv a16, rv a25, .unset, .unset, .unset, .unset, .unset] [(.int (4 : Int32))]))) (fun t k => XS.iload X38.here hx rfl (hb hby at_52) rfl k) ?_
      have hc54 : (0 : Int32) < (4 : Int32) := (by decide)
      refine own_ifN X38 hx (hb hby at_54) (pn := 57) rfl hc54 ?_
      refine own_go (B := (T38.setTop (mkF m 59 #[iv p0, iv p1, iv p2, iv (2 : Int32), iv (4 : Int32), rv a1, rv a4, rv a9, rv a16, rv a25, .unset, .unset, .unset, .unset, .unset] [(.ref a25)]))) (fun t k => XS.aload X38.here hx rfl (hb hby at_57) rfl rfl k) ?_
      refine own_go (B := (T38.setTop (mkF m 61 #[iv p0, iv p1, iv p2, iv (2 : Int32), iv (4 : Int32), rv a1, rv a4, rv a9, rv a16, rv a25, .unset, .unset, .unset, .unset, .unset] [(.ref a1), (.ref a25)]))) (fun t k => XS.aload X38.here hx rfl (hb hby at_59) rfl rfl k) ?_
      obtain ⟨cq386, kq386, qa386, qb386, qc386⟩ := isOf hZ rfl Ex38
      obtain ⟨_, _, ⟨T386, L386, k386, n386⟩, -, X386, ⟨Lc386, hQ386, l386, y386, z386⟩, st386⟩ := X38.virtualBack hx (y := own_y9) (z := own_y9) hown (mvT hZ w_20) (mvT hZ w_21) (notFace_of_selects (args := #[]) (mvT hZ w_23)) (mvT hZ w_23) (mvT hZ w_22) (by decide) (backOf (W := 0) (own_kone l Z a0 hw [] a25 a1 ar38 (0 : Int32) (2 : Int32) (1 : Int32) [.null, .null] [(.ref a1), .null] T38.heap n0 Ex38 gk38 gc38 Vb F39 gn25 gn_ar38 ne_ar38_a25 (own_lenL (n := 2) rfl (by decide)) (by decide) (by decide) (Nat.lt_of_lt_of_eq (by decide : _ < 2) rfl) (by decide) (Ins.of_exa (own_Bn_exa BB (List.mem_of_getElem? (i := 0) rfl)) w_40) rfl) hZ w_24 w_9 (by decide) (by decide)) qa386 qc386 (g := (mkF m 61 #[iv p0, iv p1, iv p2, iv (2 : Int32), iv (4 : Int32), rv a1, rv a4, rv a9, rv a16, rv a25, .unset, .unset, .unset, .unset, .unset] [(.ref a1), (.ref a25)])) rfl (by rw [hml]; rfl) (Steps.refl _) (argsL := [(.ref a1)]) (rest := []) (lenOf own_pd8 rfl) rfl (by show 2 * 0 + _ ≤ _; exact own_b rfl) (hb hby at_61) (fun _ _ => ⟨rfl, rfl, (own_b rfl : 6 + 0 ≤ _), (own_b rfl : 9 + 0 ≤ _)⟩)
      dsimp only [Pt.U, Pt.locs, Pt.cells, Pt.slots] at X386 l386 y386 z386 st386 hQ386
      obtain ⟨rfl, Nq386, K386, Ex386, gk386, gc386, gv386⟩ := hQ386
      obtain ⟨L386, X386, N386⟩ := own_absC (K := 6) (K' := 9) X386 l386 y386 z386 N38 Nq386
      have F387 : n0 ≤ T386.heap.size := Nat.le_trans F39 K386.1
      have F388 := Keep.trans F40 K386 (allS (Or.inr (Nat.le_trans F18.1 (Nat.le_of_eq ga25.symm))) (allS (Or.inr (Nat.le_trans K27.1 gz38)) all0))
      have F389 := Exa.keep Ex38 K386
      have F393 := own_Bn_keep BB K386 hbq
      refine own_tr (B := (T386.setTop (mkF m 64 #[iv p0, iv p1, iv p2, iv (2 : Int32), iv (4 : Int32), rv a1, rv a4, rv a9, rv a16, rv a25, .unset, .unset, .unset, .unset, .unset] []))) st386 ?_
      refine own_go (B := (T386.setTop (mkF m 66 #[iv p0, iv p1, iv p2, iv (2 : Int32), iv (4 : Int32), rv a1, rv a4, rv a9, rv a16, rv a25, .unset, .unset, .unset, .unset, .unset] [(.int (4 : Int32))]))) (fun t k => XS.iload X386.here hx rfl (hb hby at_64) rfl k) ?_
      refine own_go (B := (T386.setTop (mkF m 67 #[iv p0, iv p1, iv p2, iv (2 : Int32), iv (4 : Int32), rv a1, rv a4, rv a9, rv a16, rv a25, .unset, .unset, .unset, .unset, .unset] [(.int (1 : Int32)), (.int (4 : Int32))]))) (fun t k => own_iconst (v := (1 : Int32)) X386.here hx rfl (hb hby at_66) (by decide) k) ?_
      have hc67 : (1 : Int32) < (4 : Int32) := (by decide)
      refine own_icmpN X386 hx (hb hby at_67) (pn := 70) rfl hc67 ?_
      refine own_go (B := (T386.setTop (mkF m 72 #[iv p0, iv p1, iv p2, iv (2 : Int32), iv (4 : Int32), rv a1, rv a4, rv a9, rv a16, rv a25, .unset, .unset, .unset, .unset, .unset] [(.ref a25)]))) (fun t k => XS.aload X386.here hx rfl (hb hby at_70) rfl rfl k) ?_
      refine own_go (B := (T386.setTop (mkF m 74 #[iv p0, iv p1, iv p2, iv (2 : Int32), iv (4 : Int32), rv a1, rv a4, rv a9, rv a16, rv a25, .unset, .unset, .unset, .unset, .unset] [(.ref a4), (.ref a25)]))) (fun t k => XS.aload X386.here hx rfl (hb hby at_72) rfl rfl k) ?_
      obtain ⟨cq394, kq394, qa394, qb394, qc394⟩ := isOf hZ rfl Ex386
      obtain ⟨_, _, ⟨T394, L394, k394, n394⟩, -, X394, ⟨Lc394, hQ394, l394, y394, z394⟩, st394⟩ := X386.virtualBack hx (y := own_y9) (z := own_y9) hown (mvT hZ w_20) (mvT hZ w_21) (notFace_of_selects (args := #[]) (mvT hZ w_23)) (mvT hZ w_23) (mvT hZ w_22) (by decide) (backOf (W := 0) (own_kone l Z a0 hw [] a25 a4 ar38 (1 : Int32) (2 : Int32) (2 : Int32) [(.ref a1), .null] [(.ref a1), (.ref a4)] T386.heap n0 Ex386 gk386 gc386 gv386 F387 gn25 gn_ar38 ne_ar38_a25 (own_lenL (n := 2) rfl (by decide)) (by decide) (by decide) (Nat.lt_of_lt_of_eq (by decide : _ < 2) rfl) (by decide) (Ins.of_exa (own_Bn_exa F393 (List.mem_of_getElem? (i := 1) rfl)) w_40) rfl) hZ w_24 w_9 (by decide) (by decide)) qa394 qc394 (g := (mkF m 74 #[iv p0, iv p1, iv p2, iv (2 : Int32), iv (4 : Int32), rv a1, rv a4, rv a9, rv a16, rv a25, .unset, .unset, .unset, .unset, .unset] [(.ref a4), (.ref a25)])) rfl (by rw [hml]; rfl) (Steps.refl _) (argsL := [(.ref a4)]) (rest := []) (lenOf own_pd8 rfl) rfl (by show 2 * 0 + _ ≤ _; exact own_b rfl) (hb hby at_74) (fun _ _ => ⟨rfl, rfl, (own_b rfl : 6 + 0 ≤ _), (own_b rfl : 9 + 0 ≤ _)⟩)
      dsimp only [Pt.U, Pt.locs, Pt.cells, Pt.slots] at X394 l394 y394 z394 st394 hQ394
      obtain ⟨rfl, Nq394, K394, Ex394, gk394, gc394, gv394⟩ := hQ394
      obtain ⟨L394, X394, N394⟩ := own_absC (K := 6) (K' := 9) X394 l394 y394 z394 N386 Nq394
      have F395 : n0 ≤ T394.heap.size := Nat.le_trans F387 K394.1
      have F396 := Keep.trans F388 K394 (allS (Or.inr (Nat.le_trans F18.1 (Nat.le_of_eq ga25.symm))) (allS (Or.inr (Nat.le_trans K27.1 gz38)) all0))
      have F397 := Exa.keep Ex386 K394
      have F398 := own_Bn_keep F393 K394 hbq
      refine own_tr (B := (T394.setTop (mkF m 77 #[iv p0, iv p1, iv p2, iv (2 : Int32), iv (4 : Int32), rv a1, rv a4, rv a9, rv a16, rv a25, .unset, .unset, .unset, .unset, .unset] []))) st394 ?_
      refine own_go (B := (T394.setTop (mkF m 79 #[iv p0, iv p1, iv p2, iv (2 : Int32), iv (4 : Int32), rv a1, rv a4, rv a9, rv a16, rv a25, .unset, .unset, .unset, .unset, .unset] [(.int (4 : Int32))]))) (fun t k => XS.iload X394.here hx rfl (hb hby at_77) rfl k) ?_
      refine own_go (B := (T394.setTop (mkF m 80 #[iv p0, iv p1, iv p2, iv (2 : Int32), iv (4 : Int32), rv a1, rv a4, rv a9, rv a16, rv a25, .unset, .unset, .unset, .unset, .unset] [(.int (2 : Int32)), (.int (4 : Int32))]))) (fun t k => own_iconst (v := (2 : Int32)) X394.here hx rfl (hb hby at_79) (by decide) k) ?_
      have hc80 : (2 : Int32) < (4 : Int32) := (by decide)
      refine own_icmpN X394 hx (hb hby at_80) (pn := 83) rfl hc80 ?_
      refine own_go (B := (T394.setTop (mkF m 85 #[iv p0, iv p1, iv p2, iv (2 : Int32), iv (4 : Int32), rv a1, rv a4, rv a9, rv a16, rv a25, .unset, .unset, .unset, .unset, .unset] [(.ref a25)]))) (fun t k => XS.aload X394.here hx rfl (hb hby at_83) rfl rfl k) ?_
      refine own_go (B := (T394.setTop (mkF m 87 #[iv p0, iv p1, iv p2, iv (2 : Int32), iv (4 : Int32), rv a1, rv a4, rv a9, rv a16, rv a25, .unset, .unset, .unset, .unset, .unset] [(.ref a9), (.ref a25)]))) (fun t k => XS.aload X394.here hx rfl (hb hby at_85) rfl rfl k) ?_
      obtain ⟨cq402, kq402, qa402, qb402, qc402⟩ := isOf hZ rfl Ex394
      obtain ⟨_, _, ⟨T402, L402, k402, n402⟩, -, X402, ⟨Lc402, hQ402, l402, y402, z402⟩, st402⟩ := X394.virtualBack hx (y := own_y9) (z := own_y9) hown (mvT hZ w_20) (mvT hZ w_21) (notFace_of_selects (args := #[]) (mvT hZ w_23)) (mvT hZ w_23) (mvT hZ w_22) (by decide) (backOf (W := 0) (own_kfull l Z a0 hw [] a25 a9 ar38 (2 : Int32) (2 : Int32) [(.ref a1), (.ref a4)] T394.heap n0 Ex394 gk394 gc394 gv394 (own_lenL (n := 2) rfl (by decide)) (by decide)) hZ w_24 w_9 (by decide) (by decide)) qa402 qc402 (g := (mkF m 87 #[iv p0, iv p1, iv p2, iv (2 : Int32), iv (4 : Int32), rv a1, rv a4, rv a9, rv a16, rv a25, .unset, .unset, .unset, .unset, .unset] [(.ref a9), (.ref a25)])) rfl (by rw [hml]; rfl) (Steps.refl _) (argsL := [(.ref a9)]) (rest := []) (lenOf own_pd8 rfl) rfl (by show 2 * 0 + _ ≤ _; exact own_b rfl) (hb hby at_87) (fun _ _ => ⟨rfl, rfl, (own_b rfl : 6 + 0 ≤ _), (own_b rfl : 9 + 0 ≤ _)⟩)
      dsimp only [Pt.U, Pt.locs, Pt.cells, Pt.slots] at X402 l402 y402 z402 st402 hQ402
      obtain ⟨rfl, Nq402, eq402⟩ := hQ402
      obtain ⟨L402, X402, N402⟩ := own_absC (K := 6) (K' := 9) X402 l402 y402 z402 N394 Nq402
      have e402 : T402.heap = T394.heap := eq402
      refine own_tr (B := (T402.setTop (mkF m 90 #[iv p0, iv p1, iv p2, iv (2 : Int32), iv (4 : Int32), rv a1, rv a4, rv a9, rv a16, rv a25, .unset, .unset, .unset, .unset, .unset] []))) st402 ?_
      refine own_go (B := (T402.setTop (mkF m 92 #[iv p0, iv p1, iv p2, iv (2 : Int32), iv (4 : Int32), rv a1, rv a4, rv a9, rv a16, rv a25, .unset, .unset, .unset, .unset, .unset] [(.int (4 : Int32))]))) (fun t k => XS.iload X402.here hx rfl (hb hby at_90) rfl k) ?_
      refine own_go (B := (T402.setTop (mkF m 93 #[iv p0, iv p1, iv p2, iv (2 : Int32), iv (4 : Int32), rv a1, rv a4, rv a9, rv a16, rv a25, .unset, .unset, .unset, .unset, .unset] [(.int (3 : Int32)), (.int (4 : Int32))]))) (fun t k => own_iconst (v := (3 : Int32)) X402.here hx rfl (hb hby at_92) (by decide) k) ?_
      have hc93 : (3 : Int32) < (4 : Int32) := (by decide)
      refine own_icmpN X402 hx (hb hby at_93) (pn := 96) rfl hc93 ?_
      refine own_go (B := (T402.setTop (mkF m 98 #[iv p0, iv p1, iv p2, iv (2 : Int32), iv (4 : Int32), rv a1, rv a4, rv a9, rv a16, rv a25, .unset, .unset, .unset, .unset, .unset] [(.ref a25)]))) (fun t k => XS.aload X402.here hx rfl (hb hby at_96) rfl rfl k) ?_
      refine own_go (B := (T402.setTop (mkF m 100 #[iv p0, iv p1, iv p2, iv (2 : Int32), iv (4 : Int32), rv a1, rv a4, rv a9, rv a16, rv a25, .unset, .unset, .unset, .unset, .unset] [(.ref a16), (.ref a25)]))) (fun t k => XS.aload X402.here hx rfl (hb hby at_98) rfl rfl k) ?_
      obtain ⟨cq403, kq403, qa403, qb403, qc403⟩ := isOf hZ e402 Ex394
      obtain ⟨_, _, ⟨T403, L403, k403, n403⟩, -, X403, ⟨Lc403, hQ403, l403, y403, z403⟩, st403⟩ := X402.virtualBack hx (y := own_y9) (z := own_y9) hown (mvT hZ w_20) (mvT hZ w_21) (notFace_of_selects (args := #[]) (mvT hZ w_23)) (mvT hZ w_23) (mvT hZ w_22) (by decide) (backOf (W := 0) (own_kfull l Z a0 hw [] a25 a16 ar38 (2 : Int32) (2 : Int32) [(.ref a1), (.ref a4)] T394.heap n0 Ex394 gk394 gc394 gv394 (own_lenL (n := 2) rfl (by decide)) (by decide)) hZ w_24 w_9 (by decide) (by decide)) qa403 qc403 (g := (mkF m 100 #[iv p0, iv p1, iv p2, iv (2 : Int32), iv (4 : Int32), rv a1, rv a4, rv a9, rv a16, rv a25, .unset, .unset, .unset, .unset, .unset] [(.ref a16), (.ref a25)])) rfl (by rw [hml]; rfl) (Steps.refl _) (argsL := [(.ref a16)]) (rest := []) (lenOf own_pd8 rfl) rfl (by show 2 * 0 + _ ≤ _; exact own_b rfl) (hb hby at_100) (fun _ _ => ⟨rfl, e402, (own_b rfl : 6 + 0 ≤ _), (own_b rfl : 9 + 0 ≤ _)⟩)
      dsimp only [Pt.U, Pt.locs, Pt.cells, Pt.slots] at X403 l403 y403 z403 st403 hQ403
      obtain ⟨rfl, Nq403, eq403⟩ := hQ403
      obtain ⟨L403, X403, N403⟩ := own_absC (K := 6) (K' := 9) X403 l403 y403 z403 N402 Nq403
      have e403 : T403.heap = T394.heap := eq403
      refine own_tr (B := (T403.setTop (mkF m 103 #[iv p0, iv p1, iv p2, iv (2 : Int32), iv (4 : Int32), rv a1, rv a4, rv a9, rv a16, rv a25, .unset, .unset, .unset, .unset, .unset] []))) st403 ?_
      refine own_go (B := (T403.setTop (mkF m 105 #[iv p0, iv p1, iv p2, iv (2 : Int32), iv (4 : Int32), rv a1, rv a4, rv a9, rv a16, rv a25, .unset, .unset, .unset, .unset, .unset] [(.int (4 : Int32))]))) (fun t k => XS.iload X403.here hx rfl (hb hby at_103) rfl k) ?_
      refine own_go (B := (T403.setTop (mkF m 106 #[iv p0, iv p1, iv p2, iv (2 : Int32), iv (4 : Int32), rv a1, rv a4, rv a9, rv a16, rv a25, .unset, .unset, .unset, .unset, .unset] [(.int (2 : Int32)), (.int (4 : Int32))]))) (fun t k => XS.iloadN X403.here hx rfl (hb hby at_105) rfl k) ?_
      obtain ⟨_, _, ⟨T404, L404, k404, n404⟩, -, X404, ⟨Lc404, hQ404, l404, y404, z404⟩, st404⟩ := Jvm.LawKit.callS X403 hx (y := own_y6) hown (mvT hZ w_27) (mvT hZ w_28) (mvT hZ w_29) (mvT hZ w_30) (by decide) (backOf (W := 0) (own_mmin l Z a0 hw [] (4 : Int32) (2 : Int32) T394.heap n0) hZ w_30 w_29 (by decide) (by decide)) (g := (mkF m 106 #[iv p0, iv p1, iv p2, iv (2 : Int32), iv (4 : Int32), rv a1, rv a4, rv a9, rv a16, rv a25, .unset, .unset, .unset, .unset, .unset] [(.int (2 : Int32)), (.int (4 : Int32))])) rfl (by rw [hml]; rfl) (argsL := [(.int (4 : Int32)), (.int (2 : Int32))]) (rest := []) (lenOf own_pd5 rfl) rfl (by show 2 * 0 + _ ≤ _; exact own_b rfl) (hb hby at_106) (fun _ _ => ⟨rfl, e403, (own_b rfl : 6 + 0 ≤ _), (own_b rfl : 9 + 0 ≤ _)⟩)
      dsimp only [Pt.U, Pt.locs, Pt.cells, Pt.slots] at X404 l404 y404 z404 st404 hQ404
      obtain ⟨rfl, Nq404, eq404⟩ := hQ404
      obtain ⟨L404, X404, N404⟩ := own_absC (K := 6) (K' := 9) X404 l404 y404 z404 N403 Nq404
      have e404 : T404.heap = T394.heap := eq404
      refine own_go (B := (T404.setTop (mkF m 109 #[iv p0, iv p1, iv p2, iv (2 : Int32), iv (4 : Int32), rv a1, rv a4, rv a9, rv a16, rv a25, .unset, .unset, .unset, .unset, .unset] [(.int (own_min (4 : Int32) (2 : Int32)))]))) st404 ?_
      rw [show own_min (4 : Int32) (2 : Int32) = (2 : Int32) from by decide]
      refine own_go (B := (T404.setTop (mkF m 111 #[iv p0, iv p1, iv p2, iv (2 : Int32), iv (4 : Int32), rv a1, rv a4, rv a9, rv a16, rv a25, iv (2 : Int32), .unset, .unset, .unset, .unset] []))) (fun t k => XS.istore X404.here hx rfl (hb hby at_109) rfl (l' := #[iv p0, iv p1, iv p2, iv (2 : Int32), iv (4 : Int32), rv a1, rv a4, rv a9, rv a16, rv a25, iv (2 : Int32), .unset, .unset, .unset, .unset]) rfl k) ?_
      refine own_go (B := (T404.setTop (mkF m 113 #[iv p0, iv p1, iv p2, iv (2 : Int32), iv (4 : Int32), rv a1, rv a4, rv a9, rv a16, rv a25, iv (2 : Int32), .unset, .unset, .unset, .unset] [(.ref a25)]))) (fun t k => XS.aload X404.here hx rfl (hb hby at_111) rfl rfl k) ?_
      obtain ⟨cq405, kq405, qa405, qb405, qc405⟩ := isOf hZ e404 Ex394
      obtain ⟨_, _, ⟨T405, L405, k405, n405⟩, -, X405, ⟨Lc405, hQ405, l405, y405, z405⟩, st405⟩ := X404.virtualBack hx (y := own_y7) (z := own_y7) hown (mvT hZ w_31) (mvT hZ w_32) (notFace_of_selects (args := #[]) (mvT hZ w_34)) (mvT hZ w_34) (mvT hZ w_33) (by decide) (backOf (W := 0) (own_tone l Z a0 hw [] a25 ar38 a4 (2 : Int32) (1 : Int32) [(.ref a1), (.ref a4)] [(.ref a1), .null] T394.heap n0 Ex394 gk394 gc394 gv394 F395 gn25 gn_ar38 ne_ar38_a25 (by decide) (by decide) (by decide) rfl rfl) hZ w_35 w_9 (by decide) (by decide)) qa405 qc405 (g := (mkF m 113 #[iv p0, iv p1, iv p2, iv (2 : Int32), iv (4 : Int32), rv a1, rv a4, rv a9, rv a16, rv a25, iv (2 : Int32), .unset, .unset, .unset, .unset] [(.ref a25)])) rfl (by rw [hml]; rfl) (Steps.refl _) (argsL := []) (rest := []) (lenOf own_pd6 rfl) rfl (by show 2 * 0 + _ ≤ _; exact own_b rfl) (hb hby at_113) (fun _ _ => ⟨rfl, e404, (own_b rfl : 6 + 0 ≤ _), (own_b rfl : 9 + 0 ≤ _)⟩)
      dsimp only [Pt.U, Pt.locs, Pt.cells, Pt.slots] at X405 l405 y405 z405 st405 hQ405
      obtain ⟨rfl, Nq405, K405, Ex405, gk405, gc405, gv405⟩ := hQ405
      obtain ⟨L405, X405, N405⟩ := own_absC (K := 6) (K' := 9) X405 l405 y405 z405 N404 Nq405
      have F406 : n0 ≤ T405.heap.size := Nat.le_trans F395 K405.1
      have F407 := Keep.trans F396 K405 (allS (Or.inr (Nat.le_trans F18.1 (Nat.le_of_eq ga25.symm))) (allS (Or.inr (Nat.le_trans K27.1 gz38)) all0))
      have F408 := Exa.keep Ex394 K405
      have F409 := own_Bn_keep F398 K405 hbq
      refine own_tr (B := (T405.setTop (mkF m 116 #[iv p0, iv p1, iv p2, iv (2 : Int32), iv (4 : Int32), rv a1, rv a4, rv a9, rv a16, rv a25, iv (2 : Int32), .unset, .unset, .unset, .unset] [(.ref a4)]))) st405 ?_
      obtain ⟨T413, X413, e413, st413⟩ := castY X405 hx hZ hown w_41 rfl (Ins.of_exa (own_Bn_exa F409 (List.mem_of_getElem? (i := 1) rfl)) w_42) (g := (mkF m 116 #[iv p0, iv p1, iv p2, iv (2 : Int32), iv (4 : Int32), rv a1, rv a4, rv a9, rv a16, rv a25, iv (2 : Int32), .unset, .unset, .unset, .unset] [(.ref a4)])) rfl rfl (hb hby at_116)
      refine own_go (B := (T413.setTop (mkF m 119 #[iv p0, iv p1, iv p2, iv (2 : Int32), iv (4 : Int32), rv a1, rv a4, rv a9, rv a16, rv a25, iv (2 : Int32), .unset, .unset, .unset, .unset] [(.ref a4)]))) st413 ?_
      refine own_go (B := (T413.setTop (mkF m 121 #[iv p0, iv p1, iv p2, iv (2 : Int32), iv (4 : Int32), rv a1, rv a4, rv a9, rv a16, rv a25, iv (2 : Int32), rv a4, .unset, .unset, .unset] []))) (fun t k => XS.astore X413.here hx rfl (hb hby at_119) rfl rfl (l' := #[iv p0, iv p1, iv p2, iv (2 : Int32), iv (4 : Int32), rv a1, rv a4, rv a9, rv a16, rv a25, iv (2 : Int32), rv a4, .unset, .unset, .unset]) rfl k) ?_
      refine own_go (B := (T413.setTop (mkF m 123 #[iv p0, iv p1, iv p2, iv (2 : Int32), iv (4 : Int32), rv a1, rv a4, rv a9, rv a16, rv a25, iv (2 : Int32), rv a4, .unset, .unset, .unset] [(.ref a25)]))) (fun t k => XS.aload X413.here hx rfl (hb hby at_121) rfl rfl k) ?_
      obtain ⟨cq414, kq414, qa414, qb414, qc414⟩ := isOf hZ e413 Ex405
      obtain ⟨_, _, ⟨T414, L414, k414, n414⟩, -, X414, ⟨Lc414, hQ414, l414, y414, z414⟩, st414⟩ := X413.virtualBack hx (y := own_y7) (z := own_y7) hown (mvT hZ w_31) (mvT hZ w_32) (notFace_of_selects (args := #[]) (mvT hZ w_34)) (mvT hZ w_34) (mvT hZ w_33) (by decide) (backOf (W := 0) (own_tone l Z a0 hw [] a25 ar38 a1 (1 : Int32) (0 : Int32) [(.ref a1), .null] [.null, .null] T405.heap n0 Ex405 gk405 gc405 gv405 F406 gn25 gn_ar38 ne_ar38_a25 (by decide) (by decide) (by decide) rfl rfl) hZ w_35 w_9 (by decide) (by decide)) qa414 qc414 (g := (mkF m 123 #[iv p0, iv p1, iv p2, iv (2 : Int32), iv (4 : Int32), rv a1, rv a4, rv a9, rv a16, rv a25, iv (2 : Int32), rv a4, .unset, .unset, .unset] [(.ref a25)])) rfl (by rw [hml]; rfl) (Steps.refl _) (argsL := []) (rest := []) (lenOf own_pd6 rfl) rfl (by show 2 * 0 + _ ≤ _; exact own_b rfl) (hb hby at_123) (fun _ _ => ⟨rfl, e413, (own_b rfl : 6 + 0 ≤ _), (own_b rfl : 9 + 0 ≤ _)⟩)
      dsimp only [Pt.U, Pt.locs, Pt.cells, Pt.slots] at X414 l414 y414 z414 st414 hQ414
      obtain ⟨rfl, Nq414, K414, Ex414, gk414, gc414, gv414⟩ := hQ414
      obtain ⟨L414, X414, N414⟩ := own_absC (K := 6) (K' := 9) X414 l414 y414 z414 N405 Nq414
      have F415 : n0 ≤ T414.heap.size := Nat.le_trans F406 K414.1
      have F416 := Keep.trans F407 K414 (allS (Or.inr (Nat.le_trans F18.1 (Nat.le_of_eq ga25.symm))) (allS (Or.inr (Nat.le_trans K27.1 gz38)) all0))
      have F417 := Exa.keep Ex405 K414
      have F418 := own_Bn_keep F409 K414 hbq
      refine own_tr (B := (T414.setTop (mkF m 126 #[iv p0, iv p1, iv p2, iv (2 : Int32), iv (4 : Int32), rv a1, rv a4, rv a9, rv a16, rv a25, iv (2 : Int32), rv a4, .unset, .unset, .unset] [(.ref a1)]))) st414 ?_
      obtain ⟨T422, X422, e422, st422⟩ := castY X414 hx hZ hown w_41 rfl (Ins.of_exa (own_Bn_exa F418 (List.mem_of_getElem? (i := 0) rfl)) w_42) (g := (mkF m 126 #[iv p0, iv p1, iv p2, iv (2 : Int32), iv (4 : Int32), rv a1, rv a4, rv a9, rv a16, rv a25, iv (2 : Int32), rv a4, .unset, .unset, .unset] [(.ref a1)])) rfl rfl (hb hby at_126)
      refine own_go (B := (T422.setTop (mkF m 129 #[iv p0, iv p1, iv p2, iv (2 : Int32), iv (4 : Int32), rv a1, rv a4, rv a9, rv a16, rv a25, iv (2 : Int32), rv a4, .unset, .unset, .unset] [(.ref a1)]))) st422 ?_
      refine own_go (B := (T422.setTop (mkF m 131 #[iv p0, iv p1, iv p2, iv (2 : Int32), iv (4 : Int32), rv a1, rv a4, rv a9, rv a16, rv a25, iv (2 : Int32), rv a4, rv a1, .unset, .unset] []))) (fun t k => XS.astore X422.here hx rfl (hb hby at_129) rfl rfl (l' := #[iv p0, iv p1, iv p2, iv (2 : Int32), iv (4 : Int32), rv a1, rv a4, rv a9, rv a16, rv a25, iv (2 : Int32), rv a4, rv a1, .unset, .unset]) rfl k) ?_
      refine own_go (B := (T422.setTop (mkF m 133 #[iv p0, iv p1, iv p2, iv (2 : Int32), iv (4 : Int32), rv a1, rv a4, rv a9, rv a16, rv a25, iv (2 : Int32), rv a4, rv a1, .unset, .unset] [(.ref a25)]))) (fun t k => XS.aload X422.here hx rfl (hb hby at_131) rfl rfl k) ?_
      obtain ⟨cq423, kq423, qa423, qb423, qc423⟩ := isOf hZ e422 Ex414
      obtain ⟨_, _, ⟨T423, L423, k423, n423⟩, -, X423, ⟨Lc423, hQ423, l423, y423, z423⟩, st423⟩ := X422.virtualBack hx (y := own_y7) (z := own_y7) hown (mvT hZ w_31) (mvT hZ w_32) (notFace_of_selects (args := #[]) (mvT hZ w_34)) (mvT hZ w_34) (mvT hZ w_33) (by decide) (backOf (W := 0) (own_tnone l Z a0 hw [] a25 T414.heap n0 gc414) hZ w_35 w_9 (by decide) (by decide)) qa423 qc423 (g := (mkF m 133 #[iv p0, iv p1, iv p2, iv (2 : Int32), iv (4 : Int32), rv a1, rv a4, rv a9, rv a16, rv a25, iv (2 : Int32), rv a4, rv a1, .unset, .unset] [(.ref a25)])) rfl (by rw [hml]; rfl) (Steps.refl _) (argsL := []) (rest := []) (lenOf own_pd6 rfl) rfl (by show 2 * 0 + _ ≤ _; exact own_b rfl) (hb hby at_133) (fun _ _ => ⟨rfl, e422, (own_b rfl : 6 + 0 ≤ _), (own_b rfl : 9 + 0 ≤ _)⟩)
      dsimp only [Pt.U, Pt.locs, Pt.cells, Pt.slots] at X423 l423 y423 z423 st423 hQ423
      obtain ⟨rfl, Nq423, eq423⟩ := hQ423
      obtain ⟨L423, X423, N423⟩ := own_absC (K := 6) (K' := 9) X423 l423 y423 z423 N414 Nq423
      have e423 : T423.heap = T414.heap := eq423
      refine own_tr (B := (T423.setTop (mkF m 136 #[iv p0, iv p1, iv p2, iv (2 : Int32), iv (4 : Int32), rv a1, rv a4, rv a9, rv a16, rv a25, iv (2 : Int32), rv a4, rv a1, .unset, .unset] [.null]))) st423 ?_
      refine own_go (B := (T423.setTop (mkF m 139 #[iv p0, iv p1, iv p2, iv (2 : Int32), iv (4 : Int32), rv a1, rv a4, rv a9, rv a16, rv a25, iv (2 : Int32), rv a4, rv a1, .unset, .unset] [.null]))) (X423.checkcastNull hx (g := (mkF m 136 #[iv p0, iv p1, iv p2, iv (2 : Int32), iv (4 : Int32), rv a1, rv a4, rv a9, rv a16, rv a25, iv (2 : Int32), rv a4, rv a1, .unset, .unset] [.null])) rfl rfl (hb hby at_136)) ?_
      refine own_go (B := (T423.setTop (mkF m 141 #[iv p0, iv p1, iv p2, iv (2 : Int32), iv (4 : Int32), rv a1, rv a4, rv a9, rv a16, rv a25, iv (2 : Int32), rv a4, rv a1, .val .null, .unset] []))) (fun t k => XS.astore X423.here hx rfl (hb hby at_139) rfl rfl (l' := #[iv p0, iv p1, iv p2, iv (2 : Int32), iv (4 : Int32), rv a1, rv a4, rv a9, rv a16, rv a25, iv (2 : Int32), rv a4, rv a1, .val .null, .unset]) rfl k) ?_
      refine own_go (B := (T423.setTop (mkF m 143 #[iv p0, iv p1, iv p2, iv (2 : Int32), iv (4 : Int32), rv a1, rv a4, rv a9, rv a16, rv a25, iv (2 : Int32), rv a4, rv a1, .val .null, .unset] [(.ref a25)]))) (fun t k => XS.aload X423.here hx rfl (hb hby at_141) rfl rfl k) ?_
      obtain ⟨cq425, kq425, qa425, qb425, qc425⟩ := isOf hZ e423 Ex414
      obtain ⟨_, _, ⟨T425, L425, k425, n425⟩, -, X425, ⟨Lc425, hQ425, l425, y425, z425⟩, st425⟩ := X423.virtualBack hx (y := own_y7) (z := own_y7) hown (mvT hZ w_31) (mvT hZ w_32) (notFace_of_selects (args := #[]) (mvT hZ w_34)) (mvT hZ w_34) (mvT hZ w_33) (by decide) (backOf (W := 0) (own_tnone l Z a0 hw [] a25 T414.heap n0 gc414) hZ w_35 w_9 (by decide) (by decide)) qa425 qc425 (g := (mkF m 143 #[iv p0, iv p1, iv p2, iv (2 : Int32), iv (4 : Int32), rv a1, rv a4, rv a9, rv a16, rv a25, iv (2 : Int32), rv a4, rv a1, .val .null, .unset] [(.ref a25)])) rfl (by rw [hml]; rfl) (Steps.refl _) (argsL := []) (rest := []) (lenOf own_pd6 rfl) rfl (by show 2 * 0 + _ ≤ _; exact own_b rfl) (hb hby at_143) (fun _ _ => ⟨rfl, e423, (own_b rfl : 6 + 0 ≤ _), (own_b rfl : 9 + 0 ≤ _)⟩)
      dsimp only [Pt.U, Pt.locs, Pt.cells, Pt.slots] at X425 l425 y425 z425 st425 hQ425
      obtain ⟨rfl, Nq425, eq425⟩ := hQ425
      obtain ⟨L425, X425, N425⟩ := own_absC (K := 6) (K' := 9) X425 l425 y425 z425 N423 Nq425
      have e425 : T425.heap = T414.heap := eq425
      refine own_tr (B := (T425.setTop (mkF m 146 #[iv p0, iv p1, iv p2, iv (2 : Int32), iv (4 : Int32), rv a1, rv a4, rv a9, rv a16, rv a25, iv (2 : Int32), rv a4, rv a1, .val .null, .unset] [.null]))) st425 ?_
      refine own_go (B := (T425.setTop (mkF m 149 #[iv p0, iv p1, iv p2, iv (2 : Int32), iv (4 : Int32), rv a1, rv a4, rv a9, rv a16, rv a25, iv (2 : Int32), rv a4, rv a1, .val .null, .unset] [.null]))) (X425.checkcastNull hx (g := (mkF m 146 #[iv p0, iv p1, iv p2, iv (2 : Int32), iv (4 : Int32), rv a1, rv a4, rv a9, rv a16, rv a25, iv (2 : Int32), rv a4, rv a1, .val .null, .unset] [.null])) rfl rfl (hb hby at_146)) ?_
      refine own_go (B := (T425.setTop (mkF m 151 #[iv p0, iv p1, iv p2, iv (2 : Int32), iv (4 : Int32), rv a1, rv a4, rv a9, rv a16, rv a25, iv (2 : Int32), rv a4, rv a1, .val .null, .val .null] []))) (fun t k => XS.astore X425.here hx rfl (hb hby at_149) rfl rfl (l' := #[iv p0, iv p1, iv p2, iv (2 : Int32), iv (4 : Int32), rv a1, rv a4, rv a9, rv a16, rv a25, iv (2 : Int32), rv a4, rv a1, .val .null, .val .null]) rfl k) ?_
      refine own_go (B := (T425.setTop (mkF m 153 #[iv p0, iv p1, iv p2, iv (2 : Int32), iv (4 : Int32), rv a1, rv a4, rv a9, rv a16, rv a25, iv (2 : Int32), rv a4, rv a1, .val .null, .val .null] [(.ref a4)]))) (fun t k => XS.aload X425.here hx rfl (hb hby at_151) rfl rfl k) ?_
      refine own_go (B := (T425.setTop (mkF m 155 #[iv p0, iv p1, iv p2, iv (2 : Int32), iv (4 : Int32), rv a1, rv a4, rv a9, rv a16, rv a25, iv (2 : Int32), rv a4, rv a1, .val .null, .val .null] [(.int (2 : Int32)), (.ref a4)]))) (fun t k => XS.iload X425.here hx rfl (hb hby at_153) rfl k) ?_
      refine own_go (B := (T425.setTop (mkF m 156 #[iv p0, iv p1, iv p2, iv (2 : Int32), iv (4 : Int32), rv a1, rv a4, rv a9, rv a16, rv a25, iv (2 : Int32), rv a4, rv a1, .val .null, .val .null] [(.int (0 : Int32)), (.int (2 : Int32)), (.ref a4)]))) (fun t k => own_iconst (v := (0 : Int32)) X425.here hx rfl (hb hby at_155) (by decide) k) ?_
      refine own_go (B := (T425.setTop (mkF m 157 #[iv p0, iv p1, iv p2, iv (2 : Int32), iv (4 : Int32), rv a1, rv a4, rv a9, rv a16, rv a25, iv (2 : Int32), rv a4, rv a1, .val .null, .val .null] [(.int p2), (.int (0 : Int32)), (.int (2 : Int32)), (.ref a4)]))) (fun t k => XS.iloadN X425.here hx rfl (hb hby at_156) rfl k) ?_
      obtain ⟨_, _, ⟨T427, L427, k427, n427⟩, -, X427, ⟨Lc427, hQ427, l427, y427, z427⟩, st427⟩ := Jvm.LawKit.callS X425 hx (y := own_y8) hown (mvT hZ w_36) (mvT hZ w_37) (mvT hZ w_38) (mvT hZ w_39) (by decide) (backOf (W := 0) (own_same1 l Z a0 hw [] a4 (2 : Int32) (0 : Int32) p2 (p2 + (1 : Int32)) T414.heap n0 (own_Bn_exa F418 (List.mem_of_getElem? (i := 1) rfl)) (own_Bn_fld F418 (List.mem_of_getElem? (i := 1) rfl)) (by decide) (own_vi (by decide))) hZ w_39 w_38 (by decide) (by decide)) (g := (mkF m 157 #[iv p0, iv p1, iv p2, iv (2 : Int32), iv (4 : Int32), rv a1, rv a4, rv a9, rv a16, rv a25, iv (2 : Int32), rv a4, rv a1, .val .null, .val .null] [(.int p2), (.int (0 : Int32)), (.int (2 : Int32)), (.ref a4)])) rfl (by rw [hml]; rfl) (argsL := [(.ref a4), (.int (2 : Int32)), (.int (0 : Int32)), (.int p2)]) (rest := []) (lenOf own_pd7 rfl) rfl (by show 2 * 0 + _ ≤ _; exact own_b rfl) (hb hby at_157) (fun _ _ => ⟨rfl, e425, (own_b rfl : 6 + 0 ≤ _), (own_b rfl : 9 + 0 ≤ _)⟩)
      dsimp only [Pt.U, Pt.locs, Pt.cells, Pt.slots] at X427 l427 y427 z427 st427 hQ427
      obtain ⟨rfl, Nq427, eq427⟩ := hQ427
      obtain ⟨L427, X427, N427⟩ := own_absC (K := 6) (K' := 9) X427 l427 y427 z427 N425 Nq427
      have e427 : T427.heap = T414.heap := eq427
      refine own_go (B := (T427.setTop (mkF m 160 #[iv p0, iv p1, iv p2, iv (2 : Int32), iv (4 : Int32), rv a1, rv a4, rv a9, rv a16, rv a25, iv (2 : Int32), rv a4, rv a1, .val .null, .val .null] [(.int (1 : Int32))]))) st427 ?_
      have hc160 : ¬ (1 : Int32) = (0 : Int32) := (by decide)
      refine own_ifN X427 hx (hb hby at_160) (pn := 163) rfl hc160 ?_
      refine own_go (B := (T427.setTop (mkF m 165 #[iv p0, iv p1, iv p2, iv (2 : Int32), iv (4 : Int32), rv a1, rv a4, rv a9, rv a16, rv a25, iv (2 : Int32), rv a4, rv a1, .val .null, .val .null] [(.ref a1)]))) (fun t k => XS.aload X427.here hx rfl (hb hby at_163) rfl rfl k) ?_
      refine own_go (B := (T427.setTop (mkF m 167 #[iv p0, iv p1, iv p2, iv (2 : Int32), iv (4 : Int32), rv a1, rv a4, rv a9, rv a16, rv a25, iv (2 : Int32), rv a4, rv a1, .val .null, .val .null] [(.int (2 : Int32)), (.ref a1)]))) (fun t k => XS.iload X427.here hx rfl (hb hby at_165) rfl k) ?_
      refine own_go (B := (T427.setTop (mkF m 168 #[iv p0, iv p1, iv p2, iv (2 : Int32), iv (4 : Int32), rv a1, rv a4, rv a9, rv a16, rv a25, iv (2 : Int32), rv a4, rv a1, .val .null, .val .null] [(.int (1 : Int32)), (.int (2 : Int32)), (.ref a1)]))) (fun t k => own_iconst (v := (1 : Int32)) X427.here hx rfl (hb hby at_167) (by decide) k) ?_
      refine own_go (B := (T427.setTop (mkF m 169 #[iv p0, iv p1, iv p2, iv (2 : Int32), iv (4 : Int32), rv a1, rv a4, rv a9, rv a16, rv a25, iv (2 : Int32), rv a4, rv a1, .val .null, .val .null] [(.int p2), (.int (1 : Int32)), (.int (2 : Int32)), (.ref a1)]))) (fun t k => XS.iloadN X427.here hx rfl (hb hby at_168) rfl k) ?_
      obtain ⟨_, _, ⟨T428, L428, k428, n428⟩, -, X428, ⟨Lc428, hQ428, l428, y428, z428⟩, st428⟩ := Jvm.LawKit.callS X427 hx (y := own_y8) hown (mvT hZ w_36) (mvT hZ w_37) (mvT hZ w_38) (mvT hZ w_39) (by decide) (backOf (W := 0) (own_same1 l Z a0 hw [] a1 (2 : Int32) (1 : Int32) p2 p2 T414.heap n0 (own_Bn_exa F418 (List.mem_of_getElem? (i := 0) rfl)) (own_Bn_fld F418 (List.mem_of_getElem? (i := 0) rfl)) (by decide) (own_v0 (by decide))) hZ w_39 w_38 (by decide) (by decide)) (g := (mkF m 169 #[iv p0, iv p1, iv p2, iv (2 : Int32), iv (4 : Int32), rv a1, rv a4, rv a9, rv a16, rv a25, iv (2 : Int32), rv a4, rv a1, .val .null, .val .null] [(.int p2), (.int (1 : Int32)), (.int (2 : Int32)), (.ref a1)])) rfl (by rw [hml]; rfl) (argsL := [(.ref a1), (.int (2 : Int32)), (.int (1 : Int32)), (.int p2)]) (rest := []) (lenOf own_pd7 rfl) rfl (by show 2 * 0 + _ ≤ _; exact own_b rfl) (hb hby at_169) (fun _ _ => ⟨rfl, e427, (own_b rfl : 6 + 0 ≤ _), (own_b rfl : 9 + 0 ≤ _)⟩)
      dsimp only [Pt.U, Pt.locs, Pt.cells, Pt.slots] at X428 l428 y428 z428 st428 hQ428
      obtain ⟨rfl, Nq428, eq428⟩ := hQ428
      obtain ⟨L428, X428, N428⟩ := own_absC (K := 6) (K' := 9) X428 l428 y428 z428 N427 Nq428
      have e428 : T428.heap = T414.heap := eq428
      refine own_go (B := (T428.setTop (mkF m 172 #[iv p0, iv p1, iv p2, iv (2 : Int32), iv (4 : Int32), rv a1, rv a4, rv a9, rv a16, rv a25, iv (2 : Int32), rv a4, rv a1, .val .null, .val .null] [(.int (1 : Int32))]))) st428 ?_
      have hc172 : ¬ (1 : Int32) = (0 : Int32) := (by decide)
      refine own_ifN X428 hx (hb hby at_172) (pn := 175) rfl hc172 ?_
      refine own_go (B := (T428.setTop (mkF m 177 #[iv p0, iv p1, iv p2, iv (2 : Int32), iv (4 : Int32), rv a1, rv a4, rv a9, rv a16, rv a25, iv (2 : Int32), rv a4, rv a1, .val .null, .val .null] [.null]))) (fun t k => XS.aload X428.here hx rfl (hb hby at_175) rfl rfl k) ?_
      refine own_go (B := (T428.setTop (mkF m 179 #[iv p0, iv p1, iv p2, iv (2 : Int32), iv (4 : Int32), rv a1, rv a4, rv a9, rv a16, rv a25, iv (2 : Int32), rv a4, rv a1, .val .null, .val .null] [(.int (2 : Int32)), .null]))) (fun t k => XS.iload X428.here hx rfl (hb hby at_177) rfl k) ?_
      refine own_go (B := (T428.setTop (mkF m 180 #[iv p0, iv p1, iv p2, iv (2 : Int32), iv (4 : Int32), rv a1, rv a4, rv a9, rv a16, rv a25, iv (2 : Int32), rv a4, rv a1, .val .null, .val .null] [(.int (2 : Int32)), (.int (2 : Int32)), .null]))) (fun t k => own_iconst (v := (2 : Int32)) X428.here hx rfl (hb hby at_179) (by decide) k) ?_
      refine own_go (B := (T428.setTop (mkF m 181 #[iv p0, iv p1, iv p2, iv (2 : Int32), iv (4 : Int32), rv a1, rv a4, rv a9, rv a16, rv a25, iv (2 : Int32), rv a4, rv a1, .val .null, .val .null] [(.int p2), (.int (2 : Int32)), (.int (2 : Int32)), .null]))) (fun t k => XS.iloadN X428.here hx rfl (hb hby at_180) rfl k) ?_
      obtain ⟨_, _, ⟨T429, L429, k429, n429⟩, -, X429, ⟨Lc429, hQ429, l429, y429, z429⟩, st429⟩ := Jvm.LawKit.callS X428 hx (y := own_y8) hown (mvT hZ w_36) (mvT hZ w_37) (mvT hZ w_38) (mvT hZ w_39) (by decide) (backOf (W := 0) (own_same0 l Z a0 hw [] (2 : Int32) (2 : Int32) p2 T414.heap n0 (by decide)) hZ w_39 w_38 (by decide) (by decide)) (g := (mkF m 181 #[iv p0, iv p1, iv p2, iv (2 : Int32), iv (4 : Int32), rv a1, rv a4, rv a9, rv a16, rv a25, iv (2 : Int32), rv a4, rv a1, .val .null, .val .null] [(.int p2), (.int (2 : Int32)), (.int (2 : Int32)), .null])) rfl (by rw [hml]; rfl) (argsL := [.null, (.int (2 : Int32)), (.int (2 : Int32)), (.int p2)]) (rest := []) (lenOf own_pd7 rfl) rfl (by show 2 * 0 + _ ≤ _; exact own_b rfl) (hb hby at_181) (fun _ _ => ⟨rfl, e428, (own_b rfl : 6 + 0 ≤ _), (own_b rfl : 9 + 0 ≤ _)⟩)
      dsimp only [Pt.U, Pt.locs, Pt.cells, Pt.slots] at X429 l429 y429 z429 st429 hQ429
      obtain ⟨rfl, Nq429, eq429⟩ := hQ429
      obtain ⟨L429, X429, N429⟩ := own_absC (K := 6) (K' := 9) X429 l429 y429 z429 N428 Nq429
      have e429 : T429.heap = T414.heap := eq429
      refine own_go (B := (T429.setTop (mkF m 184 #[iv p0, iv p1, iv p2, iv (2 : Int32), iv (4 : Int32), rv a1, rv a4, rv a9, rv a16, rv a25, iv (2 : Int32), rv a4, rv a1, .val .null, .val .null] [(.int (1 : Int32))]))) st429 ?_
      have hc184 : ¬ (1 : Int32) = (0 : Int32) := (by decide)
      refine own_ifN X429 hx (hb hby at_184) (pn := 187) rfl hc184 ?_
      refine own_go (B := (T429.setTop (mkF m 189 #[iv p0, iv p1, iv p2, iv (2 : Int32), iv (4 : Int32), rv a1, rv a4, rv a9, rv a16, rv a25, iv (2 : Int32), rv a4, rv a1, .val .null, .val .null] [.null]))) (fun t k => XS.aload X429.here hx rfl (hb hby at_187) rfl rfl k) ?_
      refine own_go (B := (T429.setTop (mkF m 191 #[iv p0, iv p1, iv p2, iv (2 : Int32), iv (4 : Int32), rv a1, rv a4, rv a9, rv a16, rv a25, iv (2 : Int32), rv a4, rv a1, .val .null, .val .null] [(.int (2 : Int32)), .null]))) (fun t k => XS.iload X429.here hx rfl (hb hby at_189) rfl k) ?_
      refine own_go (B := (T429.setTop (mkF m 192 #[iv p0, iv p1, iv p2, iv (2 : Int32), iv (4 : Int32), rv a1, rv a4, rv a9, rv a16, rv a25, iv (2 : Int32), rv a4, rv a1, .val .null, .val .null] [(.int (3 : Int32)), (.int (2 : Int32)), .null]))) (fun t k => own_iconst (v := (3 : Int32)) X429.here hx rfl (hb hby at_191) (by decide) k) ?_
      refine own_go (B := (T429.setTop (mkF m 193 #[iv p0, iv p1, iv p2, iv (2 : Int32), iv (4 : Int32), rv a1, rv a4, rv a9, rv a16, rv a25, iv (2 : Int32), rv a4, rv a1, .val .null, .val .null] [(.int p2), (.int (3 : Int32)), (.int (2 : Int32)), .null]))) (fun t k => XS.iloadN X429.here hx rfl (hb hby at_192) rfl k) ?_
      obtain ⟨_, _, ⟨T430, L430, k430, n430⟩, -, X430, ⟨Lc430, hQ430, l430, y430, z430⟩, st430⟩ := Jvm.LawKit.callS X429 hx (y := own_y8) hown (mvT hZ w_36) (mvT hZ w_37) (mvT hZ w_38) (mvT hZ w_39) (by decide) (backOf (W := 0) (own_same0 l Z a0 hw [] (2 : Int32) (3 : Int32) p2 T414.heap n0 (by decide)) hZ w_39 w_38 (by decide) (by decide)) (g := (mkF m 193 #[iv p0, iv p1, iv p2, iv (2 : Int32), iv (4 : Int32), rv a1, rv a4, rv a9, rv a16, rv a25, iv (2 : Int32), rv a4, rv a1, .val .null, .val .null] [(.int p2), (.int (3 : Int32)), (.int (2 : Int32)), .null])) rfl (by rw [hml]; rfl) (argsL := [.null, (.int (2 : Int32)), (.int (3 : Int32)), (.int p2)]) (rest := []) (lenOf own_pd7 rfl) rfl (by show 2 * 0 + _ ≤ _; exact own_b rfl) (hb hby at_193) (fun _ _ => ⟨rfl, e429, (own_b rfl : 6 + 0 ≤ _), (own_b rfl : 9 + 0 ≤ _)⟩)
      dsimp only [Pt.U, Pt.locs, Pt.cells, Pt.slots] at X430 l430 y430 z430 st430 hQ430
      obtain ⟨rfl, Nq430, eq430⟩ := hQ430
      obtain ⟨L430, X430, N430⟩ := own_absC (K := 6) (K' := 9) X430 l430 y430 z430 N429 Nq430
      have e430 : T430.heap = T414.heap := eq430
      refine own_go (B := (T430.setTop (mkF m 196 #[iv p0, iv p1, iv p2, iv (2 : Int32), iv (4 : Int32), rv a1, rv a4, rv a9, rv a16, rv a25, iv (2 : Int32), rv a4, rv a1, .val .null, .val .null] [(.int (1 : Int32))]))) st430 ?_
      have hc196 : ¬ (1 : Int32) = (0 : Int32) := (by decide)
      refine own_ifN X430 hx (hb hby at_196) (pn := 199) rfl hc196 ?_
      refine own_go (B := (T430.setTop (mkF m 200 #[iv p0, iv p1, iv p2, iv (2 : Int32), iv (4 : Int32), rv a1, rv a4, rv a9, rv a16, rv a25, iv (2 : Int32), rv a4, rv a1, .val .null, .val .null] [(.int (1 : Int32))]))) (fun t k => own_iconst (v := (1 : Int32)) X430.here hx rfl (hb hby at_199) (by decide) k) ?_
      refine own_go (B := (T430.setTop (mkF m 204 #[iv p0, iv p1, iv p2, iv (2 : Int32), iv (4 : Int32), rv a1, rv a4, rv a9, rv a16, rv a25, iv (2 : Int32), rv a4, rv a1, .val .null, .val .null] [(.int (1 : Int32))]))) (fun t k => XS.goto X430.here hx rfl (pc0 := 200) (pc' := 204) rfl (hb hby at_200) (by decide) (by decide) k) ?_
      exact own_retZ X430 hx hlk Bd.returns (hb hby at_204) (by decide) (own_b rfl) (own_b rfl) (Q := (own_law_Q Z p0 p1 p2 ca h0 n0)) ⟨rfl, N430⟩
  · have Vb : own_Ao Z T38.heap ar38 "java/lang/Object" [.null, .null, .null] := by have q := gv38; rw [show (3 : Int32).toNatClampNeg = 3 from by decide] at q; exact q
    rcases own_c5 hz10 with rfl | rfl | rfl | rfl | rfl
    · refine own_go (B := (T38.setTop (mkF m 54 #[iv p0, iv p1, iv p2, iv (3 : Int32), iv (0 : Int32), rv a1, rv a4, rv a9, rv a16, rv a25, .unset, .unset, .unset, .unset, .unset] [(.int (0 : Int32))]))) (fun t k => XS.iload X38.here hx rfl (hb hby at_52) rfl k) ?_
      have hc54 : ¬ (0 : Int32) < (0 : Int32) := (by decide)
      refine own_ifY X38 hx (hb hby at_54) (pc' := 64) (by decide) (by decide) hc54 ?_
      refine own_go (B := (T38.setTop (mkF m 66 #[iv p0, iv p1, iv p2, iv (3 : Int32), iv (0 : Int32), rv a1, rv a4, rv a9, rv a16, rv a25, .unset, .unset, .unset, .unset, .unset] [(.int (0 : Int32))]))) (fun t k => XS.iload X38.here hx rfl (hb hby at_64) rfl k) ?_
      refine own_go (B := (T38.setTop (mkF m 67 #[iv p0, iv p1, iv p2, iv (3 : Int32), iv (0 : Int32), rv a1, rv a4, rv a9, rv a16, rv a25, .unset, .unset, .unset, .unset, .unset] [(.int (1 : Int32)), (.int (0 : Int32))]))) (fun t k => own_iconst (v := (1 : Int32)) X38.here hx rfl (hb hby at_66) (by decide) k) ?_
      have hc67 : ¬ (1 : Int32) < (0 : Int32) := (by decide)
      refine own_icmpY X38 hx (hb hby at_67) (pc' := 77) (by decide) (by decide) hc67 ?_
      refine own_go (B := (T38.setTop (mkF m 79 #[iv p0, iv p1, iv p2, iv (3 : Int32), iv (0 : Int32), rv a1, rv a4, rv a9, rv a16, rv a25, .unset, .unset, .unset, .unset, .unset] [(.int (0 : Int32))]))) (fun t k => XS.iload X38.here hx rfl (hb hby at_77) rfl k) ?_
      refine own_go (B := (T38.setTop (mkF m 80 #[iv p0, iv p1, iv p2, iv (3 : Int32), iv (0 : Int32), rv a1, rv a4, rv a9, rv a16, rv a25, .unset, .unset, .unset, .unset, .unset] [(.int (2 : Int32)), (.int (0 : Int32))]))) (fun t k => own_iconst (v := (2 : Int32)) X38.here hx rfl (hb hby at_79) (by decide) k) ?_
      have hc80 : ¬ (2 : Int32) < (0 : Int32) := (by decide)
      refine own_icmpY X38 hx (hb hby at_80) (pc' := 90) (by decide) (by decide) hc80 ?_
      refine own_go (B := (T38.setTop (mkF m 92 #[iv p0, iv p1, iv p2, iv (3 : Int32), iv (0 : Int32), rv a1, rv a4, rv a9, rv a16, rv a25, .unset, .unset, .unset, .unset, .unset] [(.int (0 : Int32))]))) (fun t k => XS.iload X38.here hx rfl (hb hby at_90) rfl k) ?_
      refine own_go (B := (T38.setTop (mkF m 93 #[iv p0, iv p1, iv p2, iv (3 : Int32), iv (0 : Int32), rv a1, rv a4, rv a9, rv a16, rv a25, .unset, .unset, .unset, .unset, .unset] [(.int (3 : Int32)), (.int (0 : Int32))]))) (fun t k => own_iconst (v := (3 : Int32)) X38.here hx rfl (hb hby at_92) (by decide) k) ?_
      have hc93 : ¬ (3 : Int32) < (0 : Int32) := (by decide)
      refine own_icmpY X38 hx (hb hby at_93) (pc' := 103) (by decide) (by decide) hc93 ?_
      refine own_go (B := (T38.setTop (mkF m 105 #[iv p0, iv p1, iv p2, iv (3 : Int32), iv (0 : Int32), rv a1, rv a4, rv a9, rv a16, rv a25, .unset, .unset, .unset, .unset, .unset] [(.int (0 : Int32))]))) (fun t k => XS.iload X38.here hx rfl (hb hby at_103) rfl k) ?_
      refine own_go (B := (T38.setTop (mkF m 106 #[iv p0, iv p1, iv p2, iv (3 : Int32), iv (0 : Int32), rv a1, rv a4, rv a9, rv a16, rv a25, .unset, .unset, .unset, .unset, .unset] [(.int (3 : Int32)), (.int (0 : Int32))]))) (fun t k => XS.iloadN X38.here hx rfl (hb hby at_105) rfl k) ?_
      obtain ⟨_, _, ⟨T431, L431, k431, n431⟩, -, X431, ⟨Lc431, hQ431, l431, y431, z431⟩, st431⟩ := Jvm.LawKit.callS X38 hx (y := own_y6) hown (mvT hZ w_27) (mvT hZ w_28) (mvT hZ w_29) (mvT hZ w_30) (by decide) (backOf (W := 0) (own_mmin l Z a0 hw [] (0 : Int32) (3 : Int32) T38.heap n0) hZ w_30 w_29 (by decide) (by decide)) (g := (mkF m 106 #[iv p0, iv p1, iv p2, iv (3 : Int32), iv (0 : Int32), rv a1, rv a4, rv a9, rv a16, rv a25, .unset, .unset, .unset, .unset, .unset] [(.int (3 : Int32)), (.int (0 : Int32))])) rfl (by rw [hml]; rfl) (argsL := [(.int (0 : Int32)), (.int (3 : Int32))]) (rest := []) (lenOf own_pd5 rfl) rfl (by show 2 * 0 + _ ≤ _; exact own_b rfl) (hb hby at_106) (fun _ _ => ⟨rfl, rfl, (own_b rfl : 6 + 0 ≤ _), (own_b rfl : 9 + 0 ≤ _)⟩)
      dsimp only [Pt.U, Pt.locs, Pt.cells, Pt.slots] at X431 l431 y431 z431 st431 hQ431
      obtain ⟨rfl, Nq431, eq431⟩ := hQ431
      obtain ⟨L431, X431, N431⟩ := own_absC (K := 6) (K' := 9) X431 l431 y431 z431 N38 Nq431
      have e431 : T431.heap = T38.heap := eq431
      refine own_go (B := (T431.setTop (mkF m 109 #[iv p0, iv p1, iv p2, iv (3 : Int32), iv (0 : Int32), rv a1, rv a4, rv a9, rv a16, rv a25, .unset, .unset, .unset, .unset, .unset] [(.int (own_min (0 : Int32) (3 : Int32)))]))) st431 ?_
      rw [show own_min (0 : Int32) (3 : Int32) = (0 : Int32) from by decide]
      refine own_go (B := (T431.setTop (mkF m 111 #[iv p0, iv p1, iv p2, iv (3 : Int32), iv (0 : Int32), rv a1, rv a4, rv a9, rv a16, rv a25, iv (0 : Int32), .unset, .unset, .unset, .unset] []))) (fun t k => XS.istore X431.here hx rfl (hb hby at_109) rfl (l' := #[iv p0, iv p1, iv p2, iv (3 : Int32), iv (0 : Int32), rv a1, rv a4, rv a9, rv a16, rv a25, iv (0 : Int32), .unset, .unset, .unset, .unset]) rfl k) ?_
      refine own_go (B := (T431.setTop (mkF m 113 #[iv p0, iv p1, iv p2, iv (3 : Int32), iv (0 : Int32), rv a1, rv a4, rv a9, rv a16, rv a25, iv (0 : Int32), .unset, .unset, .unset, .unset] [(.ref a25)]))) (fun t k => XS.aload X431.here hx rfl (hb hby at_111) rfl rfl k) ?_
      obtain ⟨cq432, kq432, qa432, qb432, qc432⟩ := isOf hZ e431 Ex38
      obtain ⟨_, _, ⟨T432, L432, k432, n432⟩, -, X432, ⟨Lc432, hQ432, l432, y432, z432⟩, st432⟩ := X431.virtualBack hx (y := own_y7) (z := own_y7) hown (mvT hZ w_31) (mvT hZ w_32) (notFace_of_selects (args := #[]) (mvT hZ w_34)) (mvT hZ w_34) (mvT hZ w_33) (by decide) (backOf (W := 0) (own_tnone l Z a0 hw [] a25 T38.heap n0 gc38) hZ w_35 w_9 (by decide) (by decide)) qa432 qc432 (g := (mkF m 113 #[iv p0, iv p1, iv p2, iv (3 : Int32), iv (0 : Int32), rv a1, rv a4, rv a9, rv a16, rv a25, iv (0 : Int32), .unset, .unset, .unset, .unset] [(.ref a25)])) rfl (by rw [hml]; rfl) (Steps.refl _) (argsL := []) (rest := []) (lenOf own_pd6 rfl) rfl (by show 2 * 0 + _ ≤ _; exact own_b rfl) (hb hby at_113) (fun _ _ => ⟨rfl, e431, (own_b rfl : 6 + 0 ≤ _), (own_b rfl : 9 + 0 ≤ _)⟩)
      dsimp only [Pt.U, Pt.locs, Pt.cells, Pt.slots] at X432 l432 y432 z432 st432 hQ432
      obtain ⟨rfl, Nq432, eq432⟩ := hQ432
      obtain ⟨L432, X432, N432⟩ := own_absC (K := 6) (K' := 9) X432 l432 y432 z432 N431 Nq432
      have e432 : T432.heap = T38.heap := eq432
      refine own_tr (B := (T432.setTop (mkF m 116 #[iv p0, iv p1, iv p2, iv (3 : Int32), iv (0 : Int32), rv a1, rv a4, rv a9, rv a16, rv a25, iv (0 : Int32), .unset, .unset, .unset, .unset] [.null]))) st432 ?_
      refine own_go (B := (T432.setTop (mkF m 119 #[iv p0, iv p1, iv p2, iv (3 : Int32), iv (0 : Int32), rv a1, rv a4, rv a9, rv a16, rv a25, iv (0 : Int32), .unset, .unset, .unset, .unset] [.null]))) (X432.checkcastNull hx (g := (mkF m 116 #[iv p0, iv p1, iv p2, iv (3 : Int32), iv (0 : Int32), rv a1, rv a4, rv a9, rv a16, rv a25, iv (0 : Int32), .unset, .unset, .unset, .unset] [.null])) rfl rfl (hb hby at_116)) ?_
      refine own_go (B := (T432.setTop (mkF m 121 #[iv p0, iv p1, iv p2, iv (3 : Int32), iv (0 : Int32), rv a1, rv a4, rv a9, rv a16, rv a25, iv (0 : Int32), .val .null, .unset, .unset, .unset] []))) (fun t k => XS.astore X432.here hx rfl (hb hby at_119) rfl rfl (l' := #[iv p0, iv p1, iv p2, iv (3 : Int32), iv (0 : Int32), rv a1, rv a4, rv a9, rv a16, rv a25, iv (0 : Int32), .val .null, .unset, .unset, .unset]) rfl k) ?_
      refine own_go (B := (T432.setTop (mkF m 123 #[iv p0, iv p1, iv p2, iv (3 : Int32), iv (0 : Int32), rv a1, rv a4, rv a9, rv a16, rv a25, iv (0 : Int32), .val .null, .unset, .unset, .unset] [(.ref a25)]))) (fun t k => XS.aload X432.here hx rfl (hb hby at_121) rfl rfl k) ?_
      obtain ⟨cq434, kq434, qa434, qb434, qc434⟩ := isOf hZ e432 Ex38
      obtain ⟨_, _, ⟨T434, L434, k434, n434⟩, -, X434, ⟨Lc434, hQ434, l434, y434, z434⟩, st434⟩ := X432.virtualBack hx (y := own_y7) (z := own_y7) hown (mvT hZ w_31) (mvT hZ w_32) (notFace_of_selects (args := #[]) (mvT hZ w_34)) (mvT hZ w_34) (mvT hZ w_33) (by decide) (backOf (W := 0) (own_tnone l Z a0 hw [] a25 T38.heap n0 gc38) hZ w_35 w_9 (by decide) (by decide)) qa434 qc434 (g := (mkF m 123 #[iv p0, iv p1, iv p2, iv (3 : Int32), iv (0 : Int32), rv a1, rv a4, rv a9, rv a16, rv a25, iv (0 : Int32), .val .null, .unset, .unset, .unset] [(.ref a25)])) rfl (by rw [hml]; rfl) (Steps.refl _) (argsL := []) (rest := []) (lenOf own_pd6 rfl) rfl (by show 2 * 0 + _ ≤ _; exact own_b rfl) (hb hby at_123) (fun _ _ => ⟨rfl, e432, (own_b rfl : 6 + 0 ≤ _), (own_b rfl : 9 + 0 ≤ _)⟩)
      dsimp only [Pt.U, Pt.locs, Pt.cells, Pt.slots] at X434 l434 y434 z434 st434 hQ434
      obtain ⟨rfl, Nq434, eq434⟩ := hQ434
      obtain ⟨L434, X434, N434⟩ := own_absC (K := 6) (K' := 9) X434 l434 y434 z434 N432 Nq434
      have e434 : T434.heap = T38.heap := eq434
      refine own_tr (B := (T434.setTop (mkF m 126 #[iv p0, iv p1, iv p2, iv (3 : Int32), iv (0 : Int32), rv a1, rv a4, rv a9, rv a16, rv a25, iv (0 : Int32), .val .null, .unset, .unset, .unset] [.null]))) st434 ?_
      refine own_go (B := (T434.setTop (mkF m 129 #[iv p0, iv p1, iv p2, iv (3 : Int32), iv (0 : Int32), rv a1, rv a4, rv a9, rv a16, rv a25, iv (0 : Int32), .val .null, .unset, .unset, .unset] [.null]))) (X434.checkcastNull hx (g := (mkF m 126 #[iv p0, iv p1, iv p2, iv (3 : Int32), iv (0 : Int32), rv a1, rv a4, rv a9, rv a16, rv a25, iv (0 : Int32), .val .null, .unset, .unset, .unset] [.null])) rfl rfl (hb hby at_126)) ?_
      refine own_go (B := (T434.setTop (mkF m 131 #[iv p0, iv p1, iv p2, iv (3 : Int32), iv (0 : Int32), rv a1, rv a4, rv a9, rv a16, rv a25, iv (0 : Int32), .val .null, .val .null, .unset, .unset] []))) (fun t k => XS.astore X434.here hx rfl (hb hby at_129) rfl rfl (l' := #[iv p0, iv p1, iv p2, iv (3 : Int32), iv (0 : Int32), rv a1, rv a4, rv a9, rv a16, rv a25, iv (0 : Int32), .val .null, .val .null, .unset, .unset]) rfl k) ?_
      refine own_go (B := (T434.setTop (mkF m 133 #[iv p0, iv p1, iv p2, iv (3 : Int32), iv (0 : Int32), rv a1, rv a4, rv a9, rv a16, rv a25, iv (0 : Int32), .val .null, .val .null, .unset, .unset] [(.ref a25)]))) (fun t k => XS.aload X434.here hx rfl (hb hby at_131) rfl rfl k) ?_
      obtain ⟨cq436, kq436, qa436, qb436, qc436⟩ := isOf hZ e434 Ex38
      obtain ⟨_, _, ⟨T436, L436, k436, n436⟩, -, X436, ⟨Lc436, hQ436, l436, y436, z436⟩, st436⟩ := X434.virtualBack hx (y := own_y7) (z := own_y7) hown (mvT hZ w_31) (mvT hZ w_32) (notFace_of_selects (args := #[]) (mvT hZ w_34)) (mvT hZ w_34) (mvT hZ w_33) (by decide) (backOf (W := 0) (own_tnone l Z a0 hw [] a25 T38.heap n0 gc38) hZ w_35 w_9 (by decide) (by decide)) qa436 qc436 (g := (mkF m 133 #[iv p0, iv p1, iv p2, iv (3 : Int32), iv (0 : Int32), rv a1, rv a4, rv a9, rv a16, rv a25, iv (0 : Int32), .val .null, .val .null, .unset, .unset] [(.ref a25)])) rfl (by rw [hml]; rfl) (Steps.refl _) (argsL := []) (rest := []) (lenOf own_pd6 rfl) rfl (by show 2 * 0 + _ ≤ _; exact own_b rfl) (hb hby at_133) (fun _ _ => ⟨rfl, e434, (own_b rfl : 6 + 0 ≤ _), (own_b rfl : 9 + 0 ≤ _)⟩)
      dsimp only [Pt.U, Pt.locs, Pt.cells, Pt.slots] at X436 l436 y436 z436 st436 hQ436
      obtain ⟨rfl, Nq436, eq436⟩ := hQ436
      obtain ⟨L436, X436, N436⟩ := own_absC (K := 6) (K' := 9) X436 l436 y436 z436 N434 Nq436
      have e436 : T436.heap = T38.heap := eq436
      refine own_tr (B := (T436.setTop (mkF m 136 #[iv p0, iv p1, iv p2, iv (3 : Int32), iv (0 : Int32), rv a1, rv a4, rv a9, rv a16, rv a25, iv (0 : Int32), .val .null, .val .null, .unset, .unset] [.null]))) st436 ?_
      refine own_go (B := (T436.setTop (mkF m 139 #[iv p0, iv p1, iv p2, iv (3 : Int32), iv (0 : Int32), rv a1, rv a4, rv a9, rv a16, rv a25, iv (0 : Int32), .val .null, .val .null, .unset, .unset] [.null]))) (X436.checkcastNull hx (g := (mkF m 136 #[iv p0, iv p1, iv p2, iv (3 : Int32), iv (0 : Int32), rv a1, rv a4, rv a9, rv a16, rv a25, iv (0 : Int32), .val .null, .val .null, .unset, .unset] [.null])) rfl rfl (hb hby at_136)) ?_
      refine own_go (B := (T436.setTop (mkF m 141 #[iv p0, iv p1, iv p2, iv (3 : Int32), iv (0 : Int32), rv a1, rv a4, rv a9, rv a16, rv a25, iv (0 : Int32), .val .null, .val .null, .val .null, .unset] []))) (fun t k => XS.astore X436.here hx rfl (hb hby at_139) rfl rfl (l' := #[iv p0, iv p1, iv p2, iv (3 : Int32), iv (0 : Int32), rv a1, rv a4, rv a9, rv a16, rv a25, iv (0 : Int32), .val .null, .val .null, .val .null, .unset]) rfl k) ?_
      refine own_go (B := (T436.setTop (mkF m 143 #[iv p0, iv p1, iv p2, iv (3 : Int32), iv (0 : Int32), rv a1, rv a4, rv a9, rv a16, rv a25, iv (0 : Int32), .val .null, .val .null, .val .null, .unset] [(.ref a25)]))) (fun t k => XS.aload X436.here hx rfl (hb hby at_141) rfl rfl k) ?_
      obtain ⟨cq438, kq438, qa438, qb438, qc438⟩ := isOf hZ e436 Ex38
      obtain ⟨_, _, ⟨T438, L438, k438, n438⟩, -, X438, ⟨Lc438, hQ438, l438, y438, z438⟩, st438⟩ := X436.virtualBack hx (y := own_y7) (z := own_y7) hown (mvT hZ w_31) (mvT hZ w_32) (notFace_of_selects (args := #[]) (mvT hZ w_34)) (mvT hZ w_34) (mvT hZ w_33) (by decide) (backOf (W := 0) (own_tnone l Z a0 hw [] a25 T38.heap n0 gc38) hZ w_35 w_9 (by decide) (by decide)) qa438 qc438 (g := (mkF m 143 #[iv p0, iv p1, iv p2, iv (3 : Int32), iv (0 : Int32), rv a1, rv a4, rv a9, rv a16, rv a25, iv (0 : Int32), .val .null, .val .null, .val .null, .unset] [(.ref a25)])) rfl (by rw [hml]; rfl) (Steps.refl _) (argsL := []) (rest := []) (lenOf own_pd6 rfl) rfl (by show 2 * 0 + _ ≤ _; exact own_b rfl) (hb hby at_143) (fun _ _ => ⟨rfl, e436, (own_b rfl : 6 + 0 ≤ _), (own_b rfl : 9 + 0 ≤ _)⟩)
      dsimp only [Pt.U, Pt.locs, Pt.cells, Pt.slots] at X438 l438 y438 z438 st438 hQ438
      obtain ⟨rfl, Nq438, eq438⟩ := hQ438
      obtain ⟨L438, X438, N438⟩ := own_absC (K := 6) (K' := 9) X438 l438 y438 z438 N436 Nq438
      have e438 : T438.heap = T38.heap := eq438
      refine own_tr (B := (T438.setTop (mkF m 146 #[iv p0, iv p1, iv p2, iv (3 : Int32), iv (0 : Int32), rv a1, rv a4, rv a9, rv a16, rv a25, iv (0 : Int32), .val .null, .val .null, .val .null, .unset] [.null]))) st438 ?_
      refine own_go (B := (T438.setTop (mkF m 149 #[iv p0, iv p1, iv p2, iv (3 : Int32), iv (0 : Int32), rv a1, rv a4, rv a9, rv a16, rv a25, iv (0 : Int32), .val .null, .val .null, .val .null, .unset] [.null]))) (X438.checkcastNull hx (g := (mkF m 146 #[iv p0, iv p1, iv p2, iv (3 : Int32), iv (0 : Int32), rv a1, rv a4, rv a9, rv a16, rv a25, iv (0 : Int32), .val .null, .val .null, .val .null, .unset] [.null])) rfl rfl (hb hby at_146)) ?_
      refine own_go (B := (T438.setTop (mkF m 151 #[iv p0, iv p1, iv p2, iv (3 : Int32), iv (0 : Int32), rv a1, rv a4, rv a9, rv a16, rv a25, iv (0 : Int32), .val .null, .val .null, .val .null, .val .null] []))) (fun t k => XS.astore X438.here hx rfl (hb hby at_149) rfl rfl (l' := #[iv p0, iv p1, iv p2, iv (3 : Int32), iv (0 : Int32), rv a1, rv a4, rv a9, rv a16, rv a25, iv (0 : Int32), .val .null, .val .null, .val .null, .val .null]) rfl k) ?_
      refine own_go (B := (T438.setTop (mkF m 153 #[iv p0, iv p1, iv p2, iv (3 : Int32), iv (0 : Int32), rv a1, rv a4, rv a9, rv a16, rv a25, iv (0 : Int32), .val .null, .val .null, .val .null, .val .null] [.null]))) (fun t k => XS.aload X438.here hx rfl (hb hby at_151) rfl rfl k) ?_
      refine own_go (B := (T438.setTop (mkF m 155 #[iv p0, iv p1, iv p2, iv (3 : Int32), iv (0 : Int32), rv a1, rv a4, rv a9, rv a16, rv a25, iv (0 : Int32), .val .null, .val .null, .val .null, .val .null] [(.int (0 : Int32)), .null]))) (fun t k => XS.iload X438.here hx rfl (hb hby at_153) rfl k) ?_
      refine own_go (B := (T438.setTop (mkF m 156 #[iv p0, iv p1, iv p2, iv (3 : Int32), iv (0 : Int32), rv a1, rv a4, rv a9, rv a16, rv a25, iv (0 : Int32), .val .null, .val .null, .val .null, .val .null] [(.int (0 : Int32)), (.int (0 : Int32)), .null]))) (fun t k => own_iconst (v := (0 : Int32)) X438.here hx rfl (hb hby at_155) (by decide) k) ?_
      refine own_go (B := (T438.setTop (mkF m 157 #[iv p0, iv p1, iv p2, iv (3 : Int32), iv (0 : Int32), rv a1, rv a4, rv a9, rv a16, rv a25, iv (0 : Int32), .val .null, .val .null, .val .null, .val .null] [(.int p2), (.int (0 : Int32)), (.int (0 : Int32)), .null]))) (fun t k => XS.iloadN X438.here hx rfl (hb hby at_156) rfl k) ?_
      obtain ⟨_, _, ⟨T440, L440, k440, n440⟩, -, X440, ⟨Lc440, hQ440, l440, y440, z440⟩, st440⟩ := Jvm.LawKit.callS X438 hx (y := own_y8) hown (mvT hZ w_36) (mvT hZ w_37) (mvT hZ w_38) (mvT hZ w_39) (by decide) (backOf (W := 0) (own_same0 l Z a0 hw [] (0 : Int32) (0 : Int32) p2 T38.heap n0 (by decide)) hZ w_39 w_38 (by decide) (by decide)) (g := (mkF m 157 #[iv p0, iv p1, iv p2, iv (3 : Int32), iv (0 : Int32), rv a1, rv a4, rv a9, rv a16, rv a25, iv (0 : Int32), .val .null, .val .null, .val .null, .val .null] [(.int p2), (.int (0 : Int32)), (.int (0 : Int32)), .null])) rfl (by rw [hml]; rfl) (argsL := [.null, (.int (0 : Int32)), (.int (0 : Int32)), (.int p2)]) (rest := []) (lenOf own_pd7 rfl) rfl (by show 2 * 0 + _ ≤ _; exact own_b rfl) (hb hby at_157) (fun _ _ => ⟨rfl, e438, (own_b rfl : 6 + 0 ≤ _), (own_b rfl : 9 + 0 ≤ _)⟩)
      dsimp only [Pt.U, Pt.locs, Pt.cells, Pt.slots] at X440 l440 y440 z440 st440 hQ440
      obtain ⟨rfl, Nq440, eq440⟩ := hQ440
      obtain ⟨L440, X440, N440⟩ := own_absC (K := 6) (K' := 9) X440 l440 y440 z440 N438 Nq440
      have e440 : T440.heap = T38.heap := eq440
      refine own_go (B := (T440.setTop (mkF m 160 #[iv p0, iv p1, iv p2, iv (3 : Int32), iv (0 : Int32), rv a1, rv a4, rv a9, rv a16, rv a25, iv (0 : Int32), .val .null, .val .null, .val .null, .val .null] [(.int (1 : Int32))]))) st440 ?_
      have hc160 : ¬ (1 : Int32) = (0 : Int32) := (by decide)
      refine own_ifN X440 hx (hb hby at_160) (pn := 163) rfl hc160 ?_
      refine own_go (B := (T440.setTop (mkF m 165 #[iv p0, iv p1, iv p2, iv (3 : Int32), iv (0 : Int32), rv a1, rv a4, rv a9, rv a16, rv a25, iv (0 : Int32), .val .null, .val .null, .val .null, .val .null] [.null]))) (fun t k => XS.aload X440.here hx rfl (hb hby at_163) rfl rfl k) ?_
      refine own_go (B := (T440.setTop (mkF m 167 #[iv p0, iv p1, iv p2, iv (3 : Int32), iv (0 : Int32), rv a1, rv a4, rv a9, rv a16, rv a25, iv (0 : Int32), .val .null, .val .null, .val .null, .val .null] [(.int (0 : Int32)), .null]))) (fun t k => XS.iload X440.here hx rfl (hb hby at_165) rfl k) ?_
      refine own_go (B := (T440.setTop (mkF m 168 #[iv p0, iv p1, iv p2, iv (3 : Int32), iv (0 : Int32), rv a1, rv a4, rv a9, rv a16, rv a25, iv (0 : Int32), .val .null, .val .null, .val .null, .val .null] [(.int (1 : Int32)), (.int (0 : Int32)), .null]))) (fun t k => own_iconst (v := (1 : Int32)) X440.here hx rfl (hb hby at_167) (by decide) k) ?_
      refine own_go (B := (T440.setTop (mkF m 169 #[iv p0, iv p1, iv p2, iv (3 : Int32), iv (0 : Int32), rv a1, rv a4, rv a9, rv a16, rv a25, iv (0 : Int32), .val .null, .val .null, .val .null, .val .null] [(.int p2), (.int (1 : Int32)), (.int (0 : Int32)), .null]))) (fun t k => XS.iloadN X440.here hx rfl (hb hby at_168) rfl k) ?_
      obtain ⟨_, _, ⟨T441, L441, k441, n441⟩, -, X441, ⟨Lc441, hQ441, l441, y441, z441⟩, st441⟩ := Jvm.LawKit.callS X440 hx (y := own_y8) hown (mvT hZ w_36) (mvT hZ w_37) (mvT hZ w_38) (mvT hZ w_39) (by decide) (backOf (W := 0) (own_same0 l Z a0 hw [] (0 : Int32) (1 : Int32) p2 T38.heap n0 (by decide)) hZ w_39 w_38 (by decide) (by decide)) (g := (mkF m 169 #[iv p0, iv p1, iv p2, iv (3 : Int32), iv (0 : Int32), rv a1, rv a4, rv a9, rv a16, rv a25, iv (0 : Int32), .val .null, .val .null, .val .null, .val .null] [(.int p2), (.int (1 : Int32)), (.int (0 : Int32)), .null])) rfl (by rw [hml]; rfl) (argsL := [.null, (.int (0 : Int32)), (.int (1 : Int32)), (.int p2)]) (rest := []) (lenOf own_pd7 rfl) rfl (by show 2 * 0 + _ ≤ _; exact own_b rfl) (hb hby at_169) (fun _ _ => ⟨rfl, e440, (own_b rfl : 6 + 0 ≤ _), (own_b rfl : 9 + 0 ≤ _)⟩)
      dsimp only [Pt.U, Pt.locs, Pt.cells, Pt.slots] at X441 l441 y441 z441 st441 hQ441
      obtain ⟨rfl, Nq441, eq441⟩ := hQ441
      obtain ⟨L441, X441, N441⟩ := own_absC (K := 6) (K' := 9) X441 l441 y441 z441 N440 Nq441
      have e441 : T441.heap = T38.heap := eq441
      refine own_go (B := (T441.setTop (mkF m 172 #[iv p0, iv p1, iv p2, iv (3 : Int32), iv (0 : Int32), rv a1, rv a4, rv a9, rv a16, rv a25, iv (0 : Int32), .val .null, .val .null, .val .null, .val .null] [(.int (1 : Int32))]))) st441 ?_
      have hc172 : ¬ (1 : Int32) = (0 : Int32) := (by decide)
      refine own_ifN X441 hx (hb hby at_172) (pn := 175) rfl hc172 ?_
      refine own_go (B := (T441.setTop (mkF m 177 #[iv p0, iv p1, iv p2, iv (3 : Int32), iv (0 : Int32), rv a1, rv a4, rv a9, rv a16, rv a25, iv (0 : Int32), .val .null, .val .null, .val .null, .val .null] [.null]))) (fun t k => XS.aload X441.here hx rfl (hb hby at_175) rfl rfl k) ?_
      refine own_go (B := (T441.setTop (mkF m 179 #[iv p0, iv p1, iv p2, iv (3 : Int32), iv (0 : Int32), rv a1, rv a4, rv a9, rv a16, rv a25, iv (0 : Int32), .val .null, .val .null, .val .null, .val .null] [(.int (0 : Int32)), .null]))) (fun t k => XS.iload X441.here hx rfl (hb hby at_177) rfl k) ?_
      refine own_go (B := (T441.setTop (mkF m 180 #[iv p0, iv p1, iv p2, iv (3 : Int32), iv (0 : Int32), rv a1, rv a4, rv a9, rv a16, rv a25, iv (0 : Int32), .val .null, .val .null, .val .null, .val .null] [(.int (2 : Int32)), (.int (0 : Int32)), .null]))) (fun t k => own_iconst (v := (2 : Int32)) X441.here hx rfl (hb hby at_179) (by decide) k) ?_
      refine own_go (B := (T441.setTop (mkF m 181 #[iv p0, iv p1, iv p2, iv (3 : Int32), iv (0 : Int32), rv a1, rv a4, rv a9, rv a16, rv a25, iv (0 : Int32), .val .null, .val .null, .val .null, .val .null] [(.int p2), (.int (2 : Int32)), (.int (0 : Int32)), .null]))) (fun t k => XS.iloadN X441.here hx rfl (hb hby at_180) rfl k) ?_
      obtain ⟨_, _, ⟨T442, L442, k442, n442⟩, -, X442, ⟨Lc442, hQ442, l442, y442, z442⟩, st442⟩ := Jvm.LawKit.callS X441 hx (y := own_y8) hown (mvT hZ w_36) (mvT hZ w_37) (mvT hZ w_38) (mvT hZ w_39) (by decide) (backOf (W := 0) (own_same0 l Z a0 hw [] (0 : Int32) (2 : Int32) p2 T38.heap n0 (by decide)) hZ w_39 w_38 (by decide) (by decide)) (g := (mkF m 181 #[iv p0, iv p1, iv p2, iv (3 : Int32), iv (0 : Int32), rv a1, rv a4, rv a9, rv a16, rv a25, iv (0 : Int32), .val .null, .val .null, .val .null, .val .null] [(.int p2), (.int (2 : Int32)), (.int (0 : Int32)), .null])) rfl (by rw [hml]; rfl) (argsL := [.null, (.int (0 : Int32)), (.int (2 : Int32)), (.int p2)]) (rest := []) (lenOf own_pd7 rfl) rfl (by show 2 * 0 + _ ≤ _; exact own_b rfl) (hb hby at_181) (fun _ _ => ⟨rfl, e441, (own_b rfl : 6 + 0 ≤ _), (own_b rfl : 9 + 0 ≤ _)⟩)
      dsimp only [Pt.U, Pt.locs, Pt.cells, Pt.slots] at X442 l442 y442 z442 st442 hQ442
      obtain ⟨rfl, Nq442, eq442⟩ := hQ442
      obtain ⟨L442, X442, N442⟩ := own_absC (K := 6) (K' := 9) X442 l442 y442 z442 N441 Nq442
      have e442 : T442.heap = T38.heap := eq442
      refine own_go (B := (T442.setTop (mkF m 184 #[iv p0, iv p1, iv p2, iv (3 : Int32), iv (0 : Int32), rv a1, rv a4, rv a9, rv a16, rv a25, iv (0 : Int32), .val .null, .val .null, .val .null, .val .null] [(.int (1 : Int32))]))) st442 ?_
      have hc184 : ¬ (1 : Int32) = (0 : Int32) := (by decide)
      refine own_ifN X442 hx (hb hby at_184) (pn := 187) rfl hc184 ?_
      refine own_go (B := (T442.setTop (mkF m 189 #[iv p0, iv p1, iv p2, iv (3 : Int32), iv (0 : Int32), rv a1, rv a4, rv a9, rv a16, rv a25, iv (0 : Int32), .val .null, .val .null, .val .null, .val .null] [.null]))) (fun t k => XS.aload X442.here hx rfl (hb hby at_187) rfl rfl k) ?_
      refine own_go (B := (T442.setTop (mkF m 191 #[iv p0, iv p1, iv p2, iv (3 : Int32), iv (0 : Int32), rv a1, rv a4, rv a9, rv a16, rv a25, iv (0 : Int32), .val .null, .val .null, .val .null, .val .null] [(.int (0 : Int32)), .null]))) (fun t k => XS.iload X442.here hx rfl (hb hby at_189) rfl k) ?_
      refine own_go (B := (T442.setTop (mkF m 192 #[iv p0, iv p1, iv p2, iv (3 : Int32), iv (0 : Int32), rv a1, rv a4, rv a9, rv a16, rv a25, iv (0 : Int32), .val .null, .val .null, .val .null, .val .null] [(.int (3 : Int32)), (.int (0 : Int32)), .null]))) (fun t k => own_iconst (v := (3 : Int32)) X442.here hx rfl (hb hby at_191) (by decide) k) ?_
      refine own_go (B := (T442.setTop (mkF m 193 #[iv p0, iv p1, iv p2, iv (3 : Int32), iv (0 : Int32), rv a1, rv a4, rv a9, rv a16, rv a25, iv (0 : Int32), .val .null, .val .null, .val .null, .val .null] [(.int p2), (.int (3 : Int32)), (.int (0 : Int32)), .null]))) (fun t k => XS.iloadN X442.here hx rfl (hb hby at_192) rfl k) ?_
      obtain ⟨_, _, ⟨T443, L443, k443, n443⟩, -, X443, ⟨Lc443, hQ443, l443, y443, z443⟩, st443⟩ := Jvm.LawKit.callS X442 hx (y := own_y8) hown (mvT hZ w_36) (mvT hZ w_37) (mvT hZ w_38) (mvT hZ w_39) (by decide) (backOf (W := 0) (own_same0 l Z a0 hw [] (0 : Int32) (3 : Int32) p2 T38.heap n0 (by decide)) hZ w_39 w_38 (by decide) (by decide)) (g := (mkF m 193 #[iv p0, iv p1, iv p2, iv (3 : Int32), iv (0 : Int32), rv a1, rv a4, rv a9, rv a16, rv a25, iv (0 : Int32), .val .null, .val .null, .val .null, .val .null] [(.int p2), (.int (3 : Int32)), (.int (0 : Int32)), .null])) rfl (by rw [hml]; rfl) (argsL := [.null, (.int (0 : Int32)), (.int (3 : Int32)), (.int p2)]) (rest := []) (lenOf own_pd7 rfl) rfl (by show 2 * 0 + _ ≤ _; exact own_b rfl) (hb hby at_193) (fun _ _ => ⟨rfl, e442, (own_b rfl : 6 + 0 ≤ _), (own_b rfl : 9 + 0 ≤ _)⟩)
      dsimp only [Pt.U, Pt.locs, Pt.cells, Pt.slots] at X443 l443 y443 z443 st443 hQ443
      obtain ⟨rfl, Nq443, eq443⟩ := hQ443
      obtain ⟨L443, X443, N443⟩ := own_absC (K := 6) (K' := 9) X443 l443 y443 z443 N442 Nq443
      have e443 : T443.heap = T38.heap := eq443
      refine own_go (B := (T443.setTop (mkF m 196 #[iv p0, iv p1, iv p2, iv (3 : Int32), iv (0 : Int32), rv a1, rv a4, rv a9, rv a16, rv a25, iv (0 : Int32), .val .null, .val .null, .val .null, .val .null] [(.int (1 : Int32))]))) st443 ?_
      have hc196 : ¬ (1 : Int32) = (0 : Int32) := (by decide)
      refine own_ifN X443 hx (hb hby at_196) (pn := 199) rfl hc196 ?_
      refine own_go (B := (T443.setTop (mkF m 200 #[iv p0, iv p1, iv p2, iv (3 : Int32), iv (0 : Int32), rv a1, rv a4, rv a9, rv a16, rv a25, iv (0 : Int32), .val .null, .val .null, .val .null, .val .null] [(.int (1 : Int32))]))) (fun t k => own_iconst (v := (1 : Int32)) X443.here hx rfl (hb hby at_199) (by decide) k) ?_
      refine own_go (B := (T443.setTop (mkF m 204 #[iv p0, iv p1, iv p2, iv (3 : Int32), iv (0 : Int32), rv a1, rv a4, rv a9, rv a16, rv a25, iv (0 : Int32), .val .null, .val .null, .val .null, .val .null] [(.int (1 : Int32))]))) (fun t k => XS.goto X443.here hx rfl (pc0 := 200) (pc' := 204) rfl (hb hby at_200) (by decide) (by decide) k) ?_
      exact own_retZ X443 hx hlk Bd.returns (hb hby at_204) (by decide) (own_b rfl) (own_b rfl) (Q := (own_law_Q Z p0 p1 p2 ca h0 n0)) ⟨rfl, N443⟩
    · refine own_go (B := (T38.setTop (mkF m 54 #[iv p0, iv p1, iv p2, iv (3 : Int32), iv (1 : Int32), rv a1, rv a4, rv a9, rv a16, rv a25, .unset, .unset, .unset, .unset, .unset] [(.int (1 : Int32))]))) (fun t k => XS.iload X38.here hx rfl (hb hby at_52) rfl k) ?_
      have hc54 : (0 : Int32) < (1 : Int32) := (by decide)
      refine own_ifN X38 hx (hb hby at_54) (pn := 57) rfl hc54 ?_
      refine own_go (B := (T38.setTop (mkF m 59 #[iv p0, iv p1, iv p2, iv (3 : Int32), iv (1 : Int32), rv a1, rv a4, rv a9, rv a16, rv a25, .unset, .unset, .unset, .unset, .unset] [(.ref a25)]))) (fun t k => XS.aload X38.here hx rfl (hb hby at_57) rfl rfl k) ?_
      refine own_go (B := (T38.setTop (mkF m 61 #[iv p0, iv p1, iv p2, iv (3 : Int32), iv (1 : Int32), rv a1, rv a4, rv a9, rv a16, rv a25, .unset, .unset, .unset, .unset, .unset] [(.ref a1), (.ref a25)]))) (fun t k => XS.aload X38.here hx rfl (hb hby at_59) rfl rfl k) ?_
      obtain ⟨cq444, kq444, qa444, qb444, qc444⟩ := isOf hZ rfl Ex38
      obtain ⟨_, _, ⟨T444, L444, k444, n444⟩, -, X444, ⟨Lc444, hQ444, l444, y444, z444⟩, st444⟩ := X38.virtualBack hx (y := own_y9) (z := own_y9) hown (mvT hZ w_20) (mvT hZ w_21) (notFace_of_selects (args := #[]) (mvT hZ w_23)) (mvT hZ w_23) (mvT hZ w_22) (by decide) (backOf (W := 0) (own_kone l Z a0 hw [] a25 a1 ar38 (0 : Int32) (3 : Int32) (1 : Int32) [.null, .null, .null] [(.ref a1), .null, .null] T38.heap n0 Ex38 gk38 gc38 Vb F39 gn25 gn_ar38 ne_ar38_a25 (own_lenL (n := 3) rfl (by decide)) (by decide) (by decide) (Nat.lt_of_lt_of_eq (by decide : _ < 3) rfl) (by decide) (Ins.of_exa (own_Bn_exa BB (List.mem_of_getElem? (i := 0) rfl)) w_40) rfl) hZ w_24 w_9 (by decide) (by decide)) qa444 qc444 (g := (mkF m 61 #[iv p0, iv p1, iv p2, iv (3 : Int32), iv (1 : Int32), rv a1, rv a4, rv a9, rv a16, rv a25, .unset, .unset, .unset, .unset, .unset] [(.ref a1), (.ref a25)])) rfl (by rw [hml]; rfl) (Steps.refl _) (argsL := [(.ref a1)]) (rest := []) (lenOf own_pd8 rfl) rfl (by show 2 * 0 + _ ≤ _; exact own_b rfl) (hb hby at_61) (fun _ _ => ⟨rfl, rfl, (own_b rfl : 6 + 0 ≤ _), (own_b rfl : 9 + 0 ≤ _)⟩)
      dsimp only [Pt.U, Pt.locs, Pt.cells, Pt.slots] at X444 l444 y444 z444 st444 hQ444
      obtain ⟨rfl, Nq444, K444, Ex444, gk444, gc444, gv444⟩ := hQ444
      obtain ⟨L444, X444, N444⟩ := own_absC (K := 6) (K' := 9) X444 l444 y444 z444 N38 Nq444
      have F445 : n0 ≤ T444.heap.size := Nat.le_trans F39 K444.1
      have F446 := Keep.trans F40 K444 (allS (Or.inr (Nat.le_trans F18.1 (Nat.le_of_eq ga25.symm))) (allS (Or.inr (Nat.le_trans K27.1 gz38)) all0))
      have F447 := Exa.keep Ex38 K444
      have F451 := own_Bn_keep BB K444 hbq
      refine own_tr (B := (T444.setTop (mkF m 64 #[iv p0, iv p1, iv p2, iv (3 : Int32), iv (1 : Int32), rv a1, rv a4, rv a9, rv a16, rv a25, .unset, .unset, .unset, .unset, .unset] []))) st444 ?_
      refine own_go (B := (T444.setTop (mkF m 66 #[iv p0, iv p1, iv p2, iv (3 : Int32), iv (1 : Int32), rv a1, rv a4, rv a9, rv a16, rv a25, .unset, .unset, .unset, .unset, .unset] [(.int (1 : Int32))]))) (fun t k => XS.iload X444.here hx rfl (hb hby at_64) rfl k) ?_
      refine own_go (B := (T444.setTop (mkF m 67 #[iv p0, iv p1, iv p2, iv (3 : Int32), iv (1 : Int32), rv a1, rv a4, rv a9, rv a16, rv a25, .unset, .unset, .unset, .unset, .unset] [(.int (1 : Int32)), (.int (1 : Int32))]))) (fun t k => own_iconst (v := (1 : Int32)) X444.here hx rfl (hb hby at_66) (by decide) k) ?_
      have hc67 : ¬ (1 : Int32) < (1 : Int32) := (by decide)
      refine own_icmpY X444 hx (hb hby at_67) (pc' := 77) (by decide) (by decide) hc67 ?_
      refine own_go (B := (T444.setTop (mkF m 79 #[iv p0, iv p1, iv p2, iv (3 : Int32), iv (1 : Int32), rv a1, rv a4, rv a9, rv a16, rv a25, .unset, .unset, .unset, .unset, .unset] [(.int (1 : Int32))]))) (fun t k => XS.iload X444.here hx rfl (hb hby at_77) rfl k) ?_
      refine own_go (B := (T444.setTop (mkF m 80 #[iv p0, iv p1, iv p2, iv (3 : Int32), iv (1 : Int32), rv a1, rv a4, rv a9, rv a16, rv a25, .unset, .unset, .unset, .unset, .unset] [(.int (2 : Int32)), (.int (1 : Int32))]))) (fun t k => own_iconst (v := (2 : Int32)) X444.here hx rfl (hb hby at_79) (by decide) k) ?_
      have hc80 : ¬ (2 : Int32) < (1 : Int32) := (by decide)
      refine own_icmpY X444 hx (hb hby at_80) (pc' := 90) (by decide) (by decide) hc80 ?_
      refine own_go (B := (T444.setTop (mkF m 92 #[iv p0, iv p1, iv p2, iv (3 : Int32), iv (1 : Int32), rv a1, rv a4, rv a9, rv a16, rv a25, .unset, .unset, .unset, .unset, .unset] [(.int (1 : Int32))]))) (fun t k => XS.iload X444.here hx rfl (hb hby at_90) rfl k) ?_
      refine own_go (B := (T444.setTop (mkF m 93 #[iv p0, iv p1, iv p2, iv (3 : Int32), iv (1 : Int32), rv a1, rv a4, rv a9, rv a16, rv a25, .unset, .unset, .unset, .unset, .unset] [(.int (3 : Int32)), (.int (1 : Int32))]))) (fun t k => own_iconst (v := (3 : Int32)) X444.here hx rfl (hb hby at_92) (by decide) k) ?_
      have hc93 : ¬ (3 : Int32) < (1 : Int32) := (by decide)
      refine own_icmpY X444 hx (hb hby at_93) (pc' := 103) (by decide) (by decide) hc93 ?_
      refine own_go (B := (T444.setTop (mkF m 105 #[iv p0, iv p1, iv p2, iv (3 : Int32), iv (1 : Int32), rv a1, rv a4, rv a9, rv a16, rv a25, .unset, .unset, .unset, .unset, .unset] [(.int (1 : Int32))]))) (fun t k => XS.iload X444.here hx rfl (hb hby at_103) rfl k) ?_
      refine own_go (B := (T444.setTop (mkF m 106 #[iv p0, iv p1, iv p2, iv (3 : Int32), iv (1 : Int32), rv a1, rv a4, rv a9, rv a16, rv a25, .unset, .unset, .unset, .unset, .unset] [(.int (3 : Int32)), (.int (1 : Int32))]))) (fun t k => XS.iloadN X444.here hx rfl (hb hby at_105) rfl k) ?_
      obtain ⟨_, _, ⟨T452, L452, k452, n452⟩, -, X452, ⟨Lc452, hQ452, l452, y452, z452⟩, st452⟩ := Jvm.LawKit.callS X444 hx (y := own_y6) hown (mvT hZ w_27) (mvT hZ w_28) (mvT hZ w_29) (mvT hZ w_30) (by decide) (backOf (W := 0) (own_mmin l Z a0 hw [] (1 : Int32) (3 : Int32) T444.heap n0) hZ w_30 w_29 (by decide) (by decide)) (g := (mkF m 106 #[iv p0, iv p1, iv p2, iv (3 : Int32), iv (1 : Int32), rv a1, rv a4, rv a9, rv a16, rv a25, .unset, .unset, .unset, .unset, .unset] [(.int (3 : Int32)), (.int (1 : Int32))])) rfl (by rw [hml]; rfl) (argsL := [(.int (1 : Int32)), (.int (3 : Int32))]) (rest := []) (lenOf own_pd5 rfl) rfl (by show 2 * 0 + _ ≤ _; exact own_b rfl) (hb hby at_106) (fun _ _ => ⟨rfl, rfl, (own_b rfl : 6 + 0 ≤ _), (own_b rfl : 9 + 0 ≤ _)⟩)
      dsimp only [Pt.U, Pt.locs, Pt.cells, Pt.slots] at X452 l452 y452 z452 st452 hQ452
      obtain ⟨rfl, Nq452, eq452⟩ := hQ452
      obtain ⟨L452, X452, N452⟩ := own_absC (K := 6) (K' := 9) X452 l452 y452 z452 N444 Nq452
      have e452 : T452.heap = T444.heap := eq452
      refine own_go (B := (T452.setTop (mkF m 109 #[iv p0, iv p1, iv p2, iv (3 : Int32), iv (1 : Int32), rv a1, rv a4, rv a9, rv a16, rv a25, .unset, .unset, .unset, .unset, .unset] [(.int (own_min (1 : Int32) (3 : Int32)))]))) st452 ?_
      rw [show own_min (1 : Int32) (3 : Int32) = (1 : Int32) from by decide]
      refine own_go (B := (T452.setTop (mkF m 111 #[iv p0, iv p1, iv p2, iv (3 : Int32), iv (1 : Int32), rv a1, rv a4, rv a9, rv a16, rv a25, iv (1 : Int32), .unset, .unset, .unset, .unset] []))) (fun t k => XS.istore X452.here hx rfl (hb hby at_109) rfl (l' := #[iv p0, iv p1, iv p2, iv (3 : Int32), iv (1 : Int32), rv a1, rv a4, rv a9, rv a16, rv a25, iv (1 : Int32), .unset, .unset, .unset, .unset]) rfl k) ?_
      refine own_go (B := (T452.setTop (mkF m 113 #[iv p0, iv p1, iv p2, iv (3 : Int32), iv (1 : Int32), rv a1, rv a4, rv a9, rv a16, rv a25, iv (1 : Int32), .unset, .unset, .unset, .unset] [(.ref a25)]))) (fun t k => XS.aload X452.here hx rfl (hb hby at_111) rfl rfl k) ?_
      obtain ⟨cq453, kq453, qa453, qb453, qc453⟩ := isOf hZ e452 Ex444
      obtain ⟨_, _, ⟨T453, L453, k453, n453⟩, -, X453, ⟨Lc453, hQ453, l453, y453, z453⟩, st453⟩ := X452.virtualBack hx (y := own_y7) (z := own_y7) hown (mvT hZ w_31) (mvT hZ w_32) (notFace_of_selects (args := #[]) (mvT hZ w_34)) (mvT hZ w_34) (mvT hZ w_33) (by decide) (backOf (W := 0) (own_tone l Z a0 hw [] a25 ar38 a1 (1 : Int32) (0 : Int32) [(.ref a1), .null, .null] [.null, .null, .null] T444.heap n0 Ex444 gk444 gc444 gv444 F445 gn25 gn_ar38 ne_ar38_a25 (by decide) (by decide) (by decide) rfl rfl) hZ w_35 w_9 (by decide) (by decide)) qa453 qc453 (g := (mkF m 113 #[iv p0, iv p1, iv p2, iv (3 : Int32), iv (1 : Int32), rv a1, rv a4, rv a9, rv a16, rv a25, iv (1 : Int32), .unset, .unset, .unset, .unset] [(.ref a25)])) rfl (by rw [hml]; rfl) (Steps.refl _) (argsL := []) (rest := []) (lenOf own_pd6 rfl) rfl (by show 2 * 0 + _ ≤ _; exact own_b rfl) (hb hby at_113) (fun _ _ => ⟨rfl, e452, (own_b rfl : 6 + 0 ≤ _), (own_b rfl : 9 + 0 ≤ _)⟩)
      dsimp only [Pt.U, Pt.locs, Pt.cells, Pt.slots] at X453 l453 y453 z453 st453 hQ453
      obtain ⟨rfl, Nq453, K453, Ex453, gk453, gc453, gv453⟩ := hQ453
      obtain ⟨L453, X453, N453⟩ := own_absC (K := 6) (K' := 9) X453 l453 y453 z453 N452 Nq453
      have F454 : n0 ≤ T453.heap.size := Nat.le_trans F445 K453.1
      have F455 := Keep.trans F446 K453 (allS (Or.inr (Nat.le_trans F18.1 (Nat.le_of_eq ga25.symm))) (allS (Or.inr (Nat.le_trans K27.1 gz38)) all0))
      have F456 := Exa.keep Ex444 K453
      have F457 := own_Bn_keep F451 K453 hbq
      refine own_tr (B := (T453.setTop (mkF m 116 #[iv p0, iv p1, iv p2, iv (3 : Int32), iv (1 : Int32), rv a1, rv a4, rv a9, rv a16, rv a25, iv (1 : Int32), .unset, .unset, .unset, .unset] [(.ref a1)]))) st453 ?_
      obtain ⟨T461, X461, e461, st461⟩ := castY X453 hx hZ hown w_41 rfl (Ins.of_exa (own_Bn_exa F457 (List.mem_of_getElem? (i := 0) rfl)) w_42) (g := (mkF m 116 #[iv p0, iv p1, iv p2, iv (3 : Int32), iv (1 : Int32), rv a1, rv a4, rv a9, rv a16, rv a25, iv (1 : Int32), .unset, .unset, .unset, .unset] [(.ref a1)])) rfl rfl (hb hby at_116)
      refine own_go (B := (T461.setTop (mkF m 119 #[iv p0, iv p1, iv p2, iv (3 : Int32), iv (1 : Int32), rv a1, rv a4, rv a9, rv a16, rv a25, iv (1 : Int32), .unset, .unset, .unset, .unset] [(.ref a1)]))) st461 ?_
      refine own_go (B := (T461.setTop (mkF m 121 #[iv p0, iv p1, iv p2, iv (3 : Int32), iv (1 : Int32), rv a1, rv a4, rv a9, rv a16, rv a25, iv (1 : Int32), rv a1, .unset, .unset, .unset] []))) (fun t k => XS.astore X461.here hx rfl (hb hby at_119) rfl rfl (l' := #[iv p0, iv p1, iv p2, iv (3 : Int32), iv (1 : Int32), rv a1, rv a4, rv a9, rv a16, rv a25, iv (1 : Int32), rv a1, .unset, .unset, .unset]) rfl k) ?_
      refine own_go (B := (T461.setTop (mkF m 123 #[iv p0, iv p1, iv p2, iv (3 : Int32), iv (1 : Int32), rv a1, rv a4, rv a9, rv a16, rv a25, iv (1 : Int32), rv a1, .unset, .unset, .unset] [(.ref a25)]))) (fun t k => XS.aload X461.here hx rfl (hb hby at_121) rfl rfl k) ?_
      obtain ⟨cq462, kq462, qa462, qb462, qc462⟩ := isOf hZ e461 Ex453
      obtain ⟨_, _, ⟨T462, L462, k462, n462⟩, -, X462, ⟨Lc462, hQ462, l462, y462, z462⟩, st462⟩ := X461.virtualBack hx (y := own_y7) (z := own_y7) hown (mvT hZ w_31) (mvT hZ w_32) (notFace_of_selects (args := #[]) (mvT hZ w_34)) (mvT hZ w_34) (mvT hZ w_33) (by decide) (backOf (W := 0) (own_tnone l Z a0 hw [] a25 T453.heap n0 gc453) hZ w_35 w_9 (by decide) (by decide)) qa462 qc462 (g := (mkF m 123 #[iv p0, iv p1, iv p2, iv (3 : Int32), iv (1 : Int32), rv a1, rv a4, rv a9, rv a16, rv a25, iv (1 : Int32), rv a1, .unset, .unset, .unset] [(.ref a25)])) rfl (by rw [hml]; rfl) (Steps.refl _) (argsL := []) (rest := []) (lenOf own_pd6 rfl) rfl (by show 2 * 0 + _ ≤ _; exact own_b rfl) (hb hby at_123) (fun _ _ => ⟨rfl, e461, (own_b rfl : 6 + 0 ≤ _), (own_b rfl : 9 + 0 ≤ _)⟩)
      dsimp only [Pt.U, Pt.locs, Pt.cells, Pt.slots] at X462 l462 y462 z462 st462 hQ462
      obtain ⟨rfl, Nq462, eq462⟩ := hQ462
      obtain ⟨L462, X462, N462⟩ := own_absC (K := 6) (K' := 9) X462 l462 y462 z462 N453 Nq462
      have e462 : T462.heap = T453.heap := eq462
      refine own_tr (B := (T462.setTop (mkF m 126 #[iv p0, iv p1, iv p2, iv (3 : Int32), iv (1 : Int32), rv a1, rv a4, rv a9, rv a16, rv a25, iv (1 : Int32), rv a1, .unset, .unset, .unset] [.null]))) st462 ?_
      refine own_go (B := (T462.setTop (mkF m 129 #[iv p0, iv p1, iv p2, iv (3 : Int32), iv (1 : Int32), rv a1, rv a4, rv a9, rv a16, rv a25, iv (1 : Int32), rv a1, .unset, .unset, .unset] [.null]))) (X462.checkcastNull hx (g := (mkF m 126 #[iv p0, iv p1, iv p2, iv (3 : Int32), iv (1 : Int32), rv a1, rv a4, rv a9, rv a16, rv a25, iv (1 : Int32), rv a1, .unset, .unset, .unset] [.null])) rfl rfl (hb hby at_126)) ?_
      refine own_go (B := (T462.setTop (mkF m 131 #[iv p0, iv p1, iv p2, iv (3 : Int32), iv (1 : Int32), rv a1, rv a4, rv a9, rv a16, rv a25, iv (1 : Int32), rv a1, .val .null, .unset, .unset] []))) (fun t k => XS.astore X462.here hx rfl (hb hby at_129) rfl rfl (l' := #[iv p0, iv p1, iv p2, iv (3 : Int32), iv (1 : Int32), rv a1, rv a4, rv a9, rv a16, rv a25, iv (1 : Int32), rv a1, .val .null, .unset, .unset]) rfl k) ?_
      refine own_go (B := (T462.setTop (mkF m 133 #[iv p0, iv p1, iv p2, iv (3 : Int32), iv (1 : Int32), rv a1, rv a4, rv a9, rv a16, rv a25, iv (1 : Int32), rv a1, .val .null, .unset, .unset] [(.ref a25)]))) (fun t k => XS.aload X462.here hx rfl (hb hby at_131) rfl rfl k) ?_
      obtain ⟨cq464, kq464, qa464, qb464, qc464⟩ := isOf hZ e462 Ex453
      obtain ⟨_, _, ⟨T464, L464, k464, n464⟩, -, X464, ⟨Lc464, hQ464, l464, y464, z464⟩, st464⟩ := X462.virtualBack hx (y := own_y7) (z := own_y7) hown (mvT hZ w_31) (mvT hZ w_32) (notFace_of_selects (args := #[]) (mvT hZ w_34)) (mvT hZ w_34) (mvT hZ w_33) (by decide) (backOf (W := 0) (own_tnone l Z a0 hw [] a25 T453.heap n0 gc453) hZ w_35 w_9 (by decide) (by decide)) qa464 qc464 (g := (mkF m 133 #[iv p0, iv p1, iv p2, iv (3 : Int32), iv (1 : Int32), rv a1, rv a4, rv a9, rv a16, rv a25, iv (1 : Int32), rv a1, .val .null, .unset, .unset] [(.ref a25)])) rfl (by rw [hml]; rfl) (Steps.refl _) (argsL := []) (rest := []) (lenOf own_pd6 rfl) rfl (by show 2 * 0 + _ ≤ _; exact own_b rfl) (hb hby at_133) (fun _ _ => ⟨rfl, e462, (own_b rfl : 6 + 0 ≤ _), (own_b rfl : 9 + 0 ≤ _)⟩)
      dsimp only [Pt.U, Pt.locs, Pt.cells, Pt.slots] at X464 l464 y464 z464 st464 hQ464
      obtain ⟨rfl, Nq464, eq464⟩ := hQ464
      obtain ⟨L464, X464, N464⟩ := own_absC (K := 6) (K' := 9) X464 l464 y464 z464 N462 Nq464
      have e464 : T464.heap = T453.heap := eq464
      refine own_tr (B := (T464.setTop (mkF m 136 #[iv p0, iv p1, iv p2, iv (3 : Int32), iv (1 : Int32), rv a1, rv a4, rv a9, rv a16, rv a25, iv (1 : Int32), rv a1, .val .null, .unset, .unset] [.null]))) st464 ?_
      refine own_go (B := (T464.setTop (mkF m 139 #[iv p0, iv p1, iv p2, iv (3 : Int32), iv (1 : Int32), rv a1, rv a4, rv a9, rv a16, rv a25, iv (1 : Int32), rv a1, .val .null, .unset, .unset] [.null]))) (X464.checkcastNull hx (g := (mkF m 136 #[iv p0, iv p1, iv p2, iv (3 : Int32), iv (1 : Int32), rv a1, rv a4, rv a9, rv a16, rv a25, iv (1 : Int32), rv a1, .val .null, .unset, .unset] [.null])) rfl rfl (hb hby at_136)) ?_
      refine own_go (B := (T464.setTop (mkF m 141 #[iv p0, iv p1, iv p2, iv (3 : Int32), iv (1 : Int32), rv a1, rv a4, rv a9, rv a16, rv a25, iv (1 : Int32), rv a1, .val .null, .val .null, .unset] []))) (fun t k => XS.astore X464.here hx rfl (hb hby at_139) rfl rfl (l' := #[iv p0, iv p1, iv p2, iv (3 : Int32), iv (1 : Int32), rv a1, rv a4, rv a9, rv a16, rv a25, iv (1 : Int32), rv a1, .val .null, .val .null, .unset]) rfl k) ?_
      refine own_go (B := (T464.setTop (mkF m 143 #[iv p0, iv p1, iv p2, iv (3 : Int32), iv (1 : Int32), rv a1, rv a4, rv a9, rv a16, rv a25, iv (1 : Int32), rv a1, .val .null, .val .null, .unset] [(.ref a25)]))) (fun t k => XS.aload X464.here hx rfl (hb hby at_141) rfl rfl k) ?_
      obtain ⟨cq466, kq466, qa466, qb466, qc466⟩ := isOf hZ e464 Ex453
      obtain ⟨_, _, ⟨T466, L466, k466, n466⟩, -, X466, ⟨Lc466, hQ466, l466, y466, z466⟩, st466⟩ := X464.virtualBack hx (y := own_y7) (z := own_y7) hown (mvT hZ w_31) (mvT hZ w_32) (notFace_of_selects (args := #[]) (mvT hZ w_34)) (mvT hZ w_34) (mvT hZ w_33) (by decide) (backOf (W := 0) (own_tnone l Z a0 hw [] a25 T453.heap n0 gc453) hZ w_35 w_9 (by decide) (by decide)) qa466 qc466 (g := (mkF m 143 #[iv p0, iv p1, iv p2, iv (3 : Int32), iv (1 : Int32), rv a1, rv a4, rv a9, rv a16, rv a25, iv (1 : Int32), rv a1, .val .null, .val .null, .unset] [(.ref a25)])) rfl (by rw [hml]; rfl) (Steps.refl _) (argsL := []) (rest := []) (lenOf own_pd6 rfl) rfl (by show 2 * 0 + _ ≤ _; exact own_b rfl) (hb hby at_143) (fun _ _ => ⟨rfl, e464, (own_b rfl : 6 + 0 ≤ _), (own_b rfl : 9 + 0 ≤ _)⟩)
      dsimp only [Pt.U, Pt.locs, Pt.cells, Pt.slots] at X466 l466 y466 z466 st466 hQ466
      obtain ⟨rfl, Nq466, eq466⟩ := hQ466
      obtain ⟨L466, X466, N466⟩ := own_absC (K := 6) (K' := 9) X466 l466 y466 z466 N464 Nq466
      have e466 : T466.heap = T453.heap := eq466
      refine own_tr (B := (T466.setTop (mkF m 146 #[iv p0, iv p1, iv p2, iv (3 : Int32), iv (1 : Int32), rv a1, rv a4, rv a9, rv a16, rv a25, iv (1 : Int32), rv a1, .val .null, .val .null, .unset] [.null]))) st466 ?_
      refine own_go (B := (T466.setTop (mkF m 149 #[iv p0, iv p1, iv p2, iv (3 : Int32), iv (1 : Int32), rv a1, rv a4, rv a9, rv a16, rv a25, iv (1 : Int32), rv a1, .val .null, .val .null, .unset] [.null]))) (X466.checkcastNull hx (g := (mkF m 146 #[iv p0, iv p1, iv p2, iv (3 : Int32), iv (1 : Int32), rv a1, rv a4, rv a9, rv a16, rv a25, iv (1 : Int32), rv a1, .val .null, .val .null, .unset] [.null])) rfl rfl (hb hby at_146)) ?_
      refine own_go (B := (T466.setTop (mkF m 151 #[iv p0, iv p1, iv p2, iv (3 : Int32), iv (1 : Int32), rv a1, rv a4, rv a9, rv a16, rv a25, iv (1 : Int32), rv a1, .val .null, .val .null, .val .null] []))) (fun t k => XS.astore X466.here hx rfl (hb hby at_149) rfl rfl (l' := #[iv p0, iv p1, iv p2, iv (3 : Int32), iv (1 : Int32), rv a1, rv a4, rv a9, rv a16, rv a25, iv (1 : Int32), rv a1, .val .null, .val .null, .val .null]) rfl k) ?_
      refine own_go (B := (T466.setTop (mkF m 153 #[iv p0, iv p1, iv p2, iv (3 : Int32), iv (1 : Int32), rv a1, rv a4, rv a9, rv a16, rv a25, iv (1 : Int32), rv a1, .val .null, .val .null, .val .null] [(.ref a1)]))) (fun t k => XS.aload X466.here hx rfl (hb hby at_151) rfl rfl k) ?_
      refine own_go (B := (T466.setTop (mkF m 155 #[iv p0, iv p1, iv p2, iv (3 : Int32), iv (1 : Int32), rv a1, rv a4, rv a9, rv a16, rv a25, iv (1 : Int32), rv a1, .val .null, .val .null, .val .null] [(.int (1 : Int32)), (.ref a1)]))) (fun t k => XS.iload X466.here hx rfl (hb hby at_153) rfl k) ?_
      refine own_go (B := (T466.setTop (mkF m 156 #[iv p0, iv p1, iv p2, iv (3 : Int32), iv (1 : Int32), rv a1, rv a4, rv a9, rv a16, rv a25, iv (1 : Int32), rv a1, .val .null, .val .null, .val .null] [(.int (0 : Int32)), (.int (1 : Int32)), (.ref a1)]))) (fun t k => own_iconst (v := (0 : Int32)) X466.here hx rfl (hb hby at_155) (by decide) k) ?_
      refine own_go (B := (T466.setTop (mkF m 157 #[iv p0, iv p1, iv p2, iv (3 : Int32), iv (1 : Int32), rv a1, rv a4, rv a9, rv a16, rv a25, iv (1 : Int32), rv a1, .val .null, .val .null, .val .null] [(.int p2), (.int (0 : Int32)), (.int (1 : Int32)), (.ref a1)]))) (fun t k => XS.iloadN X466.here hx rfl (hb hby at_156) rfl k) ?_
      obtain ⟨_, _, ⟨T468, L468, k468, n468⟩, -, X468, ⟨Lc468, hQ468, l468, y468, z468⟩, st468⟩ := Jvm.LawKit.callS X466 hx (y := own_y8) hown (mvT hZ w_36) (mvT hZ w_37) (mvT hZ w_38) (mvT hZ w_39) (by decide) (backOf (W := 0) (own_same1 l Z a0 hw [] a1 (1 : Int32) (0 : Int32) p2 p2 T453.heap n0 (own_Bn_exa F457 (List.mem_of_getElem? (i := 0) rfl)) (own_Bn_fld F457 (List.mem_of_getElem? (i := 0) rfl)) (by decide) (own_v0 (by decide))) hZ w_39 w_38 (by decide) (by decide)) (g := (mkF m 157 #[iv p0, iv p1, iv p2, iv (3 : Int32), iv (1 : Int32), rv a1, rv a4, rv a9, rv a16, rv a25, iv (1 : Int32), rv a1, .val .null, .val .null, .val .null] [(.int p2), (.int (0 : Int32)), (.int (1 : Int32)), (.ref a1)])) rfl (by rw [hml]; rfl) (argsL := [(.ref a1), (.int (1 : Int32)), (.int (0 : Int32)), (.int p2)]) (rest := []) (lenOf own_pd7 rfl) rfl (by show 2 * 0 + _ ≤ _; exact own_b rfl) (hb hby at_157) (fun _ _ => ⟨rfl, e466, (own_b rfl : 6 + 0 ≤ _), (own_b rfl : 9 + 0 ≤ _)⟩)
      dsimp only [Pt.U, Pt.locs, Pt.cells, Pt.slots] at X468 l468 y468 z468 st468 hQ468
      obtain ⟨rfl, Nq468, eq468⟩ := hQ468
      obtain ⟨L468, X468, N468⟩ := own_absC (K := 6) (K' := 9) X468 l468 y468 z468 N466 Nq468
      have e468 : T468.heap = T453.heap := eq468
      refine own_go (B := (T468.setTop (mkF m 160 #[iv p0, iv p1, iv p2, iv (3 : Int32), iv (1 : Int32), rv a1, rv a4, rv a9, rv a16, rv a25, iv (1 : Int32), rv a1, .val .null, .val .null, .val .null] [(.int (1 : Int32))]))) st468 ?_
      have hc160 : ¬ (1 : Int32) = (0 : Int32) := (by decide)
      refine own_ifN X468 hx (hb hby at_160) (pn := 163) rfl hc160 ?_
      refine own_go (B := (T468.setTop (mkF m 165 #[iv p0, iv p1, iv p2, iv (3 : Int32), iv (1 : Int32), rv a1, rv a4, rv a9, rv a16, rv a25, iv (1 : Int32), rv a1, .val .null, .val .null, .val .null] [.null]))) (fun t k => XS.aload X468.here hx rfl (hb hby at_163) rfl rfl k) ?_
      refine own_go (B := (T468.setTop (mkF m 167 #[iv p0, iv p1, iv p2, iv (3 : Int32), iv (1 : Int32), rv a1, rv a4, rv a9, rv a16, rv a25, iv (1 : Int32), rv a1, .val .null, .val .null, .val .null] [(.int (1 : Int32)), .null]))) (fun t k => XS.iload X468.here hx rfl (hb hby at_165) rfl k) ?_
      refine own_go (B := (T468.setTop (mkF m 168 #[iv p0, iv p1, iv p2, iv (3 : Int32), iv (1 : Int32), rv a1, rv a4, rv a9, rv a16, rv a25, iv (1 : Int32), rv a1, .val .null, .val .null, .val .null] [(.int (1 : Int32)), (.int (1 : Int32)), .null]))) (fun t k => own_iconst (v := (1 : Int32)) X468.here hx rfl (hb hby at_167) (by decide) k) ?_
      refine own_go (B := (T468.setTop (mkF m 169 #[iv p0, iv p1, iv p2, iv (3 : Int32), iv (1 : Int32), rv a1, rv a4, rv a9, rv a16, rv a25, iv (1 : Int32), rv a1, .val .null, .val .null, .val .null] [(.int p2), (.int (1 : Int32)), (.int (1 : Int32)), .null]))) (fun t k => XS.iloadN X468.here hx rfl (hb hby at_168) rfl k) ?_
      obtain ⟨_, _, ⟨T469, L469, k469, n469⟩, -, X469, ⟨Lc469, hQ469, l469, y469, z469⟩, st469⟩ := Jvm.LawKit.callS X468 hx (y := own_y8) hown (mvT hZ w_36) (mvT hZ w_37) (mvT hZ w_38) (mvT hZ w_39) (by decide) (backOf (W := 0) (own_same0 l Z a0 hw [] (1 : Int32) (1 : Int32) p2 T453.heap n0 (by decide)) hZ w_39 w_38 (by decide) (by decide)) (g := (mkF m 169 #[iv p0, iv p1, iv p2, iv (3 : Int32), iv (1 : Int32), rv a1, rv a4, rv a9, rv a16, rv a25, iv (1 : Int32), rv a1, .val .null, .val .null, .val .null] [(.int p2), (.int (1 : Int32)), (.int (1 : Int32)), .null])) rfl (by rw [hml]; rfl) (argsL := [.null, (.int (1 : Int32)), (.int (1 : Int32)), (.int p2)]) (rest := []) (lenOf own_pd7 rfl) rfl (by show 2 * 0 + _ ≤ _; exact own_b rfl) (hb hby at_169) (fun _ _ => ⟨rfl, e468, (own_b rfl : 6 + 0 ≤ _), (own_b rfl : 9 + 0 ≤ _)⟩)
      dsimp only [Pt.U, Pt.locs, Pt.cells, Pt.slots] at X469 l469 y469 z469 st469 hQ469
      obtain ⟨rfl, Nq469, eq469⟩ := hQ469
      obtain ⟨L469, X469, N469⟩ := own_absC (K := 6) (K' := 9) X469 l469 y469 z469 N468 Nq469
      have e469 : T469.heap = T453.heap := eq469
      refine own_go (B := (T469.setTop (mkF m 172 #[iv p0, iv p1, iv p2, iv (3 : Int32), iv (1 : Int32), rv a1, rv a4, rv a9, rv a16, rv a25, iv (1 : Int32), rv a1, .val .null, .val .null, .val .null] [(.int (1 : Int32))]))) st469 ?_
      have hc172 : ¬ (1 : Int32) = (0 : Int32) := (by decide)
      refine own_ifN X469 hx (hb hby at_172) (pn := 175) rfl hc172 ?_
      refine own_go (B := (T469.setTop (mkF m 177 #[iv p0, iv p1, iv p2, iv (3 : Int32), iv (1 : Int32), rv a1, rv a4, rv a9, rv a16, rv a25, iv (1 : Int32), rv a1, .val .null, .val .null, .val .null] [.null]))) (fun t k => XS.aload X469.here hx rfl (hb hby at_175) rfl rfl k) ?_
      refine own_go (B := (T469.setTop (mkF m 179 #[iv p0, iv p1, iv p2, iv (3 : Int32), iv (1 : Int32), rv a1, rv a4, rv a9, rv a16, rv a25, iv (1 : Int32), rv a1, .val .null, .val .null, .val .null] [(.int (1 : Int32)), .null]))) (fun t k => XS.iload X469.here hx rfl (hb hby at_177) rfl k) ?_
      refine own_go (B := (T469.setTop (mkF m 180 #[iv p0, iv p1, iv p2, iv (3 : Int32), iv (1 : Int32), rv a1, rv a4, rv a9, rv a16, rv a25, iv (1 : Int32), rv a1, .val .null, .val .null, .val .null] [(.int (2 : Int32)), (.int (1 : Int32)), .null]))) (fun t k => own_iconst (v := (2 : Int32)) X469.here hx rfl (hb hby at_179) (by decide) k) ?_
      refine own_go (B := (T469.setTop (mkF m 181 #[iv p0, iv p1, iv p2, iv (3 : Int32), iv (1 : Int32), rv a1, rv a4, rv a9, rv a16, rv a25, iv (1 : Int32), rv a1, .val .null, .val .null, .val .null] [(.int p2), (.int (2 : Int32)), (.int (1 : Int32)), .null]))) (fun t k => XS.iloadN X469.here hx rfl (hb hby at_180) rfl k) ?_
      obtain ⟨_, _, ⟨T470, L470, k470, n470⟩, -, X470, ⟨Lc470, hQ470, l470, y470, z470⟩, st470⟩ := Jvm.LawKit.callS X469 hx (y := own_y8) hown (mvT hZ w_36) (mvT hZ w_37) (mvT hZ w_38) (mvT hZ w_39) (by decide) (backOf (W := 0) (own_same0 l Z a0 hw [] (1 : Int32) (2 : Int32) p2 T453.heap n0 (by decide)) hZ w_39 w_38 (by decide) (by decide)) (g := (mkF m 181 #[iv p0, iv p1, iv p2, iv (3 : Int32), iv (1 : Int32), rv a1, rv a4, rv a9, rv a16, rv a25, iv (1 : Int32), rv a1, .val .null, .val .null, .val .null] [(.int p2), (.int (2 : Int32)), (.int (1 : Int32)), .null])) rfl (by rw [hml]; rfl) (argsL := [.null, (.int (1 : Int32)), (.int (2 : Int32)), (.int p2)]) (rest := []) (lenOf own_pd7 rfl) rfl (by show 2 * 0 + _ ≤ _; exact own_b rfl) (hb hby at_181) (fun _ _ => ⟨rfl, e469, (own_b rfl : 6 + 0 ≤ _), (own_b rfl : 9 + 0 ≤ _)⟩)
      dsimp only [Pt.U, Pt.locs, Pt.cells, Pt.slots] at X470 l470 y470 z470 st470 hQ470
      obtain ⟨rfl, Nq470, eq470⟩ := hQ470
      obtain ⟨L470, X470, N470⟩ := own_absC (K := 6) (K' := 9) X470 l470 y470 z470 N469 Nq470
      have e470 : T470.heap = T453.heap := eq470
      refine own_go (B := (T470.setTop (mkF m 184 #[iv p0, iv p1, iv p2, iv (3 : Int32), iv (1 : Int32), rv a1, rv a4, rv a9, rv a16, rv a25, iv (1 : Int32), rv a1, .val .null, .val .null, .val .null] [(.int (1 : Int32))]))) st470 ?_
      have hc184 : ¬ (1 : Int32) = (0 : Int32) := (by decide)
      refine own_ifN X470 hx (hb hby at_184) (pn := 187) rfl hc184 ?_
      refine own_go (B := (T470.setTop (mkF m 189 #[iv p0, iv p1, iv p2, iv (3 : Int32), iv (1 : Int32), rv a1, rv a4, rv a9, rv a16, rv a25, iv (1 : Int32), rv a1, .val .null, .val .null, .val .null] [.null]))) (fun t k => XS.aload X470.here hx rfl (hb hby at_187) rfl rfl k) ?_
      refine own_go (B := (T470.setTop (mkF m 191 #[iv p0, iv p1, iv p2, iv (3 : Int32), iv (1 : Int32), rv a1, rv a4, rv a9, rv a16, rv a25, iv (1 : Int32), rv a1, .val .null, .val .null, .val .null] [(.int (1 : Int32)), .null]))) (fun t k => XS.iload X470.here hx rfl (hb hby at_189) rfl k) ?_
      refine own_go (B := (T470.setTop (mkF m 192 #[iv p0, iv p1, iv p2, iv (3 : Int32), iv (1 : Int32), rv a1, rv a4, rv a9, rv a16, rv a25, iv (1 : Int32), rv a1, .val .null, .val .null, .val .null] [(.int (3 : Int32)), (.int (1 : Int32)), .null]))) (fun t k => own_iconst (v := (3 : Int32)) X470.here hx rfl (hb hby at_191) (by decide) k) ?_
      refine own_go (B := (T470.setTop (mkF m 193 #[iv p0, iv p1, iv p2, iv (3 : Int32), iv (1 : Int32), rv a1, rv a4, rv a9, rv a16, rv a25, iv (1 : Int32), rv a1, .val .null, .val .null, .val .null] [(.int p2), (.int (3 : Int32)), (.int (1 : Int32)), .null]))) (fun t k => XS.iloadN X470.here hx rfl (hb hby at_192) rfl k) ?_
      obtain ⟨_, _, ⟨T471, L471, k471, n471⟩, -, X471, ⟨Lc471, hQ471, l471, y471, z471⟩, st471⟩ := Jvm.LawKit.callS X470 hx (y := own_y8) hown (mvT hZ w_36) (mvT hZ w_37) (mvT hZ w_38) (mvT hZ w_39) (by decide) (backOf (W := 0) (own_same0 l Z a0 hw [] (1 : Int32) (3 : Int32) p2 T453.heap n0 (by decide)) hZ w_39 w_38 (by decide) (by decide)) (g := (mkF m 193 #[iv p0, iv p1, iv p2, iv (3 : Int32), iv (1 : Int32), rv a1, rv a4, rv a9, rv a16, rv a25, iv (1 : Int32), rv a1, .val .null, .val .null, .val .null] [(.int p2), (.int (3 : Int32)), (.int (1 : Int32)), .null])) rfl (by rw [hml]; rfl) (argsL := [.null, (.int (1 : Int32)), (.int (3 : Int32)), (.int p2)]) (rest := []) (lenOf own_pd7 rfl) rfl (by show 2 * 0 + _ ≤ _; exact own_b rfl) (hb hby at_193) (fun _ _ => ⟨rfl, e470, (own_b rfl : 6 + 0 ≤ _), (own_b rfl : 9 + 0 ≤ _)⟩)
      dsimp only [Pt.U, Pt.locs, Pt.cells, Pt.slots] at X471 l471 y471 z471 st471 hQ471
      obtain ⟨rfl, Nq471, eq471⟩ := hQ471
      obtain ⟨L471, X471, N471⟩ := own_absC (K := 6) (K' := 9) X471 l471 y471 z471 N470 Nq471
      have e471 : T471.heap = T453.heap := eq471
      refine own_go (B := (T471.setTop (mkF m 196 #[iv p0, iv p1, iv p2, iv (3 : Int32), iv (1 : Int32), rv a1, rv a4, rv a9, rv a16, rv a25, iv (1 : Int32), rv a1, .val .null, .val .null, .val .null] [(.int (1 : Int32))]))) st471 ?_
      have hc196 : ¬ (1 : Int32) = (0 : Int32) := (by decide)
      refine own_ifN X471 hx (hb hby at_196) (pn := 199) rfl hc196 ?_
      refine own_go (B := (T471.setTop (mkF m 200 #[iv p0, iv p1, iv p2, iv (3 : Int32), iv (1 : Int32), rv a1, rv a4, rv a9, rv a16, rv a25, iv (1 : Int32), rv a1, .val .null, .val .null, .val .null] [(.int (1 : Int32))]))) (fun t k => own_iconst (v := (1 : Int32)) X471.here hx rfl (hb hby at_199) (by decide) k) ?_
      refine own_go (B := (T471.setTop (mkF m 204 #[iv p0, iv p1, iv p2, iv (3 : Int32), iv (1 : Int32), rv a1, rv a4, rv a9, rv a16, rv a25, iv (1 : Int32), rv a1, .val .null, .val .null, .val .null] [(.int (1 : Int32))]))) (fun t k => XS.goto X471.here hx rfl (pc0 := 200) (pc' := 204) rfl (hb hby at_200) (by decide) (by decide) k) ?_
      exact own_retZ X471 hx hlk Bd.returns (hb hby at_204) (by decide) (own_b rfl) (own_b rfl) (Q := (own_law_Q Z p0 p1 p2 ca h0 n0)) ⟨rfl, N471⟩
    · refine own_go (B := (T38.setTop (mkF m 54 #[iv p0, iv p1, iv p2, iv (3 : Int32), iv (2 : Int32), rv a1, rv a4, rv a9, rv a16, rv a25, .unset, .unset, .unset, .unset, .unset] [(.int (2 : Int32))]))) (fun t k => XS.iload X38.here hx rfl (hb hby at_52) rfl k) ?_
      have hc54 : (0 : Int32) < (2 : Int32) := (by decide)
      refine own_ifN X38 hx (hb hby at_54) (pn := 57) rfl hc54 ?_
      refine own_go (B := (T38.setTop (mkF m 59 #[iv p0, iv p1, iv p2, iv (3 : Int32), iv (2 : Int32), rv a1, rv a4, rv a9, rv a16, rv a25, .unset, .unset, .unset, .unset, .unset] [(.ref a25)]))) (fun t k => XS.aload X38.here hx rfl (hb hby at_57) rfl rfl k) ?_
      refine own_go (B := (T38.setTop (mkF m 61 #[iv p0, iv p1, iv p2, iv (3 : Int32), iv (2 : Int32), rv a1, rv a4, rv a9, rv a16, rv a25, .unset, .unset, .unset, .unset, .unset] [(.ref a1), (.ref a25)]))) (fun t k => XS.aload X38.here hx rfl (hb hby at_59) rfl rfl k) ?_
      obtain ⟨cq472, kq472, qa472, qb472, qc472⟩ := isOf hZ rfl Ex38
      obtain ⟨_, _, ⟨T472, L472, k472, n472⟩, -, X472, ⟨Lc472, hQ472, l472, y472, z472⟩, st472⟩ := X38.virtualBack hx (y := own_y9) (z := own_y9) hown (mvT hZ w_20) (mvT hZ w_21) (notFace_of_selects (args := #[]) (mvT hZ w_23)) (mvT hZ w_23) (mvT hZ w_22) (by decide) (backOf (W := 0) (own_kone l Z a0 hw [] a25 a1 ar38 (0 : Int32) (3 : Int32) (1 : Int32) [.null, .null, .null] [(.ref a1), .null, .null] T38.heap n0 Ex38 gk38 gc38 Vb F39 gn25 gn_ar38 ne_ar38_a25 (own_lenL (n := 3) rfl (by decide)) (by decide) (by decide) (Nat.lt_of_lt_of_eq (by decide : _ < 3) rfl) (by decide) (Ins.of_exa (own_Bn_exa BB (List.mem_of_getElem? (i := 0) rfl)) w_40) rfl) hZ w_24 w_9 (by decide) (by decide)) qa472 qc472 (g := (mkF m 61 #[iv p0, iv p1, iv p2, iv (3 : Int32), iv (2 : Int32), rv a1, rv a4, rv a9, rv a16, rv a25, .unset, .unset, .unset, .unset, .unset] [(.ref a1), (.ref a25)])) rfl (by rw [hml]; rfl) (Steps.refl _) (argsL := [(.ref a1)]) (rest := []) (lenOf own_pd8 rfl) rfl (by show 2 * 0 + _ ≤ _; exact own_b rfl) (hb hby at_61) (fun _ _ => ⟨rfl, rfl, (own_b rfl : 6 + 0 ≤ _), (own_b rfl : 9 + 0 ≤ _)⟩)
      dsimp only [Pt.U, Pt.locs, Pt.cells, Pt.slots] at X472 l472 y472 z472 st472 hQ472
      obtain ⟨rfl, Nq472, K472, Ex472, gk472, gc472, gv472⟩ := hQ472
      obtain ⟨L472, X472, N472⟩ := own_absC (K := 6) (K' := 9) X472 l472 y472 z472 N38 Nq472
      have F473 : n0 ≤ T472.heap.size := Nat.le_trans F39 K472.1
      have F474 := Keep.trans F40 K472 (allS (Or.inr (Nat.le_trans F18.1 (Nat.le_of_eq ga25.symm))) (allS (Or.inr (Nat.le_trans K27.1 gz38)) all0))
      have F475 := Exa.keep Ex38 K472
      have F479 := own_Bn_keep BB K472 hbq
      refine own_tr (B := (T472.setTop (mkF m 64 #[iv p0, iv p1, iv p2, iv (3 : Int32), iv (2 : Int32), rv a1, rv a4, rv a9, rv a16, rv a25, .unset, .unset, .unset, .unset, .unset] []))) st472 ?_
      refine own_go (B := (T472.setTop (mkF m 66 #[iv p0, iv p1, iv p2, iv (3 : Int32), iv (2 : Int32), rv a1, rv a4, rv a9, rv a16, rv a25, .unset, .unset, .unset, .unset, .unset] [(.int (2 : Int32))]))) (fun t k => XS.iload X472.here hx rfl (hb hby at_64) rfl k) ?_
      refine own_go (B := (T472.setTop (mkF m 67 #[iv p0, iv p1, iv p2, iv (3 : Int32), iv (2 : Int32), rv a1, rv a4, rv a9, rv a16, rv a25, .unset, .unset, .unset, .unset, .unset] [(.int (1 : Int32)), (.int (2 : Int32))]))) (fun t k => own_iconst (v := (1 : Int32)) X472.here hx rfl (hb hby at_66) (by decide) k) ?_
      have hc67 : (1 : Int32) < (2 : Int32) := (by decide)
      refine own_icmpN X472 hx (hb hby at_67) (pn := 70) rfl hc67 ?_
      refine own_go (B := (T472.setTop (mkF m 72 #[iv p0, iv p1, iv p2, iv (3 : Int32), iv (2 : Int32), rv a1, rv a4, rv a9, rv a16, rv a25, .unset, .unset, .unset, .unset, .unset] [(.ref a25)]))) (fun t k => XS.aload X472.here hx rfl (hb hby at_70) rfl rfl k) ?_
      refine own_go (B := (T472.setTop (mkF m 74 #[iv p0, iv p1, iv p2, iv (3 : Int32), iv (2 : Int32), rv a1, rv a4, rv a9, rv a16, rv a25, .unset, .unset, .unset, .unset, .unset] [(.ref a4), (.ref a25)]))) (fun t k => XS.aload X472.here hx rfl (hb hby at_72) rfl rfl k) ?_
      obtain ⟨cq480, kq480, qa480, qb480, qc480⟩ := isOf hZ rfl Ex472
      obtain ⟨_, _, ⟨T480, L480, k480, n480⟩, -, X480, ⟨Lc480, hQ480, l480, y480, z480⟩, st480⟩ := X472.virtualBack hx (y := own_y9) (z := own_y9) hown (mvT hZ w_20) (mvT hZ w_21) (notFace_of_selects (args := #[]) (mvT hZ w_23)) (mvT hZ w_23) (mvT hZ w_22) (by decide) (backOf (W := 0) (own_kone l Z a0 hw [] a25 a4 ar38 (1 : Int32) (3 : Int32) (2 : Int32) [(.ref a1), .null, .null] [(.ref a1), (.ref a4), .null] T472.heap n0 Ex472 gk472 gc472 gv472 F473 gn25 gn_ar38 ne_ar38_a25 (own_lenL (n := 3) rfl (by decide)) (by decide) (by decide) (Nat.lt_of_lt_of_eq (by decide : _ < 3) rfl) (by decide) (Ins.of_exa (own_Bn_exa F479 (List.mem_of_getElem? (i := 1) rfl)) w_40) rfl) hZ w_24 w_9 (by decide) (by decide)) qa480 qc480 (g := (mkF m 74 #[iv p0, iv p1, iv p2, iv (3 : Int32), iv (2 : Int32), rv a1, rv a4, rv a9, rv a16, rv a25, .unset, .unset, .unset, .unset, .unset] [(.ref a4), (.ref a25)])) rfl (by rw [hml]; rfl) (Steps.refl _) (argsL := [(.ref a4)]) (rest := []) (lenOf own_pd8 rfl) rfl (by show 2 * 0 + _ ≤ _; exact own_b rfl) (hb hby at_74) (fun _ _ => ⟨rfl, rfl, (own_b rfl : 6 + 0 ≤ _), (own_b rfl : 9 + 0 ≤ _)⟩)
      dsimp only [Pt.U, Pt.locs, Pt.cells, Pt.slots] at X480 l480 y480 z480 st480 hQ480
      obtain ⟨rfl, Nq480, K480, Ex480, gk480, gc480, gv480⟩ := hQ480
      obtain ⟨L480, X480, N480⟩ := own_absC (K := 6) (K' := 9) X480 l480 y480 z480 N472 Nq480
      have F481 : n0 ≤ T480.heap.size := Nat.le_trans F473 K480.1
      have F482 := Keep.trans F474 K480 (allS (Or.inr (Nat.le_trans F18.1 (Nat.le_of_eq ga25.symm))) (allS (Or.inr (Nat.le_trans K27.1 gz38)) all0))
      have F483 := Exa.keep Ex472 K480
      have F484 := own_Bn_keep F479 K480 hbq
      refine own_tr (B := (T480.setTop (mkF m 77 #[iv p0, iv p1, iv p2, iv (3 : Int32), iv (2 : Int32), rv a1, rv a4, rv a9, rv a16, rv a25, .unset, .unset, .unset, .unset, .unset] []))) st480 ?_
      refine own_go (B := (T480.setTop (mkF m 79 #[iv p0, iv p1, iv p2, iv (3 : Int32), iv (2 : Int32), rv a1, rv a4, rv a9, rv a16, rv a25, .unset, .unset, .unset, .unset, .unset] [(.int (2 : Int32))]))) (fun t k => XS.iload X480.here hx rfl (hb hby at_77) rfl k) ?_
      refine own_go (B := (T480.setTop (mkF m 80 #[iv p0, iv p1, iv p2, iv (3 : Int32), iv (2 : Int32), rv a1, rv a4, rv a9, rv a16, rv a25, .unset, .unset, .unset, .unset, .unset] [(.int (2 : Int32)), (.int (2 : Int32))]))) (fun t k => own_iconst (v := (2 : Int32)) X480.here hx rfl (hb hby at_79) (by decide) k) ?_
      have hc80 : ¬ (2 : Int32) < (2 : Int32) := (by decide)
      refine own_icmpY X480 hx (hb hby at_80) (pc' := 90) (by decide) (by decide) hc80 ?_
      refine own_go (B := (T480.setTop (mkF m 92 #[iv p0, iv p1, iv p2, iv (3 : Int32), iv (2 : Int32), rv a1, rv a4, rv a9, rv a16, rv a25, .unset, .unset, .unset, .unset, .unset] [(.int (2 : Int32))]))) (fun t k => XS.iload X480.here hx rfl (hb hby at_90) rfl k) ?_
      refine own_go (B := (T480.setTop (mkF m 93 #[iv p0, iv p1, iv p2, iv (3 : Int32), iv (2 : Int32), rv a1, rv a4, rv a9, rv a16, rv a25, .unset, .unset, .unset, .unset, .unset] [(.int (3 : Int32)), (.int (2 : Int32))]))) (fun t k => own_iconst (v := (3 : Int32)) X480.here hx rfl (hb hby at_92) (by decide) k) ?_
      have hc93 : ¬ (3 : Int32) < (2 : Int32) := (by decide)
      refine own_icmpY X480 hx (hb hby at_93) (pc' := 103) (by decide) (by decide) hc93 ?_
      refine own_go (B := (T480.setTop (mkF m 105 #[iv p0, iv p1, iv p2, iv (3 : Int32), iv (2 : Int32), rv a1, rv a4, rv a9, rv a16, rv a25, .unset, .unset, .unset, .unset, .unset] [(.int (2 : Int32))]))) (fun t k => XS.iload X480.here hx rfl (hb hby at_103) rfl k) ?_
      refine own_go (B := (T480.setTop (mkF m 106 #[iv p0, iv p1, iv p2, iv (3 : Int32), iv (2 : Int32), rv a1, rv a4, rv a9, rv a16, rv a25, .unset, .unset, .unset, .unset, .unset] [(.int (3 : Int32)), (.int (2 : Int32))]))) (fun t k => XS.iloadN X480.here hx rfl (hb hby at_105) rfl k) ?_
      obtain ⟨_, _, ⟨T488, L488, k488, n488⟩, -, X488, ⟨Lc488, hQ488, l488, y488, z488⟩, st488⟩ := Jvm.LawKit.callS X480 hx (y := own_y6) hown (mvT hZ w_27) (mvT hZ w_28) (mvT hZ w_29) (mvT hZ w_30) (by decide) (backOf (W := 0) (own_mmin l Z a0 hw [] (2 : Int32) (3 : Int32) T480.heap n0) hZ w_30 w_29 (by decide) (by decide)) (g := (mkF m 106 #[iv p0, iv p1, iv p2, iv (3 : Int32), iv (2 : Int32), rv a1, rv a4, rv a9, rv a16, rv a25, .unset, .unset, .unset, .unset, .unset] [(.int (3 : Int32)), (.int (2 : Int32))])) rfl (by rw [hml]; rfl) (argsL := [(.int (2 : Int32)), (.int (3 : Int32))]) (rest := []) (lenOf own_pd5 rfl) rfl (by show 2 * 0 + _ ≤ _; exact own_b rfl) (hb hby at_106) (fun _ _ => ⟨rfl, rfl, (own_b rfl : 6 + 0 ≤ _), (own_b rfl : 9 + 0 ≤ _)⟩)
      dsimp only [Pt.U, Pt.locs, Pt.cells, Pt.slots] at X488 l488 y488 z488 st488 hQ488
      obtain ⟨rfl, Nq488, eq488⟩ := hQ488
      obtain ⟨L488, X488, N488⟩ := own_absC (K := 6) (K' := 9) X488 l488 y488 z488 N480 Nq488
      have e488 : T488.heap = T480.heap := eq488
      refine own_go (B := (T488.setTop (mkF m 109 #[iv p0, iv p1, iv p2, iv (3 : Int32), iv (2 : Int32), rv a1, rv a4, rv a9, rv a16, rv a25, .unset, .unset, .unset, .unset, .unset] [(.int (own_min (2 : Int32) (3 : Int32)))]))) st488 ?_
      rw [show own_min (2 : Int32) (3 : Int32) = (2 : Int32) from by decide]
      refine own_go (B := (T488.setTop (mkF m 111 #[iv p0, iv p1, iv p2, iv (3 : Int32), iv (2 : Int32), rv a1, rv a4, rv a9, rv a16, rv a25, iv (2 : Int32), .unset, .unset, .unset, .unset] []))) (fun t k => XS.istore X488.here hx rfl (hb hby at_109) rfl (l' := #[iv p0, iv p1, iv p2, iv (3 : Int32), iv (2 : Int32), rv a1, rv a4, rv a9, rv a16, rv a25, iv (2 : Int32), .unset, .unset, .unset, .unset]) rfl k) ?_
      refine own_go (B := (T488.setTop (mkF m 113 #[iv p0, iv p1, iv p2, iv (3 : Int32), iv (2 : Int32), rv a1, rv a4, rv a9, rv a16, rv a25, iv (2 : Int32), .unset, .unset, .unset, .unset] [(.ref a25)]))) (fun t k => XS.aload X488.here hx rfl (hb hby at_111) rfl rfl k) ?_
      obtain ⟨cq489, kq489, qa489, qb489, qc489⟩ := isOf hZ e488 Ex480
      obtain ⟨_, _, ⟨T489, L489, k489, n489⟩, -, X489, ⟨Lc489, hQ489, l489, y489, z489⟩, st489⟩ := X488.virtualBack hx (y := own_y7) (z := own_y7) hown (mvT hZ w_31) (mvT hZ w_32) (notFace_of_selects (args := #[]) (mvT hZ w_34)) (mvT hZ w_34) (mvT hZ w_33) (by decide) (backOf (W := 0) (own_tone l Z a0 hw [] a25 ar38 a4 (2 : Int32) (1 : Int32) [(.ref a1), (.ref a4), .null] [(.ref a1), .null, .null] T480.heap n0 Ex480 gk480 gc480 gv480 F481 gn25 gn_ar38 ne_ar38_a25 (by decide) (by decide) (by decide) rfl rfl) hZ w_35 w_9 (by decide) (by decide)) qa489 qc489 (g := (mkF m 113 #[iv p0, iv p1, iv p2, iv (3 : Int32), iv (2 : Int32), rv a1, rv a4, rv a9, rv a16, rv a25, iv (2 : Int32), .unset, .unset, .unset, .unset] [(.ref a25)])) rfl (by rw [hml]; rfl) (Steps.refl _) (argsL := []) (rest := []) (lenOf own_pd6 rfl) rfl (by show 2 * 0 + _ ≤ _; exact own_b rfl) (hb hby at_113) (fun _ _ => ⟨rfl, e488, (own_b rfl : 6 + 0 ≤ _), (own_b rfl : 9 + 0 ≤ _)⟩)
      dsimp only [Pt.U, Pt.locs, Pt.cells, Pt.slots] at X489 l489 y489 z489 st489 hQ489
      obtain ⟨rfl, Nq489, K489, Ex489, gk489, gc489, gv489⟩ := hQ489
      obtain ⟨L489, X489, N489⟩ := own_absC (K := 6) (K' := 9) X489 l489 y489 z489 N488 Nq489
      have F490 : n0 ≤ T489.heap.size := Nat.le_trans F481 K489.1
      have F491 := Keep.trans F482 K489 (allS (Or.inr (Nat.le_trans F18.1 (Nat.le_of_eq ga25.symm))) (allS (Or.inr (Nat.le_trans K27.1 gz38)) all0))
      have F492 := Exa.keep Ex480 K489
      have F493 := own_Bn_keep F484 K489 hbq
      refine own_tr (B := (T489.setTop (mkF m 116 #[iv p0, iv p1, iv p2, iv (3 : Int32), iv (2 : Int32), rv a1, rv a4, rv a9, rv a16, rv a25, iv (2 : Int32), .unset, .unset, .unset, .unset] [(.ref a4)]))) st489 ?_
      obtain ⟨T497, X497, e497, st497⟩ := castY X489 hx hZ hown w_41 rfl (Ins.of_exa (own_Bn_exa F493 (List.mem_of_getElem? (i := 1) rfl)) w_42) (g := (mkF m 116 #[iv p0, iv p1, iv p2, iv (3 : Int32), iv (2 : Int32), rv a1, rv a4, rv a9, rv a16, rv a25, iv (2 : Int32), .unset, .unset, .unset, .unset] [(.ref a4)])) rfl rfl (hb hby at_116)
      refine own_go (B := (T497.setTop (mkF m 119 #[iv p0, iv p1, iv p2, iv (3 : Int32), iv (2 : Int32), rv a1, rv a4, rv a9, rv a16, rv a25, iv (2 : Int32), .unset, .unset, .unset, .unset] [(.ref a4)]))) st497 ?_
      refine own_go (B := (T497.setTop (mkF m 121 #[iv p0, iv p1, iv p2, iv (3 : Int32), iv (2 : Int32), rv a1, rv a4, rv a9, rv a16, rv a25, iv (2 : Int32), rv a4, .unset, .unset, .unset] []))) (fun t k => XS.astore X497.here hx rfl (hb hby at_119) rfl rfl (l' := #[iv p0, iv p1, iv p2, iv (3 : Int32), iv (2 : Int32), rv a1, rv a4, rv a9, rv a16, rv a25, iv (2 : Int32), rv a4, .unset, .unset, .unset]) rfl k) ?_
      refine own_go (B := (T497.setTop (mkF m 123 #[iv p0, iv p1, iv p2, iv (3 : Int32), iv (2 : Int32), rv a1, rv a4, rv a9, rv a16, rv a25, iv (2 : Int32), rv a4, .unset, .unset, .unset] [(.ref a25)]))) (fun t k => XS.aload X497.here hx rfl (hb hby at_121) rfl rfl k) ?_
      obtain ⟨cq498, kq498, qa498, qb498, qc498⟩ := isOf hZ e497 Ex489
      obtain ⟨_, _, ⟨T498, L498, k498, n498⟩, -, X498, ⟨Lc498, hQ498, l498, y498, z498⟩, st498⟩ := X497.virtualBack hx (y := own_y7) (z := own_y7) hown (mvT hZ w_31) (mvT hZ w_32) (notFace_of_selects (args := #[]) (mvT hZ w_34)) (mvT hZ w_34) (mvT hZ w_33) (by decide) (backOf (W := 0) (own_tone l Z a0 hw [] a25 ar38 a1 (1 : Int32) (0 : Int32) [(.ref a1), .null, .null] [.null, .null, .null] T489.heap n0 Ex489 gk489 gc489 gv489 F490 gn25 gn_ar38 ne_ar38_a25 (by decide) (by decide) (by decide) rfl rfl) hZ w_35 w_9 (by decide) (by decide)) qa498 qc498 (g := (mkF m 123 #[iv p0, iv p1, iv p2, iv (3 : Int32), iv (2 : Int32), rv a1, rv a4, rv a9, rv a16, rv a25, iv (2 : Int32), rv a4, .unset, .unset, .unset] [(.ref a25)])) rfl (by rw [hml]; rfl) (Steps.refl _) (argsL := []) (rest := []) (lenOf own_pd6 rfl) rfl (by show 2 * 0 + _ ≤ _; exact own_b rfl) (hb hby at_123) (fun _ _ => ⟨rfl, e497, (own_b rfl : 6 + 0 ≤ _), (own_b rfl : 9 + 0 ≤ _)⟩)
      dsimp only [Pt.U, Pt.locs, Pt.cells, Pt.slots] at X498 l498 y498 z498 st498 hQ498
      obtain ⟨rfl, Nq498, K498, Ex498, gk498, gc498, gv498⟩ := hQ498
      obtain ⟨L498, X498, N498⟩ := own_absC (K := 6) (K' := 9) X498 l498 y498 z498 N489 Nq498
      have F499 : n0 ≤ T498.heap.size := Nat.le_trans F490 K498.1
      have F500 := Keep.trans F491 K498 (allS (Or.inr (Nat.le_trans F18.1 (Nat.le_of_eq ga25.symm))) (allS (Or.inr (Nat.le_trans K27.1 gz38)) all0))
      have F501 := Exa.keep Ex489 K498
      have F502 := own_Bn_keep F493 K498 hbq
      refine own_tr (B := (T498.setTop (mkF m 126 #[iv p0, iv p1, iv p2, iv (3 : Int32), iv (2 : Int32), rv a1, rv a4, rv a9, rv a16, rv a25, iv (2 : Int32), rv a4, .unset, .unset, .unset] [(.ref a1)]))) st498 ?_
      obtain ⟨T506, X506, e506, st506⟩ := castY X498 hx hZ hown w_41 rfl (Ins.of_exa (own_Bn_exa F502 (List.mem_of_getElem? (i := 0) rfl)) w_42) (g := (mkF m 126 #[iv p0, iv p1, iv p2, iv (3 : Int32), iv (2 : Int32), rv a1, rv a4, rv a9, rv a16, rv a25, iv (2 : Int32), rv a4, .unset, .unset, .unset] [(.ref a1)])) rfl rfl (hb hby at_126)
      refine own_go (B := (T506.setTop (mkF m 129 #[iv p0, iv p1, iv p2, iv (3 : Int32), iv (2 : Int32), rv a1, rv a4, rv a9, rv a16, rv a25, iv (2 : Int32), rv a4, .unset, .unset, .unset] [(.ref a1)]))) st506 ?_
      refine own_go (B := (T506.setTop (mkF m 131 #[iv p0, iv p1, iv p2, iv (3 : Int32), iv (2 : Int32), rv a1, rv a4, rv a9, rv a16, rv a25, iv (2 : Int32), rv a4, rv a1, .unset, .unset] []))) (fun t k => XS.astore X506.here hx rfl (hb hby at_129) rfl rfl (l' := #[iv p0, iv p1, iv p2, iv (3 : Int32), iv (2 : Int32), rv a1, rv a4, rv a9, rv a16, rv a25, iv (2 : Int32), rv a4, rv a1, .unset, .unset]) rfl k) ?_
      refine own_go (B := (T506.setTop (mkF m 133 #[iv p0, iv p1, iv p2, iv (3 : Int32), iv (2 : Int32), rv a1, rv a4, rv a9, rv a16, rv a25, iv (2 : Int32), rv a4, rv a1, .unset, .unset] [(.ref a25)]))) (fun t k => XS.aload X506.here hx rfl (hb hby at_131) rfl rfl k) ?_
      obtain ⟨cq507, kq507, qa507, qb507, qc507⟩ := isOf hZ e506 Ex498
      obtain ⟨_, _, ⟨T507, L507, k507, n507⟩, -, X507, ⟨Lc507, hQ507, l507, y507, z507⟩, st507⟩ := X506.virtualBack hx (y := own_y7) (z := own_y7) hown (mvT hZ w_31) (mvT hZ w_32) (notFace_of_selects (args := #[]) (mvT hZ w_34)) (mvT hZ w_34) (mvT hZ w_33) (by decide) (backOf (W := 0) (own_tnone l Z a0 hw [] a25 T498.heap n0 gc498) hZ w_35 w_9 (by decide) (by decide)) qa507 qc507 (g := (mkF m 133 #[iv p0, iv p1, iv p2, iv (3 : Int32), iv (2 : Int32), rv a1, rv a4, rv a9, rv a16, rv a25, iv (2 : Int32), rv a4, rv a1, .unset, .unset] [(.ref a25)])) rfl (by rw [hml]; rfl) (Steps.refl _) (argsL := []) (rest := []) (lenOf own_pd6 rfl) rfl (by show 2 * 0 + _ ≤ _; exact own_b rfl) (hb hby at_133) (fun _ _ => ⟨rfl, e506, (own_b rfl : 6 + 0 ≤ _), (own_b rfl : 9 + 0 ≤ _)⟩)
      dsimp only [Pt.U, Pt.locs, Pt.cells, Pt.slots] at X507 l507 y507 z507 st507 hQ507
      obtain ⟨rfl, Nq507, eq507⟩ := hQ507
      obtain ⟨L507, X507, N507⟩ := own_absC (K := 6) (K' := 9) X507 l507 y507 z507 N498 Nq507
      have e507 : T507.heap = T498.heap := eq507
      refine own_tr (B := (T507.setTop (mkF m 136 #[iv p0, iv p1, iv p2, iv (3 : Int32), iv (2 : Int32), rv a1, rv a4, rv a9, rv a16, rv a25, iv (2 : Int32), rv a4, rv a1, .unset, .unset] [.null]))) st507 ?_
      refine own_go (B := (T507.setTop (mkF m 139 #[iv p0, iv p1, iv p2, iv (3 : Int32), iv (2 : Int32), rv a1, rv a4, rv a9, rv a16, rv a25, iv (2 : Int32), rv a4, rv a1, .unset, .unset] [.null]))) (X507.checkcastNull hx (g := (mkF m 136 #[iv p0, iv p1, iv p2, iv (3 : Int32), iv (2 : Int32), rv a1, rv a4, rv a9, rv a16, rv a25, iv (2 : Int32), rv a4, rv a1, .unset, .unset] [.null])) rfl rfl (hb hby at_136)) ?_
      refine own_go (B := (T507.setTop (mkF m 141 #[iv p0, iv p1, iv p2, iv (3 : Int32), iv (2 : Int32), rv a1, rv a4, rv a9, rv a16, rv a25, iv (2 : Int32), rv a4, rv a1, .val .null, .unset] []))) (fun t k => XS.astore X507.here hx rfl (hb hby at_139) rfl rfl (l' := #[iv p0, iv p1, iv p2, iv (3 : Int32), iv (2 : Int32), rv a1, rv a4, rv a9, rv a16, rv a25, iv (2 : Int32), rv a4, rv a1, .val .null, .unset]) rfl k) ?_
      refine own_go (B := (T507.setTop (mkF m 143 #[iv p0, iv p1, iv p2, iv (3 : Int32), iv (2 : Int32), rv a1, rv a4, rv a9, rv a16, rv a25, iv (2 : Int32), rv a4, rv a1, .val .null, .unset] [(.ref a25)]))) (fun t k => XS.aload X507.here hx rfl (hb hby at_141) rfl rfl k) ?_
      obtain ⟨cq509, kq509, qa509, qb509, qc509⟩ := isOf hZ e507 Ex498
      obtain ⟨_, _, ⟨T509, L509, k509, n509⟩, -, X509, ⟨Lc509, hQ509, l509, y509, z509⟩, st509⟩ := X507.virtualBack hx (y := own_y7) (z := own_y7) hown (mvT hZ w_31) (mvT hZ w_32) (notFace_of_selects (args := #[]) (mvT hZ w_34)) (mvT hZ w_34) (mvT hZ w_33) (by decide) (backOf (W := 0) (own_tnone l Z a0 hw [] a25 T498.heap n0 gc498) hZ w_35 w_9 (by decide) (by decide)) qa509 qc509 (g := (mkF m 143 #[iv p0, iv p1, iv p2, iv (3 : Int32), iv (2 : Int32), rv a1, rv a4, rv a9, rv a16, rv a25, iv (2 : Int32), rv a4, rv a1, .val .null, .unset] [(.ref a25)])) rfl (by rw [hml]; rfl) (Steps.refl _) (argsL := []) (rest := []) (lenOf own_pd6 rfl) rfl (by show 2 * 0 + _ ≤ _; exact own_b rfl) (hb hby at_143) (fun _ _ => ⟨rfl, e507, (own_b rfl : 6 + 0 ≤ _), (own_b rfl : 9 + 0 ≤ _)⟩)
      dsimp only [Pt.U, Pt.locs, Pt.cells, Pt.slots] at X509 l509 y509 z509 st509 hQ509
      obtain ⟨rfl, Nq509, eq509⟩ := hQ509
      obtain ⟨L509, X509, N509⟩ := own_absC (K := 6) (K' := 9) X509 l509 y509 z509 N507 Nq509
      have e509 : T509.heap = T498.heap := eq509
      refine own_tr (B := (T509.setTop (mkF m 146 #[iv p0, iv p1, iv p2, iv (3 : Int32), iv (2 : Int32), rv a1, rv a4, rv a9, rv a16, rv a25, iv (2 : Int32), rv a4, rv a1, .val .null, .unset] [.null]))) st509 ?_
      refine own_go (B := (T509.setTop (mkF m 149 #[iv p0, iv p1, iv p2, iv (3 : Int32), iv (2 : Int32), rv a1, rv a4, rv a9, rv a16, rv a25, iv (2 : Int32), rv a4, rv a1, .val .null, .unset] [.null]))) (X509.checkcastNull hx (g := (mkF m 146 #[iv p0, iv p1, iv p2, iv (3 : Int32), iv (2 : Int32), rv a1, rv a4, rv a9, rv a16, rv a25, iv (2 : Int32), rv a4, rv a1, .val .null, .unset] [.null])) rfl rfl (hb hby at_146)) ?_
      refine own_go (B := (T509.setTop (mkF m 151 #[iv p0, iv p1, iv p2, iv (3 : Int32), iv (2 : Int32), rv a1, rv a4, rv a9, rv a16, rv a25, iv (2 : Int32), rv a4, rv a1, .val .null, .val .null] []))) (fun t k => XS.astore X509.here hx rfl (hb hby at_149) rfl rfl (l' := #[iv p0, iv p1, iv p2, iv (3 : Int32), iv (2 : Int32), rv a1, rv a4, rv a9, rv a16, rv a25, iv (2 : Int32), rv a4, rv a1, .val .null, .val .null]) rfl k) ?_
      refine own_go (B := (T509.setTop (mkF m 153 #[iv p0, iv p1, iv p2, iv (3 : Int32), iv (2 : Int32), rv a1, rv a4, rv a9, rv a16, rv a25, iv (2 : Int32), rv a4, rv a1, .val .null, .val .null] [(.ref a4)]))) (fun t k => XS.aload X509.here hx rfl (hb hby at_151) rfl rfl k) ?_
      refine own_go (B := (T509.setTop (mkF m 155 #[iv p0, iv p1, iv p2, iv (3 : Int32), iv (2 : Int32), rv a1, rv a4, rv a9, rv a16, rv a25, iv (2 : Int32), rv a4, rv a1, .val .null, .val .null] [(.int (2 : Int32)), (.ref a4)]))) (fun t k => XS.iload X509.here hx rfl (hb hby at_153) rfl k) ?_
      refine own_go (B := (T509.setTop (mkF m 156 #[iv p0, iv p1, iv p2, iv (3 : Int32), iv (2 : Int32), rv a1, rv a4, rv a9, rv a16, rv a25, iv (2 : Int32), rv a4, rv a1, .val .null, .val .null] [(.int (0 : Int32)), (.int (2 : Int32)), (.ref a4)]))) (fun t k => own_iconst (v := (0 : Int32)) X509.here hx rfl (hb hby at_155) (by decide) k) ?_
      refine own_go (B := (T509.setTop (mkF m 157 #[iv p0, iv p1, iv p2, iv (3 : Int32), iv (2 : Int32), rv a1, rv a4, rv a9, rv a16, rv a25, iv (2 : Int32), rv a4, rv a1, .val .null, .val .null] [(.int p2), (.int (0 : Int32)), (.int (2 : Int32)), (.ref a4)]))) (fun t k => XS.iloadN X509.here hx rfl (hb hby at_156) rfl k) ?_
      obtain ⟨_, _, ⟨T511, L511, k511, n511⟩, -, X511, ⟨Lc511, hQ511, l511, y511, z511⟩, st511⟩ := Jvm.LawKit.callS X509 hx (y := own_y8) hown (mvT hZ w_36) (mvT hZ w_37) (mvT hZ w_38) (mvT hZ w_39) (by decide) (backOf (W := 0) (own_same1 l Z a0 hw [] a4 (2 : Int32) (0 : Int32) p2 (p2 + (1 : Int32)) T498.heap n0 (own_Bn_exa F502 (List.mem_of_getElem? (i := 1) rfl)) (own_Bn_fld F502 (List.mem_of_getElem? (i := 1) rfl)) (by decide) (own_vi (by decide))) hZ w_39 w_38 (by decide) (by decide)) (g := (mkF m 157 #[iv p0, iv p1, iv p2, iv (3 : Int32), iv (2 : Int32), rv a1, rv a4, rv a9, rv a16, rv a25, iv (2 : Int32), rv a4, rv a1, .val .null, .val .null] [(.int p2), (.int (0 : Int32)), (.int (2 : Int32)), (.ref a4)])) rfl (by rw [hml]; rfl) (argsL := [(.ref a4), (.int (2 : Int32)), (.int (0 : Int32)), (.int p2)]) (rest := []) (lenOf own_pd7 rfl) rfl (by show 2 * 0 + _ ≤ _; exact own_b rfl) (hb hby at_157) (fun _ _ => ⟨rfl, e509, (own_b rfl : 6 + 0 ≤ _), (own_b rfl : 9 + 0 ≤ _)⟩)
      dsimp only [Pt.U, Pt.locs, Pt.cells, Pt.slots] at X511 l511 y511 z511 st511 hQ511
      obtain ⟨rfl, Nq511, eq511⟩ := hQ511
      obtain ⟨L511, X511, N511⟩ := own_absC (K := 6) (K' := 9) X511 l511 y511 z511 N509 Nq511
      have e511 : T511.heap = T498.heap := eq511
      refine own_go (B := (T511.setTop (mkF m 160 #[iv p0, iv p1, iv p2, iv (3 : Int32), iv (2 : Int32), rv a1, rv a4, rv a9, rv a16, rv a25, iv (2 : Int32), rv a4, rv a1, .val .null, .val .null] [(.int (1 : Int32))]))) st511 ?_
      have hc160 : ¬ (1 : Int32) = (0 : Int32) := (by decide)
      refine own_ifN X511 hx (hb hby at_160) (pn := 163) rfl hc160 ?_
      refine own_go (B := (T511.setTop (mkF m 165 #[iv p0, iv p1, iv p2, iv (3 : Int32), iv (2 : Int32), rv a1, rv a4, rv a9, rv a16, rv a25, iv (2 : Int32), rv a4, rv a1, .val .null, .val .null] [(.ref a1)]))) (fun t k => XS.aload X511.here hx rfl (hb hby at_163) rfl rfl k) ?_
      refine own_go (B := (T511.setTop (mkF m 167 #[iv p0, iv p1, iv p2, iv (3 : Int32), iv (2 : Int32), rv a1, rv a4, rv a9, rv a16, rv a25, iv (2 : Int32), rv a4, rv a1, .val .null, .val .null] [(.int (2 : Int32)), (.ref a1)]))) (fun t k => XS.iload X511.here hx rfl (hb hby at_165) rfl k) ?_
      refine own_go (B := (T511.setTop (mkF m 168 #[iv p0, iv p1, iv p2, iv (3 : Int32), iv (2 : Int32), rv a1, rv a4, rv a9, rv a16, rv a25, iv (2 : Int32), rv a4, rv a1, .val .null, .val .null] [(.int (1 : Int32)), (.int (2 : Int32)), (.ref a1)]))) (fun t k => own_iconst (v := (1 : Int32)) X511.here hx rfl (hb hby at_167) (by decide) k) ?_
      refine own_go (B := (T511.setTop (mkF m 169 #[iv p0, iv p1, iv p2, iv (3 : Int32), iv (2 : Int32), rv a1, rv a4, rv a9, rv a16, rv a25, iv (2 : Int32), rv a4, rv a1, .val .null, .val .null] [(.int p2), (.int (1 : Int32)), (.int (2 : Int32)), (.ref a1)]))) (fun t k => XS.iloadN X511.here hx rfl (hb hby at_168) rfl k) ?_
      obtain ⟨_, _, ⟨T512, L512, k512, n512⟩, -, X512, ⟨Lc512, hQ512, l512, y512, z512⟩, st512⟩ := Jvm.LawKit.callS X511 hx (y := own_y8) hown (mvT hZ w_36) (mvT hZ w_37) (mvT hZ w_38) (mvT hZ w_39) (by decide) (backOf (W := 0) (own_same1 l Z a0 hw [] a1 (2 : Int32) (1 : Int32) p2 p2 T498.heap n0 (own_Bn_exa F502 (List.mem_of_getElem? (i := 0) rfl)) (own_Bn_fld F502 (List.mem_of_getElem? (i := 0) rfl)) (by decide) (own_v0 (by decide))) hZ w_39 w_38 (by decide) (by decide)) (g := (mkF m 169 #[iv p0, iv p1, iv p2, iv (3 : Int32), iv (2 : Int32), rv a1, rv a4, rv a9, rv a16, rv a25, iv (2 : Int32), rv a4, rv a1, .val .null, .val .null] [(.int p2), (.int (1 : Int32)), (.int (2 : Int32)), (.ref a1)])) rfl (by rw [hml]; rfl) (argsL := [(.ref a1), (.int (2 : Int32)), (.int (1 : Int32)), (.int p2)]) (rest := []) (lenOf own_pd7 rfl) rfl (by show 2 * 0 + _ ≤ _; exact own_b rfl) (hb hby at_169) (fun _ _ => ⟨rfl, e511, (own_b rfl : 6 + 0 ≤ _), (own_b rfl : 9 + 0 ≤ _)⟩)
      dsimp only [Pt.U, Pt.locs, Pt.cells, Pt.slots] at X512 l512 y512 z512 st512 hQ512
      obtain ⟨rfl, Nq512, eq512⟩ := hQ512
      obtain ⟨L512, X512, N512⟩ := own_absC (K := 6) (K' := 9) X512 l512 y512 z512 N511 Nq512
      have e512 : T512.heap = T498.heap := eq512
      refine own_go (B := (T512.setTop (mkF m 172 #[iv p0, iv p1, iv p2, iv (3 : Int32), iv (2 : Int32), rv a1, rv a4, rv a9, rv a16, rv a25, iv (2 : Int32), rv a4, rv a1, .val .null, .val .null] [(.int (1 : Int32))]))) st512 ?_
      have hc172 : ¬ (1 : Int32) = (0 : Int32) := (by decide)
      refine own_ifN X512 hx (hb hby at_172) (pn := 175) rfl hc172 ?_
      refine own_go (B := (T512.setTop (mkF m 177 #[iv p0, iv p1, iv p2, iv (3 : Int32), iv (2 : Int32), rv a1, rv a4, rv a9, rv a16, rv a25, iv (2 : Int32), rv a4, rv a1, .val .null, .val .null] [.null]))) (fun t k => XS.aload X512.here hx rfl (hb hby at_175) rfl rfl k) ?_
      refine own_go (B := (T512.setTop (mkF m 179 #[iv p0, iv p1, iv p2, iv (3 : Int32), iv (2 : Int32), rv a1, rv a4, rv a9, rv a16, rv a25, iv (2 : Int32), rv a4, rv a1, .val .null, .val .null] [(.int (2 : Int32)), .null]))) (fun t k => XS.iload X512.here hx rfl (hb hby at_177) rfl k) ?_
      refine own_go (B := (T512.setTop (mkF m 180 #[iv p0, iv p1, iv p2, iv (3 : Int32), iv (2 : Int32), rv a1, rv a4, rv a9, rv a16, rv a25, iv (2 : Int32), rv a4, rv a1, .val .null, .val .null] [(.int (2 : Int32)), (.int (2 : Int32)), .null]))) (fun t k => own_iconst (v := (2 : Int32)) X512.here hx rfl (hb hby at_179) (by decide) k) ?_
      refine own_go (B := (T512.setTop (mkF m 181 #[iv p0, iv p1, iv p2, iv (3 : Int32), iv (2 : Int32), rv a1, rv a4, rv a9, rv a16, rv a25, iv (2 : Int32), rv a4, rv a1, .val .null, .val .null] [(.int p2), (.int (2 : Int32)), (.int (2 : Int32)), .null]))) (fun t k => XS.iloadN X512.here hx rfl (hb hby at_180) rfl k) ?_
      obtain ⟨_, _, ⟨T513, L513, k513, n513⟩, -, X513, ⟨Lc513, hQ513, l513, y513, z513⟩, st513⟩ := Jvm.LawKit.callS X512 hx (y := own_y8) hown (mvT hZ w_36) (mvT hZ w_37) (mvT hZ w_38) (mvT hZ w_39) (by decide) (backOf (W := 0) (own_same0 l Z a0 hw [] (2 : Int32) (2 : Int32) p2 T498.heap n0 (by decide)) hZ w_39 w_38 (by decide) (by decide)) (g := (mkF m 181 #[iv p0, iv p1, iv p2, iv (3 : Int32), iv (2 : Int32), rv a1, rv a4, rv a9, rv a16, rv a25, iv (2 : Int32), rv a4, rv a1, .val .null, .val .null] [(.int p2), (.int (2 : Int32)), (.int (2 : Int32)), .null])) rfl (by rw [hml]; rfl) (argsL := [.null, (.int (2 : Int32)), (.int (2 : Int32)), (.int p2)]) (rest := []) (lenOf own_pd7 rfl) rfl (by show 2 * 0 + _ ≤ _; exact own_b rfl) (hb hby at_181) (fun _ _ => ⟨rfl, e512, (own_b rfl : 6 + 0 ≤ _), (own_b rfl : 9 + 0 ≤ _)⟩)
      dsimp only [Pt.U, Pt.locs, Pt.cells, Pt.slots] at X513 l513 y513 z513 st513 hQ513
      obtain ⟨rfl, Nq513, eq513⟩ := hQ513
      obtain ⟨L513, X513, N513⟩ := own_absC (K := 6) (K' := 9) X513 l513 y513 z513 N512 Nq513
      have e513 : T513.heap = T498.heap := eq513
      refine own_go (B := (T513.setTop (mkF m 184 #[iv p0, iv p1, iv p2, iv (3 : Int32), iv (2 : Int32), rv a1, rv a4, rv a9, rv a16, rv a25, iv (2 : Int32), rv a4, rv a1, .val .null, .val .null] [(.int (1 : Int32))]))) st513 ?_
      have hc184 : ¬ (1 : Int32) = (0 : Int32) := (by decide)
      refine own_ifN X513 hx (hb hby at_184) (pn := 187) rfl hc184 ?_
      refine own_go (B := (T513.setTop (mkF m 189 #[iv p0, iv p1, iv p2, iv (3 : Int32), iv (2 : Int32), rv a1, rv a4, rv a9, rv a16, rv a25, iv (2 : Int32), rv a4, rv a1, .val .null, .val .null] [.null]))) (fun t k => XS.aload X513.here hx rfl (hb hby at_187) rfl rfl k) ?_
      refine own_go (B := (T513.setTop (mkF m 191 #[iv p0, iv p1, iv p2, iv (3 : Int32), iv (2 : Int32), rv a1, rv a4, rv a9, rv a16, rv a25, iv (2 : Int32), rv a4, rv a1, .val .null, .val .null] [(.int (2 : Int32)), .null]))) (fun t k => XS.iload X513.here hx rfl (hb hby at_189) rfl k) ?_
      refine own_go (B := (T513.setTop (mkF m 192 #[iv p0, iv p1, iv p2, iv (3 : Int32), iv (2 : Int32), rv a1, rv a4, rv a9, rv a16, rv a25, iv (2 : Int32), rv a4, rv a1, .val .null, .val .null] [(.int (3 : Int32)), (.int (2 : Int32)), .null]))) (fun t k => own_iconst (v := (3 : Int32)) X513.here hx rfl (hb hby at_191) (by decide) k) ?_
      refine own_go (B := (T513.setTop (mkF m 193 #[iv p0, iv p1, iv p2, iv (3 : Int32), iv (2 : Int32), rv a1, rv a4, rv a9, rv a16, rv a25, iv (2 : Int32), rv a4, rv a1, .val .null, .val .null] [(.int p2), (.int (3 : Int32)), (.int (2 : Int32)), .null]))) (fun t k => XS.iloadN X513.here hx rfl (hb hby at_192) rfl k) ?_
      obtain ⟨_, _, ⟨T514, L514, k514, n514⟩, -, X514, ⟨Lc514, hQ514, l514, y514, z514⟩, st514⟩ := Jvm.LawKit.callS X513 hx (y := own_y8) hown (mvT hZ w_36) (mvT hZ w_37) (mvT hZ w_38) (mvT hZ w_39) (by decide) (backOf (W := 0) (own_same0 l Z a0 hw [] (2 : Int32) (3 : Int32) p2 T498.heap n0 (by decide)) hZ w_39 w_38 (by decide) (by decide)) (g := (mkF m 193 #[iv p0, iv p1, iv p2, iv (3 : Int32), iv (2 : Int32), rv a1, rv a4, rv a9, rv a16, rv a25, iv (2 : Int32), rv a4, rv a1, .val .null, .val .null] [(.int p2), (.int (3 : Int32)), (.int (2 : Int32)), .null])) rfl (by rw [hml]; rfl) (argsL := [.null, (.int (2 : Int32)), (.int (3 : Int32)), (.int p2)]) (rest := []) (lenOf own_pd7 rfl) rfl (by show 2 * 0 + _ ≤ _; exact own_b rfl) (hb hby at_193) (fun _ _ => ⟨rfl, e513, (own_b rfl : 6 + 0 ≤ _), (own_b rfl : 9 + 0 ≤ _)⟩)
      dsimp only [Pt.U, Pt.locs, Pt.cells, Pt.slots] at X514 l514 y514 z514 st514 hQ514
      obtain ⟨rfl, Nq514, eq514⟩ := hQ514
      obtain ⟨L514, X514, N514⟩ := own_absC (K := 6) (K' := 9) X514 l514 y514 z514 N513 Nq514
      have e514 : T514.heap = T498.heap := eq514
      refine own_go (B := (T514.setTop (mkF m 196 #[iv p0, iv p1, iv p2, iv (3 : Int32), iv (2 : Int32), rv a1, rv a4, rv a9, rv a16, rv a25, iv (2 : Int32), rv a4, rv a1, .val .null, .val .null] [(.int (1 : Int32))]))) st514 ?_
      have hc196 : ¬ (1 : Int32) = (0 : Int32) := (by decide)
      refine own_ifN X514 hx (hb hby at_196) (pn := 199) rfl hc196 ?_
      refine own_go (B := (T514.setTop (mkF m 200 #[iv p0, iv p1, iv p2, iv (3 : Int32), iv (2 : Int32), rv a1, rv a4, rv a9, rv a16, rv a25, iv (2 : Int32), rv a4, rv a1, .val .null, .val .null] [(.int (1 : Int32))]))) (fun t k => own_iconst (v := (1 : Int32)) X514.here hx rfl (hb hby at_199) (by decide) k) ?_
      refine own_go (B := (T514.setTop (mkF m 204 #[iv p0, iv p1, iv p2, iv (3 : Int32), iv (2 : Int32), rv a1, rv a4, rv a9, rv a16, rv a25, iv (2 : Int32), rv a4, rv a1, .val .null, .val .null] [(.int (1 : Int32))]))) (fun t k => XS.goto X514.here hx rfl (pc0 := 200) (pc' := 204) rfl (hb hby at_200) (by decide) (by decide) k) ?_
      exact own_retZ X514 hx hlk Bd.returns (hb hby at_204) (by decide) (own_b rfl) (own_b rfl) (Q := (own_law_Q Z p0 p1 p2 ca h0 n0)) ⟨rfl, N514⟩
    · refine own_go (B := (T38.setTop (mkF m 54 #[iv p0, iv p1, iv p2, iv (3 : Int32), iv (3 : Int32), rv a1, rv a4, rv a9, rv a16, rv a25, .unset, .unset, .unset, .unset, .unset] [(.int (3 : Int32))]))) (fun t k => XS.iload X38.here hx rfl (hb hby at_52) rfl k) ?_
      have hc54 : (0 : Int32) < (3 : Int32) := (by decide)
      refine own_ifN X38 hx (hb hby at_54) (pn := 57) rfl hc54 ?_
      refine own_go (B := (T38.setTop (mkF m 59 #[iv p0, iv p1, iv p2, iv (3 : Int32), iv (3 : Int32), rv a1, rv a4, rv a9, rv a16, rv a25, .unset, .unset, .unset, .unset, .unset] [(.ref a25)]))) (fun t k => XS.aload X38.here hx rfl (hb hby at_57) rfl rfl k) ?_
      refine own_go (B := (T38.setTop (mkF m 61 #[iv p0, iv p1, iv p2, iv (3 : Int32), iv (3 : Int32), rv a1, rv a4, rv a9, rv a16, rv a25, .unset, .unset, .unset, .unset, .unset] [(.ref a1), (.ref a25)]))) (fun t k => XS.aload X38.here hx rfl (hb hby at_59) rfl rfl k) ?_
      obtain ⟨cq515, kq515, qa515, qb515, qc515⟩ := isOf hZ rfl Ex38
      obtain ⟨_, _, ⟨T515, L515, k515, n515⟩, -, X515, ⟨Lc515, hQ515, l515, y515, z515⟩, st515⟩ := X38.virtualBack hx (y := own_y9) (z := own_y9) hown (mvT hZ w_20) (mvT hZ w_21) (notFace_of_selects (args := #[]) (mvT hZ w_23)) (mvT hZ w_23) (mvT hZ w_22) (by decide) (backOf (W := 0) (own_kone l Z a0 hw [] a25 a1 ar38 (0 : Int32) (3 : Int32) (1 : Int32) [.null, .null, .null] [(.ref a1), .null, .null] T38.heap n0 Ex38 gk38 gc38 Vb F39 gn25 gn_ar38 ne_ar38_a25 (own_lenL (n := 3) rfl (by decide)) (by decide) (by decide) (Nat.lt_of_lt_of_eq (by decide : _ < 3) rfl) (by decide) (Ins.of_exa (own_Bn_exa BB (List.mem_of_getElem? (i := 0) rfl)) w_40) rfl) hZ w_24 w_9 (by decide) (by decide)) qa515 qc515 (g := (mkF m 61 #[iv p0, iv p1, iv p2, iv (3 : Int32), iv (3 : Int32), rv a1, rv a4, rv a9, rv a16, rv a25, .unset, .unset, .unset, .unset, .unset] [(.ref a1), (.ref a25)])) rfl (by rw [hml]; rfl) (Steps.refl _) (argsL := [(.ref a1)]) (rest := []) (lenOf own_pd8 rfl) rfl (by show 2 * 0 + _ ≤ _; exact own_b rfl) (hb hby at_61) (fun _ _ => ⟨rfl, rfl, (own_b rfl : 6 + 0 ≤ _), (own_b rfl : 9 + 0 ≤ _)⟩)
      dsimp only [Pt.U, Pt.locs, Pt.cells, Pt.slots] at X515 l515 y515 z515 st515 hQ515
      obtain ⟨rfl, Nq515, K515, Ex515, gk515, gc515, gv515⟩ := hQ515
      obtain ⟨L515, X515, N515⟩ := own_absC (K := 6) (K' := 9) X515 l515 y515 z515 N38 Nq515
      have F516 : n0 ≤ T515.heap.size := Nat.le_trans F39 K515.1
      have F517 := Keep.trans F40 K515 (allS (Or.inr (Nat.le_trans F18.1 (Nat.le_of_eq ga25.symm))) (allS (Or.inr (Nat.le_trans K27.1 gz38)) all0))
      have F518 := Exa.keep Ex38 K515
      have F522 := own_Bn_keep BB K515 hbq
      refine own_tr (B := (T515.setTop (mkF m 64 #[iv p0, iv p1, iv p2, iv (3 : Int32), iv (3 : Int32), rv a1, rv a4, rv a9, rv a16, rv a25, .unset, .unset, .unset, .unset, .unset] []))) st515 ?_
      refine own_go (B := (T515.setTop (mkF m 66 #[iv p0, iv p1, iv p2, iv (3 : Int32), iv (3 : Int32), rv a1, rv a4, rv a9, rv a16, rv a25, .unset, .unset, .unset, .unset, .unset] [(.int (3 : Int32))]))) (fun t k => XS.iload X515.here hx rfl (hb hby at_64) rfl k) ?_
      refine own_go (B := (T515.setTop (mkF m 67 #[iv p0, iv p1, iv p2, iv (3 : Int32), iv (3 : Int32), rv a1, rv a4, rv a9, rv a16, rv a25, .unset, .unset, .unset, .unset, .unset] [(.int (1 : Int32)), (.int (3 : Int32))]))) (fun t k => own_iconst (v := (1 : Int32)) X515.here hx rfl (hb hby at_66) (by decide) k) ?_
      have hc67 : (1 : Int32) < (3 : Int32) := (by decide)
      refine own_icmpN X515 hx (hb hby at_67) (pn := 70) rfl hc67 ?_
      refine own_go (B := (T515.setTop (mkF m 72 #[iv p0, iv p1, iv p2, iv (3 : Int32), iv (3 : Int32), rv a1, rv a4, rv a9, rv a16, rv a25, .unset, .unset, .unset, .unset, .unset] [(.ref a25)]))) (fun t k => XS.aload X515.here hx rfl (hb hby at_70) rfl rfl k) ?_
      refine own_go (B := (T515.setTop (mkF m 74 #[iv p0, iv p1, iv p2, iv (3 : Int32), iv (3 : Int32), rv a1, rv a4, rv a9, rv a16, rv a25, .unset, .unset, .unset, .unset, .unset] [(.ref a4), (.ref a25)]))) (fun t k => XS.aload X515.here hx rfl (hb hby at_72) rfl rfl k) ?_
      obtain ⟨cq523, kq523, qa523, qb523, qc523⟩ := isOf hZ rfl Ex515
      obtain ⟨_, _, ⟨T523, L523, k523, n523⟩, -, X523, ⟨Lc523, hQ523, l523, y523, z523⟩, st523⟩ := X515.virtualBack hx (y := own_y9) (z := own_y9) hown (mvT hZ w_20) (mvT hZ w_21) (notFace_of_selects (args := #[]) (mvT hZ w_23)) (mvT hZ w_23) (mvT hZ w_22) (by decide) (backOf (W := 0) (own_kone l Z a0 hw [] a25 a4 ar38 (1 : Int32) (3 : Int32) (2 : Int32) [(.ref a1), .null, .null] [(.ref a1), (.ref a4), .null] T515.heap n0 Ex515 gk515 gc515 gv515 F516 gn25 gn_ar38 ne_ar38_a25 (own_lenL (n := 3) rfl (by decide)) (by decide) (by decide) (Nat.lt_of_lt_of_eq (by decide : _ < 3) rfl) (by decide) (Ins.of_exa (own_Bn_exa F522 (List.mem_of_getElem? (i := 1) rfl)) w_40) rfl) hZ w_24 w_9 (by decide) (by decide)) qa523 qc523 (g := (mkF m 74 #[iv p0, iv p1, iv p2, iv (3 : Int32), iv (3 : Int32), rv a1, rv a4, rv a9, rv a16, rv a25, .unset, .unset, .unset, .unset, .unset] [(.ref a4), (.ref a25)])) rfl (by rw [hml]; rfl) (Steps.refl _) (argsL := [(.ref a4)]) (rest := []) (lenOf own_pd8 rfl) rfl (by show 2 * 0 + _ ≤ _; exact own_b rfl) (hb hby at_74) (fun _ _ => ⟨rfl, rfl, (own_b rfl : 6 + 0 ≤ _), (own_b rfl : 9 + 0 ≤ _)⟩)
      dsimp only [Pt.U, Pt.locs, Pt.cells, Pt.slots] at X523 l523 y523 z523 st523 hQ523
      obtain ⟨rfl, Nq523, K523, Ex523, gk523, gc523, gv523⟩ := hQ523
      obtain ⟨L523, X523, N523⟩ := own_absC (K := 6) (K' := 9) X523 l523 y523 z523 N515 Nq523
      have F524 : n0 ≤ T523.heap.size := Nat.le_trans F516 K523.1
      have F525 := Keep.trans F517 K523 (allS (Or.inr (Nat.le_trans F18.1 (Nat.le_of_eq ga25.symm))) (allS (Or.inr (Nat.le_trans K27.1 gz38)) all0))
      have F526 := Exa.keep Ex515 K523
      have F527 := own_Bn_keep F522 K523 hbq
      refine own_tr (B := (T523.setTop (mkF m 77 #[iv p0, iv p1, iv p2, iv (3 : Int32), iv (3 : Int32), rv a1, rv a4, rv a9, rv a16, rv a25, .unset, .unset, .unset, .unset, .unset] []))) st523 ?_
      refine own_go (B := (T523.setTop (mkF m 79 #[iv p0, iv p1, iv p2, iv (3 : Int32), iv (3 : Int32), rv a1, rv a4, rv a9, rv a16, rv a25, .unset, .unset, .unset, .unset, .unset] [(.int (3 : Int32))]))) (fun t k => XS.iload X523.here hx rfl (hb hby at_77) rfl k) ?_
      refine own_go (B := (T523.setTop (mkF m 80 #[iv p0, iv p1, iv p2, iv (3 : Int32), iv (3 : Int32), rv a1, rv a4, rv a9, rv a16, rv a25, .unset, .unset, .unset, .unset, .unset] [(.int (2 : Int32)), (.int (3 : Int32))]))) (fun t k => own_iconst (v := (2 : Int32)) X523.here hx rfl (hb hby at_79) (by decide) k) ?_
      have hc80 : (2 : Int32) < (3 : Int32) := (by decide)
      refine own_icmpN X523 hx (hb hby at_80) (pn := 83) rfl hc80 ?_
      refine own_go (B := (T523.setTop (mkF m 85 #[iv p0, iv p1, iv p2, iv (3 : Int32), iv (3 : Int32), rv a1, rv a4, rv a9, rv a16, rv a25, .unset, .unset, .unset, .unset, .unset] [(.ref a25)]))) (fun t k => XS.aload X523.here hx rfl (hb hby at_83) rfl rfl k) ?_
      refine own_go (B := (T523.setTop (mkF m 87 #[iv p0, iv p1, iv p2, iv (3 : Int32), iv (3 : Int32), rv a1, rv a4, rv a9, rv a16, rv a25, .unset, .unset, .unset, .unset, .unset] [(.ref a9), (.ref a25)]))) (fun t k => XS.aload X523.here hx rfl (hb hby at_85) rfl rfl k) ?_
      obtain ⟨cq531, kq531, qa531, qb531, qc531⟩ := isOf hZ rfl Ex523
      obtain ⟨_, _, ⟨T531, L531, k531, n531⟩, -, X531, ⟨Lc531, hQ531, l531, y531, z531⟩, st531⟩ := X523.virtualBack hx (y := own_y9) (z := own_y9) hown (mvT hZ w_20) (mvT hZ w_21) (notFace_of_selects (args := #[]) (mvT hZ w_23)) (mvT hZ w_23) (mvT hZ w_22) (by decide) (backOf (W := 0) (own_kone l Z a0 hw [] a25 a9 ar38 (2 : Int32) (3 : Int32) (3 : Int32) [(.ref a1), (.ref a4), .null] [(.ref a1), (.ref a4), (.ref a9)] T523.heap n0 Ex523 gk523 gc523 gv523 F524 gn25 gn_ar38 ne_ar38_a25 (own_lenL (n := 3) rfl (by decide)) (by decide) (by decide) (Nat.lt_of_lt_of_eq (by decide : _ < 3) rfl) (by decide) (Ins.of_exa (own_Bn_exa F527 (List.mem_of_getElem? (i := 2) rfl)) w_40) rfl) hZ w_24 w_9 (by decide) (by decide)) qa531 qc531 (g := (mkF m 87 #[iv p0, iv p1, iv p2, iv (3 : Int32), iv (3 : Int32), rv a1, rv a4, rv a9, rv a16, rv a25, .unset, .unset, .unset, .unset, .unset] [(.ref a9), (.ref a25)])) rfl (by rw [hml]; rfl) (Steps.refl _) (argsL := [(.ref a9)]) (rest := []) (lenOf own_pd8 rfl) rfl (by show 2 * 0 + _ ≤ _; exact own_b rfl) (hb hby at_87) (fun _ _ => ⟨rfl, rfl, (own_b rfl : 6 + 0 ≤ _), (own_b rfl : 9 + 0 ≤ _)⟩)
      dsimp only [Pt.U, Pt.locs, Pt.cells, Pt.slots] at X531 l531 y531 z531 st531 hQ531
      obtain ⟨rfl, Nq531, K531, Ex531, gk531, gc531, gv531⟩ := hQ531
      obtain ⟨L531, X531, N531⟩ := own_absC (K := 6) (K' := 9) X531 l531 y531 z531 N523 Nq531
      have F532 : n0 ≤ T531.heap.size := Nat.le_trans F524 K531.1
      have F533 := Keep.trans F525 K531 (allS (Or.inr (Nat.le_trans F18.1 (Nat.le_of_eq ga25.symm))) (allS (Or.inr (Nat.le_trans K27.1 gz38)) all0))
      have F534 := Exa.keep Ex523 K531
      have F535 := own_Bn_keep F527 K531 hbq
      refine own_tr (B := (T531.setTop (mkF m 90 #[iv p0, iv p1, iv p2, iv (3 : Int32), iv (3 : Int32), rv a1, rv a4, rv a9, rv a16, rv a25, .unset, .unset, .unset, .unset, .unset] []))) st531 ?_
      refine own_go (B := (T531.setTop (mkF m 92 #[iv p0, iv p1, iv p2, iv (3 : Int32), iv (3 : Int32), rv a1, rv a4, rv a9, rv a16, rv a25, .unset, .unset, .unset, .unset, .unset] [(.int (3 : Int32))]))) (fun t k => XS.iload X531.here hx rfl (hb hby at_90) rfl k) ?_
      refine own_go (B := (T531.setTop (mkF m 93 #[iv p0, iv p1, iv p2, iv (3 : Int32), iv (3 : Int32), rv a1, rv a4, rv a9, rv a16, rv a25, .unset, .unset, .unset, .unset, .unset] [(.int (3 : Int32)), (.int (3 : Int32))]))) (fun t k => own_iconst (v := (3 : Int32)) X531.here hx rfl (hb hby at_92) (by decide) k) ?_
      have hc93 : ¬ (3 : Int32) < (3 : Int32) := (by decide)
      refine own_icmpY X531 hx (hb hby at_93) (pc' := 103) (by decide) (by decide) hc93 ?_
      refine own_go (B := (T531.setTop (mkF m 105 #[iv p0, iv p1, iv p2, iv (3 : Int32), iv (3 : Int32), rv a1, rv a4, rv a9, rv a16, rv a25, .unset, .unset, .unset, .unset, .unset] [(.int (3 : Int32))]))) (fun t k => XS.iload X531.here hx rfl (hb hby at_103) rfl k) ?_
      refine own_go (B := (T531.setTop (mkF m 106 #[iv p0, iv p1, iv p2, iv (3 : Int32), iv (3 : Int32), rv a1, rv a4, rv a9, rv a16, rv a25, .unset, .unset, .unset, .unset, .unset] [(.int (3 : Int32)), (.int (3 : Int32))]))) (fun t k => XS.iloadN X531.here hx rfl (hb hby at_105) rfl k) ?_
      obtain ⟨_, _, ⟨T539, L539, k539, n539⟩, -, X539, ⟨Lc539, hQ539, l539, y539, z539⟩, st539⟩ := Jvm.LawKit.callS X531 hx (y := own_y6) hown (mvT hZ w_27) (mvT hZ w_28) (mvT hZ w_29) (mvT hZ w_30) (by decide) (backOf (W := 0) (own_mmin l Z a0 hw [] (3 : Int32) (3 : Int32) T531.heap n0) hZ w_30 w_29 (by decide) (by decide)) (g := (mkF m 106 #[iv p0, iv p1, iv p2, iv (3 : Int32), iv (3 : Int32), rv a1, rv a4, rv a9, rv a16, rv a25, .unset, .unset, .unset, .unset, .unset] [(.int (3 : Int32)), (.int (3 : Int32))])) rfl (by rw [hml]; rfl) (argsL := [(.int (3 : Int32)), (.int (3 : Int32))]) (rest := []) (lenOf own_pd5 rfl) rfl (by show 2 * 0 + _ ≤ _; exact own_b rfl) (hb hby at_106) (fun _ _ => ⟨rfl, rfl, (own_b rfl : 6 + 0 ≤ _), (own_b rfl : 9 + 0 ≤ _)⟩)
      dsimp only [Pt.U, Pt.locs, Pt.cells, Pt.slots] at X539 l539 y539 z539 st539 hQ539
      obtain ⟨rfl, Nq539, eq539⟩ := hQ539
      obtain ⟨L539, X539, N539⟩ := own_absC (K := 6) (K' := 9) X539 l539 y539 z539 N531 Nq539
      have e539 : T539.heap = T531.heap := eq539
      refine own_go (B := (T539.setTop (mkF m 109 #[iv p0, iv p1, iv p2, iv (3 : Int32), iv (3 : Int32), rv a1, rv a4, rv a9, rv a16, rv a25, .unset, .unset, .unset, .unset, .unset] [(.int (own_min (3 : Int32) (3 : Int32)))]))) st539 ?_
      rw [show own_min (3 : Int32) (3 : Int32) = (3 : Int32) from by decide]
      refine own_go (B := (T539.setTop (mkF m 111 #[iv p0, iv p1, iv p2, iv (3 : Int32), iv (3 : Int32), rv a1, rv a4, rv a9, rv a16, rv a25, iv (3 : Int32), .unset, .unset, .unset, .unset] []))) (fun t k => XS.istore X539.here hx rfl (hb hby at_109) rfl (l' := #[iv p0, iv p1, iv p2, iv (3 : Int32), iv (3 : Int32), rv a1, rv a4, rv a9, rv a16, rv a25, iv (3 : Int32), .unset, .unset, .unset, .unset]) rfl k) ?_
      refine own_go (B := (T539.setTop (mkF m 113 #[iv p0, iv p1, iv p2, iv (3 : Int32), iv (3 : Int32), rv a1, rv a4, rv a9, rv a16, rv a25, iv (3 : Int32), .unset, .unset, .unset, .unset] [(.ref a25)]))) (fun t k => XS.aload X539.here hx rfl (hb hby at_111) rfl rfl k) ?_
      obtain ⟨cq540, kq540, qa540, qb540, qc540⟩ := isOf hZ e539 Ex531
      obtain ⟨_, _, ⟨T540, L540, k540, n540⟩, -, X540, ⟨Lc540, hQ540, l540, y540, z540⟩, st540⟩ := X539.virtualBack hx (y := own_y7) (z := own_y7) hown (mvT hZ w_31) (mvT hZ w_32) (notFace_of_selects (args := #[]) (mvT hZ w_34)) (mvT hZ w_34) (mvT hZ w_33) (by decide) (backOf (W := 0) (own_tone l Z a0 hw [] a25 ar38 a9 (3 : Int32) (2 : Int32) [(.ref a1), (.ref a4), (.ref a9)] [(.ref a1), (.ref a4), .null] T531.heap n0 Ex531 gk531 gc531 gv531 F532 gn25 gn_ar38 ne_ar38_a25 (by decide) (by decide) (by decide) rfl rfl) hZ w_35 w_9 (by decide) (by decide)) qa540 qc540 (g := (mkF m 113 #[iv p0, iv p1, iv p2, iv (3 : Int32), iv (3 : Int32), rv a1, rv a4, rv a9, rv a16, rv a25, iv (3 : Int32), .unset, .unset, .unset, .unset] [(.ref a25)])) rfl (by rw [hml]; rfl) (Steps.refl _) (argsL := []) (rest := []) (lenOf own_pd6 rfl) rfl (by show 2 * 0 + _ ≤ _; exact own_b rfl) (hb hby at_113) (fun _ _ => ⟨rfl, e539, (own_b rfl : 6 + 0 ≤ _), (own_b rfl : 9 + 0 ≤ _)⟩)
      dsimp only [Pt.U, Pt.locs, Pt.cells, Pt.slots] at X540 l540 y540 z540 st540 hQ540
      obtain ⟨rfl, Nq540, K540, Ex540, gk540, gc540, gv540⟩ := hQ540
      obtain ⟨L540, X540, N540⟩ := own_absC (K := 6) (K' := 9) X540 l540 y540 z540 N539 Nq540
      have F541 : n0 ≤ T540.heap.size := Nat.le_trans F532 K540.1
      have F542 := Keep.trans F533 K540 (allS (Or.inr (Nat.le_trans F18.1 (Nat.le_of_eq ga25.symm))) (allS (Or.inr (Nat.le_trans K27.1 gz38)) all0))
      have F543 := Exa.keep Ex531 K540
      have F544 := own_Bn_keep F535 K540 hbq
      refine own_tr (B := (T540.setTop (mkF m 116 #[iv p0, iv p1, iv p2, iv (3 : Int32), iv (3 : Int32), rv a1, rv a4, rv a9, rv a16, rv a25, iv (3 : Int32), .unset, .unset, .unset, .unset] [(.ref a9)]))) st540 ?_
      obtain ⟨T548, X548, e548, st548⟩ := castY X540 hx hZ hown w_41 rfl (Ins.of_exa (own_Bn_exa F544 (List.mem_of_getElem? (i := 2) rfl)) w_42) (g := (mkF m 116 #[iv p0, iv p1, iv p2, iv (3 : Int32), iv (3 : Int32), rv a1, rv a4, rv a9, rv a16, rv a25, iv (3 : Int32), .unset, .unset, .unset, .unset] [(.ref a9)])) rfl rfl (hb hby at_116)
      refine own_go (B := (T548.setTop (mkF m 119 #[iv p0, iv p1, iv p2, iv (3 : Int32), iv (3 : Int32), rv a1, rv a4, rv a9, rv a16, rv a25, iv (3 : Int32), .unset, .unset, .unset, .unset] [(.ref a9)]))) st548 ?_
      refine own_go (B := (T548.setTop (mkF m 121 #[iv p0, iv p1, iv p2, iv (3 : Int32), iv (3 : Int32), rv a1, rv a4, rv a9, rv a16, rv a25, iv (3 : Int32), rv a9, .unset, .unset, .unset] []))) (fun t k => XS.astore X548.here hx rfl (hb hby at_119) rfl rfl (l' := #[iv p0, iv p1, iv p2, iv (3 : Int32), iv (3 : Int32), rv a1, rv a4, rv a9, rv a16, rv a25, iv (3 : Int32), rv a9, .unset, .unset, .unset]) rfl k) ?_
      refine own_go (B := (T548.setTop (mkF m 123 #[iv p0, iv p1, iv p2, iv (3 : Int32), iv (3 : Int32), rv a1, rv a4, rv a9, rv a16, rv a25, iv (3 : Int32), rv a9, .unset, .unset, .unset] [(.ref a25)]))) (fun t k => XS.aload X548.here hx rfl (hb hby at_121) rfl rfl k) ?_
      obtain ⟨cq549, kq549, qa549, qb549, qc549⟩ := isOf hZ e548 Ex540
      obtain ⟨_, _, ⟨T549, L549, k549, n549⟩, -, X549, ⟨Lc549, hQ549, l549, y549, z549⟩, st549⟩ := X548.virtualBack hx (y := own_y7) (z := own_y7) hown (mvT hZ w_31) (mvT hZ w_32) (notFace_of_selects (args := #[]) (mvT hZ w_34)) (mvT hZ w_34) (mvT hZ w_33) (by decide) (backOf (W := 0) (own_tone l Z a0 hw [] a25 ar38 a4 (2 : Int32) (1 : Int32) [(.ref a1), (.ref a4), .null] [(.ref a1), .null, .null] T540.heap n0 Ex540 gk540 gc540 gv540 F541 gn25 gn_ar38 ne_ar38_a25 (by decide) (by decide) (by decide) rfl rfl) hZ w_35 w_9 (by decide) (by decide)) qa549 qc549 (g := (mkF m 123 #[iv p0, iv p1, iv p2, iv (3 : Int32), iv (3 : Int32), rv a1, rv a4, rv a9, rv a16, rv a25, iv (3 : Int32), rv a9, .unset, .unset, .unset] [(.ref a25)])) rfl (by rw [hml]; rfl) (Steps.refl _) (argsL := []) (rest := []) (lenOf own_pd6 rfl) rfl (by show 2 * 0 + _ ≤ _; exact own_b rfl) (hb hby at_123) (fun _ _ => ⟨rfl, e548, (own_b rfl : 6 + 0 ≤ _), (own_b rfl : 9 + 0 ≤ _)⟩)
      dsimp only [Pt.U, Pt.locs, Pt.cells, Pt.slots] at X549 l549 y549 z549 st549 hQ549
      obtain ⟨rfl, Nq549, K549, Ex549, gk549, gc549, gv549⟩ := hQ549
      obtain ⟨L549, X549, N549⟩ := own_absC (K := 6) (K' := 9) X549 l549 y549 z549 N540 Nq549
      have F550 : n0 ≤ T549.heap.size := Nat.le_trans F541 K549.1
      have F551 := Keep.trans F542 K549 (allS (Or.inr (Nat.le_trans F18.1 (Nat.le_of_eq ga25.symm))) (allS (Or.inr (Nat.le_trans K27.1 gz38)) all0))
      have F552 := Exa.keep Ex540 K549
      have F553 := own_Bn_keep F544 K549 hbq
      refine own_tr (B := (T549.setTop (mkF m 126 #[iv p0, iv p1, iv p2, iv (3 : Int32), iv (3 : Int32), rv a1, rv a4, rv a9, rv a16, rv a25, iv (3 : Int32), rv a9, .unset, .unset, .unset] [(.ref a4)]))) st549 ?_
      obtain ⟨T557, X557, e557, st557⟩ := castY X549 hx hZ hown w_41 rfl (Ins.of_exa (own_Bn_exa F553 (List.mem_of_getElem? (i := 1) rfl)) w_42) (g := (mkF m 126 #[iv p0, iv p1, iv p2, iv (3 : Int32), iv (3 : Int32), rv a1, rv a4, rv a9, rv a16, rv a25, iv (3 : Int32), rv a9, .unset, .unset, .unset] [(.ref a4)])) rfl rfl (hb hby at_126)
      refine own_go (B := (T557.setTop (mkF m 129 #[iv p0, iv p1, iv p2, iv (3 : Int32), iv (3 : Int32), rv a1, rv a4, rv a9, rv a16, rv a25, iv (3 : Int32), rv a9, .unset, .unset, .unset] [(.ref a4)]))) st557 ?_
      refine own_go (B := (T557.setTop (mkF m 131 #[iv p0, iv p1, iv p2, iv (3 : Int32), iv (3 : Int32), rv a1, rv a4, rv a9, rv a16, rv a25, iv (3 : Int32), rv a9, rv a4, .unset, .unset] []))) (fun t k => XS.astore X557.here hx rfl (hb hby at_129) rfl rfl (l' := #[iv p0, iv p1, iv p2, iv (3 : Int32), iv (3 : Int32), rv a1, rv a4, rv a9, rv a16, rv a25, iv (3 : Int32), rv a9, rv a4, .unset, .unset]) rfl k) ?_
      refine own_go (B := (T557.setTop (mkF m 133 #[iv p0, iv p1, iv p2, iv (3 : Int32), iv (3 : Int32), rv a1, rv a4, rv a9, rv a16, rv a25, iv (3 : Int32), rv a9, rv a4, .unset, .unset] [(.ref a25)]))) (fun t k => XS.aload X557.here hx rfl (hb hby at_131) rfl rfl k) ?_
      obtain ⟨cq558, kq558, qa558, qb558, qc558⟩ := isOf hZ e557 Ex549
      obtain ⟨_, _, ⟨T558, L558, k558, n558⟩, -, X558, ⟨Lc558, hQ558, l558, y558, z558⟩, st558⟩ := X557.virtualBack hx (y := own_y7) (z := own_y7) hown (mvT hZ w_31) (mvT hZ w_32) (notFace_of_selects (args := #[]) (mvT hZ w_34)) (mvT hZ w_34) (mvT hZ w_33) (by decide) (backOf (W := 0) (own_tone l Z a0 hw [] a25 ar38 a1 (1 : Int32) (0 : Int32) [(.ref a1), .null, .null] [.null, .null, .null] T549.heap n0 Ex549 gk549 gc549 gv549 F550 gn25 gn_ar38 ne_ar38_a25 (by decide) (by decide) (by decide) rfl rfl) hZ w_35 w_9 (by decide) (by decide)) qa558 qc558 (g := (mkF m 133 #[iv p0, iv p1, iv p2, iv (3 : Int32), iv (3 : Int32), rv a1, rv a4, rv a9, rv a16, rv a25, iv (3 : Int32), rv a9, rv a4, .unset, .unset] [(.ref a25)])) rfl (by rw [hml]; rfl) (Steps.refl _) (argsL := []) (rest := []) (lenOf own_pd6 rfl) rfl (by show 2 * 0 + _ ≤ _; exact own_b rfl) (hb hby at_133) (fun _ _ => ⟨rfl, e557, (own_b rfl : 6 + 0 ≤ _), (own_b rfl : 9 + 0 ≤ _)⟩)
      dsimp only [Pt.U, Pt.locs, Pt.cells, Pt.slots] at X558 l558 y558 z558 st558 hQ558
      obtain ⟨rfl, Nq558, K558, Ex558, gk558, gc558, gv558⟩ := hQ558
      obtain ⟨L558, X558, N558⟩ := own_absC (K := 6) (K' := 9) X558 l558 y558 z558 N549 Nq558
      have F559 : n0 ≤ T558.heap.size := Nat.le_trans F550 K558.1
      have F560 := Keep.trans F551 K558 (allS (Or.inr (Nat.le_trans F18.1 (Nat.le_of_eq ga25.symm))) (allS (Or.inr (Nat.le_trans K27.1 gz38)) all0))
      have F561 := Exa.keep Ex549 K558
      have F562 := own_Bn_keep F553 K558 hbq
      refine own_tr (B := (T558.setTop (mkF m 136 #[iv p0, iv p1, iv p2, iv (3 : Int32), iv (3 : Int32), rv a1, rv a4, rv a9, rv a16, rv a25, iv (3 : Int32), rv a9, rv a4, .unset, .unset] [(.ref a1)]))) st558 ?_
      obtain ⟨T566, X566, e566, st566⟩ := castY X558 hx hZ hown w_41 rfl (Ins.of_exa (own_Bn_exa F562 (List.mem_of_getElem? (i := 0) rfl)) w_42) (g := (mkF m 136 #[iv p0, iv p1, iv p2, iv (3 : Int32), iv (3 : Int32), rv a1, rv a4, rv a9, rv a16, rv a25, iv (3 : Int32), rv a9, rv a4, .unset, .unset] [(.ref a1)])) rfl rfl (hb hby at_136)
      refine own_go (B := (T566.setTop (mkF m 139 #[iv p0, iv p1, iv p2, iv (3 : Int32), iv (3 : Int32), rv a1, rv a4, rv a9, rv a16, rv a25, iv (3 : Int32), rv a9, rv a4, .unset, .unset] [(.ref a1)]))) st566 ?_
      refine own_go (B := (T566.setTop (mkF m 141 #[iv p0, iv p1, iv p2, iv (3 : Int32), iv (3 : Int32), rv a1, rv a4, rv a9, rv a16, rv a25, iv (3 : Int32), rv a9, rv a4, rv a1, .unset] []))) (fun t k => XS.astore X566.here hx rfl (hb hby at_139) rfl rfl (l' := #[iv p0, iv p1, iv p2, iv (3 : Int32), iv (3 : Int32), rv a1, rv a4, rv a9, rv a16, rv a25, iv (3 : Int32), rv a9, rv a4, rv a1, .unset]) rfl k) ?_
      refine own_go (B := (T566.setTop (mkF m 143 #[iv p0, iv p1, iv p2, iv (3 : Int32), iv (3 : Int32), rv a1, rv a4, rv a9, rv a16, rv a25, iv (3 : Int32), rv a9, rv a4, rv a1, .unset] [(.ref a25)]))) (fun t k => XS.aload X566.here hx rfl (hb hby at_141) rfl rfl k) ?_
      obtain ⟨cq567, kq567, qa567, qb567, qc567⟩ := isOf hZ e566 Ex558
      obtain ⟨_, _, ⟨T567, L567, k567, n567⟩, -, X567, ⟨Lc567, hQ567, l567, y567, z567⟩, st567⟩ := X566.virtualBack hx (y := own_y7) (z := own_y7) hown (mvT hZ w_31) (mvT hZ w_32) (notFace_of_selects (args := #[]) (mvT hZ w_34)) (mvT hZ w_34) (mvT hZ w_33) (by decide) (backOf (W := 0) (own_tnone l Z a0 hw [] a25 T558.heap n0 gc558) hZ w_35 w_9 (by decide) (by decide)) qa567 qc567 (g := (mkF m 143 #[iv p0, iv p1, iv p2, iv (3 : Int32), iv (3 : Int32), rv a1, rv a4, rv a9, rv a16, rv a25, iv (3 : Int32), rv a9, rv a4, rv a1, .unset] [(.ref a25)])) rfl (by rw [hml]; rfl) (Steps.refl _) (argsL := []) (rest := []) (lenOf own_pd6 rfl) rfl (by show 2 * 0 + _ ≤ _; exact own_b rfl) (hb hby at_143) (fun _ _ => ⟨rfl, e566, (own_b rfl : 6 + 0 ≤ _), (own_b rfl : 9 + 0 ≤ _)⟩)
      dsimp only [Pt.U, Pt.locs, Pt.cells, Pt.slots] at X567 l567 y567 z567 st567 hQ567
      obtain ⟨rfl, Nq567, eq567⟩ := hQ567
      obtain ⟨L567, X567, N567⟩ := own_absC (K := 6) (K' := 9) X567 l567 y567 z567 N558 Nq567
      have e567 : T567.heap = T558.heap := eq567
      refine own_tr (B := (T567.setTop (mkF m 146 #[iv p0, iv p1, iv p2, iv (3 : Int32), iv (3 : Int32), rv a1, rv a4, rv a9, rv a16, rv a25, iv (3 : Int32), rv a9, rv a4, rv a1, .unset] [.null]))) st567 ?_
      refine own_go (B := (T567.setTop (mkF m 149 #[iv p0, iv p1, iv p2, iv (3 : Int32), iv (3 : Int32), rv a1, rv a4, rv a9, rv a16, rv a25, iv (3 : Int32), rv a9, rv a4, rv a1, .unset] [.null]))) (X567.checkcastNull hx (g := (mkF m 146 #[iv p0, iv p1, iv p2, iv (3 : Int32), iv (3 : Int32), rv a1, rv a4, rv a9, rv a16, rv a25, iv (3 : Int32), rv a9, rv a4, rv a1, .unset] [.null])) rfl rfl (hb hby at_146)) ?_
      refine own_go (B := (T567.setTop (mkF m 151 #[iv p0, iv p1, iv p2, iv (3 : Int32), iv (3 : Int32), rv a1, rv a4, rv a9, rv a16, rv a25, iv (3 : Int32), rv a9, rv a4, rv a1, .val .null] []))) (fun t k => XS.astore X567.here hx rfl (hb hby at_149) rfl rfl (l' := #[iv p0, iv p1, iv p2, iv (3 : Int32), iv (3 : Int32), rv a1, rv a4, rv a9, rv a16, rv a25, iv (3 : Int32), rv a9, rv a4, rv a1, .val .null]) rfl k) ?_
      refine own_go (B := (T567.setTop (mkF m 153 #[iv p0, iv p1, iv p2, iv (3 : Int32), iv (3 : Int32), rv a1, rv a4, rv a9, rv a16, rv a25, iv (3 : Int32), rv a9, rv a4, rv a1, .val .null] [(.ref a9)]))) (fun t k => XS.aload X567.here hx rfl (hb hby at_151) rfl rfl k) ?_
      refine own_go (B := (T567.setTop (mkF m 155 #[iv p0, iv p1, iv p2, iv (3 : Int32), iv (3 : Int32), rv a1, rv a4, rv a9, rv a16, rv a25, iv (3 : Int32), rv a9, rv a4, rv a1, .val .null] [(.int (3 : Int32)), (.ref a9)]))) (fun t k => XS.iload X567.here hx rfl (hb hby at_153) rfl k) ?_
      refine own_go (B := (T567.setTop (mkF m 156 #[iv p0, iv p1, iv p2, iv (3 : Int32), iv (3 : Int32), rv a1, rv a4, rv a9, rv a16, rv a25, iv (3 : Int32), rv a9, rv a4, rv a1, .val .null] [(.int (0 : Int32)), (.int (3 : Int32)), (.ref a9)]))) (fun t k => own_iconst (v := (0 : Int32)) X567.here hx rfl (hb hby at_155) (by decide) k) ?_
      refine own_go (B := (T567.setTop (mkF m 157 #[iv p0, iv p1, iv p2, iv (3 : Int32), iv (3 : Int32), rv a1, rv a4, rv a9, rv a16, rv a25, iv (3 : Int32), rv a9, rv a4, rv a1, .val .null] [(.int p2), (.int (0 : Int32)), (.int (3 : Int32)), (.ref a9)]))) (fun t k => XS.iloadN X567.here hx rfl (hb hby at_156) rfl k) ?_
      obtain ⟨_, _, ⟨T569, L569, k569, n569⟩, -, X569, ⟨Lc569, hQ569, l569, y569, z569⟩, st569⟩ := Jvm.LawKit.callS X567 hx (y := own_y8) hown (mvT hZ w_36) (mvT hZ w_37) (mvT hZ w_38) (mvT hZ w_39) (by decide) (backOf (W := 0) (own_same1 l Z a0 hw [] a9 (3 : Int32) (0 : Int32) p2 (p2 + (2 : Int32)) T558.heap n0 (own_Bn_exa F562 (List.mem_of_getElem? (i := 2) rfl)) (own_Bn_fld F562 (List.mem_of_getElem? (i := 2) rfl)) (by decide) (own_vi (by decide))) hZ w_39 w_38 (by decide) (by decide)) (g := (mkF m 157 #[iv p0, iv p1, iv p2, iv (3 : Int32), iv (3 : Int32), rv a1, rv a4, rv a9, rv a16, rv a25, iv (3 : Int32), rv a9, rv a4, rv a1, .val .null] [(.int p2), (.int (0 : Int32)), (.int (3 : Int32)), (.ref a9)])) rfl (by rw [hml]; rfl) (argsL := [(.ref a9), (.int (3 : Int32)), (.int (0 : Int32)), (.int p2)]) (rest := []) (lenOf own_pd7 rfl) rfl (by show 2 * 0 + _ ≤ _; exact own_b rfl) (hb hby at_157) (fun _ _ => ⟨rfl, e567, (own_b rfl : 6 + 0 ≤ _), (own_b rfl : 9 + 0 ≤ _)⟩)
      dsimp only [Pt.U, Pt.locs, Pt.cells, Pt.slots] at X569 l569 y569 z569 st569 hQ569
      obtain ⟨rfl, Nq569, eq569⟩ := hQ569
      obtain ⟨L569, X569, N569⟩ := own_absC (K := 6) (K' := 9) X569 l569 y569 z569 N567 Nq569
      have e569 : T569.heap = T558.heap := eq569
      refine own_go (B := (T569.setTop (mkF m 160 #[iv p0, iv p1, iv p2, iv (3 : Int32), iv (3 : Int32), rv a1, rv a4, rv a9, rv a16, rv a25, iv (3 : Int32), rv a9, rv a4, rv a1, .val .null] [(.int (1 : Int32))]))) st569 ?_
      have hc160 : ¬ (1 : Int32) = (0 : Int32) := (by decide)
      refine own_ifN X569 hx (hb hby at_160) (pn := 163) rfl hc160 ?_
      refine own_go (B := (T569.setTop (mkF m 165 #[iv p0, iv p1, iv p2, iv (3 : Int32), iv (3 : Int32), rv a1, rv a4, rv a9, rv a16, rv a25, iv (3 : Int32), rv a9, rv a4, rv a1, .val .null] [(.ref a4)]))) (fun t k => XS.aload X569.here hx rfl (hb hby at_163) rfl rfl k) ?_
      refine own_go (B := (T569.setTop (mkF m 167 #[iv p0, iv p1, iv p2, iv (3 : Int32), iv (3 : Int32), rv a1, rv a4, rv a9, rv a16, rv a25, iv (3 : Int32), rv a9, rv a4, rv a1, .val .null] [(.int (3 : Int32)), (.ref a4)]))) (fun t k => XS.iload X569.here hx rfl (hb hby at_165) rfl k) ?_
      refine own_go (B := (T569.setTop (mkF m 168 #[iv p0, iv p1, iv p2, iv (3 : Int32), iv (3 : Int32), rv a1, rv a4, rv a9, rv a16, rv a25, iv (3 : Int32), rv a9, rv a4, rv a1, .val .null] [(.int (1 : Int32)), (.int (3 : Int32)), (.ref a4)]))) (fun t k => own_iconst (v := (1 : Int32)) X569.here hx rfl (hb hby at_167) (by decide) k) ?_
      refine own_go (B := (T569.setTop (mkF m 169 #[iv p0, iv p1, iv p2, iv (3 : Int32), iv (3 : Int32), rv a1, rv a4, rv a9, rv a16, rv a25, iv (3 : Int32), rv a9, rv a4, rv a1, .val .null] [(.int p2), (.int (1 : Int32)), (.int (3 : Int32)), (.ref a4)]))) (fun t k => XS.iloadN X569.here hx rfl (hb hby at_168) rfl k) ?_
      obtain ⟨_, _, ⟨T570, L570, k570, n570⟩, -, X570, ⟨Lc570, hQ570, l570, y570, z570⟩, st570⟩ := Jvm.LawKit.callS X569 hx (y := own_y8) hown (mvT hZ w_36) (mvT hZ w_37) (mvT hZ w_38) (mvT hZ w_39) (by decide) (backOf (W := 0) (own_same1 l Z a0 hw [] a4 (3 : Int32) (1 : Int32) p2 (p2 + (1 : Int32)) T558.heap n0 (own_Bn_exa F562 (List.mem_of_getElem? (i := 1) rfl)) (own_Bn_fld F562 (List.mem_of_getElem? (i := 1) rfl)) (by decide) (own_vi (by decide))) hZ w_39 w_38 (by decide) (by decide)) (g := (mkF m 169 #[iv p0, iv p1, iv p2, iv (3 : Int32), iv (3 : Int32), rv a1, rv a4, rv a9, rv a16, rv a25, iv (3 : Int32), rv a9, rv a4, rv a1, .val .null] [(.int p2), (.int (1 : Int32)), (.int (3 : Int32)), (.ref a4)])) rfl (by rw [hml]; rfl) (argsL := [(.ref a4), (.int (3 : Int32)), (.int (1 : Int32)), (.int p2)]) (rest := []) (lenOf own_pd7 rfl) rfl (by show 2 * 0 + _ ≤ _; exact own_b rfl) (hb hby at_169) (fun _ _ => ⟨rfl, e569, (own_b rfl : 6 + 0 ≤ _), (own_b rfl : 9 + 0 ≤ _)⟩)
      dsimp only [Pt.U, Pt.locs, Pt.cells, Pt.slots] at X570 l570 y570 z570 st570 hQ570
      obtain ⟨rfl, Nq570, eq570⟩ := hQ570
      obtain ⟨L570, X570, N570⟩ := own_absC (K := 6) (K' := 9) X570 l570 y570 z570 N569 Nq570
      have e570 : T570.heap = T558.heap := eq570
      refine own_go (B := (T570.setTop (mkF m 172 #[iv p0, iv p1, iv p2, iv (3 : Int32), iv (3 : Int32), rv a1, rv a4, rv a9, rv a16, rv a25, iv (3 : Int32), rv a9, rv a4, rv a1, .val .null] [(.int (1 : Int32))]))) st570 ?_
      have hc172 : ¬ (1 : Int32) = (0 : Int32) := (by decide)
      refine own_ifN X570 hx (hb hby at_172) (pn := 175) rfl hc172 ?_
      refine own_go (B := (T570.setTop (mkF m 177 #[iv p0, iv p1, iv p2, iv (3 : Int32), iv (3 : Int32), rv a1, rv a4, rv a9, rv a16, rv a25, iv (3 : Int32), rv a9, rv a4, rv a1, .val .null] [(.ref a1)]))) (fun t k => XS.aload X570.here hx rfl (hb hby at_175) rfl rfl k) ?_
      refine own_go (B := (T570.setTop (mkF m 179 #[iv p0, iv p1, iv p2, iv (3 : Int32), iv (3 : Int32), rv a1, rv a4, rv a9, rv a16, rv a25, iv (3 : Int32), rv a9, rv a4, rv a1, .val .null] [(.int (3 : Int32)), (.ref a1)]))) (fun t k => XS.iload X570.here hx rfl (hb hby at_177) rfl k) ?_
      refine own_go (B := (T570.setTop (mkF m 180 #[iv p0, iv p1, iv p2, iv (3 : Int32), iv (3 : Int32), rv a1, rv a4, rv a9, rv a16, rv a25, iv (3 : Int32), rv a9, rv a4, rv a1, .val .null] [(.int (2 : Int32)), (.int (3 : Int32)), (.ref a1)]))) (fun t k => own_iconst (v := (2 : Int32)) X570.here hx rfl (hb hby at_179) (by decide) k) ?_
      refine own_go (B := (T570.setTop (mkF m 181 #[iv p0, iv p1, iv p2, iv (3 : Int32), iv (3 : Int32), rv a1, rv a4, rv a9, rv a16, rv a25, iv (3 : Int32), rv a9, rv a4, rv a1, .val .null] [(.int p2), (.int (2 : Int32)), (.int (3 : Int32)), (.ref a1)]))) (fun t k => XS.iloadN X570.here hx rfl (hb hby at_180) rfl k) ?_
      obtain ⟨_, _, ⟨T571, L571, k571, n571⟩, -, X571, ⟨Lc571, hQ571, l571, y571, z571⟩, st571⟩ := Jvm.LawKit.callS X570 hx (y := own_y8) hown (mvT hZ w_36) (mvT hZ w_37) (mvT hZ w_38) (mvT hZ w_39) (by decide) (backOf (W := 0) (own_same1 l Z a0 hw [] a1 (3 : Int32) (2 : Int32) p2 p2 T558.heap n0 (own_Bn_exa F562 (List.mem_of_getElem? (i := 0) rfl)) (own_Bn_fld F562 (List.mem_of_getElem? (i := 0) rfl)) (by decide) (own_v0 (by decide))) hZ w_39 w_38 (by decide) (by decide)) (g := (mkF m 181 #[iv p0, iv p1, iv p2, iv (3 : Int32), iv (3 : Int32), rv a1, rv a4, rv a9, rv a16, rv a25, iv (3 : Int32), rv a9, rv a4, rv a1, .val .null] [(.int p2), (.int (2 : Int32)), (.int (3 : Int32)), (.ref a1)])) rfl (by rw [hml]; rfl) (argsL := [(.ref a1), (.int (3 : Int32)), (.int (2 : Int32)), (.int p2)]) (rest := []) (lenOf own_pd7 rfl) rfl (by show 2 * 0 + _ ≤ _; exact own_b rfl) (hb hby at_181) (fun _ _ => ⟨rfl, e570, (own_b rfl : 6 + 0 ≤ _), (own_b rfl : 9 + 0 ≤ _)⟩)
      dsimp only [Pt.U, Pt.locs, Pt.cells, Pt.slots] at X571 l571 y571 z571 st571 hQ571
      obtain ⟨rfl, Nq571, eq571⟩ := hQ571
      obtain ⟨L571, X571, N571⟩ := own_absC (K := 6) (K' := 9) X571 l571 y571 z571 N570 Nq571
      have e571 : T571.heap = T558.heap := eq571
      refine own_go (B := (T571.setTop (mkF m 184 #[iv p0, iv p1, iv p2, iv (3 : Int32), iv (3 : Int32), rv a1, rv a4, rv a9, rv a16, rv a25, iv (3 : Int32), rv a9, rv a4, rv a1, .val .null] [(.int (1 : Int32))]))) st571 ?_
      have hc184 : ¬ (1 : Int32) = (0 : Int32) := (by decide)
      refine own_ifN X571 hx (hb hby at_184) (pn := 187) rfl hc184 ?_
      refine own_go (B := (T571.setTop (mkF m 189 #[iv p0, iv p1, iv p2, iv (3 : Int32), iv (3 : Int32), rv a1, rv a4, rv a9, rv a16, rv a25, iv (3 : Int32), rv a9, rv a4, rv a1, .val .null] [.null]))) (fun t k => XS.aload X571.here hx rfl (hb hby at_187) rfl rfl k) ?_
      refine own_go (B := (T571.setTop (mkF m 191 #[iv p0, iv p1, iv p2, iv (3 : Int32), iv (3 : Int32), rv a1, rv a4, rv a9, rv a16, rv a25, iv (3 : Int32), rv a9, rv a4, rv a1, .val .null] [(.int (3 : Int32)), .null]))) (fun t k => XS.iload X571.here hx rfl (hb hby at_189) rfl k) ?_
      refine own_go (B := (T571.setTop (mkF m 192 #[iv p0, iv p1, iv p2, iv (3 : Int32), iv (3 : Int32), rv a1, rv a4, rv a9, rv a16, rv a25, iv (3 : Int32), rv a9, rv a4, rv a1, .val .null] [(.int (3 : Int32)), (.int (3 : Int32)), .null]))) (fun t k => own_iconst (v := (3 : Int32)) X571.here hx rfl (hb hby at_191) (by decide) k) ?_
      refine own_go (B := (T571.setTop (mkF m 193 #[iv p0, iv p1, iv p2, iv (3 : Int32), iv (3 : Int32), rv a1, rv a4, rv a9, rv a16, rv a25, iv (3 : Int32), rv a9, rv a4, rv a1, .val .null] [(.int p2), (.int (3 : Int32)), (.int (3 : Int32)), .null]))) (fun t k => XS.iloadN X571.here hx rfl (hb hby at_192) rfl k) ?_
      obtain ⟨_, _, ⟨T572, L572, k572, n572⟩, -, X572, ⟨Lc572, hQ572, l572, y572, z572⟩, st572⟩ := Jvm.LawKit.callS X571 hx (y := own_y8) hown (mvT hZ w_36) (mvT hZ w_37) (mvT hZ w_38) (mvT hZ w_39) (by decide) (backOf (W := 0) (own_same0 l Z a0 hw [] (3 : Int32) (3 : Int32) p2 T558.heap n0 (by decide)) hZ w_39 w_38 (by decide) (by decide)) (g := (mkF m 193 #[iv p0, iv p1, iv p2, iv (3 : Int32), iv (3 : Int32), rv a1, rv a4, rv a9, rv a16, rv a25, iv (3 : Int32), rv a9, rv a4, rv a1, .val .null] [(.int p2), (.int (3 : Int32)), (.int (3 : Int32)), .null])) rfl (by rw [hml]; rfl) (argsL := [.null, (.int (3 : Int32)), (.int (3 : Int32)), (.int p2)]) (rest := []) (lenOf own_pd7 rfl) rfl (by show 2 * 0 + _ ≤ _; exact own_b rfl) (hb hby at_193) (fun _ _ => ⟨rfl, e571, (own_b rfl : 6 + 0 ≤ _), (own_b rfl : 9 + 0 ≤ _)⟩)
      dsimp only [Pt.U, Pt.locs, Pt.cells, Pt.slots] at X572 l572 y572 z572 st572 hQ572
      obtain ⟨rfl, Nq572, eq572⟩ := hQ572
      obtain ⟨L572, X572, N572⟩ := own_absC (K := 6) (K' := 9) X572 l572 y572 z572 N571 Nq572
      have e572 : T572.heap = T558.heap := eq572
      refine own_go (B := (T572.setTop (mkF m 196 #[iv p0, iv p1, iv p2, iv (3 : Int32), iv (3 : Int32), rv a1, rv a4, rv a9, rv a16, rv a25, iv (3 : Int32), rv a9, rv a4, rv a1, .val .null] [(.int (1 : Int32))]))) st572 ?_
      have hc196 : ¬ (1 : Int32) = (0 : Int32) := (by decide)
      refine own_ifN X572 hx (hb hby at_196) (pn := 199) rfl hc196 ?_
      refine own_go (B := (T572.setTop (mkF m 200 #[iv p0, iv p1, iv p2, iv (3 : Int32), iv (3 : Int32), rv a1, rv a4, rv a9, rv a16, rv a25, iv (3 : Int32), rv a9, rv a4, rv a1, .val .null] [(.int (1 : Int32))]))) (fun t k => own_iconst (v := (1 : Int32)) X572.here hx rfl (hb hby at_199) (by decide) k) ?_
      refine own_go (B := (T572.setTop (mkF m 204 #[iv p0, iv p1, iv p2, iv (3 : Int32), iv (3 : Int32), rv a1, rv a4, rv a9, rv a16, rv a25, iv (3 : Int32), rv a9, rv a4, rv a1, .val .null] [(.int (1 : Int32))]))) (fun t k => XS.goto X572.here hx rfl (pc0 := 200) (pc' := 204) rfl (hb hby at_200) (by decide) (by decide) k) ?_
      exact own_retZ X572 hx hlk Bd.returns (hb hby at_204) (by decide) (own_b rfl) (own_b rfl) (Q := (own_law_Q Z p0 p1 p2 ca h0 n0)) ⟨rfl, N572⟩
    · refine own_go (B := (T38.setTop (mkF m 54 #[iv p0, iv p1, iv p2, iv (3 : Int32), iv (4 : Int32), rv a1, rv a4, rv a9, rv a16, rv a25, .unset, .unset, .unset, .unset, .unset] [(.int (4 : Int32))]))) (fun t k => XS.iload X38.here hx rfl (hb hby at_52) rfl k) ?_
      have hc54 : (0 : Int32) < (4 : Int32) := (by decide)
      refine own_ifN X38 hx (hb hby at_54) (pn := 57) rfl hc54 ?_
      refine own_go (B := (T38.setTop (mkF m 59 #[iv p0, iv p1, iv p2, iv (3 : Int32), iv (4 : Int32), rv a1, rv a4, rv a9, rv a16, rv a25, .unset, .unset, .unset, .unset, .unset] [(.ref a25)]))) (fun t k => XS.aload X38.here hx rfl (hb hby at_57) rfl rfl k) ?_
      refine own_go (B := (T38.setTop (mkF m 61 #[iv p0, iv p1, iv p2, iv (3 : Int32), iv (4 : Int32), rv a1, rv a4, rv a9, rv a16, rv a25, .unset, .unset, .unset, .unset, .unset] [(.ref a1), (.ref a25)]))) (fun t k => XS.aload X38.here hx rfl (hb hby at_59) rfl rfl k) ?_
      obtain ⟨cq573, kq573, qa573, qb573, qc573⟩ := isOf hZ rfl Ex38
      obtain ⟨_, _, ⟨T573, L573, k573, n573⟩, -, X573, ⟨Lc573, hQ573, l573, y573, z573⟩, st573⟩ := X38.virtualBack hx (y := own_y9) (z := own_y9) hown (mvT hZ w_20) (mvT hZ w_21) (notFace_of_selects (args := #[]) (mvT hZ w_23)) (mvT hZ w_23) (mvT hZ w_22) (by decide) (backOf (W := 0) (own_kone l Z a0 hw [] a25 a1 ar38 (0 : Int32) (3 : Int32) (1 : Int32) [.null, .null, .null] [(.ref a1), .null, .null] T38.heap n0 Ex38 gk38 gc38 Vb F39 gn25 gn_ar38 ne_ar38_a25 (own_lenL (n := 3) rfl (by decide)) (by decide) (by decide) (Nat.lt_of_lt_of_eq (by decide : _ < 3) rfl) (by decide) (Ins.of_exa (own_Bn_exa BB (List.mem_of_getElem? (i := 0) rfl)) w_40) rfl) hZ w_24 w_9 (by decide) (by decide)) qa573 qc573 (g := (mkF m 61 #[iv p0, iv p1, iv p2, iv (3 : Int32), iv (4 : Int32), rv a1, rv a4, rv a9, rv a16, rv a25, .unset, .unset, .unset, .unset, .unset] [(.ref a1), (.ref a25)])) rfl (by rw [hml]; rfl) (Steps.refl _) (argsL := [(.ref a1)]) (rest := []) (lenOf own_pd8 rfl) rfl (by show 2 * 0 + _ ≤ _; exact own_b rfl) (hb hby at_61) (fun _ _ => ⟨rfl, rfl, (own_b rfl : 6 + 0 ≤ _), (own_b rfl : 9 + 0 ≤ _)⟩)
      dsimp only [Pt.U, Pt.locs, Pt.cells, Pt.slots] at X573 l573 y573 z573 st573 hQ573
      obtain ⟨rfl, Nq573, K573, Ex573, gk573, gc573, gv573⟩ := hQ573
      obtain ⟨L573, X573, N573⟩ := own_absC (K := 6) (K' := 9) X573 l573 y573 z573 N38 Nq573
      have F574 : n0 ≤ T573.heap.size := Nat.le_trans F39 K573.1
      have F575 := Keep.trans F40 K573 (allS (Or.inr (Nat.le_trans F18.1 (Nat.le_of_eq ga25.symm))) (allS (Or.inr (Nat.le_trans K27.1 gz38)) all0))
      have F576 := Exa.keep Ex38 K573
      have F580 := own_Bn_keep BB K573 hbq
      refine own_tr (B := (T573.setTop (mkF m 64 #[iv p0, iv p1, iv p2, iv (3 : Int32), iv (4 : Int32), rv a1, rv a4, rv a9, rv a16, rv a25, .unset, .unset, .unset, .unset, .unset] []))) st573 ?_
      refine own_go (B := (T573.setTop (mkF m 66 #[iv p0, iv p1, iv p2, iv (3 : Int32), iv (4 : Int32), rv a1, rv a4, rv a9, rv a16, rv a25, .unset, .unset, .unset, .unset, .unset] [(.int (4 : Int32))]))) (fun t k => XS.iload X573.here hx rfl (hb hby at_64) rfl k) ?_
      refine own_go (B := (T573.setTop (mkF m 67 #[iv p0, iv p1, iv p2, iv (3 : Int32), iv (4 : Int32), rv a1, rv a4, rv a9, rv a16, rv a25, .unset, .unset, .unset, .unset, .unset] [(.int (1 : Int32)), (.int (4 : Int32))]))) (fun t k => own_iconst (v := (1 : Int32)) X573.here hx rfl (hb hby at_66) (by decide) k) ?_
      have hc67 : (1 : Int32) < (4 : Int32) := (by decide)
      refine own_icmpN X573 hx (hb hby at_67) (pn := 70) rfl hc67 ?_
      refine own_go (B := (T573.setTop (mkF m 72 #[iv p0, iv p1, iv p2, iv (3 : Int32), iv (4 : Int32), rv a1, rv a4, rv a9, rv a16, rv a25, .unset, .unset, .unset, .unset, .unset] [(.ref a25)]))) (fun t k => XS.aload X573.here hx rfl (hb hby at_70) rfl rfl k) ?_
      refine own_go (B := (T573.setTop (mkF m 74 #[iv p0, iv p1, iv p2, iv (3 : Int32), iv (4 : Int32), rv a1, rv a4, rv a9, rv a16, rv a25, .unset, .unset, .unset, .unset, .unset] [(.ref a4), (.ref a25)]))) (fun t k => XS.aload X573.here hx rfl (hb hby at_72) rfl rfl k) ?_
      obtain ⟨cq581, kq581, qa581, qb581, qc581⟩ := isOf hZ rfl Ex573
      obtain ⟨_, _, ⟨T581, L581, k581, n581⟩, -, X581, ⟨Lc581, hQ581, l581, y581, z581⟩, st581⟩ := X573.virtualBack hx (y := own_y9) (z := own_y9) hown (mvT hZ w_20) (mvT hZ w_21) (notFace_of_selects (args := #[]) (mvT hZ w_23)) (mvT hZ w_23) (mvT hZ w_22) (by decide) (backOf (W := 0) (own_kone l Z a0 hw [] a25 a4 ar38 (1 : Int32) (3 : Int32) (2 : Int32) [(.ref a1), .null, .null] [(.ref a1), (.ref a4), .null] T573.heap n0 Ex573 gk573 gc573 gv573 F574 gn25 gn_ar38 ne_ar38_a25 (own_lenL (n := 3) rfl (by decide)) (by decide) (by decide) (Nat.lt_of_lt_of_eq (by decide : _ < 3) rfl) (by decide) (Ins.of_exa (own_Bn_exa F580 (List.mem_of_getElem? (i := 1) rfl)) w_40) rfl) hZ w_24 w_9 (by decide) (by decide)) qa581 qc581 (g := (mkF m 74 #[iv p0, iv p1, iv p2, iv (3 : Int32), iv (4 : Int32), rv a1, rv a4, rv a9, rv a16, rv a25, .unset, .unset, .unset, .unset, .unset] [(.ref a4), (.ref a25)])) rfl (by rw [hml]; rfl) (Steps.refl _) (argsL := [(.ref a4)]) (rest := []) (lenOf own_pd8 rfl) rfl (by show 2 * 0 + _ ≤ _; exact own_b rfl) (hb hby at_74) (fun _ _ => ⟨rfl, rfl, (own_b rfl : 6 + 0 ≤ _), (own_b rfl : 9 + 0 ≤ _)⟩)
      dsimp only [Pt.U, Pt.locs, Pt.cells, Pt.slots] at X581 l581 y581 z581 st581 hQ581
      obtain ⟨rfl, Nq581, K581, Ex581, gk581, gc581, gv581⟩ := hQ581
      obtain ⟨L581, X581, N581⟩ := own_absC (K := 6) (K' := 9) X581 l581 y581 z581 N573 Nq581
      have F582 : n0 ≤ T581.heap.size := Nat.le_trans F574 K581.1
      have F583 := Keep.trans F575 K581 (allS (Or.inr (Nat.le_trans F18.1 (Nat.le_of_eq ga25.symm))) (allS (Or.inr (Nat.le_trans K27.1 gz38)) all0))
      have F584 := Exa.keep Ex573 K581
      have F585 := own_Bn_keep F580 K581 hbq
      refine own_tr (B := (T581.setTop (mkF m 77 #[iv p0, iv p1, iv p2, iv (3 : Int32), iv (4 : Int32), rv a1, rv a4, rv a9, rv a16, rv a25, .unset, .unset, .unset, .unset, .unset] []))) st581 ?_
      refine own_go (B := (T581.setTop (mkF m 79 #[iv p0, iv p1, iv p2, iv (3 : Int32), iv (4 : Int32), rv a1, rv a4, rv a9, rv a16, rv a25, .unset, .unset, .unset, .unset, .unset] [(.int (4 : Int32))]))) (fun t k => XS.iload X581.here hx rfl (hb hby at_77) rfl k) ?_
      refine own_go (B := (T581.setTop (mkF m 80 #[iv p0, iv p1, iv p2, iv (3 : Int32), iv (4 : Int32), rv a1, rv a4, rv a9, rv a16, rv a25, .unset, .unset, .unset, .unset, .unset] [(.int (2 : Int32)), (.int (4 : Int32))]))) (fun t k => own_iconst (v := (2 : Int32)) X581.here hx rfl (hb hby at_79) (by decide) k) ?_
      have hc80 : (2 : Int32) < (4 : Int32) := (by decide)
      refine own_icmpN X581 hx (hb hby at_80) (pn := 83) rfl hc80 ?_
      refine own_go (B := (T581.setTop (mkF m 85 #[iv p0, iv p1, iv p2, iv (3 : Int32), iv (4 : Int32), rv a1, rv a4, rv a9, rv a16, rv a25, .unset, .unset, .unset, .unset, .unset] [(.ref a25)]))) (fun t k => XS.aload X581.here hx rfl (hb hby at_83) rfl rfl k) ?_
      refine own_go (B := (T581.setTop (mkF m 87 #[iv p0, iv p1, iv p2, iv (3 : Int32), iv (4 : Int32), rv a1, rv a4, rv a9, rv a16, rv a25, .unset, .unset, .unset, .unset, .unset] [(.ref a9), (.ref a25)]))) (fun t k => XS.aload X581.here hx rfl (hb hby at_85) rfl rfl k) ?_
      obtain ⟨cq589, kq589, qa589, qb589, qc589⟩ := isOf hZ rfl Ex581
      obtain ⟨_, _, ⟨T589, L589, k589, n589⟩, -, X589, ⟨Lc589, hQ589, l589, y589, z589⟩, st589⟩ := X581.virtualBack hx (y := own_y9) (z := own_y9) hown (mvT hZ w_20) (mvT hZ w_21) (notFace_of_selects (args := #[]) (mvT hZ w_23)) (mvT hZ w_23) (mvT hZ w_22) (by decide) (backOf (W := 0) (own_kone l Z a0 hw [] a25 a9 ar38 (2 : Int32) (3 : Int32) (3 : Int32) [(.ref a1), (.ref a4), .null] [(.ref a1), (.ref a4), (.ref a9)] T581.heap n0 Ex581 gk581 gc581 gv581 F582 gn25 gn_ar38 ne_ar38_a25 (own_lenL (n := 3) rfl (by decide)) (by decide) (by decide) (Nat.lt_of_lt_of_eq (by decide : _ < 3) rfl) (by decide) (Ins.of_exa (own_Bn_exa F585 (List.mem_of_getElem? (i := 2) rfl)) w_40) rfl) hZ w_24 w_9 (by decide) (by decide)) qa589 qc589 (g := (mkF m 87 #[iv p0, iv p1, iv p2, iv (3 : Int32), iv (4 : Int32), rv a1, rv a4, rv a9, rv a16, rv a25, .unset, .unset, .unset, .unset, .unset] [(.ref a9), (.ref a25)])) rfl (by rw [hml]; rfl) (Steps.refl _) (argsL := [(.ref a9)]) (rest := []) (lenOf own_pd8 rfl) rfl (by show 2 * 0 + _ ≤ _; exact own_b rfl) (hb hby at_87) (fun _ _ => ⟨rfl, rfl, (own_b rfl : 6 + 0 ≤ _), (own_b rfl : 9 + 0 ≤ _)⟩)
      dsimp only [Pt.U, Pt.locs, Pt.cells, Pt.slots] at X589 l589 y589 z589 st589 hQ589
      obtain ⟨rfl, Nq589, K589, Ex589, gk589, gc589, gv589⟩ := hQ589
      obtain ⟨L589, X589, N589⟩ := own_absC (K := 6) (K' := 9) X589 l589 y589 z589 N581 Nq589
      have F590 : n0 ≤ T589.heap.size := Nat.le_trans F582 K589.1
      have F591 := Keep.trans F583 K589 (allS (Or.inr (Nat.le_trans F18.1 (Nat.le_of_eq ga25.symm))) (allS (Or.inr (Nat.le_trans K27.1 gz38)) all0))
      have F592 := Exa.keep Ex581 K589
      have F593 := own_Bn_keep F585 K589 hbq
      refine own_tr (B := (T589.setTop (mkF m 90 #[iv p0, iv p1, iv p2, iv (3 : Int32), iv (4 : Int32), rv a1, rv a4, rv a9, rv a16, rv a25, .unset, .unset, .unset, .unset, .unset] []))) st589 ?_
      refine own_go (B := (T589.setTop (mkF m 92 #[iv p0, iv p1, iv p2, iv (3 : Int32), iv (4 : Int32), rv a1, rv a4, rv a9, rv a16, rv a25, .unset, .unset, .unset, .unset, .unset] [(.int (4 : Int32))]))) (fun t k => XS.iload X589.here hx rfl (hb hby at_90) rfl k) ?_
      refine own_go (B := (T589.setTop (mkF m 93 #[iv p0, iv p1, iv p2, iv (3 : Int32), iv (4 : Int32), rv a1, rv a4, rv a9, rv a16, rv a25, .unset, .unset, .unset, .unset, .unset] [(.int (3 : Int32)), (.int (4 : Int32))]))) (fun t k => own_iconst (v := (3 : Int32)) X589.here hx rfl (hb hby at_92) (by decide) k) ?_
      have hc93 : (3 : Int32) < (4 : Int32) := (by decide)
      refine own_icmpN X589 hx (hb hby at_93) (pn := 96) rfl hc93 ?_
      refine own_go (B := (T589.setTop (mkF m 98 #[iv p0, iv p1, iv p2, iv (3 : Int32), iv (4 : Int32), rv a1, rv a4, rv a9, rv a16, rv a25, .unset, .unset, .unset, .unset, .unset] [(.ref a25)]))) (fun t k => XS.aload X589.here hx rfl (hb hby at_96) rfl rfl k) ?_
      refine own_go (B := (T589.setTop (mkF m 100 #[iv p0, iv p1, iv p2, iv (3 : Int32), iv (4 : Int32), rv a1, rv a4, rv a9, rv a16, rv a25, .unset, .unset, .unset, .unset, .unset] [(.ref a16), (.ref a25)]))) (fun t k => XS.aload X589.here hx rfl (hb hby at_98) rfl rfl k) ?_
      obtain ⟨cq597, kq597, qa597, qb597, qc597⟩ := isOf hZ rfl Ex589
      obtain ⟨_, _, ⟨T597, L597, k597, n597⟩, -, X597, ⟨Lc597, hQ597, l597, y597, z597⟩, st597⟩ := X589.virtualBack hx (y := own_y9) (z := own_y9) hown (mvT hZ w_20) (mvT hZ w_21) (notFace_of_selects (args := #[]) (mvT hZ w_23)) (mvT hZ w_23) (mvT hZ w_22) (by decide) (backOf (W := 0) (own_kfull l Z a0 hw [] a25 a16 ar38 (3 : Int32) (3 : Int32) [(.ref a1), (.ref a4), (.ref a9)] T589.heap n0 Ex589 gk589 gc589 gv589 (own_lenL (n := 3) rfl (by decide)) (by decide)) hZ w_24 w_9 (by decide) (by decide)) qa597 qc597 (g := (mkF m 100 #[iv p0, iv p1, iv p2, iv (3 : Int32), iv (4 : Int32), rv a1, rv a4, rv a9, rv a16, rv a25, .unset, .unset, .unset, .unset, .unset] [(.ref a16), (.ref a25)])) rfl (by rw [hml]; rfl) (Steps.refl _) (argsL := [(.ref a16)]) (rest := []) (lenOf own_pd8 rfl) rfl (by show 2 * 0 + _ ≤ _; exact own_b rfl) (hb hby at_100) (fun _ _ => ⟨rfl, rfl, (own_b rfl : 6 + 0 ≤ _), (own_b rfl : 9 + 0 ≤ _)⟩)
      dsimp only [Pt.U, Pt.locs, Pt.cells, Pt.slots] at X597 l597 y597 z597 st597 hQ597
      obtain ⟨rfl, Nq597, eq597⟩ := hQ597
      obtain ⟨L597, X597, N597⟩ := own_absC (K := 6) (K' := 9) X597 l597 y597 z597 N589 Nq597
      have e597 : T597.heap = T589.heap := eq597
      refine own_tr (B := (T597.setTop (mkF m 103 #[iv p0, iv p1, iv p2, iv (3 : Int32), iv (4 : Int32), rv a1, rv a4, rv a9, rv a16, rv a25, .unset, .unset, .unset, .unset, .unset] []))) st597 ?_
      refine own_go (B := (T597.setTop (mkF m 105 #[iv p0, iv p1, iv p2, iv (3 : Int32), iv (4 : Int32), rv a1, rv a4, rv a9, rv a16, rv a25, .unset, .unset, .unset, .unset, .unset] [(.int (4 : Int32))]))) (fun t k => XS.iload X597.here hx rfl (hb hby at_103) rfl k) ?_
      refine own_go (B := (T597.setTop (mkF m 106 #[iv p0, iv p1, iv p2, iv (3 : Int32), iv (4 : Int32), rv a1, rv a4, rv a9, rv a16, rv a25, .unset, .unset, .unset, .unset, .unset] [(.int (3 : Int32)), (.int (4 : Int32))]))) (fun t k => XS.iloadN X597.here hx rfl (hb hby at_105) rfl k) ?_
      obtain ⟨_, _, ⟨T598, L598, k598, n598⟩, -, X598, ⟨Lc598, hQ598, l598, y598, z598⟩, st598⟩ := Jvm.LawKit.callS X597 hx (y := own_y6) hown (mvT hZ w_27) (mvT hZ w_28) (mvT hZ w_29) (mvT hZ w_30) (by decide) (backOf (W := 0) (own_mmin l Z a0 hw [] (4 : Int32) (3 : Int32) T589.heap n0) hZ w_30 w_29 (by decide) (by decide)) (g := (mkF m 106 #[iv p0, iv p1, iv p2, iv (3 : Int32), iv (4 : Int32), rv a1, rv a4, rv a9, rv a16, rv a25, .unset, .unset, .unset, .unset, .unset] [(.int (3 : Int32)), (.int (4 : Int32))])) rfl (by rw [hml]; rfl) (argsL := [(.int (4 : Int32)), (.int (3 : Int32))]) (rest := []) (lenOf own_pd5 rfl) rfl (by show 2 * 0 + _ ≤ _; exact own_b rfl) (hb hby at_106) (fun _ _ => ⟨rfl, e597, (own_b rfl : 6 + 0 ≤ _), (own_b rfl : 9 + 0 ≤ _)⟩)
      dsimp only [Pt.U, Pt.locs, Pt.cells, Pt.slots] at X598 l598 y598 z598 st598 hQ598
      obtain ⟨rfl, Nq598, eq598⟩ := hQ598
      obtain ⟨L598, X598, N598⟩ := own_absC (K := 6) (K' := 9) X598 l598 y598 z598 N597 Nq598
      have e598 : T598.heap = T589.heap := eq598
      refine own_go (B := (T598.setTop (mkF m 109 #[iv p0, iv p1, iv p2, iv (3 : Int32), iv (4 : Int32), rv a1, rv a4, rv a9, rv a16, rv a25, .unset, .unset, .unset, .unset, .unset] [(.int (own_min (4 : Int32) (3 : Int32)))]))) st598 ?_
      rw [show own_min (4 : Int32) (3 : Int32) = (3 : Int32) from by decide]
      refine own_go (B := (T598.setTop (mkF m 111 #[iv p0, iv p1, iv p2, iv (3 : Int32), iv (4 : Int32), rv a1, rv a4, rv a9, rv a16, rv a25, iv (3 : Int32), .unset, .unset, .unset, .unset] []))) (fun t k => XS.istore X598.here hx rfl (hb hby at_109) rfl (l' := #[iv p0, iv p1, iv p2, iv (3 : Int32), iv (4 : Int32), rv a1, rv a4, rv a9, rv a16, rv a25, iv (3 : Int32), .unset, .unset, .unset, .unset]) rfl k) ?_
      refine own_go (B := (T598.setTop (mkF m 113 #[iv p0, iv p1, iv p2, iv (3 : Int32), iv (4 : Int32), rv a1, rv a4, rv a9, rv a16, rv a25, iv (3 : Int32), .unset, .unset, .unset, .unset] [(.ref a25)]))) (fun t k => XS.aload X598.here hx rfl (hb hby at_111) rfl rfl k) ?_
      obtain ⟨cq599, kq599, qa599, qb599, qc599⟩ := isOf hZ e598 Ex589
      obtain ⟨_, _, ⟨T599, L599, k599, n599⟩, -, X599, ⟨Lc599, hQ599, l599, y599, z599⟩, st599⟩ := X598.virtualBack hx (y := own_y7) (z := own_y7) hown (mvT hZ w_31) (mvT hZ w_32) (notFace_of_selects (args := #[]) (mvT hZ w_34)) (mvT hZ w_34) (mvT hZ w_33) (by decide) (backOf (W := 0) (own_tone l Z a0 hw [] a25 ar38 a9 (3 : Int32) (2 : Int32) [(.ref a1), (.ref a4), (.ref a9)] [(.ref a1), (.ref a4), .null] T589.heap n0 Ex589 gk589 gc589 gv589 F590 gn25 gn_ar38 ne_ar38_a25 (by decide) (by decide) (by decide) rfl rfl) hZ w_35 w_9 (by decide) (by decide)) qa599 qc599 (g := (mkF m 113 #[iv p0, iv p1, iv p2, iv (3 : Int32), iv (4 : Int32), rv a1, rv a4, rv a9, rv a16, rv a25, iv (3 : Int32), .unset, .unset, .unset, .unset] [(.ref a25)])) rfl (by rw [hml]; rfl) (Steps.refl _) (argsL := []) (rest := []) (lenOf own_pd6 rfl) rfl (by show 2 * 0 + _ ≤ _; exact own_b rfl) (hb hby at_113) (fun _ _ => ⟨rfl, e598, (own_b rfl : 6 + 0 ≤ _), (own_b rfl : 9 + 0 ≤ _)⟩)
      dsimp only [Pt.U, Pt.locs, Pt.cells, Pt.slots] at X599 l599 y599 z599 st599 hQ599
      obtain ⟨rfl, Nq599, K599, Ex599, gk599, gc599, gv599⟩ := hQ599
      obtain ⟨L599, X599, N599⟩ := own_absC (K := 6) (K' := 9) X599 l599 y599 z599 N598 Nq599
      have F600 : n0 ≤ T599.heap.size := Nat.le_trans F590 K599.1
      have F601 := Keep.trans F591 K599 (allS (Or.inr (Nat.le_trans F18.1 (Nat.le_of_eq ga25.symm))) (allS (Or.inr (Nat.le_trans K27.1 gz38)) all0))
      have F602 := Exa.keep Ex589 K599
      have F603 := own_Bn_keep F593 K599 hbq
      refine own_tr (B := (T599.setTop (mkF m 116 #[iv p0, iv p1, iv p2, iv (3 : Int32), iv (4 : Int32), rv a1, rv a4, rv a9, rv a16, rv a25, iv (3 : Int32), .unset, .unset, .unset, .unset] [(.ref a9)]))) st599 ?_
      obtain ⟨T607, X607, e607, st607⟩ := castY X599 hx hZ hown w_41 rfl (Ins.of_exa (own_Bn_exa F603 (List.mem_of_getElem? (i := 2) rfl)) w_42) (g := (mkF m 116 #[iv p0, iv p1, iv p2, iv (3 : Int32), iv (4 : Int32), rv a1, rv a4, rv a9, rv a16, rv a25, iv (3 : Int32), .unset, .unset, .unset, .unset] [(.ref a9)])) rfl rfl (hb hby at_116)
      refine own_go (B := (T607.setTop (mkF m 119 #[iv p0, iv p1, iv p2, iv (3 : Int32), iv (4 : Int32), rv a1, rv a4, rv a9, rv a16, rv a25, iv (3 : Int32), .unset, .unset, .unset, .unset] [(.ref a9)]))) st607 ?_
      refine own_go (B := (T607.setTop (mkF m 121 #[iv p0, iv p1, iv p2, iv (3 : Int32), iv (4 : Int32), rv a1, rv a4, rv a9, rv a16, rv a25, iv (3 : Int32), rv a9, .unset, .unset, .unset] []))) (fun t k => XS.astore X607.here hx rfl (hb hby at_119) rfl rfl (l' := #[iv p0, iv p1, iv p2, iv (3 : Int32), iv (4 : Int32), rv a1, rv a4, rv a9, rv a16, rv a25, iv (3 : Int32), rv a9, .unset, .unset, .unset]) rfl k) ?_
      refine own_go (B := (T607.setTop (mkF m 123 #[iv p0, iv p1, iv p2, iv (3 : Int32), iv (4 : Int32), rv a1, rv a4, rv a9, rv a16, rv a25, iv (3 : Int32), rv a9, .unset, .unset, .unset] [(.ref a25)]))) (fun t k => XS.aload X607.here hx rfl (hb hby at_121) rfl rfl k) ?_
      obtain ⟨cq608, kq608, qa608, qb608, qc608⟩ := isOf hZ e607 Ex599
      obtain ⟨_, _, ⟨T608, L608, k608, n608⟩, -, X608, ⟨Lc608, hQ608, l608, y608, z608⟩, st608⟩ := X607.virtualBack hx (y := own_y7) (z := own_y7) hown (mvT hZ w_31) (mvT hZ w_32) (notFace_of_selects (args := #[]) (mvT hZ w_34)) (mvT hZ w_34) (mvT hZ w_33) (by decide) (backOf (W := 0) (own_tone l Z a0 hw [] a25 ar38 a4 (2 : Int32) (1 : Int32) [(.ref a1), (.ref a4), .null] [(.ref a1), .null, .null] T599.heap n0 Ex599 gk599 gc599 gv599 F600 gn25 gn_ar38 ne_ar38_a25 (by decide) (by decide) (by decide) rfl rfl) hZ w_35 w_9 (by decide) (by decide)) qa608 qc608 (g := (mkF m 123 #[iv p0, iv p1, iv p2, iv (3 : Int32), iv (4 : Int32), rv a1, rv a4, rv a9, rv a16, rv a25, iv (3 : Int32), rv a9, .unset, .unset, .unset] [(.ref a25)])) rfl (by rw [hml]; rfl) (Steps.refl _) (argsL := []) (rest := []) (lenOf own_pd6 rfl) rfl (by show 2 * 0 + _ ≤ _; exact own_b rfl) (hb hby at_123) (fun _ _ => ⟨rfl, e607, (own_b rfl : 6 + 0 ≤ _), (own_b rfl : 9 + 0 ≤ _)⟩)
      dsimp only [Pt.U, Pt.locs, Pt.cells, Pt.slots] at X608 l608 y608 z608 st608 hQ608
      obtain ⟨rfl, Nq608, K608, Ex608, gk608, gc608, gv608⟩ := hQ608
      obtain ⟨L608, X608, N608⟩ := own_absC (K := 6) (K' := 9) X608 l608 y608 z608 N599 Nq608
      have F609 : n0 ≤ T608.heap.size := Nat.le_trans F600 K608.1
      have F610 := Keep.trans F601 K608 (allS (Or.inr (Nat.le_trans F18.1 (Nat.le_of_eq ga25.symm))) (allS (Or.inr (Nat.le_trans K27.1 gz38)) all0))
      have F611 := Exa.keep Ex599 K608
      have F612 := own_Bn_keep F603 K608 hbq
      refine own_tr (B := (T608.setTop (mkF m 126 #[iv p0, iv p1, iv p2, iv (3 : Int32), iv (4 : Int32), rv a1, rv a4, rv a9, rv a16, rv a25, iv (3 : Int32), rv a9, .unset, .unset, .unset] [(.ref a4)]))) st608 ?_
      obtain ⟨T616, X616, e616, st616⟩ := castY X608 hx hZ hown w_41 rfl (Ins.of_exa (own_Bn_exa F612 (List.mem_of_getElem? (i := 1) rfl)) w_42) (g := (mkF m 126 #[iv p0, iv p1, iv p2, iv (3 : Int32), iv (4 : Int32), rv a1, rv a4, rv a9, rv a16, rv a25, iv (3 : Int32), rv a9, .unset, .unset, .unset] [(.ref a4)])) rfl rfl (hb hby at_126)
      refine own_go (B := (T616.setTop (mkF m 129 #[iv p0, iv p1, iv p2, iv (3 : Int32), iv (4 : Int32), rv a1, rv a4, rv a9, rv a16, rv a25, iv (3 : Int32), rv a9, .unset, .unset, .unset] [(.ref a4)]))) st616 ?_
      refine own_go (B := (T616.setTop (mkF m 131 #[iv p0, iv p1, iv p2, iv (3 : Int32), iv (4 : Int32), rv a1, rv a4, rv a9, rv a16, rv a25, iv (3 : Int32), rv a9, rv a4, .unset, .unset] []))) (fun t k => XS.astore X616.here hx rfl (hb hby at_129) rfl rfl (l' := #[iv p0, iv p1, iv p2, iv (3 : Int32), iv (4 : Int32), rv a1, rv a4, rv a9, rv a16, rv a25, iv (3 : Int32), rv a9, rv a4, .unset, .unset]) rfl k) ?_
      refine own_go (B := (T616.setTop (mkF m 133 #[iv p0, iv p1, iv p2, iv (3 : Int32), iv (4 : Int32), rv a1, rv a4, rv a9, rv a16, rv a25, iv (3 : Int32), rv a9, rv a4, .unset, .unset] [(.ref a25)]))) (fun t k => XS.aload X616.here hx rfl (hb hby at_131) rfl rfl k) ?_
      obtain ⟨cq617, kq617, qa617, qb617, qc617⟩ := isOf hZ e616 Ex608
      obtain ⟨_, _, ⟨T617, L617, k617, n617⟩, -, X617, ⟨Lc617, hQ617, l617, y617, z617⟩, st617⟩ := X616.virtualBack hx (y := own_y7) (z := own_y7) hown (mvT hZ w_31) (mvT hZ w_32) (notFace_of_selects (args := #[]) (mvT hZ w_34)) (mvT hZ w_34) (mvT hZ w_33) (by decide) (backOf (W := 0) (own_tone l Z a0 hw [] a25 ar38 a1 (1 : Int32) (0 : Int32) [(.ref a1), .null, .null] [.null, .null, .null] T608.heap n0 Ex608 gk608 gc608 gv608 F609 gn25 gn_ar38 ne_ar38_a25 (by decide) (by decide) (by decide) rfl rfl) hZ w_35 w_9 (by decide) (by decide)) qa617 qc617 (g := (mkF m 133 #[iv p0, iv p1, iv p2, iv (3 : Int32), iv (4 : Int32), rv a1, rv a4, rv a9, rv a16, rv a25, iv (3 : Int32), rv a9, rv a4, .unset, .unset] [(.ref a25)])) rfl (by rw [hml]; rfl) (Steps.refl _) (argsL := []) (rest := []) (lenOf own_pd6 rfl) rfl (by show 2 * 0 + _ ≤ _; exact own_b rfl) (hb hby at_133) (fun _ _ => ⟨rfl, e616, (own_b rfl : 6 + 0 ≤ _), (own_b rfl : 9 + 0 ≤ _)⟩)
      dsimp only [Pt.U, Pt.locs, Pt.cells, Pt.slots] at X617 l617 y617 z617 st617 hQ617
      obtain ⟨rfl, Nq617, K617, Ex617, gk617, gc617, gv617⟩ := hQ617
      obtain ⟨L617, X617, N617⟩ := own_absC (K := 6) (K' := 9) X617 l617 y617 z617 N608 Nq617
      have F618 : n0 ≤ T617.heap.size := Nat.le_trans F609 K617.1
      have F619 := Keep.trans F610 K617 (allS (Or.inr (Nat.le_trans F18.1 (Nat.le_of_eq ga25.symm))) (allS (Or.inr (Nat.le_trans K27.1 gz38)) all0))
      have F620 := Exa.keep Ex608 K617
      have F621 := own_Bn_keep F612 K617 hbq
      refine own_tr (B := (T617.setTop (mkF m 136 #[iv p0, iv p1, iv p2, iv (3 : Int32), iv (4 : Int32), rv a1, rv a4, rv a9, rv a16, rv a25, iv (3 : Int32), rv a9, rv a4, .unset, .unset] [(.ref a1)]))) st617 ?_
      obtain ⟨T625, X625, e625, st625⟩ := castY X617 hx hZ hown w_41 rfl (Ins.of_exa (own_Bn_exa F621 (List.mem_of_getElem? (i := 0) rfl)) w_42) (g := (mkF m 136 #[iv p0, iv p1, iv p2, iv (3 : Int32), iv (4 : Int32), rv a1, rv a4, rv a9, rv a16, rv a25, iv (3 : Int32), rv a9, rv a4, .unset, .unset] [(.ref a1)])) rfl rfl (hb hby at_136)
      refine own_go (B := (T625.setTop (mkF m 139 #[iv p0, iv p1, iv p2, iv (3 : Int32), iv (4 : Int32), rv a1, rv a4, rv a9, rv a16, rv a25, iv (3 : Int32), rv a9, rv a4, .unset, .unset] [(.ref a1)]))) st625 ?_
      refine own_go (B := (T625.setTop (mkF m 141 #[iv p0, iv p1, iv p2, iv (3 : Int32), iv (4 : Int32), rv a1, rv a4, rv a9, rv a16, rv a25, iv (3 : Int32), rv a9, rv a4, rv a1, .unset] []))) (fun t k => XS.astore X625.here hx rfl (hb hby at_139) rfl rfl (l' := #[iv p0, iv p1, iv p2, iv (3 : Int32), iv (4 : Int32), rv a1, rv a4, rv a9, rv a16, rv a25, iv (3 : Int32), rv a9, rv a4, rv a1, .unset]) rfl k) ?_
      refine own_go (B := (T625.setTop (mkF m 143 #[iv p0, iv p1, iv p2, iv (3 : Int32), iv (4 : Int32), rv a1, rv a4, rv a9, rv a16, rv a25, iv (3 : Int32), rv a9, rv a4, rv a1, .unset] [(.ref a25)]))) (fun t k => XS.aload X625.here hx rfl (hb hby at_141) rfl rfl k) ?_
      obtain ⟨cq626, kq626, qa626, qb626, qc626⟩ := isOf hZ e625 Ex617
      obtain ⟨_, _, ⟨T626, L626, k626, n626⟩, -, X626, ⟨Lc626, hQ626, l626, y626, z626⟩, st626⟩ := X625.virtualBack hx (y := own_y7) (z := own_y7) hown (mvT hZ w_31) (mvT hZ w_32) (notFace_of_selects (args := #[]) (mvT hZ w_34)) (mvT hZ w_34) (mvT hZ w_33) (by decide) (backOf (W := 0) (own_tnone l Z a0 hw [] a25 T617.heap n0 gc617) hZ w_35 w_9 (by decide) (by decide)) qa626 qc626 (g := (mkF m 143 #[iv p0, iv p1, iv p2, iv (3 : Int32), iv (4 : Int32), rv a1, rv a4, rv a9, rv a16, rv a25, iv (3 : Int32), rv a9, rv a4, rv a1, .unset] [(.ref a25)])) rfl (by rw [hml]; rfl) (Steps.refl _) (argsL := []) (rest := []) (lenOf own_pd6 rfl) rfl (by show 2 * 0 + _ ≤ _; exact own_b rfl) (hb hby at_143) (fun _ _ => ⟨rfl, e625, (own_b rfl : 6 + 0 ≤ _), (own_b rfl : 9 + 0 ≤ _)⟩)
      dsimp only [Pt.U, Pt.locs, Pt.cells, Pt.slots] at X626 l626 y626 z626 st626 hQ626
      obtain ⟨rfl, Nq626, eq626⟩ := hQ626
      obtain ⟨L626, X626, N626⟩ := own_absC (K := 6) (K' := 9) X626 l626 y626 z626 N617 Nq626
      have e626 : T626.heap = T617.heap := eq626
      refine own_tr (B := (T626.setTop (mkF m 146 #[iv p0, iv p1, iv p2, iv (3 : Int32), iv (4 : Int32), rv a1, rv a4, rv a9, rv a16, rv a25, iv (3 : Int32), rv a9, rv a4, rv a1, .unset] [.null]))) st626 ?_
      refine own_go (B := (T626.setTop (mkF m 149 #[iv p0, iv p1, iv p2, iv (3 : Int32), iv (4 : Int32), rv a1, rv a4, rv a9, rv a16, rv a25, iv (3 : Int32), rv a9, rv a4, rv a1, .unset] [.null]))) (X626.checkcastNull hx (g := (mkF m 146 #[iv p0, iv p1, iv p2, iv (3 : Int32), iv (4 : Int32), rv a1, rv a4, rv a9, rv a16, rv a25, iv (3 : Int32), rv a9, rv a4, rv a1, .unset] [.null])) rfl rfl (hb hby at_146)) ?_
      refine own_go (B := (T626.setTop (mkF m 151 #[iv p0, iv p1, iv p2, iv (3 : Int32), iv (4 : Int32), rv a1, rv a4, rv a9, rv a16, rv a25, iv (3 : Int32), rv a9, rv a4, rv a1, .val .null] []))) (fun t k => XS.astore X626.here hx rfl (hb hby at_149) rfl rfl (l' := #[iv p0, iv p1, iv p2, iv (3 : Int32), iv (4 : Int32), rv a1, rv a4, rv a9, rv a16, rv a25, iv (3 : Int32), rv a9, rv a4, rv a1, .val .null]) rfl k) ?_
      refine own_go (B := (T626.setTop (mkF m 153 #[iv p0, iv p1, iv p2, iv (3 : Int32), iv (4 : Int32), rv a1, rv a4, rv a9, rv a16, rv a25, iv (3 : Int32), rv a9, rv a4, rv a1, .val .null] [(.ref a9)]))) (fun t k => XS.aload X626.here hx rfl (hb hby at_151) rfl rfl k) ?_
      refine own_go (B := (T626.setTop (mkF m 155 #[iv p0, iv p1, iv p2, iv (3 : Int32), iv (4 : Int32), rv a1, rv a4, rv a9, rv a16, rv a25, iv (3 : Int32), rv a9, rv a4, rv a1, .val .null] [(.int (3 : Int32)), (.ref a9)]))) (fun t k => XS.iload X626.here hx rfl (hb hby at_153) rfl k) ?_
      refine own_go (B := (T626.setTop (mkF m 156 #[iv p0, iv p1, iv p2, iv (3 : Int32), iv (4 : Int32), rv a1, rv a4, rv a9, rv a16, rv a25, iv (3 : Int32), rv a9, rv a4, rv a1, .val .null] [(.int (0 : Int32)), (.int (3 : Int32)), (.ref a9)]))) (fun t k => own_iconst (v := (0 : Int32)) X626.here hx rfl (hb hby at_155) (by decide) k) ?_
      refine own_go (B := (T626.setTop (mkF m 157 #[iv p0, iv p1, iv p2, iv (3 : Int32), iv (4 : Int32), rv a1, rv a4, rv a9, rv a16, rv a25, iv (3 : Int32), rv a9, rv a4, rv a1, .val .null] [(.int p2), (.int (0 : Int32)), (.int (3 : Int32)), (.ref a9)]))) (fun t k => XS.iloadN X626.here hx rfl (hb hby at_156) rfl k) ?_
      obtain ⟨_, _, ⟨T628, L628, k628, n628⟩, -, X628, ⟨Lc628, hQ628, l628, y628, z628⟩, st628⟩ := Jvm.LawKit.callS X626 hx (y := own_y8) hown (mvT hZ w_36) (mvT hZ w_37) (mvT hZ w_38) (mvT hZ w_39) (by decide) (backOf (W := 0) (own_same1 l Z a0 hw [] a9 (3 : Int32) (0 : Int32) p2 (p2 + (2 : Int32)) T617.heap n0 (own_Bn_exa F621 (List.mem_of_getElem? (i := 2) rfl)) (own_Bn_fld F621 (List.mem_of_getElem? (i := 2) rfl)) (by decide) (own_vi (by decide))) hZ w_39 w_38 (by decide) (by decide)) (g := (mkF m 157 #[iv p0, iv p1, iv p2, iv (3 : Int32), iv (4 : Int32), rv a1, rv a4, rv a9, rv a16, rv a25, iv (3 : Int32), rv a9, rv a4, rv a1, .val .null] [(.int p2), (.int (0 : Int32)), (.int (3 : Int32)), (.ref a9)])) rfl (by rw [hml]; rfl) (argsL := [(.ref a9), (.int (3 : Int32)), (.int (0 : Int32)), (.int p2)]) (rest := []) (lenOf own_pd7 rfl) rfl (by show 2 * 0 + _ ≤ _; exact own_b rfl) (hb hby at_157) (fun _ _ => ⟨rfl, e626, (own_b rfl : 6 + 0 ≤ _), (own_b rfl : 9 + 0 ≤ _)⟩)
      dsimp only [Pt.U, Pt.locs, Pt.cells, Pt.slots] at X628 l628 y628 z628 st628 hQ628
      obtain ⟨rfl, Nq628, eq628⟩ := hQ628
      obtain ⟨L628, X628, N628⟩ := own_absC (K := 6) (K' := 9) X628 l628 y628 z628 N626 Nq628
      have e628 : T628.heap = T617.heap := eq628
      refine own_go (B := (T628.setTop (mkF m 160 #[iv p0, iv p1, iv p2, iv (3 : Int32), iv (4 : Int32), rv a1, rv a4, rv a9, rv a16, rv a25, iv (3 : Int32), rv a9, rv a4, rv a1, .val .null] [(.int (1 : Int32))]))) st628 ?_
      have hc160 : ¬ (1 : Int32) = (0 : Int32) := (by decide)
      refine own_ifN X628 hx (hb hby at_160) (pn := 163) rfl hc160 ?_
      refine own_go (B := (T628.setTop (mkF m 165 #[iv p0, iv p1, iv p2, iv (3 : Int32), iv (4 : Int32), rv a1, rv a4, rv a9, rv a16, rv a25, iv (3 : Int32), rv a9, rv a4, rv a1, .val .null] [(.ref a4)]))) (fun t k => XS.aload X628.here hx rfl (hb hby at_163) rfl rfl k) ?_
      refine own_go (B := (T628.setTop (mkF m 167 #[iv p0, iv p1, iv p2, iv (3 : Int32), iv (4 : Int32), rv a1, rv a4, rv a9, rv a16, rv a25, iv (3 : Int32), rv a9, rv a4, rv a1, .val .null] [(.int (3 : Int32)), (.ref a4)]))) (fun t k => XS.iload X628.here hx rfl (hb hby at_165) rfl k) ?_
      refine own_go (B := (T628.setTop (mkF m 168 #[iv p0, iv p1, iv p2, iv (3 : Int32), iv (4 : Int32), rv a1, rv a4, rv a9, rv a16, rv a25, iv (3 : Int32), rv a9, rv a4, rv a1, .val .null] [(.int (1 : Int32)), (.int (3 : Int32)), (.ref a4)]))) (fun t k => own_iconst (v := (1 : Int32)) X628.here hx rfl (hb hby at_167) (by decide) k) ?_
      refine own_go (B := (T628.setTop (mkF m 169 #[iv p0, iv p1, iv p2, iv (3 : Int32), iv (4 : Int32), rv a1, rv a4, rv a9, rv a16, rv a25, iv (3 : Int32), rv a9, rv a4, rv a1, .val .null] [(.int p2), (.int (1 : Int32)), (.int (3 : Int32)), (.ref a4)]))) (fun t k => XS.iloadN X628.here hx rfl (hb hby at_168) rfl k) ?_
      obtain ⟨_, _, ⟨T629, L629, k629, n629⟩, -, X629, ⟨Lc629, hQ629, l629, y629, z629⟩, st629⟩ := Jvm.LawKit.callS X628 hx (y := own_y8) hown (mvT hZ w_36) (mvT hZ w_37) (mvT hZ w_38) (mvT hZ w_39) (by decide) (backOf (W := 0) (own_same1 l Z a0 hw [] a4 (3 : Int32) (1 : Int32) p2 (p2 + (1 : Int32)) T617.heap n0 (own_Bn_exa F621 (List.mem_of_getElem? (i := 1) rfl)) (own_Bn_fld F621 (List.mem_of_getElem? (i := 1) rfl)) (by decide) (own_vi (by decide))) hZ w_39 w_38 (by decide) (by decide)) (g := (mkF m 169 #[iv p0, iv p1, iv p2, iv (3 : Int32), iv (4 : Int32), rv a1, rv a4, rv a9, rv a16, rv a25, iv (3 : Int32), rv a9, rv a4, rv a1, .val .null] [(.int p2), (.int (1 : Int32)), (.int (3 : Int32)), (.ref a4)])) rfl (by rw [hml]; rfl) (argsL := [(.ref a4), (.int (3 : Int32)), (.int (1 : Int32)), (.int p2)]) (rest := []) (lenOf own_pd7 rfl) rfl (by show 2 * 0 + _ ≤ _; exact own_b rfl) (hb hby at_169) (fun _ _ => ⟨rfl, e628, (own_b rfl : 6 + 0 ≤ _), (own_b rfl : 9 + 0 ≤ _)⟩)
      dsimp only [Pt.U, Pt.locs, Pt.cells, Pt.slots] at X629 l629 y629 z629 st629 hQ629
      obtain ⟨rfl, Nq629, eq629⟩ := hQ629
      obtain ⟨L629, X629, N629⟩ := own_absC (K := 6) (K' := 9) X629 l629 y629 z629 N628 Nq629
      have e629 : T629.heap = T617.heap := eq629
      refine own_go (B := (T629.setTop (mkF m 172 #[iv p0, iv p1, iv p2, iv (3 : Int32), iv (4 : Int32), rv a1, rv a4, rv a9, rv a16, rv a25, iv (3 : Int32), rv a9, rv a4, rv a1, .val .null] [(.int (1 : Int32))]))) st629 ?_
      have hc172 : ¬ (1 : Int32) = (0 : Int32) := (by decide)
      refine own_ifN X629 hx (hb hby at_172) (pn := 175) rfl hc172 ?_
      refine own_go (B := (T629.setTop (mkF m 177 #[iv p0, iv p1, iv p2, iv (3 : Int32), iv (4 : Int32), rv a1, rv a4, rv a9, rv a16, rv a25, iv (3 : Int32), rv a9, rv a4, rv a1, .val .null] [(.ref a1)]))) (fun t k => XS.aload X629.here hx rfl (hb hby at_175) rfl rfl k) ?_
      refine own_go (B := (T629.setTop (mkF m 179 #[iv p0, iv p1, iv p2, iv (3 : Int32), iv (4 : Int32), rv a1, rv a4, rv a9, rv a16, rv a25, iv (3 : Int32), rv a9, rv a4, rv a1, .val .null] [(.int (3 : Int32)), (.ref a1)]))) (fun t k => XS.iload X629.here hx rfl (hb hby at_177) rfl k) ?_
      refine own_go (B := (T629.setTop (mkF m 180 #[iv p0, iv p1, iv p2, iv (3 : Int32), iv (4 : Int32), rv a1, rv a4, rv a9, rv a16, rv a25, iv (3 : Int32), rv a9, rv a4, rv a1, .val .null] [(.int (2 : Int32)), (.int (3 : Int32)), (.ref a1)]))) (fun t k => own_iconst (v := (2 : Int32)) X629.here hx rfl (hb hby at_179) (by decide) k) ?_
      refine own_go (B := (T629.setTop (mkF m 181 #[iv p0, iv p1, iv p2, iv (3 : Int32), iv (4 : Int32), rv a1, rv a4, rv a9, rv a16, rv a25, iv (3 : Int32), rv a9, rv a4, rv a1, .val .null] [(.int p2), (.int (2 : Int32)), (.int (3 : Int32)), (.ref a1)]))) (fun t k => XS.iloadN X629.here hx rfl (hb hby at_180) rfl k) ?_
      obtain ⟨_, _, ⟨T630, L630, k630, n630⟩, -, X630, ⟨Lc630, hQ630, l630, y630, z630⟩, st630⟩ := Jvm.LawKit.callS X629 hx (y := own_y8) hown (mvT hZ w_36) (mvT hZ w_37) (mvT hZ w_38) (mvT hZ w_39) (by decide) (backOf (W := 0) (own_same1 l Z a0 hw [] a1 (3 : Int32) (2 : Int32) p2 p2 T617.heap n0 (own_Bn_exa F621 (List.mem_of_getElem? (i := 0) rfl)) (own_Bn_fld F621 (List.mem_of_getElem? (i := 0) rfl)) (by decide) (own_v0 (by decide))) hZ w_39 w_38 (by decide) (by decide)) (g := (mkF m 181 #[iv p0, iv p1, iv p2, iv (3 : Int32), iv (4 : Int32), rv a1, rv a4, rv a9, rv a16, rv a25, iv (3 : Int32), rv a9, rv a4, rv a1, .val .null] [(.int p2), (.int (2 : Int32)), (.int (3 : Int32)), (.ref a1)])) rfl (by rw [hml]; rfl) (argsL := [(.ref a1), (.int (3 : Int32)), (.int (2 : Int32)), (.int p2)]) (rest := []) (lenOf own_pd7 rfl) rfl (by show 2 * 0 + _ ≤ _; exact own_b rfl) (hb hby at_181) (fun _ _ => ⟨rfl, e629, (own_b rfl : 6 + 0 ≤ _), (own_b rfl : 9 + 0 ≤ _)⟩)
      dsimp only [Pt.U, Pt.locs, Pt.cells, Pt.slots] at X630 l630 y630 z630 st630 hQ630
      obtain ⟨rfl, Nq630, eq630⟩ := hQ630
      obtain ⟨L630, X630, N630⟩ := own_absC (K := 6) (K' := 9) X630 l630 y630 z630 N629 Nq630
      have e630 : T630.heap = T617.heap := eq630
      refine own_go (B := (T630.setTop (mkF m 184 #[iv p0, iv p1, iv p2, iv (3 : Int32), iv (4 : Int32), rv a1, rv a4, rv a9, rv a16, rv a25, iv (3 : Int32), rv a9, rv a4, rv a1, .val .null] [(.int (1 : Int32))]))) st630 ?_
      have hc184 : ¬ (1 : Int32) = (0 : Int32) := (by decide)
      refine own_ifN X630 hx (hb hby at_184) (pn := 187) rfl hc184 ?_
      refine own_go (B := (T630.setTop (mkF m 189 #[iv p0, iv p1, iv p2, iv (3 : Int32), iv (4 : Int32), rv a1, rv a4, rv a9, rv a16, rv a25, iv (3 : Int32), rv a9, rv a4, rv a1, .val .null] [.null]))) (fun t k => XS.aload X630.here hx rfl (hb hby at_187) rfl rfl k) ?_
      refine own_go (B := (T630.setTop (mkF m 191 #[iv p0, iv p1, iv p2, iv (3 : Int32), iv (4 : Int32), rv a1, rv a4, rv a9, rv a16, rv a25, iv (3 : Int32), rv a9, rv a4, rv a1, .val .null] [(.int (3 : Int32)), .null]))) (fun t k => XS.iload X630.here hx rfl (hb hby at_189) rfl k) ?_
      refine own_go (B := (T630.setTop (mkF m 192 #[iv p0, iv p1, iv p2, iv (3 : Int32), iv (4 : Int32), rv a1, rv a4, rv a9, rv a16, rv a25, iv (3 : Int32), rv a9, rv a4, rv a1, .val .null] [(.int (3 : Int32)), (.int (3 : Int32)), .null]))) (fun t k => own_iconst (v := (3 : Int32)) X630.here hx rfl (hb hby at_191) (by decide) k) ?_
      refine own_go (B := (T630.setTop (mkF m 193 #[iv p0, iv p1, iv p2, iv (3 : Int32), iv (4 : Int32), rv a1, rv a4, rv a9, rv a16, rv a25, iv (3 : Int32), rv a9, rv a4, rv a1, .val .null] [(.int p2), (.int (3 : Int32)), (.int (3 : Int32)), .null]))) (fun t k => XS.iloadN X630.here hx rfl (hb hby at_192) rfl k) ?_
      obtain ⟨_, _, ⟨T631, L631, k631, n631⟩, -, X631, ⟨Lc631, hQ631, l631, y631, z631⟩, st631⟩ := Jvm.LawKit.callS X630 hx (y := own_y8) hown (mvT hZ w_36) (mvT hZ w_37) (mvT hZ w_38) (mvT hZ w_39) (by decide) (backOf (W := 0) (own_same0 l Z a0 hw [] (3 : Int32) (3 : Int32) p2 T617.heap n0 (by decide)) hZ w_39 w_38 (by decide) (by decide)) (g := (mkF m 193 #[iv p0, iv p1, iv p2, iv (3 : Int32), iv (4 : Int32), rv a1, rv a4, rv a9, rv a16, rv a25, iv (3 : Int32), rv a9, rv a4, rv a1, .val .null] [(.int p2), (.int (3 : Int32)), (.int (3 : Int32)), .null])) rfl (by rw [hml]; rfl) (argsL := [.null, (.int (3 : Int32)), (.int (3 : Int32)), (.int p2)]) (rest := []) (lenOf own_pd7 rfl) rfl (by show 2 * 0 + _ ≤ _; exact own_b rfl) (hb hby at_193) (fun _ _ => ⟨rfl, e630, (own_b rfl : 6 + 0 ≤ _), (own_b rfl : 9 + 0 ≤ _)⟩)
      dsimp only [Pt.U, Pt.locs, Pt.cells, Pt.slots] at X631 l631 y631 z631 st631 hQ631
      obtain ⟨rfl, Nq631, eq631⟩ := hQ631
      obtain ⟨L631, X631, N631⟩ := own_absC (K := 6) (K' := 9) X631 l631 y631 z631 N630 Nq631
      have e631 : T631.heap = T617.heap := eq631
      refine own_go (B := (T631.setTop (mkF m 196 #[iv p0, iv p1, iv p2, iv (3 : Int32), iv (4 : Int32), rv a1, rv a4, rv a9, rv a16, rv a25, iv (3 : Int32), rv a9, rv a4, rv a1, .val .null] [(.int (1 : Int32))]))) st631 ?_
      have hc196 : ¬ (1 : Int32) = (0 : Int32) := (by decide)
      refine own_ifN X631 hx (hb hby at_196) (pn := 199) rfl hc196 ?_
      refine own_go (B := (T631.setTop (mkF m 200 #[iv p0, iv p1, iv p2, iv (3 : Int32), iv (4 : Int32), rv a1, rv a4, rv a9, rv a16, rv a25, iv (3 : Int32), rv a9, rv a4, rv a1, .val .null] [(.int (1 : Int32))]))) (fun t k => own_iconst (v := (1 : Int32)) X631.here hx rfl (hb hby at_199) (by decide) k) ?_
      refine own_go (B := (T631.setTop (mkF m 204 #[iv p0, iv p1, iv p2, iv (3 : Int32), iv (4 : Int32), rv a1, rv a4, rv a9, rv a16, rv a25, iv (3 : Int32), rv a9, rv a4, rv a1, .val .null] [(.int (1 : Int32))]))) (fun t k => XS.goto X631.here hx rfl (pc0 := 200) (pc' := 204) rfl (hb hby at_200) (by decide) (by decide) k) ?_
      exact own_retZ X631 hx hlk Bd.returns (hb hby at_204) (by decide) (own_b rfl) (own_b rfl) (Q := (own_law_Q Z p0 p1 p2 ca h0 n0)) ⟨rfl, N631⟩

set_option maxRecDepth 65536 in
set_option maxHeartbeats 40000000 in
theorem own_comes {Post : Tables → Env → Array Value → State → Outcome → State → Prop} (hpost : ∀ tb e args s v u, (limb_1_1.after args s (.returned v) u = true ∧ limb_1_2.after args s (.returned v) u = true ∧ True) → FrameEnd s (.returned v) u (Jvm.fieldLocs frame_1_writes args s ++ Jvm.arrayLocs frame_1_arrays args s ++ Jvm.staticLocs frame_1_statics s) 24 128 → Post tb e args s (.returned v) u) :
    ArmFor flags0 classFile x code maxLocals ret World_1 tables_1 room_1 Calls_1 rest_1 Pre_1 Post := by
  intro l hfl _ _ p e ha hc hk s m args below hf hA hF happ hP
  obtain ⟨hcalls, hrest, hpre⟩ := hP
  obtain ⟨-, -, -, hnamed, -, -, -, hat⟩ := (Spec.applies_iff hf).mp happ
  obtain ⟨hg, hn⟩ := and_e (Cond.before_iff.mp (show (Jvm.Cond.and given_1 narrow_1).before args s = true from hpre))
  obtain ⟨g0, r0⟩ := and_e hg
  obtain ⟨g1, r1⟩ := and_e r0
  obtain ⟨g2, r2⟩ := and_e r1
  obtain ⟨w0, w1, w2, rfl⟩ : ∃ w0 w1 w2 : Value, args = #[w0, w1, w2] := by
    have hs : args.size = 3 := by simpa [Cond.value, given_1] using g0
    obtain ⟨L⟩ := args
    match L, hs with
    | [w0, w1, w2], _ => exact ⟨w0, w1, w2, rfl⟩
  have hw := fun d (hd : d ∈ tables_1) => atoms_spec (ws := Jvm.Cond.code x code maxLocals ret :: tables_1) hat d (List.mem_cons_of_mem _ hd)
  have hfit : Fit s := fun {y c} hc i hi => by
    obtain ⟨ha, rfl⟩ := Array.getElem?_eq_some_iff.mp hc
    have q := List.all_eq_true.mp ((Array.all_eq_true_iff_forall_mem.mp hF) _ (Array.getElem_mem ha)) i (List.mem_range.mpr hi)
    simpa [Array.getElem?_eq_getElem hi] using q
  obtain ⟨i0, e0⟩ := is_v g1
  obtain rfl : w0 = (.int i0) := Option.some.inj e0
  obtain ⟨i1, e1⟩ := is_v g2
  obtain rfl : w1 = (.int i1) := Option.some.inj e1
  obtain ⟨i2, e2⟩ := is_v r2
  obtain rfl : w2 = (.int i2) := Option.some.inj e2
  have w_5 := hw _ (List.mem_of_getElem? (l := tables_1) (i := 5) rfl)
  obtain ⟨hsets, hown0⟩ := atoms_of _ (rest_1_c_eq ▸ (show rest_1_c.before _ s = true from hrest))
  have hh3 := own_eqint (Cond.before_iff.mp (hsets _ (List.mem_of_getElem? (i := 3) rfl)))
  have hS1 : Sta s s.heap "java/lang/Integer$IntegerCache" "high" "I" (.int (127 : Int32)) := Sta.start hh3 (Or.inr ⟨w_5, hsets _ (List.mem_of_getElem? (i := 0) rfl)⟩)
  obtain ⟨ca, evc⟩ := exa_v (Cond.before_iff.mp (hsets _ (List.mem_of_getElem? (i := 5) rfl)))
  have hS2 : Sta s s.heap "java/lang/Integer$IntegerCache" "cache" "[Ljava/lang/Integer;" (.ref ca) := Sta.start evc (Or.inr ⟨w_5, hsets _ (List.mem_of_getElem? (i := 2) rfl)⟩)
  have hC := own_cache_of hfit evc (Cond.before_iff.mp (hsets _ (List.mem_of_getElem? (i := 4) rfl))) (Cond.before_iff.mp (hsets _ (List.mem_of_getElem? (i := 6) rfl))) (Cond.before_iff.mp (hsets _ (List.mem_of_getElem? (i := 7) rfl)))
  obtain ⟨n, o, h1, h2, h3, _, L, rfl, ⟨rfl, N⟩, hq⟩ := own_law l s _ hw tables_1 i0 i1 i2 ca s.heap s.heap.size (Nat.le_refl _) hS1 hS2 hC p e ha hc hk s m _ below hf ((Spec.applies_iff_loose hf).mp happ).1 ⟨rfl, State.Warmed39.refl s, rfl⟩ trivial
  refine ⟨n, _, h1, h2, h3, hpost _ _ _ _ _ _ ⟨Cond.after_iff.mpr rfl, Cond.after_iff.mpr (eq_i res_at (Term.int_eval (1)) rfl), trivial⟩ ⟨hq.1, hq.2.1, (hq.2.2.sift fun y hy => Or.inr (N y hy)).mono (by decide) (by decide)⟩⟩
theorem main_1_1 : Claimed_1_1 := own_comes fun _ _ _ _ _ _ h hF => ⟨h.1, hF⟩
theorem main_1_2 : Claimed_1_2 := own_comes fun _ _ _ _ _ _ h hF => ⟨h.2.1, hF⟩
end Jvm.Pilot.@@N@@
namespace Jvm.Pilot.@@N@@
open Jvm Jvm.ClassFile Sem Op Lib Jvm.Free Jvm.Stand Jvm.Pilot.@@N@@.Jvm.D
/-! MADE BY PROGRAM (witnessworld.py) out of the Statement's table words and the real class files: 18 classes; the members and pool entries that the words name. The judged class is class 1, her method 1. -/
namespace start1
open Jvm.ClassFile
def u (s : String) : CpInfo := .utf8 (stringToUtf16 s)
/-- a pool by its gaps: so many unusable entries, then the entry; so many at the end -/
def gap : Nat → List CpInfo → List CpInfo
  | 0, r => r
  | n + 1, r => .unusable :: gap n r
def poolList (es : List (Nat × CpInfo)) (last : Nat) : List CpInfo := es.foldr (fun e r => gap e.1 (e.2 :: r)) (gap last [])
def pool (es : List (Nat × CpInfo)) (last : Nat) : Array CpInfo := ⟨poolList es last⟩
def fileOf (pool : Array CpInfo) (this : Nat) (attrs : Array Attribute := #[]) (ms : Array MethodInfo := #[]) (fl : Nat := 33) (sup : Nat := 0) (ifs : Array Nat := #[]) (fds : Array FieldInfo := #[]) : ClassFile where
  minorVersion := 0
  majorVersion := 65
  constantPool := pool
  accessFlags := fl
  thisClass := this
  superClass := sup
  interfaces := ifs
  fields := fds
  methods := ms
  attributes := attrs
def plain (name : String) (sup : Option ClassId) : Class where
  name := name
  kind := .ordinary
  loader := none
  accessFlags := 33
  super := sup
  interfaces := #[]
  cf := none
  fields := #[]
  methods := #[]
  instanceTypes := #[]
  staticTypes := #[]
  resolved := #[]
  callSites := []
  init := .initialized
  statics := none
  mirror := none

def pool0 : Array CpInfo := pool [(5, u "<init>"), (0, u "()V"), (1, .class_ 10), (1, u "java/lang/Object")] 113

def k0c0 : Code := { maxStack := 0, maxLocals := 1, code := object_method_1_code, exceptionTable := #[], attributes := #[] }
def k0m0 : Method := { name := "<init>", desc := "()V", sig := { parameters := [], returnType := none }, accessFlags := 1, code := some k0c0 }
/-- java/lang/Object -/
def k0 : Class := { plain "java/lang/Object" none with
  accessFlags := 33
  interfaces := #[]
  cf := some (fileOf pool0 8 #[] #[{ accessFlags := 1, nameIndex := 5, descriptorIndex := 6, attributes := #[] }] 33 0 #[] #[])
  fields := #[]
  methods := #[k0m0]
  instanceTypes := #[]
  staticTypes := #[]
  resolved := Array.replicate 124 none
  statics := none }

def pool1 : Array CpInfo := pool [(2, .class_ 4), (1, u "java/lang/Object"), (0, u "<init>"), (0, u "()V"), (0, .methodref 8 9), (0, .class_ 10), (0, .nameAndType 11 12), (0, u "java/lang/Integer"), (0, u "valueOf"), (0, u "(I)Ljava/lang/Integer;"), (0, .class_ 14), (0, u "com/example/pagemason/pagemason/core/Spares"), (0, .methodref 13 16), (0, .nameAndType 5 17), (0, u "(I)V"), (0, .methodref 13 19), (0, .nameAndType 20 21), (0, u "keep"), (0, u "(Ljava/lang/Object;)V"), (0, .methodref 23 24), (0, .class_ 25), (0, .nameAndType 26 27), (0, u "java/lang/Math"), (0, u "min"), (0, u "(II)I"), (0, .methodref 13 29), (0, .nameAndType 30 31), (0, u "take"), (0, u "()Ljava/lang/Object;"), (0, .methodref 33 34), (0, .class_ 35), (0, .nameAndType 36 37), (0, u "com/example/pagemason/pagemason/core/SparesKeepPinLaw"), (0, u "same"), (0, u "(Ljava/lang/Integer;III)Z"), (0, .methodref 8 39), (0, .nameAndType 40 41), (0, u "intValue"), (0, u "()I"), (2, u "law"), (0, u "(III)Z")] 3

def k1m0 : Method := { name := "<init>", desc := "()V", sig := { parameters := [], returnType := none }, accessFlags := 1, code := none }
def k1c1 : Code := { maxStack := 4, maxLocals := 15, code := code, exceptionTable := #[], attributes := #[] }
def k1m1 : Method := { name := "law", desc := "(III)Z", sig := { parameters := [.int, .int, .int], returnType := some .boolean }, accessFlags := 9, code := some k1c1 }
def k1c2 : Code := { maxStack := 3, maxLocals := 5, code := method_3_code, exceptionTable := #[], attributes := #[] }
def k1m2 : Method := { name := "same", desc := "(Ljava/lang/Integer;III)Z", sig := { parameters := [(.object "java/lang/Integer"), .int, .int, .int], returnType := some .boolean }, accessFlags := 10, code := some k1c2 }
/-- com/example/pagemason/pagemason/core/SparesKeepPinLaw -/
def k1 : Class := { plain "com/example/pagemason/pagemason/core/SparesKeepPinLaw" (some 0) with
  accessFlags := 49
  interfaces := #[]
  cf := some (fileOf pool1 33 #[] #[{ accessFlags := 1, nameIndex := 5, descriptorIndex := 6, attributes := #[] }, { accessFlags := 9, nameIndex := 44, descriptorIndex := 45, attributes := #[] }, { accessFlags := 10, nameIndex := 36, descriptorIndex := 37, attributes := #[] }] 49 2 #[] #[])
  fields := #[]
  methods := #[k1m0, k1m1, k1m2]
  instanceTypes := #[]
  staticTypes := #[]
  resolved := Array.replicate 49 none
  statics := none }

def pool2 : Array CpInfo := pool [(1, .class_ 2), (0, u "java/io/Serializable"), (0, .class_ 4), (0, u "java/lang/Object")] 2

/-- java/io/Serializable -/
def k2 : Class := { plain "java/io/Serializable" (some 0) with
  accessFlags := 1537
  interfaces := #[]
  cf := some (fileOf pool2 1 #[] #[] 1537 3 #[] #[])
  fields := #[]
  methods := #[]
  instanceTypes := #[]
  staticTypes := #[]
  resolved := Array.replicate 7 none
  statics := none }

def pool3 : Array CpInfo := pool [(1, .methodref 2 3), (0, .class_ 4), (0, .nameAndType 5 6), (0, u "java/lang/Object"), (0, u "<init>"), (0, u "()V"), (1, .class_ 10), (1, u "java/lang/Number"), (2, .class_ 14), (0, u "java/io/Serializable"), (0, u "serialVersionUID"), (0, u "J")] 20

def k3c0 : Code := { maxStack := 1, maxLocals := 1, code := jdk_18_method_1_code, exceptionTable := #[], attributes := #[] }
def k3m0 : Method := { name := "<init>", desc := "()V", sig := { parameters := [], returnType := none }, accessFlags := 1, code := some k3c0 }
/-- java/lang/Number -/
def k3 : Class := { plain "java/lang/Number" (some 0) with
  accessFlags := 1057
  interfaces := #[2]
  cf := some (fileOf pool3 8 #[] #[{ accessFlags := 1, nameIndex := 5, descriptorIndex := 6, attributes := #[] }] 1057 2 #[13] #[{ accessFlags := 26, nameIndex := 15, descriptorIndex := 16, attributes := #[] }])
  fields := #[{ name := "serialVersionUID", type := .long, accessFlags := 26, slot := 0, constantValue := 0 }]
  methods := #[k3m0]
  instanceTypes := #[]
  staticTypes := #[.long]
  resolved := Array.replicate 37 none
  statics := none }

def pool4 : Array CpInfo := pool [(1, .class_ 2), (0, u "java/lang/Comparable"), (0, .class_ 4), (0, u "java/lang/Object")] 7

/-- java/lang/Comparable -/
def k4 : Class := { plain "java/lang/Comparable" (some 0) with
  accessFlags := 1537
  interfaces := #[]
  cf := some (fileOf pool4 1 #[] #[] 1537 3 #[] #[])
  fields := #[]
  methods := #[]
  instanceTypes := #[]
  staticTypes := #[]
  resolved := Array.replicate 12 none
  statics := none }

def pool5 : Array CpInfo := pool [(1, .class_ 2), (0, u "java/lang/constant/Constable"), (0, .class_ 4), (0, u "java/lang/Object")] 6

/-- java/lang/constant/Constable -/
def k5 : Class := { plain "java/lang/constant/Constable" (some 0) with
  accessFlags := 1537
  interfaces := #[]
  cf := some (fileOf pool5 1 #[] #[] 1537 3 #[] #[])
  fields := #[]
  methods := #[]
  instanceTypes := #[]
  staticTypes := #[]
  resolved := Array.replicate 11 none
  statics := none }

def pool6 : Array CpInfo := pool [(1, .class_ 2), (0, u "java/lang/constant/ConstantDesc"), (0, .class_ 4), (0, u "java/lang/Object")] 32

/-- java/lang/constant/ConstantDesc -/
def k6 : Class := { plain "java/lang/constant/ConstantDesc" (some 0) with
  accessFlags := 1537
  interfaces := #[]
  cf := some (fileOf pool6 1 #[] #[] 1537 3 #[] #[])
  fields := #[]
  methods := #[]
  instanceTypes := #[]
  staticTypes := #[]
  resolved := Array.replicate 37 none
  statics := none }

def pool7 : Array CpInfo := pool [(1, .class_ 2), (0, u "java/lang/Integer"), (16, u "digits"), (0, u "[C"), (46, u "<init>"), (17, u "DigitOnes"), (0, u "[B"), (2, u "DigitTens"), (10, .nameAndType 67 101), (0, u "()V"), (19, u "()I"), (65, u "valueOf"), (0, u "(I)Ljava/lang/Integer;"), (0, .class_ 190), (0, u "java/lang/Integer$IntegerCache"), (0, .fieldref 189 192), (0, .nameAndType 193 194), (0, u "high"), (0, u "I"), (0, .fieldref 189 196), (0, .nameAndType 197 198), (0, u "cache"), (0, u "[Ljava/lang/Integer;"), (0, .methodref 1 200), (0, .nameAndType 67 201), (0, u "(I)V"), (0, .methodref 203 100), (0, .class_ 204), (0, u "java/lang/Number"), (0, .fieldref 1 206), (0, .nameAndType 207 194), (0, u "value"), (5, u "intValue"), (88, u "TYPE"), (0, u "Ljava/lang/Class;"), (0, .class_ 305), (0, u "java/lang/Comparable"), (0, .class_ 307), (0, u "java/lang/constant/Constable"), (0, .class_ 309), (0, u "java/lang/constant/ConstantDesc"), (0, u "MIN_VALUE"), (1, u "MAX_VALUE"), (3, u "SIZE"), (1, u "BYTES"), (1, u "serialVersionUID"), (0, u "J")] 131

def k7c0 : Code := { maxStack := 3, maxLocals := 1, code := jdk_33_method_22_code, exceptionTable := #[], attributes := #[] }
def k7m0 : Method := { name := "valueOf", desc := "(I)Ljava/lang/Integer;", sig := { parameters := [.int], returnType := some (.object "java/lang/Integer") }, accessFlags := 9, code := some k7c0 }
def k7c1 : Code := { maxStack := 2, maxLocals := 2, code := jdk_33_method_23_code, exceptionTable := #[], attributes := #[] }
def k7m1 : Method := { name := "<init>", desc := "(I)V", sig := { parameters := [.int], returnType := none }, accessFlags := 1, code := some k7c1 }
def k7c2 : Code := { maxStack := 1, maxLocals := 1, code := jdk_33_method_27_code, exceptionTable := #[], attributes := #[] }
def k7m2 : Method := { name := "intValue", desc := "()I", sig := { parameters := [], returnType := some .int }, accessFlags := 1, code := some k7c2 }
/-- java/lang/Integer -/
def k7 : Class := { plain "java/lang/Integer" (some 3) with
  accessFlags := 49
  interfaces := #[4, 5, 6]
  cf := some (fileOf pool7 1 #[.nestMembers #[189]] #[{ accessFlags := 9, nameIndex := 187, descriptorIndex := 188, attributes := #[] }, { accessFlags := 1, nameIndex := 67, descriptorIndex := 201, attributes := #[] }, { accessFlags := 1, nameIndex := 213, descriptorIndex := 121, attributes := #[] }] 49 203 #[304, 306, 308] #[{ accessFlags := 25, nameIndex := 310, descriptorIndex := 194, attributes := #[] }, { accessFlags := 25, nameIndex := 312, descriptorIndex := 194, attributes := #[] }, { accessFlags := 25, nameIndex := 302, descriptorIndex := 303, attributes := #[] }, { accessFlags := 24, nameIndex := 19, descriptorIndex := 20, attributes := #[] }, { accessFlags := 24, nameIndex := 89, descriptorIndex := 86, attributes := #[] }, { accessFlags := 24, nameIndex := 85, descriptorIndex := 86, attributes := #[] }, { accessFlags := 18, nameIndex := 207, descriptorIndex := 194, attributes := #[] }, { accessFlags := 25, nameIndex := 316, descriptorIndex := 194, attributes := #[] }, { accessFlags := 25, nameIndex := 318, descriptorIndex := 194, attributes := #[] }, { accessFlags := 26, nameIndex := 320, descriptorIndex := 321, attributes := #[] }])
  fields := #[{ name := "MIN_VALUE", type := .int, accessFlags := 25, slot := 0, constantValue := 0 }, { name := "MAX_VALUE", type := .int, accessFlags := 25, slot := 1, constantValue := 0 }, { name := "TYPE", type := (.object "java/lang/Class"), accessFlags := 25, slot := 2, constantValue := 0 }, { name := "digits", type := (.array .char), accessFlags := 24, slot := 3, constantValue := 0 }, { name := "DigitTens", type := (.array .byte), accessFlags := 24, slot := 4, constantValue := 0 }, { name := "DigitOnes", type := (.array .byte), accessFlags := 24, slot := 5, constantValue := 0 }, { name := "value", type := .int, accessFlags := 18, slot := 0, constantValue := 0 }, { name := "SIZE", type := .int, accessFlags := 25, slot := 6, constantValue := 0 }, { name := "BYTES", type := .int, accessFlags := 25, slot := 7, constantValue := 0 }, { name := "serialVersionUID", type := .long, accessFlags := 26, slot := 8, constantValue := 0 }]
  methods := #[k7m0, k7m1, k7m2]
  instanceTypes := #[.int]
  staticTypes := #[.int, .int, (.object "java/lang/Class"), (.array .char), (.array .byte), (.array .byte), .int, .int, .long]
  resolved := Array.replicate 453 none
  statics := none }

def pool8 : Array CpInfo := pool [(2, .class_ 4), (1, u "java/lang/Object"), (0, u "<init>"), (0, u "()V"), (0, .class_ 8), (0, u "java/lang/Integer"), (7, .class_ 18), (1, u "java/lang/Integer$IntegerCache"), (0, u "$assertionsDisabled"), (0, u "Z"), (26, u "high"), (0, u "I"), (8, u "archivedCache"), (0, u "[Ljava/lang/Integer;"), (12, u "cache"), (0, u "low")] 27

def k8m0 : Method := { name := "<init>", desc := "()V", sig := { parameters := [], returnType := none }, accessFlags := 2, code := none }
/-- java/lang/Integer$IntegerCache -/
def k8 : Class := { plain "java/lang/Integer$IntegerCache" (some 0) with
  accessFlags := 48
  interfaces := #[]
  cf := some (fileOf pool8 16 #[.nestHost 7] #[{ accessFlags := 2, nameIndex := 5, descriptorIndex := 6, attributes := #[] }] 48 2 #[] #[{ accessFlags := 24, nameIndex := 72, descriptorIndex := 48, attributes := #[] }, { accessFlags := 24, nameIndex := 47, descriptorIndex := 48, attributes := #[] }, { accessFlags := 24, nameIndex := 71, descriptorIndex := 58, attributes := #[] }, { accessFlags := 8, nameIndex := 57, descriptorIndex := 58, attributes := #[] }, { accessFlags := 4120, nameIndex := 19, descriptorIndex := 20, attributes := #[] }])
  fields := #[{ name := "low", type := .int, accessFlags := 24, slot := 0, constantValue := 0 }, { name := "high", type := .int, accessFlags := 24, slot := 1, constantValue := 0 }, { name := "cache", type := (.array (.object "java/lang/Integer")), accessFlags := 24, slot := 2, constantValue := 0 }, { name := "archivedCache", type := (.array (.object "java/lang/Integer")), accessFlags := 8, slot := 3, constantValue := 0 }, { name := "$assertionsDisabled", type := .boolean, accessFlags := 4120, slot := 4, constantValue := 0 }]
  methods := #[k8m0]
  instanceTypes := #[]
  staticTypes := #[.int, .int, (.array (.object "java/lang/Integer")), (.array (.object "java/lang/Integer")), .boolean]
  resolved := Array.replicate 100 none
  statics := some 0 }

def pool9 : Array CpInfo := pool [(1, .methodref 2 3), (0, .class_ 4), (0, .nameAndType 5 6), (0, u "java/lang/Object"), (0, u "<init>"), (0, u "()V"), (0, .fieldref 8 9), (0, .class_ 10), (0, .nameAndType 11 12), (0, u "com/example/pagemason/pagemason/core/Spares"), (0, u "kept"), (0, u "[Ljava/lang/Object;"), (0, .fieldref 8 14), (0, .nameAndType 15 16), (0, u "count"), (0, u "I"), (0, u "(I)V"), (2, u "keep"), (0, u "(Ljava/lang/Object;)V"), (3, u "take"), (0, u "()Ljava/lang/Object;")] 4

def k9c0 : Code := { maxStack := 2, maxLocals := 2, code := prog_71_method_1_code, exceptionTable := #[], attributes := #[] }
def k9m0 : Method := { name := "<init>", desc := "(I)V", sig := { parameters := [.int], returnType := none }, accessFlags := 0, code := some k9c0 }
def k9c1 : Code := { maxStack := 5, maxLocals := 2, code := prog_71_method_2_code, exceptionTable := #[], attributes := #[] }
def k9m1 : Method := { name := "keep", desc := "(Ljava/lang/Object;)V", sig := { parameters := [(.object "java/lang/Object")], returnType := none }, accessFlags := 0, code := some k9c1 }
def k9c2 : Code := { maxStack := 4, maxLocals := 2, code := prog_71_method_3_code, exceptionTable := #[], attributes := #[] }
def k9m2 : Method := { name := "take", desc := "()Ljava/lang/Object;", sig := { parameters := [], returnType := some (.object "java/lang/Object") }, accessFlags := 0, code := some k9c2 }
/-- com/example/pagemason/pagemason/core/Spares -/
def k9 : Class := { plain "com/example/pagemason/pagemason/core/Spares" (some 0) with
  accessFlags := 48
  interfaces := #[]
  cf := some (fileOf pool9 8 #[] #[{ accessFlags := 0, nameIndex := 5, descriptorIndex := 17, attributes := #[] }, { accessFlags := 0, nameIndex := 20, descriptorIndex := 21, attributes := #[] }, { accessFlags := 0, nameIndex := 25, descriptorIndex := 26, attributes := #[] }] 48 2 #[] #[{ accessFlags := 18, nameIndex := 11, descriptorIndex := 12, attributes := #[] }, { accessFlags := 2, nameIndex := 15, descriptorIndex := 16, attributes := #[] }])
  fields := #[{ name := "kept", type := (.array (.object "java/lang/Object")), accessFlags := 18, slot := 0, constantValue := 0 }, { name := "count", type := .int, accessFlags := 2, slot := 1, constantValue := 0 }]
  methods := #[k9m0, k9m1, k9m2]
  instanceTypes := #[(.array (.object "java/lang/Object")), .int]
  staticTypes := #[]
  resolved := Array.replicate 31 none
  statics := none }

def pool10 : Array CpInfo := pool [(1, .class_ 2), (0, u "java/lang/Math"), (1, .class_ 6), (1, u "java/lang/Object"), (0, u "<init>"), (0, u "()V"), (89, .class_ 100), (1, u "java/lang/Math$RandomNumberGeneratorHolder"), (71, u "negativeZeroFloatBits"), (0, u "J"), (2, u "negativeZeroDoubleBits"), (24, u "min"), (43, u "$assertionsDisabled"), (0, u "Z"), (88, u "(II)I"), (2, u "twoToTheDoubleScaleDown"), (0, u "D"), (4, u "twoToTheDoubleScaleUp"), (9, u "E"), (3, u "PI"), (2, u "TAU"), (2, u "DEGREES_TO_RADIANS"), (0, u "RADIANS_TO_DEGREES")] 94

def k10m0 : Method := { name := "<init>", desc := "()V", sig := { parameters := [], returnType := none }, accessFlags := 2, code := none }
def k10c1 : Code := { maxStack := 2, maxLocals := 2, code := jdk_29_method_69_code, exceptionTable := #[], attributes := #[] }
def k10m1 : Method := { name := "min", desc := "(II)I", sig := { parameters := [.int, .int], returnType := some .int }, accessFlags := 9, code := some k10c1 }
/-- java/lang/Math -/
def k10 : Class := { plain "java/lang/Math" (some 0) with
  accessFlags := 49
  interfaces := #[]
  cf := some (fileOf pool10 1 #[.nestMembers #[98]] #[{ accessFlags := 2, nameIndex := 7, descriptorIndex := 8, attributes := #[] }, { accessFlags := 9, nameIndex := 201, descriptorIndex := 335, attributes := #[] }] 49 4 #[] #[{ accessFlags := 25, nameIndex := 354, descriptorIndex := 339, attributes := #[] }, { accessFlags := 25, nameIndex := 358, descriptorIndex := 339, attributes := #[] }, { accessFlags := 25, nameIndex := 361, descriptorIndex := 339, attributes := #[] }, { accessFlags := 26, nameIndex := 364, descriptorIndex := 339, attributes := #[] }, { accessFlags := 26, nameIndex := 365, descriptorIndex := 339, attributes := #[] }, { accessFlags := 26, nameIndex := 172, descriptorIndex := 173, attributes := #[] }, { accessFlags := 26, nameIndex := 176, descriptorIndex := 173, attributes := #[] }, { accessFlags := 8, nameIndex := 344, descriptorIndex := 339, attributes := #[] }, { accessFlags := 8, nameIndex := 338, descriptorIndex := 339, attributes := #[] }, { accessFlags := 4120, nameIndex := 245, descriptorIndex := 246, attributes := #[] }])
  fields := #[{ name := "E", type := .double, accessFlags := 25, slot := 0, constantValue := 0 }, { name := "PI", type := .double, accessFlags := 25, slot := 1, constantValue := 0 }, { name := "TAU", type := .double, accessFlags := 25, slot := 2, constantValue := 0 }, { name := "DEGREES_TO_RADIANS", type := .double, accessFlags := 26, slot := 3, constantValue := 0 }, { name := "RADIANS_TO_DEGREES", type := .double, accessFlags := 26, slot := 4, constantValue := 0 }, { name := "negativeZeroFloatBits", type := .long, accessFlags := 26, slot := 5, constantValue := 0 }, { name := "negativeZeroDoubleBits", type := .long, accessFlags := 26, slot := 6, constantValue := 0 }, { name := "twoToTheDoubleScaleUp", type := .double, accessFlags := 8, slot := 7, constantValue := 0 }, { name := "twoToTheDoubleScaleDown", type := .double, accessFlags := 8, slot := 8, constantValue := 0 }, { name := "$assertionsDisabled", type := .boolean, accessFlags := 4120, slot := 9, constantValue := 0 }]
  methods := #[k10m0, k10m1]
  instanceTypes := #[]
  staticTypes := #[.double, .double, .double, .double, .double, .long, .long, .double, .double, .boolean]
  resolved := Array.replicate 460 none
  statics := none }

def pool11 : Array CpInfo := pool [(1, u "java/lang/Cloneable"), (0, .class_ 1), (0, u "java/lang/Object"), (0, .class_ 3)] 3

/-- java/lang/Cloneable -/
def k11 : Class := { plain "java/lang/Cloneable" (some 0) with
  accessFlags := 1537
  interfaces := #[]
  cf := some (fileOf pool11 2 #[] #[] 1537 4 #[] #[])
  fields := #[]
  methods := #[]
  instanceTypes := #[]
  staticTypes := #[]
  resolved := Array.replicate 8 none
  statics := none }

/-- the primitive byte -/
def k12 : Class := { plain "byte" none with kind := .primitive 'B', accessFlags := 0x411 }
/-- [B -/
def k13 : Class := { plain "[B" (some 0) with kind := .array 12 .byte, interfaces := #[11, 2], accessFlags := 1041 }

/-- the primitive int -/
def k14 : Class := { plain "int" none with kind := .primitive 'I', accessFlags := 0x411 }
/-- [I -/
def k15 : Class := { plain "[I" (some 0) with kind := .array 14 .int, interfaces := #[11, 2], accessFlags := 1041 }

/-- [Ljava/lang/Integer; -/
def k16 : Class := { plain "[Ljava/lang/Integer;" (some 0) with kind := .array 7 (.object "java/lang/Integer"), interfaces := #[11, 2], accessFlags := 1041 }

/-- [Ljava/lang/Object; -/
def k17 : Class := { plain "[Ljava/lang/Object;" (some 0) with kind := .array 0 (.object "java/lang/Object"), interfaces := #[11, 2], accessFlags := 1041 }

def heap : Heap := #[{ cls := 8, slots := #[.int 0, .int 127, .ref 1, .null, .int 0], vm := .statics 8 },
  { cls := 16, slots := #[.ref 2, .ref 3, .ref 4, .ref 5, .ref 6, .ref 7, .ref 8, .ref 9, .ref 10, .ref 11, .ref 12, .ref 13, .ref 14, .ref 15, .ref 16, .ref 17, .ref 18, .ref 19, .ref 20, .ref 21, .ref 22, .ref 23, .ref 24, .ref 25, .ref 26, .ref 27, .ref 28, .ref 29, .ref 30, .ref 31, .ref 32, .ref 33, .ref 34, .ref 35, .ref 36, .ref 37, .ref 38, .ref 39, .ref 40, .ref 41, .ref 42, .ref 43, .ref 44, .ref 45, .ref 46, .ref 47, .ref 48, .ref 49, .ref 50, .ref 51, .ref 52, .ref 53, .ref 54, .ref 55, .ref 56, .ref 57, .ref 58, .ref 59, .ref 60, .ref 61, .ref 62, .ref 63, .ref 64, .ref 65, .ref 66, .ref 67, .ref 68, .ref 69, .ref 70, .ref 71, .ref 72, .ref 73, .ref 74, .ref 75, .ref 76, .ref 77, .ref 78, .ref 79, .ref 80, .ref 81, .ref 82, .ref 83, .ref 84, .ref 85, .ref 86, .ref 87, .ref 88, .ref 89, .ref 90, .ref 91, .ref 92, .ref 93, .ref 94, .ref 95, .ref 96, .ref 97, .ref 98, .ref 99, .ref 100, .ref 101, .ref 102, .ref 103, .ref 104, .ref 105, .ref 106, .ref 107, .ref 108, .ref 109, .ref 110, .ref 111, .ref 112, .ref 113, .ref 114, .ref 115, .ref 116, .ref 117, .ref 118, .ref 119, .ref 120, .ref 121, .ref 122, .ref 123, .ref 124, .ref 125, .ref 126, .ref 127, .ref 128, .ref 129, .ref 130, .ref 131, .ref 132, .ref 133, .ref 134, .ref 135, .ref 136, .ref 137, .ref 138, .ref 139, .ref 140, .ref 141, .ref 142, .ref 143, .ref 144, .ref 145, .ref 146, .ref 147, .ref 148, .ref 149, .ref 150, .ref 151, .ref 152, .ref 153, .ref 154, .ref 155, .ref 156, .ref 157, .ref 158, .ref 159, .ref 160, .ref 161, .ref 162, .ref 163, .ref 164, .ref 165, .ref 166, .ref 167, .ref 168, .ref 169, .ref 170, .ref 171, .ref 172, .ref 173, .ref 174, .ref 175, .ref 176, .ref 177, .ref 178, .ref 179, .ref 180, .ref 181, .ref 182, .ref 183, .ref 184, .ref 185, .ref 186, .ref 187, .ref 188, .ref 189, .ref 190, .ref 191, .ref 192, .ref 193, .ref 194, .ref 195, .ref 196, .ref 197, .ref 198, .ref 199, .ref 200, .ref 201, .ref 202, .ref 203, .ref 204, .ref 205, .ref 206, .ref 207, .ref 208, .ref 209, .ref 210, .ref 211, .ref 212, .ref 213, .ref 214, .ref 215, .ref 216, .ref 217, .ref 218, .ref 219, .ref 220, .ref 221, .ref 222, .ref 223, .ref 224, .ref 225, .ref 226, .ref 227, .ref 228, .ref 229, .ref 230, .ref 231, .ref 232, .ref 233, .ref 234, .ref 235, .ref 236, .ref 237, .ref 238, .ref 239, .ref 240, .ref 241, .ref 242, .ref 243, .ref 244, .ref 245, .ref 246, .ref 247, .ref 248, .ref 249, .ref 250, .ref 251, .ref 252, .ref 253, .ref 254, .ref 255, .ref 256, .ref 257], vm := .none },
  { cls := 7, slots := #[.int (-128)], vm := .none },
  { cls := 7, slots := #[.int (-127)], vm := .none },
  { cls := 7, slots := #[.int (-126)], vm := .none },
  { cls := 7, slots := #[.int (-125)], vm := .none },
  { cls := 7, slots := #[.int (-124)], vm := .none },
  { cls := 7, slots := #[.int (-123)], vm := .none },
  { cls := 7, slots := #[.int (-122)], vm := .none },
  { cls := 7, slots := #[.int (-121)], vm := .none },
  { cls := 7, slots := #[.int (-120)], vm := .none },
  { cls := 7, slots := #[.int (-119)], vm := .none },
  { cls := 7, slots := #[.int (-118)], vm := .none },
  { cls := 7, slots := #[.int (-117)], vm := .none },
  { cls := 7, slots := #[.int (-116)], vm := .none },
  { cls := 7, slots := #[.int (-115)], vm := .none },
  { cls := 7, slots := #[.int (-114)], vm := .none },
  { cls := 7, slots := #[.int (-113)], vm := .none },
  { cls := 7, slots := #[.int (-112)], vm := .none },
  { cls := 7, slots := #[.int (-111)], vm := .none },
  { cls := 7, slots := #[.int (-110)], vm := .none },
  { cls := 7, slots := #[.int (-109)], vm := .none },
  { cls := 7, slots := #[.int (-108)], vm := .none },
  { cls := 7, slots := #[.int (-107)], vm := .none },
  { cls := 7, slots := #[.int (-106)], vm := .none },
  { cls := 7, slots := #[.int (-105)], vm := .none },
  { cls := 7, slots := #[.int (-104)], vm := .none },
  { cls := 7, slots := #[.int (-103)], vm := .none },
  { cls := 7, slots := #[.int (-102)], vm := .none },
  { cls := 7, slots := #[.int (-101)], vm := .none },
  { cls := 7, slots := #[.int (-100)], vm := .none },
  { cls := 7, slots := #[.int (-99)], vm := .none },
  { cls := 7, slots := #[.int (-98)], vm := .none },
  { cls := 7, slots := #[.int (-97)], vm := .none },
  { cls := 7, slots := #[.int (-96)], vm := .none },
  { cls := 7, slots := #[.int (-95)], vm := .none },
  { cls := 7, slots := #[.int (-94)], vm := .none },
  { cls := 7, slots := #[.int (-93)], vm := .none },
  { cls := 7, slots := #[.int (-92)], vm := .none },
  { cls := 7, slots := #[.int (-91)], vm := .none },
  { cls := 7, slots := #[.int (-90)], vm := .none },
  { cls := 7, slots := #[.int (-89)], vm := .none },
  { cls := 7, slots := #[.int (-88)], vm := .none },
  { cls := 7, slots := #[.int (-87)], vm := .none },
  { cls := 7, slots := #[.int (-86)], vm := .none },
  { cls := 7, slots := #[.int (-85)], vm := .none },
  { cls := 7, slots := #[.int (-84)], vm := .none },
  { cls := 7, slots := #[.int (-83)], vm := .none },
  { cls := 7, slots := #[.int (-82)], vm := .none },
  { cls := 7, slots := #[.int (-81)], vm := .none },
  { cls := 7, slots := #[.int (-80)], vm := .none },
  { cls := 7, slots := #[.int (-79)], vm := .none },
  { cls := 7, slots := #[.int (-78)], vm := .none },
  { cls := 7, slots := #[.int (-77)], vm := .none },
  { cls := 7, slots := #[.int (-76)], vm := .none },
  { cls := 7, slots := #[.int (-75)], vm := .none },
  { cls := 7, slots := #[.int (-74)], vm := .none },
  { cls := 7, slots := #[.int (-73)], vm := .none },
  { cls := 7, slots := #[.int (-72)], vm := .none },
  { cls := 7, slots := #[.int (-71)], vm := .none },
  { cls := 7, slots := #[.int (-70)], vm := .none },
  { cls := 7, slots := #[.int (-69)], vm := .none },
  { cls := 7, slots := #[.int (-68)], vm := .none },
  { cls := 7, slots := #[.int (-67)], vm := .none },
  { cls := 7, slots := #[.int (-66)], vm := .none },
  { cls := 7, slots := #[.int (-65)], vm := .none },
  { cls := 7, slots := #[.int (-64)], vm := .none },
  { cls := 7, slots := #[.int (-63)], vm := .none },
  { cls := 7, slots := #[.int (-62)], vm := .none },
  { cls := 7, slots := #[.int (-61)], vm := .none },
  { cls := 7, slots := #[.int (-60)], vm := .none },
  { cls := 7, slots := #[.int (-59)], vm := .none },
  { cls := 7, slots := #[.int (-58)], vm := .none },
  { cls := 7, slots := #[.int (-57)], vm := .none },
  { cls := 7, slots := #[.int (-56)], vm := .none },
  { cls := 7, slots := #[.int (-55)], vm := .none },
  { cls := 7, slots := #[.int (-54)], vm := .none },
  { cls := 7, slots := #[.int (-53)], vm := .none },
  { cls := 7, slots := #[.int (-52)], vm := .none },
  { cls := 7, slots := #[.int (-51)], vm := .none },
  { cls := 7, slots := #[.int (-50)], vm := .none },
  { cls := 7, slots := #[.int (-49)], vm := .none },
  { cls := 7, slots := #[.int (-48)], vm := .none },
  { cls := 7, slots := #[.int (-47)], vm := .none },
  { cls := 7, slots := #[.int (-46)], vm := .none },
  { cls := 7, slots := #[.int (-45)], vm := .none },
  { cls := 7, slots := #[.int (-44)], vm := .none },
  { cls := 7, slots := #[.int (-43)], vm := .none },
  { cls := 7, slots := #[.int (-42)], vm := .none },
  { cls := 7, slots := #[.int (-41)], vm := .none },
  { cls := 7, slots := #[.int (-40)], vm := .none },
  { cls := 7, slots := #[.int (-39)], vm := .none },
  { cls := 7, slots := #[.int (-38)], vm := .none },
  { cls := 7, slots := #[.int (-37)], vm := .none },
  { cls := 7, slots := #[.int (-36)], vm := .none },
  { cls := 7, slots := #[.int (-35)], vm := .none },
  { cls := 7, slots := #[.int (-34)], vm := .none },
  { cls := 7, slots := #[.int (-33)], vm := .none },
  { cls := 7, slots := #[.int (-32)], vm := .none },
  { cls := 7, slots := #[.int (-31)], vm := .none },
  { cls := 7, slots := #[.int (-30)], vm := .none },
  { cls := 7, slots := #[.int (-29)], vm := .none },
  { cls := 7, slots := #[.int (-28)], vm := .none },
  { cls := 7, slots := #[.int (-27)], vm := .none },
  { cls := 7, slots := #[.int (-26)], vm := .none },
  { cls := 7, slots := #[.int (-25)], vm := .none },
  { cls := 7, slots := #[.int (-24)], vm := .none },
  { cls := 7, slots := #[.int (-23)], vm := .none },
  { cls := 7, slots := #[.int (-22)], vm := .none },
  { cls := 7, slots := #[.int (-21)], vm := .none },
  { cls := 7, slots := #[.int (-20)], vm := .none },
  { cls := 7, slots := #[.int (-19)], vm := .none },
  { cls := 7, slots := #[.int (-18)], vm := .none },
  { cls := 7, slots := #[.int (-17)], vm := .none },
  { cls := 7, slots := #[.int (-16)], vm := .none },
  { cls := 7, slots := #[.int (-15)], vm := .none },
  { cls := 7, slots := #[.int (-14)], vm := .none },
  { cls := 7, slots := #[.int (-13)], vm := .none },
  { cls := 7, slots := #[.int (-12)], vm := .none },
  { cls := 7, slots := #[.int (-11)], vm := .none },
  { cls := 7, slots := #[.int (-10)], vm := .none },
  { cls := 7, slots := #[.int (-9)], vm := .none },
  { cls := 7, slots := #[.int (-8)], vm := .none },
  { cls := 7, slots := #[.int (-7)], vm := .none },
  { cls := 7, slots := #[.int (-6)], vm := .none },
  { cls := 7, slots := #[.int (-5)], vm := .none },
  { cls := 7, slots := #[.int (-4)], vm := .none },
  { cls := 7, slots := #[.int (-3)], vm := .none },
  { cls := 7, slots := #[.int (-2)], vm := .none },
  { cls := 7, slots := #[.int (-1)], vm := .none },
  { cls := 7, slots := #[.int 0], vm := .none },
  { cls := 7, slots := #[.int 1], vm := .none },
  { cls := 7, slots := #[.int 2], vm := .none },
  { cls := 7, slots := #[.int 3], vm := .none },
  { cls := 7, slots := #[.int 4], vm := .none },
  { cls := 7, slots := #[.int 5], vm := .none },
  { cls := 7, slots := #[.int 6], vm := .none },
  { cls := 7, slots := #[.int 7], vm := .none },
  { cls := 7, slots := #[.int 8], vm := .none },
  { cls := 7, slots := #[.int 9], vm := .none },
  { cls := 7, slots := #[.int 10], vm := .none },
  { cls := 7, slots := #[.int 11], vm := .none },
  { cls := 7, slots := #[.int 12], vm := .none },
  { cls := 7, slots := #[.int 13], vm := .none },
  { cls := 7, slots := #[.int 14], vm := .none },
  { cls := 7, slots := #[.int 15], vm := .none },
  { cls := 7, slots := #[.int 16], vm := .none },
  { cls := 7, slots := #[.int 17], vm := .none },
  { cls := 7, slots := #[.int 18], vm := .none },
  { cls := 7, slots := #[.int 19], vm := .none },
  { cls := 7, slots := #[.int 20], vm := .none },
  { cls := 7, slots := #[.int 21], vm := .none },
  { cls := 7, slots := #[.int 22], vm := .none },
  { cls := 7, slots := #[.int 23], vm := .none },
  { cls := 7, slots := #[.int 24], vm := .none },
  { cls := 7, slots := #[.int 25], vm := .none },
  { cls := 7, slots := #[.int 26], vm := .none },
  { cls := 7, slots := #[.int 27], vm := .none },
  { cls := 7, slots := #[.int 28], vm := .none },
  { cls := 7, slots := #[.int 29], vm := .none },
  { cls := 7, slots := #[.int 30], vm := .none },
  { cls := 7, slots := #[.int 31], vm := .none },
  { cls := 7, slots := #[.int 32], vm := .none },
  { cls := 7, slots := #[.int 33], vm := .none },
  { cls := 7, slots := #[.int 34], vm := .none },
  { cls := 7, slots := #[.int 35], vm := .none },
  { cls := 7, slots := #[.int 36], vm := .none },
  { cls := 7, slots := #[.int 37], vm := .none },
  { cls := 7, slots := #[.int 38], vm := .none },
  { cls := 7, slots := #[.int 39], vm := .none },
  { cls := 7, slots := #[.int 40], vm := .none },
  { cls := 7, slots := #[.int 41], vm := .none },
  { cls := 7, slots := #[.int 42], vm := .none },
  { cls := 7, slots := #[.int 43], vm := .none },
  { cls := 7, slots := #[.int 44], vm := .none },
  { cls := 7, slots := #[.int 45], vm := .none },
  { cls := 7, slots := #[.int 46], vm := .none },
  { cls := 7, slots := #[.int 47], vm := .none },
  { cls := 7, slots := #[.int 48], vm := .none },
  { cls := 7, slots := #[.int 49], vm := .none },
  { cls := 7, slots := #[.int 50], vm := .none },
  { cls := 7, slots := #[.int 51], vm := .none },
  { cls := 7, slots := #[.int 52], vm := .none },
  { cls := 7, slots := #[.int 53], vm := .none },
  { cls := 7, slots := #[.int 54], vm := .none },
  { cls := 7, slots := #[.int 55], vm := .none },
  { cls := 7, slots := #[.int 56], vm := .none },
  { cls := 7, slots := #[.int 57], vm := .none },
  { cls := 7, slots := #[.int 58], vm := .none },
  { cls := 7, slots := #[.int 59], vm := .none },
  { cls := 7, slots := #[.int 60], vm := .none },
  { cls := 7, slots := #[.int 61], vm := .none },
  { cls := 7, slots := #[.int 62], vm := .none },
  { cls := 7, slots := #[.int 63], vm := .none },
  { cls := 7, slots := #[.int 64], vm := .none },
  { cls := 7, slots := #[.int 65], vm := .none },
  { cls := 7, slots := #[.int 66], vm := .none },
  { cls := 7, slots := #[.int 67], vm := .none },
  { cls := 7, slots := #[.int 68], vm := .none },
  { cls := 7, slots := #[.int 69], vm := .none },
  { cls := 7, slots := #[.int 70], vm := .none },
  { cls := 7, slots := #[.int 71], vm := .none },
  { cls := 7, slots := #[.int 72], vm := .none },
  { cls := 7, slots := #[.int 73], vm := .none },
  { cls := 7, slots := #[.int 74], vm := .none },
  { cls := 7, slots := #[.int 75], vm := .none },
  { cls := 7, slots := #[.int 76], vm := .none },
  { cls := 7, slots := #[.int 77], vm := .none },
  { cls := 7, slots := #[.int 78], vm := .none },
  { cls := 7, slots := #[.int 79], vm := .none },
  { cls := 7, slots := #[.int 80], vm := .none },
  { cls := 7, slots := #[.int 81], vm := .none },
  { cls := 7, slots := #[.int 82], vm := .none },
  { cls := 7, slots := #[.int 83], vm := .none },
  { cls := 7, slots := #[.int 84], vm := .none },
  { cls := 7, slots := #[.int 85], vm := .none },
  { cls := 7, slots := #[.int 86], vm := .none },
  { cls := 7, slots := #[.int 87], vm := .none },
  { cls := 7, slots := #[.int 88], vm := .none },
  { cls := 7, slots := #[.int 89], vm := .none },
  { cls := 7, slots := #[.int 90], vm := .none },
  { cls := 7, slots := #[.int 91], vm := .none },
  { cls := 7, slots := #[.int 92], vm := .none },
  { cls := 7, slots := #[.int 93], vm := .none },
  { cls := 7, slots := #[.int 94], vm := .none },
  { cls := 7, slots := #[.int 95], vm := .none },
  { cls := 7, slots := #[.int 96], vm := .none },
  { cls := 7, slots := #[.int 97], vm := .none },
  { cls := 7, slots := #[.int 98], vm := .none },
  { cls := 7, slots := #[.int 99], vm := .none },
  { cls := 7, slots := #[.int 100], vm := .none },
  { cls := 7, slots := #[.int 101], vm := .none },
  { cls := 7, slots := #[.int 102], vm := .none },
  { cls := 7, slots := #[.int 103], vm := .none },
  { cls := 7, slots := #[.int 104], vm := .none },
  { cls := 7, slots := #[.int 105], vm := .none },
  { cls := 7, slots := #[.int 106], vm := .none },
  { cls := 7, slots := #[.int 107], vm := .none },
  { cls := 7, slots := #[.int 108], vm := .none },
  { cls := 7, slots := #[.int 109], vm := .none },
  { cls := 7, slots := #[.int 110], vm := .none },
  { cls := 7, slots := #[.int 111], vm := .none },
  { cls := 7, slots := #[.int 112], vm := .none },
  { cls := 7, slots := #[.int 113], vm := .none },
  { cls := 7, slots := #[.int 114], vm := .none },
  { cls := 7, slots := #[.int 115], vm := .none },
  { cls := 7, slots := #[.int 116], vm := .none },
  { cls := 7, slots := #[.int 117], vm := .none },
  { cls := 7, slots := #[.int 118], vm := .none },
  { cls := 7, slots := #[.int 119], vm := .none },
  { cls := 7, slots := #[.int 120], vm := .none },
  { cls := 7, slots := #[.int 121], vm := .none },
  { cls := 7, slots := #[.int 122], vm := .none },
  { cls := 7, slots := #[.int 123], vm := .none },
  { cls := 7, slots := #[.int 124], vm := .none },
  { cls := 7, slots := #[.int 125], vm := .none },
  { cls := 7, slots := #[.int 126], vm := .none },
  { cls := 7, slots := #[.int 127], vm := .none }]
def classes : Array Class := #[k0, k1, k2, k3, k4, k5, k6, k7, k8, k9, k10, k11, k12, k13, k14, k15, k16, k17]
def interned : List (Array UInt16 × Addr) := []
def slotsUsed : Nat := 517
def theMethod : MethodId := ⟨1, 1⟩
def args0 : Array Value := #[.int 5, .int 300, .int 7]
def aboutOver (below : List Frame) : State where
  vm := { classes := classes, interned := interned.toArray }
  heap := heap
  slotsUsed := slotsUsed
  threads := #[{ frames := .invoking theMethod args0 :: below }]
def below0 : List Frame := [.native { method := ⟨0, 0⟩, args := #[] }]
def about1 : State := aboutOver below0
def p0 : Program := .bare "" "" ""
def e0 : Env := launch0.env 0 0 0
theorem w_frames : about1.frames = Frame.invoking theMethod args0 :: below0 := rfl
set_option maxRecDepth 65536 in
theorem w_args : argsFit about1.vm theMethod args0 = true := by decide +kernel
set_option maxRecDepth 65536 in
theorem w_heap : heapFits about1 = true := by decide +kernel
set_option maxRecDepth 65536 in
theorem w_runnable : about1.curStatus? = some .runnable := by decide +kernel
set_option maxRecDepth 65536 in
theorem w_alone : about1.alone = true := by decide +kernel
set_option maxRecDepth 65536 in
theorem w_named : about1.methodNamed? x = some theMethod := by decide +kernel
set_option maxRecDepth 65536 in
theorem w_hears : about1.hears theMethod below0 = true := by decide +kernel
set_option maxRecDepth 65536 in
theorem w_ripe : about1.ripe theMethod args0 below0 = true := by decide +kernel
theorem w_running : about1.status = .running := rfl
set_option maxRecDepth 65536 in
theorem w_room : about1.hasRoom e0.platform room_1 = true :=
  launch0.hasRoom_least _ room_1 (by decide +kernel) (by decide +kernel) (by decide +kernel) (by decide +kernel) (by decide +kernel) (by decide +kernel)
theorem allAtoms_all (ts : List Jvm.Cond) (a : Array Jvm.Value) (st : Jvm.State) : (allAtoms ts).before a st = ts.all (fun c => c.before a st) := by
  induction ts with
  | nil => rfl
  | cons c t ih =>
    show (Jvm.Cond.and c (allAtoms t)).before a st = _
    rw [Jvm.Cond.before_and, ih, List.all_cons]
def words1 : List Jvm.Cond := Jvm.Cond.code x code maxLocals ret :: tables_1
/-- a 'code' word, met by the world's own term for the bytes: nothing is compared byte by byte -/
theorem code_word {y : MethodName} {bytes : ByteArray} {mx : Nat} {rt : Option FieldType} {a : Array Value} {s : State} {m : MethodId} {meth : Method} {c : Code} (h1 : s.methodNamed? y = some m) (h2 : s.vm.method? m = some meth) (h3 : meth.code = some c) (h4 : c.code = bytes)
    (h5 : (c.maxLocals == mx && c.exceptionTable.isEmpty && decide (c.maxStack ≤ mostOperands) && decide (meth.sig.returnType = rt) && !meth.locks && decide (parseMethodDescriptor y.desc = some meth.sig)) = true) : (Jvm.Cond.code y bytes mx rt).before a s = true := by
  simp only [Bool.and_eq_true, beq_iff_eq, Bool.not_eq_true', decide_eq_true_eq] at h5
  obtain ⟨⟨⟨⟨⟨g1, g2⟩, g3⟩, g4⟩, g5⟩, g6⟩ := h5
  simp [Cond.before, Cond.holds, Cond.value, h1, h2, h3, h4, g1, g2, g3, g4, g5, g6]
def isCode : Jvm.Cond → Bool
  | .code _ _ _ _ => true
  | _ => false
theorem all_split {L : List Jvm.Cond} {P : Jvm.Cond → Bool} (h1 : L.all (fun c => isCode c || P c) = true) (h2 : ∀ c ∈ L.filter isCode, P c = true) : L.all P = true := by
  refine List.all_eq_true.mpr fun c hc => ?_
  have h := List.all_eq_true.mp h1 c hc
  rcases Bool.eq_false_or_eq_true (isCode c) with hi | hi
  · exact h2 c (List.mem_filter.mpr ⟨hc, hi⟩)
  · simpa [hi] using h
set_option maxRecDepth 65536 in
theorem w_c0 : (Jvm.Cond.code x code maxLocals ret).before args0 about1 = true := code_word (m := ⟨1, 1⟩) (meth := k1m1) (c := k1c1) (by decide +kernel) rfl rfl rfl (by decide +kernel)
set_option maxRecDepth 65536 in
theorem w_c1 : (Jvm.Cond.code ({ cls := "java/lang/Integer", name := "valueOf", desc := "(I)Ljava/lang/Integer;" } : Jvm.MethodName) jdk_33_method_22_code (1 : Nat) (Option.some (Jvm.ClassFile.FieldType.object "java/lang/Integer"))).before args0 about1 = true := code_word (m := ⟨7, 0⟩) (meth := k7m0) (c := k7c0) (by decide +kernel) rfl rfl rfl (by decide +kernel)
set_option maxRecDepth 65536 in
theorem w_c2 : (Jvm.Cond.code ({ cls := "com/example/pagemason/pagemason/core/Spares", name := "<init>", desc := "(I)V" } : Jvm.MethodName) prog_71_method_1_code (2 : Nat) (Option.none : Option Jvm.ClassFile.FieldType)).before args0 about1 = true := code_word (m := ⟨9, 0⟩) (meth := k9m0) (c := k9c0) (by decide +kernel) rfl rfl rfl (by decide +kernel)
set_option maxRecDepth 65536 in
theorem w_c3 : (Jvm.Cond.code ({ cls := "java/lang/Object", name := "<init>", desc := "()V" } : Jvm.MethodName) object_method_1_code (1 : Nat) (Option.none : Option Jvm.ClassFile.FieldType)).before args0 about1 = true := code_word (m := ⟨0, 0⟩) (meth := k0m0) (c := k0c0) (by decide +kernel) rfl rfl rfl (by decide +kernel)
set_option maxRecDepth 65536 in
theorem w_c4 : (Jvm.Cond.code ({ cls := "com/example/pagemason/pagemason/core/Spares", name := "keep", desc := "(Ljava/lang/Object;)V" } : Jvm.MethodName) prog_71_method_2_code (2 : Nat) (Option.none : Option Jvm.ClassFile.FieldType)).before args0 about1 = true := code_word (m := ⟨9, 1⟩) (meth := k9m1) (c := k9c1) (by decide +kernel) rfl rfl rfl (by decide +kernel)
set_option maxRecDepth 65536 in
theorem w_c5 : (Jvm.Cond.code ({ cls := "java/lang/Math", name := "min", desc := "(II)I" } : Jvm.MethodName) jdk_29_method_69_code (2 : Nat) (Option.some Jvm.ClassFile.FieldType.int)).before args0 about1 = true := code_word (m := ⟨10, 1⟩) (meth := k10m1) (c := k10c1) (by decide +kernel) rfl rfl rfl (by decide +kernel)
set_option maxRecDepth 65536 in
theorem w_c6 : (Jvm.Cond.code ({ cls := "com/example/pagemason/pagemason/core/Spares", name := "take", desc := "()Ljava/lang/Object;" } : Jvm.MethodName) prog_71_method_3_code (2 : Nat) (Option.some (Jvm.ClassFile.FieldType.object "java/lang/Object"))).before args0 about1 = true := code_word (m := ⟨9, 2⟩) (meth := k9m2) (c := k9c2) (by decide +kernel) rfl rfl rfl (by decide +kernel)
set_option maxRecDepth 65536 in
theorem w_c7 : (Jvm.Cond.code ({ cls := "com/example/pagemason/pagemason/core/SparesKeepPinLaw", name := "same", desc := "(Ljava/lang/Integer;III)Z" } : Jvm.MethodName) method_3_code (5 : Nat) (Option.some Jvm.ClassFile.FieldType.boolean)).before args0 about1 = true := code_word (m := ⟨1, 2⟩) (meth := k1m2) (c := k1c2) (by decide +kernel) rfl rfl rfl (by decide +kernel)
set_option maxRecDepth 65536 in
theorem w_c8 : (Jvm.Cond.code ({ cls := "java/lang/Integer", name := "intValue", desc := "()I" } : Jvm.MethodName) jdk_33_method_27_code (1 : Nat) (Option.some Jvm.ClassFile.FieldType.int)).before args0 about1 = true := code_word (m := ⟨7, 2⟩) (meth := k7m2) (c := k7c2) (by decide +kernel) rfl rfl rfl (by decide +kernel)
set_option maxRecDepth 65536 in
theorem w_c9 : (Jvm.Cond.code ({ cls := "java/lang/Integer", name := "<init>", desc := "(I)V" } : Jvm.MethodName) jdk_33_method_23_code (2 : Nat) (Option.none : Option Jvm.ClassFile.FieldType)).before args0 about1 = true := code_word (m := ⟨7, 1⟩) (meth := k7m1) (c := k7c1) (by decide +kernel) rfl rfl rfl (by decide +kernel)
set_option maxRecDepth 65536 in
theorem w_c10 : (Jvm.Cond.code ({ cls := "java/lang/Number", name := "<init>", desc := "()V" } : Jvm.MethodName) jdk_18_method_1_code (1 : Nat) (Option.none : Option Jvm.ClassFile.FieldType)).before args0 about1 = true := code_word (m := ⟨3, 0⟩) (meth := k3m0) (c := k3c0) (by decide +kernel) rfl rfl rfl (by decide +kernel)
def codes1 : List Jvm.Cond := [Jvm.Cond.code x code maxLocals ret, Jvm.Cond.code ({ cls := "java/lang/Integer", name := "valueOf", desc := "(I)Ljava/lang/Integer;" } : Jvm.MethodName) jdk_33_method_22_code (1 : Nat) (Option.some (Jvm.ClassFile.FieldType.object "java/lang/Integer")), Jvm.Cond.code ({ cls := "com/example/pagemason/pagemason/core/Spares", name := "<init>", desc := "(I)V" } : Jvm.MethodName) prog_71_method_1_code (2 : Nat) (Option.none : Option Jvm.ClassFile.FieldType), Jvm.Cond.code ({ cls := "java/lang/Object", name := "<init>", desc := "()V" } : Jvm.MethodName) object_method_1_code (1 : Nat) (Option.none : Option Jvm.ClassFile.FieldType), Jvm.Cond.code ({ cls := "com/example/pagemason/pagemason/core/Spares", name := "keep", desc := "(Ljava/lang/Object;)V" } : Jvm.MethodName) prog_71_method_2_code (2 : Nat) (Option.none : Option Jvm.ClassFile.FieldType), Jvm.Cond.code ({ cls := "java/lang/Math", name := "min", desc := "(II)I" } : Jvm.MethodName) jdk_29_method_69_code (2 : Nat) (Option.some Jvm.ClassFile.FieldType.int), Jvm.Cond.code ({ cls := "com/example/pagemason/pagemason/core/Spares", name := "take", desc := "()Ljava/lang/Object;" } : Jvm.MethodName) prog_71_method_3_code (2 : Nat) (Option.some (Jvm.ClassFile.FieldType.object "java/lang/Object")), Jvm.Cond.code ({ cls := "com/example/pagemason/pagemason/core/SparesKeepPinLaw", name := "same", desc := "(Ljava/lang/Integer;III)Z" } : Jvm.MethodName) method_3_code (5 : Nat) (Option.some Jvm.ClassFile.FieldType.boolean), Jvm.Cond.code ({ cls := "java/lang/Integer", name := "intValue", desc := "()I" } : Jvm.MethodName) jdk_33_method_27_code (1 : Nat) (Option.some Jvm.ClassFile.FieldType.int), Jvm.Cond.code ({ cls := "java/lang/Integer", name := "<init>", desc := "(I)V" } : Jvm.MethodName) jdk_33_method_23_code (2 : Nat) (Option.none : Option Jvm.ClassFile.FieldType), Jvm.Cond.code ({ cls := "java/lang/Number", name := "<init>", desc := "()V" } : Jvm.MethodName) jdk_18_method_1_code (1 : Nat) (Option.none : Option Jvm.ClassFile.FieldType)]
set_option maxRecDepth 65536 in
theorem codes_eq : words1.filter isCode = codes1 := rfl
theorem w_codes : ∀ c ∈ words1.filter isCode, c.before args0 about1 = true := by
  rw [codes_eq]
  intro c hc
  simp only [codes1, List.mem_cons, List.not_mem_nil, or_false] at hc
  rcases hc with rfl | rfl | rfl | rfl | rfl | rfl | rfl | rfl | rfl | rfl | rfl
  · exact w_c0
  · exact w_c1
  · exact w_c2
  · exact w_c3
  · exact w_c4
  · exact w_c5
  · exact w_c6
  · exact w_c7
  · exact w_c8
  · exact w_c9
  · exact w_c10
set_option maxRecDepth 65536 in
theorem w_t1 : (words1.take 24).all (fun c => isCode c || c.before args0 about1) = true := by decide +kernel
set_option maxRecDepth 65536 in
theorem w_t2 : ((words1.drop 24).take 24).all (fun c => isCode c || c.before args0 about1) = true := by decide +kernel
set_option maxRecDepth 65536 in
theorem w_t3 : ((words1.drop 24).drop 24).all (fun c => isCode c || c.before args0 about1) = true := by decide +kernel
theorem w_tables : (allAtoms (Jvm.Cond.code x code maxLocals ret :: tables_1)).before args0 about1 = true := by
  rw [allAtoms_all]
  show words1.all (fun c => c.before args0 about1) = true
  refine all_split ?_ w_codes
  rw [← List.take_append_drop 24 words1, List.all_append, w_t1, ← List.take_append_drop 24 (words1.drop 24), List.all_append, w_t2, w_t3]
  rfl
set_option maxRecDepth 65536 in
theorem w_rest : rest_1_c.before args0 about1 = true := by decide +kernel
set_option maxRecDepth 65536 in
theorem w_case : (Jvm.Cond.and given_1 narrow_1).before args0 about1 = true := by decide +kernel
theorem w_applies : (headSpec (Jvm.Cond.code x code maxLocals ret :: tables_1) room_1).applies x e0.platform about1 = true :=
  (Spec.applies_iff w_frames).mpr ⟨w_running, w_runnable, w_alone, w_named, w_hears, w_ripe, w_room, w_tables⟩
theorem atStart : AtStart classFile x code maxLocals ret World_1 tables_1 room_1 Calls_1 rest_1 Pre_1 launch0 p0 e0 about1 theMethod args0 below0 :=
  ⟨lists_1, trivial, launch0.admits_env _ _ _, launch0.least_env, fairChoices_fair.cas, fairChoices_fair.clock, w_frames, w_args, w_heap, w_applies, trivial, w_rest, w_case⟩
end start1
theorem witness_1 : WitnessClaimed_1 := ⟨start1.p0, start1.e0, start1.about1, start1.theMethod, start1.args0, start1.below0, start1.atStart⟩
end Jvm.Pilot.@@N@@
